import JvmDerived
import JvmDerived.Pilot.@@N@@Statement
import JvmDerived.Pilot.@@N@@Code
set_option linter.unusedVariables false
set_option linter.unusedSimpArgs false
namespace Jvm.RoadKit
open Sem ClassFile Op Lib Jvm.Stand Jvm.Free Jvm.LawKit
section New
variable {p : Program} {l : Launch} {e : Env} {R : Room} {s : State} {m : MethodId} {args : Array Value} {below : List Frame} {meth : Method} {c : Code} {T : State} {locs : List Loc} {cells slots : Nat}
theorem retI (X : Stand p l e R s m args below meth c T locs cells slots) (hx : p.tables.exec = Jvm.exec) {pc : Nat} {Ls : Array Slot} {z : Int32} {rest : List Value} (hret : meth.sig.returnType = some .int) (hd : decode c.code pc = .ok (.ireturn, 1)) {fs : List Frame}
    (hl : ∀ (f : JFrame) (acts : List Action), f.method = m → f.locked = none → f.entered = [] → (doReturn e (T.setTop f) acts (some (.int z))).1 = T.setFrames fs) : Steps p.tables e below (T.setTop (mkF m pc Ls (.int z :: rest))) (T.setFrames fs) := by
  have hm' : T.vm.method? m = some meth := X.method'
  have hn : narrow .int (.int z) = .int z := rfl
  show Steps p.tables e below (T.setTop { method := m, pc := pc, locals := Ls, stack := _ :: rest, locked := none }) _
  jvm_step X.here [X.here.top, hx, hd, hm', hret, hn]
  first | (intro acts; rw [hl _ acts rfl rfl rfl]) | rw [hl _ _ rfl rfl rfl]
  exact Steps.refl _
theorem own_lremM {g : JFrame} {target : State} (X : Stand p l e R s m args below meth c T locs cells slots) (hx : p.tables.exec = Jvm.exec) (hg : g.method = m) {x y : Int64} {rest : List Value} (hd : decode c.code g.pc = .ok (.lrem, 1)) (hs : g.stack = .long y :: .long x :: rest) (hy : y ≠ 0)
    (hr : Steps p.tables e below (T.setTop { g with pc := g.pc + 1, stack := .long (x % y) :: rest }) target) : Steps p.tables e below (T.setTop g) target := by
  have q : x - x / y * y = x % y := lrem_mod x y
  exact XS.lrem X.here hx hg hd hs hy (by rw [q]; exact hr)
theorem own_getD_int (L : List Int32) (n : Nat) (d : Int32) : (L.map Value.int).getD n (.int d) = .int (L.getD n d) := by simp [List.getD_eq_getElem?_getD, List.getElem?_map]
theorem own_getD_long (L : List Int64) (n : Nat) (d : Int64) : (L.map Value.long).getD n (.long d) = .long (L.getD n d) := by simp [List.getD_eq_getElem?_getD, List.getElem?_map]
theorem own_lt_nat {j z : Int32} (h : ¬ j < 0) (q : j < z) : j.toNatClampNeg < z.toNatClampNeg := by
  rw [Int32.lt_iff_toInt_lt] at h q; have : (0 : Int32).toInt = 0 := rfl
  simp only [Int32.toNatClampNeg]; omega
theorem own_eq_int {t : Term} {v : Int32} {args : Array Value} {s : State} (h : (Cond.eq t (.int v)).value args s none s [] = some true) : t.eval args s none [] s = some (.int v) := by
  simp only [Cond.value, Term.eval] at h
  cases ht : t.eval args s none [] s with
  | none => simp [ht] at h
  | some x => cases x <;> simp [ht] at h ⊢; exact h
theorem own_eq_long {t : Term} {v : Int64} {args : Array Value} {s : State} (h : (Cond.eq t (.long v)).value args s none s [] = some true) : t.eval args s none [] s = some (.long v) := by
  simp only [Cond.value, Term.eval] at h
  cases ht : t.eval args s none [] s with
  | none => simp [ht] at h
  | some x => cases x <;> simp [ht] at h ⊢; exact h
theorem own_selpriv {s : State} {args : Array Value} {y : MethodName} {n : Nat} (wi : (Cond.instantiable y.cls n).before args s = true) (hpriv : s.PrivateAt y) (hinst : (Cond.instanceMethod y).before args s = true) (hy : y.cls ≠ "java/lang/invoke/MethodHandle" ∧ y.cls ≠ "java/lang/invoke/VarHandle") : (Cond.selects y.cls y y).before args s = true := by
  obtain ⟨c, k, h1, h2, -, h4, -⟩ := Cond.instantiable_spec wi
  exact Jvm.Stand.selects_self_of_private h1 h2 (Bool.or_eq_false_iff.mp h4).1 hpriv hinst hy
theorem own_len {t : Term} {x : Addr} {z : Int32} {cl : Cell} {args : Array Value} {s : State} (ht : t.eval args s none [] s = some (.ref x)) (h : (Term.length t).eval args s none [] s = some (.int z)) (ha : s.arrayAt? x = some cl) : cl.slots.size < 2 ^ 31 ∧ cl.slots.size.toInt32 = z := by
  by_cases q : cl.slots.size < 2 ^ 31
  · refine ⟨q, ?_⟩
    rw [len_f ht ha q] at h
    simpa using h
  · exfalso
    simp [Term.eval, ht, ha, q] at h
theorem own_narb (P : Prop) [Decidable P] : nar .boolean (if P then (1 : Int32) else (0 : Int32)) = if P then (1 : Int32) else (0 : Int32) := by by_cases h : P <;> simp only [h, if_true, if_false] <;> rfl
end New
end Jvm.RoadKit
namespace Jvm.Pilot.@@N@@
open Jvm Jvm.ClassFile Sem Op Lib Jvm.Free Jvm.Stand Jvm.LawKit Jvm.RoadKit Bundle Jvm.Pilot.@@N@@.Jvm.D
theorem own_lt_le {i a b : Int32} (h : i < a) (q : ¬ b < a) : i < b := by rw [Int32.lt_iff_toInt_lt] at *; omega
theorem own_zero {i a : Int32} (h : a.toInt - i.toInt ≤ ((0 : Nat) : Int)) : ¬ i < a := by rw [Int32.lt_iff_toInt_lt]; omega
theorem own_fuel (a b : Int32) : b.toInt - a.toInt ≤ ((b.toInt - a.toInt).toNat : Int) := by omega
theorem own_inc {i a : Int32} (h : ¬ i < 0) (q : i < a) : (i + (1 : Int32)).toInt = i.toInt + 1 := by
  rw [Int32.lt_iff_toInt_lt] at h q; have z : (0 : Int32).toInt = 0 := rfl; have z1 : (1 : Int32).toInt = 1 := rfl
  have a1 := c_iadd i 1; have r1 := rng32 (i + 1); have r2 := rng32 a; omega
theorem own_succ_nn {i a : Int32} (h : ¬ i < 0) (q : i < a) : ¬ (i + (1 : Int32)) < 0 := by
  have := own_inc h q; rw [Int32.lt_iff_toInt_lt] at *; have z : (0 : Int32).toInt = 0 := rfl; omega
theorem own_step {i a : Int32} {N : Nat} (h : ¬ i < 0) (q : i < a) (hm : a.toInt - i.toInt ≤ ((N + 1 : Nat) : Int)) : a.toInt - (i + (1 : Int32)).toInt ≤ (N : Int) := by
  have := own_inc h q; omega
theorem d2_0 : decode method_2_code 0 = .ok (.bipush 19, 2) := by decide +kernel
theorem d2_2 : decode method_2_code 2 = .ok (.newarray .long, 2) := by decide +kernel
theorem d2_4 : decode method_2_code 4 = .ok (.dup, 1) := by decide +kernel
theorem d2_5 : decode method_2_code 5 = .ok (.iconst 0, 1) := by decide +kernel
theorem d2_6 : decode method_2_code 6 = .ok (.lconst 1, 1) := by decide +kernel
theorem d2_7 : decode method_2_code 7 = .ok (.lastore, 1) := by decide +kernel
theorem d2_8 : decode method_2_code 8 = .ok (.dup, 1) := by decide +kernel
theorem d2_9 : decode method_2_code 9 = .ok (.iconst 1, 1) := by decide +kernel
theorem d2_10 : decode method_2_code 10 = .ok (.ldc2_w 7, 3) := by decide +kernel
theorem d2_13 : decode method_2_code 13 = .ok (.lastore, 1) := by decide +kernel
theorem d2_14 : decode method_2_code 14 = .ok (.dup, 1) := by decide +kernel
theorem d2_15 : decode method_2_code 15 = .ok (.iconst 2, 1) := by decide +kernel
theorem d2_16 : decode method_2_code 16 = .ok (.ldc2_w 9, 3) := by decide +kernel
theorem d2_19 : decode method_2_code 19 = .ok (.lastore, 1) := by decide +kernel
theorem d2_20 : decode method_2_code 20 = .ok (.dup, 1) := by decide +kernel
theorem d2_21 : decode method_2_code 21 = .ok (.iconst 3, 1) := by decide +kernel
theorem d2_22 : decode method_2_code 22 = .ok (.ldc2_w 11, 3) := by decide +kernel
theorem d2_25 : decode method_2_code 25 = .ok (.lastore, 1) := by decide +kernel
theorem d2_26 : decode method_2_code 26 = .ok (.dup, 1) := by decide +kernel
theorem d2_27 : decode method_2_code 27 = .ok (.iconst 4, 1) := by decide +kernel
theorem d2_28 : decode method_2_code 28 = .ok (.ldc2_w 13, 3) := by decide +kernel
theorem d2_31 : decode method_2_code 31 = .ok (.lastore, 1) := by decide +kernel
theorem d2_32 : decode method_2_code 32 = .ok (.dup, 1) := by decide +kernel
theorem d2_33 : decode method_2_code 33 = .ok (.iconst 5, 1) := by decide +kernel
theorem d2_34 : decode method_2_code 34 = .ok (.ldc2_w 15, 3) := by decide +kernel
theorem d2_37 : decode method_2_code 37 = .ok (.lastore, 1) := by decide +kernel
theorem d2_38 : decode method_2_code 38 = .ok (.dup, 1) := by decide +kernel
theorem d2_39 : decode method_2_code 39 = .ok (.bipush 6, 2) := by decide +kernel
theorem d2_41 : decode method_2_code 41 = .ok (.ldc2_w 17, 3) := by decide +kernel
theorem d2_44 : decode method_2_code 44 = .ok (.lastore, 1) := by decide +kernel
theorem d2_45 : decode method_2_code 45 = .ok (.dup, 1) := by decide +kernel
theorem d2_46 : decode method_2_code 46 = .ok (.bipush 7, 2) := by decide +kernel
theorem d2_48 : decode method_2_code 48 = .ok (.ldc2_w 19, 3) := by decide +kernel
theorem d2_51 : decode method_2_code 51 = .ok (.lastore, 1) := by decide +kernel
theorem d2_52 : decode method_2_code 52 = .ok (.dup, 1) := by decide +kernel
theorem d2_53 : decode method_2_code 53 = .ok (.bipush 8, 2) := by decide +kernel
theorem d2_55 : decode method_2_code 55 = .ok (.ldc2_w 21, 3) := by decide +kernel
theorem d2_58 : decode method_2_code 58 = .ok (.lastore, 1) := by decide +kernel
theorem d2_59 : decode method_2_code 59 = .ok (.dup, 1) := by decide +kernel
theorem d2_60 : decode method_2_code 60 = .ok (.bipush 9, 2) := by decide +kernel
theorem d2_62 : decode method_2_code 62 = .ok (.ldc2_w 23, 3) := by decide +kernel
theorem d2_65 : decode method_2_code 65 = .ok (.lastore, 1) := by decide +kernel
theorem d2_66 : decode method_2_code 66 = .ok (.dup, 1) := by decide +kernel
theorem d2_67 : decode method_2_code 67 = .ok (.bipush 10, 2) := by decide +kernel
theorem d2_69 : decode method_2_code 69 = .ok (.ldc2_w 25, 3) := by decide +kernel
theorem d2_72 : decode method_2_code 72 = .ok (.lastore, 1) := by decide +kernel
theorem d2_73 : decode method_2_code 73 = .ok (.dup, 1) := by decide +kernel
theorem d2_74 : decode method_2_code 74 = .ok (.bipush 11, 2) := by decide +kernel
theorem d2_76 : decode method_2_code 76 = .ok (.ldc2_w 27, 3) := by decide +kernel
theorem d2_79 : decode method_2_code 79 = .ok (.lastore, 1) := by decide +kernel
theorem d2_80 : decode method_2_code 80 = .ok (.dup, 1) := by decide +kernel
theorem d2_81 : decode method_2_code 81 = .ok (.bipush 12, 2) := by decide +kernel
theorem d2_83 : decode method_2_code 83 = .ok (.ldc2_w 29, 3) := by decide +kernel
theorem d2_86 : decode method_2_code 86 = .ok (.lastore, 1) := by decide +kernel
theorem d2_87 : decode method_2_code 87 = .ok (.dup, 1) := by decide +kernel
theorem d2_88 : decode method_2_code 88 = .ok (.bipush 13, 2) := by decide +kernel
theorem d2_90 : decode method_2_code 90 = .ok (.ldc2_w 31, 3) := by decide +kernel
theorem d2_93 : decode method_2_code 93 = .ok (.lastore, 1) := by decide +kernel
theorem d2_94 : decode method_2_code 94 = .ok (.dup, 1) := by decide +kernel
theorem d2_95 : decode method_2_code 95 = .ok (.bipush 14, 2) := by decide +kernel
theorem d2_97 : decode method_2_code 97 = .ok (.ldc2_w 33, 3) := by decide +kernel
theorem d2_100 : decode method_2_code 100 = .ok (.lastore, 1) := by decide +kernel
theorem d2_101 : decode method_2_code 101 = .ok (.dup, 1) := by decide +kernel
theorem d2_102 : decode method_2_code 102 = .ok (.bipush 15, 2) := by decide +kernel
theorem d2_104 : decode method_2_code 104 = .ok (.ldc2_w 35, 3) := by decide +kernel
theorem d2_107 : decode method_2_code 107 = .ok (.lastore, 1) := by decide +kernel
theorem d2_108 : decode method_2_code 108 = .ok (.dup, 1) := by decide +kernel
theorem d2_109 : decode method_2_code 109 = .ok (.bipush 16, 2) := by decide +kernel
theorem d2_111 : decode method_2_code 111 = .ok (.ldc2_w 37, 3) := by decide +kernel
theorem d2_114 : decode method_2_code 114 = .ok (.lastore, 1) := by decide +kernel
theorem d2_115 : decode method_2_code 115 = .ok (.dup, 1) := by decide +kernel
theorem d2_116 : decode method_2_code 116 = .ok (.bipush 17, 2) := by decide +kernel
theorem d2_118 : decode method_2_code 118 = .ok (.ldc2_w 39, 3) := by decide +kernel
theorem d2_121 : decode method_2_code 121 = .ok (.lastore, 1) := by decide +kernel
theorem d2_122 : decode method_2_code 122 = .ok (.dup, 1) := by decide +kernel
theorem d2_123 : decode method_2_code 123 = .ok (.bipush 18, 2) := by decide +kernel
theorem d2_125 : decode method_2_code 125 = .ok (.ldc2_w 41, 3) := by decide +kernel
theorem d2_128 : decode method_2_code 128 = .ok (.lastore, 1) := by decide +kernel
theorem d2_129 : decode method_2_code 129 = .ok (.astore_n 1, 1) := by decide +kernel
theorem d2_130 : decode method_2_code 130 = .ok (.aload_n 1, 1) := by decide +kernel
theorem d2_131 : decode method_2_code 131 = .ok (.iload_n 0, 1) := by decide +kernel
theorem d2_132 : decode method_2_code 132 = .ok (.laload, 1) := by decide +kernel
theorem d2_133 : decode method_2_code 133 = .ok (.lreturn, 1) := by decide +kernel
theorem pn_84 : plainName "com/example/gavelbook/gavelbook/DecimalsParsePinLaw" = true := by first | (simp [plainName, overriddenIn]; done) | decide +kernel
def v2_132_at (p0 : Int32) : Int64 := (([(1 : Int64), (10 : Int64), (100 : Int64), (1000 : Int64), (10000 : Int64), (100000 : Int64), (1000000 : Int64), (10000000 : Int64), (100000000 : Int64), (1000000000 : Int64), (10000000000 : Int64), (100000000000 : Int64), (1000000000000 : Int64), (10000000000000 : Int64), (100000000000000 : Int64), (1000000000000000 : Int64), (10000000000000000 : Int64), (100000000000000000 : Int64), (1000000000000000000 : Int64)] : List Int64).getD (p0).toNatClampNeg (0 : Int64))
theorem ef_rm2 (m : MethodId) (p0 : Int32) : entryFrame m #[(.int p0)] 2 = mkF m 0 #[.val (.int p0), .unset] [] := by first | (simp [entryFrame, mkF, argsToLocals, Value.category]; done) | rfl
def Q2 (Z : State) (p0 : Int32) (h0 : Heap) (n0 : Nat) (v : Option Value) (h : Heap) (L : List Loc) : Prop := v = some (.long (v2_132_at p0)) ∧ Fr n0 L ∧ Keep h0 h []
set_option maxRecDepth 65536 in
set_option maxHeartbeats 40000000 in
theorem rm2 (l : Launch) (Z : State) (a0 : Array Value) (hw : ∀ d ∈ tables_1, d.before a0 Z = true) (ws : List Jvm.Cond) (p0 : Int32) (h0 : Heap) (n0 : Nat) (Z0 : n0 ≤ h0.size) (hI : ¬ p0 < 0 ∧ p0 < (19 : Int32)) :
    MetFree l (⟨"com/example/gavelbook/gavelbook/DecimalsParsePinLaw", "pow10", "(I)J"⟩ : MethodName) (head1 (Jvm.Cond.code (⟨"com/example/gavelbook/gavelbook/DecimalsParsePinLaw", "pow10", "(I)J"⟩ : MethodName) method_2_code 2 (some .long) :: ws) ({ frames := 0, cells := 1, slots := 19, locals := 0 } : Room)) (fun a U => a = #[(.int p0)] ∧ Z.Warmed39 U.vm ∧ U.heap = h0) (fun _ _ _ _ _ => True) (fun _ U o U' => ∃ v L, o = .returned v ∧ Q2 Z p0 h0 n0 v U'.heap L ∧ FrameEnd U o U' L ({ frames := 0, cells := 1, slots := 19, locals := 0 } : Room).cells ({ frames := 0, cells := 1, slots := 19, locals := 0 } : Room).slots) := by
  refine MetFree.of_bodySF (plainFor_of_name pn_84) hisR ?_
  intro p e s m args below meth c s₁ Bd hml0 hP hK
  obtain ⟨rfl, hZ, hh⟩ := hP
  have hx := Bd.exec
  have hby := Bd.bytes
  have hml : c.maxLocals = 2 := hml0
  have hown : s.vm.findClass "com/example/gavelbook/gavelbook/DecimalsParsePinLaw" = some m.cls := findClass_of_methodNamed Bd.named
  have hnm := (name_of_methodNamed Bd.named Bd.method).1
  have X0 : Stand p l e ({ frames := 0, cells := 1, slots := 19, locals := 0 } : Room) s m #[(.int p0)] below meth c s₁ [] 0 0 := Stand.of_body Bd
  have e0 : s₁.heap = h0 := by rw [← hh, Bd.state]; rfl
  have N0 := Fr.nil n0
  have KC0 := Keep.refl h0 ([] : List Addr)
  have pre0 : ∀ t, Steps p.tables e below (s₁.setTop (mkF m 0 #[.val (.int p0), .unset] [])) t → Steps p.tables e below (s₁.setTop (entryFrame m #[(.int p0)] 2)) t := fun t k => castTop (ef_rm2 m p0) k
  have k1 := fun (t : State) (kk : Steps p.tables e below (s₁.setTop (mkF m 2 #[.val (.int p0), .unset] [(.int (19 : Int32))])) t) => pre0 t (by
    refine XS.bipush X0.here hx rfl (hb hby d2_0) ?_
    exact kk)
  obtain ⟨T2, h2, k2, X2, e2, E2, A2, st2⟩ := newP X0 hx hZ (hw _ (List.mem_of_getElem? (i := 10) rfl)) e0 (g := (mkF m 2 #[.val (.int p0), .unset] [(.int (19 : Int32))])) rfl (hb hby d2_2) rfl (by decide) (cap := 19) (by decide) (by decide) (by decide) (by decide)
  obtain ⟨b2, g2⟩ : ∃ z, z = h0.size := ⟨_, rfl⟩
  rw [← g2] at A2 st2
  have g_b2 : n0 ≤ b2 := Nat.le_trans (Nat.le_trans Z0 KC0.1) (Nat.le_of_eq g2.symm)
  have sz_b2 : h0.size ≤ b2 := Nat.le_trans KC0.1 (Nat.le_of_eq g2.symm)
  have K2 : Keep h0 h2 [] := KC0.ext E2
  have V2 : Arv Z h2 b2 k2 .long (19 : Int32) (List.map Value.long ([(0 : Int64), (0 : Int64), (0 : Int64), (0 : Int64), (0 : Int64), (0 : Int64), (0 : Int64), (0 : Int64), (0 : Int64), (0 : Int64), (0 : Int64), (0 : Int64), (0 : Int64), (0 : Int64), (0 : Int64), (0 : Int64), (0 : Int64), (0 : Int64), (0 : Int64)] : List Int64)) (.long (0 : Int64)) := (Arv.new A2 (by decide)).pad (pad_rep [] (.long (0 : Int64)) 19)
  have VL2 : ([(0 : Int64), (0 : Int64), (0 : Int64), (0 : Int64), (0 : Int64), (0 : Int64), (0 : Int64), (0 : Int64), (0 : Int64), (0 : Int64), (0 : Int64), (0 : Int64), (0 : Int64), (0 : Int64), (0 : Int64), (0 : Int64), (0 : Int64), (0 : Int64), (0 : Int64)] : List Int64).length = ((19 : Int32)).toNatClampNeg := rfl
  have k3 := fun (t : State) (kk : Steps p.tables e below (T2.setTop (mkF m 4 #[.val (.int p0), .unset] [(.ref b2)])) t) => k1 t (st2 _ kk)
  have k4 := fun (t : State) (kk : Steps p.tables e below (T2.setTop (mkF m 7 #[.val (.int p0), .unset] [(.long (1 : Int64)), (.int (0 : Int32)), (.ref b2), (.ref b2)])) t) => k3 t (by
    refine XS.dup X2.here hx rfl (hb hby d2_4) rfl rfl ?_
    refine XS.iconst X2.here hx rfl (hb hby d2_5) ?_
    refine XS.lconst X2.here hx rfl (hb hby d2_6) ?_
    exact kk)
  have hV5 := V2
  obtain ⟨cl5, Ar5, q5, S5, Nn5, H5, G5⟩ := hV5
  have hb6 : ¬ (0 : Int32) < 0 ∧ (0 : Int32) < (19 : Int32) := ⟨by decide, by decide⟩
  have hin6 : ¬ ((0 : Int32) < 0 ∨ cl5.slots.size ≤ ((0 : Int32)).toNatClampNeg) := inb_of S5 hb6
  obtain ⟨T6, h6, X6, e6, W6, st6⟩ := stJ X2 hx hZ e2 Ar5 (j := (0 : Int32)) hin6 (g := (mkF m 7 #[.val (.int p0), .unset] [(.long (1 : Int64)), (.int (0 : Int32)), (.ref b2), (.ref b2)])) rfl rfl (hb hby d2_7)
  have V6 : Arv Z h6 b2 k2 .long (19 : Int32) (List.map Value.long ([(1 : Int64), (0 : Int64), (0 : Int64), (0 : Int64), (0 : Int64), (0 : Int64), (0 : Int64), (0 : Int64), (0 : Int64), (0 : Int64), (0 : Int64), (0 : Int64), (0 : Int64), (0 : Int64), (0 : Int64), (0 : Int64), (0 : Int64), (0 : Int64), (0 : Int64)] : List Int64)) (.long (0 : Int64)) := Arv.set Ar5 q5 S5 Nn5 H5 G5 rfl W6 0 rfl (Nat.le_of_ble_eq_true rfl)
  have VL6 : ([(1 : Int64), (0 : Int64), (0 : Int64), (0 : Int64), (0 : Int64), (0 : Int64), (0 : Int64), (0 : Int64), (0 : Int64), (0 : Int64), (0 : Int64), (0 : Int64), (0 : Int64), (0 : Int64), (0 : Int64), (0 : Int64), (0 : Int64), (0 : Int64), (0 : Int64)] : List Int64).length = ((19 : Int32)).toNatClampNeg := rfl
  have K6 : Keep h0 h6 [] := K2.wr W6 (Or.inr sz_b2)
  have N6 := Fr.snoc X6 N0 g_b2
  have k7 := fun (t : State) (kk : Steps p.tables e below (T6.setTop (mkF m 8 #[.val (.int p0), .unset] [(.ref b2)])) t) => k4 t (st6 _ kk)
  have k8 := fun (t : State) (kk : Steps p.tables e below (T6.setTop (mkF m 13 #[.val (.int p0), .unset] [(.long (10 : Int64)), (.int (1 : Int32)), (.ref b2), (.ref b2)])) t) => k7 t (by
    show Steps p.tables e below (T6.setTop (mkF m 8 #[.val (.int p0), .unset] [(.ref b2)])) _
    refine XS.dup X6.here hx rfl (hb hby d2_8) rfl rfl ?_
    refine XS.iconst X6.here hx rfl (hb hby d2_9) ?_
    refine X6.ldc2Long hx hown (mvT hZ (hw _ (List.mem_of_getElem? (i := 11) rfl))) (g := (mkF m 10 #[.val (.int p0), .unset] [(.int (1 : Int32)), (.ref b2), (.ref b2)])) rfl (hb hby d2_10) _ ?_
    exact kk)
  have hV9 := V6
  obtain ⟨cl9, Ar9, q9, S9, Nn9, H9, G9⟩ := hV9
  have hb10 : ¬ (1 : Int32) < 0 ∧ (1 : Int32) < (19 : Int32) := ⟨by decide, by decide⟩
  have hin10 : ¬ ((1 : Int32) < 0 ∨ cl9.slots.size ≤ ((1 : Int32)).toNatClampNeg) := inb_of S9 hb10
  obtain ⟨T10, h10, X10, e10, W10, st10⟩ := stJ X6 hx hZ e6 Ar9 (j := (1 : Int32)) hin10 (g := (mkF m 13 #[.val (.int p0), .unset] [(.long (10 : Int64)), (.int (1 : Int32)), (.ref b2), (.ref b2)])) rfl rfl (hb hby d2_13)
  have V10 : Arv Z h10 b2 k2 .long (19 : Int32) (List.map Value.long ([(1 : Int64), (10 : Int64), (0 : Int64), (0 : Int64), (0 : Int64), (0 : Int64), (0 : Int64), (0 : Int64), (0 : Int64), (0 : Int64), (0 : Int64), (0 : Int64), (0 : Int64), (0 : Int64), (0 : Int64), (0 : Int64), (0 : Int64), (0 : Int64), (0 : Int64)] : List Int64)) (.long (0 : Int64)) := Arv.set Ar9 q9 S9 Nn9 H9 G9 rfl W10 1 rfl (Nat.le_of_ble_eq_true rfl)
  have VL10 : ([(1 : Int64), (10 : Int64), (0 : Int64), (0 : Int64), (0 : Int64), (0 : Int64), (0 : Int64), (0 : Int64), (0 : Int64), (0 : Int64), (0 : Int64), (0 : Int64), (0 : Int64), (0 : Int64), (0 : Int64), (0 : Int64), (0 : Int64), (0 : Int64), (0 : Int64)] : List Int64).length = ((19 : Int32)).toNatClampNeg := rfl
  have K10 : Keep h0 h10 [] := K6.wr W10 (Or.inr sz_b2)
  have N10 := Fr.snoc X10 N6 g_b2
  have k11 := fun (t : State) (kk : Steps p.tables e below (T10.setTop (mkF m 14 #[.val (.int p0), .unset] [(.ref b2)])) t) => k8 t (st10 _ kk)
  have k12 := fun (t : State) (kk : Steps p.tables e below (T10.setTop (mkF m 19 #[.val (.int p0), .unset] [(.long (100 : Int64)), (.int (2 : Int32)), (.ref b2), (.ref b2)])) t) => k11 t (by
    refine XS.dup X10.here hx rfl (hb hby d2_14) rfl rfl ?_
    refine XS.iconst X10.here hx rfl (hb hby d2_15) ?_
    refine X10.ldc2Long hx hown (mvT hZ (hw _ (List.mem_of_getElem? (i := 12) rfl))) (g := (mkF m 16 #[.val (.int p0), .unset] [(.int (2 : Int32)), (.ref b2), (.ref b2)])) rfl (hb hby d2_16) _ ?_
    exact kk)
  have hV13 := V10
  obtain ⟨cl13, Ar13, q13, S13, Nn13, H13, G13⟩ := hV13
  have hb14 : ¬ (2 : Int32) < 0 ∧ (2 : Int32) < (19 : Int32) := ⟨by decide, by decide⟩
  have hin14 : ¬ ((2 : Int32) < 0 ∨ cl13.slots.size ≤ ((2 : Int32)).toNatClampNeg) := inb_of S13 hb14
  obtain ⟨T14, h14, X14, e14, W14, st14⟩ := stJ X10 hx hZ e10 Ar13 (j := (2 : Int32)) hin14 (g := (mkF m 19 #[.val (.int p0), .unset] [(.long (100 : Int64)), (.int (2 : Int32)), (.ref b2), (.ref b2)])) rfl rfl (hb hby d2_19)
  have V14 : Arv Z h14 b2 k2 .long (19 : Int32) (List.map Value.long ([(1 : Int64), (10 : Int64), (100 : Int64), (0 : Int64), (0 : Int64), (0 : Int64), (0 : Int64), (0 : Int64), (0 : Int64), (0 : Int64), (0 : Int64), (0 : Int64), (0 : Int64), (0 : Int64), (0 : Int64), (0 : Int64), (0 : Int64), (0 : Int64), (0 : Int64)] : List Int64)) (.long (0 : Int64)) := Arv.set Ar13 q13 S13 Nn13 H13 G13 rfl W14 2 rfl (Nat.le_of_ble_eq_true rfl)
  have VL14 : ([(1 : Int64), (10 : Int64), (100 : Int64), (0 : Int64), (0 : Int64), (0 : Int64), (0 : Int64), (0 : Int64), (0 : Int64), (0 : Int64), (0 : Int64), (0 : Int64), (0 : Int64), (0 : Int64), (0 : Int64), (0 : Int64), (0 : Int64), (0 : Int64), (0 : Int64)] : List Int64).length = ((19 : Int32)).toNatClampNeg := rfl
  have K14 : Keep h0 h14 [] := K10.wr W14 (Or.inr sz_b2)
  have N14 := Fr.snoc X14 N10 g_b2
  have k15 := fun (t : State) (kk : Steps p.tables e below (T14.setTop (mkF m 20 #[.val (.int p0), .unset] [(.ref b2)])) t) => k12 t (st14 _ kk)
  have k16 := fun (t : State) (kk : Steps p.tables e below (T14.setTop (mkF m 25 #[.val (.int p0), .unset] [(.long (1000 : Int64)), (.int (3 : Int32)), (.ref b2), (.ref b2)])) t) => k15 t (by
    show Steps p.tables e below (T14.setTop (mkF m 20 #[.val (.int p0), .unset] [(.ref b2)])) _
    refine XS.dup X14.here hx rfl (hb hby d2_20) rfl rfl ?_
    refine XS.iconst X14.here hx rfl (hb hby d2_21) ?_
    refine X14.ldc2Long hx hown (mvT hZ (hw _ (List.mem_of_getElem? (i := 13) rfl))) (g := (mkF m 22 #[.val (.int p0), .unset] [(.int (3 : Int32)), (.ref b2), (.ref b2)])) rfl (hb hby d2_22) _ ?_
    exact kk)
  have hV17 := V14
  obtain ⟨cl17, Ar17, q17, S17, Nn17, H17, G17⟩ := hV17
  have hb18 : ¬ (3 : Int32) < 0 ∧ (3 : Int32) < (19 : Int32) := ⟨by decide, by decide⟩
  have hin18 : ¬ ((3 : Int32) < 0 ∨ cl17.slots.size ≤ ((3 : Int32)).toNatClampNeg) := inb_of S17 hb18
  obtain ⟨T18, h18, X18, e18, W18, st18⟩ := stJ X14 hx hZ e14 Ar17 (j := (3 : Int32)) hin18 (g := (mkF m 25 #[.val (.int p0), .unset] [(.long (1000 : Int64)), (.int (3 : Int32)), (.ref b2), (.ref b2)])) rfl rfl (hb hby d2_25)
  have V18 : Arv Z h18 b2 k2 .long (19 : Int32) (List.map Value.long ([(1 : Int64), (10 : Int64), (100 : Int64), (1000 : Int64), (0 : Int64), (0 : Int64), (0 : Int64), (0 : Int64), (0 : Int64), (0 : Int64), (0 : Int64), (0 : Int64), (0 : Int64), (0 : Int64), (0 : Int64), (0 : Int64), (0 : Int64), (0 : Int64), (0 : Int64)] : List Int64)) (.long (0 : Int64)) := Arv.set Ar17 q17 S17 Nn17 H17 G17 rfl W18 3 rfl (Nat.le_of_ble_eq_true rfl)
  have VL18 : ([(1 : Int64), (10 : Int64), (100 : Int64), (1000 : Int64), (0 : Int64), (0 : Int64), (0 : Int64), (0 : Int64), (0 : Int64), (0 : Int64), (0 : Int64), (0 : Int64), (0 : Int64), (0 : Int64), (0 : Int64), (0 : Int64), (0 : Int64), (0 : Int64), (0 : Int64)] : List Int64).length = ((19 : Int32)).toNatClampNeg := rfl
  have K18 : Keep h0 h18 [] := K14.wr W18 (Or.inr sz_b2)
  have N18 := Fr.snoc X18 N14 g_b2
  have k19 := fun (t : State) (kk : Steps p.tables e below (T18.setTop (mkF m 26 #[.val (.int p0), .unset] [(.ref b2)])) t) => k16 t (st18 _ kk)
  have k20 := fun (t : State) (kk : Steps p.tables e below (T18.setTop (mkF m 31 #[.val (.int p0), .unset] [(.long (10000 : Int64)), (.int (4 : Int32)), (.ref b2), (.ref b2)])) t) => k19 t (by
    refine XS.dup X18.here hx rfl (hb hby d2_26) rfl rfl ?_
    refine XS.iconst X18.here hx rfl (hb hby d2_27) ?_
    refine X18.ldc2Long hx hown (mvT hZ (hw _ (List.mem_of_getElem? (i := 14) rfl))) (g := (mkF m 28 #[.val (.int p0), .unset] [(.int (4 : Int32)), (.ref b2), (.ref b2)])) rfl (hb hby d2_28) _ ?_
    exact kk)
  have hV21 := V18
  obtain ⟨cl21, Ar21, q21, S21, Nn21, H21, G21⟩ := hV21
  have hb22 : ¬ (4 : Int32) < 0 ∧ (4 : Int32) < (19 : Int32) := ⟨by decide, by decide⟩
  have hin22 : ¬ ((4 : Int32) < 0 ∨ cl21.slots.size ≤ ((4 : Int32)).toNatClampNeg) := inb_of S21 hb22
  obtain ⟨T22, h22, X22, e22, W22, st22⟩ := stJ X18 hx hZ e18 Ar21 (j := (4 : Int32)) hin22 (g := (mkF m 31 #[.val (.int p0), .unset] [(.long (10000 : Int64)), (.int (4 : Int32)), (.ref b2), (.ref b2)])) rfl rfl (hb hby d2_31)
  have V22 : Arv Z h22 b2 k2 .long (19 : Int32) (List.map Value.long ([(1 : Int64), (10 : Int64), (100 : Int64), (1000 : Int64), (10000 : Int64), (0 : Int64), (0 : Int64), (0 : Int64), (0 : Int64), (0 : Int64), (0 : Int64), (0 : Int64), (0 : Int64), (0 : Int64), (0 : Int64), (0 : Int64), (0 : Int64), (0 : Int64), (0 : Int64)] : List Int64)) (.long (0 : Int64)) := Arv.set Ar21 q21 S21 Nn21 H21 G21 rfl W22 4 rfl (Nat.le_of_ble_eq_true rfl)
  have VL22 : ([(1 : Int64), (10 : Int64), (100 : Int64), (1000 : Int64), (10000 : Int64), (0 : Int64), (0 : Int64), (0 : Int64), (0 : Int64), (0 : Int64), (0 : Int64), (0 : Int64), (0 : Int64), (0 : Int64), (0 : Int64), (0 : Int64), (0 : Int64), (0 : Int64), (0 : Int64)] : List Int64).length = ((19 : Int32)).toNatClampNeg := rfl
  have K22 : Keep h0 h22 [] := K18.wr W22 (Or.inr sz_b2)
  have N22 := Fr.snoc X22 N18 g_b2
  have k23 := fun (t : State) (kk : Steps p.tables e below (T22.setTop (mkF m 32 #[.val (.int p0), .unset] [(.ref b2)])) t) => k20 t (st22 _ kk)
  have k24 := fun (t : State) (kk : Steps p.tables e below (T22.setTop (mkF m 37 #[.val (.int p0), .unset] [(.long (100000 : Int64)), (.int (5 : Int32)), (.ref b2), (.ref b2)])) t) => k23 t (by
    show Steps p.tables e below (T22.setTop (mkF m 32 #[.val (.int p0), .unset] [(.ref b2)])) _
    refine XS.dup X22.here hx rfl (hb hby d2_32) rfl rfl ?_
    refine XS.iconst X22.here hx rfl (hb hby d2_33) ?_
    refine X22.ldc2Long hx hown (mvT hZ (hw _ (List.mem_of_getElem? (i := 15) rfl))) (g := (mkF m 34 #[.val (.int p0), .unset] [(.int (5 : Int32)), (.ref b2), (.ref b2)])) rfl (hb hby d2_34) _ ?_
    exact kk)
  have hV25 := V22
  obtain ⟨cl25, Ar25, q25, S25, Nn25, H25, G25⟩ := hV25
  have hb26 : ¬ (5 : Int32) < 0 ∧ (5 : Int32) < (19 : Int32) := ⟨by decide, by decide⟩
  have hin26 : ¬ ((5 : Int32) < 0 ∨ cl25.slots.size ≤ ((5 : Int32)).toNatClampNeg) := inb_of S25 hb26
  obtain ⟨T26, h26, X26, e26, W26, st26⟩ := stJ X22 hx hZ e22 Ar25 (j := (5 : Int32)) hin26 (g := (mkF m 37 #[.val (.int p0), .unset] [(.long (100000 : Int64)), (.int (5 : Int32)), (.ref b2), (.ref b2)])) rfl rfl (hb hby d2_37)
  have V26 : Arv Z h26 b2 k2 .long (19 : Int32) (List.map Value.long ([(1 : Int64), (10 : Int64), (100 : Int64), (1000 : Int64), (10000 : Int64), (100000 : Int64), (0 : Int64), (0 : Int64), (0 : Int64), (0 : Int64), (0 : Int64), (0 : Int64), (0 : Int64), (0 : Int64), (0 : Int64), (0 : Int64), (0 : Int64), (0 : Int64), (0 : Int64)] : List Int64)) (.long (0 : Int64)) := Arv.set Ar25 q25 S25 Nn25 H25 G25 rfl W26 5 rfl (Nat.le_of_ble_eq_true rfl)
  have VL26 : ([(1 : Int64), (10 : Int64), (100 : Int64), (1000 : Int64), (10000 : Int64), (100000 : Int64), (0 : Int64), (0 : Int64), (0 : Int64), (0 : Int64), (0 : Int64), (0 : Int64), (0 : Int64), (0 : Int64), (0 : Int64), (0 : Int64), (0 : Int64), (0 : Int64), (0 : Int64)] : List Int64).length = ((19 : Int32)).toNatClampNeg := rfl
  have K26 : Keep h0 h26 [] := K22.wr W26 (Or.inr sz_b2)
  have N26 := Fr.snoc X26 N22 g_b2
  have k27 := fun (t : State) (kk : Steps p.tables e below (T26.setTop (mkF m 38 #[.val (.int p0), .unset] [(.ref b2)])) t) => k24 t (st26 _ kk)
  have k28 := fun (t : State) (kk : Steps p.tables e below (T26.setTop (mkF m 44 #[.val (.int p0), .unset] [(.long (1000000 : Int64)), (.int (6 : Int32)), (.ref b2), (.ref b2)])) t) => k27 t (by
    refine XS.dup X26.here hx rfl (hb hby d2_38) rfl rfl ?_
    refine XS.bipush X26.here hx rfl (hb hby d2_39) ?_
    refine X26.ldc2Long hx hown (mvT hZ (hw _ (List.mem_of_getElem? (i := 16) rfl))) (g := (mkF m 41 #[.val (.int p0), .unset] [(.int (6 : Int32)), (.ref b2), (.ref b2)])) rfl (hb hby d2_41) _ ?_
    exact kk)
  have hV29 := V26
  obtain ⟨cl29, Ar29, q29, S29, Nn29, H29, G29⟩ := hV29
  have hb30 : ¬ (6 : Int32) < 0 ∧ (6 : Int32) < (19 : Int32) := ⟨by decide, by decide⟩
  have hin30 : ¬ ((6 : Int32) < 0 ∨ cl29.slots.size ≤ ((6 : Int32)).toNatClampNeg) := inb_of S29 hb30
  obtain ⟨T30, h30, X30, e30, W30, st30⟩ := stJ X26 hx hZ e26 Ar29 (j := (6 : Int32)) hin30 (g := (mkF m 44 #[.val (.int p0), .unset] [(.long (1000000 : Int64)), (.int (6 : Int32)), (.ref b2), (.ref b2)])) rfl rfl (hb hby d2_44)
  have V30 : Arv Z h30 b2 k2 .long (19 : Int32) (List.map Value.long ([(1 : Int64), (10 : Int64), (100 : Int64), (1000 : Int64), (10000 : Int64), (100000 : Int64), (1000000 : Int64), (0 : Int64), (0 : Int64), (0 : Int64), (0 : Int64), (0 : Int64), (0 : Int64), (0 : Int64), (0 : Int64), (0 : Int64), (0 : Int64), (0 : Int64), (0 : Int64)] : List Int64)) (.long (0 : Int64)) := Arv.set Ar29 q29 S29 Nn29 H29 G29 rfl W30 6 rfl (Nat.le_of_ble_eq_true rfl)
  have VL30 : ([(1 : Int64), (10 : Int64), (100 : Int64), (1000 : Int64), (10000 : Int64), (100000 : Int64), (1000000 : Int64), (0 : Int64), (0 : Int64), (0 : Int64), (0 : Int64), (0 : Int64), (0 : Int64), (0 : Int64), (0 : Int64), (0 : Int64), (0 : Int64), (0 : Int64), (0 : Int64)] : List Int64).length = ((19 : Int32)).toNatClampNeg := rfl
  have K30 : Keep h0 h30 [] := K26.wr W30 (Or.inr sz_b2)
  have N30 := Fr.snoc X30 N26 g_b2
  have k31 := fun (t : State) (kk : Steps p.tables e below (T30.setTop (mkF m 45 #[.val (.int p0), .unset] [(.ref b2)])) t) => k28 t (st30 _ kk)
  have k32 := fun (t : State) (kk : Steps p.tables e below (T30.setTop (mkF m 51 #[.val (.int p0), .unset] [(.long (10000000 : Int64)), (.int (7 : Int32)), (.ref b2), (.ref b2)])) t) => k31 t (by
    show Steps p.tables e below (T30.setTop (mkF m 45 #[.val (.int p0), .unset] [(.ref b2)])) _
    refine XS.dup X30.here hx rfl (hb hby d2_45) rfl rfl ?_
    refine XS.bipush X30.here hx rfl (hb hby d2_46) ?_
    refine X30.ldc2Long hx hown (mvT hZ (hw _ (List.mem_of_getElem? (i := 17) rfl))) (g := (mkF m 48 #[.val (.int p0), .unset] [(.int (7 : Int32)), (.ref b2), (.ref b2)])) rfl (hb hby d2_48) _ ?_
    exact kk)
  have hV33 := V30
  obtain ⟨cl33, Ar33, q33, S33, Nn33, H33, G33⟩ := hV33
  have hb34 : ¬ (7 : Int32) < 0 ∧ (7 : Int32) < (19 : Int32) := ⟨by decide, by decide⟩
  have hin34 : ¬ ((7 : Int32) < 0 ∨ cl33.slots.size ≤ ((7 : Int32)).toNatClampNeg) := inb_of S33 hb34
  obtain ⟨T34, h34, X34, e34, W34, st34⟩ := stJ X30 hx hZ e30 Ar33 (j := (7 : Int32)) hin34 (g := (mkF m 51 #[.val (.int p0), .unset] [(.long (10000000 : Int64)), (.int (7 : Int32)), (.ref b2), (.ref b2)])) rfl rfl (hb hby d2_51)
  have V34 : Arv Z h34 b2 k2 .long (19 : Int32) (List.map Value.long ([(1 : Int64), (10 : Int64), (100 : Int64), (1000 : Int64), (10000 : Int64), (100000 : Int64), (1000000 : Int64), (10000000 : Int64), (0 : Int64), (0 : Int64), (0 : Int64), (0 : Int64), (0 : Int64), (0 : Int64), (0 : Int64), (0 : Int64), (0 : Int64), (0 : Int64), (0 : Int64)] : List Int64)) (.long (0 : Int64)) := Arv.set Ar33 q33 S33 Nn33 H33 G33 rfl W34 7 rfl (Nat.le_of_ble_eq_true rfl)
  have VL34 : ([(1 : Int64), (10 : Int64), (100 : Int64), (1000 : Int64), (10000 : Int64), (100000 : Int64), (1000000 : Int64), (10000000 : Int64), (0 : Int64), (0 : Int64), (0 : Int64), (0 : Int64), (0 : Int64), (0 : Int64), (0 : Int64), (0 : Int64), (0 : Int64), (0 : Int64), (0 : Int64)] : List Int64).length = ((19 : Int32)).toNatClampNeg := rfl
  have K34 : Keep h0 h34 [] := K30.wr W34 (Or.inr sz_b2)
  have N34 := Fr.snoc X34 N30 g_b2
  have k35 := fun (t : State) (kk : Steps p.tables e below (T34.setTop (mkF m 52 #[.val (.int p0), .unset] [(.ref b2)])) t) => k32 t (st34 _ kk)
  have k36 := fun (t : State) (kk : Steps p.tables e below (T34.setTop (mkF m 58 #[.val (.int p0), .unset] [(.long (100000000 : Int64)), (.int (8 : Int32)), (.ref b2), (.ref b2)])) t) => k35 t (by
    refine XS.dup X34.here hx rfl (hb hby d2_52) rfl rfl ?_
    refine XS.bipush X34.here hx rfl (hb hby d2_53) ?_
    refine X34.ldc2Long hx hown (mvT hZ (hw _ (List.mem_of_getElem? (i := 18) rfl))) (g := (mkF m 55 #[.val (.int p0), .unset] [(.int (8 : Int32)), (.ref b2), (.ref b2)])) rfl (hb hby d2_55) _ ?_
    exact kk)
  have hV37 := V34
  obtain ⟨cl37, Ar37, q37, S37, Nn37, H37, G37⟩ := hV37
  have hb38 : ¬ (8 : Int32) < 0 ∧ (8 : Int32) < (19 : Int32) := ⟨by decide, by decide⟩
  have hin38 : ¬ ((8 : Int32) < 0 ∨ cl37.slots.size ≤ ((8 : Int32)).toNatClampNeg) := inb_of S37 hb38
  obtain ⟨T38, h38, X38, e38, W38, st38⟩ := stJ X34 hx hZ e34 Ar37 (j := (8 : Int32)) hin38 (g := (mkF m 58 #[.val (.int p0), .unset] [(.long (100000000 : Int64)), (.int (8 : Int32)), (.ref b2), (.ref b2)])) rfl rfl (hb hby d2_58)
  have V38 : Arv Z h38 b2 k2 .long (19 : Int32) (List.map Value.long ([(1 : Int64), (10 : Int64), (100 : Int64), (1000 : Int64), (10000 : Int64), (100000 : Int64), (1000000 : Int64), (10000000 : Int64), (100000000 : Int64), (0 : Int64), (0 : Int64), (0 : Int64), (0 : Int64), (0 : Int64), (0 : Int64), (0 : Int64), (0 : Int64), (0 : Int64), (0 : Int64)] : List Int64)) (.long (0 : Int64)) := Arv.set Ar37 q37 S37 Nn37 H37 G37 rfl W38 8 rfl (Nat.le_of_ble_eq_true rfl)
  have VL38 : ([(1 : Int64), (10 : Int64), (100 : Int64), (1000 : Int64), (10000 : Int64), (100000 : Int64), (1000000 : Int64), (10000000 : Int64), (100000000 : Int64), (0 : Int64), (0 : Int64), (0 : Int64), (0 : Int64), (0 : Int64), (0 : Int64), (0 : Int64), (0 : Int64), (0 : Int64), (0 : Int64)] : List Int64).length = ((19 : Int32)).toNatClampNeg := rfl
  have K38 : Keep h0 h38 [] := K34.wr W38 (Or.inr sz_b2)
  have N38 := Fr.snoc X38 N34 g_b2
  have k39 := fun (t : State) (kk : Steps p.tables e below (T38.setTop (mkF m 59 #[.val (.int p0), .unset] [(.ref b2)])) t) => k36 t (st38 _ kk)
  have k40 := fun (t : State) (kk : Steps p.tables e below (T38.setTop (mkF m 65 #[.val (.int p0), .unset] [(.long (1000000000 : Int64)), (.int (9 : Int32)), (.ref b2), (.ref b2)])) t) => k39 t (by
    show Steps p.tables e below (T38.setTop (mkF m 59 #[.val (.int p0), .unset] [(.ref b2)])) _
    refine XS.dup X38.here hx rfl (hb hby d2_59) rfl rfl ?_
    refine XS.bipush X38.here hx rfl (hb hby d2_60) ?_
    refine X38.ldc2Long hx hown (mvT hZ (hw _ (List.mem_of_getElem? (i := 19) rfl))) (g := (mkF m 62 #[.val (.int p0), .unset] [(.int (9 : Int32)), (.ref b2), (.ref b2)])) rfl (hb hby d2_62) _ ?_
    exact kk)
  have hV41 := V38
  obtain ⟨cl41, Ar41, q41, S41, Nn41, H41, G41⟩ := hV41
  have hb42 : ¬ (9 : Int32) < 0 ∧ (9 : Int32) < (19 : Int32) := ⟨by decide, by decide⟩
  have hin42 : ¬ ((9 : Int32) < 0 ∨ cl41.slots.size ≤ ((9 : Int32)).toNatClampNeg) := inb_of S41 hb42
  obtain ⟨T42, h42, X42, e42, W42, st42⟩ := stJ X38 hx hZ e38 Ar41 (j := (9 : Int32)) hin42 (g := (mkF m 65 #[.val (.int p0), .unset] [(.long (1000000000 : Int64)), (.int (9 : Int32)), (.ref b2), (.ref b2)])) rfl rfl (hb hby d2_65)
  have V42 : Arv Z h42 b2 k2 .long (19 : Int32) (List.map Value.long ([(1 : Int64), (10 : Int64), (100 : Int64), (1000 : Int64), (10000 : Int64), (100000 : Int64), (1000000 : Int64), (10000000 : Int64), (100000000 : Int64), (1000000000 : Int64), (0 : Int64), (0 : Int64), (0 : Int64), (0 : Int64), (0 : Int64), (0 : Int64), (0 : Int64), (0 : Int64), (0 : Int64)] : List Int64)) (.long (0 : Int64)) := Arv.set Ar41 q41 S41 Nn41 H41 G41 rfl W42 9 rfl (Nat.le_of_ble_eq_true rfl)
  have VL42 : ([(1 : Int64), (10 : Int64), (100 : Int64), (1000 : Int64), (10000 : Int64), (100000 : Int64), (1000000 : Int64), (10000000 : Int64), (100000000 : Int64), (1000000000 : Int64), (0 : Int64), (0 : Int64), (0 : Int64), (0 : Int64), (0 : Int64), (0 : Int64), (0 : Int64), (0 : Int64), (0 : Int64)] : List Int64).length = ((19 : Int32)).toNatClampNeg := rfl
  have K42 : Keep h0 h42 [] := K38.wr W42 (Or.inr sz_b2)
  have N42 := Fr.snoc X42 N38 g_b2
  have k43 := fun (t : State) (kk : Steps p.tables e below (T42.setTop (mkF m 66 #[.val (.int p0), .unset] [(.ref b2)])) t) => k40 t (st42 _ kk)
  have k44 := fun (t : State) (kk : Steps p.tables e below (T42.setTop (mkF m 72 #[.val (.int p0), .unset] [(.long (10000000000 : Int64)), (.int (10 : Int32)), (.ref b2), (.ref b2)])) t) => k43 t (by
    refine XS.dup X42.here hx rfl (hb hby d2_66) rfl rfl ?_
    refine XS.bipush X42.here hx rfl (hb hby d2_67) ?_
    refine X42.ldc2Long hx hown (mvT hZ (hw _ (List.mem_of_getElem? (i := 20) rfl))) (g := (mkF m 69 #[.val (.int p0), .unset] [(.int (10 : Int32)), (.ref b2), (.ref b2)])) rfl (hb hby d2_69) _ ?_
    exact kk)
  have hV45 := V42
  obtain ⟨cl45, Ar45, q45, S45, Nn45, H45, G45⟩ := hV45
  have hb46 : ¬ (10 : Int32) < 0 ∧ (10 : Int32) < (19 : Int32) := ⟨by decide, by decide⟩
  have hin46 : ¬ ((10 : Int32) < 0 ∨ cl45.slots.size ≤ ((10 : Int32)).toNatClampNeg) := inb_of S45 hb46
  obtain ⟨T46, h46, X46, e46, W46, st46⟩ := stJ X42 hx hZ e42 Ar45 (j := (10 : Int32)) hin46 (g := (mkF m 72 #[.val (.int p0), .unset] [(.long (10000000000 : Int64)), (.int (10 : Int32)), (.ref b2), (.ref b2)])) rfl rfl (hb hby d2_72)
  have V46 : Arv Z h46 b2 k2 .long (19 : Int32) (List.map Value.long ([(1 : Int64), (10 : Int64), (100 : Int64), (1000 : Int64), (10000 : Int64), (100000 : Int64), (1000000 : Int64), (10000000 : Int64), (100000000 : Int64), (1000000000 : Int64), (10000000000 : Int64), (0 : Int64), (0 : Int64), (0 : Int64), (0 : Int64), (0 : Int64), (0 : Int64), (0 : Int64), (0 : Int64)] : List Int64)) (.long (0 : Int64)) := Arv.set Ar45 q45 S45 Nn45 H45 G45 rfl W46 10 rfl (Nat.le_of_ble_eq_true rfl)
  have VL46 : ([(1 : Int64), (10 : Int64), (100 : Int64), (1000 : Int64), (10000 : Int64), (100000 : Int64), (1000000 : Int64), (10000000 : Int64), (100000000 : Int64), (1000000000 : Int64), (10000000000 : Int64), (0 : Int64), (0 : Int64), (0 : Int64), (0 : Int64), (0 : Int64), (0 : Int64), (0 : Int64), (0 : Int64)] : List Int64).length = ((19 : Int32)).toNatClampNeg := rfl
  have K46 : Keep h0 h46 [] := K42.wr W46 (Or.inr sz_b2)
  have N46 := Fr.snoc X46 N42 g_b2
  have k47 := fun (t : State) (kk : Steps p.tables e below (T46.setTop (mkF m 73 #[.val (.int p0), .unset] [(.ref b2)])) t) => k44 t (st46 _ kk)
  have k48 := fun (t : State) (kk : Steps p.tables e below (T46.setTop (mkF m 79 #[.val (.int p0), .unset] [(.long (100000000000 : Int64)), (.int (11 : Int32)), (.ref b2), (.ref b2)])) t) => k47 t (by
    show Steps p.tables e below (T46.setTop (mkF m 73 #[.val (.int p0), .unset] [(.ref b2)])) _
    refine XS.dup X46.here hx rfl (hb hby d2_73) rfl rfl ?_
    refine XS.bipush X46.here hx rfl (hb hby d2_74) ?_
    refine X46.ldc2Long hx hown (mvT hZ (hw _ (List.mem_of_getElem? (i := 21) rfl))) (g := (mkF m 76 #[.val (.int p0), .unset] [(.int (11 : Int32)), (.ref b2), (.ref b2)])) rfl (hb hby d2_76) _ ?_
    exact kk)
  have hV49 := V46
  obtain ⟨cl49, Ar49, q49, S49, Nn49, H49, G49⟩ := hV49
  have hb50 : ¬ (11 : Int32) < 0 ∧ (11 : Int32) < (19 : Int32) := ⟨by decide, by decide⟩
  have hin50 : ¬ ((11 : Int32) < 0 ∨ cl49.slots.size ≤ ((11 : Int32)).toNatClampNeg) := inb_of S49 hb50
  obtain ⟨T50, h50, X50, e50, W50, st50⟩ := stJ X46 hx hZ e46 Ar49 (j := (11 : Int32)) hin50 (g := (mkF m 79 #[.val (.int p0), .unset] [(.long (100000000000 : Int64)), (.int (11 : Int32)), (.ref b2), (.ref b2)])) rfl rfl (hb hby d2_79)
  have V50 : Arv Z h50 b2 k2 .long (19 : Int32) (List.map Value.long ([(1 : Int64), (10 : Int64), (100 : Int64), (1000 : Int64), (10000 : Int64), (100000 : Int64), (1000000 : Int64), (10000000 : Int64), (100000000 : Int64), (1000000000 : Int64), (10000000000 : Int64), (100000000000 : Int64), (0 : Int64), (0 : Int64), (0 : Int64), (0 : Int64), (0 : Int64), (0 : Int64), (0 : Int64)] : List Int64)) (.long (0 : Int64)) := Arv.set Ar49 q49 S49 Nn49 H49 G49 rfl W50 11 rfl (Nat.le_of_ble_eq_true rfl)
  have VL50 : ([(1 : Int64), (10 : Int64), (100 : Int64), (1000 : Int64), (10000 : Int64), (100000 : Int64), (1000000 : Int64), (10000000 : Int64), (100000000 : Int64), (1000000000 : Int64), (10000000000 : Int64), (100000000000 : Int64), (0 : Int64), (0 : Int64), (0 : Int64), (0 : Int64), (0 : Int64), (0 : Int64), (0 : Int64)] : List Int64).length = ((19 : Int32)).toNatClampNeg := rfl
  have K50 : Keep h0 h50 [] := K46.wr W50 (Or.inr sz_b2)
  have N50 := Fr.snoc X50 N46 g_b2
  have k51 := fun (t : State) (kk : Steps p.tables e below (T50.setTop (mkF m 80 #[.val (.int p0), .unset] [(.ref b2)])) t) => k48 t (st50 _ kk)
  have k52 := fun (t : State) (kk : Steps p.tables e below (T50.setTop (mkF m 86 #[.val (.int p0), .unset] [(.long (1000000000000 : Int64)), (.int (12 : Int32)), (.ref b2), (.ref b2)])) t) => k51 t (by
    refine XS.dup X50.here hx rfl (hb hby d2_80) rfl rfl ?_
    refine XS.bipush X50.here hx rfl (hb hby d2_81) ?_
    refine X50.ldc2Long hx hown (mvT hZ (hw _ (List.mem_of_getElem? (i := 22) rfl))) (g := (mkF m 83 #[.val (.int p0), .unset] [(.int (12 : Int32)), (.ref b2), (.ref b2)])) rfl (hb hby d2_83) _ ?_
    exact kk)
  have hV53 := V50
  obtain ⟨cl53, Ar53, q53, S53, Nn53, H53, G53⟩ := hV53
  have hb54 : ¬ (12 : Int32) < 0 ∧ (12 : Int32) < (19 : Int32) := ⟨by decide, by decide⟩
  have hin54 : ¬ ((12 : Int32) < 0 ∨ cl53.slots.size ≤ ((12 : Int32)).toNatClampNeg) := inb_of S53 hb54
  obtain ⟨T54, h54, X54, e54, W54, st54⟩ := stJ X50 hx hZ e50 Ar53 (j := (12 : Int32)) hin54 (g := (mkF m 86 #[.val (.int p0), .unset] [(.long (1000000000000 : Int64)), (.int (12 : Int32)), (.ref b2), (.ref b2)])) rfl rfl (hb hby d2_86)
  have V54 : Arv Z h54 b2 k2 .long (19 : Int32) (List.map Value.long ([(1 : Int64), (10 : Int64), (100 : Int64), (1000 : Int64), (10000 : Int64), (100000 : Int64), (1000000 : Int64), (10000000 : Int64), (100000000 : Int64), (1000000000 : Int64), (10000000000 : Int64), (100000000000 : Int64), (1000000000000 : Int64), (0 : Int64), (0 : Int64), (0 : Int64), (0 : Int64), (0 : Int64), (0 : Int64)] : List Int64)) (.long (0 : Int64)) := Arv.set Ar53 q53 S53 Nn53 H53 G53 rfl W54 12 rfl (Nat.le_of_ble_eq_true rfl)
  have VL54 : ([(1 : Int64), (10 : Int64), (100 : Int64), (1000 : Int64), (10000 : Int64), (100000 : Int64), (1000000 : Int64), (10000000 : Int64), (100000000 : Int64), (1000000000 : Int64), (10000000000 : Int64), (100000000000 : Int64), (1000000000000 : Int64), (0 : Int64), (0 : Int64), (0 : Int64), (0 : Int64), (0 : Int64), (0 : Int64)] : List Int64).length = ((19 : Int32)).toNatClampNeg := rfl
  have K54 : Keep h0 h54 [] := K50.wr W54 (Or.inr sz_b2)
  have N54 := Fr.snoc X54 N50 g_b2
  have k55 := fun (t : State) (kk : Steps p.tables e below (T54.setTop (mkF m 87 #[.val (.int p0), .unset] [(.ref b2)])) t) => k52 t (st54 _ kk)
  have k56 := fun (t : State) (kk : Steps p.tables e below (T54.setTop (mkF m 93 #[.val (.int p0), .unset] [(.long (10000000000000 : Int64)), (.int (13 : Int32)), (.ref b2), (.ref b2)])) t) => k55 t (by
    show Steps p.tables e below (T54.setTop (mkF m 87 #[.val (.int p0), .unset] [(.ref b2)])) _
    refine XS.dup X54.here hx rfl (hb hby d2_87) rfl rfl ?_
    refine XS.bipush X54.here hx rfl (hb hby d2_88) ?_
    refine X54.ldc2Long hx hown (mvT hZ (hw _ (List.mem_of_getElem? (i := 23) rfl))) (g := (mkF m 90 #[.val (.int p0), .unset] [(.int (13 : Int32)), (.ref b2), (.ref b2)])) rfl (hb hby d2_90) _ ?_
    exact kk)
  have hV57 := V54
  obtain ⟨cl57, Ar57, q57, S57, Nn57, H57, G57⟩ := hV57
  have hb58 : ¬ (13 : Int32) < 0 ∧ (13 : Int32) < (19 : Int32) := ⟨by decide, by decide⟩
  have hin58 : ¬ ((13 : Int32) < 0 ∨ cl57.slots.size ≤ ((13 : Int32)).toNatClampNeg) := inb_of S57 hb58
  obtain ⟨T58, h58, X58, e58, W58, st58⟩ := stJ X54 hx hZ e54 Ar57 (j := (13 : Int32)) hin58 (g := (mkF m 93 #[.val (.int p0), .unset] [(.long (10000000000000 : Int64)), (.int (13 : Int32)), (.ref b2), (.ref b2)])) rfl rfl (hb hby d2_93)
  have V58 : Arv Z h58 b2 k2 .long (19 : Int32) (List.map Value.long ([(1 : Int64), (10 : Int64), (100 : Int64), (1000 : Int64), (10000 : Int64), (100000 : Int64), (1000000 : Int64), (10000000 : Int64), (100000000 : Int64), (1000000000 : Int64), (10000000000 : Int64), (100000000000 : Int64), (1000000000000 : Int64), (10000000000000 : Int64), (0 : Int64), (0 : Int64), (0 : Int64), (0 : Int64), (0 : Int64)] : List Int64)) (.long (0 : Int64)) := Arv.set Ar57 q57 S57 Nn57 H57 G57 rfl W58 13 rfl (Nat.le_of_ble_eq_true rfl)
  have VL58 : ([(1 : Int64), (10 : Int64), (100 : Int64), (1000 : Int64), (10000 : Int64), (100000 : Int64), (1000000 : Int64), (10000000 : Int64), (100000000 : Int64), (1000000000 : Int64), (10000000000 : Int64), (100000000000 : Int64), (1000000000000 : Int64), (10000000000000 : Int64), (0 : Int64), (0 : Int64), (0 : Int64), (0 : Int64), (0 : Int64)] : List Int64).length = ((19 : Int32)).toNatClampNeg := rfl
  have K58 : Keep h0 h58 [] := K54.wr W58 (Or.inr sz_b2)
  have N58 := Fr.snoc X58 N54 g_b2
  have k59 := fun (t : State) (kk : Steps p.tables e below (T58.setTop (mkF m 94 #[.val (.int p0), .unset] [(.ref b2)])) t) => k56 t (st58 _ kk)
  have k60 := fun (t : State) (kk : Steps p.tables e below (T58.setTop (mkF m 100 #[.val (.int p0), .unset] [(.long (100000000000000 : Int64)), (.int (14 : Int32)), (.ref b2), (.ref b2)])) t) => k59 t (by
    refine XS.dup X58.here hx rfl (hb hby d2_94) rfl rfl ?_
    refine XS.bipush X58.here hx rfl (hb hby d2_95) ?_
    refine X58.ldc2Long hx hown (mvT hZ (hw _ (List.mem_of_getElem? (i := 24) rfl))) (g := (mkF m 97 #[.val (.int p0), .unset] [(.int (14 : Int32)), (.ref b2), (.ref b2)])) rfl (hb hby d2_97) _ ?_
    exact kk)
  have hV61 := V58
  obtain ⟨cl61, Ar61, q61, S61, Nn61, H61, G61⟩ := hV61
  have hb62 : ¬ (14 : Int32) < 0 ∧ (14 : Int32) < (19 : Int32) := ⟨by decide, by decide⟩
  have hin62 : ¬ ((14 : Int32) < 0 ∨ cl61.slots.size ≤ ((14 : Int32)).toNatClampNeg) := inb_of S61 hb62
  obtain ⟨T62, h62, X62, e62, W62, st62⟩ := stJ X58 hx hZ e58 Ar61 (j := (14 : Int32)) hin62 (g := (mkF m 100 #[.val (.int p0), .unset] [(.long (100000000000000 : Int64)), (.int (14 : Int32)), (.ref b2), (.ref b2)])) rfl rfl (hb hby d2_100)
  have V62 : Arv Z h62 b2 k2 .long (19 : Int32) (List.map Value.long ([(1 : Int64), (10 : Int64), (100 : Int64), (1000 : Int64), (10000 : Int64), (100000 : Int64), (1000000 : Int64), (10000000 : Int64), (100000000 : Int64), (1000000000 : Int64), (10000000000 : Int64), (100000000000 : Int64), (1000000000000 : Int64), (10000000000000 : Int64), (100000000000000 : Int64), (0 : Int64), (0 : Int64), (0 : Int64), (0 : Int64)] : List Int64)) (.long (0 : Int64)) := Arv.set Ar61 q61 S61 Nn61 H61 G61 rfl W62 14 rfl (Nat.le_of_ble_eq_true rfl)
  have VL62 : ([(1 : Int64), (10 : Int64), (100 : Int64), (1000 : Int64), (10000 : Int64), (100000 : Int64), (1000000 : Int64), (10000000 : Int64), (100000000 : Int64), (1000000000 : Int64), (10000000000 : Int64), (100000000000 : Int64), (1000000000000 : Int64), (10000000000000 : Int64), (100000000000000 : Int64), (0 : Int64), (0 : Int64), (0 : Int64), (0 : Int64)] : List Int64).length = ((19 : Int32)).toNatClampNeg := rfl
  have K62 : Keep h0 h62 [] := K58.wr W62 (Or.inr sz_b2)
  have N62 := Fr.snoc X62 N58 g_b2
  have k63 := fun (t : State) (kk : Steps p.tables e below (T62.setTop (mkF m 101 #[.val (.int p0), .unset] [(.ref b2)])) t) => k60 t (st62 _ kk)
  have k64 := fun (t : State) (kk : Steps p.tables e below (T62.setTop (mkF m 107 #[.val (.int p0), .unset] [(.long (1000000000000000 : Int64)), (.int (15 : Int32)), (.ref b2), (.ref b2)])) t) => k63 t (by
    show Steps p.tables e below (T62.setTop (mkF m 101 #[.val (.int p0), .unset] [(.ref b2)])) _
    refine XS.dup X62.here hx rfl (hb hby d2_101) rfl rfl ?_
    refine XS.bipush X62.here hx rfl (hb hby d2_102) ?_
    refine X62.ldc2Long hx hown (mvT hZ (hw _ (List.mem_of_getElem? (i := 25) rfl))) (g := (mkF m 104 #[.val (.int p0), .unset] [(.int (15 : Int32)), (.ref b2), (.ref b2)])) rfl (hb hby d2_104) _ ?_
    exact kk)
  have hV65 := V62
  obtain ⟨cl65, Ar65, q65, S65, Nn65, H65, G65⟩ := hV65
  have hb66 : ¬ (15 : Int32) < 0 ∧ (15 : Int32) < (19 : Int32) := ⟨by decide, by decide⟩
  have hin66 : ¬ ((15 : Int32) < 0 ∨ cl65.slots.size ≤ ((15 : Int32)).toNatClampNeg) := inb_of S65 hb66
  obtain ⟨T66, h66, X66, e66, W66, st66⟩ := stJ X62 hx hZ e62 Ar65 (j := (15 : Int32)) hin66 (g := (mkF m 107 #[.val (.int p0), .unset] [(.long (1000000000000000 : Int64)), (.int (15 : Int32)), (.ref b2), (.ref b2)])) rfl rfl (hb hby d2_107)
  have V66 : Arv Z h66 b2 k2 .long (19 : Int32) (List.map Value.long ([(1 : Int64), (10 : Int64), (100 : Int64), (1000 : Int64), (10000 : Int64), (100000 : Int64), (1000000 : Int64), (10000000 : Int64), (100000000 : Int64), (1000000000 : Int64), (10000000000 : Int64), (100000000000 : Int64), (1000000000000 : Int64), (10000000000000 : Int64), (100000000000000 : Int64), (1000000000000000 : Int64), (0 : Int64), (0 : Int64), (0 : Int64)] : List Int64)) (.long (0 : Int64)) := Arv.set Ar65 q65 S65 Nn65 H65 G65 rfl W66 15 rfl (Nat.le_of_ble_eq_true rfl)
  have VL66 : ([(1 : Int64), (10 : Int64), (100 : Int64), (1000 : Int64), (10000 : Int64), (100000 : Int64), (1000000 : Int64), (10000000 : Int64), (100000000 : Int64), (1000000000 : Int64), (10000000000 : Int64), (100000000000 : Int64), (1000000000000 : Int64), (10000000000000 : Int64), (100000000000000 : Int64), (1000000000000000 : Int64), (0 : Int64), (0 : Int64), (0 : Int64)] : List Int64).length = ((19 : Int32)).toNatClampNeg := rfl
  have K66 : Keep h0 h66 [] := K62.wr W66 (Or.inr sz_b2)
  have N66 := Fr.snoc X66 N62 g_b2
  have k67 := fun (t : State) (kk : Steps p.tables e below (T66.setTop (mkF m 108 #[.val (.int p0), .unset] [(.ref b2)])) t) => k64 t (st66 _ kk)
  have k68 := fun (t : State) (kk : Steps p.tables e below (T66.setTop (mkF m 114 #[.val (.int p0), .unset] [(.long (10000000000000000 : Int64)), (.int (16 : Int32)), (.ref b2), (.ref b2)])) t) => k67 t (by
    refine XS.dup X66.here hx rfl (hb hby d2_108) rfl rfl ?_
    refine XS.bipush X66.here hx rfl (hb hby d2_109) ?_
    refine X66.ldc2Long hx hown (mvT hZ (hw _ (List.mem_of_getElem? (i := 26) rfl))) (g := (mkF m 111 #[.val (.int p0), .unset] [(.int (16 : Int32)), (.ref b2), (.ref b2)])) rfl (hb hby d2_111) _ ?_
    exact kk)
  have hV69 := V66
  obtain ⟨cl69, Ar69, q69, S69, Nn69, H69, G69⟩ := hV69
  have hb70 : ¬ (16 : Int32) < 0 ∧ (16 : Int32) < (19 : Int32) := ⟨by decide, by decide⟩
  have hin70 : ¬ ((16 : Int32) < 0 ∨ cl69.slots.size ≤ ((16 : Int32)).toNatClampNeg) := inb_of S69 hb70
  obtain ⟨T70, h70, X70, e70, W70, st70⟩ := stJ X66 hx hZ e66 Ar69 (j := (16 : Int32)) hin70 (g := (mkF m 114 #[.val (.int p0), .unset] [(.long (10000000000000000 : Int64)), (.int (16 : Int32)), (.ref b2), (.ref b2)])) rfl rfl (hb hby d2_114)
  have V70 : Arv Z h70 b2 k2 .long (19 : Int32) (List.map Value.long ([(1 : Int64), (10 : Int64), (100 : Int64), (1000 : Int64), (10000 : Int64), (100000 : Int64), (1000000 : Int64), (10000000 : Int64), (100000000 : Int64), (1000000000 : Int64), (10000000000 : Int64), (100000000000 : Int64), (1000000000000 : Int64), (10000000000000 : Int64), (100000000000000 : Int64), (1000000000000000 : Int64), (10000000000000000 : Int64), (0 : Int64), (0 : Int64)] : List Int64)) (.long (0 : Int64)) := Arv.set Ar69 q69 S69 Nn69 H69 G69 rfl W70 16 rfl (Nat.le_of_ble_eq_true rfl)
  have VL70 : ([(1 : Int64), (10 : Int64), (100 : Int64), (1000 : Int64), (10000 : Int64), (100000 : Int64), (1000000 : Int64), (10000000 : Int64), (100000000 : Int64), (1000000000 : Int64), (10000000000 : Int64), (100000000000 : Int64), (1000000000000 : Int64), (10000000000000 : Int64), (100000000000000 : Int64), (1000000000000000 : Int64), (10000000000000000 : Int64), (0 : Int64), (0 : Int64)] : List Int64).length = ((19 : Int32)).toNatClampNeg := rfl
  have K70 : Keep h0 h70 [] := K66.wr W70 (Or.inr sz_b2)
  have N70 := Fr.snoc X70 N66 g_b2
  have k71 := fun (t : State) (kk : Steps p.tables e below (T70.setTop (mkF m 115 #[.val (.int p0), .unset] [(.ref b2)])) t) => k68 t (st70 _ kk)
  have k72 := fun (t : State) (kk : Steps p.tables e below (T70.setTop (mkF m 121 #[.val (.int p0), .unset] [(.long (100000000000000000 : Int64)), (.int (17 : Int32)), (.ref b2), (.ref b2)])) t) => k71 t (by
    show Steps p.tables e below (T70.setTop (mkF m 115 #[.val (.int p0), .unset] [(.ref b2)])) _
    refine XS.dup X70.here hx rfl (hb hby d2_115) rfl rfl ?_
    refine XS.bipush X70.here hx rfl (hb hby d2_116) ?_
    refine X70.ldc2Long hx hown (mvT hZ (hw _ (List.mem_of_getElem? (i := 27) rfl))) (g := (mkF m 118 #[.val (.int p0), .unset] [(.int (17 : Int32)), (.ref b2), (.ref b2)])) rfl (hb hby d2_118) _ ?_
    exact kk)
  have hV73 := V70
  obtain ⟨cl73, Ar73, q73, S73, Nn73, H73, G73⟩ := hV73
  have hb74 : ¬ (17 : Int32) < 0 ∧ (17 : Int32) < (19 : Int32) := ⟨by decide, by decide⟩
  have hin74 : ¬ ((17 : Int32) < 0 ∨ cl73.slots.size ≤ ((17 : Int32)).toNatClampNeg) := inb_of S73 hb74
  obtain ⟨T74, h74, X74, e74, W74, st74⟩ := stJ X70 hx hZ e70 Ar73 (j := (17 : Int32)) hin74 (g := (mkF m 121 #[.val (.int p0), .unset] [(.long (100000000000000000 : Int64)), (.int (17 : Int32)), (.ref b2), (.ref b2)])) rfl rfl (hb hby d2_121)
  have V74 : Arv Z h74 b2 k2 .long (19 : Int32) (List.map Value.long ([(1 : Int64), (10 : Int64), (100 : Int64), (1000 : Int64), (10000 : Int64), (100000 : Int64), (1000000 : Int64), (10000000 : Int64), (100000000 : Int64), (1000000000 : Int64), (10000000000 : Int64), (100000000000 : Int64), (1000000000000 : Int64), (10000000000000 : Int64), (100000000000000 : Int64), (1000000000000000 : Int64), (10000000000000000 : Int64), (100000000000000000 : Int64), (0 : Int64)] : List Int64)) (.long (0 : Int64)) := Arv.set Ar73 q73 S73 Nn73 H73 G73 rfl W74 17 rfl (Nat.le_of_ble_eq_true rfl)
  have VL74 : ([(1 : Int64), (10 : Int64), (100 : Int64), (1000 : Int64), (10000 : Int64), (100000 : Int64), (1000000 : Int64), (10000000 : Int64), (100000000 : Int64), (1000000000 : Int64), (10000000000 : Int64), (100000000000 : Int64), (1000000000000 : Int64), (10000000000000 : Int64), (100000000000000 : Int64), (1000000000000000 : Int64), (10000000000000000 : Int64), (100000000000000000 : Int64), (0 : Int64)] : List Int64).length = ((19 : Int32)).toNatClampNeg := rfl
  have K74 : Keep h0 h74 [] := K70.wr W74 (Or.inr sz_b2)
  have N74 := Fr.snoc X74 N70 g_b2
  have k75 := fun (t : State) (kk : Steps p.tables e below (T74.setTop (mkF m 122 #[.val (.int p0), .unset] [(.ref b2)])) t) => k72 t (st74 _ kk)
  have k76 := fun (t : State) (kk : Steps p.tables e below (T74.setTop (mkF m 128 #[.val (.int p0), .unset] [(.long (1000000000000000000 : Int64)), (.int (18 : Int32)), (.ref b2), (.ref b2)])) t) => k75 t (by
    refine XS.dup X74.here hx rfl (hb hby d2_122) rfl rfl ?_
    refine XS.bipush X74.here hx rfl (hb hby d2_123) ?_
    refine X74.ldc2Long hx hown (mvT hZ (hw _ (List.mem_of_getElem? (i := 28) rfl))) (g := (mkF m 125 #[.val (.int p0), .unset] [(.int (18 : Int32)), (.ref b2), (.ref b2)])) rfl (hb hby d2_125) _ ?_
    exact kk)
  have hV77 := V74
  obtain ⟨cl77, Ar77, q77, S77, Nn77, H77, G77⟩ := hV77
  have hb78 : ¬ (18 : Int32) < 0 ∧ (18 : Int32) < (19 : Int32) := ⟨by decide, by decide⟩
  have hin78 : ¬ ((18 : Int32) < 0 ∨ cl77.slots.size ≤ ((18 : Int32)).toNatClampNeg) := inb_of S77 hb78
  obtain ⟨T78, h78, X78, e78, W78, st78⟩ := stJ X74 hx hZ e74 Ar77 (j := (18 : Int32)) hin78 (g := (mkF m 128 #[.val (.int p0), .unset] [(.long (1000000000000000000 : Int64)), (.int (18 : Int32)), (.ref b2), (.ref b2)])) rfl rfl (hb hby d2_128)
  have V78 : Arv Z h78 b2 k2 .long (19 : Int32) (List.map Value.long ([(1 : Int64), (10 : Int64), (100 : Int64), (1000 : Int64), (10000 : Int64), (100000 : Int64), (1000000 : Int64), (10000000 : Int64), (100000000 : Int64), (1000000000 : Int64), (10000000000 : Int64), (100000000000 : Int64), (1000000000000 : Int64), (10000000000000 : Int64), (100000000000000 : Int64), (1000000000000000 : Int64), (10000000000000000 : Int64), (100000000000000000 : Int64), (1000000000000000000 : Int64)] : List Int64)) (.long (0 : Int64)) := Arv.set Ar77 q77 S77 Nn77 H77 G77 rfl W78 18 rfl (Nat.le_of_ble_eq_true rfl)
  have VL78 : ([(1 : Int64), (10 : Int64), (100 : Int64), (1000 : Int64), (10000 : Int64), (100000 : Int64), (1000000 : Int64), (10000000 : Int64), (100000000 : Int64), (1000000000 : Int64), (10000000000 : Int64), (100000000000 : Int64), (1000000000000 : Int64), (10000000000000 : Int64), (100000000000000 : Int64), (1000000000000000 : Int64), (10000000000000000 : Int64), (100000000000000000 : Int64), (1000000000000000000 : Int64)] : List Int64).length = ((19 : Int32)).toNatClampNeg := rfl
  have K78 : Keep h0 h78 [] := K74.wr W78 (Or.inr sz_b2)
  have N78 := Fr.snoc X78 N74 g_b2
  have k79 := fun (t : State) (kk : Steps p.tables e below (T78.setTop (mkF m 129 #[.val (.int p0), .unset] [(.ref b2)])) t) => k76 t (st78 _ kk)
  have k80 := fun (t : State) (kk : Steps p.tables e below (T78.setTop (mkF m 132 #[.val (.int p0), .val (.ref b2)] [(.int p0), (.ref b2)])) t) => k79 t (by
    show Steps p.tables e below (T78.setTop (mkF m 129 #[.val (.int p0), .unset] [(.ref b2)])) _
    refine XS.astoreN X78.here hx rfl (hb hby d2_129) rfl rfl (l' := #[.val (.int p0), .val (.ref b2)]) rfl ?_
    refine XS.aloadN X78.here hx rfl (hb hby d2_130) rfl rfl ?_
    refine XS.iloadN X78.here hx rfl (hb hby d2_131) rfl ?_
    exact kk)
  have hV81 := V78
  obtain ⟨cl81, Ar81, q81, S81, Nn81, H81, G81⟩ := hV81
  have hb82 : ¬ p0 < 0 ∧ p0 < (19 : Int32) := hI
  have hin82 : ¬ (p0 < 0 ∨ cl81.slots.size ≤ (p0).toNatClampNeg) := inb_of S81 hb82
  have hat82 : cl81.slots[(p0).toNatClampNeg]? = some (.long (v2_132_at p0)) := Has.at H81 hin82 (own_getD_long _ _ _)
  have st82 := X78.laload hx (j := p0) (v := (.long (v2_132_at p0))) (by rw [e78]; exact Ar81.1) (State.isArrayOf_alike hZ.alike Ar81.2.1) Ar81.2.2 hin82 hat82 (g := (mkF m 132 #[.val (.int p0), .val (.ref b2)] [(.int p0), (.ref b2)])) rfl rfl (hb hby d2_132)
  have k83 := fun (t : State) (kk : Steps p.tables e below (T78.setTop (mkF m 133 #[.val (.int p0), .val (.ref b2)] [(.long (v2_132_at p0))])) t) => k80 t (st82 _ kk)
  obtain ⟨fs, hr, hrun, hended, hW, hsame⟩ := X78.leave (v := some (.long (v2_132_at p0))) (fun h => by rw [Bd.returns] at h; cases h)
  refine ⟨_, _, k83 _ ?_, hrun, hended, _, _, rfl, ?_, ⟨_, rfl⟩, hW, hsame.mono (by decide) (by decide)⟩
  · show Steps p.tables e below (T78.setTop (mkF m 133 #[.val (.int p0), .val (.ref b2)] [(.long (v2_132_at p0))])) _
    exact retOut X78 hx (t := .long) Bd.returns rfl (Or.inr (Or.inl ⟨rfl, rfl, _, rfl⟩)) (hb hby d2_133) hr
  · show Q2 Z p0 h0 n0 _ T78.heap _
    rw [e78]
    exact ⟨rfl, N78, K78⟩
theorem pd_0 : parseMethodDescriptor "(I)J" = some ⟨[.int], some .long⟩ := by decide +kernel
theorem d1_0 : decode method_3_code 0 = .ok (.iload_n 1, 1) := by decide +kernel
theorem d1_1 : decode method_3_code 1 = .ok (.iload_n 2, 1) := by decide +kernel
theorem d1_2 : decode method_3_code 2 = .ok (.if_icmp .ge 67, 3) := by decide +kernel
theorem d1_5 : decode method_3_code 5 = .ok (.iload 5, 2) := by decide +kernel
theorem d1_7 : decode method_3_code 7 = .ok (.iload_n 1, 1) := by decide +kernel
theorem d1_8 : decode method_3_code 8 = .ok (.iadd, 1) := by decide +kernel
theorem d1_9 : decode method_3_code 9 = .ok (.iload 6, 2) := by decide +kernel
theorem d1_11 : decode method_3_code 11 = .ok (.ifCond .eq 13, 3) := by decide +kernel
theorem d1_14 : decode method_3_code 14 = .ok (.iload_n 1, 1) := by decide +kernel
theorem d1_15 : decode method_3_code 15 = .ok (.iload 7, 2) := by decide +kernel
theorem d1_17 : decode method_3_code 17 = .ok (.if_icmp .lt 7, 3) := by decide +kernel
theorem d1_20 : decode method_3_code 20 = .ok (.iconst 1, 1) := by decide +kernel
theorem d1_21 : decode method_3_code 21 = .ok (.goto 4, 3) := by decide +kernel
theorem d1_24 : decode method_3_code 24 = .ok (.iconst 0, 1) := by decide +kernel
theorem d1_25 : decode method_3_code 25 = .ok (.iadd, 1) := by decide +kernel
theorem d1_26 : decode method_3_code 26 = .ok (.iload 8, 2) := by decide +kernel
theorem d1_28 : decode method_3_code 28 = .ok (.ifCond .eq 13, 3) := by decide +kernel
theorem d1_31 : decode method_3_code 31 = .ok (.iload_n 1, 1) := by decide +kernel
theorem d1_32 : decode method_3_code 32 = .ok (.iload 9, 2) := by decide +kernel
theorem d1_34 : decode method_3_code 34 = .ok (.if_icmp .lt 7, 3) := by decide +kernel
theorem d1_37 : decode method_3_code 37 = .ok (.iconst 1, 1) := by decide +kernel
theorem d1_38 : decode method_3_code 38 = .ok (.goto 4, 3) := by decide +kernel
theorem d1_41 : decode method_3_code 41 = .ok (.iconst 0, 1) := by decide +kernel
theorem d1_42 : decode method_3_code 42 = .ok (.iadd, 1) := by decide +kernel
theorem d1_43 : decode method_3_code 43 = .ok (.istore 10, 2) := by decide +kernel
theorem d1_45 : decode method_3_code 45 = .ok (.aload_n 0, 1) := by decide +kernel
theorem d1_46 : decode method_3_code 46 = .ok (.iload 10, 2) := by decide +kernel
theorem d1_48 : decode method_3_code 48 = .ok (.ldc2_w 43, 3) := by decide +kernel
theorem d1_51 : decode method_3_code 51 = .ok (.lload_n 3, 1) := by decide +kernel
theorem d1_52 : decode method_3_code 52 = .ok (.iload_n 2, 1) := by decide +kernel
theorem d1_53 : decode method_3_code 53 = .ok (.iconst 1, 1) := by decide +kernel
theorem d1_54 : decode method_3_code 54 = .ok (.isub, 1) := by decide +kernel
theorem d1_55 : decode method_3_code 55 = .ok (.iload_n 1, 1) := by decide +kernel
theorem d1_56 : decode method_3_code 56 = .ok (.isub, 1) := by decide +kernel
theorem d1_57 : decode method_3_code 57 = .ok (.invokestatic 45, 3) := by decide +kernel
theorem d1_60 : decode method_3_code 60 = .ok (.ldiv, 1) := by decide +kernel
theorem d1_61 : decode method_3_code 61 = .ok (.ldc2_w 7, 3) := by decide +kernel
theorem d1_64 : decode method_3_code 64 = .ok (.lrem, 1) := by decide +kernel
theorem d1_65 : decode method_3_code 65 = .ok (.ladd, 1) := by decide +kernel
theorem d1_66 : decode method_3_code 66 = .ok (.l2i, 1) := by decide +kernel
theorem d1_67 : decode method_3_code 67 = .ok (.i2b, 1) := by decide +kernel
theorem d1_68 : decode method_3_code 68 = .ok (.bastore, 1) := by decide +kernel
theorem d1_69 : decode method_3_code 69 = .ok (.return_, 1) := by decide +kernel
def v1_17_s0 (p1 : Int32) (p6 : Int32) : Int32 := if p1 < p6 then (0 : Int32) else (1 : Int32)
def v1_11_s0 (p1 : Int32) (p5 : Int32) (p6 : Int32) : Int32 := if p5 = (0 : Int32) then (0 : Int32) else (v1_17_s0 p1 p6)
def v1_34_s0 (p1 : Int32) (p8 : Int32) : Int32 := if p1 < p8 then (0 : Int32) else (1 : Int32)
def v1_28_s0 (p1 : Int32) (p7 : Int32) (p8 : Int32) : Int32 := if p7 = (0 : Int32) then (0 : Int32) else (v1_34_s0 p1 p8)
def v1_43_l10 (p1 : Int32) (p4 : Int32) (p5 : Int32) (p6 : Int32) (p7 : Int32) (p8 : Int32) : Int32 := (((p4 + p1) + (v1_11_s0 p1 p5 p6)) + (v1_28_s0 p1 p7 p8))
def v1_68_L (p1 : Int32) (p2 : Int32) (q3 : Int64) (p4 : Int32) (p5 : Int32) (p6 : Int32) (p7 : Int32) (p8 : Int32) (L_ra0 : List Int32) : List Int32 := (L_ra0.set ((v1_43_l10 p1 p4 p5 p6 p7 p8)).toNatClampNeg ((((((48 : Int64) + ((q3 / (v2_132_at ((p2 - (1 : Int32)) - p1))) % (10 : Int64))).toInt32).toInt8.toInt32)).toInt8.toInt32))
def v1_a_ra0 (p1 : Int32) (p2 : Int32) (q3 : Int64) (p4 : Int32) (p5 : Int32) (p6 : Int32) (p7 : Int32) (p8 : Int32) (L_ra0 : List Int32) : List Int32 := (if p1 < p2 then (v1_68_L p1 p2 q3 p4 p5 p6 p7 p8 L_ra0) else L_ra0)
theorem ef_rm1 (m : MethodId) (ra0 : Addr) (p1 : Int32) (p2 : Int32) (q3 : Int64) (p4 : Int32) (p5 : Int32) (p6 : Int32) (p7 : Int32) (p8 : Int32) : entryFrame m #[(.ref ra0), (.int p1), (.int p2), (.long q3), (.int p4), (.int p5), (.int p6), (.int p7), (.int p8)] 11 = mkF m 0 #[.val (.ref ra0), .val (.int p1), .val (.int p2), .val (.long q3), .second, .val (.int p4), .val (.int p5), .val (.int p6), .val (.int p7), .val (.int p8), .unset] [] := by first | (simp [entryFrame, mkF, argsToLocals, Value.category]; done) | rfl
def Q1 (Z : State) (ra0 : Addr) (p1 : Int32) (p2 : Int32) (q3 : Int64) (p4 : Int32) (p5 : Int32) (p6 : Int32) (p7 : Int32) (p8 : Int32) (k_ra0 : ClassId) (n_ra0 : Int32) (L_ra0 : List Int32) (h0 : Heap) (n0 : Nat) (v : Option Value) (h : Heap) (L : List Loc) : Prop := v = none ∧ Fr n0 L ∧ Keep h0 h [ra0] ∧ Arv Z h ra0 k_ra0 .byte n_ra0 (List.map Value.int (v1_a_ra0 p1 p2 q3 p4 p5 p6 p7 p8 L_ra0)) (.int (0 : Int32)) ∧ (v1_a_ra0 p1 p2 q3 p4 p5 p6 p7 p8 L_ra0).length = n_ra0.toNatClampNeg
set_option maxRecDepth 65536 in
set_option maxHeartbeats 40000000 in
theorem rm1 (l : Launch) (Z : State) (a0 : Array Value) (hw : ∀ d ∈ tables_1, d.before a0 Z = true) (ws : List Jvm.Cond) (ra0 : Addr) (p1 : Int32) (p2 : Int32) (q3 : Int64) (p4 : Int32) (p5 : Int32) (p6 : Int32) (p7 : Int32) (p8 : Int32) (k_ra0 : ClassId) (n_ra0 : Int32) (L_ra0 : List Int32) (h0 : Heap) (n0 : Nat) (Z0 : n0 ≤ h0.size) (hpos : ¬ (v1_43_l10 p1 p4 p5 p6 p7 p8) < 0 ∧ (v1_43_l10 p1 p4 p5 p6 p7 p8) < n_ra0) (hexp : p1 < p2 → (¬ ((p2 - (1 : Int32)) - p1) < 0 ∧ ((p2 - (1 : Int32)) - p1) < (19 : Int32))) (hnz : p1 < p2 → v2_132_at ((p2 - (1 : Int32)) - p1) ≠ 0) (V_ra0 : Arv Z h0 ra0 k_ra0 .byte n_ra0 (List.map Value.int L_ra0) (.int (0 : Int32))) (VL_ra0 : L_ra0.length = n_ra0.toNatClampNeg) (g_ra0 : n0 ≤ ra0) :
    MetFree l (⟨"com/example/gavelbook/gavelbook/DecimalsParsePinLaw", "putDigit", "([BIIJIZIZI)V"⟩ : MethodName) (head1 (Jvm.Cond.code (⟨"com/example/gavelbook/gavelbook/DecimalsParsePinLaw", "putDigit", "([BIIJIZIZI)V"⟩ : MethodName) method_3_code 11 none :: ws) ({ frames := 1, cells := 1, slots := 19, locals := 19 } : Room)) (fun a U => a = #[(.ref ra0), (.int p1), (.int p2), (.long q3), (.int p4), (.int p5), (.int p6), (.int p7), (.int p8)] ∧ Z.Warmed39 U.vm ∧ U.heap = h0) (fun _ _ _ _ _ => True) (fun _ U o U' => ∃ v L, o = .returned v ∧ Q1 Z ra0 p1 p2 q3 p4 p5 p6 p7 p8 k_ra0 n_ra0 L_ra0 h0 n0 v U'.heap L ∧ FrameEnd U o U' L ({ frames := 1, cells := 1, slots := 19, locals := 19 } : Room).cells ({ frames := 1, cells := 1, slots := 19, locals := 19 } : Room).slots) := by
  refine MetFree.of_bodySF (plainFor_of_name pn_84) hisR ?_
  intro p e s m args below meth c s₁ Bd hml0 hP hK
  obtain ⟨rfl, hZ, hh⟩ := hP
  have hx := Bd.exec
  have hby := Bd.bytes
  have hml : c.maxLocals = 11 := hml0
  have hown : s.vm.findClass "com/example/gavelbook/gavelbook/DecimalsParsePinLaw" = some m.cls := findClass_of_methodNamed Bd.named
  have hnm := (name_of_methodNamed Bd.named Bd.method).1
  have X0 : Stand p l e ({ frames := 1, cells := 1, slots := 19, locals := 19 } : Room) s m #[(.ref ra0), (.int p1), (.int p2), (.long q3), (.int p4), (.int p5), (.int p6), (.int p7), (.int p8)] below meth c s₁ [] 0 0 := Stand.of_body Bd
  have e0 : s₁.heap = h0 := by rw [← hh, Bd.state]; rfl
  have N0 := Fr.nil n0
  have KC0 := Keep.refl h0 [ra0]
  have pre0 : ∀ t, Steps p.tables e below (s₁.setTop (mkF m 0 #[.val (.ref ra0), .val (.int p1), .val (.int p2), .val (.long q3), .second, .val (.int p4), .val (.int p5), .val (.int p6), .val (.int p7), .val (.int p8), .unset] [])) t → Steps p.tables e below (s₁.setTop (entryFrame m #[(.ref ra0), (.int p1), (.int p2), (.long q3), (.int p4), (.int p5), (.int p6), (.int p7), (.int p8)] 11)) t := fun t k => castTop (ef_rm1 m ra0 p1 p2 q3 p4 p5 p6 p7 p8) k
  have k84 := fun (t : State) (kk : Steps p.tables e below (s₁.setTop (mkF m 2 #[.val (.ref ra0), .val (.int p1), .val (.int p2), .val (.long q3), .second, .val (.int p4), .val (.int p5), .val (.int p6), .val (.int p7), .val (.int p8), .unset] [(.int p2), (.int p1)])) t) => pre0 t (by
    refine XS.iloadN X0.here hx rfl (hb hby d1_0) rfl ?_
    refine XS.iloadN X0.here hx rfl (hb hby d1_1) rfl ?_
    exact kk)
  by_cases hc2_85 : p1 < p2
  · have k94 := fun (t : State) (kk : Steps p.tables e below (s₁.setTop (mkF m 57 #[.val (.ref ra0), .val (.int p1), .val (.int p2), .val (.long q3), .second, .val (.int p4), .val (.int p5), .val (.int p6), .val (.int p7), .val (.int p8), .val (.int (v1_43_l10 p1 p4 p5 p6 p7 p8))] [(.int ((p2 - (1 : Int32)) - p1)), (.long q3), (.long (48 : Int64)), (.int (v1_43_l10 p1 p4 p5 p6 p7 p8)), (.ref ra0)])) t) => k84 t (by
      show Steps p.tables e below (s₁.setTop (mkF m 2 #[.val (.ref ra0), .val (.int p1), .val (.int p2), .val (.long q3), .second, .val (.int p4), .val (.int p5), .val (.int p6), .val (.int p7), .val (.int p8), .unset] [(.int p2), (.int p1)])) _
      refine XS.icmpNo X0.here hx rfl (hb hby d1_2) rfl (tlt hc2_85).2.1 ?_
      refine XS.iload X0.here hx rfl (hb hby d1_5) rfl ?_
      refine XS.iloadN X0.here hx rfl (hb hby d1_7) rfl ?_
      show Steps p.tables e below (s₁.setTop (mkF m 8 #[.val (.ref ra0), .val (.int p1), .val (.int p2), .val (.long q3), .second, .val (.int p4), .val (.int p5), .val (.int p6), .val (.int p7), .val (.int p8), .unset] [(.int p1), (.int p4)])) _
      refine XS.iadd X0.here hx rfl (hb hby d1_8) rfl ?_
      refine XS.iload X0.here hx rfl (hb hby d1_9) rfl ?_
      suffices k89 : Steps p.tables e below (s₁.setTop (mkF m 25 #[.val (.ref ra0), .val (.int p1), .val (.int p2), .val (.long q3), .second, .val (.int p4), .val (.int p5), .val (.int p6), .val (.int p7), .val (.int p8), .unset] [(.int (v1_11_s0 p1 p5 p6)), (.int (p4 + p1))])) t by
        by_cases hc11_86 : p5 = (0 : Int32)
        · rw [(show (v1_11_s0 p1 p5 p6) = (0 : Int32) from if_pos hc11_86)] at k89
          show Steps p.tables e below (s₁.setTop (mkF m 11 #[.val (.ref ra0), .val (.int p1), .val (.int p2), .val (.long q3), .second, .val (.int p4), .val (.int p5), .val (.int p6), .val (.int p7), .val (.int p8), .unset] [(.int p5), (.int (p4 + p1))])) _
          refine XS.ifYes X0.here hx rfl (pc0 := 11) (pc' := 24) rfl (hb hby d1_11) rfl ((if0 _ _).trans (teq hc11_86).1) (by decide) (by decide) ?_
          refine XS.iconst X0.here hx rfl (hb hby d1_24) ?_
          exact k89
        · rw [(show (v1_11_s0 p1 p5 p6) = (v1_17_s0 p1 p6) from if_neg hc11_86)] at k89
          show Steps p.tables e below (s₁.setTop (mkF m 11 #[.val (.ref ra0), .val (.int p1), .val (.int p2), .val (.long q3), .second, .val (.int p4), .val (.int p5), .val (.int p6), .val (.int p7), .val (.int p8), .unset] [(.int p5), (.int (p4 + p1))])) _
          refine XS.ifNo X0.here hx rfl (hb hby d1_11) rfl ((if0 _ _).trans (feq hc11_86).1) ?_
          refine XS.iloadN X0.here hx rfl (hb hby d1_14) rfl ?_
          refine XS.iload X0.here hx rfl (hb hby d1_15) rfl ?_
          suffices k88 : Steps p.tables e below (s₁.setTop (mkF m 25 #[.val (.ref ra0), .val (.int p1), .val (.int p2), .val (.long q3), .second, .val (.int p4), .val (.int p5), .val (.int p6), .val (.int p7), .val (.int p8), .unset] [(.int (v1_17_s0 p1 p6)), (.int (p4 + p1))])) t by
            by_cases hc17_87 : p1 < p6
            · rw [(show (v1_17_s0 p1 p6) = (0 : Int32) from if_pos hc17_87)] at k88
              show Steps p.tables e below (s₁.setTop (mkF m 17 #[.val (.ref ra0), .val (.int p1), .val (.int p2), .val (.long q3), .second, .val (.int p4), .val (.int p5), .val (.int p6), .val (.int p7), .val (.int p8), .unset] [(.int p6), (.int p1), (.int (p4 + p1))])) _
              refine XS.icmpYes X0.here hx rfl (pc0 := 17) (pc' := 24) rfl (hb hby d1_17) rfl (tlt hc17_87).1 (by decide) (by decide) ?_
              refine XS.iconst X0.here hx rfl (hb hby d1_24) ?_
              exact k88
            · rw [(show (v1_17_s0 p1 p6) = (1 : Int32) from if_neg hc17_87)] at k88
              show Steps p.tables e below (s₁.setTop (mkF m 17 #[.val (.ref ra0), .val (.int p1), .val (.int p2), .val (.long q3), .second, .val (.int p4), .val (.int p5), .val (.int p6), .val (.int p7), .val (.int p8), .unset] [(.int p6), (.int p1), (.int (p4 + p1))])) _
              refine XS.icmpNo X0.here hx rfl (hb hby d1_17) rfl (flt hc17_87).1 ?_
              show Steps p.tables e below (s₁.setTop (mkF m 20 #[.val (.ref ra0), .val (.int p1), .val (.int p2), .val (.long q3), .second, .val (.int p4), .val (.int p5), .val (.int p6), .val (.int p7), .val (.int p8), .unset] [(.int (p4 + p1))])) _
              refine XS.iconst X0.here hx rfl (hb hby d1_20) ?_
              refine XS.goto X0.here hx rfl (pc0 := 21) (pc' := 25) rfl (hb hby d1_21) (by decide) (by decide) ?_
              exact k88
          exact k89
      refine XS.iadd X0.here hx rfl (hb hby d1_25) rfl ?_
      refine XS.iload X0.here hx rfl (hb hby d1_26) rfl ?_
      suffices k93 : Steps p.tables e below (s₁.setTop (mkF m 42 #[.val (.ref ra0), .val (.int p1), .val (.int p2), .val (.long q3), .second, .val (.int p4), .val (.int p5), .val (.int p6), .val (.int p7), .val (.int p8), .unset] [(.int (v1_28_s0 p1 p7 p8)), (.int ((p4 + p1) + (v1_11_s0 p1 p5 p6)))])) t by
        by_cases hc28_90 : p7 = (0 : Int32)
        · rw [(show (v1_28_s0 p1 p7 p8) = (0 : Int32) from if_pos hc28_90)] at k93
          show Steps p.tables e below (s₁.setTop (mkF m 28 #[.val (.ref ra0), .val (.int p1), .val (.int p2), .val (.long q3), .second, .val (.int p4), .val (.int p5), .val (.int p6), .val (.int p7), .val (.int p8), .unset] [(.int p7), (.int ((p4 + p1) + (v1_11_s0 p1 p5 p6)))])) _
          refine XS.ifYes X0.here hx rfl (pc0 := 28) (pc' := 41) rfl (hb hby d1_28) rfl ((if0 _ _).trans (teq hc28_90).1) (by decide) (by decide) ?_
          refine XS.iconst X0.here hx rfl (hb hby d1_41) ?_
          exact k93
        · rw [(show (v1_28_s0 p1 p7 p8) = (v1_34_s0 p1 p8) from if_neg hc28_90)] at k93
          show Steps p.tables e below (s₁.setTop (mkF m 28 #[.val (.ref ra0), .val (.int p1), .val (.int p2), .val (.long q3), .second, .val (.int p4), .val (.int p5), .val (.int p6), .val (.int p7), .val (.int p8), .unset] [(.int p7), (.int ((p4 + p1) + (v1_11_s0 p1 p5 p6)))])) _
          refine XS.ifNo X0.here hx rfl (hb hby d1_28) rfl ((if0 _ _).trans (feq hc28_90).1) ?_
          refine XS.iloadN X0.here hx rfl (hb hby d1_31) rfl ?_
          show Steps p.tables e below (s₁.setTop (mkF m 32 #[.val (.ref ra0), .val (.int p1), .val (.int p2), .val (.long q3), .second, .val (.int p4), .val (.int p5), .val (.int p6), .val (.int p7), .val (.int p8), .unset] [(.int p1), (.int ((p4 + p1) + (v1_11_s0 p1 p5 p6)))])) _
          refine XS.iload X0.here hx rfl (hb hby d1_32) rfl ?_
          suffices k92 : Steps p.tables e below (s₁.setTop (mkF m 42 #[.val (.ref ra0), .val (.int p1), .val (.int p2), .val (.long q3), .second, .val (.int p4), .val (.int p5), .val (.int p6), .val (.int p7), .val (.int p8), .unset] [(.int (v1_34_s0 p1 p8)), (.int ((p4 + p1) + (v1_11_s0 p1 p5 p6)))])) t by
            by_cases hc34_91 : p1 < p8
            · rw [(show (v1_34_s0 p1 p8) = (0 : Int32) from if_pos hc34_91)] at k92
              show Steps p.tables e below (s₁.setTop (mkF m 34 #[.val (.ref ra0), .val (.int p1), .val (.int p2), .val (.long q3), .second, .val (.int p4), .val (.int p5), .val (.int p6), .val (.int p7), .val (.int p8), .unset] [(.int p8), (.int p1), (.int ((p4 + p1) + (v1_11_s0 p1 p5 p6)))])) _
              refine XS.icmpYes X0.here hx rfl (pc0 := 34) (pc' := 41) rfl (hb hby d1_34) rfl (tlt hc34_91).1 (by decide) (by decide) ?_
              refine XS.iconst X0.here hx rfl (hb hby d1_41) ?_
              exact k92
            · rw [(show (v1_34_s0 p1 p8) = (1 : Int32) from if_neg hc34_91)] at k92
              show Steps p.tables e below (s₁.setTop (mkF m 34 #[.val (.ref ra0), .val (.int p1), .val (.int p2), .val (.long q3), .second, .val (.int p4), .val (.int p5), .val (.int p6), .val (.int p7), .val (.int p8), .unset] [(.int p8), (.int p1), (.int ((p4 + p1) + (v1_11_s0 p1 p5 p6)))])) _
              refine XS.icmpNo X0.here hx rfl (hb hby d1_34) rfl (flt hc34_91).1 ?_
              refine XS.iconst X0.here hx rfl (hb hby d1_37) ?_
              refine XS.goto X0.here hx rfl (pc0 := 38) (pc' := 42) rfl (hb hby d1_38) (by decide) (by decide) ?_
              exact k92
          exact k93
      refine XS.iadd X0.here hx rfl (hb hby d1_42) rfl ?_
      refine XS.istore X0.here hx rfl (hb hby d1_43) rfl (l' := #[.val (.ref ra0), .val (.int p1), .val (.int p2), .val (.long q3), .second, .val (.int p4), .val (.int p5), .val (.int p6), .val (.int p7), .val (.int p8), .val (.int (v1_43_l10 p1 p4 p5 p6 p7 p8))]) rfl ?_
      show Steps p.tables e below (s₁.setTop (mkF m 45 #[.val (.ref ra0), .val (.int p1), .val (.int p2), .val (.long q3), .second, .val (.int p4), .val (.int p5), .val (.int p6), .val (.int p7), .val (.int p8), .val (.int (v1_43_l10 p1 p4 p5 p6 p7 p8))] [])) _
      refine XS.aloadN X0.here hx rfl (hb hby d1_45) rfl rfl ?_
      refine XS.iload X0.here hx rfl (hb hby d1_46) rfl ?_
      refine X0.ldc2Long hx hown (mvT hZ (hw _ (List.mem_of_getElem? (i := 6) rfl))) (g := (mkF m 48 #[.val (.ref ra0), .val (.int p1), .val (.int p2), .val (.long q3), .second, .val (.int p4), .val (.int p5), .val (.int p6), .val (.int p7), .val (.int p8), .val (.int (v1_43_l10 p1 p4 p5 p6 p7 p8))] [(.int (v1_43_l10 p1 p4 p5 p6 p7 p8)), (.ref ra0)])) rfl (hb hby d1_48) _ ?_
      refine XS.lloadN X0.here hx rfl (hb hby d1_51) rfl ?_
      refine XS.iloadN X0.here hx rfl (hb hby d1_52) rfl ?_
      refine XS.iconst X0.here hx rfl (hb hby d1_53) ?_
      show Steps p.tables e below (s₁.setTop (mkF m 54 #[.val (.ref ra0), .val (.int p1), .val (.int p2), .val (.long q3), .second, .val (.int p4), .val (.int p5), .val (.int p6), .val (.int p7), .val (.int p8), .val (.int (v1_43_l10 p1 p4 p5 p6 p7 p8))] [(.int (1 : Int32)), (.int p2), (.long q3), (.long (48 : Int64)), (.int (v1_43_l10 p1 p4 p5 p6 p7 p8)), (.ref ra0)])) _
      refine XS.isub X0.here hx rfl (hb hby d1_54) rfl ?_
      refine XS.iloadN X0.here hx rfl (hb hby d1_55) rfl ?_
      refine XS.isub X0.here hx rfl (hb hby d1_56) rfl ?_
      exact kk)
    have Zz95 : n0 ≤ h0.size := (Nat.le_trans Z0 KC0.1)
    obtain ⟨_, _, ⟨T95, L95, k95, n95⟩, -, X95, ⟨Lc95, hQ95, l95, y95, z95⟩, st95⟩ := Jvm.LawKit.callS X0 hx (y := (⟨"com/example/gavelbook/gavelbook/DecimalsParsePinLaw", "pow10", "(I)J"⟩ : MethodName)) hown (mvT hZ (hw _ (List.mem_of_getElem? (i := 7) rfl))) (mvT hZ (hw _ (List.mem_of_getElem? (i := 8) rfl))) (mvT hZ (hw _ (List.mem_of_getElem? (i := 4) rfl))) (mvT hZ (hw _ (List.mem_of_getElem? (i := 9) rfl))) (by decide) (backOf (W := 6) (rm2 l Z a0 hw [] ((p2 - (1 : Int32)) - p1) h0 n0 Zz95 (hexp hc2_85 : ¬ ((p2 - (1 : Int32)) - p1) < 0 ∧ ((p2 - (1 : Int32)) - p1) < (19 : Int32))) hZ (hw _ (List.mem_of_getElem? (i := 9) rfl)) (hw _ (List.mem_of_getElem? (i := 4) rfl)) (by decide) (by decide)) (g := (mkF m 57 #[.val (.ref ra0), .val (.int p1), .val (.int p2), .val (.long q3), .second, .val (.int p4), .val (.int p5), .val (.int p6), .val (.int p7), .val (.int p8), .val (.int (v1_43_l10 p1 p4 p5 p6 p7 p8))] [(.int ((p2 - (1 : Int32)) - p1)), (.long q3), (.long (48 : Int64)), (.int (v1_43_l10 p1 p4 p5 p6 p7 p8)), (.ref ra0)])) rfl (by rw [hml]; rfl) (argsL := [(.int ((p2 - (1 : Int32)) - p1))]) (rest := [(.long q3), (.long (48 : Int64)), (.int (v1_43_l10 p1 p4 p5 p6 p7 p8)), (.ref ra0)]) (lenOf pd_0 rfl) rfl (by show 2 * 0 + _ ≤ _; exact Nat.le_of_eq rfl) (hb hby d1_57) (fun _ _ => ⟨rfl, e0, (by decide : 0 + 1 ≤ _), (by decide : 0 + 19 ≤ _)⟩)
    dsimp only [Pt.U, Pt.locs, Pt.cells, Pt.slots] at X95 l95 y95 z95 st95 hQ95
    subst l95 y95 z95
    obtain ⟨rfl, N95q, Kq95⟩ := hQ95
    have K95 : Keep h0 T95.heap [ra0] := KC0.trans Kq95 all0
    have N95 := Fr.app N0 N95q
    have k96 := fun (t : State) (kk : Steps p.tables e below (T95.setTop (mkF m 60 #[.val (.ref ra0), .val (.int p1), .val (.int p2), .val (.long q3), .second, .val (.int p4), .val (.int p5), .val (.int p6), .val (.int p7), .val (.int p8), .val (.int (v1_43_l10 p1 p4 p5 p6 p7 p8))] [(.long (v2_132_at ((p2 - (1 : Int32)) - p1))), (.long q3), (.long (48 : Int64)), (.int (v1_43_l10 p1 p4 p5 p6 p7 p8)), (.ref ra0)])) t) => k94 t (st95 _ kk)
    have k97 := fun (t : State) (kk : Steps p.tables e below (T95.setTop (mkF m 68 #[.val (.ref ra0), .val (.int p1), .val (.int p2), .val (.long q3), .second, .val (.int p4), .val (.int p5), .val (.int p6), .val (.int p7), .val (.int p8), .val (.int (v1_43_l10 p1 p4 p5 p6 p7 p8))] [(.int ((((48 : Int64) + ((q3 / (v2_132_at ((p2 - (1 : Int32)) - p1))) % (10 : Int64))).toInt32).toInt8.toInt32)), (.int (v1_43_l10 p1 p4 p5 p6 p7 p8)), (.ref ra0)])) t) => k96 t (by
      refine XS.ldiv X95.here hx rfl (hb hby d1_60) rfl (hnz hc2_85) ?_
      refine X95.ldc2Long hx hown (mvT hZ (hw _ (List.mem_of_getElem? (i := 11) rfl))) (g := (mkF m 61 #[.val (.ref ra0), .val (.int p1), .val (.int p2), .val (.long q3), .second, .val (.int p4), .val (.int p5), .val (.int p6), .val (.int p7), .val (.int p8), .val (.int (v1_43_l10 p1 p4 p5 p6 p7 p8))] [(.long (q3 / (v2_132_at ((p2 - (1 : Int32)) - p1)))), (.long (48 : Int64)), (.int (v1_43_l10 p1 p4 p5 p6 p7 p8)), (.ref ra0)])) rfl (hb hby d1_61) _ ?_
      refine own_lremM X95 hx rfl (hb hby d1_64) rfl (by decide) ?_
      show Steps p.tables e below (T95.setTop (mkF m 65 #[.val (.ref ra0), .val (.int p1), .val (.int p2), .val (.long q3), .second, .val (.int p4), .val (.int p5), .val (.int p6), .val (.int p7), .val (.int p8), .val (.int (v1_43_l10 p1 p4 p5 p6 p7 p8))] [(.long ((q3 / (v2_132_at ((p2 - (1 : Int32)) - p1))) % (10 : Int64))), (.long (48 : Int64)), (.int (v1_43_l10 p1 p4 p5 p6 p7 p8)), (.ref ra0)])) _
      refine XS.ladd X95.here hx rfl (hb hby d1_65) rfl ?_
      refine XS.l2i X95.here hx rfl (hb hby d1_66) rfl ?_
      refine XS.i2b X95.here hx rfl (hb hby d1_67) rfl ?_
      exact kk)
    have f98 := (V_ra0.keep Kq95 nin0)
    have hV99 := f98
    obtain ⟨cl99, Ar99, q99, S99, Nn99, H99, G99⟩ := hV99
    have hb100 : ¬ (v1_43_l10 p1 p4 p5 p6 p7 p8) < 0 ∧ (v1_43_l10 p1 p4 p5 p6 p7 p8) < n_ra0 := hpos
    have hin100 : ¬ ((v1_43_l10 p1 p4 p5 p6 p7 p8) < 0 ∨ cl99.slots.size ≤ ((v1_43_l10 p1 p4 p5 p6 p7 p8)).toNatClampNeg) := inb_of S99 hb100
    obtain ⟨T100, h100, X100, e100, W100, st100⟩ := stB X95 hx hZ rfl Ar99 (j := (v1_43_l10 p1 p4 p5 p6 p7 p8)) hin100 (g := (mkF m 68 #[.val (.ref ra0), .val (.int p1), .val (.int p2), .val (.long q3), .second, .val (.int p4), .val (.int p5), .val (.int p6), .val (.int p7), .val (.int p8), .val (.int (v1_43_l10 p1 p4 p5 p6 p7 p8))] [(.int ((((48 : Int64) + ((q3 / (v2_132_at ((p2 - (1 : Int32)) - p1))) % (10 : Int64))).toInt32).toInt8.toInt32)), (.int (v1_43_l10 p1 p4 p5 p6 p7 p8)), (.ref ra0)])) rfl rfl (hb hby d1_68)
    have hl100 : ((v1_43_l10 p1 p4 p5 p6 p7 p8)).toNatClampNeg < (List.map Value.int L_ra0).length := by rw [List.length_map, VL_ra0]; exact own_lt_nat hb100.1 hb100.2
    have V100r : Arv Z h100 ra0 k_ra0 .byte n_ra0 (List.map Value.int (L_ra0.set ((v1_43_l10 p1 p4 p5 p6 p7 p8)).toNatClampNeg ((((((48 : Int64) + ((q3 / (v2_132_at ((p2 - (1 : Int32)) - p1))) % (10 : Int64))).toInt32).toInt8.toInt32)).toInt8.toInt32))) (.int (0 : Int32)) := by rw [List.map_set]; exact Arv.set Ar99 q99 S99 Nn99 H99 G99 (fits_nar_byte _) W100 _ rfl hl100
    have V100 : Arv Z h100 ra0 k_ra0 .byte n_ra0 (List.map Value.int (v1_68_L p1 p2 q3 p4 p5 p6 p7 p8 L_ra0)) (.int (0 : Int32)) := V100r
    have VL100 : (v1_68_L p1 p2 q3 p4 p5 p6 p7 p8 L_ra0).length = (n_ra0).toNatClampNeg := (List.length_set).trans VL_ra0
    have K100 : Keep h0 h100 [ra0] := K95.wr W100 (Or.inl (List.mem_of_getElem? (i := 0) rfl))
    have N100 := Fr.snoc X100 N95 g_ra0
    have k101 := fun (t : State) (kk : Steps p.tables e below (T100.setTop (mkF m 69 #[.val (.ref ra0), .val (.int p1), .val (.int p2), .val (.long q3), .second, .val (.int p4), .val (.int p5), .val (.int p6), .val (.int p7), .val (.int p8), .val (.int (v1_43_l10 p1 p4 p5 p6 p7 p8))] [])) t) => k97 t (st100 _ kk)
    obtain ⟨fs, hr, hrun, hended, hW, hsame⟩ := X100.leave (v := none) (fun _ => rfl)
    have ha102 : (v1_a_ra0 p1 p2 q3 p4 p5 p6 p7 p8 L_ra0) = (v1_68_L p1 p2 q3 p4 p5 p6 p7 p8 L_ra0) := (if_pos hc2_85)
    refine ⟨_, _, k101 _ ?_, hrun, hended, _, _, rfl, ?_, ⟨_, rfl⟩, hW, hsame.mono (by decide) (by decide)⟩
    · show Steps p.tables e below (T100.setTop (mkF m 69 #[.val (.ref ra0), .val (.int p1), .val (.int p2), .val (.long q3), .second, .val (.int p4), .val (.int p5), .val (.int p6), .val (.int p7), .val (.int p8), .val (.int (v1_43_l10 p1 p4 p5 p6 p7 p8))] [])) _
      exact X100.returnOut hx Bd.returns (hb hby d1_69) hr
    · show Q1 Z ra0 p1 p2 q3 p4 p5 p6 p7 p8 k_ra0 n_ra0 L_ra0 h0 n0 _ T100.heap _
      rw [e100]
      exact ⟨rfl, N100, K100, (by rw [ha102]; exact V100), (by rw [ha102]; exact VL100)⟩
  · have k103 := fun (t : State) (kk : Steps p.tables e below (s₁.setTop (mkF m 69 #[.val (.ref ra0), .val (.int p1), .val (.int p2), .val (.long q3), .second, .val (.int p4), .val (.int p5), .val (.int p6), .val (.int p7), .val (.int p8), .unset] [])) t) => k84 t (by
      show Steps p.tables e below (s₁.setTop (mkF m 2 #[.val (.ref ra0), .val (.int p1), .val (.int p2), .val (.long q3), .second, .val (.int p4), .val (.int p5), .val (.int p6), .val (.int p7), .val (.int p8), .unset] [(.int p2), (.int p1)])) _
      refine XS.icmpYes X0.here hx rfl (pc0 := 2) (pc' := 69) rfl (hb hby d1_2) rfl (flt hc2_85).2.1 (by decide) (by decide) ?_
      exact kk)
    obtain ⟨fs, hr, hrun, hended, hW, hsame⟩ := X0.leave (v := none) (fun _ => rfl)
    have ha104 : (v1_a_ra0 p1 p2 q3 p4 p5 p6 p7 p8 L_ra0) = L_ra0 := (if_neg hc2_85)
    refine ⟨_, _, k103 _ ?_, hrun, hended, _, _, rfl, ?_, ⟨_, rfl⟩, hW, hsame.mono (by decide) (by decide)⟩
    · show Steps p.tables e below (s₁.setTop (mkF m 69 #[.val (.ref ra0), .val (.int p1), .val (.int p2), .val (.long q3), .second, .val (.int p4), .val (.int p5), .val (.int p6), .val (.int p7), .val (.int p8), .unset] [])) _
      exact X0.returnOut hx Bd.returns (hb hby d1_69) hr
    · show Q1 Z ra0 p1 p2 q3 p4 p5 p6 p7 p8 k_ra0 n_ra0 L_ra0 h0 n0 _ s₁.heap _
      rw [e0]
      exact ⟨rfl, N0, (Keep.refl h0 [ra0]), (by rw [ha104]; exact V_ra0), (by rw [ha104]; exact VL_ra0)⟩
theorem d3_0 : decode prog_15_method_2_code 0 = .ok (.lconst 0, 1) := by decide +kernel
theorem d3_1 : decode prog_15_method_2_code 1 = .ok (.lstore_n 3, 1) := by decide +kernel
theorem d3_2 : decode prog_15_method_2_code 2 = .ok (.iconst 0, 1) := by decide +kernel
theorem d3_3 : decode prog_15_method_2_code 3 = .ok (.istore 5, 2) := by decide +kernel
theorem d3_5 : decode prog_15_method_2_code 5 = .ok (.iconst (-1), 1) := by decide +kernel
theorem d3_6 : decode prog_15_method_2_code 6 = .ok (.istore 6, 2) := by decide +kernel
theorem d3_8 : decode prog_15_method_2_code 8 = .ok (.iload_n 1, 1) := by decide +kernel
theorem d3_9 : decode prog_15_method_2_code 9 = .ok (.istore 7, 2) := by decide +kernel
theorem d3_11 : decode prog_15_method_2_code 11 = .ok (.iload 7, 2) := by decide +kernel
theorem d3_13 : decode prog_15_method_2_code 13 = .ok (.iload_n 2, 1) := by decide +kernel
theorem d3_14 : decode prog_15_method_2_code 14 = .ok (.if_icmp .ge 71, 3) := by decide +kernel
theorem d3_17 : decode prog_15_method_2_code 17 = .ok (.aload_n 0, 1) := by decide +kernel
theorem d3_18 : decode prog_15_method_2_code 18 = .ok (.iload 7, 2) := by decide +kernel
theorem d3_20 : decode prog_15_method_2_code 20 = .ok (.baload, 1) := by decide +kernel
theorem d3_21 : decode prog_15_method_2_code 21 = .ok (.bipush 48, 2) := by decide +kernel
theorem d3_23 : decode prog_15_method_2_code 23 = .ok (.isub, 1) := by decide +kernel
theorem d3_24 : decode prog_15_method_2_code 24 = .ok (.istore 8, 2) := by decide +kernel
theorem d3_26 : decode prog_15_method_2_code 26 = .ok (.iload 8, 2) := by decide +kernel
theorem d3_28 : decode prog_15_method_2_code 28 = .ok (.ifCond .lt 26, 3) := by decide +kernel
theorem d3_31 : decode prog_15_method_2_code 31 = .ok (.iload 8, 2) := by decide +kernel
theorem d3_33 : decode prog_15_method_2_code 33 = .ok (.bipush 9, 2) := by decide +kernel
theorem d3_35 : decode prog_15_method_2_code 35 = .ok (.if_icmp .gt 19, 3) := by decide +kernel
theorem d3_38 : decode prog_15_method_2_code 38 = .ok (.ldc2_w 7, 3) := by decide +kernel
theorem d3_41 : decode prog_15_method_2_code 41 = .ok (.lload_n 3, 1) := by decide +kernel
theorem d3_42 : decode prog_15_method_2_code 42 = .ok (.lmul, 1) := by decide +kernel
theorem d3_43 : decode prog_15_method_2_code 43 = .ok (.iload 8, 2) := by decide +kernel
theorem d3_45 : decode prog_15_method_2_code 45 = .ok (.i2l, 1) := by decide +kernel
theorem d3_46 : decode prog_15_method_2_code 46 = .ok (.ladd, 1) := by decide +kernel
theorem d3_47 : decode prog_15_method_2_code 47 = .ok (.lstore_n 3, 1) := by decide +kernel
theorem d3_48 : decode prog_15_method_2_code 48 = .ok (.iinc 5 1, 3) := by decide +kernel
theorem d3_51 : decode prog_15_method_2_code 51 = .ok (.goto 28, 3) := by decide +kernel
theorem d3_54 : decode prog_15_method_2_code 54 = .ok (.aload_n 0, 1) := by decide +kernel
theorem d3_55 : decode prog_15_method_2_code 55 = .ok (.iload 7, 2) := by decide +kernel
theorem d3_57 : decode prog_15_method_2_code 57 = .ok (.baload, 1) := by decide +kernel
theorem d3_58 : decode prog_15_method_2_code 58 = .ok (.bipush 46, 2) := by decide +kernel
theorem d3_60 : decode prog_15_method_2_code 60 = .ok (.if_icmp .ne 15, 3) := by decide +kernel
theorem d3_63 : decode prog_15_method_2_code 63 = .ok (.iload 6, 2) := by decide +kernel
theorem d3_65 : decode prog_15_method_2_code 65 = .ok (.ifCond .ge 10, 3) := by decide +kernel
theorem d3_68 : decode prog_15_method_2_code 68 = .ok (.iload 7, 2) := by decide +kernel
theorem d3_70 : decode prog_15_method_2_code 70 = .ok (.istore 6, 2) := by decide +kernel
theorem d3_72 : decode prog_15_method_2_code 72 = .ok (.goto 7, 3) := by decide +kernel
theorem d3_75 : decode prog_15_method_2_code 75 = .ok (.ldc2_w 11, 3) := by decide +kernel
theorem d3_78 : decode prog_15_method_2_code 78 = .ok (.lreturn, 1) := by decide +kernel
theorem d3_79 : decode prog_15_method_2_code 79 = .ok (.iinc 7 1, 3) := by decide +kernel
theorem d3_82 : decode prog_15_method_2_code 82 = .ok (.goto (-71), 3) := by decide +kernel
theorem d3_85 : decode prog_15_method_2_code 85 = .ok (.iload 6, 2) := by decide +kernel
theorem d3_87 : decode prog_15_method_2_code 87 = .ok (.ifCond .ge 7, 3) := by decide +kernel
theorem d3_90 : decode prog_15_method_2_code 90 = .ok (.iconst 0, 1) := by decide +kernel
theorem d3_91 : decode prog_15_method_2_code 91 = .ok (.goto 9, 3) := by decide +kernel
theorem d3_94 : decode prog_15_method_2_code 94 = .ok (.iload_n 2, 1) := by decide +kernel
theorem d3_95 : decode prog_15_method_2_code 95 = .ok (.iload 6, 2) := by decide +kernel
theorem d3_97 : decode prog_15_method_2_code 97 = .ok (.isub, 1) := by decide +kernel
theorem d3_98 : decode prog_15_method_2_code 98 = .ok (.iconst 1, 1) := by decide +kernel
theorem d3_99 : decode prog_15_method_2_code 99 = .ok (.isub, 1) := by decide +kernel
theorem d3_100 : decode prog_15_method_2_code 100 = .ok (.istore 7, 2) := by decide +kernel
theorem d3_102 : decode prog_15_method_2_code 102 = .ok (.iload_n 1, 1) := by decide +kernel
theorem d3_103 : decode prog_15_method_2_code 103 = .ok (.iload_n 2, 1) := by decide +kernel
theorem d3_104 : decode prog_15_method_2_code 104 = .ok (.if_icmp .eq 26, 3) := by decide +kernel
theorem d3_107 : decode prog_15_method_2_code 107 = .ok (.iload 6, 2) := by decide +kernel
theorem d3_109 : decode prog_15_method_2_code 109 = .ok (.iload_n 1, 1) := by decide +kernel
theorem d3_110 : decode prog_15_method_2_code 110 = .ok (.if_icmp .eq 20, 3) := by decide +kernel
theorem d3_113 : decode prog_15_method_2_code 113 = .ok (.iload 6, 2) := by decide +kernel
theorem d3_115 : decode prog_15_method_2_code 115 = .ok (.ifCond .lt 23, 3) := by decide +kernel
theorem d3_118 : decode prog_15_method_2_code 118 = .ok (.iload 7, 2) := by decide +kernel
theorem d3_120 : decode prog_15_method_2_code 120 = .ok (.ifCond .eq 10, 3) := by decide +kernel
theorem d3_123 : decode prog_15_method_2_code 123 = .ok (.iload 7, 2) := by decide +kernel
theorem d3_125 : decode prog_15_method_2_code 125 = .ok (.bipush 8, 2) := by decide +kernel
theorem d3_127 : decode prog_15_method_2_code 127 = .ok (.if_icmp .le 11, 3) := by decide +kernel
theorem d3_130 : decode prog_15_method_2_code 130 = .ok (.ldc2_w 11, 3) := by decide +kernel
theorem d3_133 : decode prog_15_method_2_code 133 = .ok (.lstore 8, 2) := by decide +kernel
theorem d3_135 : decode prog_15_method_2_code 135 = .ok (.goto 27, 3) := by decide +kernel
theorem d3_138 : decode prog_15_method_2_code 138 = .ok (.iload 5, 2) := by decide +kernel
theorem d3_140 : decode prog_15_method_2_code 140 = .ok (.bipush 17, 2) := by decide +kernel
theorem d3_142 : decode prog_15_method_2_code 142 = .ok (.if_icmp .le 11, 3) := by decide +kernel
theorem d3_145 : decode prog_15_method_2_code 145 = .ok (.ldc2_w 13, 3) := by decide +kernel
theorem d3_148 : decode prog_15_method_2_code 148 = .ok (.lstore 8, 2) := by decide +kernel
theorem d3_150 : decode prog_15_method_2_code 150 = .ok (.goto 12, 3) := by decide +kernel
theorem d3_153 : decode prog_15_method_2_code 153 = .ok (.lload_n 3, 1) := by decide +kernel
theorem d3_154 : decode prog_15_method_2_code 154 = .ok (.iconst 4, 1) := by decide +kernel
theorem d3_155 : decode prog_15_method_2_code 155 = .ok (.lshl, 1) := by decide +kernel
theorem d3_156 : decode prog_15_method_2_code 156 = .ok (.iload 7, 2) := by decide +kernel
theorem d3_158 : decode prog_15_method_2_code 158 = .ok (.i2l, 1) := by decide +kernel
theorem d3_159 : decode prog_15_method_2_code 159 = .ok (.lor, 1) := by decide +kernel
theorem d3_160 : decode prog_15_method_2_code 160 = .ok (.lstore 8, 2) := by decide +kernel
theorem d3_162 : decode prog_15_method_2_code 162 = .ok (.lload 8, 2) := by decide +kernel
theorem d3_164 : decode prog_15_method_2_code 164 = .ok (.lreturn, 1) := by decide +kernel
theorem os3_lstore_8_R_I_I_J_s_I_I_I_S_u {z0 : Value} {z1 : Value} {z2 : Value} {z3 : Int64} {z5 : Value} {z6 : Value} {z7 : Value} {s8 : Slot} {v : Int64} (h_s8 : One s8) : storeLocals #[.val z0, .val z1, .val z2, .val (.long z3), .second, .val z5, .val z6, .val z7, s8, .unset] 8 (.long v) = some #[.val z0, .val z1, .val z2, .val (.long z3), .second, .val z5, .val z6, .val z7, .val (.long v), .second] := by
  rcases h_s8 with rfl | ⟨w_s8, rfl, hw_s8⟩
  all_goals first | rfl | (cases w_s8 <;> first | rfl | (simp [Value.category] at hw_s8)) | skip
theorem os3_istore_8_R_I_I_J_s_I_I_I_S_u {z0 : Value} {z1 : Value} {z2 : Value} {z3 : Int64} {z5 : Value} {z6 : Value} {z7 : Value} {s8 : Slot} {v : Int32} (h_s8 : One s8) : storeLocals #[.val z0, .val z1, .val z2, .val (.long z3), .second, .val z5, .val z6, .val z7, s8, .unset] 8 (.int v) = some #[.val z0, .val z1, .val z2, .val (.long z3), .second, .val z5, .val z6, .val z7, .val (.int v), .unset] := by
  rcases h_s8 with rfl | ⟨w_s8, rfl, hw_s8⟩
  all_goals first | rfl | (cases w_s8 <;> first | rfl | (simp [Value.category] at hw_s8)) | skip
theorem pn_227 : plainName "com/example/gavelbook/gavelbook/Decimals" = true := by first | (simp [plainName, overriddenIn]; done) | decide +kernel
def v3_87_s0 (p2 : Int32) (pt : Int32) : Int32 := if pt < (0 : Int32) then (0 : Int32) else ((p2 - pt) - (1 : Int32))
def v3_160_l8 (p2 : Int32) (q : Int64) (pt : Int32) : Int64 := ((q <<< ((4 : Int32) &&& 0x3f).toInt64) ||| ((v3_87_s0 p2 pt).toInt64))
def v3_142_l8 (p2 : Int32) (q : Int64) (d : Int32) (pt : Int32) : Int64 := if (17 : Int32) < d then (-2 : Int64) else (v3_160_l8 p2 q pt)
def v3_127_l8 (p2 : Int32) (q : Int64) (d : Int32) (pt : Int32) : Int64 := if (8 : Int32) < (v3_87_s0 p2 pt) then (-1 : Int64) else (v3_142_l8 p2 q d pt)
def v3_120_l8 (p2 : Int32) (q : Int64) (d : Int32) (pt : Int32) : Int64 := if (v3_87_s0 p2 pt) = (0 : Int32) then (-1 : Int64) else (v3_127_l8 p2 q d pt)
def v3_115_l8 (p2 : Int32) (q : Int64) (d : Int32) (pt : Int32) : Int64 := if pt < (0 : Int32) then (v3_142_l8 p2 q d pt) else (v3_120_l8 p2 q d pt)
def v3_110_l8 (p1 : Int32) (p2 : Int32) (q : Int64) (d : Int32) (pt : Int32) : Int64 := if pt = p1 then (-1 : Int64) else (v3_115_l8 p2 q d pt)
def v3_104_l8 (p1 : Int32) (p2 : Int32) (q : Int64) (d : Int32) (pt : Int32) : Int64 := if p1 = p2 then (-1 : Int64) else (v3_110_l8 p1 p2 q d pt)
def v3_20_at (L_ra0 : List Int32) (i : Int32) : Int32 := (L_ra0.getD (i).toNatClampNeg (0 : Int32))
def v3_24_l8 (L_ra0 : List Int32) (i : Int32) : Int32 := ((v3_20_at L_ra0 i) - (48 : Int32))
def v3_57_at (L_ra0 : List Int32) (i : Int32) : Int32 := (L_ra0.getD (i).toNatClampNeg (0 : Int32))
def v3_47_l3 (L_ra0 : List Int32) (q : Int64) (i : Int32) : Int64 := (((10 : Int64) * q) + ((v3_24_l8 L_ra0 i).toInt64))
def own_parse (p1 p2 : Int32) (L_ra0 : List Int32) : Nat → Int64 → Int32 → Int32 → Int32 → Int64
  | 0, q, d, pt, i => (v3_104_l8 p1 p2 q d pt)
  | N + 1, q, d, pt, i => (if i < p2 then (if (v3_24_l8 L_ra0 i) < (0 : Int32) then (if (v3_57_at L_ra0 i) = (46 : Int32) then (if pt < (0 : Int32) then (own_parse p1 p2 L_ra0 N q d i (i + (1 : Int32))) else (-1 : Int64)) else (-1 : Int64)) else (if (9 : Int32) < (v3_24_l8 L_ra0 i) then (if (v3_57_at L_ra0 i) = (46 : Int32) then (if pt < (0 : Int32) then (own_parse p1 p2 L_ra0 N q d i (i + (1 : Int32))) else (-1 : Int64)) else (-1 : Int64)) else (own_parse p1 p2 L_ra0 N (v3_47_l3 L_ra0 q i) (d + (1 : Int32)) pt (i + (1 : Int32))))) else (v3_104_l8 p1 p2 q d pt))
theorem own_parse_succ (p1 p2 : Int32) (L_ra0 : List Int32) (N : Nat) (q : Int64) (d pt i : Int32) : own_parse p1 p2 L_ra0 (N + 1) q d pt i = (if i < p2 then (if (v3_24_l8 L_ra0 i) < (0 : Int32) then (if (v3_57_at L_ra0 i) = (46 : Int32) then (if pt < (0 : Int32) then (own_parse p1 p2 L_ra0 N q d i (i + (1 : Int32))) else (-1 : Int64)) else (-1 : Int64)) else (if (9 : Int32) < (v3_24_l8 L_ra0 i) then (if (v3_57_at L_ra0 i) = (46 : Int32) then (if pt < (0 : Int32) then (own_parse p1 p2 L_ra0 N q d i (i + (1 : Int32))) else (-1 : Int64)) else (-1 : Int64)) else (own_parse p1 p2 L_ra0 N (v3_47_l3 L_ra0 q i) (d + (1 : Int32)) pt (i + (1 : Int32))))) else (v3_104_l8 p1 p2 q d pt)) := rfl
theorem ef_rm3 (m : MethodId) (ra0 : Addr) (p1 : Int32) (p2 : Int32) : entryFrame m #[(.ref ra0), (.int p1), (.int p2)] 10 = mkF m 0 #[.val (.ref ra0), .val (.int p1), .val (.int p2), .unset, .unset, .unset, .unset, .unset, .unset, .unset] [] := by first | (simp [entryFrame, mkF, argsToLocals, Value.category]; done) | rfl
def Q3 (Z : State) (ra0 : Addr) (p1 : Int32) (p2 : Int32) (k_ra0 : ClassId) (n_ra0 : Int32) (L_ra0 : List Int32) (h0 : Heap) (n0 : Nat) (v : Option Value) (h : Heap) (L : List Loc) : Prop := v = some (.long (own_parse p1 p2 L_ra0 (p2.toInt - p1.toInt).toNat (0 : Int64) (0 : Int32) (-1 : Int32) p1)) ∧ Fr n0 L ∧ h = h0
set_option maxRecDepth 65536 in
set_option maxHeartbeats 40000000 in
theorem rm3 (l : Launch) (Z : State) (a0 : Array Value) (hw : ∀ d ∈ tables_1, d.before a0 Z = true) (ws : List Jvm.Cond) (ra0 : Addr) (p1 : Int32) (p2 : Int32) (k_ra0 : ClassId) (n_ra0 : Int32) (L_ra0 : List Int32) (h0 : Heap) (n0 : Nat) (Z0 : n0 ≤ h0.size) (hst : ¬ p1 < 0) (hfin : ¬ n_ra0 < p2) (V_ra0 : Arv Z h0 ra0 k_ra0 .byte n_ra0 (List.map Value.int L_ra0) (.int (0 : Int32))) (VL_ra0 : L_ra0.length = n_ra0.toNatClampNeg) :
    MetFree l (⟨"com/example/gavelbook/gavelbook/Decimals", "parse", "([BII)J"⟩ : MethodName) (head1 (Jvm.Cond.code (⟨"com/example/gavelbook/gavelbook/Decimals", "parse", "([BII)J"⟩ : MethodName) prog_15_method_2_code 10 (some .long) :: ws) ({ frames := 0, cells := 0, slots := 0, locals := 0 } : Room)) (fun a U => a = #[(.ref ra0), (.int p1), (.int p2)] ∧ Z.Warmed39 U.vm ∧ U.heap = h0) (fun _ _ _ _ _ => True) (fun _ U o U' => ∃ v L, o = .returned v ∧ Q3 Z ra0 p1 p2 k_ra0 n_ra0 L_ra0 h0 n0 v U'.heap L ∧ FrameEnd U o U' L ({ frames := 0, cells := 0, slots := 0, locals := 0 } : Room).cells ({ frames := 0, cells := 0, slots := 0, locals := 0 } : Room).slots) := by
  refine MetFree.of_bodySF (plainFor_of_name pn_227) hisR ?_
  intro p e s m args below meth c s₁ Bd hml0 hP hK
  obtain ⟨rfl, hZ, hh⟩ := hP
  have hx := Bd.exec
  have hby := Bd.bytes
  have hml : c.maxLocals = 10 := hml0
  have hown : s.vm.findClass "com/example/gavelbook/gavelbook/Decimals" = some m.cls := findClass_of_methodNamed Bd.named
  have hnm := (name_of_methodNamed Bd.named Bd.method).1
  have X0 : Stand p l e ({ frames := 0, cells := 0, slots := 0, locals := 0 } : Room) s m #[(.ref ra0), (.int p1), (.int p2)] below meth c s₁ [] 0 0 := Stand.of_body Bd
  have e0 : s₁.heap = h0 := by rw [← hh, Bd.state]; rfl
  have N0 := Fr.nil n0
  have KC0 := Keep.refl h0 ([] : List Addr)
  have pre0 : ∀ t, Steps p.tables e below (s₁.setTop (mkF m 0 #[.val (.ref ra0), .val (.int p1), .val (.int p2), .unset, .unset, .unset, .unset, .unset, .unset, .unset] [])) t → Steps p.tables e below (s₁.setTop (entryFrame m #[(.ref ra0), (.int p1), (.int p2)] 10)) t := fun t k => castTop (ef_rm3 m ra0 p1 p2) k
  have k105 := fun (t : State) (kk : Steps p.tables e below (s₁.setTop (mkF m 11 #[.val (.ref ra0), .val (.int p1), .val (.int p2), .val (.long (0 : Int64)), .second, .val (.int (0 : Int32)), .val (.int (-1 : Int32)), .val (.int p1), .unset, .unset] [])) t) => pre0 t (by
    show Steps p.tables e below (s₁.setTop (mkF m 0 #[.val (.ref ra0), .val (.int p1), .val (.int p2), .unset, .unset, .unset, .unset, .unset, .unset, .unset] [])) _
    refine XS.lconst X0.here hx rfl (hb hby d3_0) ?_
    refine XS.lstoreN X0.here hx rfl (hb hby d3_1) rfl (l' := #[.val (.ref ra0), .val (.int p1), .val (.int p2), .val (.long (0 : Int64)), .second, .unset, .unset, .unset, .unset, .unset]) rfl ?_
    refine XS.iconst X0.here hx rfl (hb hby d3_2) ?_
    refine XS.istore X0.here hx rfl (hb hby d3_3) rfl (l' := #[.val (.ref ra0), .val (.int p1), .val (.int p2), .val (.long (0 : Int64)), .second, .val (.int (0 : Int32)), .unset, .unset, .unset, .unset]) rfl ?_
    refine XS.iconst X0.here hx rfl (hb hby d3_5) ?_
    refine XS.istore X0.here hx rfl (hb hby d3_6) rfl (l' := #[.val (.ref ra0), .val (.int p1), .val (.int p2), .val (.long (0 : Int64)), .second, .val (.int (0 : Int32)), .val (.int (-1 : Int32)), .unset, .unset, .unset]) rfl ?_
    show Steps p.tables e below (s₁.setTop (mkF m 8 #[.val (.ref ra0), .val (.int p1), .val (.int p2), .val (.long (0 : Int64)), .second, .val (.int (0 : Int32)), .val (.int (-1 : Int32)), .unset, .unset, .unset] [])) _
    refine XS.iloadN X0.here hx rfl (hb hby d3_8) rfl ?_
    refine XS.istore X0.here hx rfl (hb hby d3_9) rfl (l' := #[.val (.ref ra0), .val (.int p1), .val (.int p2), .val (.long (0 : Int64)), .second, .val (.int (0 : Int32)), .val (.int (-1 : Int32)), .val (.int p1), .unset, .unset]) rfl ?_
    exact kk)
  have loop106 : ∀ (N : Nat) (q : Int64) (d : Int32) (pt : Int32) (i : Int32) (s8 : Slot) (hs8 : One s8) (TL : State) (XL : Stand p l e ({ frames := 0, cells := 0, slots := 0, locals := 0 } : Room) s m #[(.ref ra0), (.int p1), (.int p2)] below meth c TL [] 0 0) (eL : TL.heap = h0) (hR : own_parse p1 p2 L_ra0 N q d pt i = (own_parse p1 p2 L_ra0 (p2.toInt - p1.toInt).toNat (0 : Int64) (0 : Int32) (-1 : Int32) p1)) (hi : ¬ i < 0) (hm : p2.toInt - i.toInt ≤ ((N : Nat) : Int)) (kL : ∀ t, Steps p.tables e below (TL.setTop (mkF m 11 #[.val (.ref ra0), .val (.int p1), .val (.int p2), .val (.long q), .second, .val (.int d), .val (.int pt), .val (.int i), s8, .unset] [])) t → Steps p.tables e below (s₁.setTop (entryFrame m #[(.ref ra0), (.int p1), (.int p2)] 10)) t), ∃ (s₂ : State) (o : Outcome), Steps p.tables e below (s₁.setTop (entryFrame m #[(.ref ra0), (.int p1), (.int p2)] 10)) s₂ ∧ s₂.status = .running ∧ Ended s₂ below o ∧ ∃ v L, o = .returned v ∧ Q3 Z ra0 p1 p2 k_ra0 n_ra0 L_ra0 h0 n0 v s₂.heap L ∧ FrameEnd s o s₂ L ({ frames := 0, cells := 0, slots := 0, locals := 0 } : Room).cells ({ frames := 0, cells := 0, slots := 0, locals := 0 } : Room).slots := by
    intro N
    induction N with
    | zero =>
      intro q d pt i s8 hs8 TL XL eL hR hi hm kL
      have k107 := fun (t : State) (kk : Steps p.tables e below (TL.setTop (mkF m 14 #[.val (.ref ra0), .val (.int p1), .val (.int p2), .val (.long q), .second, .val (.int d), .val (.int pt), .val (.int i), s8, .unset] [(.int p2), (.int i)])) t) => kL t (by
        refine XS.iload XL.here hx rfl (hb hby d3_11) rfl ?_
        refine XS.iloadN XL.here hx rfl (hb hby d3_13) rfl ?_
        exact kk)
      have hc14_108 : ¬ (i < p2) := own_zero hm
      have k125 := fun (t : State) (kk : Steps p.tables e below (TL.setTop (mkF m 164 #[.val (.ref ra0), .val (.int p1), .val (.int p2), .val (.long q), .second, .val (.int d), .val (.int pt), .val (.int (v3_87_s0 p2 pt)), .val (.long (v3_104_l8 p1 p2 q d pt)), .second] [(.long (v3_104_l8 p1 p2 q d pt))])) t) => k107 t (by
        show Steps p.tables e below (TL.setTop (mkF m 14 #[.val (.ref ra0), .val (.int p1), .val (.int p2), .val (.long q), .second, .val (.int d), .val (.int pt), .val (.int i), s8, .unset] [(.int p2), (.int i)])) _
        refine XS.icmpYes XL.here hx rfl (pc0 := 14) (pc' := 85) rfl (hb hby d3_14) rfl (flt hc14_108).2.1 (by decide) (by decide) ?_
        refine XS.iload XL.here hx rfl (hb hby d3_85) rfl ?_
        suffices k110 : Steps p.tables e below (TL.setTop (mkF m 100 #[.val (.ref ra0), .val (.int p1), .val (.int p2), .val (.long q), .second, .val (.int d), .val (.int pt), .val (.int i), s8, .unset] [(.int (v3_87_s0 p2 pt))])) t by
          by_cases hc87_109 : pt < (0 : Int32)
          · rw [(show (v3_87_s0 p2 pt) = (0 : Int32) from if_pos hc87_109)] at k110
            show Steps p.tables e below (TL.setTop (mkF m 87 #[.val (.ref ra0), .val (.int p1), .val (.int p2), .val (.long q), .second, .val (.int d), .val (.int pt), .val (.int i), s8, .unset] [(.int pt)])) _
            refine XS.ifNo XL.here hx rfl (hb hby d3_87) rfl ((if0 _ _).trans (tlt hc87_109).2.1) ?_
            refine XS.iconst XL.here hx rfl (hb hby d3_90) ?_
            show Steps p.tables e below (TL.setTop (mkF m 91 #[.val (.ref ra0), .val (.int p1), .val (.int p2), .val (.long q), .second, .val (.int d), .val (.int pt), .val (.int i), s8, .unset] [(.int (0 : Int32))])) _
            refine XS.goto XL.here hx rfl (pc0 := 91) (pc' := 100) rfl (hb hby d3_91) (by decide) (by decide) ?_
            exact k110
          · rw [(show (v3_87_s0 p2 pt) = ((p2 - pt) - (1 : Int32)) from if_neg hc87_109)] at k110
            show Steps p.tables e below (TL.setTop (mkF m 87 #[.val (.ref ra0), .val (.int p1), .val (.int p2), .val (.long q), .second, .val (.int d), .val (.int pt), .val (.int i), s8, .unset] [(.int pt)])) _
            refine XS.ifYes XL.here hx rfl (pc0 := 87) (pc' := 94) rfl (hb hby d3_87) rfl ((if0 _ _).trans (flt hc87_109).2.1) (by decide) (by decide) ?_
            refine XS.iloadN XL.here hx rfl (hb hby d3_94) rfl ?_
            refine XS.iload XL.here hx rfl (hb hby d3_95) rfl ?_
            refine XS.isub XL.here hx rfl (hb hby d3_97) rfl ?_
            refine XS.iconst XL.here hx rfl (hb hby d3_98) ?_
            refine XS.isub XL.here hx rfl (hb hby d3_99) rfl ?_
            exact k110
        show Steps p.tables e below (TL.setTop (mkF m 100 #[.val (.ref ra0), .val (.int p1), .val (.int p2), .val (.long q), .second, .val (.int d), .val (.int pt), .val (.int i), s8, .unset] [(.int (v3_87_s0 p2 pt))])) _
        refine XS.istore XL.here hx rfl (hb hby d3_100) rfl (l' := #[.val (.ref ra0), .val (.int p1), .val (.int p2), .val (.long q), .second, .val (.int d), .val (.int pt), .val (.int (v3_87_s0 p2 pt)), s8, .unset]) rfl ?_
        refine XS.iloadN XL.here hx rfl (hb hby d3_102) rfl ?_
        refine XS.iloadN XL.here hx rfl (hb hby d3_103) rfl ?_
        suffices k124 : Steps p.tables e below (TL.setTop (mkF m 162 #[.val (.ref ra0), .val (.int p1), .val (.int p2), .val (.long q), .second, .val (.int d), .val (.int pt), .val (.int (v3_87_s0 p2 pt)), .val (.long (v3_104_l8 p1 p2 q d pt)), .second] [])) t by
          by_cases hc104_111 : p1 = p2
          · rw [(show (v3_104_l8 p1 p2 q d pt) = (-1 : Int64) from if_pos hc104_111)] at k124
            show Steps p.tables e below (TL.setTop (mkF m 104 #[.val (.ref ra0), .val (.int p1), .val (.int p2), .val (.long q), .second, .val (.int d), .val (.int pt), .val (.int (v3_87_s0 p2 pt)), s8, .unset] [(.int p2), (.int p1)])) _
            refine XS.icmpYes XL.here hx rfl (pc0 := 104) (pc' := 130) rfl (hb hby d3_104) rfl (teq hc104_111).1 (by decide) (by decide) ?_
            refine XL.ldc2Long hx hown (mvT hZ (hw _ (List.mem_of_getElem? (i := 34) rfl))) (g := (mkF m 130 #[.val (.ref ra0), .val (.int p1), .val (.int p2), .val (.long q), .second, .val (.int d), .val (.int pt), .val (.int (v3_87_s0 p2 pt)), s8, .unset] [])) rfl (hb hby d3_130) _ ?_
            refine XS.lstore XL.here hx rfl (hb hby d3_133) rfl (l' := #[.val (.ref ra0), .val (.int p1), .val (.int p2), .val (.long q), .second, .val (.int d), .val (.int pt), .val (.int (v3_87_s0 p2 pt)), .val (.long (-1 : Int64)), .second]) (os3_lstore_8_R_I_I_J_s_I_I_I_S_u hs8) ?_
            refine XS.goto XL.here hx rfl (pc0 := 135) (pc' := 162) rfl (hb hby d3_135) (by decide) (by decide) ?_
            exact k124
          · rw [(show (v3_104_l8 p1 p2 q d pt) = (v3_110_l8 p1 p2 q d pt) from if_neg hc104_111)] at k124
            show Steps p.tables e below (TL.setTop (mkF m 104 #[.val (.ref ra0), .val (.int p1), .val (.int p2), .val (.long q), .second, .val (.int d), .val (.int pt), .val (.int (v3_87_s0 p2 pt)), s8, .unset] [(.int p2), (.int p1)])) _
            refine XS.icmpNo XL.here hx rfl (hb hby d3_104) rfl (feq hc104_111).1 ?_
            show Steps p.tables e below (TL.setTop (mkF m 107 #[.val (.ref ra0), .val (.int p1), .val (.int p2), .val (.long q), .second, .val (.int d), .val (.int pt), .val (.int (v3_87_s0 p2 pt)), s8, .unset] [])) _
            refine XS.iload XL.here hx rfl (hb hby d3_107) rfl ?_
            refine XS.iloadN XL.here hx rfl (hb hby d3_109) rfl ?_
            suffices k123 : Steps p.tables e below (TL.setTop (mkF m 162 #[.val (.ref ra0), .val (.int p1), .val (.int p2), .val (.long q), .second, .val (.int d), .val (.int pt), .val (.int (v3_87_s0 p2 pt)), .val (.long (v3_110_l8 p1 p2 q d pt)), .second] [])) t by
              by_cases hc110_112 : pt = p1
              · rw [(show (v3_110_l8 p1 p2 q d pt) = (-1 : Int64) from if_pos hc110_112)] at k123
                show Steps p.tables e below (TL.setTop (mkF m 110 #[.val (.ref ra0), .val (.int p1), .val (.int p2), .val (.long q), .second, .val (.int d), .val (.int pt), .val (.int (v3_87_s0 p2 pt)), s8, .unset] [(.int p1), (.int pt)])) _
                refine XS.icmpYes XL.here hx rfl (pc0 := 110) (pc' := 130) rfl (hb hby d3_110) rfl (teq hc110_112).1 (by decide) (by decide) ?_
                refine XL.ldc2Long hx hown (mvT hZ (hw _ (List.mem_of_getElem? (i := 34) rfl))) (g := (mkF m 130 #[.val (.ref ra0), .val (.int p1), .val (.int p2), .val (.long q), .second, .val (.int d), .val (.int pt), .val (.int (v3_87_s0 p2 pt)), s8, .unset] [])) rfl (hb hby d3_130) _ ?_
                refine XS.lstore XL.here hx rfl (hb hby d3_133) rfl (l' := #[.val (.ref ra0), .val (.int p1), .val (.int p2), .val (.long q), .second, .val (.int d), .val (.int pt), .val (.int (v3_87_s0 p2 pt)), .val (.long (-1 : Int64)), .second]) (os3_lstore_8_R_I_I_J_s_I_I_I_S_u hs8) ?_
                refine XS.goto XL.here hx rfl (pc0 := 135) (pc' := 162) rfl (hb hby d3_135) (by decide) (by decide) ?_
                exact k123
              · rw [(show (v3_110_l8 p1 p2 q d pt) = (v3_115_l8 p2 q d pt) from if_neg hc110_112)] at k123
                show Steps p.tables e below (TL.setTop (mkF m 110 #[.val (.ref ra0), .val (.int p1), .val (.int p2), .val (.long q), .second, .val (.int d), .val (.int pt), .val (.int (v3_87_s0 p2 pt)), s8, .unset] [(.int p1), (.int pt)])) _
                refine XS.icmpNo XL.here hx rfl (hb hby d3_110) rfl (feq hc110_112).1 ?_
                refine XS.iload XL.here hx rfl (hb hby d3_113) rfl ?_
                suffices k122 : Steps p.tables e below (TL.setTop (mkF m 162 #[.val (.ref ra0), .val (.int p1), .val (.int p2), .val (.long q), .second, .val (.int d), .val (.int pt), .val (.int (v3_87_s0 p2 pt)), .val (.long (v3_115_l8 p2 q d pt)), .second] [])) t by
                  by_cases hc115_113 : pt < (0 : Int32)
                  · rw [(show (v3_115_l8 p2 q d pt) = (v3_142_l8 p2 q d pt) from if_pos hc115_113)] at k122
                    show Steps p.tables e below (TL.setTop (mkF m 115 #[.val (.ref ra0), .val (.int p1), .val (.int p2), .val (.long q), .second, .val (.int d), .val (.int pt), .val (.int (v3_87_s0 p2 pt)), s8, .unset] [(.int pt)])) _
                    refine XS.ifYes XL.here hx rfl (pc0 := 115) (pc' := 138) rfl (hb hby d3_115) rfl ((if0 _ _).trans (tlt hc115_113).1) (by decide) (by decide) ?_
                    show Steps p.tables e below (TL.setTop (mkF m 138 #[.val (.ref ra0), .val (.int p1), .val (.int p2), .val (.long q), .second, .val (.int d), .val (.int pt), .val (.int (v3_87_s0 p2 pt)), s8, .unset] [])) _
                    refine XS.iload XL.here hx rfl (hb hby d3_138) rfl ?_
                    refine XS.bipush XL.here hx rfl (hb hby d3_140) ?_
                    suffices k115 : Steps p.tables e below (TL.setTop (mkF m 162 #[.val (.ref ra0), .val (.int p1), .val (.int p2), .val (.long q), .second, .val (.int d), .val (.int pt), .val (.int (v3_87_s0 p2 pt)), .val (.long (v3_142_l8 p2 q d pt)), .second] [])) t by
                      by_cases hc142_114 : (17 : Int32) < d
                      · rw [(show (v3_142_l8 p2 q d pt) = (-2 : Int64) from if_pos hc142_114)] at k115
                        show Steps p.tables e below (TL.setTop (mkF m 142 #[.val (.ref ra0), .val (.int p1), .val (.int p2), .val (.long q), .second, .val (.int d), .val (.int pt), .val (.int (v3_87_s0 p2 pt)), s8, .unset] [(.int (17 : Int32)), (.int d)])) _
                        refine XS.icmpNo XL.here hx rfl (hb hby d3_142) rfl (tlt hc142_114).2.2.2 ?_
                        refine XL.ldc2Long hx hown (mvT hZ (hw _ (List.mem_of_getElem? (i := 36) rfl))) (g := (mkF m 145 #[.val (.ref ra0), .val (.int p1), .val (.int p2), .val (.long q), .second, .val (.int d), .val (.int pt), .val (.int (v3_87_s0 p2 pt)), s8, .unset] [])) rfl (hb hby d3_145) _ ?_
                        refine XS.lstore XL.here hx rfl (hb hby d3_148) rfl (l' := #[.val (.ref ra0), .val (.int p1), .val (.int p2), .val (.long q), .second, .val (.int d), .val (.int pt), .val (.int (v3_87_s0 p2 pt)), .val (.long (-2 : Int64)), .second]) (os3_lstore_8_R_I_I_J_s_I_I_I_S_u hs8) ?_
                        refine XS.goto XL.here hx rfl (pc0 := 150) (pc' := 162) rfl (hb hby d3_150) (by decide) (by decide) ?_
                        exact k115
                      · rw [(show (v3_142_l8 p2 q d pt) = (v3_160_l8 p2 q pt) from if_neg hc142_114)] at k115
                        show Steps p.tables e below (TL.setTop (mkF m 142 #[.val (.ref ra0), .val (.int p1), .val (.int p2), .val (.long q), .second, .val (.int d), .val (.int pt), .val (.int (v3_87_s0 p2 pt)), s8, .unset] [(.int (17 : Int32)), (.int d)])) _
                        refine XS.icmpYes XL.here hx rfl (pc0 := 142) (pc' := 153) rfl (hb hby d3_142) rfl (flt hc142_114).2.2.2 (by decide) (by decide) ?_
                        refine XS.lloadN XL.here hx rfl (hb hby d3_153) rfl ?_
                        show Steps p.tables e below (TL.setTop (mkF m 154 #[.val (.ref ra0), .val (.int p1), .val (.int p2), .val (.long q), .second, .val (.int d), .val (.int pt), .val (.int (v3_87_s0 p2 pt)), s8, .unset] [(.long q)])) _
                        refine XS.iconst XL.here hx rfl (hb hby d3_154) ?_
                        refine XS.lshl XL.here hx rfl (hb hby d3_155) rfl ?_
                        refine XS.iload XL.here hx rfl (hb hby d3_156) rfl ?_
                        refine XS.i2l XL.here hx rfl (hb hby d3_158) rfl ?_
                        refine XS.lor XL.here hx rfl (hb hby d3_159) rfl ?_
                        refine XS.lstore XL.here hx rfl (hb hby d3_160) rfl (l' := #[.val (.ref ra0), .val (.int p1), .val (.int p2), .val (.long q), .second, .val (.int d), .val (.int pt), .val (.int (v3_87_s0 p2 pt)), .val (.long (v3_160_l8 p2 q pt)), .second]) (os3_lstore_8_R_I_I_J_s_I_I_I_S_u hs8) ?_
                        exact k115
                    exact k122
                  · rw [(show (v3_115_l8 p2 q d pt) = (v3_120_l8 p2 q d pt) from if_neg hc115_113)] at k122
                    show Steps p.tables e below (TL.setTop (mkF m 115 #[.val (.ref ra0), .val (.int p1), .val (.int p2), .val (.long q), .second, .val (.int d), .val (.int pt), .val (.int (v3_87_s0 p2 pt)), s8, .unset] [(.int pt)])) _
                    refine XS.ifNo XL.here hx rfl (hb hby d3_115) rfl ((if0 _ _).trans (flt hc115_113).1) ?_
                    show Steps p.tables e below (TL.setTop (mkF m 118 #[.val (.ref ra0), .val (.int p1), .val (.int p2), .val (.long q), .second, .val (.int d), .val (.int pt), .val (.int (v3_87_s0 p2 pt)), s8, .unset] [])) _
                    refine XS.iload XL.here hx rfl (hb hby d3_118) rfl ?_
                    suffices k121 : Steps p.tables e below (TL.setTop (mkF m 162 #[.val (.ref ra0), .val (.int p1), .val (.int p2), .val (.long q), .second, .val (.int d), .val (.int pt), .val (.int (v3_87_s0 p2 pt)), .val (.long (v3_120_l8 p2 q d pt)), .second] [])) t by
                      by_cases hc120_116 : (v3_87_s0 p2 pt) = (0 : Int32)
                      · rw [(show (v3_120_l8 p2 q d pt) = (-1 : Int64) from if_pos hc120_116)] at k121
                        show Steps p.tables e below (TL.setTop (mkF m 120 #[.val (.ref ra0), .val (.int p1), .val (.int p2), .val (.long q), .second, .val (.int d), .val (.int pt), .val (.int (v3_87_s0 p2 pt)), s8, .unset] [(.int (v3_87_s0 p2 pt))])) _
                        refine XS.ifYes XL.here hx rfl (pc0 := 120) (pc' := 130) rfl (hb hby d3_120) rfl ((if0 _ _).trans (teq hc120_116).1) (by decide) (by decide) ?_
                        refine XL.ldc2Long hx hown (mvT hZ (hw _ (List.mem_of_getElem? (i := 34) rfl))) (g := (mkF m 130 #[.val (.ref ra0), .val (.int p1), .val (.int p2), .val (.long q), .second, .val (.int d), .val (.int pt), .val (.int (v3_87_s0 p2 pt)), s8, .unset] [])) rfl (hb hby d3_130) _ ?_
                        refine XS.lstore XL.here hx rfl (hb hby d3_133) rfl (l' := #[.val (.ref ra0), .val (.int p1), .val (.int p2), .val (.long q), .second, .val (.int d), .val (.int pt), .val (.int (v3_87_s0 p2 pt)), .val (.long (-1 : Int64)), .second]) (os3_lstore_8_R_I_I_J_s_I_I_I_S_u hs8) ?_
                        refine XS.goto XL.here hx rfl (pc0 := 135) (pc' := 162) rfl (hb hby d3_135) (by decide) (by decide) ?_
                        exact k121
                      · rw [(show (v3_120_l8 p2 q d pt) = (v3_127_l8 p2 q d pt) from if_neg hc120_116)] at k121
                        show Steps p.tables e below (TL.setTop (mkF m 120 #[.val (.ref ra0), .val (.int p1), .val (.int p2), .val (.long q), .second, .val (.int d), .val (.int pt), .val (.int (v3_87_s0 p2 pt)), s8, .unset] [(.int (v3_87_s0 p2 pt))])) _
                        refine XS.ifNo XL.here hx rfl (hb hby d3_120) rfl ((if0 _ _).trans (feq hc120_116).1) ?_
                        refine XS.iload XL.here hx rfl (hb hby d3_123) rfl ?_
                        refine XS.bipush XL.here hx rfl (hb hby d3_125) ?_
                        suffices k120 : Steps p.tables e below (TL.setTop (mkF m 162 #[.val (.ref ra0), .val (.int p1), .val (.int p2), .val (.long q), .second, .val (.int d), .val (.int pt), .val (.int (v3_87_s0 p2 pt)), .val (.long (v3_127_l8 p2 q d pt)), .second] [])) t by
                          by_cases hc127_117 : (8 : Int32) < (v3_87_s0 p2 pt)
                          · rw [(show (v3_127_l8 p2 q d pt) = (-1 : Int64) from if_pos hc127_117)] at k120
                            show Steps p.tables e below (TL.setTop (mkF m 127 #[.val (.ref ra0), .val (.int p1), .val (.int p2), .val (.long q), .second, .val (.int d), .val (.int pt), .val (.int (v3_87_s0 p2 pt)), s8, .unset] [(.int (8 : Int32)), (.int (v3_87_s0 p2 pt))])) _
                            refine XS.icmpNo XL.here hx rfl (hb hby d3_127) rfl (tlt hc127_117).2.2.2 ?_
                            show Steps p.tables e below (TL.setTop (mkF m 130 #[.val (.ref ra0), .val (.int p1), .val (.int p2), .val (.long q), .second, .val (.int d), .val (.int pt), .val (.int (v3_87_s0 p2 pt)), s8, .unset] [])) _
                            refine XL.ldc2Long hx hown (mvT hZ (hw _ (List.mem_of_getElem? (i := 34) rfl))) (g := (mkF m 130 #[.val (.ref ra0), .val (.int p1), .val (.int p2), .val (.long q), .second, .val (.int d), .val (.int pt), .val (.int (v3_87_s0 p2 pt)), s8, .unset] [])) rfl (hb hby d3_130) _ ?_
                            refine XS.lstore XL.here hx rfl (hb hby d3_133) rfl (l' := #[.val (.ref ra0), .val (.int p1), .val (.int p2), .val (.long q), .second, .val (.int d), .val (.int pt), .val (.int (v3_87_s0 p2 pt)), .val (.long (-1 : Int64)), .second]) (os3_lstore_8_R_I_I_J_s_I_I_I_S_u hs8) ?_
                            refine XS.goto XL.here hx rfl (pc0 := 135) (pc' := 162) rfl (hb hby d3_135) (by decide) (by decide) ?_
                            exact k120
                          · rw [(show (v3_127_l8 p2 q d pt) = (v3_142_l8 p2 q d pt) from if_neg hc127_117)] at k120
                            show Steps p.tables e below (TL.setTop (mkF m 127 #[.val (.ref ra0), .val (.int p1), .val (.int p2), .val (.long q), .second, .val (.int d), .val (.int pt), .val (.int (v3_87_s0 p2 pt)), s8, .unset] [(.int (8 : Int32)), (.int (v3_87_s0 p2 pt))])) _
                            refine XS.icmpYes XL.here hx rfl (pc0 := 127) (pc' := 138) rfl (hb hby d3_127) rfl (flt hc127_117).2.2.2 (by decide) (by decide) ?_
                            refine XS.iload XL.here hx rfl (hb hby d3_138) rfl ?_
                            refine XS.bipush XL.here hx rfl (hb hby d3_140) ?_
                            suffices k119 : Steps p.tables e below (TL.setTop (mkF m 162 #[.val (.ref ra0), .val (.int p1), .val (.int p2), .val (.long q), .second, .val (.int d), .val (.int pt), .val (.int (v3_87_s0 p2 pt)), .val (.long (v3_142_l8 p2 q d pt)), .second] [])) t by
                              by_cases hc142_118 : (17 : Int32) < d
                              · rw [(show (v3_142_l8 p2 q d pt) = (-2 : Int64) from if_pos hc142_118)] at k119
                                show Steps p.tables e below (TL.setTop (mkF m 142 #[.val (.ref ra0), .val (.int p1), .val (.int p2), .val (.long q), .second, .val (.int d), .val (.int pt), .val (.int (v3_87_s0 p2 pt)), s8, .unset] [(.int (17 : Int32)), (.int d)])) _
                                refine XS.icmpNo XL.here hx rfl (hb hby d3_142) rfl (tlt hc142_118).2.2.2 ?_
                                refine XL.ldc2Long hx hown (mvT hZ (hw _ (List.mem_of_getElem? (i := 36) rfl))) (g := (mkF m 145 #[.val (.ref ra0), .val (.int p1), .val (.int p2), .val (.long q), .second, .val (.int d), .val (.int pt), .val (.int (v3_87_s0 p2 pt)), s8, .unset] [])) rfl (hb hby d3_145) _ ?_
                                show Steps p.tables e below (TL.setTop (mkF m 148 #[.val (.ref ra0), .val (.int p1), .val (.int p2), .val (.long q), .second, .val (.int d), .val (.int pt), .val (.int (v3_87_s0 p2 pt)), s8, .unset] [(.long (-2 : Int64))])) _
                                refine XS.lstore XL.here hx rfl (hb hby d3_148) rfl (l' := #[.val (.ref ra0), .val (.int p1), .val (.int p2), .val (.long q), .second, .val (.int d), .val (.int pt), .val (.int (v3_87_s0 p2 pt)), .val (.long (-2 : Int64)), .second]) (os3_lstore_8_R_I_I_J_s_I_I_I_S_u hs8) ?_
                                refine XS.goto XL.here hx rfl (pc0 := 150) (pc' := 162) rfl (hb hby d3_150) (by decide) (by decide) ?_
                                exact k119
                              · rw [(show (v3_142_l8 p2 q d pt) = (v3_160_l8 p2 q pt) from if_neg hc142_118)] at k119
                                show Steps p.tables e below (TL.setTop (mkF m 142 #[.val (.ref ra0), .val (.int p1), .val (.int p2), .val (.long q), .second, .val (.int d), .val (.int pt), .val (.int (v3_87_s0 p2 pt)), s8, .unset] [(.int (17 : Int32)), (.int d)])) _
                                refine XS.icmpYes XL.here hx rfl (pc0 := 142) (pc' := 153) rfl (hb hby d3_142) rfl (flt hc142_118).2.2.2 (by decide) (by decide) ?_
                                refine XS.lloadN XL.here hx rfl (hb hby d3_153) rfl ?_
                                refine XS.iconst XL.here hx rfl (hb hby d3_154) ?_
                                refine XS.lshl XL.here hx rfl (hb hby d3_155) rfl ?_
                                refine XS.iload XL.here hx rfl (hb hby d3_156) rfl ?_
                                show Steps p.tables e below (TL.setTop (mkF m 158 #[.val (.ref ra0), .val (.int p1), .val (.int p2), .val (.long q), .second, .val (.int d), .val (.int pt), .val (.int (v3_87_s0 p2 pt)), s8, .unset] [(.int (v3_87_s0 p2 pt)), (.long (q <<< ((4 : Int32) &&& 0x3f).toInt64))])) _
                                refine XS.i2l XL.here hx rfl (hb hby d3_158) rfl ?_
                                refine XS.lor XL.here hx rfl (hb hby d3_159) rfl ?_
                                refine XS.lstore XL.here hx rfl (hb hby d3_160) rfl (l' := #[.val (.ref ra0), .val (.int p1), .val (.int p2), .val (.long q), .second, .val (.int d), .val (.int pt), .val (.int (v3_87_s0 p2 pt)), .val (.long (v3_160_l8 p2 q pt)), .second]) (os3_lstore_8_R_I_I_J_s_I_I_I_S_u hs8) ?_
                                exact k119
                            exact k120
                        exact k121
                    exact k122
                exact k123
            exact k124
        refine XS.lload XL.here hx rfl (hb hby d3_162) rfl ?_
        exact kk)
      obtain ⟨fs, hr, hrun, hended, hW, hsame⟩ := XL.leave (v := some (.long (v3_104_l8 p1 p2 q d pt))) (fun h => by rw [Bd.returns] at h; cases h)
      have hv : (own_parse p1 p2 L_ra0 (p2.toInt - p1.toInt).toNat (0 : Int64) (0 : Int32) (-1 : Int32) p1) = (v3_104_l8 p1 p2 q d pt) := hR.symm.trans rfl
      refine ⟨_, _, k125 _ ?_, hrun, hended, _, _, rfl, ?_, ⟨_, rfl⟩, hW, hsame.mono (by decide) (by decide)⟩
      · show Steps p.tables e below (TL.setTop (mkF m 164 #[.val (.ref ra0), .val (.int p1), .val (.int p2), .val (.long q), .second, .val (.int d), .val (.int pt), .val (.int (v3_87_s0 p2 pt)), .val (.long (v3_104_l8 p1 p2 q d pt)), .second] [(.long (v3_104_l8 p1 p2 q d pt))])) _
        exact retOut XL hx (t := .long) Bd.returns rfl (Or.inr (Or.inl ⟨rfl, rfl, _, rfl⟩)) (hb hby d3_164) hr
      · show Q3 Z ra0 p1 p2 k_ra0 n_ra0 L_ra0 h0 n0 _ TL.heap _
        rw [eL]
        exact ⟨(congrArg (fun z => some (Value.long z)) hv).symm, N0, rfl⟩
    | succ N ih =>
      intro q d pt i s8 hs8 TL XL eL hR hi hm kL
      have k126 := fun (t : State) (kk : Steps p.tables e below (TL.setTop (mkF m 14 #[.val (.ref ra0), .val (.int p1), .val (.int p2), .val (.long q), .second, .val (.int d), .val (.int pt), .val (.int i), s8, .unset] [(.int p2), (.int i)])) t) => kL t (by
        refine XS.iload XL.here hx rfl (hb hby d3_11) rfl ?_
        refine XS.iloadN XL.here hx rfl (hb hby d3_13) rfl ?_
        exact kk)
      by_cases hc14_127 : i < p2
      · have k128 := fun (t : State) (kk : Steps p.tables e below (TL.setTop (mkF m 20 #[.val (.ref ra0), .val (.int p1), .val (.int p2), .val (.long q), .second, .val (.int d), .val (.int pt), .val (.int i), s8, .unset] [(.int i), (.ref ra0)])) t) => k126 t (by
          show Steps p.tables e below (TL.setTop (mkF m 14 #[.val (.ref ra0), .val (.int p1), .val (.int p2), .val (.long q), .second, .val (.int d), .val (.int pt), .val (.int i), s8, .unset] [(.int p2), (.int i)])) _
          refine XS.icmpNo XL.here hx rfl (hb hby d3_14) rfl (tlt hc14_127).2.1 ?_
          show Steps p.tables e below (TL.setTop (mkF m 17 #[.val (.ref ra0), .val (.int p1), .val (.int p2), .val (.long q), .second, .val (.int d), .val (.int pt), .val (.int i), s8, .unset] [])) _
          refine XS.aloadN XL.here hx rfl (hb hby d3_17) rfl rfl ?_
          refine XS.iload XL.here hx rfl (hb hby d3_18) rfl ?_
          exact kk)
        have hV129 := V_ra0
        obtain ⟨cl129, Ar129, q129, S129, Nn129, H129, G129⟩ := hV129
        have hb130 : ¬ i < 0 ∧ i < n_ra0 := ⟨hi, own_lt_le hc14_127 hfin⟩
        have hin130 : ¬ (i < 0 ∨ cl129.slots.size ≤ (i).toNatClampNeg) := inb_of S129 hb130
        have hat130 : cl129.slots[(i).toNatClampNeg]? = some (.int (v3_20_at L_ra0 i)) := Has.at H129 hin130 (own_getD_int _ _ _)
        have st130 := XL.baloadBytes hx (j := i) (v := (.int (v3_20_at L_ra0 i))) (by rw [eL]; exact Ar129.1) (State.isArrayOf_alike hZ.alike Ar129.2.1) Ar129.2.2 hin130 hat130 (g := (mkF m 20 #[.val (.ref ra0), .val (.int p1), .val (.int p2), .val (.long q), .second, .val (.int d), .val (.int pt), .val (.int i), s8, .unset] [(.int i), (.ref ra0)])) rfl rfl (hb hby d3_20)
        have k131 := fun (t : State) (kk : Steps p.tables e below (TL.setTop (mkF m 21 #[.val (.ref ra0), .val (.int p1), .val (.int p2), .val (.long q), .second, .val (.int d), .val (.int pt), .val (.int i), s8, .unset] [(.int (v3_20_at L_ra0 i))])) t) => k128 t (st130 _ kk)
        have k132 := fun (t : State) (kk : Steps p.tables e below (TL.setTop (mkF m 28 #[.val (.ref ra0), .val (.int p1), .val (.int p2), .val (.long q), .second, .val (.int d), .val (.int pt), .val (.int i), .val (.int (v3_24_l8 L_ra0 i)), .unset] [(.int (v3_24_l8 L_ra0 i))])) t) => k131 t (by
          refine XS.bipush XL.here hx rfl (hb hby d3_21) ?_
          refine XS.isub XL.here hx rfl (hb hby d3_23) rfl ?_
          refine XS.istore XL.here hx rfl (hb hby d3_24) rfl (l' := #[.val (.ref ra0), .val (.int p1), .val (.int p2), .val (.long q), .second, .val (.int d), .val (.int pt), .val (.int i), .val (.int (v3_24_l8 L_ra0 i)), .unset]) (os3_istore_8_R_I_I_J_s_I_I_I_S_u hs8) ?_
          refine XS.iload XL.here hx rfl (hb hby d3_26) rfl ?_
          exact kk)
        by_cases hc28_133 : (v3_24_l8 L_ra0 i) < (0 : Int32)
        · have k134 := fun (t : State) (kk : Steps p.tables e below (TL.setTop (mkF m 57 #[.val (.ref ra0), .val (.int p1), .val (.int p2), .val (.long q), .second, .val (.int d), .val (.int pt), .val (.int i), .val (.int (v3_24_l8 L_ra0 i)), .unset] [(.int i), (.ref ra0)])) t) => k132 t (by
            show Steps p.tables e below (TL.setTop (mkF m 28 #[.val (.ref ra0), .val (.int p1), .val (.int p2), .val (.long q), .second, .val (.int d), .val (.int pt), .val (.int i), .val (.int (v3_24_l8 L_ra0 i)), .unset] [(.int (v3_24_l8 L_ra0 i))])) _
            refine XS.ifYes XL.here hx rfl (pc0 := 28) (pc' := 54) rfl (hb hby d3_28) rfl ((if0 _ _).trans (tlt hc28_133).1) (by decide) (by decide) ?_
            show Steps p.tables e below (TL.setTop (mkF m 54 #[.val (.ref ra0), .val (.int p1), .val (.int p2), .val (.long q), .second, .val (.int d), .val (.int pt), .val (.int i), .val (.int (v3_24_l8 L_ra0 i)), .unset] [])) _
            refine XS.aloadN XL.here hx rfl (hb hby d3_54) rfl rfl ?_
            refine XS.iload XL.here hx rfl (hb hby d3_55) rfl ?_
            exact kk)
          have hV135 := V_ra0
          obtain ⟨cl135, Ar135, q135, S135, Nn135, H135, G135⟩ := hV135
          have hb136 : ¬ i < 0 ∧ i < n_ra0 := ⟨hi, own_lt_le hc14_127 hfin⟩
          have hin136 : ¬ (i < 0 ∨ cl135.slots.size ≤ (i).toNatClampNeg) := inb_of S135 hb136
          have hat136 : cl135.slots[(i).toNatClampNeg]? = some (.int (v3_57_at L_ra0 i)) := Has.at H135 hin136 (own_getD_int _ _ _)
          have st136 := XL.baloadBytes hx (j := i) (v := (.int (v3_57_at L_ra0 i))) (by rw [eL]; exact Ar135.1) (State.isArrayOf_alike hZ.alike Ar135.2.1) Ar135.2.2 hin136 hat136 (g := (mkF m 57 #[.val (.ref ra0), .val (.int p1), .val (.int p2), .val (.long q), .second, .val (.int d), .val (.int pt), .val (.int i), .val (.int (v3_24_l8 L_ra0 i)), .unset] [(.int i), (.ref ra0)])) rfl rfl (hb hby d3_57)
          have k137 := fun (t : State) (kk : Steps p.tables e below (TL.setTop (mkF m 58 #[.val (.ref ra0), .val (.int p1), .val (.int p2), .val (.long q), .second, .val (.int d), .val (.int pt), .val (.int i), .val (.int (v3_24_l8 L_ra0 i)), .unset] [(.int (v3_57_at L_ra0 i))])) t) => k134 t (st136 _ kk)
          have k138 := fun (t : State) (kk : Steps p.tables e below (TL.setTop (mkF m 60 #[.val (.ref ra0), .val (.int p1), .val (.int p2), .val (.long q), .second, .val (.int d), .val (.int pt), .val (.int i), .val (.int (v3_24_l8 L_ra0 i)), .unset] [(.int (46 : Int32)), (.int (v3_57_at L_ra0 i))])) t) => k137 t (by
            refine XS.bipush XL.here hx rfl (hb hby d3_58) ?_
            exact kk)
          by_cases hc60_139 : (v3_57_at L_ra0 i) = (46 : Int32)
          · have k140 := fun (t : State) (kk : Steps p.tables e below (TL.setTop (mkF m 65 #[.val (.ref ra0), .val (.int p1), .val (.int p2), .val (.long q), .second, .val (.int d), .val (.int pt), .val (.int i), .val (.int (v3_24_l8 L_ra0 i)), .unset] [(.int pt)])) t) => k138 t (by
              show Steps p.tables e below (TL.setTop (mkF m 60 #[.val (.ref ra0), .val (.int p1), .val (.int p2), .val (.long q), .second, .val (.int d), .val (.int pt), .val (.int i), .val (.int (v3_24_l8 L_ra0 i)), .unset] [(.int (46 : Int32)), (.int (v3_57_at L_ra0 i))])) _
              refine XS.icmpNo XL.here hx rfl (hb hby d3_60) rfl (teq hc60_139).2 ?_
              refine XS.iload XL.here hx rfl (hb hby d3_63) rfl ?_
              exact kk)
            by_cases hc65_141 : pt < (0 : Int32)
            · have k142 := fun (t : State) (kk : Steps p.tables e below (TL.setTop (mkF m 11 #[.val (.ref ra0), .val (.int p1), .val (.int p2), .val (.long q), .second, .val (.int d), .val (.int i), .val (.int (i + (1 : Int32))), .val (.int (v3_24_l8 L_ra0 i)), .unset] [])) t) => k140 t (by
                show Steps p.tables e below (TL.setTop (mkF m 65 #[.val (.ref ra0), .val (.int p1), .val (.int p2), .val (.long q), .second, .val (.int d), .val (.int pt), .val (.int i), .val (.int (v3_24_l8 L_ra0 i)), .unset] [(.int pt)])) _
                refine XS.ifNo XL.here hx rfl (hb hby d3_65) rfl ((if0 _ _).trans (tlt hc65_141).2.1) ?_
                refine XS.iload XL.here hx rfl (hb hby d3_68) rfl ?_
                refine XS.istore XL.here hx rfl (hb hby d3_70) rfl (l' := #[.val (.ref ra0), .val (.int p1), .val (.int p2), .val (.long q), .second, .val (.int d), .val (.int i), .val (.int i), .val (.int (v3_24_l8 L_ra0 i)), .unset]) rfl ?_
                show Steps p.tables e below (TL.setTop (mkF m 72 #[.val (.ref ra0), .val (.int p1), .val (.int p2), .val (.long q), .second, .val (.int d), .val (.int i), .val (.int i), .val (.int (v3_24_l8 L_ra0 i)), .unset] [])) _
                refine XS.goto XL.here hx rfl (pc0 := 72) (pc' := 79) rfl (hb hby d3_72) (by decide) (by decide) ?_
                refine XS.iinc XL.here hx rfl (hb hby d3_79) rfl (l' := #[.val (.ref ra0), .val (.int p1), .val (.int p2), .val (.long q), .second, .val (.int d), .val (.int i), .val (.int (i + (1 : Int32))), .val (.int (v3_24_l8 L_ra0 i)), .unset]) rfl ?_
                refine XS.goto XL.here hx rfl (pc0 := 82) (pc' := 11) rfl (hb hby d3_82) (by decide) (by decide) ?_
                exact kk)
              exact ih q d i (i + (1 : Int32)) (.val (.int (v3_24_l8 L_ra0 i))) (One.val rfl) TL XL eL (((own_parse_succ p1 p2 L_ra0 N q d pt i).trans ((if_pos hc14_127).trans ((if_pos hc28_133).trans ((if_pos hc60_139).trans (if_pos hc65_141))))).symm.trans hR) (own_succ_nn hi hc14_127) (own_step hi hc14_127 hm) k142
            · have k143 := fun (t : State) (kk : Steps p.tables e below (TL.setTop (mkF m 78 #[.val (.ref ra0), .val (.int p1), .val (.int p2), .val (.long q), .second, .val (.int d), .val (.int pt), .val (.int i), .val (.int (v3_24_l8 L_ra0 i)), .unset] [(.long (-1 : Int64))])) t) => k140 t (by
                show Steps p.tables e below (TL.setTop (mkF m 65 #[.val (.ref ra0), .val (.int p1), .val (.int p2), .val (.long q), .second, .val (.int d), .val (.int pt), .val (.int i), .val (.int (v3_24_l8 L_ra0 i)), .unset] [(.int pt)])) _
                refine XS.ifYes XL.here hx rfl (pc0 := 65) (pc' := 75) rfl (hb hby d3_65) rfl ((if0 _ _).trans (flt hc65_141).2.1) (by decide) (by decide) ?_
                refine XL.ldc2Long hx hown (mvT hZ (hw _ (List.mem_of_getElem? (i := 34) rfl))) (g := (mkF m 75 #[.val (.ref ra0), .val (.int p1), .val (.int p2), .val (.long q), .second, .val (.int d), .val (.int pt), .val (.int i), .val (.int (v3_24_l8 L_ra0 i)), .unset] [])) rfl (hb hby d3_75) _ ?_
                exact kk)
              obtain ⟨fs, hr, hrun, hended, hW, hsame⟩ := XL.leave (v := some (.long (-1 : Int64))) (fun h => by rw [Bd.returns] at h; cases h)
              have hv : (own_parse p1 p2 L_ra0 (p2.toInt - p1.toInt).toNat (0 : Int64) (0 : Int32) (-1 : Int32) p1) = (-1 : Int64) := hR.symm.trans ((own_parse_succ p1 p2 L_ra0 N q d pt i).trans ((if_pos hc14_127).trans ((if_pos hc28_133).trans ((if_pos hc60_139).trans (if_neg hc65_141)))))
              refine ⟨_, _, k143 _ ?_, hrun, hended, _, _, rfl, ?_, ⟨_, rfl⟩, hW, hsame.mono (by decide) (by decide)⟩
              · show Steps p.tables e below (TL.setTop (mkF m 78 #[.val (.ref ra0), .val (.int p1), .val (.int p2), .val (.long q), .second, .val (.int d), .val (.int pt), .val (.int i), .val (.int (v3_24_l8 L_ra0 i)), .unset] [(.long (-1 : Int64))])) _
                exact retOut XL hx (t := .long) Bd.returns rfl (Or.inr (Or.inl ⟨rfl, rfl, _, rfl⟩)) (hb hby d3_78) hr
              · show Q3 Z ra0 p1 p2 k_ra0 n_ra0 L_ra0 h0 n0 _ TL.heap _
                rw [eL]
                exact ⟨(congrArg (fun z => some (Value.long z)) hv).symm, N0, rfl⟩
          · have k144 := fun (t : State) (kk : Steps p.tables e below (TL.setTop (mkF m 78 #[.val (.ref ra0), .val (.int p1), .val (.int p2), .val (.long q), .second, .val (.int d), .val (.int pt), .val (.int i), .val (.int (v3_24_l8 L_ra0 i)), .unset] [(.long (-1 : Int64))])) t) => k138 t (by
              show Steps p.tables e below (TL.setTop (mkF m 60 #[.val (.ref ra0), .val (.int p1), .val (.int p2), .val (.long q), .second, .val (.int d), .val (.int pt), .val (.int i), .val (.int (v3_24_l8 L_ra0 i)), .unset] [(.int (46 : Int32)), (.int (v3_57_at L_ra0 i))])) _
              refine XS.icmpYes XL.here hx rfl (pc0 := 60) (pc' := 75) rfl (hb hby d3_60) rfl (feq hc60_139).2 (by decide) (by decide) ?_
              refine XL.ldc2Long hx hown (mvT hZ (hw _ (List.mem_of_getElem? (i := 34) rfl))) (g := (mkF m 75 #[.val (.ref ra0), .val (.int p1), .val (.int p2), .val (.long q), .second, .val (.int d), .val (.int pt), .val (.int i), .val (.int (v3_24_l8 L_ra0 i)), .unset] [])) rfl (hb hby d3_75) _ ?_
              exact kk)
            obtain ⟨fs, hr, hrun, hended, hW, hsame⟩ := XL.leave (v := some (.long (-1 : Int64))) (fun h => by rw [Bd.returns] at h; cases h)
            have hv : (own_parse p1 p2 L_ra0 (p2.toInt - p1.toInt).toNat (0 : Int64) (0 : Int32) (-1 : Int32) p1) = (-1 : Int64) := hR.symm.trans ((own_parse_succ p1 p2 L_ra0 N q d pt i).trans ((if_pos hc14_127).trans ((if_pos hc28_133).trans (if_neg hc60_139))))
            refine ⟨_, _, k144 _ ?_, hrun, hended, _, _, rfl, ?_, ⟨_, rfl⟩, hW, hsame.mono (by decide) (by decide)⟩
            · show Steps p.tables e below (TL.setTop (mkF m 78 #[.val (.ref ra0), .val (.int p1), .val (.int p2), .val (.long q), .second, .val (.int d), .val (.int pt), .val (.int i), .val (.int (v3_24_l8 L_ra0 i)), .unset] [(.long (-1 : Int64))])) _
              exact retOut XL hx (t := .long) Bd.returns rfl (Or.inr (Or.inl ⟨rfl, rfl, _, rfl⟩)) (hb hby d3_78) hr
            · show Q3 Z ra0 p1 p2 k_ra0 n_ra0 L_ra0 h0 n0 _ TL.heap _
              rw [eL]
              exact ⟨(congrArg (fun z => some (Value.long z)) hv).symm, N0, rfl⟩
        · have k145 := fun (t : State) (kk : Steps p.tables e below (TL.setTop (mkF m 35 #[.val (.ref ra0), .val (.int p1), .val (.int p2), .val (.long q), .second, .val (.int d), .val (.int pt), .val (.int i), .val (.int (v3_24_l8 L_ra0 i)), .unset] [(.int (9 : Int32)), (.int (v3_24_l8 L_ra0 i))])) t) => k132 t (by
            show Steps p.tables e below (TL.setTop (mkF m 28 #[.val (.ref ra0), .val (.int p1), .val (.int p2), .val (.long q), .second, .val (.int d), .val (.int pt), .val (.int i), .val (.int (v3_24_l8 L_ra0 i)), .unset] [(.int (v3_24_l8 L_ra0 i))])) _
            refine XS.ifNo XL.here hx rfl (hb hby d3_28) rfl ((if0 _ _).trans (flt hc28_133).1) ?_
            refine XS.iload XL.here hx rfl (hb hby d3_31) rfl ?_
            show Steps p.tables e below (TL.setTop (mkF m 33 #[.val (.ref ra0), .val (.int p1), .val (.int p2), .val (.long q), .second, .val (.int d), .val (.int pt), .val (.int i), .val (.int (v3_24_l8 L_ra0 i)), .unset] [(.int (v3_24_l8 L_ra0 i))])) _
            refine XS.bipush XL.here hx rfl (hb hby d3_33) ?_
            exact kk)
          by_cases hc35_146 : (9 : Int32) < (v3_24_l8 L_ra0 i)
          · have k147 := fun (t : State) (kk : Steps p.tables e below (TL.setTop (mkF m 57 #[.val (.ref ra0), .val (.int p1), .val (.int p2), .val (.long q), .second, .val (.int d), .val (.int pt), .val (.int i), .val (.int (v3_24_l8 L_ra0 i)), .unset] [(.int i), (.ref ra0)])) t) => k145 t (by
              show Steps p.tables e below (TL.setTop (mkF m 35 #[.val (.ref ra0), .val (.int p1), .val (.int p2), .val (.long q), .second, .val (.int d), .val (.int pt), .val (.int i), .val (.int (v3_24_l8 L_ra0 i)), .unset] [(.int (9 : Int32)), (.int (v3_24_l8 L_ra0 i))])) _
              refine XS.icmpYes XL.here hx rfl (pc0 := 35) (pc' := 54) rfl (hb hby d3_35) rfl (tlt hc35_146).2.2.1 (by decide) (by decide) ?_
              refine XS.aloadN XL.here hx rfl (hb hby d3_54) rfl rfl ?_
              refine XS.iload XL.here hx rfl (hb hby d3_55) rfl ?_
              exact kk)
            have hV148 := V_ra0
            obtain ⟨cl148, Ar148, q148, S148, Nn148, H148, G148⟩ := hV148
            have hb149 : ¬ i < 0 ∧ i < n_ra0 := ⟨hi, own_lt_le hc14_127 hfin⟩
            have hin149 : ¬ (i < 0 ∨ cl148.slots.size ≤ (i).toNatClampNeg) := inb_of S148 hb149
            have hat149 : cl148.slots[(i).toNatClampNeg]? = some (.int (v3_57_at L_ra0 i)) := Has.at H148 hin149 (own_getD_int _ _ _)
            have st149 := XL.baloadBytes hx (j := i) (v := (.int (v3_57_at L_ra0 i))) (by rw [eL]; exact Ar148.1) (State.isArrayOf_alike hZ.alike Ar148.2.1) Ar148.2.2 hin149 hat149 (g := (mkF m 57 #[.val (.ref ra0), .val (.int p1), .val (.int p2), .val (.long q), .second, .val (.int d), .val (.int pt), .val (.int i), .val (.int (v3_24_l8 L_ra0 i)), .unset] [(.int i), (.ref ra0)])) rfl rfl (hb hby d3_57)
            have k150 := fun (t : State) (kk : Steps p.tables e below (TL.setTop (mkF m 58 #[.val (.ref ra0), .val (.int p1), .val (.int p2), .val (.long q), .second, .val (.int d), .val (.int pt), .val (.int i), .val (.int (v3_24_l8 L_ra0 i)), .unset] [(.int (v3_57_at L_ra0 i))])) t) => k147 t (st149 _ kk)
            have k151 := fun (t : State) (kk : Steps p.tables e below (TL.setTop (mkF m 60 #[.val (.ref ra0), .val (.int p1), .val (.int p2), .val (.long q), .second, .val (.int d), .val (.int pt), .val (.int i), .val (.int (v3_24_l8 L_ra0 i)), .unset] [(.int (46 : Int32)), (.int (v3_57_at L_ra0 i))])) t) => k150 t (by
              refine XS.bipush XL.here hx rfl (hb hby d3_58) ?_
              exact kk)
            by_cases hc60_152 : (v3_57_at L_ra0 i) = (46 : Int32)
            · have k153 := fun (t : State) (kk : Steps p.tables e below (TL.setTop (mkF m 65 #[.val (.ref ra0), .val (.int p1), .val (.int p2), .val (.long q), .second, .val (.int d), .val (.int pt), .val (.int i), .val (.int (v3_24_l8 L_ra0 i)), .unset] [(.int pt)])) t) => k151 t (by
                show Steps p.tables e below (TL.setTop (mkF m 60 #[.val (.ref ra0), .val (.int p1), .val (.int p2), .val (.long q), .second, .val (.int d), .val (.int pt), .val (.int i), .val (.int (v3_24_l8 L_ra0 i)), .unset] [(.int (46 : Int32)), (.int (v3_57_at L_ra0 i))])) _
                refine XS.icmpNo XL.here hx rfl (hb hby d3_60) rfl (teq hc60_152).2 ?_
                refine XS.iload XL.here hx rfl (hb hby d3_63) rfl ?_
                exact kk)
              by_cases hc65_154 : pt < (0 : Int32)
              · have k155 := fun (t : State) (kk : Steps p.tables e below (TL.setTop (mkF m 11 #[.val (.ref ra0), .val (.int p1), .val (.int p2), .val (.long q), .second, .val (.int d), .val (.int i), .val (.int (i + (1 : Int32))), .val (.int (v3_24_l8 L_ra0 i)), .unset] [])) t) => k153 t (by
                  show Steps p.tables e below (TL.setTop (mkF m 65 #[.val (.ref ra0), .val (.int p1), .val (.int p2), .val (.long q), .second, .val (.int d), .val (.int pt), .val (.int i), .val (.int (v3_24_l8 L_ra0 i)), .unset] [(.int pt)])) _
                  refine XS.ifNo XL.here hx rfl (hb hby d3_65) rfl ((if0 _ _).trans (tlt hc65_154).2.1) ?_
                  refine XS.iload XL.here hx rfl (hb hby d3_68) rfl ?_
                  show Steps p.tables e below (TL.setTop (mkF m 70 #[.val (.ref ra0), .val (.int p1), .val (.int p2), .val (.long q), .second, .val (.int d), .val (.int pt), .val (.int i), .val (.int (v3_24_l8 L_ra0 i)), .unset] [(.int i)])) _
                  refine XS.istore XL.here hx rfl (hb hby d3_70) rfl (l' := #[.val (.ref ra0), .val (.int p1), .val (.int p2), .val (.long q), .second, .val (.int d), .val (.int i), .val (.int i), .val (.int (v3_24_l8 L_ra0 i)), .unset]) rfl ?_
                  refine XS.goto XL.here hx rfl (pc0 := 72) (pc' := 79) rfl (hb hby d3_72) (by decide) (by decide) ?_
                  refine XS.iinc XL.here hx rfl (hb hby d3_79) rfl (l' := #[.val (.ref ra0), .val (.int p1), .val (.int p2), .val (.long q), .second, .val (.int d), .val (.int i), .val (.int (i + (1 : Int32))), .val (.int (v3_24_l8 L_ra0 i)), .unset]) rfl ?_
                  refine XS.goto XL.here hx rfl (pc0 := 82) (pc' := 11) rfl (hb hby d3_82) (by decide) (by decide) ?_
                  exact kk)
                exact ih q d i (i + (1 : Int32)) (.val (.int (v3_24_l8 L_ra0 i))) (One.val rfl) TL XL eL (((own_parse_succ p1 p2 L_ra0 N q d pt i).trans ((if_pos hc14_127).trans ((if_neg hc28_133).trans ((if_pos hc35_146).trans ((if_pos hc60_152).trans (if_pos hc65_154)))))).symm.trans hR) (own_succ_nn hi hc14_127) (own_step hi hc14_127 hm) k155
              · have k156 := fun (t : State) (kk : Steps p.tables e below (TL.setTop (mkF m 78 #[.val (.ref ra0), .val (.int p1), .val (.int p2), .val (.long q), .second, .val (.int d), .val (.int pt), .val (.int i), .val (.int (v3_24_l8 L_ra0 i)), .unset] [(.long (-1 : Int64))])) t) => k153 t (by
                  show Steps p.tables e below (TL.setTop (mkF m 65 #[.val (.ref ra0), .val (.int p1), .val (.int p2), .val (.long q), .second, .val (.int d), .val (.int pt), .val (.int i), .val (.int (v3_24_l8 L_ra0 i)), .unset] [(.int pt)])) _
                  refine XS.ifYes XL.here hx rfl (pc0 := 65) (pc' := 75) rfl (hb hby d3_65) rfl ((if0 _ _).trans (flt hc65_154).2.1) (by decide) (by decide) ?_
                  refine XL.ldc2Long hx hown (mvT hZ (hw _ (List.mem_of_getElem? (i := 34) rfl))) (g := (mkF m 75 #[.val (.ref ra0), .val (.int p1), .val (.int p2), .val (.long q), .second, .val (.int d), .val (.int pt), .val (.int i), .val (.int (v3_24_l8 L_ra0 i)), .unset] [])) rfl (hb hby d3_75) _ ?_
                  exact kk)
                obtain ⟨fs, hr, hrun, hended, hW, hsame⟩ := XL.leave (v := some (.long (-1 : Int64))) (fun h => by rw [Bd.returns] at h; cases h)
                have hv : (own_parse p1 p2 L_ra0 (p2.toInt - p1.toInt).toNat (0 : Int64) (0 : Int32) (-1 : Int32) p1) = (-1 : Int64) := hR.symm.trans ((own_parse_succ p1 p2 L_ra0 N q d pt i).trans ((if_pos hc14_127).trans ((if_neg hc28_133).trans ((if_pos hc35_146).trans ((if_pos hc60_152).trans (if_neg hc65_154))))))
                refine ⟨_, _, k156 _ ?_, hrun, hended, _, _, rfl, ?_, ⟨_, rfl⟩, hW, hsame.mono (by decide) (by decide)⟩
                · show Steps p.tables e below (TL.setTop (mkF m 78 #[.val (.ref ra0), .val (.int p1), .val (.int p2), .val (.long q), .second, .val (.int d), .val (.int pt), .val (.int i), .val (.int (v3_24_l8 L_ra0 i)), .unset] [(.long (-1 : Int64))])) _
                  exact retOut XL hx (t := .long) Bd.returns rfl (Or.inr (Or.inl ⟨rfl, rfl, _, rfl⟩)) (hb hby d3_78) hr
                · show Q3 Z ra0 p1 p2 k_ra0 n_ra0 L_ra0 h0 n0 _ TL.heap _
                  rw [eL]
                  exact ⟨(congrArg (fun z => some (Value.long z)) hv).symm, N0, rfl⟩
            · have k157 := fun (t : State) (kk : Steps p.tables e below (TL.setTop (mkF m 78 #[.val (.ref ra0), .val (.int p1), .val (.int p2), .val (.long q), .second, .val (.int d), .val (.int pt), .val (.int i), .val (.int (v3_24_l8 L_ra0 i)), .unset] [(.long (-1 : Int64))])) t) => k151 t (by
                show Steps p.tables e below (TL.setTop (mkF m 60 #[.val (.ref ra0), .val (.int p1), .val (.int p2), .val (.long q), .second, .val (.int d), .val (.int pt), .val (.int i), .val (.int (v3_24_l8 L_ra0 i)), .unset] [(.int (46 : Int32)), (.int (v3_57_at L_ra0 i))])) _
                refine XS.icmpYes XL.here hx rfl (pc0 := 60) (pc' := 75) rfl (hb hby d3_60) rfl (feq hc60_152).2 (by decide) (by decide) ?_
                refine XL.ldc2Long hx hown (mvT hZ (hw _ (List.mem_of_getElem? (i := 34) rfl))) (g := (mkF m 75 #[.val (.ref ra0), .val (.int p1), .val (.int p2), .val (.long q), .second, .val (.int d), .val (.int pt), .val (.int i), .val (.int (v3_24_l8 L_ra0 i)), .unset] [])) rfl (hb hby d3_75) _ ?_
                exact kk)
              obtain ⟨fs, hr, hrun, hended, hW, hsame⟩ := XL.leave (v := some (.long (-1 : Int64))) (fun h => by rw [Bd.returns] at h; cases h)
              have hv : (own_parse p1 p2 L_ra0 (p2.toInt - p1.toInt).toNat (0 : Int64) (0 : Int32) (-1 : Int32) p1) = (-1 : Int64) := hR.symm.trans ((own_parse_succ p1 p2 L_ra0 N q d pt i).trans ((if_pos hc14_127).trans ((if_neg hc28_133).trans ((if_pos hc35_146).trans (if_neg hc60_152)))))
              refine ⟨_, _, k157 _ ?_, hrun, hended, _, _, rfl, ?_, ⟨_, rfl⟩, hW, hsame.mono (by decide) (by decide)⟩
              · show Steps p.tables e below (TL.setTop (mkF m 78 #[.val (.ref ra0), .val (.int p1), .val (.int p2), .val (.long q), .second, .val (.int d), .val (.int pt), .val (.int i), .val (.int (v3_24_l8 L_ra0 i)), .unset] [(.long (-1 : Int64))])) _
                exact retOut XL hx (t := .long) Bd.returns rfl (Or.inr (Or.inl ⟨rfl, rfl, _, rfl⟩)) (hb hby d3_78) hr
              · show Q3 Z ra0 p1 p2 k_ra0 n_ra0 L_ra0 h0 n0 _ TL.heap _
                rw [eL]
                exact ⟨(congrArg (fun z => some (Value.long z)) hv).symm, N0, rfl⟩
          · have k158 := fun (t : State) (kk : Steps p.tables e below (TL.setTop (mkF m 11 #[.val (.ref ra0), .val (.int p1), .val (.int p2), .val (.long (v3_47_l3 L_ra0 q i)), .second, .val (.int (d + (1 : Int32))), .val (.int pt), .val (.int (i + (1 : Int32))), .val (.int (v3_24_l8 L_ra0 i)), .unset] [])) t) => k145 t (by
              show Steps p.tables e below (TL.setTop (mkF m 35 #[.val (.ref ra0), .val (.int p1), .val (.int p2), .val (.long q), .second, .val (.int d), .val (.int pt), .val (.int i), .val (.int (v3_24_l8 L_ra0 i)), .unset] [(.int (9 : Int32)), (.int (v3_24_l8 L_ra0 i))])) _
              refine XS.icmpNo XL.here hx rfl (hb hby d3_35) rfl (flt hc35_146).2.2.1 ?_
              show Steps p.tables e below (TL.setTop (mkF m 38 #[.val (.ref ra0), .val (.int p1), .val (.int p2), .val (.long q), .second, .val (.int d), .val (.int pt), .val (.int i), .val (.int (v3_24_l8 L_ra0 i)), .unset] [])) _
              refine XL.ldc2Long hx hown (mvT hZ (hw _ (List.mem_of_getElem? (i := 33) rfl))) (g := (mkF m 38 #[.val (.ref ra0), .val (.int p1), .val (.int p2), .val (.long q), .second, .val (.int d), .val (.int pt), .val (.int i), .val (.int (v3_24_l8 L_ra0 i)), .unset] [])) rfl (hb hby d3_38) _ ?_
              refine XS.lloadN XL.here hx rfl (hb hby d3_41) rfl ?_
              refine XS.lmul XL.here hx rfl (hb hby d3_42) rfl ?_
              refine XS.iload XL.here hx rfl (hb hby d3_43) rfl ?_
              refine XS.i2l XL.here hx rfl (hb hby d3_45) rfl ?_
              refine XS.ladd XL.here hx rfl (hb hby d3_46) rfl ?_
              show Steps p.tables e below (TL.setTop (mkF m 47 #[.val (.ref ra0), .val (.int p1), .val (.int p2), .val (.long q), .second, .val (.int d), .val (.int pt), .val (.int i), .val (.int (v3_24_l8 L_ra0 i)), .unset] [(.long (((10 : Int64) * q) + ((v3_24_l8 L_ra0 i).toInt64)))])) _
              refine XS.lstoreN XL.here hx rfl (hb hby d3_47) rfl (l' := #[.val (.ref ra0), .val (.int p1), .val (.int p2), .val (.long (v3_47_l3 L_ra0 q i)), .second, .val (.int d), .val (.int pt), .val (.int i), .val (.int (v3_24_l8 L_ra0 i)), .unset]) rfl ?_
              refine XS.iinc XL.here hx rfl (hb hby d3_48) rfl (l' := #[.val (.ref ra0), .val (.int p1), .val (.int p2), .val (.long (v3_47_l3 L_ra0 q i)), .second, .val (.int (d + (1 : Int32))), .val (.int pt), .val (.int i), .val (.int (v3_24_l8 L_ra0 i)), .unset]) rfl ?_
              refine XS.goto XL.here hx rfl (pc0 := 51) (pc' := 79) rfl (hb hby d3_51) (by decide) (by decide) ?_
              refine XS.iinc XL.here hx rfl (hb hby d3_79) rfl (l' := #[.val (.ref ra0), .val (.int p1), .val (.int p2), .val (.long (v3_47_l3 L_ra0 q i)), .second, .val (.int (d + (1 : Int32))), .val (.int pt), .val (.int (i + (1 : Int32))), .val (.int (v3_24_l8 L_ra0 i)), .unset]) rfl ?_
              refine XS.goto XL.here hx rfl (pc0 := 82) (pc' := 11) rfl (hb hby d3_82) (by decide) (by decide) ?_
              exact kk)
            exact ih (v3_47_l3 L_ra0 q i) (d + (1 : Int32)) pt (i + (1 : Int32)) (.val (.int (v3_24_l8 L_ra0 i))) (One.val rfl) TL XL eL (((own_parse_succ p1 p2 L_ra0 N q d pt i).trans ((if_pos hc14_127).trans ((if_neg hc28_133).trans (if_neg hc35_146)))).symm.trans hR) (own_succ_nn hi hc14_127) (own_step hi hc14_127 hm) k158
      · have k175 := fun (t : State) (kk : Steps p.tables e below (TL.setTop (mkF m 164 #[.val (.ref ra0), .val (.int p1), .val (.int p2), .val (.long q), .second, .val (.int d), .val (.int pt), .val (.int (v3_87_s0 p2 pt)), .val (.long (v3_104_l8 p1 p2 q d pt)), .second] [(.long (v3_104_l8 p1 p2 q d pt))])) t) => k126 t (by
          show Steps p.tables e below (TL.setTop (mkF m 14 #[.val (.ref ra0), .val (.int p1), .val (.int p2), .val (.long q), .second, .val (.int d), .val (.int pt), .val (.int i), s8, .unset] [(.int p2), (.int i)])) _
          refine XS.icmpYes XL.here hx rfl (pc0 := 14) (pc' := 85) rfl (hb hby d3_14) rfl (flt hc14_127).2.1 (by decide) (by decide) ?_
          refine XS.iload XL.here hx rfl (hb hby d3_85) rfl ?_
          suffices k160 : Steps p.tables e below (TL.setTop (mkF m 100 #[.val (.ref ra0), .val (.int p1), .val (.int p2), .val (.long q), .second, .val (.int d), .val (.int pt), .val (.int i), s8, .unset] [(.int (v3_87_s0 p2 pt))])) t by
            by_cases hc87_159 : pt < (0 : Int32)
            · rw [(show (v3_87_s0 p2 pt) = (0 : Int32) from if_pos hc87_159)] at k160
              show Steps p.tables e below (TL.setTop (mkF m 87 #[.val (.ref ra0), .val (.int p1), .val (.int p2), .val (.long q), .second, .val (.int d), .val (.int pt), .val (.int i), s8, .unset] [(.int pt)])) _
              refine XS.ifNo XL.here hx rfl (hb hby d3_87) rfl ((if0 _ _).trans (tlt hc87_159).2.1) ?_
              show Steps p.tables e below (TL.setTop (mkF m 90 #[.val (.ref ra0), .val (.int p1), .val (.int p2), .val (.long q), .second, .val (.int d), .val (.int pt), .val (.int i), s8, .unset] [])) _
              refine XS.iconst XL.here hx rfl (hb hby d3_90) ?_
              refine XS.goto XL.here hx rfl (pc0 := 91) (pc' := 100) rfl (hb hby d3_91) (by decide) (by decide) ?_
              exact k160
            · rw [(show (v3_87_s0 p2 pt) = ((p2 - pt) - (1 : Int32)) from if_neg hc87_159)] at k160
              show Steps p.tables e below (TL.setTop (mkF m 87 #[.val (.ref ra0), .val (.int p1), .val (.int p2), .val (.long q), .second, .val (.int d), .val (.int pt), .val (.int i), s8, .unset] [(.int pt)])) _
              refine XS.ifYes XL.here hx rfl (pc0 := 87) (pc' := 94) rfl (hb hby d3_87) rfl ((if0 _ _).trans (flt hc87_159).2.1) (by decide) (by decide) ?_
              refine XS.iloadN XL.here hx rfl (hb hby d3_94) rfl ?_
              refine XS.iload XL.here hx rfl (hb hby d3_95) rfl ?_
              refine XS.isub XL.here hx rfl (hb hby d3_97) rfl ?_
              refine XS.iconst XL.here hx rfl (hb hby d3_98) ?_
              show Steps p.tables e below (TL.setTop (mkF m 99 #[.val (.ref ra0), .val (.int p1), .val (.int p2), .val (.long q), .second, .val (.int d), .val (.int pt), .val (.int i), s8, .unset] [(.int (1 : Int32)), (.int (p2 - pt))])) _
              refine XS.isub XL.here hx rfl (hb hby d3_99) rfl ?_
              exact k160
          refine XS.istore XL.here hx rfl (hb hby d3_100) rfl (l' := #[.val (.ref ra0), .val (.int p1), .val (.int p2), .val (.long q), .second, .val (.int d), .val (.int pt), .val (.int (v3_87_s0 p2 pt)), s8, .unset]) rfl ?_
          refine XS.iloadN XL.here hx rfl (hb hby d3_102) rfl ?_
          refine XS.iloadN XL.here hx rfl (hb hby d3_103) rfl ?_
          suffices k174 : Steps p.tables e below (TL.setTop (mkF m 162 #[.val (.ref ra0), .val (.int p1), .val (.int p2), .val (.long q), .second, .val (.int d), .val (.int pt), .val (.int (v3_87_s0 p2 pt)), .val (.long (v3_104_l8 p1 p2 q d pt)), .second] [])) t by
            by_cases hc104_161 : p1 = p2
            · rw [(show (v3_104_l8 p1 p2 q d pt) = (-1 : Int64) from if_pos hc104_161)] at k174
              show Steps p.tables e below (TL.setTop (mkF m 104 #[.val (.ref ra0), .val (.int p1), .val (.int p2), .val (.long q), .second, .val (.int d), .val (.int pt), .val (.int (v3_87_s0 p2 pt)), s8, .unset] [(.int p2), (.int p1)])) _
              refine XS.icmpYes XL.here hx rfl (pc0 := 104) (pc' := 130) rfl (hb hby d3_104) rfl (teq hc104_161).1 (by decide) (by decide) ?_
              refine XL.ldc2Long hx hown (mvT hZ (hw _ (List.mem_of_getElem? (i := 34) rfl))) (g := (mkF m 130 #[.val (.ref ra0), .val (.int p1), .val (.int p2), .val (.long q), .second, .val (.int d), .val (.int pt), .val (.int (v3_87_s0 p2 pt)), s8, .unset] [])) rfl (hb hby d3_130) _ ?_
              refine XS.lstore XL.here hx rfl (hb hby d3_133) rfl (l' := #[.val (.ref ra0), .val (.int p1), .val (.int p2), .val (.long q), .second, .val (.int d), .val (.int pt), .val (.int (v3_87_s0 p2 pt)), .val (.long (-1 : Int64)), .second]) (os3_lstore_8_R_I_I_J_s_I_I_I_S_u hs8) ?_
              show Steps p.tables e below (TL.setTop (mkF m 135 #[.val (.ref ra0), .val (.int p1), .val (.int p2), .val (.long q), .second, .val (.int d), .val (.int pt), .val (.int (v3_87_s0 p2 pt)), .val (.long (-1 : Int64)), .second] [])) _
              refine XS.goto XL.here hx rfl (pc0 := 135) (pc' := 162) rfl (hb hby d3_135) (by decide) (by decide) ?_
              exact k174
            · rw [(show (v3_104_l8 p1 p2 q d pt) = (v3_110_l8 p1 p2 q d pt) from if_neg hc104_161)] at k174
              show Steps p.tables e below (TL.setTop (mkF m 104 #[.val (.ref ra0), .val (.int p1), .val (.int p2), .val (.long q), .second, .val (.int d), .val (.int pt), .val (.int (v3_87_s0 p2 pt)), s8, .unset] [(.int p2), (.int p1)])) _
              refine XS.icmpNo XL.here hx rfl (hb hby d3_104) rfl (feq hc104_161).1 ?_
              refine XS.iload XL.here hx rfl (hb hby d3_107) rfl ?_
              refine XS.iloadN XL.here hx rfl (hb hby d3_109) rfl ?_
              suffices k173 : Steps p.tables e below (TL.setTop (mkF m 162 #[.val (.ref ra0), .val (.int p1), .val (.int p2), .val (.long q), .second, .val (.int d), .val (.int pt), .val (.int (v3_87_s0 p2 pt)), .val (.long (v3_110_l8 p1 p2 q d pt)), .second] [])) t by
                by_cases hc110_162 : pt = p1
                · rw [(show (v3_110_l8 p1 p2 q d pt) = (-1 : Int64) from if_pos hc110_162)] at k173
                  show Steps p.tables e below (TL.setTop (mkF m 110 #[.val (.ref ra0), .val (.int p1), .val (.int p2), .val (.long q), .second, .val (.int d), .val (.int pt), .val (.int (v3_87_s0 p2 pt)), s8, .unset] [(.int p1), (.int pt)])) _
                  refine XS.icmpYes XL.here hx rfl (pc0 := 110) (pc' := 130) rfl (hb hby d3_110) rfl (teq hc110_162).1 (by decide) (by decide) ?_
                  refine XL.ldc2Long hx hown (mvT hZ (hw _ (List.mem_of_getElem? (i := 34) rfl))) (g := (mkF m 130 #[.val (.ref ra0), .val (.int p1), .val (.int p2), .val (.long q), .second, .val (.int d), .val (.int pt), .val (.int (v3_87_s0 p2 pt)), s8, .unset] [])) rfl (hb hby d3_130) _ ?_
                  refine XS.lstore XL.here hx rfl (hb hby d3_133) rfl (l' := #[.val (.ref ra0), .val (.int p1), .val (.int p2), .val (.long q), .second, .val (.int d), .val (.int pt), .val (.int (v3_87_s0 p2 pt)), .val (.long (-1 : Int64)), .second]) (os3_lstore_8_R_I_I_J_s_I_I_I_S_u hs8) ?_
                  refine XS.goto XL.here hx rfl (pc0 := 135) (pc' := 162) rfl (hb hby d3_135) (by decide) (by decide) ?_
                  exact k173
                · rw [(show (v3_110_l8 p1 p2 q d pt) = (v3_115_l8 p2 q d pt) from if_neg hc110_162)] at k173
                  show Steps p.tables e below (TL.setTop (mkF m 110 #[.val (.ref ra0), .val (.int p1), .val (.int p2), .val (.long q), .second, .val (.int d), .val (.int pt), .val (.int (v3_87_s0 p2 pt)), s8, .unset] [(.int p1), (.int pt)])) _
                  refine XS.icmpNo XL.here hx rfl (hb hby d3_110) rfl (feq hc110_162).1 ?_
                  show Steps p.tables e below (TL.setTop (mkF m 113 #[.val (.ref ra0), .val (.int p1), .val (.int p2), .val (.long q), .second, .val (.int d), .val (.int pt), .val (.int (v3_87_s0 p2 pt)), s8, .unset] [])) _
                  refine XS.iload XL.here hx rfl (hb hby d3_113) rfl ?_
                  suffices k172 : Steps p.tables e below (TL.setTop (mkF m 162 #[.val (.ref ra0), .val (.int p1), .val (.int p2), .val (.long q), .second, .val (.int d), .val (.int pt), .val (.int (v3_87_s0 p2 pt)), .val (.long (v3_115_l8 p2 q d pt)), .second] [])) t by
                    by_cases hc115_163 : pt < (0 : Int32)
                    · rw [(show (v3_115_l8 p2 q d pt) = (v3_142_l8 p2 q d pt) from if_pos hc115_163)] at k172
                      show Steps p.tables e below (TL.setTop (mkF m 115 #[.val (.ref ra0), .val (.int p1), .val (.int p2), .val (.long q), .second, .val (.int d), .val (.int pt), .val (.int (v3_87_s0 p2 pt)), s8, .unset] [(.int pt)])) _
                      refine XS.ifYes XL.here hx rfl (pc0 := 115) (pc' := 138) rfl (hb hby d3_115) rfl ((if0 _ _).trans (tlt hc115_163).1) (by decide) (by decide) ?_
                      refine XS.iload XL.here hx rfl (hb hby d3_138) rfl ?_
                      refine XS.bipush XL.here hx rfl (hb hby d3_140) ?_
                      suffices k165 : Steps p.tables e below (TL.setTop (mkF m 162 #[.val (.ref ra0), .val (.int p1), .val (.int p2), .val (.long q), .second, .val (.int d), .val (.int pt), .val (.int (v3_87_s0 p2 pt)), .val (.long (v3_142_l8 p2 q d pt)), .second] [])) t by
                        by_cases hc142_164 : (17 : Int32) < d
                        · rw [(show (v3_142_l8 p2 q d pt) = (-2 : Int64) from if_pos hc142_164)] at k165
                          show Steps p.tables e below (TL.setTop (mkF m 142 #[.val (.ref ra0), .val (.int p1), .val (.int p2), .val (.long q), .second, .val (.int d), .val (.int pt), .val (.int (v3_87_s0 p2 pt)), s8, .unset] [(.int (17 : Int32)), (.int d)])) _
                          refine XS.icmpNo XL.here hx rfl (hb hby d3_142) rfl (tlt hc142_164).2.2.2 ?_
                          refine XL.ldc2Long hx hown (mvT hZ (hw _ (List.mem_of_getElem? (i := 36) rfl))) (g := (mkF m 145 #[.val (.ref ra0), .val (.int p1), .val (.int p2), .val (.long q), .second, .val (.int d), .val (.int pt), .val (.int (v3_87_s0 p2 pt)), s8, .unset] [])) rfl (hb hby d3_145) _ ?_
                          refine XS.lstore XL.here hx rfl (hb hby d3_148) rfl (l' := #[.val (.ref ra0), .val (.int p1), .val (.int p2), .val (.long q), .second, .val (.int d), .val (.int pt), .val (.int (v3_87_s0 p2 pt)), .val (.long (-2 : Int64)), .second]) (os3_lstore_8_R_I_I_J_s_I_I_I_S_u hs8) ?_
                          refine XS.goto XL.here hx rfl (pc0 := 150) (pc' := 162) rfl (hb hby d3_150) (by decide) (by decide) ?_
                          exact k165
                        · rw [(show (v3_142_l8 p2 q d pt) = (v3_160_l8 p2 q pt) from if_neg hc142_164)] at k165
                          show Steps p.tables e below (TL.setTop (mkF m 142 #[.val (.ref ra0), .val (.int p1), .val (.int p2), .val (.long q), .second, .val (.int d), .val (.int pt), .val (.int (v3_87_s0 p2 pt)), s8, .unset] [(.int (17 : Int32)), (.int d)])) _
                          refine XS.icmpYes XL.here hx rfl (pc0 := 142) (pc' := 153) rfl (hb hby d3_142) rfl (flt hc142_164).2.2.2 (by decide) (by decide) ?_
                          show Steps p.tables e below (TL.setTop (mkF m 153 #[.val (.ref ra0), .val (.int p1), .val (.int p2), .val (.long q), .second, .val (.int d), .val (.int pt), .val (.int (v3_87_s0 p2 pt)), s8, .unset] [])) _
                          refine XS.lloadN XL.here hx rfl (hb hby d3_153) rfl ?_
                          refine XS.iconst XL.here hx rfl (hb hby d3_154) ?_
                          refine XS.lshl XL.here hx rfl (hb hby d3_155) rfl ?_
                          refine XS.iload XL.here hx rfl (hb hby d3_156) rfl ?_
                          refine XS.i2l XL.here hx rfl (hb hby d3_158) rfl ?_
                          refine XS.lor XL.here hx rfl (hb hby d3_159) rfl ?_
                          show Steps p.tables e below (TL.setTop (mkF m 160 #[.val (.ref ra0), .val (.int p1), .val (.int p2), .val (.long q), .second, .val (.int d), .val (.int pt), .val (.int (v3_87_s0 p2 pt)), s8, .unset] [(.long ((q <<< ((4 : Int32) &&& 0x3f).toInt64) ||| ((v3_87_s0 p2 pt).toInt64)))])) _
                          refine XS.lstore XL.here hx rfl (hb hby d3_160) rfl (l' := #[.val (.ref ra0), .val (.int p1), .val (.int p2), .val (.long q), .second, .val (.int d), .val (.int pt), .val (.int (v3_87_s0 p2 pt)), .val (.long (v3_160_l8 p2 q pt)), .second]) (os3_lstore_8_R_I_I_J_s_I_I_I_S_u hs8) ?_
                          exact k165
                      exact k172
                    · rw [(show (v3_115_l8 p2 q d pt) = (v3_120_l8 p2 q d pt) from if_neg hc115_163)] at k172
                      show Steps p.tables e below (TL.setTop (mkF m 115 #[.val (.ref ra0), .val (.int p1), .val (.int p2), .val (.long q), .second, .val (.int d), .val (.int pt), .val (.int (v3_87_s0 p2 pt)), s8, .unset] [(.int pt)])) _
                      refine XS.ifNo XL.here hx rfl (hb hby d3_115) rfl ((if0 _ _).trans (flt hc115_163).1) ?_
                      refine XS.iload XL.here hx rfl (hb hby d3_118) rfl ?_
                      suffices k171 : Steps p.tables e below (TL.setTop (mkF m 162 #[.val (.ref ra0), .val (.int p1), .val (.int p2), .val (.long q), .second, .val (.int d), .val (.int pt), .val (.int (v3_87_s0 p2 pt)), .val (.long (v3_120_l8 p2 q d pt)), .second] [])) t by
                        by_cases hc120_166 : (v3_87_s0 p2 pt) = (0 : Int32)
                        · rw [(show (v3_120_l8 p2 q d pt) = (-1 : Int64) from if_pos hc120_166)] at k171
                          show Steps p.tables e below (TL.setTop (mkF m 120 #[.val (.ref ra0), .val (.int p1), .val (.int p2), .val (.long q), .second, .val (.int d), .val (.int pt), .val (.int (v3_87_s0 p2 pt)), s8, .unset] [(.int (v3_87_s0 p2 pt))])) _
                          refine XS.ifYes XL.here hx rfl (pc0 := 120) (pc' := 130) rfl (hb hby d3_120) rfl ((if0 _ _).trans (teq hc120_166).1) (by decide) (by decide) ?_
                          refine XL.ldc2Long hx hown (mvT hZ (hw _ (List.mem_of_getElem? (i := 34) rfl))) (g := (mkF m 130 #[.val (.ref ra0), .val (.int p1), .val (.int p2), .val (.long q), .second, .val (.int d), .val (.int pt), .val (.int (v3_87_s0 p2 pt)), s8, .unset] [])) rfl (hb hby d3_130) _ ?_
                          refine XS.lstore XL.here hx rfl (hb hby d3_133) rfl (l' := #[.val (.ref ra0), .val (.int p1), .val (.int p2), .val (.long q), .second, .val (.int d), .val (.int pt), .val (.int (v3_87_s0 p2 pt)), .val (.long (-1 : Int64)), .second]) (os3_lstore_8_R_I_I_J_s_I_I_I_S_u hs8) ?_
                          refine XS.goto XL.here hx rfl (pc0 := 135) (pc' := 162) rfl (hb hby d3_135) (by decide) (by decide) ?_
                          exact k171
                        · rw [(show (v3_120_l8 p2 q d pt) = (v3_127_l8 p2 q d pt) from if_neg hc120_166)] at k171
                          show Steps p.tables e below (TL.setTop (mkF m 120 #[.val (.ref ra0), .val (.int p1), .val (.int p2), .val (.long q), .second, .val (.int d), .val (.int pt), .val (.int (v3_87_s0 p2 pt)), s8, .unset] [(.int (v3_87_s0 p2 pt))])) _
                          refine XS.ifNo XL.here hx rfl (hb hby d3_120) rfl ((if0 _ _).trans (feq hc120_166).1) ?_
                          refine XS.iload XL.here hx rfl (hb hby d3_123) rfl ?_
                          show Steps p.tables e below (TL.setTop (mkF m 125 #[.val (.ref ra0), .val (.int p1), .val (.int p2), .val (.long q), .second, .val (.int d), .val (.int pt), .val (.int (v3_87_s0 p2 pt)), s8, .unset] [(.int (v3_87_s0 p2 pt))])) _
                          refine XS.bipush XL.here hx rfl (hb hby d3_125) ?_
                          suffices k170 : Steps p.tables e below (TL.setTop (mkF m 162 #[.val (.ref ra0), .val (.int p1), .val (.int p2), .val (.long q), .second, .val (.int d), .val (.int pt), .val (.int (v3_87_s0 p2 pt)), .val (.long (v3_127_l8 p2 q d pt)), .second] [])) t by
                            by_cases hc127_167 : (8 : Int32) < (v3_87_s0 p2 pt)
                            · rw [(show (v3_127_l8 p2 q d pt) = (-1 : Int64) from if_pos hc127_167)] at k170
                              show Steps p.tables e below (TL.setTop (mkF m 127 #[.val (.ref ra0), .val (.int p1), .val (.int p2), .val (.long q), .second, .val (.int d), .val (.int pt), .val (.int (v3_87_s0 p2 pt)), s8, .unset] [(.int (8 : Int32)), (.int (v3_87_s0 p2 pt))])) _
                              refine XS.icmpNo XL.here hx rfl (hb hby d3_127) rfl (tlt hc127_167).2.2.2 ?_
                              refine XL.ldc2Long hx hown (mvT hZ (hw _ (List.mem_of_getElem? (i := 34) rfl))) (g := (mkF m 130 #[.val (.ref ra0), .val (.int p1), .val (.int p2), .val (.long q), .second, .val (.int d), .val (.int pt), .val (.int (v3_87_s0 p2 pt)), s8, .unset] [])) rfl (hb hby d3_130) _ ?_
                              refine XS.lstore XL.here hx rfl (hb hby d3_133) rfl (l' := #[.val (.ref ra0), .val (.int p1), .val (.int p2), .val (.long q), .second, .val (.int d), .val (.int pt), .val (.int (v3_87_s0 p2 pt)), .val (.long (-1 : Int64)), .second]) (os3_lstore_8_R_I_I_J_s_I_I_I_S_u hs8) ?_
                              refine XS.goto XL.here hx rfl (pc0 := 135) (pc' := 162) rfl (hb hby d3_135) (by decide) (by decide) ?_
                              exact k170
                            · rw [(show (v3_127_l8 p2 q d pt) = (v3_142_l8 p2 q d pt) from if_neg hc127_167)] at k170
                              show Steps p.tables e below (TL.setTop (mkF m 127 #[.val (.ref ra0), .val (.int p1), .val (.int p2), .val (.long q), .second, .val (.int d), .val (.int pt), .val (.int (v3_87_s0 p2 pt)), s8, .unset] [(.int (8 : Int32)), (.int (v3_87_s0 p2 pt))])) _
                              refine XS.icmpYes XL.here hx rfl (pc0 := 127) (pc' := 138) rfl (hb hby d3_127) rfl (flt hc127_167).2.2.2 (by decide) (by decide) ?_
                              refine XS.iload XL.here hx rfl (hb hby d3_138) rfl ?_
                              refine XS.bipush XL.here hx rfl (hb hby d3_140) ?_
                              suffices k169 : Steps p.tables e below (TL.setTop (mkF m 162 #[.val (.ref ra0), .val (.int p1), .val (.int p2), .val (.long q), .second, .val (.int d), .val (.int pt), .val (.int (v3_87_s0 p2 pt)), .val (.long (v3_142_l8 p2 q d pt)), .second] [])) t by
                                by_cases hc142_168 : (17 : Int32) < d
                                · rw [(show (v3_142_l8 p2 q d pt) = (-2 : Int64) from if_pos hc142_168)] at k169
                                  show Steps p.tables e below (TL.setTop (mkF m 142 #[.val (.ref ra0), .val (.int p1), .val (.int p2), .val (.long q), .second, .val (.int d), .val (.int pt), .val (.int (v3_87_s0 p2 pt)), s8, .unset] [(.int (17 : Int32)), (.int d)])) _
                                  refine XS.icmpNo XL.here hx rfl (hb hby d3_142) rfl (tlt hc142_168).2.2.2 ?_
                                  show Steps p.tables e below (TL.setTop (mkF m 145 #[.val (.ref ra0), .val (.int p1), .val (.int p2), .val (.long q), .second, .val (.int d), .val (.int pt), .val (.int (v3_87_s0 p2 pt)), s8, .unset] [])) _
                                  refine XL.ldc2Long hx hown (mvT hZ (hw _ (List.mem_of_getElem? (i := 36) rfl))) (g := (mkF m 145 #[.val (.ref ra0), .val (.int p1), .val (.int p2), .val (.long q), .second, .val (.int d), .val (.int pt), .val (.int (v3_87_s0 p2 pt)), s8, .unset] [])) rfl (hb hby d3_145) _ ?_
                                  refine XS.lstore XL.here hx rfl (hb hby d3_148) rfl (l' := #[.val (.ref ra0), .val (.int p1), .val (.int p2), .val (.long q), .second, .val (.int d), .val (.int pt), .val (.int (v3_87_s0 p2 pt)), .val (.long (-2 : Int64)), .second]) (os3_lstore_8_R_I_I_J_s_I_I_I_S_u hs8) ?_
                                  refine XS.goto XL.here hx rfl (pc0 := 150) (pc' := 162) rfl (hb hby d3_150) (by decide) (by decide) ?_
                                  exact k169
                                · rw [(show (v3_142_l8 p2 q d pt) = (v3_160_l8 p2 q pt) from if_neg hc142_168)] at k169
                                  show Steps p.tables e below (TL.setTop (mkF m 142 #[.val (.ref ra0), .val (.int p1), .val (.int p2), .val (.long q), .second, .val (.int d), .val (.int pt), .val (.int (v3_87_s0 p2 pt)), s8, .unset] [(.int (17 : Int32)), (.int d)])) _
                                  refine XS.icmpYes XL.here hx rfl (pc0 := 142) (pc' := 153) rfl (hb hby d3_142) rfl (flt hc142_168).2.2.2 (by decide) (by decide) ?_
                                  refine XS.lloadN XL.here hx rfl (hb hby d3_153) rfl ?_
                                  refine XS.iconst XL.here hx rfl (hb hby d3_154) ?_
                                  refine XS.lshl XL.here hx rfl (hb hby d3_155) rfl ?_
                                  show Steps p.tables e below (TL.setTop (mkF m 156 #[.val (.ref ra0), .val (.int p1), .val (.int p2), .val (.long q), .second, .val (.int d), .val (.int pt), .val (.int (v3_87_s0 p2 pt)), s8, .unset] [(.long (q <<< ((4 : Int32) &&& 0x3f).toInt64))])) _
                                  refine XS.iload XL.here hx rfl (hb hby d3_156) rfl ?_
                                  refine XS.i2l XL.here hx rfl (hb hby d3_158) rfl ?_
                                  refine XS.lor XL.here hx rfl (hb hby d3_159) rfl ?_
                                  refine XS.lstore XL.here hx rfl (hb hby d3_160) rfl (l' := #[.val (.ref ra0), .val (.int p1), .val (.int p2), .val (.long q), .second, .val (.int d), .val (.int pt), .val (.int (v3_87_s0 p2 pt)), .val (.long (v3_160_l8 p2 q pt)), .second]) (os3_lstore_8_R_I_I_J_s_I_I_I_S_u hs8) ?_
                                  exact k169
                              exact k170
                          exact k171
                      exact k172
                  exact k173
              exact k174
          refine XS.lload XL.here hx rfl (hb hby d3_162) rfl ?_
          exact kk)
        obtain ⟨fs, hr, hrun, hended, hW, hsame⟩ := XL.leave (v := some (.long (v3_104_l8 p1 p2 q d pt))) (fun h => by rw [Bd.returns] at h; cases h)
        have hv : (own_parse p1 p2 L_ra0 (p2.toInt - p1.toInt).toNat (0 : Int64) (0 : Int32) (-1 : Int32) p1) = (v3_104_l8 p1 p2 q d pt) := hR.symm.trans ((own_parse_succ p1 p2 L_ra0 N q d pt i).trans (if_neg hc14_127))
        refine ⟨_, _, k175 _ ?_, hrun, hended, _, _, rfl, ?_, ⟨_, rfl⟩, hW, hsame.mono (by decide) (by decide)⟩
        · show Steps p.tables e below (TL.setTop (mkF m 164 #[.val (.ref ra0), .val (.int p1), .val (.int p2), .val (.long q), .second, .val (.int d), .val (.int pt), .val (.int (v3_87_s0 p2 pt)), .val (.long (v3_104_l8 p1 p2 q d pt)), .second] [(.long (v3_104_l8 p1 p2 q d pt))])) _
          exact retOut XL hx (t := .long) Bd.returns rfl (Or.inr (Or.inl ⟨rfl, rfl, _, rfl⟩)) (hb hby d3_164) hr
        · show Q3 Z ra0 p1 p2 k_ra0 n_ra0 L_ra0 h0 n0 _ TL.heap _
          rw [eL]
          exact ⟨(congrArg (fun z => some (Value.long z)) hv).symm, N0, rfl⟩
  exact loop106 ((p2.toInt - p1.toInt).toNat) (0 : Int64) (0 : Int32) (-1 : Int32) p1 .unset One.u s₁ X0 e0 rfl (hst) (own_fuel p1 p2) k105
theorem pd_1 : parseMethodDescriptor "([BIIJIZIZI)V" = some ⟨[(.array .byte), .int, .int, .long, .int, .boolean, .int, .boolean, .int], none⟩ := by decide +kernel
theorem pd_2 : parseMethodDescriptor "([BII)J" = some ⟨[(.array .byte), .int, .int], some .long⟩ := by decide +kernel
def v0_5_l4 (q0 : Int64) : Int64 := (q0 &&& (9223372036854775807 : Int64))
def v0_14_l6 (p1 : Int32) : Int32 := ((p1 &&& (31 : Int32)) % (20 : Int32))
def v0_21_s0 (p1 : Int32) : Int32 := if (((p1.toUInt32 >>> ((5 : Int32) &&& 31).toUInt32).toInt32) &&& (1 : Int32)) = (0 : Int32) then (0 : Int32) else (1 : Int32)
def v0_43_l8 (p1 : Int32) : Int32 := ((((p1.toUInt32 >>> ((6 : Int32) &&& 31).toUInt32).toInt32) &&& (31 : Int32)) % ((v0_14_l6 p1) + (1 : Int32)))
def v0_51_s0 (p1 : Int32) : Int32 := if (((p1.toUInt32 >>> ((11 : Int32) &&& 31).toUInt32).toInt32) &&& (1 : Int32)) = (0 : Int32) then (0 : Int32) else (1 : Int32)
def v0_73_l10 (p1 : Int32) : Int32 := ((((p1.toUInt32 >>> ((12 : Int32) &&& 31).toUInt32).toInt32) &&& (31 : Int32)) % ((v0_14_l6 p1) + (1 : Int32)))
def v0_81_l11 (p1 : Int32) : Int32 := (((p1.toUInt32 >>> ((17 : Int32) &&& 31).toUInt32).toInt32) &&& (3 : Int32))
def v0_123_l12 (p2 : Int32) : Int32 := (((p2.toInt8.toInt32) + (10 : Int32)).toInt8.toInt32)
def v0_114_l12 (p2 : Int32) : Int32 := if (57 : Int32) < (p2.toInt8.toInt32) then (p2.toInt8.toInt32) else (v0_123_l12 p2)
def v0_107_l12 (p2 : Int32) : Int32 := if (p2.toInt8.toInt32) < (48 : Int32) then (p2.toInt8.toInt32) else (v0_114_l12 p2)
def v0_93_l12 (p2 : Int32) : Int32 := if (((p2.toUInt32 >>> ((8 : Int32) &&& 31).toUInt32).toInt32) &&& (1 : Int32)) = (0 : Int32) then (v0_107_l12 p2) else (46 : Int32)
def v0_148_L0 (q0 : Int64) (p1 : Int32) : List Int32 := (v1_a_ra0 (0 : Int32) (v0_14_l6 p1) (v0_5_l4 q0) (v0_81_l11 p1) (v0_21_s0 p1) (v0_43_l8 p1) (v0_51_s0 p1) (v0_73_l10 p1) ([(0 : Int32), (0 : Int32), (0 : Int32), (0 : Int32), (0 : Int32), (0 : Int32), (0 : Int32), (0 : Int32), (0 : Int32), (0 : Int32), (0 : Int32), (0 : Int32), (0 : Int32), (0 : Int32), (0 : Int32), (0 : Int32), (0 : Int32), (0 : Int32), (0 : Int32), (0 : Int32), (0 : Int32), (0 : Int32), (0 : Int32), (0 : Int32), (0 : Int32)] : List Int32))
def v0_168_L0 (q0 : Int64) (p1 : Int32) : List Int32 := (v1_a_ra0 (1 : Int32) (v0_14_l6 p1) (v0_5_l4 q0) (v0_81_l11 p1) (v0_21_s0 p1) (v0_43_l8 p1) (v0_51_s0 p1) (v0_73_l10 p1) (v0_148_L0 q0 p1))
def v0_188_L0 (q0 : Int64) (p1 : Int32) : List Int32 := (v1_a_ra0 (2 : Int32) (v0_14_l6 p1) (v0_5_l4 q0) (v0_81_l11 p1) (v0_21_s0 p1) (v0_43_l8 p1) (v0_51_s0 p1) (v0_73_l10 p1) (v0_168_L0 q0 p1))
def v0_208_L0 (q0 : Int64) (p1 : Int32) : List Int32 := (v1_a_ra0 (3 : Int32) (v0_14_l6 p1) (v0_5_l4 q0) (v0_81_l11 p1) (v0_21_s0 p1) (v0_43_l8 p1) (v0_51_s0 p1) (v0_73_l10 p1) (v0_188_L0 q0 p1))
def v0_228_L0 (q0 : Int64) (p1 : Int32) : List Int32 := (v1_a_ra0 (4 : Int32) (v0_14_l6 p1) (v0_5_l4 q0) (v0_81_l11 p1) (v0_21_s0 p1) (v0_43_l8 p1) (v0_51_s0 p1) (v0_73_l10 p1) (v0_208_L0 q0 p1))
def v0_248_L0 (q0 : Int64) (p1 : Int32) : List Int32 := (v1_a_ra0 (5 : Int32) (v0_14_l6 p1) (v0_5_l4 q0) (v0_81_l11 p1) (v0_21_s0 p1) (v0_43_l8 p1) (v0_51_s0 p1) (v0_73_l10 p1) (v0_228_L0 q0 p1))
def v0_269_L0 (q0 : Int64) (p1 : Int32) : List Int32 := (v1_a_ra0 (6 : Int32) (v0_14_l6 p1) (v0_5_l4 q0) (v0_81_l11 p1) (v0_21_s0 p1) (v0_43_l8 p1) (v0_51_s0 p1) (v0_73_l10 p1) (v0_248_L0 q0 p1))
def v0_290_L0 (q0 : Int64) (p1 : Int32) : List Int32 := (v1_a_ra0 (7 : Int32) (v0_14_l6 p1) (v0_5_l4 q0) (v0_81_l11 p1) (v0_21_s0 p1) (v0_43_l8 p1) (v0_51_s0 p1) (v0_73_l10 p1) (v0_269_L0 q0 p1))
def v0_311_L0 (q0 : Int64) (p1 : Int32) : List Int32 := (v1_a_ra0 (8 : Int32) (v0_14_l6 p1) (v0_5_l4 q0) (v0_81_l11 p1) (v0_21_s0 p1) (v0_43_l8 p1) (v0_51_s0 p1) (v0_73_l10 p1) (v0_290_L0 q0 p1))
def v0_332_L0 (q0 : Int64) (p1 : Int32) : List Int32 := (v1_a_ra0 (9 : Int32) (v0_14_l6 p1) (v0_5_l4 q0) (v0_81_l11 p1) (v0_21_s0 p1) (v0_43_l8 p1) (v0_51_s0 p1) (v0_73_l10 p1) (v0_311_L0 q0 p1))
def v0_353_L0 (q0 : Int64) (p1 : Int32) : List Int32 := (v1_a_ra0 (10 : Int32) (v0_14_l6 p1) (v0_5_l4 q0) (v0_81_l11 p1) (v0_21_s0 p1) (v0_43_l8 p1) (v0_51_s0 p1) (v0_73_l10 p1) (v0_332_L0 q0 p1))
def v0_374_L0 (q0 : Int64) (p1 : Int32) : List Int32 := (v1_a_ra0 (11 : Int32) (v0_14_l6 p1) (v0_5_l4 q0) (v0_81_l11 p1) (v0_21_s0 p1) (v0_43_l8 p1) (v0_51_s0 p1) (v0_73_l10 p1) (v0_353_L0 q0 p1))
def v0_395_L0 (q0 : Int64) (p1 : Int32) : List Int32 := (v1_a_ra0 (12 : Int32) (v0_14_l6 p1) (v0_5_l4 q0) (v0_81_l11 p1) (v0_21_s0 p1) (v0_43_l8 p1) (v0_51_s0 p1) (v0_73_l10 p1) (v0_374_L0 q0 p1))
def v0_416_L0 (q0 : Int64) (p1 : Int32) : List Int32 := (v1_a_ra0 (13 : Int32) (v0_14_l6 p1) (v0_5_l4 q0) (v0_81_l11 p1) (v0_21_s0 p1) (v0_43_l8 p1) (v0_51_s0 p1) (v0_73_l10 p1) (v0_395_L0 q0 p1))
def v0_437_L0 (q0 : Int64) (p1 : Int32) : List Int32 := (v1_a_ra0 (14 : Int32) (v0_14_l6 p1) (v0_5_l4 q0) (v0_81_l11 p1) (v0_21_s0 p1) (v0_43_l8 p1) (v0_51_s0 p1) (v0_73_l10 p1) (v0_416_L0 q0 p1))
def v0_458_L0 (q0 : Int64) (p1 : Int32) : List Int32 := (v1_a_ra0 (15 : Int32) (v0_14_l6 p1) (v0_5_l4 q0) (v0_81_l11 p1) (v0_21_s0 p1) (v0_43_l8 p1) (v0_51_s0 p1) (v0_73_l10 p1) (v0_437_L0 q0 p1))
def v0_479_L0 (q0 : Int64) (p1 : Int32) : List Int32 := (v1_a_ra0 (16 : Int32) (v0_14_l6 p1) (v0_5_l4 q0) (v0_81_l11 p1) (v0_21_s0 p1) (v0_43_l8 p1) (v0_51_s0 p1) (v0_73_l10 p1) (v0_458_L0 q0 p1))
def v0_500_L0 (q0 : Int64) (p1 : Int32) : List Int32 := (v1_a_ra0 (17 : Int32) (v0_14_l6 p1) (v0_5_l4 q0) (v0_81_l11 p1) (v0_21_s0 p1) (v0_43_l8 p1) (v0_51_s0 p1) (v0_73_l10 p1) (v0_479_L0 q0 p1))
def v0_521_L0 (q0 : Int64) (p1 : Int32) : List Int32 := (v1_a_ra0 (18 : Int32) (v0_14_l6 p1) (v0_5_l4 q0) (v0_81_l11 p1) (v0_21_s0 p1) (v0_43_l8 p1) (v0_51_s0 p1) (v0_73_l10 p1) (v0_500_L0 q0 p1))
def v0_614_l14 (p1 : Int32) : Int32 := (((v0_14_l6 p1) + (0 : Int32)) + (0 : Int32))
def v0_628_l15 (q0 : Int64) (p1 : Int32) : Int64 := (own_parse (v0_81_l11 p1) ((v0_81_l11 p1) + (v0_614_l14 p1)) (v0_521_L0 q0 p1) (((v0_81_l11 p1) + (v0_614_l14 p1)).toInt - (v0_81_l11 p1).toInt).toNat (0 : Int64) (0 : Int32) (-1 : Int32) (v0_81_l11 p1))
def v0_813_s0 (q0 : Int64) (p1 : Int32) : Int32 := if (v0_628_l15 q0 p1) = (-1 : Int64) then (1 : Int32) else (0 : Int32)
def v0_813_s0_1 (q0 : Int64) (p1 : Int32) : Int32 := if (v0_628_l15 q0 p1) = (-2 : Int64) then (1 : Int32) else (0 : Int32)
def v0_806_l18 (q0 : Int64) (p1 : Int32) : Int64 := ((((v0_5_l4 q0) % (v2_132_at (v0_14_l6 p1))) <<< ((4 : Int32) &&& 0x3f).toInt64) ||| ((0 : Int32).toInt64))
def v0_813_s0_2 (q0 : Int64) (p1 : Int32) : Int32 := if (v0_628_l15 q0 p1) = (v0_806_l18 q0 p1) then (1 : Int32) else (0 : Int32)
def v0_589_L (q0 : Int64) (p1 : Int32) (p2 : Int32) : List Int32 := ((v0_521_L0 q0 p1).set ((((v0_81_l11 p1) + (v0_73_l10 p1)) + (0 : Int32))).toNatClampNeg (((v0_93_l12 p2)).toInt8.toInt32))
def v0_614_l14_1 (p1 : Int32) : Int32 := (((v0_14_l6 p1) + (0 : Int32)) + (1 : Int32))
def v0_628_l15_1 (q0 : Int64) (p1 : Int32) (p2 : Int32) : Int64 := (own_parse (v0_81_l11 p1) ((v0_81_l11 p1) + (v0_614_l14_1 p1)) (v0_589_L q0 p1 p2) (((v0_81_l11 p1) + (v0_614_l14_1 p1)).toInt - (v0_81_l11 p1).toInt).toNat (0 : Int64) (0 : Int32) (-1 : Int32) (v0_81_l11 p1))
def v0_639_s0 (p2 : Int32) : Int32 := if (v0_93_l12 p2) = (46 : Int32) then (1 : Int32) else (0 : Int32)
def v0_813_s0_3 (q0 : Int64) (p1 : Int32) (p2 : Int32) : Int32 := if (v0_628_l15_1 q0 p1 p2) = (-1 : Int64) then (1 : Int32) else (0 : Int32)
def v0_813_s0_4 (q0 : Int64) (p1 : Int32) (p2 : Int32) : Int32 := if (v0_628_l15_1 q0 p1 p2) = (-2 : Int64) then (1 : Int32) else (0 : Int32)
def v0_806_l18_1 (q0 : Int64) (p1 : Int32) : Int64 := ((((v0_5_l4 q0) % (v2_132_at (v0_14_l6 p1))) <<< ((4 : Int32) &&& 0x3f).toInt64) ||| (((v0_14_l6 p1) - (v0_73_l10 p1)).toInt64))
def v0_813_s0_5 (q0 : Int64) (p1 : Int32) (p2 : Int32) : Int32 := if (v0_628_l15_1 q0 p1 p2) = (v0_806_l18_1 q0 p1) then (1 : Int32) else (0 : Int32)
def v0_545_s0 (p1 : Int32) : Int32 := if (v0_73_l10 p1) < (v0_43_l8 p1) then (1 : Int32) else (0 : Int32)
def v0_538_s0 (p1 : Int32) : Int32 := if (v0_51_s0 p1) = (0 : Int32) then (0 : Int32) else (v0_545_s0 p1)
def v0_556_L (q0 : Int64) (p1 : Int32) : List Int32 := ((v0_521_L0 q0 p1).set ((((v0_81_l11 p1) + (v0_43_l8 p1)) + (v0_538_s0 p1))).toNatClampNeg (46 : Int32))
def v0_614_l14_2 (p1 : Int32) : Int32 := (((v0_14_l6 p1) + (1 : Int32)) + (0 : Int32))
def v0_628_l15_2 (q0 : Int64) (p1 : Int32) : Int64 := (own_parse (v0_81_l11 p1) ((v0_81_l11 p1) + (v0_614_l14_2 p1)) (v0_556_L q0 p1) (((v0_81_l11 p1) + (v0_614_l14_2 p1)).toInt - (v0_81_l11 p1).toInt).toNat (0 : Int64) (0 : Int32) (-1 : Int32) (v0_81_l11 p1))
def v0_813_s0_6 (q0 : Int64) (p1 : Int32) : Int32 := if (v0_628_l15_2 q0 p1) = (-1 : Int64) then (1 : Int32) else (0 : Int32)
def v0_813_s0_7 (q0 : Int64) (p1 : Int32) : Int32 := if (v0_628_l15_2 q0 p1) = (-2 : Int64) then (1 : Int32) else (0 : Int32)
def v0_806_l18_2 (q0 : Int64) (p1 : Int32) : Int64 := ((((v0_5_l4 q0) % (v2_132_at (v0_14_l6 p1))) <<< ((4 : Int32) &&& 0x3f).toInt64) ||| (((v0_14_l6 p1) - (v0_43_l8 p1)).toInt64))
def v0_813_s0_8 (q0 : Int64) (p1 : Int32) : Int32 := if (v0_628_l15_2 q0 p1) = (v0_806_l18_2 q0 p1) then (1 : Int32) else (0 : Int32)
def v0_578_s0 (p1 : Int32) : Int32 := if (v0_73_l10 p1) < (v0_43_l8 p1) then (0 : Int32) else (1 : Int32)
def v0_589_L_1 (q0 : Int64) (p1 : Int32) (p2 : Int32) : List Int32 := ((v0_556_L q0 p1).set ((((v0_81_l11 p1) + (v0_73_l10 p1)) + (v0_578_s0 p1))).toNatClampNeg (((v0_93_l12 p2)).toInt8.toInt32))
def v0_614_l14_3 (p1 : Int32) : Int32 := (((v0_14_l6 p1) + (1 : Int32)) + (1 : Int32))
def v0_628_l15_3 (q0 : Int64) (p1 : Int32) (p2 : Int32) : Int64 := (own_parse (v0_81_l11 p1) ((v0_81_l11 p1) + (v0_614_l14_3 p1)) (v0_589_L_1 q0 p1 p2) (((v0_81_l11 p1) + (v0_614_l14_3 p1)).toInt - (v0_81_l11 p1).toInt).toNat (0 : Int64) (0 : Int32) (-1 : Int32) (v0_81_l11 p1))
def v0_813_s0_9 (q0 : Int64) (p1 : Int32) (p2 : Int32) : Int32 := if (v0_628_l15_3 q0 p1 p2) = (-1 : Int64) then (1 : Int32) else (0 : Int32)
def v0_ret (q0 : Int64) (p1 : Int32) (p2 : Int32) : Int32 := (if (v0_21_s0 p1) = (0 : Int32) then (if (v0_51_s0 p1) = (0 : Int32) then (if (v0_614_l14 p1) = (0 : Int32) then (nar .boolean (v0_813_s0 q0 p1)) else (if (17 : Int32) < (v0_14_l6 p1) then (nar .boolean (v0_813_s0_1 q0 p1)) else (nar .boolean (v0_813_s0_2 q0 p1)))) else (if (v0_639_s0 p2) = (0 : Int32) then (nar .boolean (v0_813_s0_3 q0 p1 p2)) else (if (v0_614_l14_1 p1) = (0 : Int32) then (nar .boolean (v0_813_s0_3 q0 p1 p2)) else (if (v0_73_l10 p1) = (0 : Int32) then (nar .boolean (v0_813_s0_3 q0 p1 p2)) else (if ((v0_14_l6 p1) - (v0_73_l10 p1)) = (0 : Int32) then (nar .boolean (v0_813_s0_3 q0 p1 p2)) else (if (8 : Int32) < ((v0_14_l6 p1) - (v0_73_l10 p1)) then (nar .boolean (v0_813_s0_3 q0 p1 p2)) else (if (17 : Int32) < (v0_14_l6 p1) then (nar .boolean (v0_813_s0_4 q0 p1 p2)) else (nar .boolean (v0_813_s0_5 q0 p1 p2))))))))) else (if (v0_51_s0 p1) = (0 : Int32) then (if (v0_614_l14_2 p1) = (0 : Int32) then (nar .boolean (v0_813_s0_6 q0 p1)) else (if (v0_43_l8 p1) = (0 : Int32) then (nar .boolean (v0_813_s0_6 q0 p1)) else (if ((v0_14_l6 p1) - (v0_43_l8 p1)) = (0 : Int32) then (nar .boolean (v0_813_s0_6 q0 p1)) else (if (8 : Int32) < ((v0_14_l6 p1) - (v0_43_l8 p1)) then (nar .boolean (v0_813_s0_6 q0 p1)) else (if (17 : Int32) < (v0_14_l6 p1) then (nar .boolean (v0_813_s0_7 q0 p1)) else (nar .boolean (v0_813_s0_8 q0 p1))))))) else (nar .boolean (v0_813_s0_9 q0 p1 p2))))
theorem own_n (p1 : Int32) : 0 ≤ (v0_14_l6 p1).toInt ∧ (v0_14_l6 p1).toInt ≤ 19 := by
  have h2 := (c_and p1 (31 : Int32) (by decide)).1
  have h3 := (c_iremV (p1 &&& 31) (20 : Int32)).1 h2 (by decide)
  have e : (20 : Int32).toInt = 20 := rfl
  unfold v0_14_l6; omega
theorem own_off (p1 : Int32) : 0 ≤ (v0_81_l11 p1).toInt ∧ (v0_81_l11 p1).toInt ≤ 3 := c_and _ (3 : Int32) (by decide)
theorem own_n1i (p1 : Int32) : ((v0_14_l6 p1) + (1 : Int32)).toInt = (v0_14_l6 p1).toInt + 1 := by
  have h := own_n p1; have a := c_iadd (v0_14_l6 p1) 1; have r := rng32 (v0_14_l6 p1 + 1); have e : (1 : Int32).toInt = 1 := rfl; omega
theorem own_n1 (p1 : Int32) : ((v0_14_l6 p1) + (1 : Int32)) ≠ 0 := fun h => by
  have := own_n1i p1; have h2 := own_n p1; rw [h] at this; have e : (0 : Int32).toInt = 0 := rfl; omega
theorem own_km (p1 x : Int32) : 0 ≤ ((x &&& (31 : Int32)) % ((v0_14_l6 p1) + (1 : Int32))).toInt ∧ ((x &&& (31 : Int32)) % ((v0_14_l6 p1) + (1 : Int32))).toInt ≤ (v0_14_l6 p1).toInt := by
  have h2 := (c_and x (31 : Int32) (by decide)).1
  have hn := own_n p1; have e := own_n1i p1
  have h3 := (c_iremV (x &&& 31) ((v0_14_l6 p1) + 1)).1 h2 (by omega)
  omega
theorem own_k (p1 : Int32) : 0 ≤ (v0_43_l8 p1).toInt ∧ (v0_43_l8 p1).toInt ≤ (v0_14_l6 p1).toInt := own_km p1 _
theorem own_m (p1 : Int32) : 0 ≤ (v0_73_l10 p1).toInt ∧ (v0_73_l10 p1).toInt ≤ (v0_14_l6 p1).toInt := own_km p1 _
theorem own_u (q0 : Int64) : 0 ≤ (v0_5_l4 q0).toInt := by
  have h := c_maskL q0 (9223372036854775807 : Int64) 63 (by decide) (by decide)
  have e : ((2 ^ 63 : Nat) : Int) = 9223372036854775808 := rfl
  unfold v0_5_l4; rw [h, e]; omega
theorem own_clamp {x : Int32} (h : 0 ≤ x.toInt) : (x.toNatClampNeg : Int) = x.toInt := by simp only [Int32.toNatClampNeg]; omega
theorem own_11 (j a k : Int32) : (v1_11_s0 j a k).toInt = if ¬ a = 0 ∧ k.toInt ≤ j.toInt then 1 else 0 := by
  unfold v1_11_s0 v1_17_s0
  by_cases h : a = 0
  · rw [if_pos h, if_neg (fun q => q.1 h)]; rfl
  · rw [if_neg h]
    by_cases h2 : j < k
    · rw [if_pos h2, if_neg (fun q => by rw [Int32.lt_iff_toInt_lt] at h2; omega)]; rfl
    · rw [if_neg h2, if_pos ⟨h, by rw [Int32.lt_iff_toInt_lt] at h2; omega⟩]; rfl
theorem own_28 (j a k : Int32) : (v1_28_s0 j a k).toInt = if ¬ a = 0 ∧ k.toInt ≤ j.toInt then 1 else 0 := own_11 j a k
/-- where digit j lies -/
def own_P (off k m : Nat) (a b : Bool) (j : Nat) : Nat := off + j + (if a = true ∧ k ≤ j then 1 else 0) + (if b = true ∧ m ≤ j then 1 else 0)
theorem own_pos (j off a k bb m : Int32) (hj : 0 ≤ j.toInt ∧ j.toInt ≤ 18) (ho : 0 ≤ off.toInt ∧ off.toInt ≤ 3) :
    (v1_43_l10 j off a k bb m).toInt = off.toInt + j.toInt + (if ¬ a = 0 ∧ k.toInt ≤ j.toInt then 1 else 0) + (if ¬ bb = 0 ∧ m.toInt ≤ j.toInt then 1 else 0) := by
  have e1 := own_11 j a k; have e2 := own_28 j bb m
  unfold v1_43_l10
  have a1 := c_iadd off j; have r1 := rng32 (off + j)
  have a2 := c_iadd (off + j) (v1_11_s0 j a k); have r2 := rng32 (off + j + v1_11_s0 j a k)
  have a3 := c_iadd (off + j + v1_11_s0 j a k) (v1_28_s0 j bb m); have r3 := rng32 (off + j + v1_11_s0 j a k + v1_28_s0 j bb m)
  rw [← e1, ← e2]
  have b1 : 0 ≤ (v1_11_s0 j a k).toInt ∧ (v1_11_s0 j a k).toInt ≤ 1 := by rw [e1]; split <;> omega
  have b2 : 0 ≤ (v1_28_s0 j bb m).toInt ∧ (v1_28_s0 j bb m).toInt ≤ 1 := by rw [e2]; split <;> omega
  omega
theorem own_hpos (j off a k bb m : Int32) (hj : 0 ≤ j.toInt ∧ j.toInt ≤ 18) (ho : 0 ≤ off.toInt ∧ off.toInt ≤ 3) :
    ¬ (v1_43_l10 j off a k bb m) < 0 ∧ (v1_43_l10 j off a k bb m) < (25 : Int32) := by
  have e := own_pos j off a k bb m hj ho
  have e0 : (0 : Int32).toInt = 0 := rfl
  have e25 : (25 : Int32).toInt = 25 := rfl
  rw [Int32.lt_iff_toInt_lt, Int32.lt_iff_toInt_lt, e, e0, e25]
  split <;> split <;> omega
theorem own_exp (n j : Int32) (hn : 0 ≤ n.toInt ∧ n.toInt ≤ 19) (hj : 0 ≤ j.toInt ∧ j.toInt ≤ 18) : ((n - (1 : Int32)) - j).toInt = n.toInt - 1 - j.toInt := by
  have a1 := c_isub n 1; have r1 := rng32 (n - 1); have e : (1 : Int32).toInt = 1 := rfl
  have a2 := c_isub (n - 1) j; have r2 := rng32 (n - 1 - j)
  omega
theorem own_hexp (n j : Int32) (hn : 0 ≤ n.toInt ∧ n.toInt ≤ 19) (hj : 0 ≤ j.toInt ∧ j.toInt ≤ 18) (h : j < n) : ¬ ((n - (1 : Int32)) - j) < 0 ∧ ((n - (1 : Int32)) - j) < (19 : Int32) := by
  have e := own_exp n j hn hj
  have e0 : (0 : Int32).toInt = 0 := rfl
  have e19 : (19 : Int32).toInt = 19 := rfl
  rw [Int32.lt_iff_toInt_lt] at h
  rw [Int32.lt_iff_toInt_lt, Int32.lt_iff_toInt_lt, e, e0, e19]; omega
theorem own_powF : ∀ e : Fin 19, ((([(1 : Int64), (10 : Int64), (100 : Int64), (1000 : Int64), (10000 : Int64), (100000 : Int64), (1000000 : Int64), (10000000 : Int64), (100000000 : Int64), (1000000000 : Int64), (10000000000 : Int64), (100000000000 : Int64), (1000000000000 : Int64), (10000000000000 : Int64), (100000000000000 : Int64), (1000000000000000 : Int64), (10000000000000000 : Int64), (100000000000000000 : Int64), (1000000000000000000 : Int64)] : List Int64).getD e.val (0 : Int64))).toInt = ((10 ^ e.val : Nat) : Int) := by decide
theorem own_pow (x : Int32) (e : Nat) (he : e < 19) (hx : x.toInt = e) : (v2_132_at x).toInt = ((10 ^ e : Nat) : Int) := by
  have h : x.toNatClampNeg = e := by simp only [Int32.toNatClampNeg]; omega
  unfold v2_132_at; rw [h]; exact own_powF ⟨e, he⟩
theorem own_pnz (x : Int32) (h : ¬ x < 0 ∧ x < (19 : Int32)) : v2_132_at x ≠ 0 := fun q => by
  rw [Int32.lt_iff_toInt_lt, Int32.lt_iff_toInt_lt] at h
  have e0 : (0 : Int32).toInt = 0 := rfl
  have e19 : (19 : Int32).toInt = 19 := rfl
  have := own_pow x x.toInt.toNat (by omega) (by omega)
  rw [q] at this
  have p : 0 < 10 ^ x.toInt.toNat := Nat.pow_pos (by decide)
  have z : (0 : Int64).toInt = 0 := rfl
  omega
/-- digit j of u, of n digits -/
def own_dig (u n j : Nat) : Nat := u / 10 ^ (n - 1 - j) % 10
theorem own_digc (u : Int64) (n j : Int32) (hu : 0 ≤ u.toInt) (hn : 0 ≤ n.toInt ∧ n.toInt ≤ 19) (hj : 0 ≤ j.toInt ∧ j.toInt ≤ 18) (h : j < n) :
    (((((((48 : Int64) + ((u / (v2_132_at ((n - (1 : Int32)) - j))) % (10 : Int64))).toInt32).toInt8.toInt32)).toInt8.toInt32)).toInt = 48 + (own_dig u.toInt.toNat n.toInt.toNat j.toInt.toNat : Int) := by
  rw [Int32.lt_iff_toInt_lt] at h
  have ex := own_exp n j hn hj
  have pw := own_pow ((n - 1) - j) (n.toInt.toNat - 1 - j.toInt.toNat) (by omega) (by omega)
  have pp : 0 < 10 ^ (n.toInt.toNat - 1 - j.toInt.toNat) := Nat.pow_pos (by decide)
  have hne : v2_132_at ((n - 1) - j) ≠ -1 := fun q => by rw [q] at pw; have : (-1 : Int64).toInt = -1 := rfl; omega
  have d := (c_ldiv u (v2_132_at ((n - 1) - j)) _ pw hne).1 hu
  unfold own_dig
  generalize 10 ^ (n.toInt.toNat - 1 - j.toInt.toNat) = B at *
  have hB : (u.toInt / (B : Int)) = ((u.toInt.toNat / B : Nat) : Int) := by
    rw [Int.natCast_ediv, Int.toNat_of_nonneg hu]
  rw [hB] at d
  have em : (u / v2_132_at (n - 1 - j) % 10).toInt = ((u.toInt.toNat / B % 10 : Nat) : Int) := by
    rw [Int64.toInt_mod, d, show (10 : Int64).toInt = 10 from rfl, (tr _ _).1 (Int.natCast_nonneg _)]; rfl
  generalize u / v2_132_at (n - 1 - j) % 10 = w at *
  generalize hD : u.toInt.toNat / B % 10 = D at *
  have hD9 : D < 10 := by omega
  have n48 : (48 : Int64).toInt = 48 := rfl
  have a := c_ladd 48 w; have ra := rng64 (48 + w)
  have l := c_l2i (48 + w); have rl := rng32 (48 + w).toInt32
  have b := c_i2b (48 + w).toInt32
  have b2 := c_i2b ((48 + w).toInt32.toInt8.toInt32)
  omega
theorem own_put (u : Int64) (J n off a k bb m : Int32) (L : List Int32) (j : Nat) (hJ : J.toInt = j) (hj : j ≤ 18) (hu : 0 ≤ u.toInt) (hn : 0 ≤ n.toInt ∧ n.toInt ≤ 19) (ho : 0 ≤ off.toInt ∧ off.toInt ≤ 3) (hk : 0 ≤ k.toInt) (hm : 0 ≤ m.toInt) :
    v1_a_ra0 J n u off a k bb m L = if j < n.toInt.toNat then L.set (own_P off.toInt.toNat k.toInt.toNat m.toInt.toNat (decide (¬ a = 0)) (decide (¬ bb = 0)) j) (Int32.ofInt (48 + (own_dig u.toInt.toNat n.toInt.toNat j : Int))) else L := by
  have hJ' : 0 ≤ J.toInt ∧ J.toInt ≤ 18 := by omega
  have ej : J.toInt.toNat = j := by omega
  unfold v1_a_ra0
  by_cases h : J < n
  · rw [if_pos h]
    have h' : j < n.toInt.toNat := by rw [Int32.lt_iff_toInt_lt] at h; omega
    rw [if_pos h']
    unfold v1_68_L
    have e1 := own_pos J off a k bb m hJ' ho
    have e2 := own_digc u n J hu hn hJ' h
    rw [ej] at e2
    have e3 : (v1_43_l10 J off a k bb m).toNatClampNeg = own_P off.toInt.toNat k.toInt.toNat m.toInt.toNat (decide (¬ a = 0)) (decide (¬ bb = 0)) j := by
      have : ((v1_43_l10 J off a k bb m).toNatClampNeg : Int) = (v1_43_l10 J off a k bb m).toInt := own_clamp (by rw [e1]; split <;> split <;> omega)
      have q : ((v1_43_l10 J off a k bb m).toNatClampNeg : Int) = (own_P off.toInt.toNat k.toInt.toNat m.toInt.toNat (decide (¬ a = 0)) (decide (¬ bb = 0)) j : Nat) := by
        rw [this, e1]
        unfold own_P
        simp only [decide_eq_true_eq]
        have c1 : (k.toInt ≤ J.toInt) = (k.toInt.toNat ≤ j) := by apply propext; constructor <;> intro _ <;> omega
        have c2 : (m.toInt ≤ J.toInt) = (m.toInt.toNat ≤ j) := by apply propext; constructor <;> intro _ <;> omega
        simp only [c1, c2]
        split <;> split <;> omega
      exact Int.ofNat.inj q
    have hd : own_dig u.toInt.toNat n.toInt.toNat j < 10 := Nat.mod_lt _ (by decide)
    have e4 : ((((((48 : Int64) + ((u / (v2_132_at ((n - (1 : Int32)) - J))) % (10 : Int64))).toInt32).toInt8.toInt32)).toInt8.toInt32) = Int32.ofInt (48 + (own_dig u.toInt.toNat n.toInt.toNat j : Int)) := by
      apply Int32.toInt_inj.mp
      rw [e2, Int32.toInt_ofInt_of_le (by omega) (by omega)]
    rw [e3, e4]
  · rw [if_neg h]
    have h' : ¬ j < n.toInt.toNat := by rw [Int32.lt_iff_toInt_lt] at h; omega
    rw [if_neg h']
def own_fill (u n off k m : Nat) (a b : Bool) : Nat → List Int32
  | 0 => List.replicate 25 (0 : Int32)
  | t + 1 => if t < n then (own_fill u n off k m a b t).set (own_P off k m a b t) (Int32.ofInt (48 + (own_dig u n t : Int))) else own_fill u n off k m a b t
theorem own_fill_len (u n off k m : Nat) (a b : Bool) : ∀ t, (own_fill u n off k m a b t).length = 25
  | 0 => by unfold own_fill; exact List.length_replicate
  | t + 1 => by
    unfold own_fill; split
    · rw [List.length_set]; exact own_fill_len u n off k m a b t
    · exact own_fill_len u n off k m a b t
theorem own_P_lt (off k m : Nat) (a b : Bool) {i j : Nat} (h : i < j) : own_P off k m a b i < own_P off k m a b j := by
  unfold own_P
  split <;> split <;> split <;> split <;> rename_i h1 h2 h3 h4 <;> simp_all <;> omega
theorem own_P_25 (off k m : Nat) (a b : Bool) (ho : off ≤ 3) {i : Nat} (h : i ≤ 18) : own_P off k m a b i < 25 := by
  unfold own_P; split <;> split <;> omega
theorem own_getD_set_eq (L : List Int32) (i : Nat) (v d : Int32) (h : i < L.length) : (L.set i v).getD i d = v := by
  rw [List.getD_eq_getElem?_getD, List.getElem?_set_self h]; rfl
theorem own_getD_set_ne (L : List Int32) (i j : Nat) (v d : Int32) (h : i ≠ j) : (L.set i v).getD j d = L.getD j d := by
  rw [List.getD_eq_getElem?_getD, List.getElem?_set_ne h, ← List.getD_eq_getElem?_getD]
theorem own_fill_get (u n off k m : Nat) (a b : Bool) (ho : off ≤ 3) : ∀ t, t ≤ 19 → ∀ j, j < t → j < n → (own_fill u n off k m a b t).getD (own_P off k m a b j) 0 = Int32.ofInt (48 + (own_dig u n j : Int))
  | 0, _, j, hj, _ => absurd hj (by omega)
  | t + 1, ht, j, hj, hn => by
    unfold own_fill
    by_cases e : j = t
    · subst e
      rw [if_pos hn]
      exact own_getD_set_eq _ _ _ _ (by rw [own_fill_len]; exact own_P_25 _ _ _ _ _ ho (by omega))
    · split
      · rw [own_getD_set_ne _ _ _ _ _ (Nat.ne_of_gt (own_P_lt off k m a b (show j < t by omega)))]
        exact own_fill_get u n off k m a b ho t (by omega) j (by omega) hn
      · exact own_fill_get u n off k m a b ho t (by omega) j (by omega) hn
/-- the first j digits of n, as a long -/
def own_Q (u n j : Nat) : Int64 := Int64.ofNat (u / 10 ^ (n - j) % 10 ^ j)
theorem own_Q0 (u n : Nat) : own_Q u n 0 = 0 := by unfold own_Q; rw [Nat.pow_zero, Nat.mod_one]; rfl
theorem own_Qs (u n j : Nat) (h : j < n) : own_Q u n (j + 1) = 10 * own_Q u n j + Int64.ofNat (own_dig u n j) := by
  unfold own_Q own_dig
  have e1 : n - (j + 1) = n - 1 - j := by omega
  have e2 : n - j = (n - 1 - j) + 1 := by omega
  rw [e1, e2, Nat.pow_succ 10 (n - 1 - j), ← Nat.div_div_eq_div_mul]
  generalize u / 10 ^ (n - 1 - j) = w
  rw [Nat.pow_succ, Nat.mul_comm (10 ^ j) 10, Nat.mod_mul, show (10 : Int64) = Int64.ofNat 10 from rfl, ← Int64.ofNat_mul, ← Int64.ofNat_add, Nat.add_comm]
theorem own_one_step (p1 p2 : Int32) (L : List Int32) (N : Nat) (q : Int64) (d pt i : Int32) (x : Nat) (hx : x < 10) (hi : i < p2) (hat : L.getD i.toNatClampNeg 0 = Int32.ofInt (48 + (x : Int))) :
    own_parse p1 p2 L (N + 1) q d pt i = own_parse p1 p2 L N (10 * q + Int64.ofNat x) (d + 1) pt (i + 1) := by
  have e : v3_24_l8 L i = Int32.ofNat x := by
    unfold v3_24_l8 v3_20_at
    rw [hat]
    apply Int32.toInt_inj.mp
    have a := c_isub (Int32.ofInt (48 + (x : Int))) 48; have r := rng32 (Int32.ofInt (48 + (x : Int)) - 48)
    have e1 : (Int32.ofInt (48 + (x : Int))).toInt = 48 + x := Int32.toInt_ofInt_of_le (by omega) (by omega)
    have e2 : (48 : Int32).toInt = 48 := rfl
    have e3 : (Int32.ofNat x).toInt = x := Int32.toInt_ofNat_of_lt (by omega)
    omega
  have ex : (Int32.ofNat x).toInt = x := Int32.toInt_ofNat_of_lt (by omega)
  have h1 : ¬ v3_24_l8 L i < 0 := by rw [e, Int32.lt_iff_toInt_lt, ex]; have : (0 : Int32).toInt = 0 := rfl; omega
  have h2 : ¬ (9 : Int32) < v3_24_l8 L i := by rw [e, Int32.lt_iff_toInt_lt, ex]; have : (9 : Int32).toInt = 9 := rfl; omega
  rw [own_parse_succ, if_pos hi, if_neg h1, if_neg h2]
  unfold v3_47_l3
  rw [e]
  congr 2
  apply Int64.toInt_inj.mp
  rw [c_i2l, ex, Int64.toInt_ofNat_of_lt (by omega)]
theorem own_run (p1 p2 : Int32) (L : List Int32) (u n : Nat) (pt : Int32) : ∀ (r j0 : Nat) (i d : Int32) (N : Nat), j0 + r ≤ n → 0 ≤ i.toInt → i.toInt + r ≤ p2.toInt → (∀ t, t < r → L.getD (i.toInt.toNat + t) 0 = Int32.ofInt (48 + (own_dig u n (j0 + t) : Int))) →
    own_parse p1 p2 L (N + r) (own_Q u n j0) d pt i = own_parse p1 p2 L N (own_Q u n (j0 + r)) (d + Int32.ofNat r) pt (i + Int32.ofNat r)
  | 0, j0, i, d, N, _, _, _, _ => by
    rw [show Int32.ofNat 0 = 0 from rfl, Int32.add_zero, Int32.add_zero]; rfl
  | r + 1, j0, i, d, N, hn, hi, hp, hat => by
    have r2 := rng32 p2
    have hlt : i < p2 := by rw [Int32.lt_iff_toInt_lt]; omega
    have c : i.toNatClampNeg = i.toInt.toNat := rfl
    have s := own_one_step p1 p2 L (N + r) (own_Q u n j0) d pt i (own_dig u n j0) (Nat.mod_lt _ (by decide)) hlt (by rw [c]; exact hat 0 (by omega))
    have ei : (i + 1).toInt = i.toInt + 1 := by have a := c_iadd i 1; have ra := rng32 (i + 1); have e : (1 : Int32).toInt = 1 := rfl; omega
    have ih := own_run p1 p2 L u n pt r (j0 + 1) (i + 1) (d + 1) N (by omega) (by omega) (by omega) (fun t ht => by
      have := hat (t + 1) (by omega)
      rw [ei, show (i.toInt + 1).toNat + t = i.toInt.toNat + (t + 1) by omega, show j0 + 1 + t = j0 + (t + 1) by omega]; exact this)
    rw [show N + (r + 1) = (N + r) + 1 from rfl, s, ← own_Qs u n j0 (by omega), ih]
    have q : Int32.ofNat (r + 1) = 1 + Int32.ofNat r := by rw [Nat.add_comm, Int32.ofNat_add]; rfl
    rw [q, ← Int32.add_assoc, ← Int32.add_assoc, show j0 + 1 + r = j0 + (r + 1) by omega]
theorem own_L (q0 : Int64) (p1 : Int32) : v0_521_L0 q0 p1 = own_fill (v0_5_l4 q0).toInt.toNat (v0_14_l6 p1).toInt.toNat (v0_81_l11 p1).toInt.toNat (v0_43_l8 p1).toInt.toNat (v0_73_l10 p1).toInt.toNat (decide (¬ v0_21_s0 p1 = 0)) (decide (¬ v0_51_s0 p1 = 0)) 19 := by
  have hu := own_u q0; have hn := own_n p1; have ho := own_off p1; have hk := (own_k p1).1; have hm := (own_m p1).1
  have e0 : v0_148_L0 q0 p1 = own_fill (v0_5_l4 q0).toInt.toNat (v0_14_l6 p1).toInt.toNat (v0_81_l11 p1).toInt.toNat (v0_43_l8 p1).toInt.toNat (v0_73_l10 p1).toInt.toNat (decide (¬ v0_21_s0 p1 = 0)) (decide (¬ v0_51_s0 p1 = 0)) 1 := by
    unfold v0_148_L0 own_fill
    exact own_put _ (0 : Int32) _ _ _ _ _ _ _ 0 rfl (by decide) hu hn ho hk hm
  have e1 : v0_168_L0 q0 p1 = own_fill (v0_5_l4 q0).toInt.toNat (v0_14_l6 p1).toInt.toNat (v0_81_l11 p1).toInt.toNat (v0_43_l8 p1).toInt.toNat (v0_73_l10 p1).toInt.toNat (decide (¬ v0_21_s0 p1 = 0)) (decide (¬ v0_51_s0 p1 = 0)) 2 := by
    unfold v0_168_L0 own_fill
    rw [← e0]
    exact own_put _ (1 : Int32) _ _ _ _ _ _ _ 1 rfl (by decide) hu hn ho hk hm
  have e2 : v0_188_L0 q0 p1 = own_fill (v0_5_l4 q0).toInt.toNat (v0_14_l6 p1).toInt.toNat (v0_81_l11 p1).toInt.toNat (v0_43_l8 p1).toInt.toNat (v0_73_l10 p1).toInt.toNat (decide (¬ v0_21_s0 p1 = 0)) (decide (¬ v0_51_s0 p1 = 0)) 3 := by
    unfold v0_188_L0 own_fill
    rw [← e1]
    exact own_put _ (2 : Int32) _ _ _ _ _ _ _ 2 rfl (by decide) hu hn ho hk hm
  have e3 : v0_208_L0 q0 p1 = own_fill (v0_5_l4 q0).toInt.toNat (v0_14_l6 p1).toInt.toNat (v0_81_l11 p1).toInt.toNat (v0_43_l8 p1).toInt.toNat (v0_73_l10 p1).toInt.toNat (decide (¬ v0_21_s0 p1 = 0)) (decide (¬ v0_51_s0 p1 = 0)) 4 := by
    unfold v0_208_L0 own_fill
    rw [← e2]
    exact own_put _ (3 : Int32) _ _ _ _ _ _ _ 3 rfl (by decide) hu hn ho hk hm
  have e4 : v0_228_L0 q0 p1 = own_fill (v0_5_l4 q0).toInt.toNat (v0_14_l6 p1).toInt.toNat (v0_81_l11 p1).toInt.toNat (v0_43_l8 p1).toInt.toNat (v0_73_l10 p1).toInt.toNat (decide (¬ v0_21_s0 p1 = 0)) (decide (¬ v0_51_s0 p1 = 0)) 5 := by
    unfold v0_228_L0 own_fill
    rw [← e3]
    exact own_put _ (4 : Int32) _ _ _ _ _ _ _ 4 rfl (by decide) hu hn ho hk hm
  have e5 : v0_248_L0 q0 p1 = own_fill (v0_5_l4 q0).toInt.toNat (v0_14_l6 p1).toInt.toNat (v0_81_l11 p1).toInt.toNat (v0_43_l8 p1).toInt.toNat (v0_73_l10 p1).toInt.toNat (decide (¬ v0_21_s0 p1 = 0)) (decide (¬ v0_51_s0 p1 = 0)) 6 := by
    unfold v0_248_L0 own_fill
    rw [← e4]
    exact own_put _ (5 : Int32) _ _ _ _ _ _ _ 5 rfl (by decide) hu hn ho hk hm
  have e6 : v0_269_L0 q0 p1 = own_fill (v0_5_l4 q0).toInt.toNat (v0_14_l6 p1).toInt.toNat (v0_81_l11 p1).toInt.toNat (v0_43_l8 p1).toInt.toNat (v0_73_l10 p1).toInt.toNat (decide (¬ v0_21_s0 p1 = 0)) (decide (¬ v0_51_s0 p1 = 0)) 7 := by
    unfold v0_269_L0 own_fill
    rw [← e5]
    exact own_put _ (6 : Int32) _ _ _ _ _ _ _ 6 rfl (by decide) hu hn ho hk hm
  have e7 : v0_290_L0 q0 p1 = own_fill (v0_5_l4 q0).toInt.toNat (v0_14_l6 p1).toInt.toNat (v0_81_l11 p1).toInt.toNat (v0_43_l8 p1).toInt.toNat (v0_73_l10 p1).toInt.toNat (decide (¬ v0_21_s0 p1 = 0)) (decide (¬ v0_51_s0 p1 = 0)) 8 := by
    unfold v0_290_L0 own_fill
    rw [← e6]
    exact own_put _ (7 : Int32) _ _ _ _ _ _ _ 7 rfl (by decide) hu hn ho hk hm
  have e8 : v0_311_L0 q0 p1 = own_fill (v0_5_l4 q0).toInt.toNat (v0_14_l6 p1).toInt.toNat (v0_81_l11 p1).toInt.toNat (v0_43_l8 p1).toInt.toNat (v0_73_l10 p1).toInt.toNat (decide (¬ v0_21_s0 p1 = 0)) (decide (¬ v0_51_s0 p1 = 0)) 9 := by
    unfold v0_311_L0 own_fill
    rw [← e7]
    exact own_put _ (8 : Int32) _ _ _ _ _ _ _ 8 rfl (by decide) hu hn ho hk hm
  have e9 : v0_332_L0 q0 p1 = own_fill (v0_5_l4 q0).toInt.toNat (v0_14_l6 p1).toInt.toNat (v0_81_l11 p1).toInt.toNat (v0_43_l8 p1).toInt.toNat (v0_73_l10 p1).toInt.toNat (decide (¬ v0_21_s0 p1 = 0)) (decide (¬ v0_51_s0 p1 = 0)) 10 := by
    unfold v0_332_L0 own_fill
    rw [← e8]
    exact own_put _ (9 : Int32) _ _ _ _ _ _ _ 9 rfl (by decide) hu hn ho hk hm
  have e10 : v0_353_L0 q0 p1 = own_fill (v0_5_l4 q0).toInt.toNat (v0_14_l6 p1).toInt.toNat (v0_81_l11 p1).toInt.toNat (v0_43_l8 p1).toInt.toNat (v0_73_l10 p1).toInt.toNat (decide (¬ v0_21_s0 p1 = 0)) (decide (¬ v0_51_s0 p1 = 0)) 11 := by
    unfold v0_353_L0 own_fill
    rw [← e9]
    exact own_put _ (10 : Int32) _ _ _ _ _ _ _ 10 rfl (by decide) hu hn ho hk hm
  have e11 : v0_374_L0 q0 p1 = own_fill (v0_5_l4 q0).toInt.toNat (v0_14_l6 p1).toInt.toNat (v0_81_l11 p1).toInt.toNat (v0_43_l8 p1).toInt.toNat (v0_73_l10 p1).toInt.toNat (decide (¬ v0_21_s0 p1 = 0)) (decide (¬ v0_51_s0 p1 = 0)) 12 := by
    unfold v0_374_L0 own_fill
    rw [← e10]
    exact own_put _ (11 : Int32) _ _ _ _ _ _ _ 11 rfl (by decide) hu hn ho hk hm
  have e12 : v0_395_L0 q0 p1 = own_fill (v0_5_l4 q0).toInt.toNat (v0_14_l6 p1).toInt.toNat (v0_81_l11 p1).toInt.toNat (v0_43_l8 p1).toInt.toNat (v0_73_l10 p1).toInt.toNat (decide (¬ v0_21_s0 p1 = 0)) (decide (¬ v0_51_s0 p1 = 0)) 13 := by
    unfold v0_395_L0 own_fill
    rw [← e11]
    exact own_put _ (12 : Int32) _ _ _ _ _ _ _ 12 rfl (by decide) hu hn ho hk hm
  have e13 : v0_416_L0 q0 p1 = own_fill (v0_5_l4 q0).toInt.toNat (v0_14_l6 p1).toInt.toNat (v0_81_l11 p1).toInt.toNat (v0_43_l8 p1).toInt.toNat (v0_73_l10 p1).toInt.toNat (decide (¬ v0_21_s0 p1 = 0)) (decide (¬ v0_51_s0 p1 = 0)) 14 := by
    unfold v0_416_L0 own_fill
    rw [← e12]
    exact own_put _ (13 : Int32) _ _ _ _ _ _ _ 13 rfl (by decide) hu hn ho hk hm
  have e14 : v0_437_L0 q0 p1 = own_fill (v0_5_l4 q0).toInt.toNat (v0_14_l6 p1).toInt.toNat (v0_81_l11 p1).toInt.toNat (v0_43_l8 p1).toInt.toNat (v0_73_l10 p1).toInt.toNat (decide (¬ v0_21_s0 p1 = 0)) (decide (¬ v0_51_s0 p1 = 0)) 15 := by
    unfold v0_437_L0 own_fill
    rw [← e13]
    exact own_put _ (14 : Int32) _ _ _ _ _ _ _ 14 rfl (by decide) hu hn ho hk hm
  have e15 : v0_458_L0 q0 p1 = own_fill (v0_5_l4 q0).toInt.toNat (v0_14_l6 p1).toInt.toNat (v0_81_l11 p1).toInt.toNat (v0_43_l8 p1).toInt.toNat (v0_73_l10 p1).toInt.toNat (decide (¬ v0_21_s0 p1 = 0)) (decide (¬ v0_51_s0 p1 = 0)) 16 := by
    unfold v0_458_L0 own_fill
    rw [← e14]
    exact own_put _ (15 : Int32) _ _ _ _ _ _ _ 15 rfl (by decide) hu hn ho hk hm
  have e16 : v0_479_L0 q0 p1 = own_fill (v0_5_l4 q0).toInt.toNat (v0_14_l6 p1).toInt.toNat (v0_81_l11 p1).toInt.toNat (v0_43_l8 p1).toInt.toNat (v0_73_l10 p1).toInt.toNat (decide (¬ v0_21_s0 p1 = 0)) (decide (¬ v0_51_s0 p1 = 0)) 17 := by
    unfold v0_479_L0 own_fill
    rw [← e15]
    exact own_put _ (16 : Int32) _ _ _ _ _ _ _ 16 rfl (by decide) hu hn ho hk hm
  have e17 : v0_500_L0 q0 p1 = own_fill (v0_5_l4 q0).toInt.toNat (v0_14_l6 p1).toInt.toNat (v0_81_l11 p1).toInt.toNat (v0_43_l8 p1).toInt.toNat (v0_73_l10 p1).toInt.toNat (decide (¬ v0_21_s0 p1 = 0)) (decide (¬ v0_51_s0 p1 = 0)) 18 := by
    unfold v0_500_L0 own_fill
    rw [← e16]
    exact own_put _ (17 : Int32) _ _ _ _ _ _ _ 17 rfl (by decide) hu hn ho hk hm
  have e18 : v0_521_L0 q0 p1 = own_fill (v0_5_l4 q0).toInt.toNat (v0_14_l6 p1).toInt.toNat (v0_81_l11 p1).toInt.toNat (v0_43_l8 p1).toInt.toNat (v0_73_l10 p1).toInt.toNat (decide (¬ v0_21_s0 p1 = 0)) (decide (¬ v0_51_s0 p1 = 0)) 19 := by
    unfold v0_521_L0 own_fill
    rw [← e17]
    exact own_put _ (18 : Int32) _ _ _ _ _ _ _ 18 rfl (by decide) hu hn ho hk hm
  exact e18
theorem own_dotstep (p1 p2 : Int32) (L : List Int32) (N : Nat) (q : Int64) (d pt i : Int32) (hi : i < p2) (hat : L.getD i.toNatClampNeg 0 = 46) (hpt : pt < 0) :
    own_parse p1 p2 L (N + 1) q d pt i = own_parse p1 p2 L N q d i (i + 1) := by
  have h1 : v3_24_l8 L i < 0 := by unfold v3_24_l8 v3_20_at; rw [hat]; decide
  have h2 : v3_57_at L i = 46 := hat
  rw [own_parse_succ, if_pos hi, if_pos h1, if_pos h2, if_pos hpt]
theorem own_dotbad (p1 p2 : Int32) (L : List Int32) (N : Nat) (q : Int64) (d pt i : Int32) (hi : i < p2) (hat : L.getD i.toNatClampNeg 0 = 46) (hpt : ¬ pt < 0) :
    own_parse p1 p2 L (N + 1) q d pt i = -1 := by
  have h1 : v3_24_l8 L i < 0 := by unfold v3_24_l8 v3_20_at; rw [hat]; decide
  have h2 : v3_57_at L i = 46 := hat
  rw [own_parse_succ, if_pos hi, if_pos h1, if_pos h2, if_neg hpt]
theorem own_bad (p1 p2 : Int32) (L : List Int32) (N : Nat) (q : Int64) (d pt i x : Int32) (hi : i < p2) (hat : L.getD i.toNatClampNeg 0 = x) (hx : ¬ x = 46) (hr : x.toInt < 48 ∨ 57 < x.toInt) (hb : -128 ≤ x.toInt ∧ x.toInt < 128) :
    own_parse p1 p2 L (N + 1) q d pt i = -1 := by
  have h2 : ¬ v3_57_at L i = 46 := by unfold v3_57_at; rw [hat]; exact hx
  have e : (v3_24_l8 L i).toInt = x.toInt - 48 := by
    unfold v3_24_l8 v3_20_at; rw [hat]
    have a := c_isub x 48; have r := rng32 (x - 48); have e : (48 : Int32).toInt = 48 := rfl; omega
  have z : (0 : Int32).toInt = 0 := rfl
  have z9 : (9 : Int32).toInt = 9 := rfl
  rw [own_parse_succ, if_pos hi]
  by_cases h1 : v3_24_l8 L i < 0
  · rw [if_pos h1, if_neg h2]
  · have h3 : (9 : Int32) < v3_24_l8 L i := by rw [Int32.lt_iff_toInt_lt] at *; omega
    rw [if_neg h1, if_pos h3, if_neg h2]
theorem own_add (off : Int32) (x : Nat) (h0 : 0 ≤ off.toInt ∧ off.toInt ≤ 3) (hx : x ≤ 40) : (off + Int32.ofNat x).toInt = off.toInt + x := by
  have a := c_iadd off (Int32.ofNat x); have r := rng32 (off + Int32.ofNat x); have e : (Int32.ofNat x).toInt = x := Int32.toInt_ofNat_of_lt (by omega); omega
theorem own_nodot (off p2 : Int32) (L : List Int32) (u n : Nat) (ho : 0 ≤ off.toInt ∧ off.toInt ≤ 3) (hn : n ≤ 19) (hp : p2.toInt = off.toInt + n) (hat : ∀ t, t < n → L.getD (off.toInt.toNat + t) 0 = Int32.ofInt (48 + (own_dig u n t : Int))) :
    own_parse off p2 L (p2.toInt - off.toInt).toNat 0 0 (-1) off = v3_104_l8 off p2 (own_Q u n n) (Int32.ofNat n) (-1) := by
  have e : (p2.toInt - off.toInt).toNat = 0 + n := by omega
  have r := own_run off p2 L u n (-1) n 0 off 0 0 (by omega) ho.1 (by omega) (fun t ht => by rw [Nat.zero_add]; exact hat t ht)
  rw [own_Q0] at r
  rw [e, r, Nat.zero_add, Int32.zero_add]; rfl
theorem own_onedot (off p2 : Int32) (L : List Int32) (u n x : Nat) (ho : 0 ≤ off.toInt ∧ off.toInt ≤ 3) (hn : n ≤ 19) (hx : x ≤ n) (hp : p2.toInt = off.toInt + n + 1)
    (h1 : ∀ t, t < x → L.getD (off.toInt.toNat + t) 0 = Int32.ofInt (48 + (own_dig u n t : Int))) (h2 : L.getD (off.toInt.toNat + x) 0 = 46)
    (h3 : ∀ t, x ≤ t → t < n → L.getD (off.toInt.toNat + t + 1) 0 = Int32.ofInt (48 + (own_dig u n t : Int))) :
    own_parse off p2 L (p2.toInt - off.toInt).toNat 0 0 (-1) off = v3_104_l8 off p2 (own_Q u n n) (Int32.ofNat n) (off + Int32.ofNat x) := by
  have e : (p2.toInt - off.toInt).toNat = (((0 + (n - x)) + 1) + x) := by omega
  have r1 := own_run off p2 L u n (-1) x 0 off 0 ((0 + (n - x)) + 1) (by omega) ho.1 (by omega) (fun t ht => by rw [Nat.zero_add]; exact h1 t ht)
  have ei := own_add off x ho (by omega)
  have c : (off + Int32.ofNat x).toNatClampNeg = off.toInt.toNat + x := by
    show (off + Int32.ofNat x).toInt.toNat = _; omega
  have r2 := own_dotstep off p2 L (0 + (n - x)) (own_Q u n (0 + x)) (0 + Int32.ofNat x) (-1) (off + Int32.ofNat x) (by rw [Int32.lt_iff_toInt_lt]; omega) (by rw [c]; exact h2) (by decide)
  have ei1 : (off + Int32.ofNat x + 1).toInt = off.toInt + x + 1 := by
    have a := c_iadd (off + Int32.ofNat x) 1; have r := rng32 (off + Int32.ofNat x + 1); have e : (1 : Int32).toInt = 1 := rfl; omega
  have r3 := own_run off p2 L u n (off + Int32.ofNat x) (n - x) x (off + Int32.ofNat x + 1) (0 + Int32.ofNat x) 0 (by omega) (by omega) (by omega) (fun t ht => by
    rw [ei1, show (off.toInt + (x : Int) + 1).toNat + t = off.toInt.toNat + (x + t) + 1 by omega]; exact h3 (x + t) (by omega) (by omega))
  rw [own_Q0] at r1
  rw [Nat.zero_add x] at r1 r2
  rw [e, r1, r2, r3, show x + (n - x) = n by omega, Int32.zero_add, ← Int32.ofNat_add, show x + (n - x) = n by omega]; rfl
theorem own_shl0 (q : Int64) : (q <<< ((4 : Int32) &&& 0x3f).toInt64) ||| ((0 : Int32).toInt64) = (q <<< ((4 : Int32) &&& 0x3f).toInt64) ||| ((0 : Int32).toInt64) := rfl
theorem own_v0 (off p2 n : Int32) (q : Int64) (ho : 0 ≤ off.toInt ∧ off.toInt ≤ 3) (hn : 0 ≤ n.toInt ∧ n.toInt ≤ 19) (hp : p2.toInt = off.toInt + n.toInt) :
    v3_104_l8 off p2 q n (-1) = if n = 0 then -1 else if (17 : Int32) < n then -2 else ((q <<< ((4 : Int32) &&& 0x3f).toInt64) ||| ((0 : Int32).toInt64)) := by
  unfold v3_104_l8 v3_110_l8 v3_115_l8 v3_142_l8 v3_160_l8 v3_87_s0
  have hz : (0 : Int32).toInt = 0 := rfl
  by_cases h : n = 0
  · have : off = p2 := by apply Int32.toInt_inj.mp; rw [h] at hp; omega
    rw [if_pos h, if_pos this]
  · have : ¬ off = p2 := fun q => h (by apply Int32.toInt_inj.mp; rw [← q] at hp; omega)
    rw [if_neg h, if_neg this, if_neg (fun q => by rw [← q] at ho; exact absurd ho.1 (by decide)), if_pos (show (-1 : Int32) < 0 by decide), if_pos (show (-1 : Int32) < 0 by decide)]
theorem own_v1 (off p2 n x pt : Int32) (q : Int64) (ho : 0 ≤ off.toInt ∧ off.toInt ≤ 3) (hn : 0 ≤ n.toInt ∧ n.toInt ≤ 19) (hx : 0 ≤ x.toInt ∧ x.toInt ≤ n.toInt) (hp : p2.toInt = off.toInt + n.toInt + 1) (hpt : pt.toInt = off.toInt + x.toInt) :
    v3_104_l8 off p2 q n pt = if x = 0 then -1 else if n - x = 0 then -1 else if (8 : Int32) < n - x then -1 else if (17 : Int32) < n then -2 else ((q <<< ((4 : Int32) &&& 0x3f).toInt64) ||| ((n - x).toInt64)) := by
  have hz : (0 : Int32).toInt = 0 := rfl
  have e1 : (1 : Int32).toInt = 1 := rfl
  have s1 := c_isub n x; have t1 := rng32 (n - x)
  have hnn : ¬ pt < 0 := by rw [Int32.lt_iff_toInt_lt]; omega
  have e87 : v3_87_s0 p2 pt = n - x := by
    unfold v3_87_s0
    rw [if_neg hnn]
    have a := c_isub p2 pt; have ra := rng32 (p2 - pt); have b := c_isub (p2 - pt) 1; have rb := rng32 (p2 - pt - 1)
    apply Int32.toInt_inj.mp; omega
  have ne : ¬ off = p2 := fun q => by rw [← q] at hp; omega
  unfold v3_104_l8 v3_110_l8 v3_115_l8 v3_120_l8 v3_127_l8 v3_142_l8 v3_160_l8
  rw [e87, if_neg ne, if_neg hnn]
  by_cases h : x = 0
  · rw [if_pos h, if_pos (by apply Int32.toInt_inj.mp; rw [h] at hpt; omega)]
  · rw [if_neg h, if_neg (fun q => h (by apply Int32.toInt_inj.mp; rw [q] at hpt; omega))]
theorem own_Qn (q0 : Int64) (p1 : Int32) (h : ¬ (17 : Int32) < v0_14_l6 p1) : own_Q (v0_5_l4 q0).toInt.toNat (v0_14_l6 p1).toInt.toNat (v0_14_l6 p1).toInt.toNat = (v0_5_l4 q0) % (v2_132_at (v0_14_l6 p1)) := by
  have hn := own_n p1; have hu := own_u q0
  rw [Int32.lt_iff_toInt_lt, show (17 : Int32).toInt = 17 from rfl] at h
  have pw := own_pow (v0_14_l6 p1) (v0_14_l6 p1).toInt.toNat (by omega) (by omega)
  apply Int64.toInt_inj.mp
  rw [Int64.toInt_mod, pw, (tr _ _).1 hu]
  unfold own_Q
  rw [Nat.sub_self, Nat.pow_zero, Nat.div_one]
  have le : 10 ^ (v0_14_l6 p1).toInt.toNat ≤ 10 ^ 18 := Nat.pow_le_pow_right (by decide) (by omega)
  have pp : 0 < 10 ^ (v0_14_l6 p1).toInt.toNat := Nat.pow_pos (by decide)
  have lt := Nat.mod_lt (v0_5_l4 q0).toInt.toNat pp
  rw [Int64.toInt_ofNat_of_lt (by omega), Int.natCast_emod, Int.toNat_of_nonneg hu]
theorem own_Pv (off k m : Nat) (a b : Bool) (j : Nat) : own_P off k m a b j = off + j + (if a = true ∧ k ≤ j then 1 else 0) + (if b = true ∧ m ≤ j then 1 else 0) := rfl
theorem own_jb (p2 : Int32) : -128 ≤ (v0_93_l12 p2).toInt ∧ (v0_93_l12 p2).toInt < 128 ∧ ((v0_93_l12 p2).toInt < 48 ∨ 57 < (v0_93_l12 p2).toInt) ∧ ((v0_93_l12 p2)).toInt8.toInt32 = v0_93_l12 p2 := by
  have key : -128 ≤ (v0_93_l12 p2).toInt ∧ (v0_93_l12 p2).toInt < 128 ∧ ((v0_93_l12 p2).toInt < 48 ∨ 57 < (v0_93_l12 p2).toInt) := by
    unfold v0_93_l12
    split
    · unfold v0_107_l12
      have b := c_i2b p2
      split
      · rename_i h; rw [Int32.lt_iff_toInt_lt] at h; have : (48 : Int32).toInt = 48 := rfl; omega
      · rename_i h1
        unfold v0_114_l12
        split
        · rename_i h; rw [Int32.lt_iff_toInt_lt] at h; have : (57 : Int32).toInt = 57 := rfl; omega
        · rename_i h2
          unfold v0_123_l12
          rw [Int32.lt_iff_toInt_lt] at h1 h2
          have z1 : (48 : Int32).toInt = 48 := rfl
          have z2 : (57 : Int32).toInt = 57 := rfl
          have z3 : (10 : Int32).toInt = 10 := rfl
          have a := c_iadd p2.toInt8.toInt32 10; have r := rng32 (p2.toInt8.toInt32 + 10)
          have c := c_i2b (p2.toInt8.toInt32 + 10)
          omega
    · decide
  refine ⟨key.1, key.2.1, key.2.2, ?_⟩
  have c := c_i2b (v0_93_l12 p2)
  apply Int32.toInt_inj.mp; omega
theorem own_len (q0 : Int64) (p1 : Int32) : (v0_521_L0 q0 p1).length = 25 := by rw [own_L]; exact own_fill_len _ _ _ _ _ _ _ _
theorem own_at (q0 : Int64) (p1 : Int32) (j : Nat) (hj : j < (v0_14_l6 p1).toInt.toNat) : (v0_521_L0 q0 p1).getD (own_P (v0_81_l11 p1).toInt.toNat (v0_43_l8 p1).toInt.toNat (v0_73_l10 p1).toInt.toNat (decide (¬ v0_21_s0 p1 = 0)) (decide (¬ v0_51_s0 p1 = 0)) j) 0 = Int32.ofInt (48 + (own_dig (v0_5_l4 q0).toInt.toNat (v0_14_l6 p1).toInt.toNat j : Int)) := by
  have hn := own_n p1; have ho := own_off p1
  rw [own_L]; exact own_fill_get _ _ _ _ _ _ _ (by omega) 19 (by omega) j (by omega) hj
theorem own_nar1 : nar .boolean (1 : Int32) = 1 := rfl
theorem own_sum (off n x y : Int32) (ho : 0 ≤ off.toInt ∧ off.toInt ≤ 3) (hn : 0 ≤ n.toInt ∧ n.toInt ≤ 19) (hx : 0 ≤ x.toInt ∧ x.toInt ≤ 1) (hy : 0 ≤ y.toInt ∧ y.toInt ≤ 1) : (off + ((n + x) + y)).toInt = off.toInt + n.toInt + x.toInt + y.toInt ∧ ((n + x) + y).toInt = n.toInt + x.toInt + y.toInt := by
  have a := c_iadd n x; have r := rng32 (n + x); have b := c_iadd (n + x) y; have r2 := rng32 (n + x + y); have c := c_iadd off (n + x + y); have r3 := rng32 (off + (n + x + y))
  omega
theorem own_sum2 (off n x y : Int32) (ho : 0 ≤ off.toInt ∧ off.toInt ≤ 3) (hn : 0 ≤ n.toInt ∧ n.toInt ≤ 19) (hx : 0 ≤ x.toInt ∧ x.toInt ≤ n.toInt) (hy : 0 ≤ y.toInt ∧ y.toInt ≤ 1) : ((off + x) + y).toInt = off.toInt + x.toInt + y.toInt := by
  have a := c_iadd off x; have r := rng32 (off + x); have b := c_iadd (off + x) y; have r2 := rng32 (off + x + y)
  omega
theorem own_A (q0 : Int64) (p1 : Int32) (h1 : v0_21_s0 p1 = 0) (h2 : v0_51_s0 p1 = 0) : v0_628_l15 q0 p1 = if v0_14_l6 p1 = 0 then -1 else if (17 : Int32) < v0_14_l6 p1 then -2 else ((own_Q (v0_5_l4 q0).toInt.toNat (v0_14_l6 p1).toInt.toNat (v0_14_l6 p1).toInt.toNat <<< ((4 : Int32) &&& 0x3f).toInt64) ||| ((0 : Int32).toInt64)) := by
  have hn := own_n p1; have ho := own_off p1
  have z0 : (0 : Int32).toInt = 0 := rfl
  have e := own_sum (v0_81_l11 p1) (v0_14_l6 p1) 0 0 ho hn (by decide) (by decide)
  have hp : ((v0_81_l11 p1) + (v0_614_l14 p1)).toInt = (v0_81_l11 p1).toInt + (v0_14_l6 p1).toInt.toNat := by unfold v0_614_l14; omega
  unfold v0_628_l15
  rw [own_nodot (v0_81_l11 p1) _ (v0_521_L0 q0 p1) (v0_5_l4 q0).toInt.toNat (v0_14_l6 p1).toInt.toNat ho (by omega) hp (fun t ht => by
    have := own_at q0 p1 t ht
    rw [own_Pv, if_neg (by simp [h1]), if_neg (by simp [h2])] at this
    exact this)]
  have en : Int32.ofNat (v0_14_l6 p1).toInt.toNat = v0_14_l6 p1 := by
    apply Int32.toInt_inj.mp; rw [Int32.toInt_ofNat_of_lt (by omega)]; omega
  rw [en]
  exact own_v0 _ _ _ _ ho hn (by omega)
theorem own_dotL (q0 : Int64) (p1 : Int32) (L : List Int32) (x : Int32) (p2 : Int32) (hx : 0 ≤ x.toInt ∧ x.toInt ≤ (v0_14_l6 p1).toInt) (hp : p2.toInt = (v0_81_l11 p1).toInt + (v0_14_l6 p1).toInt + 1)
    (h1 : ∀ t, t < x.toInt.toNat → L.getD ((v0_81_l11 p1).toInt.toNat + t) 0 = Int32.ofInt (48 + (own_dig (v0_5_l4 q0).toInt.toNat (v0_14_l6 p1).toInt.toNat t : Int))) (h2 : L.getD ((v0_81_l11 p1).toInt.toNat + x.toInt.toNat) 0 = 46)
    (h3 : ∀ t, x.toInt.toNat ≤ t → t < (v0_14_l6 p1).toInt.toNat → L.getD ((v0_81_l11 p1).toInt.toNat + t + 1) 0 = Int32.ofInt (48 + (own_dig (v0_5_l4 q0).toInt.toNat (v0_14_l6 p1).toInt.toNat t : Int))) :
    own_parse (v0_81_l11 p1) p2 L (p2.toInt - (v0_81_l11 p1).toInt).toNat 0 0 (-1) (v0_81_l11 p1) = if x = 0 then -1 else if v0_14_l6 p1 - x = 0 then -1 else if (8 : Int32) < v0_14_l6 p1 - x then -1 else if (17 : Int32) < v0_14_l6 p1 then -2 else ((own_Q (v0_5_l4 q0).toInt.toNat (v0_14_l6 p1).toInt.toNat (v0_14_l6 p1).toInt.toNat <<< ((4 : Int32) &&& 0x3f).toInt64) ||| ((v0_14_l6 p1 - x).toInt64)) := by
  have hn := own_n p1; have ho := own_off p1
  rw [own_onedot (v0_81_l11 p1) p2 L (v0_5_l4 q0).toInt.toNat (v0_14_l6 p1).toInt.toNat x.toInt.toNat ho (by omega) (by omega) (by omega) h1 h2 h3]
  have en : Int32.ofNat (v0_14_l6 p1).toInt.toNat = v0_14_l6 p1 := by
    apply Int32.toInt_inj.mp; rw [Int32.toInt_ofNat_of_lt (by omega)]; omega
  rw [en]
  exact own_v1 _ _ _ x _ _ ho hn hx hp (by rw [own_add _ _ ho (by omega)]; omega)
theorem own_bit_01 (p1 : Int32) : v0_21_s0 p1 = 0 ∨ v0_21_s0 p1 = 1 := by unfold v0_21_s0; split <;> simp
theorem own_538 (p1 : Int32) : 0 ≤ (v0_538_s0 p1).toInt ∧ (v0_538_s0 p1).toInt ≤ 1 := by unfold v0_538_s0 v0_545_s0; split <;> (try split) <;> decide
theorem own_578 (p1 : Int32) : 0 ≤ (v0_578_s0 p1).toInt ∧ (v0_578_s0 p1).toInt ≤ 1 := by unfold v0_578_s0; split <;> decide
theorem own_in (p1 x y : Int32) (hx : 0 ≤ x.toInt ∧ x.toInt ≤ (v0_14_l6 p1).toInt) (hy : 0 ≤ y.toInt ∧ y.toInt ≤ 1) : ¬ (((v0_81_l11 p1) + x) + y) < 0 ∧ (((v0_81_l11 p1) + x) + y) < (25 : Int32) := by
  have hn := own_n p1; have ho := own_off p1
  have e := own_sum2 _ _ x y ho hn hx hy
  have z0 : (0 : Int32).toInt = 0 := rfl
  have z25 : (25 : Int32).toInt = 25 := rfl
  rw [Int32.lt_iff_toInt_lt, Int32.lt_iff_toInt_lt]; omega
theorem own_hst (p1 : Int32) : ¬ (v0_81_l11 p1) < 0 := by
  have ho := own_off p1; have z0 : (0 : Int32).toInt = 0 := rfl
  rw [Int32.lt_iff_toInt_lt]; omega
theorem own_hfin (p1 x y : Int32) (hx : 0 ≤ x.toInt ∧ x.toInt ≤ 1) (hy : 0 ≤ y.toInt ∧ y.toInt ≤ 1) : ¬ (25 : Int32) < ((v0_81_l11 p1) + (((v0_14_l6 p1) + x) + y)) := by
  have e := own_sum _ _ x y (own_off p1) (own_n p1) hx hy
  have hn := own_n p1; have ho := own_off p1
  have z25 : (25 : Int32).toInt = 25 := rfl
  rw [Int32.lt_iff_toInt_lt]; omega
theorem own_hI17 (p1 : Int32) (h : ¬ (17 : Int32) < v0_14_l6 p1) : ¬ (v0_14_l6 p1) < 0 ∧ (v0_14_l6 p1) < (19 : Int32) := by
  have hn := own_n p1
  have z0 : (0 : Int32).toInt = 0 := rfl
  have z17 : (17 : Int32).toInt = 17 := rfl
  have z19 : (19 : Int32).toInt = 19 := rfl
  rw [Int32.lt_iff_toInt_lt] at *
  rw [Int32.lt_iff_toInt_lt]; omega
theorem own_clampS (p1 x y : Int32) (hx : 0 ≤ x.toInt ∧ x.toInt ≤ (v0_14_l6 p1).toInt) (hy : 0 ≤ y.toInt ∧ y.toInt ≤ 1) : (((v0_81_l11 p1) + x) + y).toNatClampNeg = (v0_81_l11 p1).toInt.toNat + x.toInt.toNat + y.toInt.toNat := by
  have hn := own_n p1; have ho := own_off p1
  have e := own_sum2 _ _ x y ho hn hx hy
  show (((v0_81_l11 p1) + x) + y).toInt.toNat = _
  omega
theorem own_B (q0 : Int64) (p1 : Int32) (h1 : ¬ v0_21_s0 p1 = 0) (h2 : v0_51_s0 p1 = 0) : v0_628_l15_2 q0 p1 = if v0_43_l8 p1 = 0 then -1 else if v0_14_l6 p1 - v0_43_l8 p1 = 0 then -1 else if (8 : Int32) < v0_14_l6 p1 - v0_43_l8 p1 then -1 else if (17 : Int32) < v0_14_l6 p1 then -2 else ((own_Q (v0_5_l4 q0).toInt.toNat (v0_14_l6 p1).toInt.toNat (v0_14_l6 p1).toInt.toNat <<< ((4 : Int32) &&& 0x3f).toInt64) ||| ((v0_14_l6 p1 - v0_43_l8 p1).toInt64)) := by
  have hn := own_n p1; have ho := own_off p1; have hk := own_k p1
  have e5 : v0_538_s0 p1 = 0 := by unfold v0_538_s0; exact if_pos h2
  have e := own_sum (v0_81_l11 p1) (v0_14_l6 p1) 1 0 ho hn (by decide) (by decide)
  have z0 : (0 : Int32).toInt = 0 := rfl
  have z1 : (1 : Int32).toInt = 1 := rfl
  have c := own_clampS p1 (v0_43_l8 p1) 0 hk (by decide)
  have cN : (v0_81_l11 p1).toInt.toNat + (v0_43_l8 p1).toInt.toNat + (0 : Int32).toInt.toNat = (v0_81_l11 p1).toInt.toNat + (v0_43_l8 p1).toInt.toNat := rfl
  unfold v0_628_l15_2
  refine own_dotL q0 p1 (v0_556_L q0 p1) (v0_43_l8 p1) _ hk (by unfold v0_614_l14_2; omega) ?_ ?_ ?_
  · intro t ht
    unfold v0_556_L; rw [e5, c, cN, own_getD_set_ne _ _ _ _ _ (by omega)]
    have := own_at q0 p1 t (by omega)
    rw [own_Pv, if_neg (fun q => absurd q.2 (by omega)), if_neg (by simp [h2])] at this
    exact this
  · unfold v0_556_L; rw [e5, c, cN]
    exact own_getD_set_eq _ _ _ _ (by rw [own_len]; omega)
  · intro t ht1 ht2
    unfold v0_556_L; rw [e5, c, cN, own_getD_set_ne _ _ _ _ _ (by omega)]
    have := own_at q0 p1 t ht2
    rw [own_Pv, if_pos ⟨by simp [h1], ht1⟩, if_neg (by simp [h2])] at this
    exact this
theorem own_C (q0 : Int64) (p1 p2 : Int32) (h1 : v0_21_s0 p1 = 0) (h2 : ¬ v0_51_s0 p1 = 0) (hj : v0_93_l12 p2 = 46) : v0_628_l15_1 q0 p1 p2 = if v0_73_l10 p1 = 0 then -1 else if v0_14_l6 p1 - v0_73_l10 p1 = 0 then -1 else if (8 : Int32) < v0_14_l6 p1 - v0_73_l10 p1 then -1 else if (17 : Int32) < v0_14_l6 p1 then -2 else ((own_Q (v0_5_l4 q0).toInt.toNat (v0_14_l6 p1).toInt.toNat (v0_14_l6 p1).toInt.toNat <<< ((4 : Int32) &&& 0x3f).toInt64) ||| ((v0_14_l6 p1 - v0_73_l10 p1).toInt64)) := by
  have hn := own_n p1; have ho := own_off p1; have hk := own_m p1
  have e := own_sum (v0_81_l11 p1) (v0_14_l6 p1) 0 1 ho hn (by decide) (by decide)
  have z0 : (0 : Int32).toInt = 0 := rfl
  have z1 : (1 : Int32).toInt = 1 := rfl
  have c := own_clampS p1 (v0_73_l10 p1) 0 hk (by decide)
  have cN : (v0_81_l11 p1).toInt.toNat + (v0_73_l10 p1).toInt.toNat + (0 : Int32).toInt.toNat = (v0_81_l11 p1).toInt.toNat + (v0_73_l10 p1).toInt.toNat := rfl
  have jb : ((v0_93_l12 p2)).toInt8.toInt32 = 46 := by rw [hj]; rfl
  unfold v0_628_l15_1
  refine own_dotL q0 p1 (v0_589_L q0 p1 p2) (v0_73_l10 p1) _ hk (by unfold v0_614_l14_1; omega) ?_ ?_ ?_
  · intro t ht
    unfold v0_589_L; rw [c, cN, own_getD_set_ne _ _ _ _ _ (by omega)]
    have := own_at q0 p1 t (by omega)
    rw [own_Pv, if_neg (by simp [h1]), if_neg (fun q => absurd q.2 (by omega))] at this
    exact this
  · unfold v0_589_L; rw [c, cN, jb]
    exact own_getD_set_eq _ _ _ _ (by rw [own_len]; omega)
  · intro t ht1 ht2
    unfold v0_589_L; rw [c, cN, own_getD_set_ne _ _ _ _ _ (by omega)]
    have := own_at q0 p1 t ht2
    rw [own_Pv, if_neg (by simp [h1]), if_pos ⟨by simp [h2], ht1⟩] at this
    exact this
/-- a run of digits, then a sign at which it ends in -1 -/
theorem own_stop (off p2 : Int32) (L : List Int32) (u n x : Nat) (ho : 0 ≤ off.toInt ∧ off.toInt ≤ 3) (hn : n ≤ 19) (hx : x ≤ n) (hp : off.toInt + x < p2.toInt) (hp2 : p2.toInt ≤ 40)
    (h1 : ∀ t, t < x → L.getD (off.toInt.toNat + t) 0 = Int32.ofInt (48 + (own_dig u n t : Int)))
    (h2 : ∀ N q d i, i.toInt = off.toInt + x → own_parse off p2 L (N + 1) q d (-1) i = -1) : own_parse off p2 L (p2.toInt - off.toInt).toNat 0 0 (-1) off = -1 := by
  obtain ⟨N, e⟩ : ∃ N, (p2.toInt - off.toInt).toNat = (N + 1) + x := ⟨(p2.toInt - off.toInt).toNat - 1 - x, by omega⟩
  have r1 := own_run off p2 L u n (-1) x 0 off 0 (N + 1) (by omega) ho.1 (by omega) (fun t ht => by rw [Nat.zero_add]; exact h1 t ht)
  rw [own_Q0] at r1
  rw [e, r1]
  exact h2 _ _ _ _ (own_add off x ho (by omega))
/-- a run of digits, a dot, a run of digits, then a sign at which it ends in -1 -/
theorem own_stop2 (off p2 : Int32) (L : List Int32) (u n x y : Nat) (ho : 0 ≤ off.toInt ∧ off.toInt ≤ 3) (hn : n ≤ 19) (hxy : x ≤ y) (hy : y ≤ n) (hp : off.toInt + y + 1 < p2.toInt) (hp2 : p2.toInt ≤ 40)
    (h1 : ∀ t, t < x → L.getD (off.toInt.toNat + t) 0 = Int32.ofInt (48 + (own_dig u n t : Int))) (hd : L.getD (off.toInt.toNat + x) 0 = 46)
    (h3 : ∀ t, x ≤ t → t < y → L.getD (off.toInt.toNat + t + 1) 0 = Int32.ofInt (48 + (own_dig u n t : Int)))
    (h2 : ∀ N q d pt i, ¬ pt < 0 → i.toInt = off.toInt + y + 1 → own_parse off p2 L (N + 1) q d pt i = -1) : own_parse off p2 L (p2.toInt - off.toInt).toNat 0 0 (-1) off = -1 := by
  obtain ⟨N, e⟩ : ∃ N, (p2.toInt - off.toInt).toNat = (((N + 1) + (y - x)) + 1) + x := ⟨(p2.toInt - off.toInt).toNat - 2 - y, by omega⟩
  have r1 := own_run off p2 L u n (-1) x 0 off 0 (((N + 1) + (y - x)) + 1) (by omega) ho.1 (by omega) (fun t ht => by rw [Nat.zero_add]; exact h1 t ht)
  have ei := own_add off x ho (by omega)
  have c : (off + Int32.ofNat x).toNatClampNeg = off.toInt.toNat + x := by
    show (off + Int32.ofNat x).toInt.toNat = _; omega
  have r2 := own_dotstep off p2 L ((N + 1) + (y - x)) (own_Q u n (0 + x)) (0 + Int32.ofNat x) (-1) (off + Int32.ofNat x) (by rw [Int32.lt_iff_toInt_lt]; omega) (by rw [c]; exact hd) (by decide)
  have ei1 : (off + Int32.ofNat x + 1).toInt = off.toInt + x + 1 := by
    have a := c_iadd (off + Int32.ofNat x) 1; have r := rng32 (off + Int32.ofNat x + 1); have e : (1 : Int32).toInt = 1 := rfl; omega
  have r3 := own_run off p2 L u n (off + Int32.ofNat x) (y - x) x (off + Int32.ofNat x + 1) (0 + Int32.ofNat x) (N + 1) (by omega) (by omega) (by omega) (fun t ht => by
    rw [ei1, show (off.toInt + (x : Int) + 1).toNat + t = off.toInt.toNat + (x + t) + 1 by omega]; exact h3 (x + t) (by omega) (by omega))
  rw [own_Q0] at r1
  rw [Nat.zero_add x] at r1 r2
  rw [e, r1, r2, r3]
  refine h2 _ _ _ _ _ (by rw [Int32.lt_iff_toInt_lt, ei, show (0 : Int32).toInt = 0 from rfl]; omega) ?_
  have a := c_iadd (off + Int32.ofNat x + 1) (Int32.ofNat (y - x)); have r := rng32 (off + Int32.ofNat x + 1 + Int32.ofNat (y - x)); have e2 : (Int32.ofNat (y - x)).toInt = (y - x : Nat) := Int32.toInt_ofNat_of_lt (by omega)
  omega
theorem own_lt25 (i p2 : Int32) (h : i.toInt < p2.toInt) : i < p2 := by rw [Int32.lt_iff_toInt_lt]; exact h
theorem own_C2 (q0 : Int64) (p1 p2 : Int32) (h1 : v0_21_s0 p1 = 0) (h2 : ¬ v0_51_s0 p1 = 0) (hj : ¬ v0_93_l12 p2 = 46) : v0_628_l15_1 q0 p1 p2 = -1 := by
  have hn := own_n p1; have ho := own_off p1; have hk := own_m p1; have jb := own_jb p2
  have e := own_sum (v0_81_l11 p1) (v0_14_l6 p1) 0 1 ho hn (by decide) (by decide)
  have z0 : (0 : Int32).toInt = 0 := rfl
  have z1 : (1 : Int32).toInt = 1 := rfl
  have c := own_clampS p1 (v0_73_l10 p1) 0 hk (by decide)
  have cN : (v0_81_l11 p1).toInt.toNat + (v0_73_l10 p1).toInt.toNat + (0 : Int32).toInt.toNat = (v0_81_l11 p1).toInt.toNat + (v0_73_l10 p1).toInt.toNat := rfl
  unfold v0_628_l15_1
  have hp : ((v0_81_l11 p1) + (v0_614_l14_1 p1)).toInt = (v0_81_l11 p1).toInt + (v0_14_l6 p1).toInt + 1 := by unfold v0_614_l14_1; omega
  refine own_stop (v0_81_l11 p1) _ (v0_589_L q0 p1 p2) (v0_5_l4 q0).toInt.toNat (v0_14_l6 p1).toInt.toNat (v0_73_l10 p1).toInt.toNat ho (by omega) (by omega) (by omega) (by omega) ?_ ?_
  · intro t ht
    unfold v0_589_L; rw [c, cN, own_getD_set_ne _ _ _ _ _ (by omega)]
    have := own_at q0 p1 t (by omega)
    rw [own_Pv, if_neg (by simp [h1]), if_neg (fun q => absurd q.2 (by omega))] at this
    exact this
  · intro N q d i hi
    refine own_bad _ _ _ _ _ _ _ _ (v0_93_l12 p2) (own_lt25 _ _ (by omega)) ?_ hj jb.2.2.1 ⟨jb.1, jb.2.1⟩
    have ci : i.toNatClampNeg = (v0_81_l11 p1).toInt.toNat + (v0_73_l10 p1).toInt.toNat := by show i.toInt.toNat = _; omega
    unfold v0_589_L; rw [ci, c, cN, jb.2.2.2]
    exact own_getD_set_eq _ _ _ _ (by rw [own_len]; omega)
theorem own_D (q0 : Int64) (p1 p2 : Int32) (h1 : ¬ v0_21_s0 p1 = 0) (h2 : ¬ v0_51_s0 p1 = 0) : v0_628_l15_3 q0 p1 p2 = -1 := by
  have hn := own_n p1; have ho := own_off p1; have hm := own_m p1; have hk := own_k p1; have jb := own_jb p2
  have e := own_sum (v0_81_l11 p1) (v0_14_l6 p1) 1 1 ho hn (by decide) (by decide)
  have z0 : (0 : Int32).toInt = 0 := rfl
  have z1 : (1 : Int32).toInt = 1 := rfl
  have hp : ((v0_81_l11 p1) + (v0_614_l14_3 p1)).toInt = (v0_81_l11 p1).toInt + (v0_14_l6 p1).toInt + 2 := by unfold v0_614_l14_3; omega
  have c1 := own_clampS p1 (v0_43_l8 p1) (v0_538_s0 p1) hk (own_538 p1)
  have c2 := own_clampS p1 (v0_73_l10 p1) (v0_578_s0 p1) hm (own_578 p1)
  unfold v0_628_l15_3
  by_cases hlt : v0_73_l10 p1 < v0_43_l8 p1
  · have e5 : v0_538_s0 p1 = 1 := by unfold v0_538_s0 v0_545_s0; rw [if_neg h2, if_pos hlt]
    have e6 : v0_578_s0 p1 = 0 := by unfold v0_578_s0; exact if_pos hlt
    rw [Int32.lt_iff_toInt_lt] at hlt
    rw [e5] at c1; rw [e6] at c2
    have c1' : (v0_81_l11 p1).toInt.toNat + (v0_43_l8 p1).toInt.toNat + (1 : Int32).toInt.toNat = (v0_81_l11 p1).toInt.toNat + (v0_43_l8 p1).toInt.toNat + 1 := rfl
    have c2' : (v0_81_l11 p1).toInt.toNat + (v0_73_l10 p1).toInt.toNat + (0 : Int32).toInt.toNat = (v0_81_l11 p1).toInt.toNat + (v0_73_l10 p1).toInt.toNat := rfl
    have at1 : ∀ t, t < (v0_73_l10 p1).toInt.toNat → (v0_589_L_1 q0 p1 p2).getD ((v0_81_l11 p1).toInt.toNat + t) 0 = Int32.ofInt (48 + (own_dig (v0_5_l4 q0).toInt.toNat (v0_14_l6 p1).toInt.toNat t : Int)) := by
      intro t ht
      unfold v0_589_L_1 v0_556_L
      rw [e5, e6, c1, c2, c1', c2', own_getD_set_ne _ _ _ _ _ (by omega), own_getD_set_ne _ _ _ _ _ (by omega)]
      have := own_at q0 p1 t (by omega)
      rw [own_Pv, if_neg (fun q => absurd q.2 (by omega)), if_neg (fun q => absurd q.2 (by omega))] at this
      exact this
    have atj : (v0_589_L_1 q0 p1 p2).getD ((v0_81_l11 p1).toInt.toNat + (v0_73_l10 p1).toInt.toNat) 0 = v0_93_l12 p2 := by
      unfold v0_589_L_1 v0_556_L
      rw [e5, e6, c1, c2, c1', c2', jb.2.2.2]
      exact own_getD_set_eq _ _ _ _ (by rw [List.length_set, own_len]; omega)
    by_cases hj : v0_93_l12 p2 = 46
    · refine own_stop2 (v0_81_l11 p1) _ (v0_589_L_1 q0 p1 p2) (v0_5_l4 q0).toInt.toNat (v0_14_l6 p1).toInt.toNat (v0_73_l10 p1).toInt.toNat (v0_43_l8 p1).toInt.toNat ho (by omega) (by omega) (by omega) (by omega) (by omega) at1 (atj.trans hj) ?_ ?_
      · intro t ht1 ht2
        unfold v0_589_L_1 v0_556_L
        rw [e5, e6, c1, c2, c1', c2', own_getD_set_ne _ _ _ _ _ (by omega), own_getD_set_ne _ _ _ _ _ (by omega)]
        have := own_at q0 p1 t (by omega)
        rw [own_Pv, if_neg (fun q => absurd q.2 (by omega)), if_pos ⟨by simp [h2], ht1⟩] at this
        exact this
      · intro N q d pt i hpt hi
        refine own_dotbad _ _ _ _ _ _ _ _ (own_lt25 _ _ (by omega)) ?_ hpt
        have ci : i.toNatClampNeg = (v0_81_l11 p1).toInt.toNat + (v0_43_l8 p1).toInt.toNat + 1 := by show i.toInt.toNat = _; omega
        unfold v0_589_L_1 v0_556_L
        rw [ci, e5, e6, c1, c2, c1', c2', own_getD_set_ne _ _ _ _ _ (by omega)]
        exact own_getD_set_eq _ _ _ _ (by rw [own_len]; omega)
    · refine own_stop (v0_81_l11 p1) _ (v0_589_L_1 q0 p1 p2) (v0_5_l4 q0).toInt.toNat (v0_14_l6 p1).toInt.toNat (v0_73_l10 p1).toInt.toNat ho (by omega) (by omega) (by omega) (by omega) at1 ?_
      intro N q d i hi
      refine own_bad _ _ _ _ _ _ _ _ (v0_93_l12 p2) (own_lt25 _ _ (by omega)) ?_ hj jb.2.2.1 ⟨jb.1, jb.2.1⟩
      have ci : i.toNatClampNeg = (v0_81_l11 p1).toInt.toNat + (v0_73_l10 p1).toInt.toNat := by show i.toInt.toNat = _; omega
      rw [ci]; exact atj
  · have e5 : v0_538_s0 p1 = 0 := by unfold v0_538_s0 v0_545_s0; rw [if_neg h2, if_neg hlt]
    have e6 : v0_578_s0 p1 = 1 := by unfold v0_578_s0; exact if_neg hlt
    rw [Int32.lt_iff_toInt_lt] at hlt
    rw [e5] at c1; rw [e6] at c2
    have c1' : (v0_81_l11 p1).toInt.toNat + (v0_43_l8 p1).toInt.toNat + (0 : Int32).toInt.toNat = (v0_81_l11 p1).toInt.toNat + (v0_43_l8 p1).toInt.toNat := rfl
    have c2' : (v0_81_l11 p1).toInt.toNat + (v0_73_l10 p1).toInt.toNat + (1 : Int32).toInt.toNat = (v0_81_l11 p1).toInt.toNat + (v0_73_l10 p1).toInt.toNat + 1 := rfl
    refine own_stop2 (v0_81_l11 p1) _ (v0_589_L_1 q0 p1 p2) (v0_5_l4 q0).toInt.toNat (v0_14_l6 p1).toInt.toNat (v0_43_l8 p1).toInt.toNat (v0_73_l10 p1).toInt.toNat ho (by omega) (by omega) (by omega) (by omega) (by omega) ?_ ?_ ?_ ?_
    · intro t ht
      unfold v0_589_L_1 v0_556_L
      rw [e5, e6, c1, c2, c1', c2', own_getD_set_ne _ _ _ _ _ (by omega), own_getD_set_ne _ _ _ _ _ (by omega)]
      have := own_at q0 p1 t (by omega)
      rw [own_Pv, if_neg (fun q => absurd q.2 (by omega)), if_neg (fun q => absurd q.2 (by omega))] at this
      exact this
    · unfold v0_589_L_1 v0_556_L
      rw [e5, e6, c1, c2, c1', c2', own_getD_set_ne _ _ _ _ _ (by omega)]
      exact own_getD_set_eq _ _ _ _ (by rw [own_len]; omega)
    · intro t ht1 ht2
      unfold v0_589_L_1 v0_556_L
      rw [e5, e6, c1, c2, c1', c2', own_getD_set_ne _ _ _ _ _ (by omega), own_getD_set_ne _ _ _ _ _ (by omega)]
      have := own_at q0 p1 t (by omega)
      rw [own_Pv, if_pos ⟨by simp [h1], ht1⟩, if_neg (fun q => absurd q.2 (by omega))] at this
      exact this
    · intro N q d pt i hpt hi
      have ci : i.toNatClampNeg = (v0_81_l11 p1).toInt.toNat + (v0_73_l10 p1).toInt.toNat + 1 := by show i.toInt.toNat = _; omega
      have atj : (v0_589_L_1 q0 p1 p2).getD i.toNatClampNeg 0 = v0_93_l12 p2 := by
        unfold v0_589_L_1 v0_556_L
        rw [ci, e5, e6, c1, c2, c1', c2', jb.2.2.2]
        exact own_getD_set_eq _ _ _ _ (by rw [List.length_set, own_len]; omega)
      by_cases hj : v0_93_l12 p2 = 46
      · exact own_dotbad _ _ _ _ _ _ _ _ (own_lt25 _ _ (by omega)) (atj.trans hj) hpt
      · exact own_bad _ _ _ _ _ _ _ _ (v0_93_l12 p2) (own_lt25 _ _ (by omega)) atj hj jb.2.2.1 ⟨jb.1, jb.2.1⟩
theorem own_law (q0 : Int64) (p1 p2 : Int32) : (v0_ret q0 p1 p2) = 1 := by
  have z0 : (0 : Int32).toInt = 0 := rfl
  have z1 : (1 : Int32).toInt = 1 := rfl
  have hn := own_n p1; have ho := own_off p1
  unfold v0_ret
  by_cases h1 : v0_21_s0 p1 = 0
  · rw [if_pos h1]
    by_cases h2 : v0_51_s0 p1 = 0
    · rw [if_pos h2]
      have hA := own_A q0 p1 h1 h2
      have hl : v0_614_l14 p1 = v0_14_l6 p1 := by unfold v0_614_l14; rw [Int32.add_zero, Int32.add_zero]
      rw [hl]
      by_cases c1 : v0_14_l6 p1 = 0
      · rw [if_pos c1] at hA; rw [if_pos c1]; unfold v0_813_s0; rw [if_pos hA]; rfl
      · rw [if_neg c1] at hA; rw [if_neg c1]
        by_cases c2 : (17 : Int32) < v0_14_l6 p1
        · rw [if_pos c2] at hA; rw [if_pos c2]; unfold v0_813_s0_1; rw [if_pos hA]; rfl
        · rw [if_neg c2, own_Qn q0 p1 c2] at hA; rw [if_neg c2]; unfold v0_813_s0_2 v0_806_l18; rw [if_pos hA]; rfl
    · rw [if_neg h2]
      by_cases hj : v0_93_l12 p2 = 46
      · have ej : v0_639_s0 p2 = 1 := by unfold v0_639_s0; exact if_pos hj
        have hC := own_C q0 p1 p2 h1 h2 hj
        have hl : ¬ v0_614_l14_1 p1 = 0 := fun q => by
          have e := own_sum (v0_81_l11 p1) (v0_14_l6 p1) 0 1 ho hn (by decide) (by decide)
          have : (v0_614_l14_1 p1).toInt = 0 := by rw [q]; rfl
          unfold v0_614_l14_1 at this; omega
        rw [ej, if_neg (by decide), if_neg hl]
        by_cases c1 : v0_73_l10 p1 = 0
        · rw [if_pos c1] at hC; rw [if_pos c1]; unfold v0_813_s0_3; rw [if_pos hC]; rfl
        · rw [if_neg c1] at hC; rw [if_neg c1]
          by_cases c2 : v0_14_l6 p1 - v0_73_l10 p1 = 0
          · rw [if_pos c2] at hC; rw [if_pos c2]; unfold v0_813_s0_3; rw [if_pos hC]; rfl
          · rw [if_neg c2] at hC; rw [if_neg c2]
            by_cases c3 : (8 : Int32) < v0_14_l6 p1 - v0_73_l10 p1
            · rw [if_pos c3] at hC; rw [if_pos c3]; unfold v0_813_s0_3; rw [if_pos hC]; rfl
            · rw [if_neg c3] at hC; rw [if_neg c3]
              by_cases c4 : (17 : Int32) < v0_14_l6 p1
              · rw [if_pos c4] at hC; rw [if_pos c4]; unfold v0_813_s0_4; rw [if_pos hC]; rfl
              · rw [if_neg c4, own_Qn q0 p1 c4] at hC; rw [if_neg c4]; unfold v0_813_s0_5 v0_806_l18_1; rw [if_pos hC]; rfl
      · have ej : v0_639_s0 p2 = 0 := by unfold v0_639_s0; exact if_neg hj
        rw [ej, if_pos rfl]
        unfold v0_813_s0_3; rw [if_pos (own_C2 q0 p1 p2 h1 h2 hj)]; rfl
  · rw [if_neg h1]
    by_cases h2 : v0_51_s0 p1 = 0
    · rw [if_pos h2]
      have hC := own_B q0 p1 h1 h2
      have hl : ¬ v0_614_l14_2 p1 = 0 := fun q => by
        have e := own_sum (v0_81_l11 p1) (v0_14_l6 p1) 1 0 ho hn (by decide) (by decide)
        have : (v0_614_l14_2 p1).toInt = 0 := by rw [q]; rfl
        unfold v0_614_l14_2 at this; omega
      rw [if_neg hl]
      by_cases c1 : v0_43_l8 p1 = 0
      · rw [if_pos c1] at hC; rw [if_pos c1]; unfold v0_813_s0_6; rw [if_pos hC]; rfl
      · rw [if_neg c1] at hC; rw [if_neg c1]
        by_cases c2 : v0_14_l6 p1 - v0_43_l8 p1 = 0
        · rw [if_pos c2] at hC; rw [if_pos c2]; unfold v0_813_s0_6; rw [if_pos hC]; rfl
        · rw [if_neg c2] at hC; rw [if_neg c2]
          by_cases c3 : (8 : Int32) < v0_14_l6 p1 - v0_43_l8 p1
          · rw [if_pos c3] at hC; rw [if_pos c3]; unfold v0_813_s0_6; rw [if_pos hC]; rfl
          · rw [if_neg c3] at hC; rw [if_neg c3]
            by_cases c4 : (17 : Int32) < v0_14_l6 p1
            · rw [if_pos c4] at hC; rw [if_pos c4]; unfold v0_813_s0_7; rw [if_pos hC]; rfl
            · rw [if_neg c4, own_Qn q0 p1 c4] at hC; rw [if_neg c4]; unfold v0_813_s0_8 v0_806_l18_2; rw [if_pos hC]; rfl
    · rw [if_neg h2]
      unfold v0_813_s0_9; rw [if_pos (own_D q0 p1 p2 h1 h2)]; rfl

theorem ef_rm0 (m : MethodId) (q0 : Int64) (p1 : Int32) (p2 : Int32) : entryFrame m #[(.long q0), (.int p1), (.int p2)] maxLocals = mkF m 0 #[.val (.long q0), .second, .val (.int p1), .val (.int p2), .unset, .unset, .unset, .unset, .unset, .unset, .unset, .unset, .unset, .unset, .unset, .unset, .unset, .unset, .unset, .unset, .unset, .unset] [] := by first | (simp [entryFrame, mkF, argsToLocals, Value.category, maxLocals]; done) | rfl
def Q0 (Z : State) (q0 : Int64) (p1 : Int32) (p2 : Int32) (h0 : Heap) (n0 : Nat) (v : Option Value) (h : Heap) (L : List Loc) : Prop := v = some (.int 1) ∧ Fr n0 L
set_option maxRecDepth 65536 in
set_option maxHeartbeats 40000000 in
theorem rm0 (l : Launch) (Z : State) (a0 : Array Value) (hw : ∀ d ∈ tables_1, d.before a0 Z = true) (ws : List Jvm.Cond) (q0 : Int64) (p1 : Int32) (p2 : Int32) (h0 : Heap) (n0 : Nat) (Z0 : n0 ≤ h0.size) :
    MetFree l x (head1 (Jvm.Cond.code x code maxLocals ret :: ws) room_1) (fun a U => a = #[(.long q0), (.int p1), (.int p2)] ∧ Z.Warmed39 U.vm ∧ U.heap = h0) (fun _ _ _ _ _ => True) (fun _ U o U' => ∃ v L, o = .returned v ∧ Q0 Z q0 p1 p2 h0 n0 v U'.heap L ∧ FrameEnd U o U' L room_1.cells room_1.slots) := by
  refine MetFree.of_bodySF (plainFor_of_name pn_84) hisR ?_
  intro p e s m args below meth c s₁ Bd hml0 hP hK
  obtain ⟨rfl, hZ, hh⟩ := hP
  have hx := Bd.exec
  have hby := Bd.bytes
  have hml : c.maxLocals = 22 := hml0
  have hown : s.vm.findClass "com/example/gavelbook/gavelbook/DecimalsParsePinLaw" = some m.cls := findClass_of_methodNamed Bd.named
  have hnm := (name_of_methodNamed Bd.named Bd.method).1
  have X0 : Stand p l e room_1 s m #[(.long q0), (.int p1), (.int p2)] below meth c s₁ [] 0 0 := Stand.of_body Bd
  have e0 : s₁.heap = h0 := by rw [← hh, Bd.state]; rfl
  have N0 := Fr.nil n0
  have KC0 := Keep.refl h0 ([] : List Addr)
  have pre0 : ∀ t, Steps p.tables e below (s₁.setTop (mkF m 0 #[.val (.long q0), .second, .val (.int p1), .val (.int p2), .unset, .unset, .unset, .unset, .unset, .unset, .unset, .unset, .unset, .unset, .unset, .unset, .unset, .unset, .unset, .unset, .unset, .unset] [])) t → Steps p.tables e below (s₁.setTop (entryFrame m #[(.long q0), (.int p1), (.int p2)] maxLocals)) t := fun t k => castTop (ef_rm0 m q0 p1 p2) k
  have k186 := fun (t : State) (kk : Steps p.tables e below (s₁.setTop (mkF m 127 #[.val (.long q0), .second, .val (.int p1), .val (.int p2), .val (.long (v0_5_l4 q0)), .second, .val (.int (v0_14_l6 p1)), .val (.int (v0_21_s0 p1)), .val (.int (v0_43_l8 p1)), .val (.int (v0_51_s0 p1)), .val (.int (v0_73_l10 p1)), .val (.int (v0_81_l11 p1)), .val (.int (v0_93_l12 p2)), .unset, .unset, .unset, .unset, .unset, .unset, .unset, .unset, .unset] [(.int (25 : Int32))])) t) => pre0 t (by
    refine XS.lloadN X0.here hx rfl (hb hby at_0) rfl ?_
    refine X0.ldc2Long hx hown (mvT hZ (hw _ (List.mem_of_getElem? (i := 0) rfl))) (g := (mkF m 1 #[.val (.long q0), .second, .val (.int p1), .val (.int p2), .unset, .unset, .unset, .unset, .unset, .unset, .unset, .unset, .unset, .unset, .unset, .unset, .unset, .unset, .unset, .unset, .unset, .unset] [(.long q0)])) rfl (hb hby at_1) _ ?_
    show Steps p.tables e below (s₁.setTop (mkF m 4 #[.val (.long q0), .second, .val (.int p1), .val (.int p2), .unset, .unset, .unset, .unset, .unset, .unset, .unset, .unset, .unset, .unset, .unset, .unset, .unset, .unset, .unset, .unset, .unset, .unset] [(.long (9223372036854775807 : Int64)), (.long q0)])) _
    refine XS.land X0.here hx rfl (hb hby at_4) rfl ?_
    refine XS.lstore X0.here hx rfl (hb hby at_5) rfl (l' := #[.val (.long q0), .second, .val (.int p1), .val (.int p2), .val (.long (v0_5_l4 q0)), .second, .unset, .unset, .unset, .unset, .unset, .unset, .unset, .unset, .unset, .unset, .unset, .unset, .unset, .unset, .unset, .unset]) rfl ?_
    refine XS.iloadN X0.here hx rfl (hb hby at_7) rfl ?_
    refine XS.bipush X0.here hx rfl (hb hby at_8) ?_
    refine XS.iand X0.here hx rfl (hb hby at_10) rfl ?_
    refine XS.bipush X0.here hx rfl (hb hby at_11) ?_
    show Steps p.tables e below (s₁.setTop (mkF m 13 #[.val (.long q0), .second, .val (.int p1), .val (.int p2), .val (.long (v0_5_l4 q0)), .second, .unset, .unset, .unset, .unset, .unset, .unset, .unset, .unset, .unset, .unset, .unset, .unset, .unset, .unset, .unset, .unset] [(.int (20 : Int32)), (.int (p1 &&& (31 : Int32)))])) _
    refine iremM X0 hx rfl (hb hby at_13) rfl (by decide) ?_
    refine XS.istore X0.here hx rfl (hb hby at_14) rfl (l' := #[.val (.long q0), .second, .val (.int p1), .val (.int p2), .val (.long (v0_5_l4 q0)), .second, .val (.int (v0_14_l6 p1)), .unset, .unset, .unset, .unset, .unset, .unset, .unset, .unset, .unset, .unset, .unset, .unset, .unset, .unset, .unset]) rfl ?_
    refine XS.iloadN X0.here hx rfl (hb hby at_16) rfl ?_
    refine XS.iconst X0.here hx rfl (hb hby at_17) ?_
    refine XS.iushr X0.here hx rfl (hb hby at_18) rfl ?_
    refine XS.iconst X0.here hx rfl (hb hby at_19) ?_
    show Steps p.tables e below (s₁.setTop (mkF m 20 #[.val (.long q0), .second, .val (.int p1), .val (.int p2), .val (.long (v0_5_l4 q0)), .second, .val (.int (v0_14_l6 p1)), .unset, .unset, .unset, .unset, .unset, .unset, .unset, .unset, .unset, .unset, .unset, .unset, .unset, .unset, .unset] [(.int (1 : Int32)), (.int ((p1.toUInt32 >>> ((5 : Int32) &&& 31).toUInt32).toInt32))])) _
    refine XS.iand X0.here hx rfl (hb hby at_20) rfl ?_
    suffices k177 : Steps p.tables e below (s₁.setTop (mkF m 29 #[.val (.long q0), .second, .val (.int p1), .val (.int p2), .val (.long (v0_5_l4 q0)), .second, .val (.int (v0_14_l6 p1)), .unset, .unset, .unset, .unset, .unset, .unset, .unset, .unset, .unset, .unset, .unset, .unset, .unset, .unset, .unset] [(.int (v0_21_s0 p1))])) t by
      by_cases hc21_176 : (((p1.toUInt32 >>> ((5 : Int32) &&& 31).toUInt32).toInt32) &&& (1 : Int32)) = (0 : Int32)
      · rw [(show (v0_21_s0 p1) = (0 : Int32) from if_pos hc21_176)] at k177
        show Steps p.tables e below (s₁.setTop (mkF m 21 #[.val (.long q0), .second, .val (.int p1), .val (.int p2), .val (.long (v0_5_l4 q0)), .second, .val (.int (v0_14_l6 p1)), .unset, .unset, .unset, .unset, .unset, .unset, .unset, .unset, .unset, .unset, .unset, .unset, .unset, .unset, .unset] [(.int (((p1.toUInt32 >>> ((5 : Int32) &&& 31).toUInt32).toInt32) &&& (1 : Int32)))])) _
        refine XS.ifYes X0.here hx rfl (pc0 := 21) (pc' := 28) rfl (hb hby at_21) rfl ((if0 _ _).trans (teq hc21_176).1) (by decide) (by decide) ?_
        refine XS.iconst X0.here hx rfl (hb hby at_28) ?_
        exact k177
      · rw [(show (v0_21_s0 p1) = (1 : Int32) from if_neg hc21_176)] at k177
        show Steps p.tables e below (s₁.setTop (mkF m 21 #[.val (.long q0), .second, .val (.int p1), .val (.int p2), .val (.long (v0_5_l4 q0)), .second, .val (.int (v0_14_l6 p1)), .unset, .unset, .unset, .unset, .unset, .unset, .unset, .unset, .unset, .unset, .unset, .unset, .unset, .unset, .unset] [(.int (((p1.toUInt32 >>> ((5 : Int32) &&& 31).toUInt32).toInt32) &&& (1 : Int32)))])) _
        refine XS.ifNo X0.here hx rfl (hb hby at_21) rfl ((if0 _ _).trans (feq hc21_176).1) ?_
        refine XS.iconst X0.here hx rfl (hb hby at_24) ?_
        refine XS.goto X0.here hx rfl (pc0 := 25) (pc' := 29) rfl (hb hby at_25) (by decide) (by decide) ?_
        exact k177
    refine XS.istore X0.here hx rfl (hb hby at_29) rfl (l' := #[.val (.long q0), .second, .val (.int p1), .val (.int p2), .val (.long (v0_5_l4 q0)), .second, .val (.int (v0_14_l6 p1)), .val (.int (v0_21_s0 p1)), .unset, .unset, .unset, .unset, .unset, .unset, .unset, .unset, .unset, .unset, .unset, .unset, .unset, .unset]) rfl ?_
    refine XS.iloadN X0.here hx rfl (hb hby at_31) rfl ?_
    show Steps p.tables e below (s₁.setTop (mkF m 32 #[.val (.long q0), .second, .val (.int p1), .val (.int p2), .val (.long (v0_5_l4 q0)), .second, .val (.int (v0_14_l6 p1)), .val (.int (v0_21_s0 p1)), .unset, .unset, .unset, .unset, .unset, .unset, .unset, .unset, .unset, .unset, .unset, .unset, .unset, .unset] [(.int p1)])) _
    refine XS.bipush X0.here hx rfl (hb hby at_32) ?_
    refine XS.iushr X0.here hx rfl (hb hby at_34) rfl ?_
    refine XS.bipush X0.here hx rfl (hb hby at_35) ?_
    refine XS.iand X0.here hx rfl (hb hby at_37) rfl ?_
    refine XS.iload X0.here hx rfl (hb hby at_38) rfl ?_
    refine XS.iconst X0.here hx rfl (hb hby at_40) ?_
    show Steps p.tables e below (s₁.setTop (mkF m 41 #[.val (.long q0), .second, .val (.int p1), .val (.int p2), .val (.long (v0_5_l4 q0)), .second, .val (.int (v0_14_l6 p1)), .val (.int (v0_21_s0 p1)), .unset, .unset, .unset, .unset, .unset, .unset, .unset, .unset, .unset, .unset, .unset, .unset, .unset, .unset] [(.int (1 : Int32)), (.int (v0_14_l6 p1)), (.int (((p1.toUInt32 >>> ((6 : Int32) &&& 31).toUInt32).toInt32) &&& (31 : Int32)))])) _
    refine XS.iadd X0.here hx rfl (hb hby at_41) rfl ?_
    refine iremM X0 hx rfl (hb hby at_42) rfl (own_n1 p1) ?_
    refine XS.istore X0.here hx rfl (hb hby at_43) rfl (l' := #[.val (.long q0), .second, .val (.int p1), .val (.int p2), .val (.long (v0_5_l4 q0)), .second, .val (.int (v0_14_l6 p1)), .val (.int (v0_21_s0 p1)), .val (.int (v0_43_l8 p1)), .unset, .unset, .unset, .unset, .unset, .unset, .unset, .unset, .unset, .unset, .unset, .unset, .unset]) rfl ?_
    refine XS.iloadN X0.here hx rfl (hb hby at_45) rfl ?_
    refine XS.bipush X0.here hx rfl (hb hby at_46) ?_
    refine XS.iushr X0.here hx rfl (hb hby at_48) rfl ?_
    show Steps p.tables e below (s₁.setTop (mkF m 49 #[.val (.long q0), .second, .val (.int p1), .val (.int p2), .val (.long (v0_5_l4 q0)), .second, .val (.int (v0_14_l6 p1)), .val (.int (v0_21_s0 p1)), .val (.int (v0_43_l8 p1)), .unset, .unset, .unset, .unset, .unset, .unset, .unset, .unset, .unset, .unset, .unset, .unset, .unset] [(.int ((p1.toUInt32 >>> ((11 : Int32) &&& 31).toUInt32).toInt32))])) _
    refine XS.iconst X0.here hx rfl (hb hby at_49) ?_
    refine XS.iand X0.here hx rfl (hb hby at_50) rfl ?_
    suffices k179 : Steps p.tables e below (s₁.setTop (mkF m 59 #[.val (.long q0), .second, .val (.int p1), .val (.int p2), .val (.long (v0_5_l4 q0)), .second, .val (.int (v0_14_l6 p1)), .val (.int (v0_21_s0 p1)), .val (.int (v0_43_l8 p1)), .unset, .unset, .unset, .unset, .unset, .unset, .unset, .unset, .unset, .unset, .unset, .unset, .unset] [(.int (v0_51_s0 p1))])) t by
      by_cases hc51_178 : (((p1.toUInt32 >>> ((11 : Int32) &&& 31).toUInt32).toInt32) &&& (1 : Int32)) = (0 : Int32)
      · rw [(show (v0_51_s0 p1) = (0 : Int32) from if_pos hc51_178)] at k179
        show Steps p.tables e below (s₁.setTop (mkF m 51 #[.val (.long q0), .second, .val (.int p1), .val (.int p2), .val (.long (v0_5_l4 q0)), .second, .val (.int (v0_14_l6 p1)), .val (.int (v0_21_s0 p1)), .val (.int (v0_43_l8 p1)), .unset, .unset, .unset, .unset, .unset, .unset, .unset, .unset, .unset, .unset, .unset, .unset, .unset] [(.int (((p1.toUInt32 >>> ((11 : Int32) &&& 31).toUInt32).toInt32) &&& (1 : Int32)))])) _
        refine XS.ifYes X0.here hx rfl (pc0 := 51) (pc' := 58) rfl (hb hby at_51) rfl ((if0 _ _).trans (teq hc51_178).1) (by decide) (by decide) ?_
        refine XS.iconst X0.here hx rfl (hb hby at_58) ?_
        exact k179
      · rw [(show (v0_51_s0 p1) = (1 : Int32) from if_neg hc51_178)] at k179
        show Steps p.tables e below (s₁.setTop (mkF m 51 #[.val (.long q0), .second, .val (.int p1), .val (.int p2), .val (.long (v0_5_l4 q0)), .second, .val (.int (v0_14_l6 p1)), .val (.int (v0_21_s0 p1)), .val (.int (v0_43_l8 p1)), .unset, .unset, .unset, .unset, .unset, .unset, .unset, .unset, .unset, .unset, .unset, .unset, .unset] [(.int (((p1.toUInt32 >>> ((11 : Int32) &&& 31).toUInt32).toInt32) &&& (1 : Int32)))])) _
        refine XS.ifNo X0.here hx rfl (hb hby at_51) rfl ((if0 _ _).trans (feq hc51_178).1) ?_
        refine XS.iconst X0.here hx rfl (hb hby at_54) ?_
        refine XS.goto X0.here hx rfl (pc0 := 55) (pc' := 59) rfl (hb hby at_55) (by decide) (by decide) ?_
        exact k179
    refine XS.istore X0.here hx rfl (hb hby at_59) rfl (l' := #[.val (.long q0), .second, .val (.int p1), .val (.int p2), .val (.long (v0_5_l4 q0)), .second, .val (.int (v0_14_l6 p1)), .val (.int (v0_21_s0 p1)), .val (.int (v0_43_l8 p1)), .val (.int (v0_51_s0 p1)), .unset, .unset, .unset, .unset, .unset, .unset, .unset, .unset, .unset, .unset, .unset, .unset]) rfl ?_
    show Steps p.tables e below (s₁.setTop (mkF m 61 #[.val (.long q0), .second, .val (.int p1), .val (.int p2), .val (.long (v0_5_l4 q0)), .second, .val (.int (v0_14_l6 p1)), .val (.int (v0_21_s0 p1)), .val (.int (v0_43_l8 p1)), .val (.int (v0_51_s0 p1)), .unset, .unset, .unset, .unset, .unset, .unset, .unset, .unset, .unset, .unset, .unset, .unset] [])) _
    refine XS.iloadN X0.here hx rfl (hb hby at_61) rfl ?_
    refine XS.bipush X0.here hx rfl (hb hby at_62) ?_
    refine XS.iushr X0.here hx rfl (hb hby at_64) rfl ?_
    refine XS.bipush X0.here hx rfl (hb hby at_65) ?_
    refine XS.iand X0.here hx rfl (hb hby at_67) rfl ?_
    refine XS.iload X0.here hx rfl (hb hby at_68) rfl ?_
    show Steps p.tables e below (s₁.setTop (mkF m 70 #[.val (.long q0), .second, .val (.int p1), .val (.int p2), .val (.long (v0_5_l4 q0)), .second, .val (.int (v0_14_l6 p1)), .val (.int (v0_21_s0 p1)), .val (.int (v0_43_l8 p1)), .val (.int (v0_51_s0 p1)), .unset, .unset, .unset, .unset, .unset, .unset, .unset, .unset, .unset, .unset, .unset, .unset] [(.int (v0_14_l6 p1)), (.int (((p1.toUInt32 >>> ((12 : Int32) &&& 31).toUInt32).toInt32) &&& (31 : Int32)))])) _
    refine XS.iconst X0.here hx rfl (hb hby at_70) ?_
    refine XS.iadd X0.here hx rfl (hb hby at_71) rfl ?_
    refine iremM X0 hx rfl (hb hby at_72) rfl (own_n1 p1) ?_
    refine XS.istore X0.here hx rfl (hb hby at_73) rfl (l' := #[.val (.long q0), .second, .val (.int p1), .val (.int p2), .val (.long (v0_5_l4 q0)), .second, .val (.int (v0_14_l6 p1)), .val (.int (v0_21_s0 p1)), .val (.int (v0_43_l8 p1)), .val (.int (v0_51_s0 p1)), .val (.int (v0_73_l10 p1)), .unset, .unset, .unset, .unset, .unset, .unset, .unset, .unset, .unset, .unset, .unset]) rfl ?_
    refine XS.iloadN X0.here hx rfl (hb hby at_75) rfl ?_
    refine XS.bipush X0.here hx rfl (hb hby at_76) ?_
    show Steps p.tables e below (s₁.setTop (mkF m 78 #[.val (.long q0), .second, .val (.int p1), .val (.int p2), .val (.long (v0_5_l4 q0)), .second, .val (.int (v0_14_l6 p1)), .val (.int (v0_21_s0 p1)), .val (.int (v0_43_l8 p1)), .val (.int (v0_51_s0 p1)), .val (.int (v0_73_l10 p1)), .unset, .unset, .unset, .unset, .unset, .unset, .unset, .unset, .unset, .unset, .unset] [(.int (17 : Int32)), (.int p1)])) _
    refine XS.iushr X0.here hx rfl (hb hby at_78) rfl ?_
    refine XS.iconst X0.here hx rfl (hb hby at_79) ?_
    refine XS.iand X0.here hx rfl (hb hby at_80) rfl ?_
    refine XS.istore X0.here hx rfl (hb hby at_81) rfl (l' := #[.val (.long q0), .second, .val (.int p1), .val (.int p2), .val (.long (v0_5_l4 q0)), .second, .val (.int (v0_14_l6 p1)), .val (.int (v0_21_s0 p1)), .val (.int (v0_43_l8 p1)), .val (.int (v0_51_s0 p1)), .val (.int (v0_73_l10 p1)), .val (.int (v0_81_l11 p1)), .unset, .unset, .unset, .unset, .unset, .unset, .unset, .unset, .unset, .unset]) rfl ?_
    refine XS.iloadN X0.here hx rfl (hb hby at_83) rfl ?_
    refine XS.i2b X0.here hx rfl (hb hby at_84) rfl ?_
    show Steps p.tables e below (s₁.setTop (mkF m 85 #[.val (.long q0), .second, .val (.int p1), .val (.int p2), .val (.long (v0_5_l4 q0)), .second, .val (.int (v0_14_l6 p1)), .val (.int (v0_21_s0 p1)), .val (.int (v0_43_l8 p1)), .val (.int (v0_51_s0 p1)), .val (.int (v0_73_l10 p1)), .val (.int (v0_81_l11 p1)), .unset, .unset, .unset, .unset, .unset, .unset, .unset, .unset, .unset, .unset] [(.int (p2.toInt8.toInt32))])) _
    refine XS.istore X0.here hx rfl (hb hby at_85) rfl (l' := #[.val (.long q0), .second, .val (.int p1), .val (.int p2), .val (.long (v0_5_l4 q0)), .second, .val (.int (v0_14_l6 p1)), .val (.int (v0_21_s0 p1)), .val (.int (v0_43_l8 p1)), .val (.int (v0_51_s0 p1)), .val (.int (v0_73_l10 p1)), .val (.int (v0_81_l11 p1)), .val (.int (p2.toInt8.toInt32)), .unset, .unset, .unset, .unset, .unset, .unset, .unset, .unset, .unset]) rfl ?_
    refine XS.iloadN X0.here hx rfl (hb hby at_87) rfl ?_
    refine XS.bipush X0.here hx rfl (hb hby at_88) ?_
    refine XS.iushr X0.here hx rfl (hb hby at_90) rfl ?_
    refine XS.iconst X0.here hx rfl (hb hby at_91) ?_
    refine XS.iand X0.here hx rfl (hb hby at_92) rfl ?_
    suffices k185 : Steps p.tables e below (s₁.setTop (mkF m 125 #[.val (.long q0), .second, .val (.int p1), .val (.int p2), .val (.long (v0_5_l4 q0)), .second, .val (.int (v0_14_l6 p1)), .val (.int (v0_21_s0 p1)), .val (.int (v0_43_l8 p1)), .val (.int (v0_51_s0 p1)), .val (.int (v0_73_l10 p1)), .val (.int (v0_81_l11 p1)), .val (.int (v0_93_l12 p2)), .unset, .unset, .unset, .unset, .unset, .unset, .unset, .unset, .unset] [])) t by
      by_cases hc93_180 : (((p2.toUInt32 >>> ((8 : Int32) &&& 31).toUInt32).toInt32) &&& (1 : Int32)) = (0 : Int32)
      · rw [(show (v0_93_l12 p2) = (v0_107_l12 p2) from if_pos hc93_180)] at k185
        show Steps p.tables e below (s₁.setTop (mkF m 93 #[.val (.long q0), .second, .val (.int p1), .val (.int p2), .val (.long (v0_5_l4 q0)), .second, .val (.int (v0_14_l6 p1)), .val (.int (v0_21_s0 p1)), .val (.int (v0_43_l8 p1)), .val (.int (v0_51_s0 p1)), .val (.int (v0_73_l10 p1)), .val (.int (v0_81_l11 p1)), .val (.int (p2.toInt8.toInt32)), .unset, .unset, .unset, .unset, .unset, .unset, .unset, .unset, .unset] [(.int (((p2.toUInt32 >>> ((8 : Int32) &&& 31).toUInt32).toInt32) &&& (1 : Int32)))])) _
        refine XS.ifYes X0.here hx rfl (pc0 := 93) (pc' := 103) rfl (hb hby at_93) rfl ((if0 _ _).trans (teq hc93_180).1) (by decide) (by decide) ?_
        show Steps p.tables e below (s₁.setTop (mkF m 103 #[.val (.long q0), .second, .val (.int p1), .val (.int p2), .val (.long (v0_5_l4 q0)), .second, .val (.int (v0_14_l6 p1)), .val (.int (v0_21_s0 p1)), .val (.int (v0_43_l8 p1)), .val (.int (v0_51_s0 p1)), .val (.int (v0_73_l10 p1)), .val (.int (v0_81_l11 p1)), .val (.int (p2.toInt8.toInt32)), .unset, .unset, .unset, .unset, .unset, .unset, .unset, .unset, .unset] [])) _
        refine XS.iload X0.here hx rfl (hb hby at_103) rfl ?_
        refine XS.bipush X0.here hx rfl (hb hby at_105) ?_
        suffices k184 : Steps p.tables e below (s₁.setTop (mkF m 125 #[.val (.long q0), .second, .val (.int p1), .val (.int p2), .val (.long (v0_5_l4 q0)), .second, .val (.int (v0_14_l6 p1)), .val (.int (v0_21_s0 p1)), .val (.int (v0_43_l8 p1)), .val (.int (v0_51_s0 p1)), .val (.int (v0_73_l10 p1)), .val (.int (v0_81_l11 p1)), .val (.int (v0_107_l12 p2)), .unset, .unset, .unset, .unset, .unset, .unset, .unset, .unset, .unset] [])) t by
          by_cases hc107_181 : (p2.toInt8.toInt32) < (48 : Int32)
          · rw [(show (v0_107_l12 p2) = (p2.toInt8.toInt32) from if_pos hc107_181)] at k184
            show Steps p.tables e below (s₁.setTop (mkF m 107 #[.val (.long q0), .second, .val (.int p1), .val (.int p2), .val (.long (v0_5_l4 q0)), .second, .val (.int (v0_14_l6 p1)), .val (.int (v0_21_s0 p1)), .val (.int (v0_43_l8 p1)), .val (.int (v0_51_s0 p1)), .val (.int (v0_73_l10 p1)), .val (.int (v0_81_l11 p1)), .val (.int (p2.toInt8.toInt32)), .unset, .unset, .unset, .unset, .unset, .unset, .unset, .unset, .unset] [(.int (48 : Int32)), (.int (p2.toInt8.toInt32))])) _
            refine XS.icmpYes X0.here hx rfl (pc0 := 107) (pc' := 125) rfl (hb hby at_107) rfl (tlt hc107_181).1 (by decide) (by decide) ?_
            exact k184
          · rw [(show (v0_107_l12 p2) = (v0_114_l12 p2) from if_neg hc107_181)] at k184
            show Steps p.tables e below (s₁.setTop (mkF m 107 #[.val (.long q0), .second, .val (.int p1), .val (.int p2), .val (.long (v0_5_l4 q0)), .second, .val (.int (v0_14_l6 p1)), .val (.int (v0_21_s0 p1)), .val (.int (v0_43_l8 p1)), .val (.int (v0_51_s0 p1)), .val (.int (v0_73_l10 p1)), .val (.int (v0_81_l11 p1)), .val (.int (p2.toInt8.toInt32)), .unset, .unset, .unset, .unset, .unset, .unset, .unset, .unset, .unset] [(.int (48 : Int32)), (.int (p2.toInt8.toInt32))])) _
            refine XS.icmpNo X0.here hx rfl (hb hby at_107) rfl (flt hc107_181).1 ?_
            refine XS.iload X0.here hx rfl (hb hby at_110) rfl ?_
            refine XS.bipush X0.here hx rfl (hb hby at_112) ?_
            suffices k183 : Steps p.tables e below (s₁.setTop (mkF m 125 #[.val (.long q0), .second, .val (.int p1), .val (.int p2), .val (.long (v0_5_l4 q0)), .second, .val (.int (v0_14_l6 p1)), .val (.int (v0_21_s0 p1)), .val (.int (v0_43_l8 p1)), .val (.int (v0_51_s0 p1)), .val (.int (v0_73_l10 p1)), .val (.int (v0_81_l11 p1)), .val (.int (v0_114_l12 p2)), .unset, .unset, .unset, .unset, .unset, .unset, .unset, .unset, .unset] [])) t by
              by_cases hc114_182 : (57 : Int32) < (p2.toInt8.toInt32)
              · rw [(show (v0_114_l12 p2) = (p2.toInt8.toInt32) from if_pos hc114_182)] at k183
                show Steps p.tables e below (s₁.setTop (mkF m 114 #[.val (.long q0), .second, .val (.int p1), .val (.int p2), .val (.long (v0_5_l4 q0)), .second, .val (.int (v0_14_l6 p1)), .val (.int (v0_21_s0 p1)), .val (.int (v0_43_l8 p1)), .val (.int (v0_51_s0 p1)), .val (.int (v0_73_l10 p1)), .val (.int (v0_81_l11 p1)), .val (.int (p2.toInt8.toInt32)), .unset, .unset, .unset, .unset, .unset, .unset, .unset, .unset, .unset] [(.int (57 : Int32)), (.int (p2.toInt8.toInt32))])) _
                refine XS.icmpYes X0.here hx rfl (pc0 := 114) (pc' := 125) rfl (hb hby at_114) rfl (tlt hc114_182).2.2.1 (by decide) (by decide) ?_
                exact k183
              · rw [(show (v0_114_l12 p2) = (v0_123_l12 p2) from if_neg hc114_182)] at k183
                show Steps p.tables e below (s₁.setTop (mkF m 114 #[.val (.long q0), .second, .val (.int p1), .val (.int p2), .val (.long (v0_5_l4 q0)), .second, .val (.int (v0_14_l6 p1)), .val (.int (v0_21_s0 p1)), .val (.int (v0_43_l8 p1)), .val (.int (v0_51_s0 p1)), .val (.int (v0_73_l10 p1)), .val (.int (v0_81_l11 p1)), .val (.int (p2.toInt8.toInt32)), .unset, .unset, .unset, .unset, .unset, .unset, .unset, .unset, .unset] [(.int (57 : Int32)), (.int (p2.toInt8.toInt32))])) _
                refine XS.icmpNo X0.here hx rfl (hb hby at_114) rfl (flt hc114_182).2.2.1 ?_
                refine XS.iload X0.here hx rfl (hb hby at_117) rfl ?_
                refine XS.bipush X0.here hx rfl (hb hby at_119) ?_
                show Steps p.tables e below (s₁.setTop (mkF m 121 #[.val (.long q0), .second, .val (.int p1), .val (.int p2), .val (.long (v0_5_l4 q0)), .second, .val (.int (v0_14_l6 p1)), .val (.int (v0_21_s0 p1)), .val (.int (v0_43_l8 p1)), .val (.int (v0_51_s0 p1)), .val (.int (v0_73_l10 p1)), .val (.int (v0_81_l11 p1)), .val (.int (p2.toInt8.toInt32)), .unset, .unset, .unset, .unset, .unset, .unset, .unset, .unset, .unset] [(.int (10 : Int32)), (.int (p2.toInt8.toInt32))])) _
                refine XS.iadd X0.here hx rfl (hb hby at_121) rfl ?_
                refine XS.i2b X0.here hx rfl (hb hby at_122) rfl ?_
                refine XS.istore X0.here hx rfl (hb hby at_123) rfl (l' := #[.val (.long q0), .second, .val (.int p1), .val (.int p2), .val (.long (v0_5_l4 q0)), .second, .val (.int (v0_14_l6 p1)), .val (.int (v0_21_s0 p1)), .val (.int (v0_43_l8 p1)), .val (.int (v0_51_s0 p1)), .val (.int (v0_73_l10 p1)), .val (.int (v0_81_l11 p1)), .val (.int (v0_123_l12 p2)), .unset, .unset, .unset, .unset, .unset, .unset, .unset, .unset, .unset]) rfl ?_
                exact k183
            exact k184
        exact k185
      · rw [(show (v0_93_l12 p2) = (46 : Int32) from if_neg hc93_180)] at k185
        show Steps p.tables e below (s₁.setTop (mkF m 93 #[.val (.long q0), .second, .val (.int p1), .val (.int p2), .val (.long (v0_5_l4 q0)), .second, .val (.int (v0_14_l6 p1)), .val (.int (v0_21_s0 p1)), .val (.int (v0_43_l8 p1)), .val (.int (v0_51_s0 p1)), .val (.int (v0_73_l10 p1)), .val (.int (v0_81_l11 p1)), .val (.int (p2.toInt8.toInt32)), .unset, .unset, .unset, .unset, .unset, .unset, .unset, .unset, .unset] [(.int (((p2.toUInt32 >>> ((8 : Int32) &&& 31).toUInt32).toInt32) &&& (1 : Int32)))])) _
        refine XS.ifNo X0.here hx rfl (hb hby at_93) rfl ((if0 _ _).trans (feq hc93_180).1) ?_
        refine XS.bipush X0.here hx rfl (hb hby at_96) ?_
        refine XS.istore X0.here hx rfl (hb hby at_98) rfl (l' := #[.val (.long q0), .second, .val (.int p1), .val (.int p2), .val (.long (v0_5_l4 q0)), .second, .val (.int (v0_14_l6 p1)), .val (.int (v0_21_s0 p1)), .val (.int (v0_43_l8 p1)), .val (.int (v0_51_s0 p1)), .val (.int (v0_73_l10 p1)), .val (.int (v0_81_l11 p1)), .val (.int (46 : Int32)), .unset, .unset, .unset, .unset, .unset, .unset, .unset, .unset, .unset]) rfl ?_
        refine XS.goto X0.here hx rfl (pc0 := 100) (pc' := 125) rfl (hb hby at_100) (by decide) (by decide) ?_
        exact k185
    show Steps p.tables e below (s₁.setTop (mkF m 125 #[.val (.long q0), .second, .val (.int p1), .val (.int p2), .val (.long (v0_5_l4 q0)), .second, .val (.int (v0_14_l6 p1)), .val (.int (v0_21_s0 p1)), .val (.int (v0_43_l8 p1)), .val (.int (v0_51_s0 p1)), .val (.int (v0_73_l10 p1)), .val (.int (v0_81_l11 p1)), .val (.int (v0_93_l12 p2)), .unset, .unset, .unset, .unset, .unset, .unset, .unset, .unset, .unset] [])) _
    refine XS.bipush X0.here hx rfl (hb hby at_125) ?_
    exact kk)
  obtain ⟨T187, h187, k187, X187, e187, E187, A187, st187⟩ := newP X0 hx hZ (hw _ (List.mem_of_getElem? (i := 1) rfl)) e0 (g := (mkF m 127 #[.val (.long q0), .second, .val (.int p1), .val (.int p2), .val (.long (v0_5_l4 q0)), .second, .val (.int (v0_14_l6 p1)), .val (.int (v0_21_s0 p1)), .val (.int (v0_43_l8 p1)), .val (.int (v0_51_s0 p1)), .val (.int (v0_73_l10 p1)), .val (.int (v0_81_l11 p1)), .val (.int (v0_93_l12 p2)), .unset, .unset, .unset, .unset, .unset, .unset, .unset, .unset, .unset] [(.int (25 : Int32))])) rfl (hb hby at_127) rfl (by decide) (cap := 25) (by decide) (by decide) (by decide) (by decide)
  obtain ⟨b187, g187⟩ : ∃ z, z = h0.size := ⟨_, rfl⟩
  rw [← g187] at A187 st187
  have g_b187 : n0 ≤ b187 := Nat.le_trans (Nat.le_trans Z0 KC0.1) (Nat.le_of_eq g187.symm)
  have sz_b187 : h0.size ≤ b187 := Nat.le_trans KC0.1 (Nat.le_of_eq g187.symm)
  have K187 : Keep h0 h187 [] := KC0.ext E187
  have V187 : Arv Z h187 b187 k187 .byte (25 : Int32) (List.map Value.int ([(0 : Int32), (0 : Int32), (0 : Int32), (0 : Int32), (0 : Int32), (0 : Int32), (0 : Int32), (0 : Int32), (0 : Int32), (0 : Int32), (0 : Int32), (0 : Int32), (0 : Int32), (0 : Int32), (0 : Int32), (0 : Int32), (0 : Int32), (0 : Int32), (0 : Int32), (0 : Int32), (0 : Int32), (0 : Int32), (0 : Int32), (0 : Int32), (0 : Int32)] : List Int32)) (.int (0 : Int32)) := (Arv.new A187 (by decide)).pad (pad_rep [] (.int (0 : Int32)) 25)
  have VL187 : ([(0 : Int32), (0 : Int32), (0 : Int32), (0 : Int32), (0 : Int32), (0 : Int32), (0 : Int32), (0 : Int32), (0 : Int32), (0 : Int32), (0 : Int32), (0 : Int32), (0 : Int32), (0 : Int32), (0 : Int32), (0 : Int32), (0 : Int32), (0 : Int32), (0 : Int32), (0 : Int32), (0 : Int32), (0 : Int32), (0 : Int32), (0 : Int32), (0 : Int32)] : List Int32).length = ((25 : Int32)).toNatClampNeg := rfl
  have k188 := fun (t : State) (kk : Steps p.tables e below (T187.setTop (mkF m 129 #[.val (.long q0), .second, .val (.int p1), .val (.int p2), .val (.long (v0_5_l4 q0)), .second, .val (.int (v0_14_l6 p1)), .val (.int (v0_21_s0 p1)), .val (.int (v0_43_l8 p1)), .val (.int (v0_51_s0 p1)), .val (.int (v0_73_l10 p1)), .val (.int (v0_81_l11 p1)), .val (.int (v0_93_l12 p2)), .unset, .unset, .unset, .unset, .unset, .unset, .unset, .unset, .unset] [(.ref b187)])) t) => k186 t (st187 _ kk)
  have k189 := fun (t : State) (kk : Steps p.tables e below (T187.setTop (mkF m 148 #[.val (.long q0), .second, .val (.int p1), .val (.int p2), .val (.long (v0_5_l4 q0)), .second, .val (.int (v0_14_l6 p1)), .val (.int (v0_21_s0 p1)), .val (.int (v0_43_l8 p1)), .val (.int (v0_51_s0 p1)), .val (.int (v0_73_l10 p1)), .val (.int (v0_81_l11 p1)), .val (.int (v0_93_l12 p2)), .val (.ref b187), .unset, .unset, .unset, .unset, .unset, .unset, .unset, .unset] [(.int (v0_73_l10 p1)), (.int (v0_51_s0 p1)), (.int (v0_43_l8 p1)), (.int (v0_21_s0 p1)), (.int (v0_81_l11 p1)), (.long (v0_5_l4 q0)), (.int (v0_14_l6 p1)), (.int (0 : Int32)), (.ref b187)])) t) => k188 t (by
    refine XS.astore X187.here hx rfl (hb hby at_129) rfl rfl (l' := #[.val (.long q0), .second, .val (.int p1), .val (.int p2), .val (.long (v0_5_l4 q0)), .second, .val (.int (v0_14_l6 p1)), .val (.int (v0_21_s0 p1)), .val (.int (v0_43_l8 p1)), .val (.int (v0_51_s0 p1)), .val (.int (v0_73_l10 p1)), .val (.int (v0_81_l11 p1)), .val (.int (v0_93_l12 p2)), .val (.ref b187), .unset, .unset, .unset, .unset, .unset, .unset, .unset, .unset]) rfl ?_
    refine XS.aload X187.here hx rfl (hb hby at_131) rfl rfl ?_
    refine XS.iconst X187.here hx rfl (hb hby at_133) ?_
    refine XS.iload X187.here hx rfl (hb hby at_134) rfl ?_
    refine XS.lload X187.here hx rfl (hb hby at_136) rfl ?_
    show Steps p.tables e below (T187.setTop (mkF m 138 #[.val (.long q0), .second, .val (.int p1), .val (.int p2), .val (.long (v0_5_l4 q0)), .second, .val (.int (v0_14_l6 p1)), .val (.int (v0_21_s0 p1)), .val (.int (v0_43_l8 p1)), .val (.int (v0_51_s0 p1)), .val (.int (v0_73_l10 p1)), .val (.int (v0_81_l11 p1)), .val (.int (v0_93_l12 p2)), .val (.ref b187), .unset, .unset, .unset, .unset, .unset, .unset, .unset, .unset] [(.long (v0_5_l4 q0)), (.int (v0_14_l6 p1)), (.int (0 : Int32)), (.ref b187)])) _
    refine XS.iload X187.here hx rfl (hb hby at_138) rfl ?_
    refine XS.iload X187.here hx rfl (hb hby at_140) rfl ?_
    refine XS.iload X187.here hx rfl (hb hby at_142) rfl ?_
    refine XS.iload X187.here hx rfl (hb hby at_144) rfl ?_
    refine XS.iload X187.here hx rfl (hb hby at_146) rfl ?_
    exact kk)
  have Zz190 : n0 ≤ h187.size := (Nat.le_trans Z0 K187.1)
  obtain ⟨_, _, ⟨T190, L190, k190, n190⟩, -, X190, ⟨Lc190, hQ190, l190, y190, z190⟩, st190⟩ := Jvm.LawKit.callS X187 hx (y := (⟨"com/example/gavelbook/gavelbook/DecimalsParsePinLaw", "putDigit", "([BIIJIZIZI)V"⟩ : MethodName)) hown (mvT hZ (hw _ (List.mem_of_getElem? (i := 2) rfl))) (mvT hZ (hw _ (List.mem_of_getElem? (i := 3) rfl))) (mvT hZ (hw _ (List.mem_of_getElem? (i := 4) rfl))) (mvT hZ (hw _ (List.mem_of_getElem? (i := 5) rfl))) (by decide) (backOf (W := 0) (rm1 l Z a0 hw [] b187 (0 : Int32) (v0_14_l6 p1) (v0_5_l4 q0) (v0_81_l11 p1) (v0_21_s0 p1) (v0_43_l8 p1) (v0_51_s0 p1) (v0_73_l10 p1) k187 (25 : Int32) ([(0 : Int32), (0 : Int32), (0 : Int32), (0 : Int32), (0 : Int32), (0 : Int32), (0 : Int32), (0 : Int32), (0 : Int32), (0 : Int32), (0 : Int32), (0 : Int32), (0 : Int32), (0 : Int32), (0 : Int32), (0 : Int32), (0 : Int32), (0 : Int32), (0 : Int32), (0 : Int32), (0 : Int32), (0 : Int32), (0 : Int32), (0 : Int32), (0 : Int32)] : List Int32) h187 n0 Zz190 (own_hpos _ _ _ _ _ _ (by decide) (own_off p1) : ¬ (v1_43_l10 (0 : Int32) (v0_81_l11 p1) (v0_21_s0 p1) (v0_43_l8 p1) (v0_51_s0 p1) (v0_73_l10 p1)) < 0 ∧ (v1_43_l10 (0 : Int32) (v0_81_l11 p1) (v0_21_s0 p1) (v0_43_l8 p1) (v0_51_s0 p1) (v0_73_l10 p1)) < (25 : Int32)) (fun h => own_hexp _ _ (own_n p1) (by decide) h : (0 : Int32) < (v0_14_l6 p1) → (¬ (((v0_14_l6 p1) - (1 : Int32)) - (0 : Int32)) < 0 ∧ (((v0_14_l6 p1) - (1 : Int32)) - (0 : Int32)) < (19 : Int32))) (fun h => own_pnz _ (own_hexp _ _ (own_n p1) (by decide) h) : (0 : Int32) < (v0_14_l6 p1) → v2_132_at (((v0_14_l6 p1) - (1 : Int32)) - (0 : Int32)) ≠ 0) V187 VL187 g_b187) hZ (hw _ (List.mem_of_getElem? (i := 5) rfl)) (hw _ (List.mem_of_getElem? (i := 4) rfl)) (by decide) (by decide)) (g := (mkF m 148 #[.val (.long q0), .second, .val (.int p1), .val (.int p2), .val (.long (v0_5_l4 q0)), .second, .val (.int (v0_14_l6 p1)), .val (.int (v0_21_s0 p1)), .val (.int (v0_43_l8 p1)), .val (.int (v0_51_s0 p1)), .val (.int (v0_73_l10 p1)), .val (.int (v0_81_l11 p1)), .val (.int (v0_93_l12 p2)), .val (.ref b187), .unset, .unset, .unset, .unset, .unset, .unset, .unset, .unset] [(.int (v0_73_l10 p1)), (.int (v0_51_s0 p1)), (.int (v0_43_l8 p1)), (.int (v0_21_s0 p1)), (.int (v0_81_l11 p1)), (.long (v0_5_l4 q0)), (.int (v0_14_l6 p1)), (.int (0 : Int32)), (.ref b187)])) rfl (by rw [hml]; rfl) (argsL := [(.ref b187), (.int (0 : Int32)), (.int (v0_14_l6 p1)), (.long (v0_5_l4 q0)), (.int (v0_81_l11 p1)), (.int (v0_21_s0 p1)), (.int (v0_43_l8 p1)), (.int (v0_51_s0 p1)), (.int (v0_73_l10 p1))]) (rest := []) (lenOf pd_1 rfl) rfl (by show 2 * 0 + _ ≤ _; exact Nat.le_of_eq rfl) (hb hby at_148) (fun _ _ => ⟨rfl, e187, (by decide : 1 + 1 ≤ _), (by decide : 25 + 19 ≤ _)⟩)
  dsimp only [Pt.U, Pt.locs, Pt.cells, Pt.slots] at X190 l190 y190 z190 st190 hQ190
  subst l190 y190 z190
  obtain ⟨rfl, N190q, Kq190, Vq190_0, VLq190_0⟩ := hQ190
  have K190 : Keep h0 T190.heap [] := K187.trans Kq190 (allS (Or.inr sz_b187) all0)
  have V190n : Arv Z T190.heap b187 k187 .byte (25 : Int32) (List.map Value.int (v0_148_L0 q0 p1)) (.int (0 : Int32)) := Vq190_0
  have VL190n : (v0_148_L0 q0 p1).length = ((25 : Int32)).toNatClampNeg := VLq190_0
  have N190 := Fr.app N0 N190q
  have k191 := fun (t : State) (kk : Steps p.tables e below (T190.setTop (mkF m 151 #[.val (.long q0), .second, .val (.int p1), .val (.int p2), .val (.long (v0_5_l4 q0)), .second, .val (.int (v0_14_l6 p1)), .val (.int (v0_21_s0 p1)), .val (.int (v0_43_l8 p1)), .val (.int (v0_51_s0 p1)), .val (.int (v0_73_l10 p1)), .val (.int (v0_81_l11 p1)), .val (.int (v0_93_l12 p2)), .val (.ref b187), .unset, .unset, .unset, .unset, .unset, .unset, .unset, .unset] [])) t) => k189 t (st190 _ kk)
  have k192 := fun (t : State) (kk : Steps p.tables e below (T190.setTop (mkF m 168 #[.val (.long q0), .second, .val (.int p1), .val (.int p2), .val (.long (v0_5_l4 q0)), .second, .val (.int (v0_14_l6 p1)), .val (.int (v0_21_s0 p1)), .val (.int (v0_43_l8 p1)), .val (.int (v0_51_s0 p1)), .val (.int (v0_73_l10 p1)), .val (.int (v0_81_l11 p1)), .val (.int (v0_93_l12 p2)), .val (.ref b187), .unset, .unset, .unset, .unset, .unset, .unset, .unset, .unset] [(.int (v0_73_l10 p1)), (.int (v0_51_s0 p1)), (.int (v0_43_l8 p1)), (.int (v0_21_s0 p1)), (.int (v0_81_l11 p1)), (.long (v0_5_l4 q0)), (.int (v0_14_l6 p1)), (.int (1 : Int32)), (.ref b187)])) t) => k191 t (by
    refine XS.aload X190.here hx rfl (hb hby at_151) rfl rfl ?_
    show Steps p.tables e below (T190.setTop (mkF m 153 #[.val (.long q0), .second, .val (.int p1), .val (.int p2), .val (.long (v0_5_l4 q0)), .second, .val (.int (v0_14_l6 p1)), .val (.int (v0_21_s0 p1)), .val (.int (v0_43_l8 p1)), .val (.int (v0_51_s0 p1)), .val (.int (v0_73_l10 p1)), .val (.int (v0_81_l11 p1)), .val (.int (v0_93_l12 p2)), .val (.ref b187), .unset, .unset, .unset, .unset, .unset, .unset, .unset, .unset] [(.ref b187)])) _
    refine XS.iconst X190.here hx rfl (hb hby at_153) ?_
    refine XS.iload X190.here hx rfl (hb hby at_154) rfl ?_
    refine XS.lload X190.here hx rfl (hb hby at_156) rfl ?_
    refine XS.iload X190.here hx rfl (hb hby at_158) rfl ?_
    refine XS.iload X190.here hx rfl (hb hby at_160) rfl ?_
    refine XS.iload X190.here hx rfl (hb hby at_162) rfl ?_
    show Steps p.tables e below (T190.setTop (mkF m 164 #[.val (.long q0), .second, .val (.int p1), .val (.int p2), .val (.long (v0_5_l4 q0)), .second, .val (.int (v0_14_l6 p1)), .val (.int (v0_21_s0 p1)), .val (.int (v0_43_l8 p1)), .val (.int (v0_51_s0 p1)), .val (.int (v0_73_l10 p1)), .val (.int (v0_81_l11 p1)), .val (.int (v0_93_l12 p2)), .val (.ref b187), .unset, .unset, .unset, .unset, .unset, .unset, .unset, .unset] [(.int (v0_43_l8 p1)), (.int (v0_21_s0 p1)), (.int (v0_81_l11 p1)), (.long (v0_5_l4 q0)), (.int (v0_14_l6 p1)), (.int (1 : Int32)), (.ref b187)])) _
    refine XS.iload X190.here hx rfl (hb hby at_164) rfl ?_
    refine XS.iload X190.here hx rfl (hb hby at_166) rfl ?_
    exact kk)
  have Zz193 : n0 ≤ T190.heap.size := (Nat.le_trans Z0 K190.1)
  obtain ⟨_, _, ⟨T193, L193, k193, n193⟩, -, X193, ⟨Lc193, hQ193, l193, y193, z193⟩, st193⟩ := Jvm.LawKit.callS X190 hx (y := (⟨"com/example/gavelbook/gavelbook/DecimalsParsePinLaw", "putDigit", "([BIIJIZIZI)V"⟩ : MethodName)) hown (mvT hZ (hw _ (List.mem_of_getElem? (i := 2) rfl))) (mvT hZ (hw _ (List.mem_of_getElem? (i := 3) rfl))) (mvT hZ (hw _ (List.mem_of_getElem? (i := 4) rfl))) (mvT hZ (hw _ (List.mem_of_getElem? (i := 5) rfl))) (by decide) (backOf (W := 0) (rm1 l Z a0 hw [] b187 (1 : Int32) (v0_14_l6 p1) (v0_5_l4 q0) (v0_81_l11 p1) (v0_21_s0 p1) (v0_43_l8 p1) (v0_51_s0 p1) (v0_73_l10 p1) k187 (25 : Int32) (v0_148_L0 q0 p1) T190.heap n0 Zz193 (own_hpos _ _ _ _ _ _ (by decide) (own_off p1) : ¬ (v1_43_l10 (1 : Int32) (v0_81_l11 p1) (v0_21_s0 p1) (v0_43_l8 p1) (v0_51_s0 p1) (v0_73_l10 p1)) < 0 ∧ (v1_43_l10 (1 : Int32) (v0_81_l11 p1) (v0_21_s0 p1) (v0_43_l8 p1) (v0_51_s0 p1) (v0_73_l10 p1)) < (25 : Int32)) (fun h => own_hexp _ _ (own_n p1) (by decide) h : (1 : Int32) < (v0_14_l6 p1) → (¬ (((v0_14_l6 p1) - (1 : Int32)) - (1 : Int32)) < 0 ∧ (((v0_14_l6 p1) - (1 : Int32)) - (1 : Int32)) < (19 : Int32))) (fun h => own_pnz _ (own_hexp _ _ (own_n p1) (by decide) h) : (1 : Int32) < (v0_14_l6 p1) → v2_132_at (((v0_14_l6 p1) - (1 : Int32)) - (1 : Int32)) ≠ 0) V190n VL190n g_b187) hZ (hw _ (List.mem_of_getElem? (i := 5) rfl)) (hw _ (List.mem_of_getElem? (i := 4) rfl)) (by decide) (by decide)) (g := (mkF m 168 #[.val (.long q0), .second, .val (.int p1), .val (.int p2), .val (.long (v0_5_l4 q0)), .second, .val (.int (v0_14_l6 p1)), .val (.int (v0_21_s0 p1)), .val (.int (v0_43_l8 p1)), .val (.int (v0_51_s0 p1)), .val (.int (v0_73_l10 p1)), .val (.int (v0_81_l11 p1)), .val (.int (v0_93_l12 p2)), .val (.ref b187), .unset, .unset, .unset, .unset, .unset, .unset, .unset, .unset] [(.int (v0_73_l10 p1)), (.int (v0_51_s0 p1)), (.int (v0_43_l8 p1)), (.int (v0_21_s0 p1)), (.int (v0_81_l11 p1)), (.long (v0_5_l4 q0)), (.int (v0_14_l6 p1)), (.int (1 : Int32)), (.ref b187)])) rfl (by rw [hml]; rfl) (argsL := [(.ref b187), (.int (1 : Int32)), (.int (v0_14_l6 p1)), (.long (v0_5_l4 q0)), (.int (v0_81_l11 p1)), (.int (v0_21_s0 p1)), (.int (v0_43_l8 p1)), (.int (v0_51_s0 p1)), (.int (v0_73_l10 p1))]) (rest := []) (lenOf pd_1 rfl) rfl (by show 2 * 0 + _ ≤ _; exact Nat.le_of_eq rfl) (hb hby at_168) (fun _ _ => ⟨rfl, rfl, (by decide : 2 + 1 ≤ _), (by decide : 44 + 19 ≤ _)⟩)
  dsimp only [Pt.U, Pt.locs, Pt.cells, Pt.slots] at X193 l193 y193 z193 st193 hQ193
  subst l193 y193 z193
  obtain ⟨rfl, N193q, Kq193, Vq193_0, VLq193_0⟩ := hQ193
  have K193 : Keep h0 T193.heap [] := K190.trans Kq193 (allS (Or.inr sz_b187) all0)
  have V193n : Arv Z T193.heap b187 k187 .byte (25 : Int32) (List.map Value.int (v0_168_L0 q0 p1)) (.int (0 : Int32)) := Vq193_0
  have VL193n : (v0_168_L0 q0 p1).length = ((25 : Int32)).toNatClampNeg := VLq193_0
  have N193 := Fr.app N190 N193q
  have k194 := fun (t : State) (kk : Steps p.tables e below (T193.setTop (mkF m 171 #[.val (.long q0), .second, .val (.int p1), .val (.int p2), .val (.long (v0_5_l4 q0)), .second, .val (.int (v0_14_l6 p1)), .val (.int (v0_21_s0 p1)), .val (.int (v0_43_l8 p1)), .val (.int (v0_51_s0 p1)), .val (.int (v0_73_l10 p1)), .val (.int (v0_81_l11 p1)), .val (.int (v0_93_l12 p2)), .val (.ref b187), .unset, .unset, .unset, .unset, .unset, .unset, .unset, .unset] [])) t) => k192 t (st193 _ kk)
  have k195 := fun (t : State) (kk : Steps p.tables e below (T193.setTop (mkF m 188 #[.val (.long q0), .second, .val (.int p1), .val (.int p2), .val (.long (v0_5_l4 q0)), .second, .val (.int (v0_14_l6 p1)), .val (.int (v0_21_s0 p1)), .val (.int (v0_43_l8 p1)), .val (.int (v0_51_s0 p1)), .val (.int (v0_73_l10 p1)), .val (.int (v0_81_l11 p1)), .val (.int (v0_93_l12 p2)), .val (.ref b187), .unset, .unset, .unset, .unset, .unset, .unset, .unset, .unset] [(.int (v0_73_l10 p1)), (.int (v0_51_s0 p1)), (.int (v0_43_l8 p1)), (.int (v0_21_s0 p1)), (.int (v0_81_l11 p1)), (.long (v0_5_l4 q0)), (.int (v0_14_l6 p1)), (.int (2 : Int32)), (.ref b187)])) t) => k194 t (by
    refine XS.aload X193.here hx rfl (hb hby at_171) rfl rfl ?_
    refine XS.iconst X193.here hx rfl (hb hby at_173) ?_
    refine XS.iload X193.here hx rfl (hb hby at_174) rfl ?_
    refine XS.lload X193.here hx rfl (hb hby at_176) rfl ?_
    show Steps p.tables e below (T193.setTop (mkF m 178 #[.val (.long q0), .second, .val (.int p1), .val (.int p2), .val (.long (v0_5_l4 q0)), .second, .val (.int (v0_14_l6 p1)), .val (.int (v0_21_s0 p1)), .val (.int (v0_43_l8 p1)), .val (.int (v0_51_s0 p1)), .val (.int (v0_73_l10 p1)), .val (.int (v0_81_l11 p1)), .val (.int (v0_93_l12 p2)), .val (.ref b187), .unset, .unset, .unset, .unset, .unset, .unset, .unset, .unset] [(.long (v0_5_l4 q0)), (.int (v0_14_l6 p1)), (.int (2 : Int32)), (.ref b187)])) _
    refine XS.iload X193.here hx rfl (hb hby at_178) rfl ?_
    refine XS.iload X193.here hx rfl (hb hby at_180) rfl ?_
    refine XS.iload X193.here hx rfl (hb hby at_182) rfl ?_
    refine XS.iload X193.here hx rfl (hb hby at_184) rfl ?_
    refine XS.iload X193.here hx rfl (hb hby at_186) rfl ?_
    exact kk)
  have Zz196 : n0 ≤ T193.heap.size := (Nat.le_trans Z0 K193.1)
  obtain ⟨_, _, ⟨T196, L196, k196, n196⟩, -, X196, ⟨Lc196, hQ196, l196, y196, z196⟩, st196⟩ := Jvm.LawKit.callS X193 hx (y := (⟨"com/example/gavelbook/gavelbook/DecimalsParsePinLaw", "putDigit", "([BIIJIZIZI)V"⟩ : MethodName)) hown (mvT hZ (hw _ (List.mem_of_getElem? (i := 2) rfl))) (mvT hZ (hw _ (List.mem_of_getElem? (i := 3) rfl))) (mvT hZ (hw _ (List.mem_of_getElem? (i := 4) rfl))) (mvT hZ (hw _ (List.mem_of_getElem? (i := 5) rfl))) (by decide) (backOf (W := 0) (rm1 l Z a0 hw [] b187 (2 : Int32) (v0_14_l6 p1) (v0_5_l4 q0) (v0_81_l11 p1) (v0_21_s0 p1) (v0_43_l8 p1) (v0_51_s0 p1) (v0_73_l10 p1) k187 (25 : Int32) (v0_168_L0 q0 p1) T193.heap n0 Zz196 (own_hpos _ _ _ _ _ _ (by decide) (own_off p1) : ¬ (v1_43_l10 (2 : Int32) (v0_81_l11 p1) (v0_21_s0 p1) (v0_43_l8 p1) (v0_51_s0 p1) (v0_73_l10 p1)) < 0 ∧ (v1_43_l10 (2 : Int32) (v0_81_l11 p1) (v0_21_s0 p1) (v0_43_l8 p1) (v0_51_s0 p1) (v0_73_l10 p1)) < (25 : Int32)) (fun h => own_hexp _ _ (own_n p1) (by decide) h : (2 : Int32) < (v0_14_l6 p1) → (¬ (((v0_14_l6 p1) - (1 : Int32)) - (2 : Int32)) < 0 ∧ (((v0_14_l6 p1) - (1 : Int32)) - (2 : Int32)) < (19 : Int32))) (fun h => own_pnz _ (own_hexp _ _ (own_n p1) (by decide) h) : (2 : Int32) < (v0_14_l6 p1) → v2_132_at (((v0_14_l6 p1) - (1 : Int32)) - (2 : Int32)) ≠ 0) V193n VL193n g_b187) hZ (hw _ (List.mem_of_getElem? (i := 5) rfl)) (hw _ (List.mem_of_getElem? (i := 4) rfl)) (by decide) (by decide)) (g := (mkF m 188 #[.val (.long q0), .second, .val (.int p1), .val (.int p2), .val (.long (v0_5_l4 q0)), .second, .val (.int (v0_14_l6 p1)), .val (.int (v0_21_s0 p1)), .val (.int (v0_43_l8 p1)), .val (.int (v0_51_s0 p1)), .val (.int (v0_73_l10 p1)), .val (.int (v0_81_l11 p1)), .val (.int (v0_93_l12 p2)), .val (.ref b187), .unset, .unset, .unset, .unset, .unset, .unset, .unset, .unset] [(.int (v0_73_l10 p1)), (.int (v0_51_s0 p1)), (.int (v0_43_l8 p1)), (.int (v0_21_s0 p1)), (.int (v0_81_l11 p1)), (.long (v0_5_l4 q0)), (.int (v0_14_l6 p1)), (.int (2 : Int32)), (.ref b187)])) rfl (by rw [hml]; rfl) (argsL := [(.ref b187), (.int (2 : Int32)), (.int (v0_14_l6 p1)), (.long (v0_5_l4 q0)), (.int (v0_81_l11 p1)), (.int (v0_21_s0 p1)), (.int (v0_43_l8 p1)), (.int (v0_51_s0 p1)), (.int (v0_73_l10 p1))]) (rest := []) (lenOf pd_1 rfl) rfl (by show 2 * 0 + _ ≤ _; exact Nat.le_of_eq rfl) (hb hby at_188) (fun _ _ => ⟨rfl, rfl, (by decide : 3 + 1 ≤ _), (by decide : 63 + 19 ≤ _)⟩)
  dsimp only [Pt.U, Pt.locs, Pt.cells, Pt.slots] at X196 l196 y196 z196 st196 hQ196
  subst l196 y196 z196
  obtain ⟨rfl, N196q, Kq196, Vq196_0, VLq196_0⟩ := hQ196
  have K196 : Keep h0 T196.heap [] := K193.trans Kq196 (allS (Or.inr sz_b187) all0)
  have V196n : Arv Z T196.heap b187 k187 .byte (25 : Int32) (List.map Value.int (v0_188_L0 q0 p1)) (.int (0 : Int32)) := Vq196_0
  have VL196n : (v0_188_L0 q0 p1).length = ((25 : Int32)).toNatClampNeg := VLq196_0
  have N196 := Fr.app N193 N196q
  have k197 := fun (t : State) (kk : Steps p.tables e below (T196.setTop (mkF m 191 #[.val (.long q0), .second, .val (.int p1), .val (.int p2), .val (.long (v0_5_l4 q0)), .second, .val (.int (v0_14_l6 p1)), .val (.int (v0_21_s0 p1)), .val (.int (v0_43_l8 p1)), .val (.int (v0_51_s0 p1)), .val (.int (v0_73_l10 p1)), .val (.int (v0_81_l11 p1)), .val (.int (v0_93_l12 p2)), .val (.ref b187), .unset, .unset, .unset, .unset, .unset, .unset, .unset, .unset] [])) t) => k195 t (st196 _ kk)
  have k198 := fun (t : State) (kk : Steps p.tables e below (T196.setTop (mkF m 208 #[.val (.long q0), .second, .val (.int p1), .val (.int p2), .val (.long (v0_5_l4 q0)), .second, .val (.int (v0_14_l6 p1)), .val (.int (v0_21_s0 p1)), .val (.int (v0_43_l8 p1)), .val (.int (v0_51_s0 p1)), .val (.int (v0_73_l10 p1)), .val (.int (v0_81_l11 p1)), .val (.int (v0_93_l12 p2)), .val (.ref b187), .unset, .unset, .unset, .unset, .unset, .unset, .unset, .unset] [(.int (v0_73_l10 p1)), (.int (v0_51_s0 p1)), (.int (v0_43_l8 p1)), (.int (v0_21_s0 p1)), (.int (v0_81_l11 p1)), (.long (v0_5_l4 q0)), (.int (v0_14_l6 p1)), (.int (3 : Int32)), (.ref b187)])) t) => k197 t (by
    refine XS.aload X196.here hx rfl (hb hby at_191) rfl rfl ?_
    show Steps p.tables e below (T196.setTop (mkF m 193 #[.val (.long q0), .second, .val (.int p1), .val (.int p2), .val (.long (v0_5_l4 q0)), .second, .val (.int (v0_14_l6 p1)), .val (.int (v0_21_s0 p1)), .val (.int (v0_43_l8 p1)), .val (.int (v0_51_s0 p1)), .val (.int (v0_73_l10 p1)), .val (.int (v0_81_l11 p1)), .val (.int (v0_93_l12 p2)), .val (.ref b187), .unset, .unset, .unset, .unset, .unset, .unset, .unset, .unset] [(.ref b187)])) _
    refine XS.iconst X196.here hx rfl (hb hby at_193) ?_
    refine XS.iload X196.here hx rfl (hb hby at_194) rfl ?_
    refine XS.lload X196.here hx rfl (hb hby at_196) rfl ?_
    refine XS.iload X196.here hx rfl (hb hby at_198) rfl ?_
    refine XS.iload X196.here hx rfl (hb hby at_200) rfl ?_
    refine XS.iload X196.here hx rfl (hb hby at_202) rfl ?_
    show Steps p.tables e below (T196.setTop (mkF m 204 #[.val (.long q0), .second, .val (.int p1), .val (.int p2), .val (.long (v0_5_l4 q0)), .second, .val (.int (v0_14_l6 p1)), .val (.int (v0_21_s0 p1)), .val (.int (v0_43_l8 p1)), .val (.int (v0_51_s0 p1)), .val (.int (v0_73_l10 p1)), .val (.int (v0_81_l11 p1)), .val (.int (v0_93_l12 p2)), .val (.ref b187), .unset, .unset, .unset, .unset, .unset, .unset, .unset, .unset] [(.int (v0_43_l8 p1)), (.int (v0_21_s0 p1)), (.int (v0_81_l11 p1)), (.long (v0_5_l4 q0)), (.int (v0_14_l6 p1)), (.int (3 : Int32)), (.ref b187)])) _
    refine XS.iload X196.here hx rfl (hb hby at_204) rfl ?_
    refine XS.iload X196.here hx rfl (hb hby at_206) rfl ?_
    exact kk)
  have Zz199 : n0 ≤ T196.heap.size := (Nat.le_trans Z0 K196.1)
  obtain ⟨_, _, ⟨T199, L199, k199, n199⟩, -, X199, ⟨Lc199, hQ199, l199, y199, z199⟩, st199⟩ := Jvm.LawKit.callS X196 hx (y := (⟨"com/example/gavelbook/gavelbook/DecimalsParsePinLaw", "putDigit", "([BIIJIZIZI)V"⟩ : MethodName)) hown (mvT hZ (hw _ (List.mem_of_getElem? (i := 2) rfl))) (mvT hZ (hw _ (List.mem_of_getElem? (i := 3) rfl))) (mvT hZ (hw _ (List.mem_of_getElem? (i := 4) rfl))) (mvT hZ (hw _ (List.mem_of_getElem? (i := 5) rfl))) (by decide) (backOf (W := 0) (rm1 l Z a0 hw [] b187 (3 : Int32) (v0_14_l6 p1) (v0_5_l4 q0) (v0_81_l11 p1) (v0_21_s0 p1) (v0_43_l8 p1) (v0_51_s0 p1) (v0_73_l10 p1) k187 (25 : Int32) (v0_188_L0 q0 p1) T196.heap n0 Zz199 (own_hpos _ _ _ _ _ _ (by decide) (own_off p1) : ¬ (v1_43_l10 (3 : Int32) (v0_81_l11 p1) (v0_21_s0 p1) (v0_43_l8 p1) (v0_51_s0 p1) (v0_73_l10 p1)) < 0 ∧ (v1_43_l10 (3 : Int32) (v0_81_l11 p1) (v0_21_s0 p1) (v0_43_l8 p1) (v0_51_s0 p1) (v0_73_l10 p1)) < (25 : Int32)) (fun h => own_hexp _ _ (own_n p1) (by decide) h : (3 : Int32) < (v0_14_l6 p1) → (¬ (((v0_14_l6 p1) - (1 : Int32)) - (3 : Int32)) < 0 ∧ (((v0_14_l6 p1) - (1 : Int32)) - (3 : Int32)) < (19 : Int32))) (fun h => own_pnz _ (own_hexp _ _ (own_n p1) (by decide) h) : (3 : Int32) < (v0_14_l6 p1) → v2_132_at (((v0_14_l6 p1) - (1 : Int32)) - (3 : Int32)) ≠ 0) V196n VL196n g_b187) hZ (hw _ (List.mem_of_getElem? (i := 5) rfl)) (hw _ (List.mem_of_getElem? (i := 4) rfl)) (by decide) (by decide)) (g := (mkF m 208 #[.val (.long q0), .second, .val (.int p1), .val (.int p2), .val (.long (v0_5_l4 q0)), .second, .val (.int (v0_14_l6 p1)), .val (.int (v0_21_s0 p1)), .val (.int (v0_43_l8 p1)), .val (.int (v0_51_s0 p1)), .val (.int (v0_73_l10 p1)), .val (.int (v0_81_l11 p1)), .val (.int (v0_93_l12 p2)), .val (.ref b187), .unset, .unset, .unset, .unset, .unset, .unset, .unset, .unset] [(.int (v0_73_l10 p1)), (.int (v0_51_s0 p1)), (.int (v0_43_l8 p1)), (.int (v0_21_s0 p1)), (.int (v0_81_l11 p1)), (.long (v0_5_l4 q0)), (.int (v0_14_l6 p1)), (.int (3 : Int32)), (.ref b187)])) rfl (by rw [hml]; rfl) (argsL := [(.ref b187), (.int (3 : Int32)), (.int (v0_14_l6 p1)), (.long (v0_5_l4 q0)), (.int (v0_81_l11 p1)), (.int (v0_21_s0 p1)), (.int (v0_43_l8 p1)), (.int (v0_51_s0 p1)), (.int (v0_73_l10 p1))]) (rest := []) (lenOf pd_1 rfl) rfl (by show 2 * 0 + _ ≤ _; exact Nat.le_of_eq rfl) (hb hby at_208) (fun _ _ => ⟨rfl, rfl, (by decide : 4 + 1 ≤ _), (by decide : 82 + 19 ≤ _)⟩)
  dsimp only [Pt.U, Pt.locs, Pt.cells, Pt.slots] at X199 l199 y199 z199 st199 hQ199
  subst l199 y199 z199
  obtain ⟨rfl, N199q, Kq199, Vq199_0, VLq199_0⟩ := hQ199
  have K199 : Keep h0 T199.heap [] := K196.trans Kq199 (allS (Or.inr sz_b187) all0)
  have V199n : Arv Z T199.heap b187 k187 .byte (25 : Int32) (List.map Value.int (v0_208_L0 q0 p1)) (.int (0 : Int32)) := Vq199_0
  have VL199n : (v0_208_L0 q0 p1).length = ((25 : Int32)).toNatClampNeg := VLq199_0
  have N199 := Fr.app N196 N199q
  have k200 := fun (t : State) (kk : Steps p.tables e below (T199.setTop (mkF m 211 #[.val (.long q0), .second, .val (.int p1), .val (.int p2), .val (.long (v0_5_l4 q0)), .second, .val (.int (v0_14_l6 p1)), .val (.int (v0_21_s0 p1)), .val (.int (v0_43_l8 p1)), .val (.int (v0_51_s0 p1)), .val (.int (v0_73_l10 p1)), .val (.int (v0_81_l11 p1)), .val (.int (v0_93_l12 p2)), .val (.ref b187), .unset, .unset, .unset, .unset, .unset, .unset, .unset, .unset] [])) t) => k198 t (st199 _ kk)
  have k201 := fun (t : State) (kk : Steps p.tables e below (T199.setTop (mkF m 228 #[.val (.long q0), .second, .val (.int p1), .val (.int p2), .val (.long (v0_5_l4 q0)), .second, .val (.int (v0_14_l6 p1)), .val (.int (v0_21_s0 p1)), .val (.int (v0_43_l8 p1)), .val (.int (v0_51_s0 p1)), .val (.int (v0_73_l10 p1)), .val (.int (v0_81_l11 p1)), .val (.int (v0_93_l12 p2)), .val (.ref b187), .unset, .unset, .unset, .unset, .unset, .unset, .unset, .unset] [(.int (v0_73_l10 p1)), (.int (v0_51_s0 p1)), (.int (v0_43_l8 p1)), (.int (v0_21_s0 p1)), (.int (v0_81_l11 p1)), (.long (v0_5_l4 q0)), (.int (v0_14_l6 p1)), (.int (4 : Int32)), (.ref b187)])) t) => k200 t (by
    refine XS.aload X199.here hx rfl (hb hby at_211) rfl rfl ?_
    refine XS.iconst X199.here hx rfl (hb hby at_213) ?_
    refine XS.iload X199.here hx rfl (hb hby at_214) rfl ?_
    refine XS.lload X199.here hx rfl (hb hby at_216) rfl ?_
    show Steps p.tables e below (T199.setTop (mkF m 218 #[.val (.long q0), .second, .val (.int p1), .val (.int p2), .val (.long (v0_5_l4 q0)), .second, .val (.int (v0_14_l6 p1)), .val (.int (v0_21_s0 p1)), .val (.int (v0_43_l8 p1)), .val (.int (v0_51_s0 p1)), .val (.int (v0_73_l10 p1)), .val (.int (v0_81_l11 p1)), .val (.int (v0_93_l12 p2)), .val (.ref b187), .unset, .unset, .unset, .unset, .unset, .unset, .unset, .unset] [(.long (v0_5_l4 q0)), (.int (v0_14_l6 p1)), (.int (4 : Int32)), (.ref b187)])) _
    refine XS.iload X199.here hx rfl (hb hby at_218) rfl ?_
    refine XS.iload X199.here hx rfl (hb hby at_220) rfl ?_
    refine XS.iload X199.here hx rfl (hb hby at_222) rfl ?_
    refine XS.iload X199.here hx rfl (hb hby at_224) rfl ?_
    refine XS.iload X199.here hx rfl (hb hby at_226) rfl ?_
    exact kk)
  have Zz202 : n0 ≤ T199.heap.size := (Nat.le_trans Z0 K199.1)
  obtain ⟨_, _, ⟨T202, L202, k202, n202⟩, -, X202, ⟨Lc202, hQ202, l202, y202, z202⟩, st202⟩ := Jvm.LawKit.callS X199 hx (y := (⟨"com/example/gavelbook/gavelbook/DecimalsParsePinLaw", "putDigit", "([BIIJIZIZI)V"⟩ : MethodName)) hown (mvT hZ (hw _ (List.mem_of_getElem? (i := 2) rfl))) (mvT hZ (hw _ (List.mem_of_getElem? (i := 3) rfl))) (mvT hZ (hw _ (List.mem_of_getElem? (i := 4) rfl))) (mvT hZ (hw _ (List.mem_of_getElem? (i := 5) rfl))) (by decide) (backOf (W := 0) (rm1 l Z a0 hw [] b187 (4 : Int32) (v0_14_l6 p1) (v0_5_l4 q0) (v0_81_l11 p1) (v0_21_s0 p1) (v0_43_l8 p1) (v0_51_s0 p1) (v0_73_l10 p1) k187 (25 : Int32) (v0_208_L0 q0 p1) T199.heap n0 Zz202 (own_hpos _ _ _ _ _ _ (by decide) (own_off p1) : ¬ (v1_43_l10 (4 : Int32) (v0_81_l11 p1) (v0_21_s0 p1) (v0_43_l8 p1) (v0_51_s0 p1) (v0_73_l10 p1)) < 0 ∧ (v1_43_l10 (4 : Int32) (v0_81_l11 p1) (v0_21_s0 p1) (v0_43_l8 p1) (v0_51_s0 p1) (v0_73_l10 p1)) < (25 : Int32)) (fun h => own_hexp _ _ (own_n p1) (by decide) h : (4 : Int32) < (v0_14_l6 p1) → (¬ (((v0_14_l6 p1) - (1 : Int32)) - (4 : Int32)) < 0 ∧ (((v0_14_l6 p1) - (1 : Int32)) - (4 : Int32)) < (19 : Int32))) (fun h => own_pnz _ (own_hexp _ _ (own_n p1) (by decide) h) : (4 : Int32) < (v0_14_l6 p1) → v2_132_at (((v0_14_l6 p1) - (1 : Int32)) - (4 : Int32)) ≠ 0) V199n VL199n g_b187) hZ (hw _ (List.mem_of_getElem? (i := 5) rfl)) (hw _ (List.mem_of_getElem? (i := 4) rfl)) (by decide) (by decide)) (g := (mkF m 228 #[.val (.long q0), .second, .val (.int p1), .val (.int p2), .val (.long (v0_5_l4 q0)), .second, .val (.int (v0_14_l6 p1)), .val (.int (v0_21_s0 p1)), .val (.int (v0_43_l8 p1)), .val (.int (v0_51_s0 p1)), .val (.int (v0_73_l10 p1)), .val (.int (v0_81_l11 p1)), .val (.int (v0_93_l12 p2)), .val (.ref b187), .unset, .unset, .unset, .unset, .unset, .unset, .unset, .unset] [(.int (v0_73_l10 p1)), (.int (v0_51_s0 p1)), (.int (v0_43_l8 p1)), (.int (v0_21_s0 p1)), (.int (v0_81_l11 p1)), (.long (v0_5_l4 q0)), (.int (v0_14_l6 p1)), (.int (4 : Int32)), (.ref b187)])) rfl (by rw [hml]; rfl) (argsL := [(.ref b187), (.int (4 : Int32)), (.int (v0_14_l6 p1)), (.long (v0_5_l4 q0)), (.int (v0_81_l11 p1)), (.int (v0_21_s0 p1)), (.int (v0_43_l8 p1)), (.int (v0_51_s0 p1)), (.int (v0_73_l10 p1))]) (rest := []) (lenOf pd_1 rfl) rfl (by show 2 * 0 + _ ≤ _; exact Nat.le_of_eq rfl) (hb hby at_228) (fun _ _ => ⟨rfl, rfl, (by decide : 5 + 1 ≤ _), (by decide : 101 + 19 ≤ _)⟩)
  dsimp only [Pt.U, Pt.locs, Pt.cells, Pt.slots] at X202 l202 y202 z202 st202 hQ202
  subst l202 y202 z202
  obtain ⟨rfl, N202q, Kq202, Vq202_0, VLq202_0⟩ := hQ202
  have K202 : Keep h0 T202.heap [] := K199.trans Kq202 (allS (Or.inr sz_b187) all0)
  have V202n : Arv Z T202.heap b187 k187 .byte (25 : Int32) (List.map Value.int (v0_228_L0 q0 p1)) (.int (0 : Int32)) := Vq202_0
  have VL202n : (v0_228_L0 q0 p1).length = ((25 : Int32)).toNatClampNeg := VLq202_0
  have N202 := Fr.app N199 N202q
  have k203 := fun (t : State) (kk : Steps p.tables e below (T202.setTop (mkF m 231 #[.val (.long q0), .second, .val (.int p1), .val (.int p2), .val (.long (v0_5_l4 q0)), .second, .val (.int (v0_14_l6 p1)), .val (.int (v0_21_s0 p1)), .val (.int (v0_43_l8 p1)), .val (.int (v0_51_s0 p1)), .val (.int (v0_73_l10 p1)), .val (.int (v0_81_l11 p1)), .val (.int (v0_93_l12 p2)), .val (.ref b187), .unset, .unset, .unset, .unset, .unset, .unset, .unset, .unset] [])) t) => k201 t (st202 _ kk)
  have k204 := fun (t : State) (kk : Steps p.tables e below (T202.setTop (mkF m 248 #[.val (.long q0), .second, .val (.int p1), .val (.int p2), .val (.long (v0_5_l4 q0)), .second, .val (.int (v0_14_l6 p1)), .val (.int (v0_21_s0 p1)), .val (.int (v0_43_l8 p1)), .val (.int (v0_51_s0 p1)), .val (.int (v0_73_l10 p1)), .val (.int (v0_81_l11 p1)), .val (.int (v0_93_l12 p2)), .val (.ref b187), .unset, .unset, .unset, .unset, .unset, .unset, .unset, .unset] [(.int (v0_73_l10 p1)), (.int (v0_51_s0 p1)), (.int (v0_43_l8 p1)), (.int (v0_21_s0 p1)), (.int (v0_81_l11 p1)), (.long (v0_5_l4 q0)), (.int (v0_14_l6 p1)), (.int (5 : Int32)), (.ref b187)])) t) => k203 t (by
    refine XS.aload X202.here hx rfl (hb hby at_231) rfl rfl ?_
    show Steps p.tables e below (T202.setTop (mkF m 233 #[.val (.long q0), .second, .val (.int p1), .val (.int p2), .val (.long (v0_5_l4 q0)), .second, .val (.int (v0_14_l6 p1)), .val (.int (v0_21_s0 p1)), .val (.int (v0_43_l8 p1)), .val (.int (v0_51_s0 p1)), .val (.int (v0_73_l10 p1)), .val (.int (v0_81_l11 p1)), .val (.int (v0_93_l12 p2)), .val (.ref b187), .unset, .unset, .unset, .unset, .unset, .unset, .unset, .unset] [(.ref b187)])) _
    refine XS.iconst X202.here hx rfl (hb hby at_233) ?_
    refine XS.iload X202.here hx rfl (hb hby at_234) rfl ?_
    refine XS.lload X202.here hx rfl (hb hby at_236) rfl ?_
    refine XS.iload X202.here hx rfl (hb hby at_238) rfl ?_
    refine XS.iload X202.here hx rfl (hb hby at_240) rfl ?_
    refine XS.iload X202.here hx rfl (hb hby at_242) rfl ?_
    show Steps p.tables e below (T202.setTop (mkF m 244 #[.val (.long q0), .second, .val (.int p1), .val (.int p2), .val (.long (v0_5_l4 q0)), .second, .val (.int (v0_14_l6 p1)), .val (.int (v0_21_s0 p1)), .val (.int (v0_43_l8 p1)), .val (.int (v0_51_s0 p1)), .val (.int (v0_73_l10 p1)), .val (.int (v0_81_l11 p1)), .val (.int (v0_93_l12 p2)), .val (.ref b187), .unset, .unset, .unset, .unset, .unset, .unset, .unset, .unset] [(.int (v0_43_l8 p1)), (.int (v0_21_s0 p1)), (.int (v0_81_l11 p1)), (.long (v0_5_l4 q0)), (.int (v0_14_l6 p1)), (.int (5 : Int32)), (.ref b187)])) _
    refine XS.iload X202.here hx rfl (hb hby at_244) rfl ?_
    refine XS.iload X202.here hx rfl (hb hby at_246) rfl ?_
    exact kk)
  have Zz205 : n0 ≤ T202.heap.size := (Nat.le_trans Z0 K202.1)
  obtain ⟨_, _, ⟨T205, L205, k205, n205⟩, -, X205, ⟨Lc205, hQ205, l205, y205, z205⟩, st205⟩ := Jvm.LawKit.callS X202 hx (y := (⟨"com/example/gavelbook/gavelbook/DecimalsParsePinLaw", "putDigit", "([BIIJIZIZI)V"⟩ : MethodName)) hown (mvT hZ (hw _ (List.mem_of_getElem? (i := 2) rfl))) (mvT hZ (hw _ (List.mem_of_getElem? (i := 3) rfl))) (mvT hZ (hw _ (List.mem_of_getElem? (i := 4) rfl))) (mvT hZ (hw _ (List.mem_of_getElem? (i := 5) rfl))) (by decide) (backOf (W := 0) (rm1 l Z a0 hw [] b187 (5 : Int32) (v0_14_l6 p1) (v0_5_l4 q0) (v0_81_l11 p1) (v0_21_s0 p1) (v0_43_l8 p1) (v0_51_s0 p1) (v0_73_l10 p1) k187 (25 : Int32) (v0_228_L0 q0 p1) T202.heap n0 Zz205 (own_hpos _ _ _ _ _ _ (by decide) (own_off p1) : ¬ (v1_43_l10 (5 : Int32) (v0_81_l11 p1) (v0_21_s0 p1) (v0_43_l8 p1) (v0_51_s0 p1) (v0_73_l10 p1)) < 0 ∧ (v1_43_l10 (5 : Int32) (v0_81_l11 p1) (v0_21_s0 p1) (v0_43_l8 p1) (v0_51_s0 p1) (v0_73_l10 p1)) < (25 : Int32)) (fun h => own_hexp _ _ (own_n p1) (by decide) h : (5 : Int32) < (v0_14_l6 p1) → (¬ (((v0_14_l6 p1) - (1 : Int32)) - (5 : Int32)) < 0 ∧ (((v0_14_l6 p1) - (1 : Int32)) - (5 : Int32)) < (19 : Int32))) (fun h => own_pnz _ (own_hexp _ _ (own_n p1) (by decide) h) : (5 : Int32) < (v0_14_l6 p1) → v2_132_at (((v0_14_l6 p1) - (1 : Int32)) - (5 : Int32)) ≠ 0) V202n VL202n g_b187) hZ (hw _ (List.mem_of_getElem? (i := 5) rfl)) (hw _ (List.mem_of_getElem? (i := 4) rfl)) (by decide) (by decide)) (g := (mkF m 248 #[.val (.long q0), .second, .val (.int p1), .val (.int p2), .val (.long (v0_5_l4 q0)), .second, .val (.int (v0_14_l6 p1)), .val (.int (v0_21_s0 p1)), .val (.int (v0_43_l8 p1)), .val (.int (v0_51_s0 p1)), .val (.int (v0_73_l10 p1)), .val (.int (v0_81_l11 p1)), .val (.int (v0_93_l12 p2)), .val (.ref b187), .unset, .unset, .unset, .unset, .unset, .unset, .unset, .unset] [(.int (v0_73_l10 p1)), (.int (v0_51_s0 p1)), (.int (v0_43_l8 p1)), (.int (v0_21_s0 p1)), (.int (v0_81_l11 p1)), (.long (v0_5_l4 q0)), (.int (v0_14_l6 p1)), (.int (5 : Int32)), (.ref b187)])) rfl (by rw [hml]; rfl) (argsL := [(.ref b187), (.int (5 : Int32)), (.int (v0_14_l6 p1)), (.long (v0_5_l4 q0)), (.int (v0_81_l11 p1)), (.int (v0_21_s0 p1)), (.int (v0_43_l8 p1)), (.int (v0_51_s0 p1)), (.int (v0_73_l10 p1))]) (rest := []) (lenOf pd_1 rfl) rfl (by show 2 * 0 + _ ≤ _; exact Nat.le_of_eq rfl) (hb hby at_248) (fun _ _ => ⟨rfl, rfl, (by decide : 6 + 1 ≤ _), (by decide : 120 + 19 ≤ _)⟩)
  dsimp only [Pt.U, Pt.locs, Pt.cells, Pt.slots] at X205 l205 y205 z205 st205 hQ205
  subst l205 y205 z205
  obtain ⟨rfl, N205q, Kq205, Vq205_0, VLq205_0⟩ := hQ205
  have K205 : Keep h0 T205.heap [] := K202.trans Kq205 (allS (Or.inr sz_b187) all0)
  have V205n : Arv Z T205.heap b187 k187 .byte (25 : Int32) (List.map Value.int (v0_248_L0 q0 p1)) (.int (0 : Int32)) := Vq205_0
  have VL205n : (v0_248_L0 q0 p1).length = ((25 : Int32)).toNatClampNeg := VLq205_0
  have N205 := Fr.app N202 N205q
  have k206 := fun (t : State) (kk : Steps p.tables e below (T205.setTop (mkF m 251 #[.val (.long q0), .second, .val (.int p1), .val (.int p2), .val (.long (v0_5_l4 q0)), .second, .val (.int (v0_14_l6 p1)), .val (.int (v0_21_s0 p1)), .val (.int (v0_43_l8 p1)), .val (.int (v0_51_s0 p1)), .val (.int (v0_73_l10 p1)), .val (.int (v0_81_l11 p1)), .val (.int (v0_93_l12 p2)), .val (.ref b187), .unset, .unset, .unset, .unset, .unset, .unset, .unset, .unset] [])) t) => k204 t (st205 _ kk)
  have k207 := fun (t : State) (kk : Steps p.tables e below (T205.setTop (mkF m 269 #[.val (.long q0), .second, .val (.int p1), .val (.int p2), .val (.long (v0_5_l4 q0)), .second, .val (.int (v0_14_l6 p1)), .val (.int (v0_21_s0 p1)), .val (.int (v0_43_l8 p1)), .val (.int (v0_51_s0 p1)), .val (.int (v0_73_l10 p1)), .val (.int (v0_81_l11 p1)), .val (.int (v0_93_l12 p2)), .val (.ref b187), .unset, .unset, .unset, .unset, .unset, .unset, .unset, .unset] [(.int (v0_73_l10 p1)), (.int (v0_51_s0 p1)), (.int (v0_43_l8 p1)), (.int (v0_21_s0 p1)), (.int (v0_81_l11 p1)), (.long (v0_5_l4 q0)), (.int (v0_14_l6 p1)), (.int (6 : Int32)), (.ref b187)])) t) => k206 t (by
    refine XS.aload X205.here hx rfl (hb hby at_251) rfl rfl ?_
    refine XS.bipush X205.here hx rfl (hb hby at_253) ?_
    refine XS.iload X205.here hx rfl (hb hby at_255) rfl ?_
    refine XS.lload X205.here hx rfl (hb hby at_257) rfl ?_
    show Steps p.tables e below (T205.setTop (mkF m 259 #[.val (.long q0), .second, .val (.int p1), .val (.int p2), .val (.long (v0_5_l4 q0)), .second, .val (.int (v0_14_l6 p1)), .val (.int (v0_21_s0 p1)), .val (.int (v0_43_l8 p1)), .val (.int (v0_51_s0 p1)), .val (.int (v0_73_l10 p1)), .val (.int (v0_81_l11 p1)), .val (.int (v0_93_l12 p2)), .val (.ref b187), .unset, .unset, .unset, .unset, .unset, .unset, .unset, .unset] [(.long (v0_5_l4 q0)), (.int (v0_14_l6 p1)), (.int (6 : Int32)), (.ref b187)])) _
    refine XS.iload X205.here hx rfl (hb hby at_259) rfl ?_
    refine XS.iload X205.here hx rfl (hb hby at_261) rfl ?_
    refine XS.iload X205.here hx rfl (hb hby at_263) rfl ?_
    refine XS.iload X205.here hx rfl (hb hby at_265) rfl ?_
    refine XS.iload X205.here hx rfl (hb hby at_267) rfl ?_
    exact kk)
  have Zz208 : n0 ≤ T205.heap.size := (Nat.le_trans Z0 K205.1)
  obtain ⟨_, _, ⟨T208, L208, k208, n208⟩, -, X208, ⟨Lc208, hQ208, l208, y208, z208⟩, st208⟩ := Jvm.LawKit.callS X205 hx (y := (⟨"com/example/gavelbook/gavelbook/DecimalsParsePinLaw", "putDigit", "([BIIJIZIZI)V"⟩ : MethodName)) hown (mvT hZ (hw _ (List.mem_of_getElem? (i := 2) rfl))) (mvT hZ (hw _ (List.mem_of_getElem? (i := 3) rfl))) (mvT hZ (hw _ (List.mem_of_getElem? (i := 4) rfl))) (mvT hZ (hw _ (List.mem_of_getElem? (i := 5) rfl))) (by decide) (backOf (W := 0) (rm1 l Z a0 hw [] b187 (6 : Int32) (v0_14_l6 p1) (v0_5_l4 q0) (v0_81_l11 p1) (v0_21_s0 p1) (v0_43_l8 p1) (v0_51_s0 p1) (v0_73_l10 p1) k187 (25 : Int32) (v0_248_L0 q0 p1) T205.heap n0 Zz208 (own_hpos _ _ _ _ _ _ (by decide) (own_off p1) : ¬ (v1_43_l10 (6 : Int32) (v0_81_l11 p1) (v0_21_s0 p1) (v0_43_l8 p1) (v0_51_s0 p1) (v0_73_l10 p1)) < 0 ∧ (v1_43_l10 (6 : Int32) (v0_81_l11 p1) (v0_21_s0 p1) (v0_43_l8 p1) (v0_51_s0 p1) (v0_73_l10 p1)) < (25 : Int32)) (fun h => own_hexp _ _ (own_n p1) (by decide) h : (6 : Int32) < (v0_14_l6 p1) → (¬ (((v0_14_l6 p1) - (1 : Int32)) - (6 : Int32)) < 0 ∧ (((v0_14_l6 p1) - (1 : Int32)) - (6 : Int32)) < (19 : Int32))) (fun h => own_pnz _ (own_hexp _ _ (own_n p1) (by decide) h) : (6 : Int32) < (v0_14_l6 p1) → v2_132_at (((v0_14_l6 p1) - (1 : Int32)) - (6 : Int32)) ≠ 0) V205n VL205n g_b187) hZ (hw _ (List.mem_of_getElem? (i := 5) rfl)) (hw _ (List.mem_of_getElem? (i := 4) rfl)) (by decide) (by decide)) (g := (mkF m 269 #[.val (.long q0), .second, .val (.int p1), .val (.int p2), .val (.long (v0_5_l4 q0)), .second, .val (.int (v0_14_l6 p1)), .val (.int (v0_21_s0 p1)), .val (.int (v0_43_l8 p1)), .val (.int (v0_51_s0 p1)), .val (.int (v0_73_l10 p1)), .val (.int (v0_81_l11 p1)), .val (.int (v0_93_l12 p2)), .val (.ref b187), .unset, .unset, .unset, .unset, .unset, .unset, .unset, .unset] [(.int (v0_73_l10 p1)), (.int (v0_51_s0 p1)), (.int (v0_43_l8 p1)), (.int (v0_21_s0 p1)), (.int (v0_81_l11 p1)), (.long (v0_5_l4 q0)), (.int (v0_14_l6 p1)), (.int (6 : Int32)), (.ref b187)])) rfl (by rw [hml]; rfl) (argsL := [(.ref b187), (.int (6 : Int32)), (.int (v0_14_l6 p1)), (.long (v0_5_l4 q0)), (.int (v0_81_l11 p1)), (.int (v0_21_s0 p1)), (.int (v0_43_l8 p1)), (.int (v0_51_s0 p1)), (.int (v0_73_l10 p1))]) (rest := []) (lenOf pd_1 rfl) rfl (by show 2 * 0 + _ ≤ _; exact Nat.le_of_eq rfl) (hb hby at_269) (fun _ _ => ⟨rfl, rfl, (by decide : 7 + 1 ≤ _), (by decide : 139 + 19 ≤ _)⟩)
  dsimp only [Pt.U, Pt.locs, Pt.cells, Pt.slots] at X208 l208 y208 z208 st208 hQ208
  subst l208 y208 z208
  obtain ⟨rfl, N208q, Kq208, Vq208_0, VLq208_0⟩ := hQ208
  have K208 : Keep h0 T208.heap [] := K205.trans Kq208 (allS (Or.inr sz_b187) all0)
  have V208n : Arv Z T208.heap b187 k187 .byte (25 : Int32) (List.map Value.int (v0_269_L0 q0 p1)) (.int (0 : Int32)) := Vq208_0
  have VL208n : (v0_269_L0 q0 p1).length = ((25 : Int32)).toNatClampNeg := VLq208_0
  have N208 := Fr.app N205 N208q
  have k209 := fun (t : State) (kk : Steps p.tables e below (T208.setTop (mkF m 272 #[.val (.long q0), .second, .val (.int p1), .val (.int p2), .val (.long (v0_5_l4 q0)), .second, .val (.int (v0_14_l6 p1)), .val (.int (v0_21_s0 p1)), .val (.int (v0_43_l8 p1)), .val (.int (v0_51_s0 p1)), .val (.int (v0_73_l10 p1)), .val (.int (v0_81_l11 p1)), .val (.int (v0_93_l12 p2)), .val (.ref b187), .unset, .unset, .unset, .unset, .unset, .unset, .unset, .unset] [])) t) => k207 t (st208 _ kk)
  have k210 := fun (t : State) (kk : Steps p.tables e below (T208.setTop (mkF m 290 #[.val (.long q0), .second, .val (.int p1), .val (.int p2), .val (.long (v0_5_l4 q0)), .second, .val (.int (v0_14_l6 p1)), .val (.int (v0_21_s0 p1)), .val (.int (v0_43_l8 p1)), .val (.int (v0_51_s0 p1)), .val (.int (v0_73_l10 p1)), .val (.int (v0_81_l11 p1)), .val (.int (v0_93_l12 p2)), .val (.ref b187), .unset, .unset, .unset, .unset, .unset, .unset, .unset, .unset] [(.int (v0_73_l10 p1)), (.int (v0_51_s0 p1)), (.int (v0_43_l8 p1)), (.int (v0_21_s0 p1)), (.int (v0_81_l11 p1)), (.long (v0_5_l4 q0)), (.int (v0_14_l6 p1)), (.int (7 : Int32)), (.ref b187)])) t) => k209 t (by
    refine XS.aload X208.here hx rfl (hb hby at_272) rfl rfl ?_
    show Steps p.tables e below (T208.setTop (mkF m 274 #[.val (.long q0), .second, .val (.int p1), .val (.int p2), .val (.long (v0_5_l4 q0)), .second, .val (.int (v0_14_l6 p1)), .val (.int (v0_21_s0 p1)), .val (.int (v0_43_l8 p1)), .val (.int (v0_51_s0 p1)), .val (.int (v0_73_l10 p1)), .val (.int (v0_81_l11 p1)), .val (.int (v0_93_l12 p2)), .val (.ref b187), .unset, .unset, .unset, .unset, .unset, .unset, .unset, .unset] [(.ref b187)])) _
    refine XS.bipush X208.here hx rfl (hb hby at_274) ?_
    refine XS.iload X208.here hx rfl (hb hby at_276) rfl ?_
    refine XS.lload X208.here hx rfl (hb hby at_278) rfl ?_
    refine XS.iload X208.here hx rfl (hb hby at_280) rfl ?_
    refine XS.iload X208.here hx rfl (hb hby at_282) rfl ?_
    refine XS.iload X208.here hx rfl (hb hby at_284) rfl ?_
    show Steps p.tables e below (T208.setTop (mkF m 286 #[.val (.long q0), .second, .val (.int p1), .val (.int p2), .val (.long (v0_5_l4 q0)), .second, .val (.int (v0_14_l6 p1)), .val (.int (v0_21_s0 p1)), .val (.int (v0_43_l8 p1)), .val (.int (v0_51_s0 p1)), .val (.int (v0_73_l10 p1)), .val (.int (v0_81_l11 p1)), .val (.int (v0_93_l12 p2)), .val (.ref b187), .unset, .unset, .unset, .unset, .unset, .unset, .unset, .unset] [(.int (v0_43_l8 p1)), (.int (v0_21_s0 p1)), (.int (v0_81_l11 p1)), (.long (v0_5_l4 q0)), (.int (v0_14_l6 p1)), (.int (7 : Int32)), (.ref b187)])) _
    refine XS.iload X208.here hx rfl (hb hby at_286) rfl ?_
    refine XS.iload X208.here hx rfl (hb hby at_288) rfl ?_
    exact kk)
  have Zz211 : n0 ≤ T208.heap.size := (Nat.le_trans Z0 K208.1)
  obtain ⟨_, _, ⟨T211, L211, k211, n211⟩, -, X211, ⟨Lc211, hQ211, l211, y211, z211⟩, st211⟩ := Jvm.LawKit.callS X208 hx (y := (⟨"com/example/gavelbook/gavelbook/DecimalsParsePinLaw", "putDigit", "([BIIJIZIZI)V"⟩ : MethodName)) hown (mvT hZ (hw _ (List.mem_of_getElem? (i := 2) rfl))) (mvT hZ (hw _ (List.mem_of_getElem? (i := 3) rfl))) (mvT hZ (hw _ (List.mem_of_getElem? (i := 4) rfl))) (mvT hZ (hw _ (List.mem_of_getElem? (i := 5) rfl))) (by decide) (backOf (W := 0) (rm1 l Z a0 hw [] b187 (7 : Int32) (v0_14_l6 p1) (v0_5_l4 q0) (v0_81_l11 p1) (v0_21_s0 p1) (v0_43_l8 p1) (v0_51_s0 p1) (v0_73_l10 p1) k187 (25 : Int32) (v0_269_L0 q0 p1) T208.heap n0 Zz211 (own_hpos _ _ _ _ _ _ (by decide) (own_off p1) : ¬ (v1_43_l10 (7 : Int32) (v0_81_l11 p1) (v0_21_s0 p1) (v0_43_l8 p1) (v0_51_s0 p1) (v0_73_l10 p1)) < 0 ∧ (v1_43_l10 (7 : Int32) (v0_81_l11 p1) (v0_21_s0 p1) (v0_43_l8 p1) (v0_51_s0 p1) (v0_73_l10 p1)) < (25 : Int32)) (fun h => own_hexp _ _ (own_n p1) (by decide) h : (7 : Int32) < (v0_14_l6 p1) → (¬ (((v0_14_l6 p1) - (1 : Int32)) - (7 : Int32)) < 0 ∧ (((v0_14_l6 p1) - (1 : Int32)) - (7 : Int32)) < (19 : Int32))) (fun h => own_pnz _ (own_hexp _ _ (own_n p1) (by decide) h) : (7 : Int32) < (v0_14_l6 p1) → v2_132_at (((v0_14_l6 p1) - (1 : Int32)) - (7 : Int32)) ≠ 0) V208n VL208n g_b187) hZ (hw _ (List.mem_of_getElem? (i := 5) rfl)) (hw _ (List.mem_of_getElem? (i := 4) rfl)) (by decide) (by decide)) (g := (mkF m 290 #[.val (.long q0), .second, .val (.int p1), .val (.int p2), .val (.long (v0_5_l4 q0)), .second, .val (.int (v0_14_l6 p1)), .val (.int (v0_21_s0 p1)), .val (.int (v0_43_l8 p1)), .val (.int (v0_51_s0 p1)), .val (.int (v0_73_l10 p1)), .val (.int (v0_81_l11 p1)), .val (.int (v0_93_l12 p2)), .val (.ref b187), .unset, .unset, .unset, .unset, .unset, .unset, .unset, .unset] [(.int (v0_73_l10 p1)), (.int (v0_51_s0 p1)), (.int (v0_43_l8 p1)), (.int (v0_21_s0 p1)), (.int (v0_81_l11 p1)), (.long (v0_5_l4 q0)), (.int (v0_14_l6 p1)), (.int (7 : Int32)), (.ref b187)])) rfl (by rw [hml]; rfl) (argsL := [(.ref b187), (.int (7 : Int32)), (.int (v0_14_l6 p1)), (.long (v0_5_l4 q0)), (.int (v0_81_l11 p1)), (.int (v0_21_s0 p1)), (.int (v0_43_l8 p1)), (.int (v0_51_s0 p1)), (.int (v0_73_l10 p1))]) (rest := []) (lenOf pd_1 rfl) rfl (by show 2 * 0 + _ ≤ _; exact Nat.le_of_eq rfl) (hb hby at_290) (fun _ _ => ⟨rfl, rfl, (by decide : 8 + 1 ≤ _), (by decide : 158 + 19 ≤ _)⟩)
  dsimp only [Pt.U, Pt.locs, Pt.cells, Pt.slots] at X211 l211 y211 z211 st211 hQ211
  subst l211 y211 z211
  obtain ⟨rfl, N211q, Kq211, Vq211_0, VLq211_0⟩ := hQ211
  have K211 : Keep h0 T211.heap [] := K208.trans Kq211 (allS (Or.inr sz_b187) all0)
  have V211n : Arv Z T211.heap b187 k187 .byte (25 : Int32) (List.map Value.int (v0_290_L0 q0 p1)) (.int (0 : Int32)) := Vq211_0
  have VL211n : (v0_290_L0 q0 p1).length = ((25 : Int32)).toNatClampNeg := VLq211_0
  have N211 := Fr.app N208 N211q
  have k212 := fun (t : State) (kk : Steps p.tables e below (T211.setTop (mkF m 293 #[.val (.long q0), .second, .val (.int p1), .val (.int p2), .val (.long (v0_5_l4 q0)), .second, .val (.int (v0_14_l6 p1)), .val (.int (v0_21_s0 p1)), .val (.int (v0_43_l8 p1)), .val (.int (v0_51_s0 p1)), .val (.int (v0_73_l10 p1)), .val (.int (v0_81_l11 p1)), .val (.int (v0_93_l12 p2)), .val (.ref b187), .unset, .unset, .unset, .unset, .unset, .unset, .unset, .unset] [])) t) => k210 t (st211 _ kk)
  have k213 := fun (t : State) (kk : Steps p.tables e below (T211.setTop (mkF m 311 #[.val (.long q0), .second, .val (.int p1), .val (.int p2), .val (.long (v0_5_l4 q0)), .second, .val (.int (v0_14_l6 p1)), .val (.int (v0_21_s0 p1)), .val (.int (v0_43_l8 p1)), .val (.int (v0_51_s0 p1)), .val (.int (v0_73_l10 p1)), .val (.int (v0_81_l11 p1)), .val (.int (v0_93_l12 p2)), .val (.ref b187), .unset, .unset, .unset, .unset, .unset, .unset, .unset, .unset] [(.int (v0_73_l10 p1)), (.int (v0_51_s0 p1)), (.int (v0_43_l8 p1)), (.int (v0_21_s0 p1)), (.int (v0_81_l11 p1)), (.long (v0_5_l4 q0)), (.int (v0_14_l6 p1)), (.int (8 : Int32)), (.ref b187)])) t) => k212 t (by
    refine XS.aload X211.here hx rfl (hb hby at_293) rfl rfl ?_
    refine XS.bipush X211.here hx rfl (hb hby at_295) ?_
    refine XS.iload X211.here hx rfl (hb hby at_297) rfl ?_
    refine XS.lload X211.here hx rfl (hb hby at_299) rfl ?_
    show Steps p.tables e below (T211.setTop (mkF m 301 #[.val (.long q0), .second, .val (.int p1), .val (.int p2), .val (.long (v0_5_l4 q0)), .second, .val (.int (v0_14_l6 p1)), .val (.int (v0_21_s0 p1)), .val (.int (v0_43_l8 p1)), .val (.int (v0_51_s0 p1)), .val (.int (v0_73_l10 p1)), .val (.int (v0_81_l11 p1)), .val (.int (v0_93_l12 p2)), .val (.ref b187), .unset, .unset, .unset, .unset, .unset, .unset, .unset, .unset] [(.long (v0_5_l4 q0)), (.int (v0_14_l6 p1)), (.int (8 : Int32)), (.ref b187)])) _
    refine XS.iload X211.here hx rfl (hb hby at_301) rfl ?_
    refine XS.iload X211.here hx rfl (hb hby at_303) rfl ?_
    refine XS.iload X211.here hx rfl (hb hby at_305) rfl ?_
    refine XS.iload X211.here hx rfl (hb hby at_307) rfl ?_
    refine XS.iload X211.here hx rfl (hb hby at_309) rfl ?_
    exact kk)
  have Zz214 : n0 ≤ T211.heap.size := (Nat.le_trans Z0 K211.1)
  obtain ⟨_, _, ⟨T214, L214, k214, n214⟩, -, X214, ⟨Lc214, hQ214, l214, y214, z214⟩, st214⟩ := Jvm.LawKit.callS X211 hx (y := (⟨"com/example/gavelbook/gavelbook/DecimalsParsePinLaw", "putDigit", "([BIIJIZIZI)V"⟩ : MethodName)) hown (mvT hZ (hw _ (List.mem_of_getElem? (i := 2) rfl))) (mvT hZ (hw _ (List.mem_of_getElem? (i := 3) rfl))) (mvT hZ (hw _ (List.mem_of_getElem? (i := 4) rfl))) (mvT hZ (hw _ (List.mem_of_getElem? (i := 5) rfl))) (by decide) (backOf (W := 0) (rm1 l Z a0 hw [] b187 (8 : Int32) (v0_14_l6 p1) (v0_5_l4 q0) (v0_81_l11 p1) (v0_21_s0 p1) (v0_43_l8 p1) (v0_51_s0 p1) (v0_73_l10 p1) k187 (25 : Int32) (v0_290_L0 q0 p1) T211.heap n0 Zz214 (own_hpos _ _ _ _ _ _ (by decide) (own_off p1) : ¬ (v1_43_l10 (8 : Int32) (v0_81_l11 p1) (v0_21_s0 p1) (v0_43_l8 p1) (v0_51_s0 p1) (v0_73_l10 p1)) < 0 ∧ (v1_43_l10 (8 : Int32) (v0_81_l11 p1) (v0_21_s0 p1) (v0_43_l8 p1) (v0_51_s0 p1) (v0_73_l10 p1)) < (25 : Int32)) (fun h => own_hexp _ _ (own_n p1) (by decide) h : (8 : Int32) < (v0_14_l6 p1) → (¬ (((v0_14_l6 p1) - (1 : Int32)) - (8 : Int32)) < 0 ∧ (((v0_14_l6 p1) - (1 : Int32)) - (8 : Int32)) < (19 : Int32))) (fun h => own_pnz _ (own_hexp _ _ (own_n p1) (by decide) h) : (8 : Int32) < (v0_14_l6 p1) → v2_132_at (((v0_14_l6 p1) - (1 : Int32)) - (8 : Int32)) ≠ 0) V211n VL211n g_b187) hZ (hw _ (List.mem_of_getElem? (i := 5) rfl)) (hw _ (List.mem_of_getElem? (i := 4) rfl)) (by decide) (by decide)) (g := (mkF m 311 #[.val (.long q0), .second, .val (.int p1), .val (.int p2), .val (.long (v0_5_l4 q0)), .second, .val (.int (v0_14_l6 p1)), .val (.int (v0_21_s0 p1)), .val (.int (v0_43_l8 p1)), .val (.int (v0_51_s0 p1)), .val (.int (v0_73_l10 p1)), .val (.int (v0_81_l11 p1)), .val (.int (v0_93_l12 p2)), .val (.ref b187), .unset, .unset, .unset, .unset, .unset, .unset, .unset, .unset] [(.int (v0_73_l10 p1)), (.int (v0_51_s0 p1)), (.int (v0_43_l8 p1)), (.int (v0_21_s0 p1)), (.int (v0_81_l11 p1)), (.long (v0_5_l4 q0)), (.int (v0_14_l6 p1)), (.int (8 : Int32)), (.ref b187)])) rfl (by rw [hml]; rfl) (argsL := [(.ref b187), (.int (8 : Int32)), (.int (v0_14_l6 p1)), (.long (v0_5_l4 q0)), (.int (v0_81_l11 p1)), (.int (v0_21_s0 p1)), (.int (v0_43_l8 p1)), (.int (v0_51_s0 p1)), (.int (v0_73_l10 p1))]) (rest := []) (lenOf pd_1 rfl) rfl (by show 2 * 0 + _ ≤ _; exact Nat.le_of_eq rfl) (hb hby at_311) (fun _ _ => ⟨rfl, rfl, (by decide : 9 + 1 ≤ _), (by decide : 177 + 19 ≤ _)⟩)
  dsimp only [Pt.U, Pt.locs, Pt.cells, Pt.slots] at X214 l214 y214 z214 st214 hQ214
  subst l214 y214 z214
  obtain ⟨rfl, N214q, Kq214, Vq214_0, VLq214_0⟩ := hQ214
  have K214 : Keep h0 T214.heap [] := K211.trans Kq214 (allS (Or.inr sz_b187) all0)
  have V214n : Arv Z T214.heap b187 k187 .byte (25 : Int32) (List.map Value.int (v0_311_L0 q0 p1)) (.int (0 : Int32)) := Vq214_0
  have VL214n : (v0_311_L0 q0 p1).length = ((25 : Int32)).toNatClampNeg := VLq214_0
  have N214 := Fr.app N211 N214q
  have k215 := fun (t : State) (kk : Steps p.tables e below (T214.setTop (mkF m 314 #[.val (.long q0), .second, .val (.int p1), .val (.int p2), .val (.long (v0_5_l4 q0)), .second, .val (.int (v0_14_l6 p1)), .val (.int (v0_21_s0 p1)), .val (.int (v0_43_l8 p1)), .val (.int (v0_51_s0 p1)), .val (.int (v0_73_l10 p1)), .val (.int (v0_81_l11 p1)), .val (.int (v0_93_l12 p2)), .val (.ref b187), .unset, .unset, .unset, .unset, .unset, .unset, .unset, .unset] [])) t) => k213 t (st214 _ kk)
  have k216 := fun (t : State) (kk : Steps p.tables e below (T214.setTop (mkF m 332 #[.val (.long q0), .second, .val (.int p1), .val (.int p2), .val (.long (v0_5_l4 q0)), .second, .val (.int (v0_14_l6 p1)), .val (.int (v0_21_s0 p1)), .val (.int (v0_43_l8 p1)), .val (.int (v0_51_s0 p1)), .val (.int (v0_73_l10 p1)), .val (.int (v0_81_l11 p1)), .val (.int (v0_93_l12 p2)), .val (.ref b187), .unset, .unset, .unset, .unset, .unset, .unset, .unset, .unset] [(.int (v0_73_l10 p1)), (.int (v0_51_s0 p1)), (.int (v0_43_l8 p1)), (.int (v0_21_s0 p1)), (.int (v0_81_l11 p1)), (.long (v0_5_l4 q0)), (.int (v0_14_l6 p1)), (.int (9 : Int32)), (.ref b187)])) t) => k215 t (by
    refine XS.aload X214.here hx rfl (hb hby at_314) rfl rfl ?_
    show Steps p.tables e below (T214.setTop (mkF m 316 #[.val (.long q0), .second, .val (.int p1), .val (.int p2), .val (.long (v0_5_l4 q0)), .second, .val (.int (v0_14_l6 p1)), .val (.int (v0_21_s0 p1)), .val (.int (v0_43_l8 p1)), .val (.int (v0_51_s0 p1)), .val (.int (v0_73_l10 p1)), .val (.int (v0_81_l11 p1)), .val (.int (v0_93_l12 p2)), .val (.ref b187), .unset, .unset, .unset, .unset, .unset, .unset, .unset, .unset] [(.ref b187)])) _
    refine XS.bipush X214.here hx rfl (hb hby at_316) ?_
    refine XS.iload X214.here hx rfl (hb hby at_318) rfl ?_
    refine XS.lload X214.here hx rfl (hb hby at_320) rfl ?_
    refine XS.iload X214.here hx rfl (hb hby at_322) rfl ?_
    refine XS.iload X214.here hx rfl (hb hby at_324) rfl ?_
    refine XS.iload X214.here hx rfl (hb hby at_326) rfl ?_
    show Steps p.tables e below (T214.setTop (mkF m 328 #[.val (.long q0), .second, .val (.int p1), .val (.int p2), .val (.long (v0_5_l4 q0)), .second, .val (.int (v0_14_l6 p1)), .val (.int (v0_21_s0 p1)), .val (.int (v0_43_l8 p1)), .val (.int (v0_51_s0 p1)), .val (.int (v0_73_l10 p1)), .val (.int (v0_81_l11 p1)), .val (.int (v0_93_l12 p2)), .val (.ref b187), .unset, .unset, .unset, .unset, .unset, .unset, .unset, .unset] [(.int (v0_43_l8 p1)), (.int (v0_21_s0 p1)), (.int (v0_81_l11 p1)), (.long (v0_5_l4 q0)), (.int (v0_14_l6 p1)), (.int (9 : Int32)), (.ref b187)])) _
    refine XS.iload X214.here hx rfl (hb hby at_328) rfl ?_
    refine XS.iload X214.here hx rfl (hb hby at_330) rfl ?_
    exact kk)
  have Zz217 : n0 ≤ T214.heap.size := (Nat.le_trans Z0 K214.1)
  obtain ⟨_, _, ⟨T217, L217, k217, n217⟩, -, X217, ⟨Lc217, hQ217, l217, y217, z217⟩, st217⟩ := Jvm.LawKit.callS X214 hx (y := (⟨"com/example/gavelbook/gavelbook/DecimalsParsePinLaw", "putDigit", "([BIIJIZIZI)V"⟩ : MethodName)) hown (mvT hZ (hw _ (List.mem_of_getElem? (i := 2) rfl))) (mvT hZ (hw _ (List.mem_of_getElem? (i := 3) rfl))) (mvT hZ (hw _ (List.mem_of_getElem? (i := 4) rfl))) (mvT hZ (hw _ (List.mem_of_getElem? (i := 5) rfl))) (by decide) (backOf (W := 0) (rm1 l Z a0 hw [] b187 (9 : Int32) (v0_14_l6 p1) (v0_5_l4 q0) (v0_81_l11 p1) (v0_21_s0 p1) (v0_43_l8 p1) (v0_51_s0 p1) (v0_73_l10 p1) k187 (25 : Int32) (v0_311_L0 q0 p1) T214.heap n0 Zz217 (own_hpos _ _ _ _ _ _ (by decide) (own_off p1) : ¬ (v1_43_l10 (9 : Int32) (v0_81_l11 p1) (v0_21_s0 p1) (v0_43_l8 p1) (v0_51_s0 p1) (v0_73_l10 p1)) < 0 ∧ (v1_43_l10 (9 : Int32) (v0_81_l11 p1) (v0_21_s0 p1) (v0_43_l8 p1) (v0_51_s0 p1) (v0_73_l10 p1)) < (25 : Int32)) (fun h => own_hexp _ _ (own_n p1) (by decide) h : (9 : Int32) < (v0_14_l6 p1) → (¬ (((v0_14_l6 p1) - (1 : Int32)) - (9 : Int32)) < 0 ∧ (((v0_14_l6 p1) - (1 : Int32)) - (9 : Int32)) < (19 : Int32))) (fun h => own_pnz _ (own_hexp _ _ (own_n p1) (by decide) h) : (9 : Int32) < (v0_14_l6 p1) → v2_132_at (((v0_14_l6 p1) - (1 : Int32)) - (9 : Int32)) ≠ 0) V214n VL214n g_b187) hZ (hw _ (List.mem_of_getElem? (i := 5) rfl)) (hw _ (List.mem_of_getElem? (i := 4) rfl)) (by decide) (by decide)) (g := (mkF m 332 #[.val (.long q0), .second, .val (.int p1), .val (.int p2), .val (.long (v0_5_l4 q0)), .second, .val (.int (v0_14_l6 p1)), .val (.int (v0_21_s0 p1)), .val (.int (v0_43_l8 p1)), .val (.int (v0_51_s0 p1)), .val (.int (v0_73_l10 p1)), .val (.int (v0_81_l11 p1)), .val (.int (v0_93_l12 p2)), .val (.ref b187), .unset, .unset, .unset, .unset, .unset, .unset, .unset, .unset] [(.int (v0_73_l10 p1)), (.int (v0_51_s0 p1)), (.int (v0_43_l8 p1)), (.int (v0_21_s0 p1)), (.int (v0_81_l11 p1)), (.long (v0_5_l4 q0)), (.int (v0_14_l6 p1)), (.int (9 : Int32)), (.ref b187)])) rfl (by rw [hml]; rfl) (argsL := [(.ref b187), (.int (9 : Int32)), (.int (v0_14_l6 p1)), (.long (v0_5_l4 q0)), (.int (v0_81_l11 p1)), (.int (v0_21_s0 p1)), (.int (v0_43_l8 p1)), (.int (v0_51_s0 p1)), (.int (v0_73_l10 p1))]) (rest := []) (lenOf pd_1 rfl) rfl (by show 2 * 0 + _ ≤ _; exact Nat.le_of_eq rfl) (hb hby at_332) (fun _ _ => ⟨rfl, rfl, (by decide : 10 + 1 ≤ _), (by decide : 196 + 19 ≤ _)⟩)
  dsimp only [Pt.U, Pt.locs, Pt.cells, Pt.slots] at X217 l217 y217 z217 st217 hQ217
  subst l217 y217 z217
  obtain ⟨rfl, N217q, Kq217, Vq217_0, VLq217_0⟩ := hQ217
  have K217 : Keep h0 T217.heap [] := K214.trans Kq217 (allS (Or.inr sz_b187) all0)
  have V217n : Arv Z T217.heap b187 k187 .byte (25 : Int32) (List.map Value.int (v0_332_L0 q0 p1)) (.int (0 : Int32)) := Vq217_0
  have VL217n : (v0_332_L0 q0 p1).length = ((25 : Int32)).toNatClampNeg := VLq217_0
  have N217 := Fr.app N214 N217q
  have k218 := fun (t : State) (kk : Steps p.tables e below (T217.setTop (mkF m 335 #[.val (.long q0), .second, .val (.int p1), .val (.int p2), .val (.long (v0_5_l4 q0)), .second, .val (.int (v0_14_l6 p1)), .val (.int (v0_21_s0 p1)), .val (.int (v0_43_l8 p1)), .val (.int (v0_51_s0 p1)), .val (.int (v0_73_l10 p1)), .val (.int (v0_81_l11 p1)), .val (.int (v0_93_l12 p2)), .val (.ref b187), .unset, .unset, .unset, .unset, .unset, .unset, .unset, .unset] [])) t) => k216 t (st217 _ kk)
  have k219 := fun (t : State) (kk : Steps p.tables e below (T217.setTop (mkF m 353 #[.val (.long q0), .second, .val (.int p1), .val (.int p2), .val (.long (v0_5_l4 q0)), .second, .val (.int (v0_14_l6 p1)), .val (.int (v0_21_s0 p1)), .val (.int (v0_43_l8 p1)), .val (.int (v0_51_s0 p1)), .val (.int (v0_73_l10 p1)), .val (.int (v0_81_l11 p1)), .val (.int (v0_93_l12 p2)), .val (.ref b187), .unset, .unset, .unset, .unset, .unset, .unset, .unset, .unset] [(.int (v0_73_l10 p1)), (.int (v0_51_s0 p1)), (.int (v0_43_l8 p1)), (.int (v0_21_s0 p1)), (.int (v0_81_l11 p1)), (.long (v0_5_l4 q0)), (.int (v0_14_l6 p1)), (.int (10 : Int32)), (.ref b187)])) t) => k218 t (by
    refine XS.aload X217.here hx rfl (hb hby at_335) rfl rfl ?_
    refine XS.bipush X217.here hx rfl (hb hby at_337) ?_
    refine XS.iload X217.here hx rfl (hb hby at_339) rfl ?_
    refine XS.lload X217.here hx rfl (hb hby at_341) rfl ?_
    show Steps p.tables e below (T217.setTop (mkF m 343 #[.val (.long q0), .second, .val (.int p1), .val (.int p2), .val (.long (v0_5_l4 q0)), .second, .val (.int (v0_14_l6 p1)), .val (.int (v0_21_s0 p1)), .val (.int (v0_43_l8 p1)), .val (.int (v0_51_s0 p1)), .val (.int (v0_73_l10 p1)), .val (.int (v0_81_l11 p1)), .val (.int (v0_93_l12 p2)), .val (.ref b187), .unset, .unset, .unset, .unset, .unset, .unset, .unset, .unset] [(.long (v0_5_l4 q0)), (.int (v0_14_l6 p1)), (.int (10 : Int32)), (.ref b187)])) _
    refine XS.iload X217.here hx rfl (hb hby at_343) rfl ?_
    refine XS.iload X217.here hx rfl (hb hby at_345) rfl ?_
    refine XS.iload X217.here hx rfl (hb hby at_347) rfl ?_
    refine XS.iload X217.here hx rfl (hb hby at_349) rfl ?_
    refine XS.iload X217.here hx rfl (hb hby at_351) rfl ?_
    exact kk)
  have Zz220 : n0 ≤ T217.heap.size := (Nat.le_trans Z0 K217.1)
  obtain ⟨_, _, ⟨T220, L220, k220, n220⟩, -, X220, ⟨Lc220, hQ220, l220, y220, z220⟩, st220⟩ := Jvm.LawKit.callS X217 hx (y := (⟨"com/example/gavelbook/gavelbook/DecimalsParsePinLaw", "putDigit", "([BIIJIZIZI)V"⟩ : MethodName)) hown (mvT hZ (hw _ (List.mem_of_getElem? (i := 2) rfl))) (mvT hZ (hw _ (List.mem_of_getElem? (i := 3) rfl))) (mvT hZ (hw _ (List.mem_of_getElem? (i := 4) rfl))) (mvT hZ (hw _ (List.mem_of_getElem? (i := 5) rfl))) (by decide) (backOf (W := 0) (rm1 l Z a0 hw [] b187 (10 : Int32) (v0_14_l6 p1) (v0_5_l4 q0) (v0_81_l11 p1) (v0_21_s0 p1) (v0_43_l8 p1) (v0_51_s0 p1) (v0_73_l10 p1) k187 (25 : Int32) (v0_332_L0 q0 p1) T217.heap n0 Zz220 (own_hpos _ _ _ _ _ _ (by decide) (own_off p1) : ¬ (v1_43_l10 (10 : Int32) (v0_81_l11 p1) (v0_21_s0 p1) (v0_43_l8 p1) (v0_51_s0 p1) (v0_73_l10 p1)) < 0 ∧ (v1_43_l10 (10 : Int32) (v0_81_l11 p1) (v0_21_s0 p1) (v0_43_l8 p1) (v0_51_s0 p1) (v0_73_l10 p1)) < (25 : Int32)) (fun h => own_hexp _ _ (own_n p1) (by decide) h : (10 : Int32) < (v0_14_l6 p1) → (¬ (((v0_14_l6 p1) - (1 : Int32)) - (10 : Int32)) < 0 ∧ (((v0_14_l6 p1) - (1 : Int32)) - (10 : Int32)) < (19 : Int32))) (fun h => own_pnz _ (own_hexp _ _ (own_n p1) (by decide) h) : (10 : Int32) < (v0_14_l6 p1) → v2_132_at (((v0_14_l6 p1) - (1 : Int32)) - (10 : Int32)) ≠ 0) V217n VL217n g_b187) hZ (hw _ (List.mem_of_getElem? (i := 5) rfl)) (hw _ (List.mem_of_getElem? (i := 4) rfl)) (by decide) (by decide)) (g := (mkF m 353 #[.val (.long q0), .second, .val (.int p1), .val (.int p2), .val (.long (v0_5_l4 q0)), .second, .val (.int (v0_14_l6 p1)), .val (.int (v0_21_s0 p1)), .val (.int (v0_43_l8 p1)), .val (.int (v0_51_s0 p1)), .val (.int (v0_73_l10 p1)), .val (.int (v0_81_l11 p1)), .val (.int (v0_93_l12 p2)), .val (.ref b187), .unset, .unset, .unset, .unset, .unset, .unset, .unset, .unset] [(.int (v0_73_l10 p1)), (.int (v0_51_s0 p1)), (.int (v0_43_l8 p1)), (.int (v0_21_s0 p1)), (.int (v0_81_l11 p1)), (.long (v0_5_l4 q0)), (.int (v0_14_l6 p1)), (.int (10 : Int32)), (.ref b187)])) rfl (by rw [hml]; rfl) (argsL := [(.ref b187), (.int (10 : Int32)), (.int (v0_14_l6 p1)), (.long (v0_5_l4 q0)), (.int (v0_81_l11 p1)), (.int (v0_21_s0 p1)), (.int (v0_43_l8 p1)), (.int (v0_51_s0 p1)), (.int (v0_73_l10 p1))]) (rest := []) (lenOf pd_1 rfl) rfl (by show 2 * 0 + _ ≤ _; exact Nat.le_of_eq rfl) (hb hby at_353) (fun _ _ => ⟨rfl, rfl, (by decide : 11 + 1 ≤ _), (by decide : 215 + 19 ≤ _)⟩)
  dsimp only [Pt.U, Pt.locs, Pt.cells, Pt.slots] at X220 l220 y220 z220 st220 hQ220
  subst l220 y220 z220
  obtain ⟨rfl, N220q, Kq220, Vq220_0, VLq220_0⟩ := hQ220
  have K220 : Keep h0 T220.heap [] := K217.trans Kq220 (allS (Or.inr sz_b187) all0)
  have V220n : Arv Z T220.heap b187 k187 .byte (25 : Int32) (List.map Value.int (v0_353_L0 q0 p1)) (.int (0 : Int32)) := Vq220_0
  have VL220n : (v0_353_L0 q0 p1).length = ((25 : Int32)).toNatClampNeg := VLq220_0
  have N220 := Fr.app N217 N220q
  have k221 := fun (t : State) (kk : Steps p.tables e below (T220.setTop (mkF m 356 #[.val (.long q0), .second, .val (.int p1), .val (.int p2), .val (.long (v0_5_l4 q0)), .second, .val (.int (v0_14_l6 p1)), .val (.int (v0_21_s0 p1)), .val (.int (v0_43_l8 p1)), .val (.int (v0_51_s0 p1)), .val (.int (v0_73_l10 p1)), .val (.int (v0_81_l11 p1)), .val (.int (v0_93_l12 p2)), .val (.ref b187), .unset, .unset, .unset, .unset, .unset, .unset, .unset, .unset] [])) t) => k219 t (st220 _ kk)
  have k222 := fun (t : State) (kk : Steps p.tables e below (T220.setTop (mkF m 374 #[.val (.long q0), .second, .val (.int p1), .val (.int p2), .val (.long (v0_5_l4 q0)), .second, .val (.int (v0_14_l6 p1)), .val (.int (v0_21_s0 p1)), .val (.int (v0_43_l8 p1)), .val (.int (v0_51_s0 p1)), .val (.int (v0_73_l10 p1)), .val (.int (v0_81_l11 p1)), .val (.int (v0_93_l12 p2)), .val (.ref b187), .unset, .unset, .unset, .unset, .unset, .unset, .unset, .unset] [(.int (v0_73_l10 p1)), (.int (v0_51_s0 p1)), (.int (v0_43_l8 p1)), (.int (v0_21_s0 p1)), (.int (v0_81_l11 p1)), (.long (v0_5_l4 q0)), (.int (v0_14_l6 p1)), (.int (11 : Int32)), (.ref b187)])) t) => k221 t (by
    refine XS.aload X220.here hx rfl (hb hby at_356) rfl rfl ?_
    show Steps p.tables e below (T220.setTop (mkF m 358 #[.val (.long q0), .second, .val (.int p1), .val (.int p2), .val (.long (v0_5_l4 q0)), .second, .val (.int (v0_14_l6 p1)), .val (.int (v0_21_s0 p1)), .val (.int (v0_43_l8 p1)), .val (.int (v0_51_s0 p1)), .val (.int (v0_73_l10 p1)), .val (.int (v0_81_l11 p1)), .val (.int (v0_93_l12 p2)), .val (.ref b187), .unset, .unset, .unset, .unset, .unset, .unset, .unset, .unset] [(.ref b187)])) _
    refine XS.bipush X220.here hx rfl (hb hby at_358) ?_
    refine XS.iload X220.here hx rfl (hb hby at_360) rfl ?_
    refine XS.lload X220.here hx rfl (hb hby at_362) rfl ?_
    refine XS.iload X220.here hx rfl (hb hby at_364) rfl ?_
    refine XS.iload X220.here hx rfl (hb hby at_366) rfl ?_
    refine XS.iload X220.here hx rfl (hb hby at_368) rfl ?_
    show Steps p.tables e below (T220.setTop (mkF m 370 #[.val (.long q0), .second, .val (.int p1), .val (.int p2), .val (.long (v0_5_l4 q0)), .second, .val (.int (v0_14_l6 p1)), .val (.int (v0_21_s0 p1)), .val (.int (v0_43_l8 p1)), .val (.int (v0_51_s0 p1)), .val (.int (v0_73_l10 p1)), .val (.int (v0_81_l11 p1)), .val (.int (v0_93_l12 p2)), .val (.ref b187), .unset, .unset, .unset, .unset, .unset, .unset, .unset, .unset] [(.int (v0_43_l8 p1)), (.int (v0_21_s0 p1)), (.int (v0_81_l11 p1)), (.long (v0_5_l4 q0)), (.int (v0_14_l6 p1)), (.int (11 : Int32)), (.ref b187)])) _
    refine XS.iload X220.here hx rfl (hb hby at_370) rfl ?_
    refine XS.iload X220.here hx rfl (hb hby at_372) rfl ?_
    exact kk)
  have Zz223 : n0 ≤ T220.heap.size := (Nat.le_trans Z0 K220.1)
  obtain ⟨_, _, ⟨T223, L223, k223, n223⟩, -, X223, ⟨Lc223, hQ223, l223, y223, z223⟩, st223⟩ := Jvm.LawKit.callS X220 hx (y := (⟨"com/example/gavelbook/gavelbook/DecimalsParsePinLaw", "putDigit", "([BIIJIZIZI)V"⟩ : MethodName)) hown (mvT hZ (hw _ (List.mem_of_getElem? (i := 2) rfl))) (mvT hZ (hw _ (List.mem_of_getElem? (i := 3) rfl))) (mvT hZ (hw _ (List.mem_of_getElem? (i := 4) rfl))) (mvT hZ (hw _ (List.mem_of_getElem? (i := 5) rfl))) (by decide) (backOf (W := 0) (rm1 l Z a0 hw [] b187 (11 : Int32) (v0_14_l6 p1) (v0_5_l4 q0) (v0_81_l11 p1) (v0_21_s0 p1) (v0_43_l8 p1) (v0_51_s0 p1) (v0_73_l10 p1) k187 (25 : Int32) (v0_353_L0 q0 p1) T220.heap n0 Zz223 (own_hpos _ _ _ _ _ _ (by decide) (own_off p1) : ¬ (v1_43_l10 (11 : Int32) (v0_81_l11 p1) (v0_21_s0 p1) (v0_43_l8 p1) (v0_51_s0 p1) (v0_73_l10 p1)) < 0 ∧ (v1_43_l10 (11 : Int32) (v0_81_l11 p1) (v0_21_s0 p1) (v0_43_l8 p1) (v0_51_s0 p1) (v0_73_l10 p1)) < (25 : Int32)) (fun h => own_hexp _ _ (own_n p1) (by decide) h : (11 : Int32) < (v0_14_l6 p1) → (¬ (((v0_14_l6 p1) - (1 : Int32)) - (11 : Int32)) < 0 ∧ (((v0_14_l6 p1) - (1 : Int32)) - (11 : Int32)) < (19 : Int32))) (fun h => own_pnz _ (own_hexp _ _ (own_n p1) (by decide) h) : (11 : Int32) < (v0_14_l6 p1) → v2_132_at (((v0_14_l6 p1) - (1 : Int32)) - (11 : Int32)) ≠ 0) V220n VL220n g_b187) hZ (hw _ (List.mem_of_getElem? (i := 5) rfl)) (hw _ (List.mem_of_getElem? (i := 4) rfl)) (by decide) (by decide)) (g := (mkF m 374 #[.val (.long q0), .second, .val (.int p1), .val (.int p2), .val (.long (v0_5_l4 q0)), .second, .val (.int (v0_14_l6 p1)), .val (.int (v0_21_s0 p1)), .val (.int (v0_43_l8 p1)), .val (.int (v0_51_s0 p1)), .val (.int (v0_73_l10 p1)), .val (.int (v0_81_l11 p1)), .val (.int (v0_93_l12 p2)), .val (.ref b187), .unset, .unset, .unset, .unset, .unset, .unset, .unset, .unset] [(.int (v0_73_l10 p1)), (.int (v0_51_s0 p1)), (.int (v0_43_l8 p1)), (.int (v0_21_s0 p1)), (.int (v0_81_l11 p1)), (.long (v0_5_l4 q0)), (.int (v0_14_l6 p1)), (.int (11 : Int32)), (.ref b187)])) rfl (by rw [hml]; rfl) (argsL := [(.ref b187), (.int (11 : Int32)), (.int (v0_14_l6 p1)), (.long (v0_5_l4 q0)), (.int (v0_81_l11 p1)), (.int (v0_21_s0 p1)), (.int (v0_43_l8 p1)), (.int (v0_51_s0 p1)), (.int (v0_73_l10 p1))]) (rest := []) (lenOf pd_1 rfl) rfl (by show 2 * 0 + _ ≤ _; exact Nat.le_of_eq rfl) (hb hby at_374) (fun _ _ => ⟨rfl, rfl, (by decide : 12 + 1 ≤ _), (by decide : 234 + 19 ≤ _)⟩)
  dsimp only [Pt.U, Pt.locs, Pt.cells, Pt.slots] at X223 l223 y223 z223 st223 hQ223
  subst l223 y223 z223
  obtain ⟨rfl, N223q, Kq223, Vq223_0, VLq223_0⟩ := hQ223
  have K223 : Keep h0 T223.heap [] := K220.trans Kq223 (allS (Or.inr sz_b187) all0)
  have V223n : Arv Z T223.heap b187 k187 .byte (25 : Int32) (List.map Value.int (v0_374_L0 q0 p1)) (.int (0 : Int32)) := Vq223_0
  have VL223n : (v0_374_L0 q0 p1).length = ((25 : Int32)).toNatClampNeg := VLq223_0
  have N223 := Fr.app N220 N223q
  have k224 := fun (t : State) (kk : Steps p.tables e below (T223.setTop (mkF m 377 #[.val (.long q0), .second, .val (.int p1), .val (.int p2), .val (.long (v0_5_l4 q0)), .second, .val (.int (v0_14_l6 p1)), .val (.int (v0_21_s0 p1)), .val (.int (v0_43_l8 p1)), .val (.int (v0_51_s0 p1)), .val (.int (v0_73_l10 p1)), .val (.int (v0_81_l11 p1)), .val (.int (v0_93_l12 p2)), .val (.ref b187), .unset, .unset, .unset, .unset, .unset, .unset, .unset, .unset] [])) t) => k222 t (st223 _ kk)
  have k225 := fun (t : State) (kk : Steps p.tables e below (T223.setTop (mkF m 395 #[.val (.long q0), .second, .val (.int p1), .val (.int p2), .val (.long (v0_5_l4 q0)), .second, .val (.int (v0_14_l6 p1)), .val (.int (v0_21_s0 p1)), .val (.int (v0_43_l8 p1)), .val (.int (v0_51_s0 p1)), .val (.int (v0_73_l10 p1)), .val (.int (v0_81_l11 p1)), .val (.int (v0_93_l12 p2)), .val (.ref b187), .unset, .unset, .unset, .unset, .unset, .unset, .unset, .unset] [(.int (v0_73_l10 p1)), (.int (v0_51_s0 p1)), (.int (v0_43_l8 p1)), (.int (v0_21_s0 p1)), (.int (v0_81_l11 p1)), (.long (v0_5_l4 q0)), (.int (v0_14_l6 p1)), (.int (12 : Int32)), (.ref b187)])) t) => k224 t (by
    refine XS.aload X223.here hx rfl (hb hby at_377) rfl rfl ?_
    refine XS.bipush X223.here hx rfl (hb hby at_379) ?_
    refine XS.iload X223.here hx rfl (hb hby at_381) rfl ?_
    refine XS.lload X223.here hx rfl (hb hby at_383) rfl ?_
    show Steps p.tables e below (T223.setTop (mkF m 385 #[.val (.long q0), .second, .val (.int p1), .val (.int p2), .val (.long (v0_5_l4 q0)), .second, .val (.int (v0_14_l6 p1)), .val (.int (v0_21_s0 p1)), .val (.int (v0_43_l8 p1)), .val (.int (v0_51_s0 p1)), .val (.int (v0_73_l10 p1)), .val (.int (v0_81_l11 p1)), .val (.int (v0_93_l12 p2)), .val (.ref b187), .unset, .unset, .unset, .unset, .unset, .unset, .unset, .unset] [(.long (v0_5_l4 q0)), (.int (v0_14_l6 p1)), (.int (12 : Int32)), (.ref b187)])) _
    refine XS.iload X223.here hx rfl (hb hby at_385) rfl ?_
    refine XS.iload X223.here hx rfl (hb hby at_387) rfl ?_
    refine XS.iload X223.here hx rfl (hb hby at_389) rfl ?_
    refine XS.iload X223.here hx rfl (hb hby at_391) rfl ?_
    refine XS.iload X223.here hx rfl (hb hby at_393) rfl ?_
    exact kk)
  have Zz226 : n0 ≤ T223.heap.size := (Nat.le_trans Z0 K223.1)
  obtain ⟨_, _, ⟨T226, L226, k226, n226⟩, -, X226, ⟨Lc226, hQ226, l226, y226, z226⟩, st226⟩ := Jvm.LawKit.callS X223 hx (y := (⟨"com/example/gavelbook/gavelbook/DecimalsParsePinLaw", "putDigit", "([BIIJIZIZI)V"⟩ : MethodName)) hown (mvT hZ (hw _ (List.mem_of_getElem? (i := 2) rfl))) (mvT hZ (hw _ (List.mem_of_getElem? (i := 3) rfl))) (mvT hZ (hw _ (List.mem_of_getElem? (i := 4) rfl))) (mvT hZ (hw _ (List.mem_of_getElem? (i := 5) rfl))) (by decide) (backOf (W := 0) (rm1 l Z a0 hw [] b187 (12 : Int32) (v0_14_l6 p1) (v0_5_l4 q0) (v0_81_l11 p1) (v0_21_s0 p1) (v0_43_l8 p1) (v0_51_s0 p1) (v0_73_l10 p1) k187 (25 : Int32) (v0_374_L0 q0 p1) T223.heap n0 Zz226 (own_hpos _ _ _ _ _ _ (by decide) (own_off p1) : ¬ (v1_43_l10 (12 : Int32) (v0_81_l11 p1) (v0_21_s0 p1) (v0_43_l8 p1) (v0_51_s0 p1) (v0_73_l10 p1)) < 0 ∧ (v1_43_l10 (12 : Int32) (v0_81_l11 p1) (v0_21_s0 p1) (v0_43_l8 p1) (v0_51_s0 p1) (v0_73_l10 p1)) < (25 : Int32)) (fun h => own_hexp _ _ (own_n p1) (by decide) h : (12 : Int32) < (v0_14_l6 p1) → (¬ (((v0_14_l6 p1) - (1 : Int32)) - (12 : Int32)) < 0 ∧ (((v0_14_l6 p1) - (1 : Int32)) - (12 : Int32)) < (19 : Int32))) (fun h => own_pnz _ (own_hexp _ _ (own_n p1) (by decide) h) : (12 : Int32) < (v0_14_l6 p1) → v2_132_at (((v0_14_l6 p1) - (1 : Int32)) - (12 : Int32)) ≠ 0) V223n VL223n g_b187) hZ (hw _ (List.mem_of_getElem? (i := 5) rfl)) (hw _ (List.mem_of_getElem? (i := 4) rfl)) (by decide) (by decide)) (g := (mkF m 395 #[.val (.long q0), .second, .val (.int p1), .val (.int p2), .val (.long (v0_5_l4 q0)), .second, .val (.int (v0_14_l6 p1)), .val (.int (v0_21_s0 p1)), .val (.int (v0_43_l8 p1)), .val (.int (v0_51_s0 p1)), .val (.int (v0_73_l10 p1)), .val (.int (v0_81_l11 p1)), .val (.int (v0_93_l12 p2)), .val (.ref b187), .unset, .unset, .unset, .unset, .unset, .unset, .unset, .unset] [(.int (v0_73_l10 p1)), (.int (v0_51_s0 p1)), (.int (v0_43_l8 p1)), (.int (v0_21_s0 p1)), (.int (v0_81_l11 p1)), (.long (v0_5_l4 q0)), (.int (v0_14_l6 p1)), (.int (12 : Int32)), (.ref b187)])) rfl (by rw [hml]; rfl) (argsL := [(.ref b187), (.int (12 : Int32)), (.int (v0_14_l6 p1)), (.long (v0_5_l4 q0)), (.int (v0_81_l11 p1)), (.int (v0_21_s0 p1)), (.int (v0_43_l8 p1)), (.int (v0_51_s0 p1)), (.int (v0_73_l10 p1))]) (rest := []) (lenOf pd_1 rfl) rfl (by show 2 * 0 + _ ≤ _; exact Nat.le_of_eq rfl) (hb hby at_395) (fun _ _ => ⟨rfl, rfl, (by decide : 13 + 1 ≤ _), (by decide : 253 + 19 ≤ _)⟩)
  dsimp only [Pt.U, Pt.locs, Pt.cells, Pt.slots] at X226 l226 y226 z226 st226 hQ226
  subst l226 y226 z226
  obtain ⟨rfl, N226q, Kq226, Vq226_0, VLq226_0⟩ := hQ226
  have K226 : Keep h0 T226.heap [] := K223.trans Kq226 (allS (Or.inr sz_b187) all0)
  have V226n : Arv Z T226.heap b187 k187 .byte (25 : Int32) (List.map Value.int (v0_395_L0 q0 p1)) (.int (0 : Int32)) := Vq226_0
  have VL226n : (v0_395_L0 q0 p1).length = ((25 : Int32)).toNatClampNeg := VLq226_0
  have N226 := Fr.app N223 N226q
  have k227 := fun (t : State) (kk : Steps p.tables e below (T226.setTop (mkF m 398 #[.val (.long q0), .second, .val (.int p1), .val (.int p2), .val (.long (v0_5_l4 q0)), .second, .val (.int (v0_14_l6 p1)), .val (.int (v0_21_s0 p1)), .val (.int (v0_43_l8 p1)), .val (.int (v0_51_s0 p1)), .val (.int (v0_73_l10 p1)), .val (.int (v0_81_l11 p1)), .val (.int (v0_93_l12 p2)), .val (.ref b187), .unset, .unset, .unset, .unset, .unset, .unset, .unset, .unset] [])) t) => k225 t (st226 _ kk)
  have k228 := fun (t : State) (kk : Steps p.tables e below (T226.setTop (mkF m 416 #[.val (.long q0), .second, .val (.int p1), .val (.int p2), .val (.long (v0_5_l4 q0)), .second, .val (.int (v0_14_l6 p1)), .val (.int (v0_21_s0 p1)), .val (.int (v0_43_l8 p1)), .val (.int (v0_51_s0 p1)), .val (.int (v0_73_l10 p1)), .val (.int (v0_81_l11 p1)), .val (.int (v0_93_l12 p2)), .val (.ref b187), .unset, .unset, .unset, .unset, .unset, .unset, .unset, .unset] [(.int (v0_73_l10 p1)), (.int (v0_51_s0 p1)), (.int (v0_43_l8 p1)), (.int (v0_21_s0 p1)), (.int (v0_81_l11 p1)), (.long (v0_5_l4 q0)), (.int (v0_14_l6 p1)), (.int (13 : Int32)), (.ref b187)])) t) => k227 t (by
    refine XS.aload X226.here hx rfl (hb hby at_398) rfl rfl ?_
    show Steps p.tables e below (T226.setTop (mkF m 400 #[.val (.long q0), .second, .val (.int p1), .val (.int p2), .val (.long (v0_5_l4 q0)), .second, .val (.int (v0_14_l6 p1)), .val (.int (v0_21_s0 p1)), .val (.int (v0_43_l8 p1)), .val (.int (v0_51_s0 p1)), .val (.int (v0_73_l10 p1)), .val (.int (v0_81_l11 p1)), .val (.int (v0_93_l12 p2)), .val (.ref b187), .unset, .unset, .unset, .unset, .unset, .unset, .unset, .unset] [(.ref b187)])) _
    refine XS.bipush X226.here hx rfl (hb hby at_400) ?_
    refine XS.iload X226.here hx rfl (hb hby at_402) rfl ?_
    refine XS.lload X226.here hx rfl (hb hby at_404) rfl ?_
    refine XS.iload X226.here hx rfl (hb hby at_406) rfl ?_
    refine XS.iload X226.here hx rfl (hb hby at_408) rfl ?_
    refine XS.iload X226.here hx rfl (hb hby at_410) rfl ?_
    show Steps p.tables e below (T226.setTop (mkF m 412 #[.val (.long q0), .second, .val (.int p1), .val (.int p2), .val (.long (v0_5_l4 q0)), .second, .val (.int (v0_14_l6 p1)), .val (.int (v0_21_s0 p1)), .val (.int (v0_43_l8 p1)), .val (.int (v0_51_s0 p1)), .val (.int (v0_73_l10 p1)), .val (.int (v0_81_l11 p1)), .val (.int (v0_93_l12 p2)), .val (.ref b187), .unset, .unset, .unset, .unset, .unset, .unset, .unset, .unset] [(.int (v0_43_l8 p1)), (.int (v0_21_s0 p1)), (.int (v0_81_l11 p1)), (.long (v0_5_l4 q0)), (.int (v0_14_l6 p1)), (.int (13 : Int32)), (.ref b187)])) _
    refine XS.iload X226.here hx rfl (hb hby at_412) rfl ?_
    refine XS.iload X226.here hx rfl (hb hby at_414) rfl ?_
    exact kk)
  have Zz229 : n0 ≤ T226.heap.size := (Nat.le_trans Z0 K226.1)
  obtain ⟨_, _, ⟨T229, L229, k229, n229⟩, -, X229, ⟨Lc229, hQ229, l229, y229, z229⟩, st229⟩ := Jvm.LawKit.callS X226 hx (y := (⟨"com/example/gavelbook/gavelbook/DecimalsParsePinLaw", "putDigit", "([BIIJIZIZI)V"⟩ : MethodName)) hown (mvT hZ (hw _ (List.mem_of_getElem? (i := 2) rfl))) (mvT hZ (hw _ (List.mem_of_getElem? (i := 3) rfl))) (mvT hZ (hw _ (List.mem_of_getElem? (i := 4) rfl))) (mvT hZ (hw _ (List.mem_of_getElem? (i := 5) rfl))) (by decide) (backOf (W := 0) (rm1 l Z a0 hw [] b187 (13 : Int32) (v0_14_l6 p1) (v0_5_l4 q0) (v0_81_l11 p1) (v0_21_s0 p1) (v0_43_l8 p1) (v0_51_s0 p1) (v0_73_l10 p1) k187 (25 : Int32) (v0_395_L0 q0 p1) T226.heap n0 Zz229 (own_hpos _ _ _ _ _ _ (by decide) (own_off p1) : ¬ (v1_43_l10 (13 : Int32) (v0_81_l11 p1) (v0_21_s0 p1) (v0_43_l8 p1) (v0_51_s0 p1) (v0_73_l10 p1)) < 0 ∧ (v1_43_l10 (13 : Int32) (v0_81_l11 p1) (v0_21_s0 p1) (v0_43_l8 p1) (v0_51_s0 p1) (v0_73_l10 p1)) < (25 : Int32)) (fun h => own_hexp _ _ (own_n p1) (by decide) h : (13 : Int32) < (v0_14_l6 p1) → (¬ (((v0_14_l6 p1) - (1 : Int32)) - (13 : Int32)) < 0 ∧ (((v0_14_l6 p1) - (1 : Int32)) - (13 : Int32)) < (19 : Int32))) (fun h => own_pnz _ (own_hexp _ _ (own_n p1) (by decide) h) : (13 : Int32) < (v0_14_l6 p1) → v2_132_at (((v0_14_l6 p1) - (1 : Int32)) - (13 : Int32)) ≠ 0) V226n VL226n g_b187) hZ (hw _ (List.mem_of_getElem? (i := 5) rfl)) (hw _ (List.mem_of_getElem? (i := 4) rfl)) (by decide) (by decide)) (g := (mkF m 416 #[.val (.long q0), .second, .val (.int p1), .val (.int p2), .val (.long (v0_5_l4 q0)), .second, .val (.int (v0_14_l6 p1)), .val (.int (v0_21_s0 p1)), .val (.int (v0_43_l8 p1)), .val (.int (v0_51_s0 p1)), .val (.int (v0_73_l10 p1)), .val (.int (v0_81_l11 p1)), .val (.int (v0_93_l12 p2)), .val (.ref b187), .unset, .unset, .unset, .unset, .unset, .unset, .unset, .unset] [(.int (v0_73_l10 p1)), (.int (v0_51_s0 p1)), (.int (v0_43_l8 p1)), (.int (v0_21_s0 p1)), (.int (v0_81_l11 p1)), (.long (v0_5_l4 q0)), (.int (v0_14_l6 p1)), (.int (13 : Int32)), (.ref b187)])) rfl (by rw [hml]; rfl) (argsL := [(.ref b187), (.int (13 : Int32)), (.int (v0_14_l6 p1)), (.long (v0_5_l4 q0)), (.int (v0_81_l11 p1)), (.int (v0_21_s0 p1)), (.int (v0_43_l8 p1)), (.int (v0_51_s0 p1)), (.int (v0_73_l10 p1))]) (rest := []) (lenOf pd_1 rfl) rfl (by show 2 * 0 + _ ≤ _; exact Nat.le_of_eq rfl) (hb hby at_416) (fun _ _ => ⟨rfl, rfl, (by decide : 14 + 1 ≤ _), (by decide : 272 + 19 ≤ _)⟩)
  dsimp only [Pt.U, Pt.locs, Pt.cells, Pt.slots] at X229 l229 y229 z229 st229 hQ229
  subst l229 y229 z229
  obtain ⟨rfl, N229q, Kq229, Vq229_0, VLq229_0⟩ := hQ229
  have K229 : Keep h0 T229.heap [] := K226.trans Kq229 (allS (Or.inr sz_b187) all0)
  have V229n : Arv Z T229.heap b187 k187 .byte (25 : Int32) (List.map Value.int (v0_416_L0 q0 p1)) (.int (0 : Int32)) := Vq229_0
  have VL229n : (v0_416_L0 q0 p1).length = ((25 : Int32)).toNatClampNeg := VLq229_0
  have N229 := Fr.app N226 N229q
  have k230 := fun (t : State) (kk : Steps p.tables e below (T229.setTop (mkF m 419 #[.val (.long q0), .second, .val (.int p1), .val (.int p2), .val (.long (v0_5_l4 q0)), .second, .val (.int (v0_14_l6 p1)), .val (.int (v0_21_s0 p1)), .val (.int (v0_43_l8 p1)), .val (.int (v0_51_s0 p1)), .val (.int (v0_73_l10 p1)), .val (.int (v0_81_l11 p1)), .val (.int (v0_93_l12 p2)), .val (.ref b187), .unset, .unset, .unset, .unset, .unset, .unset, .unset, .unset] [])) t) => k228 t (st229 _ kk)
  have k231 := fun (t : State) (kk : Steps p.tables e below (T229.setTop (mkF m 437 #[.val (.long q0), .second, .val (.int p1), .val (.int p2), .val (.long (v0_5_l4 q0)), .second, .val (.int (v0_14_l6 p1)), .val (.int (v0_21_s0 p1)), .val (.int (v0_43_l8 p1)), .val (.int (v0_51_s0 p1)), .val (.int (v0_73_l10 p1)), .val (.int (v0_81_l11 p1)), .val (.int (v0_93_l12 p2)), .val (.ref b187), .unset, .unset, .unset, .unset, .unset, .unset, .unset, .unset] [(.int (v0_73_l10 p1)), (.int (v0_51_s0 p1)), (.int (v0_43_l8 p1)), (.int (v0_21_s0 p1)), (.int (v0_81_l11 p1)), (.long (v0_5_l4 q0)), (.int (v0_14_l6 p1)), (.int (14 : Int32)), (.ref b187)])) t) => k230 t (by
    refine XS.aload X229.here hx rfl (hb hby at_419) rfl rfl ?_
    refine XS.bipush X229.here hx rfl (hb hby at_421) ?_
    refine XS.iload X229.here hx rfl (hb hby at_423) rfl ?_
    refine XS.lload X229.here hx rfl (hb hby at_425) rfl ?_
    show Steps p.tables e below (T229.setTop (mkF m 427 #[.val (.long q0), .second, .val (.int p1), .val (.int p2), .val (.long (v0_5_l4 q0)), .second, .val (.int (v0_14_l6 p1)), .val (.int (v0_21_s0 p1)), .val (.int (v0_43_l8 p1)), .val (.int (v0_51_s0 p1)), .val (.int (v0_73_l10 p1)), .val (.int (v0_81_l11 p1)), .val (.int (v0_93_l12 p2)), .val (.ref b187), .unset, .unset, .unset, .unset, .unset, .unset, .unset, .unset] [(.long (v0_5_l4 q0)), (.int (v0_14_l6 p1)), (.int (14 : Int32)), (.ref b187)])) _
    refine XS.iload X229.here hx rfl (hb hby at_427) rfl ?_
    refine XS.iload X229.here hx rfl (hb hby at_429) rfl ?_
    refine XS.iload X229.here hx rfl (hb hby at_431) rfl ?_
    refine XS.iload X229.here hx rfl (hb hby at_433) rfl ?_
    refine XS.iload X229.here hx rfl (hb hby at_435) rfl ?_
    exact kk)
  have Zz232 : n0 ≤ T229.heap.size := (Nat.le_trans Z0 K229.1)
  obtain ⟨_, _, ⟨T232, L232, k232, n232⟩, -, X232, ⟨Lc232, hQ232, l232, y232, z232⟩, st232⟩ := Jvm.LawKit.callS X229 hx (y := (⟨"com/example/gavelbook/gavelbook/DecimalsParsePinLaw", "putDigit", "([BIIJIZIZI)V"⟩ : MethodName)) hown (mvT hZ (hw _ (List.mem_of_getElem? (i := 2) rfl))) (mvT hZ (hw _ (List.mem_of_getElem? (i := 3) rfl))) (mvT hZ (hw _ (List.mem_of_getElem? (i := 4) rfl))) (mvT hZ (hw _ (List.mem_of_getElem? (i := 5) rfl))) (by decide) (backOf (W := 0) (rm1 l Z a0 hw [] b187 (14 : Int32) (v0_14_l6 p1) (v0_5_l4 q0) (v0_81_l11 p1) (v0_21_s0 p1) (v0_43_l8 p1) (v0_51_s0 p1) (v0_73_l10 p1) k187 (25 : Int32) (v0_416_L0 q0 p1) T229.heap n0 Zz232 (own_hpos _ _ _ _ _ _ (by decide) (own_off p1) : ¬ (v1_43_l10 (14 : Int32) (v0_81_l11 p1) (v0_21_s0 p1) (v0_43_l8 p1) (v0_51_s0 p1) (v0_73_l10 p1)) < 0 ∧ (v1_43_l10 (14 : Int32) (v0_81_l11 p1) (v0_21_s0 p1) (v0_43_l8 p1) (v0_51_s0 p1) (v0_73_l10 p1)) < (25 : Int32)) (fun h => own_hexp _ _ (own_n p1) (by decide) h : (14 : Int32) < (v0_14_l6 p1) → (¬ (((v0_14_l6 p1) - (1 : Int32)) - (14 : Int32)) < 0 ∧ (((v0_14_l6 p1) - (1 : Int32)) - (14 : Int32)) < (19 : Int32))) (fun h => own_pnz _ (own_hexp _ _ (own_n p1) (by decide) h) : (14 : Int32) < (v0_14_l6 p1) → v2_132_at (((v0_14_l6 p1) - (1 : Int32)) - (14 : Int32)) ≠ 0) V229n VL229n g_b187) hZ (hw _ (List.mem_of_getElem? (i := 5) rfl)) (hw _ (List.mem_of_getElem? (i := 4) rfl)) (by decide) (by decide)) (g := (mkF m 437 #[.val (.long q0), .second, .val (.int p1), .val (.int p2), .val (.long (v0_5_l4 q0)), .second, .val (.int (v0_14_l6 p1)), .val (.int (v0_21_s0 p1)), .val (.int (v0_43_l8 p1)), .val (.int (v0_51_s0 p1)), .val (.int (v0_73_l10 p1)), .val (.int (v0_81_l11 p1)), .val (.int (v0_93_l12 p2)), .val (.ref b187), .unset, .unset, .unset, .unset, .unset, .unset, .unset, .unset] [(.int (v0_73_l10 p1)), (.int (v0_51_s0 p1)), (.int (v0_43_l8 p1)), (.int (v0_21_s0 p1)), (.int (v0_81_l11 p1)), (.long (v0_5_l4 q0)), (.int (v0_14_l6 p1)), (.int (14 : Int32)), (.ref b187)])) rfl (by rw [hml]; rfl) (argsL := [(.ref b187), (.int (14 : Int32)), (.int (v0_14_l6 p1)), (.long (v0_5_l4 q0)), (.int (v0_81_l11 p1)), (.int (v0_21_s0 p1)), (.int (v0_43_l8 p1)), (.int (v0_51_s0 p1)), (.int (v0_73_l10 p1))]) (rest := []) (lenOf pd_1 rfl) rfl (by show 2 * 0 + _ ≤ _; exact Nat.le_of_eq rfl) (hb hby at_437) (fun _ _ => ⟨rfl, rfl, (by decide : 15 + 1 ≤ _), (by decide : 291 + 19 ≤ _)⟩)
  dsimp only [Pt.U, Pt.locs, Pt.cells, Pt.slots] at X232 l232 y232 z232 st232 hQ232
  subst l232 y232 z232
  obtain ⟨rfl, N232q, Kq232, Vq232_0, VLq232_0⟩ := hQ232
  have K232 : Keep h0 T232.heap [] := K229.trans Kq232 (allS (Or.inr sz_b187) all0)
  have V232n : Arv Z T232.heap b187 k187 .byte (25 : Int32) (List.map Value.int (v0_437_L0 q0 p1)) (.int (0 : Int32)) := Vq232_0
  have VL232n : (v0_437_L0 q0 p1).length = ((25 : Int32)).toNatClampNeg := VLq232_0
  have N232 := Fr.app N229 N232q
  have k233 := fun (t : State) (kk : Steps p.tables e below (T232.setTop (mkF m 440 #[.val (.long q0), .second, .val (.int p1), .val (.int p2), .val (.long (v0_5_l4 q0)), .second, .val (.int (v0_14_l6 p1)), .val (.int (v0_21_s0 p1)), .val (.int (v0_43_l8 p1)), .val (.int (v0_51_s0 p1)), .val (.int (v0_73_l10 p1)), .val (.int (v0_81_l11 p1)), .val (.int (v0_93_l12 p2)), .val (.ref b187), .unset, .unset, .unset, .unset, .unset, .unset, .unset, .unset] [])) t) => k231 t (st232 _ kk)
  have k234 := fun (t : State) (kk : Steps p.tables e below (T232.setTop (mkF m 458 #[.val (.long q0), .second, .val (.int p1), .val (.int p2), .val (.long (v0_5_l4 q0)), .second, .val (.int (v0_14_l6 p1)), .val (.int (v0_21_s0 p1)), .val (.int (v0_43_l8 p1)), .val (.int (v0_51_s0 p1)), .val (.int (v0_73_l10 p1)), .val (.int (v0_81_l11 p1)), .val (.int (v0_93_l12 p2)), .val (.ref b187), .unset, .unset, .unset, .unset, .unset, .unset, .unset, .unset] [(.int (v0_73_l10 p1)), (.int (v0_51_s0 p1)), (.int (v0_43_l8 p1)), (.int (v0_21_s0 p1)), (.int (v0_81_l11 p1)), (.long (v0_5_l4 q0)), (.int (v0_14_l6 p1)), (.int (15 : Int32)), (.ref b187)])) t) => k233 t (by
    refine XS.aload X232.here hx rfl (hb hby at_440) rfl rfl ?_
    show Steps p.tables e below (T232.setTop (mkF m 442 #[.val (.long q0), .second, .val (.int p1), .val (.int p2), .val (.long (v0_5_l4 q0)), .second, .val (.int (v0_14_l6 p1)), .val (.int (v0_21_s0 p1)), .val (.int (v0_43_l8 p1)), .val (.int (v0_51_s0 p1)), .val (.int (v0_73_l10 p1)), .val (.int (v0_81_l11 p1)), .val (.int (v0_93_l12 p2)), .val (.ref b187), .unset, .unset, .unset, .unset, .unset, .unset, .unset, .unset] [(.ref b187)])) _
    refine XS.bipush X232.here hx rfl (hb hby at_442) ?_
    refine XS.iload X232.here hx rfl (hb hby at_444) rfl ?_
    refine XS.lload X232.here hx rfl (hb hby at_446) rfl ?_
    refine XS.iload X232.here hx rfl (hb hby at_448) rfl ?_
    refine XS.iload X232.here hx rfl (hb hby at_450) rfl ?_
    refine XS.iload X232.here hx rfl (hb hby at_452) rfl ?_
    show Steps p.tables e below (T232.setTop (mkF m 454 #[.val (.long q0), .second, .val (.int p1), .val (.int p2), .val (.long (v0_5_l4 q0)), .second, .val (.int (v0_14_l6 p1)), .val (.int (v0_21_s0 p1)), .val (.int (v0_43_l8 p1)), .val (.int (v0_51_s0 p1)), .val (.int (v0_73_l10 p1)), .val (.int (v0_81_l11 p1)), .val (.int (v0_93_l12 p2)), .val (.ref b187), .unset, .unset, .unset, .unset, .unset, .unset, .unset, .unset] [(.int (v0_43_l8 p1)), (.int (v0_21_s0 p1)), (.int (v0_81_l11 p1)), (.long (v0_5_l4 q0)), (.int (v0_14_l6 p1)), (.int (15 : Int32)), (.ref b187)])) _
    refine XS.iload X232.here hx rfl (hb hby at_454) rfl ?_
    refine XS.iload X232.here hx rfl (hb hby at_456) rfl ?_
    exact kk)
  have Zz235 : n0 ≤ T232.heap.size := (Nat.le_trans Z0 K232.1)
  obtain ⟨_, _, ⟨T235, L235, k235, n235⟩, -, X235, ⟨Lc235, hQ235, l235, y235, z235⟩, st235⟩ := Jvm.LawKit.callS X232 hx (y := (⟨"com/example/gavelbook/gavelbook/DecimalsParsePinLaw", "putDigit", "([BIIJIZIZI)V"⟩ : MethodName)) hown (mvT hZ (hw _ (List.mem_of_getElem? (i := 2) rfl))) (mvT hZ (hw _ (List.mem_of_getElem? (i := 3) rfl))) (mvT hZ (hw _ (List.mem_of_getElem? (i := 4) rfl))) (mvT hZ (hw _ (List.mem_of_getElem? (i := 5) rfl))) (by decide) (backOf (W := 0) (rm1 l Z a0 hw [] b187 (15 : Int32) (v0_14_l6 p1) (v0_5_l4 q0) (v0_81_l11 p1) (v0_21_s0 p1) (v0_43_l8 p1) (v0_51_s0 p1) (v0_73_l10 p1) k187 (25 : Int32) (v0_437_L0 q0 p1) T232.heap n0 Zz235 (own_hpos _ _ _ _ _ _ (by decide) (own_off p1) : ¬ (v1_43_l10 (15 : Int32) (v0_81_l11 p1) (v0_21_s0 p1) (v0_43_l8 p1) (v0_51_s0 p1) (v0_73_l10 p1)) < 0 ∧ (v1_43_l10 (15 : Int32) (v0_81_l11 p1) (v0_21_s0 p1) (v0_43_l8 p1) (v0_51_s0 p1) (v0_73_l10 p1)) < (25 : Int32)) (fun h => own_hexp _ _ (own_n p1) (by decide) h : (15 : Int32) < (v0_14_l6 p1) → (¬ (((v0_14_l6 p1) - (1 : Int32)) - (15 : Int32)) < 0 ∧ (((v0_14_l6 p1) - (1 : Int32)) - (15 : Int32)) < (19 : Int32))) (fun h => own_pnz _ (own_hexp _ _ (own_n p1) (by decide) h) : (15 : Int32) < (v0_14_l6 p1) → v2_132_at (((v0_14_l6 p1) - (1 : Int32)) - (15 : Int32)) ≠ 0) V232n VL232n g_b187) hZ (hw _ (List.mem_of_getElem? (i := 5) rfl)) (hw _ (List.mem_of_getElem? (i := 4) rfl)) (by decide) (by decide)) (g := (mkF m 458 #[.val (.long q0), .second, .val (.int p1), .val (.int p2), .val (.long (v0_5_l4 q0)), .second, .val (.int (v0_14_l6 p1)), .val (.int (v0_21_s0 p1)), .val (.int (v0_43_l8 p1)), .val (.int (v0_51_s0 p1)), .val (.int (v0_73_l10 p1)), .val (.int (v0_81_l11 p1)), .val (.int (v0_93_l12 p2)), .val (.ref b187), .unset, .unset, .unset, .unset, .unset, .unset, .unset, .unset] [(.int (v0_73_l10 p1)), (.int (v0_51_s0 p1)), (.int (v0_43_l8 p1)), (.int (v0_21_s0 p1)), (.int (v0_81_l11 p1)), (.long (v0_5_l4 q0)), (.int (v0_14_l6 p1)), (.int (15 : Int32)), (.ref b187)])) rfl (by rw [hml]; rfl) (argsL := [(.ref b187), (.int (15 : Int32)), (.int (v0_14_l6 p1)), (.long (v0_5_l4 q0)), (.int (v0_81_l11 p1)), (.int (v0_21_s0 p1)), (.int (v0_43_l8 p1)), (.int (v0_51_s0 p1)), (.int (v0_73_l10 p1))]) (rest := []) (lenOf pd_1 rfl) rfl (by show 2 * 0 + _ ≤ _; exact Nat.le_of_eq rfl) (hb hby at_458) (fun _ _ => ⟨rfl, rfl, (by decide : 16 + 1 ≤ _), (by decide : 310 + 19 ≤ _)⟩)
  dsimp only [Pt.U, Pt.locs, Pt.cells, Pt.slots] at X235 l235 y235 z235 st235 hQ235
  subst l235 y235 z235
  obtain ⟨rfl, N235q, Kq235, Vq235_0, VLq235_0⟩ := hQ235
  have K235 : Keep h0 T235.heap [] := K232.trans Kq235 (allS (Or.inr sz_b187) all0)
  have V235n : Arv Z T235.heap b187 k187 .byte (25 : Int32) (List.map Value.int (v0_458_L0 q0 p1)) (.int (0 : Int32)) := Vq235_0
  have VL235n : (v0_458_L0 q0 p1).length = ((25 : Int32)).toNatClampNeg := VLq235_0
  have N235 := Fr.app N232 N235q
  have k236 := fun (t : State) (kk : Steps p.tables e below (T235.setTop (mkF m 461 #[.val (.long q0), .second, .val (.int p1), .val (.int p2), .val (.long (v0_5_l4 q0)), .second, .val (.int (v0_14_l6 p1)), .val (.int (v0_21_s0 p1)), .val (.int (v0_43_l8 p1)), .val (.int (v0_51_s0 p1)), .val (.int (v0_73_l10 p1)), .val (.int (v0_81_l11 p1)), .val (.int (v0_93_l12 p2)), .val (.ref b187), .unset, .unset, .unset, .unset, .unset, .unset, .unset, .unset] [])) t) => k234 t (st235 _ kk)
  have k237 := fun (t : State) (kk : Steps p.tables e below (T235.setTop (mkF m 479 #[.val (.long q0), .second, .val (.int p1), .val (.int p2), .val (.long (v0_5_l4 q0)), .second, .val (.int (v0_14_l6 p1)), .val (.int (v0_21_s0 p1)), .val (.int (v0_43_l8 p1)), .val (.int (v0_51_s0 p1)), .val (.int (v0_73_l10 p1)), .val (.int (v0_81_l11 p1)), .val (.int (v0_93_l12 p2)), .val (.ref b187), .unset, .unset, .unset, .unset, .unset, .unset, .unset, .unset] [(.int (v0_73_l10 p1)), (.int (v0_51_s0 p1)), (.int (v0_43_l8 p1)), (.int (v0_21_s0 p1)), (.int (v0_81_l11 p1)), (.long (v0_5_l4 q0)), (.int (v0_14_l6 p1)), (.int (16 : Int32)), (.ref b187)])) t) => k236 t (by
    refine XS.aload X235.here hx rfl (hb hby at_461) rfl rfl ?_
    refine XS.bipush X235.here hx rfl (hb hby at_463) ?_
    refine XS.iload X235.here hx rfl (hb hby at_465) rfl ?_
    refine XS.lload X235.here hx rfl (hb hby at_467) rfl ?_
    show Steps p.tables e below (T235.setTop (mkF m 469 #[.val (.long q0), .second, .val (.int p1), .val (.int p2), .val (.long (v0_5_l4 q0)), .second, .val (.int (v0_14_l6 p1)), .val (.int (v0_21_s0 p1)), .val (.int (v0_43_l8 p1)), .val (.int (v0_51_s0 p1)), .val (.int (v0_73_l10 p1)), .val (.int (v0_81_l11 p1)), .val (.int (v0_93_l12 p2)), .val (.ref b187), .unset, .unset, .unset, .unset, .unset, .unset, .unset, .unset] [(.long (v0_5_l4 q0)), (.int (v0_14_l6 p1)), (.int (16 : Int32)), (.ref b187)])) _
    refine XS.iload X235.here hx rfl (hb hby at_469) rfl ?_
    refine XS.iload X235.here hx rfl (hb hby at_471) rfl ?_
    refine XS.iload X235.here hx rfl (hb hby at_473) rfl ?_
    refine XS.iload X235.here hx rfl (hb hby at_475) rfl ?_
    refine XS.iload X235.here hx rfl (hb hby at_477) rfl ?_
    exact kk)
  have Zz238 : n0 ≤ T235.heap.size := (Nat.le_trans Z0 K235.1)
  obtain ⟨_, _, ⟨T238, L238, k238, n238⟩, -, X238, ⟨Lc238, hQ238, l238, y238, z238⟩, st238⟩ := Jvm.LawKit.callS X235 hx (y := (⟨"com/example/gavelbook/gavelbook/DecimalsParsePinLaw", "putDigit", "([BIIJIZIZI)V"⟩ : MethodName)) hown (mvT hZ (hw _ (List.mem_of_getElem? (i := 2) rfl))) (mvT hZ (hw _ (List.mem_of_getElem? (i := 3) rfl))) (mvT hZ (hw _ (List.mem_of_getElem? (i := 4) rfl))) (mvT hZ (hw _ (List.mem_of_getElem? (i := 5) rfl))) (by decide) (backOf (W := 0) (rm1 l Z a0 hw [] b187 (16 : Int32) (v0_14_l6 p1) (v0_5_l4 q0) (v0_81_l11 p1) (v0_21_s0 p1) (v0_43_l8 p1) (v0_51_s0 p1) (v0_73_l10 p1) k187 (25 : Int32) (v0_458_L0 q0 p1) T235.heap n0 Zz238 (own_hpos _ _ _ _ _ _ (by decide) (own_off p1) : ¬ (v1_43_l10 (16 : Int32) (v0_81_l11 p1) (v0_21_s0 p1) (v0_43_l8 p1) (v0_51_s0 p1) (v0_73_l10 p1)) < 0 ∧ (v1_43_l10 (16 : Int32) (v0_81_l11 p1) (v0_21_s0 p1) (v0_43_l8 p1) (v0_51_s0 p1) (v0_73_l10 p1)) < (25 : Int32)) (fun h => own_hexp _ _ (own_n p1) (by decide) h : (16 : Int32) < (v0_14_l6 p1) → (¬ (((v0_14_l6 p1) - (1 : Int32)) - (16 : Int32)) < 0 ∧ (((v0_14_l6 p1) - (1 : Int32)) - (16 : Int32)) < (19 : Int32))) (fun h => own_pnz _ (own_hexp _ _ (own_n p1) (by decide) h) : (16 : Int32) < (v0_14_l6 p1) → v2_132_at (((v0_14_l6 p1) - (1 : Int32)) - (16 : Int32)) ≠ 0) V235n VL235n g_b187) hZ (hw _ (List.mem_of_getElem? (i := 5) rfl)) (hw _ (List.mem_of_getElem? (i := 4) rfl)) (by decide) (by decide)) (g := (mkF m 479 #[.val (.long q0), .second, .val (.int p1), .val (.int p2), .val (.long (v0_5_l4 q0)), .second, .val (.int (v0_14_l6 p1)), .val (.int (v0_21_s0 p1)), .val (.int (v0_43_l8 p1)), .val (.int (v0_51_s0 p1)), .val (.int (v0_73_l10 p1)), .val (.int (v0_81_l11 p1)), .val (.int (v0_93_l12 p2)), .val (.ref b187), .unset, .unset, .unset, .unset, .unset, .unset, .unset, .unset] [(.int (v0_73_l10 p1)), (.int (v0_51_s0 p1)), (.int (v0_43_l8 p1)), (.int (v0_21_s0 p1)), (.int (v0_81_l11 p1)), (.long (v0_5_l4 q0)), (.int (v0_14_l6 p1)), (.int (16 : Int32)), (.ref b187)])) rfl (by rw [hml]; rfl) (argsL := [(.ref b187), (.int (16 : Int32)), (.int (v0_14_l6 p1)), (.long (v0_5_l4 q0)), (.int (v0_81_l11 p1)), (.int (v0_21_s0 p1)), (.int (v0_43_l8 p1)), (.int (v0_51_s0 p1)), (.int (v0_73_l10 p1))]) (rest := []) (lenOf pd_1 rfl) rfl (by show 2 * 0 + _ ≤ _; exact Nat.le_of_eq rfl) (hb hby at_479) (fun _ _ => ⟨rfl, rfl, (by decide : 17 + 1 ≤ _), (by decide : 329 + 19 ≤ _)⟩)
  dsimp only [Pt.U, Pt.locs, Pt.cells, Pt.slots] at X238 l238 y238 z238 st238 hQ238
  subst l238 y238 z238
  obtain ⟨rfl, N238q, Kq238, Vq238_0, VLq238_0⟩ := hQ238
  have K238 : Keep h0 T238.heap [] := K235.trans Kq238 (allS (Or.inr sz_b187) all0)
  have V238n : Arv Z T238.heap b187 k187 .byte (25 : Int32) (List.map Value.int (v0_479_L0 q0 p1)) (.int (0 : Int32)) := Vq238_0
  have VL238n : (v0_479_L0 q0 p1).length = ((25 : Int32)).toNatClampNeg := VLq238_0
  have N238 := Fr.app N235 N238q
  have k239 := fun (t : State) (kk : Steps p.tables e below (T238.setTop (mkF m 482 #[.val (.long q0), .second, .val (.int p1), .val (.int p2), .val (.long (v0_5_l4 q0)), .second, .val (.int (v0_14_l6 p1)), .val (.int (v0_21_s0 p1)), .val (.int (v0_43_l8 p1)), .val (.int (v0_51_s0 p1)), .val (.int (v0_73_l10 p1)), .val (.int (v0_81_l11 p1)), .val (.int (v0_93_l12 p2)), .val (.ref b187), .unset, .unset, .unset, .unset, .unset, .unset, .unset, .unset] [])) t) => k237 t (st238 _ kk)
  have k240 := fun (t : State) (kk : Steps p.tables e below (T238.setTop (mkF m 500 #[.val (.long q0), .second, .val (.int p1), .val (.int p2), .val (.long (v0_5_l4 q0)), .second, .val (.int (v0_14_l6 p1)), .val (.int (v0_21_s0 p1)), .val (.int (v0_43_l8 p1)), .val (.int (v0_51_s0 p1)), .val (.int (v0_73_l10 p1)), .val (.int (v0_81_l11 p1)), .val (.int (v0_93_l12 p2)), .val (.ref b187), .unset, .unset, .unset, .unset, .unset, .unset, .unset, .unset] [(.int (v0_73_l10 p1)), (.int (v0_51_s0 p1)), (.int (v0_43_l8 p1)), (.int (v0_21_s0 p1)), (.int (v0_81_l11 p1)), (.long (v0_5_l4 q0)), (.int (v0_14_l6 p1)), (.int (17 : Int32)), (.ref b187)])) t) => k239 t (by
    refine XS.aload X238.here hx rfl (hb hby at_482) rfl rfl ?_
    show Steps p.tables e below (T238.setTop (mkF m 484 #[.val (.long q0), .second, .val (.int p1), .val (.int p2), .val (.long (v0_5_l4 q0)), .second, .val (.int (v0_14_l6 p1)), .val (.int (v0_21_s0 p1)), .val (.int (v0_43_l8 p1)), .val (.int (v0_51_s0 p1)), .val (.int (v0_73_l10 p1)), .val (.int (v0_81_l11 p1)), .val (.int (v0_93_l12 p2)), .val (.ref b187), .unset, .unset, .unset, .unset, .unset, .unset, .unset, .unset] [(.ref b187)])) _
    refine XS.bipush X238.here hx rfl (hb hby at_484) ?_
    refine XS.iload X238.here hx rfl (hb hby at_486) rfl ?_
    refine XS.lload X238.here hx rfl (hb hby at_488) rfl ?_
    refine XS.iload X238.here hx rfl (hb hby at_490) rfl ?_
    refine XS.iload X238.here hx rfl (hb hby at_492) rfl ?_
    refine XS.iload X238.here hx rfl (hb hby at_494) rfl ?_
    show Steps p.tables e below (T238.setTop (mkF m 496 #[.val (.long q0), .second, .val (.int p1), .val (.int p2), .val (.long (v0_5_l4 q0)), .second, .val (.int (v0_14_l6 p1)), .val (.int (v0_21_s0 p1)), .val (.int (v0_43_l8 p1)), .val (.int (v0_51_s0 p1)), .val (.int (v0_73_l10 p1)), .val (.int (v0_81_l11 p1)), .val (.int (v0_93_l12 p2)), .val (.ref b187), .unset, .unset, .unset, .unset, .unset, .unset, .unset, .unset] [(.int (v0_43_l8 p1)), (.int (v0_21_s0 p1)), (.int (v0_81_l11 p1)), (.long (v0_5_l4 q0)), (.int (v0_14_l6 p1)), (.int (17 : Int32)), (.ref b187)])) _
    refine XS.iload X238.here hx rfl (hb hby at_496) rfl ?_
    refine XS.iload X238.here hx rfl (hb hby at_498) rfl ?_
    exact kk)
  have Zz241 : n0 ≤ T238.heap.size := (Nat.le_trans Z0 K238.1)
  obtain ⟨_, _, ⟨T241, L241, k241, n241⟩, -, X241, ⟨Lc241, hQ241, l241, y241, z241⟩, st241⟩ := Jvm.LawKit.callS X238 hx (y := (⟨"com/example/gavelbook/gavelbook/DecimalsParsePinLaw", "putDigit", "([BIIJIZIZI)V"⟩ : MethodName)) hown (mvT hZ (hw _ (List.mem_of_getElem? (i := 2) rfl))) (mvT hZ (hw _ (List.mem_of_getElem? (i := 3) rfl))) (mvT hZ (hw _ (List.mem_of_getElem? (i := 4) rfl))) (mvT hZ (hw _ (List.mem_of_getElem? (i := 5) rfl))) (by decide) (backOf (W := 0) (rm1 l Z a0 hw [] b187 (17 : Int32) (v0_14_l6 p1) (v0_5_l4 q0) (v0_81_l11 p1) (v0_21_s0 p1) (v0_43_l8 p1) (v0_51_s0 p1) (v0_73_l10 p1) k187 (25 : Int32) (v0_479_L0 q0 p1) T238.heap n0 Zz241 (own_hpos _ _ _ _ _ _ (by decide) (own_off p1) : ¬ (v1_43_l10 (17 : Int32) (v0_81_l11 p1) (v0_21_s0 p1) (v0_43_l8 p1) (v0_51_s0 p1) (v0_73_l10 p1)) < 0 ∧ (v1_43_l10 (17 : Int32) (v0_81_l11 p1) (v0_21_s0 p1) (v0_43_l8 p1) (v0_51_s0 p1) (v0_73_l10 p1)) < (25 : Int32)) (fun h => own_hexp _ _ (own_n p1) (by decide) h : (17 : Int32) < (v0_14_l6 p1) → (¬ (((v0_14_l6 p1) - (1 : Int32)) - (17 : Int32)) < 0 ∧ (((v0_14_l6 p1) - (1 : Int32)) - (17 : Int32)) < (19 : Int32))) (fun h => own_pnz _ (own_hexp _ _ (own_n p1) (by decide) h) : (17 : Int32) < (v0_14_l6 p1) → v2_132_at (((v0_14_l6 p1) - (1 : Int32)) - (17 : Int32)) ≠ 0) V238n VL238n g_b187) hZ (hw _ (List.mem_of_getElem? (i := 5) rfl)) (hw _ (List.mem_of_getElem? (i := 4) rfl)) (by decide) (by decide)) (g := (mkF m 500 #[.val (.long q0), .second, .val (.int p1), .val (.int p2), .val (.long (v0_5_l4 q0)), .second, .val (.int (v0_14_l6 p1)), .val (.int (v0_21_s0 p1)), .val (.int (v0_43_l8 p1)), .val (.int (v0_51_s0 p1)), .val (.int (v0_73_l10 p1)), .val (.int (v0_81_l11 p1)), .val (.int (v0_93_l12 p2)), .val (.ref b187), .unset, .unset, .unset, .unset, .unset, .unset, .unset, .unset] [(.int (v0_73_l10 p1)), (.int (v0_51_s0 p1)), (.int (v0_43_l8 p1)), (.int (v0_21_s0 p1)), (.int (v0_81_l11 p1)), (.long (v0_5_l4 q0)), (.int (v0_14_l6 p1)), (.int (17 : Int32)), (.ref b187)])) rfl (by rw [hml]; rfl) (argsL := [(.ref b187), (.int (17 : Int32)), (.int (v0_14_l6 p1)), (.long (v0_5_l4 q0)), (.int (v0_81_l11 p1)), (.int (v0_21_s0 p1)), (.int (v0_43_l8 p1)), (.int (v0_51_s0 p1)), (.int (v0_73_l10 p1))]) (rest := []) (lenOf pd_1 rfl) rfl (by show 2 * 0 + _ ≤ _; exact Nat.le_of_eq rfl) (hb hby at_500) (fun _ _ => ⟨rfl, rfl, (by decide : 18 + 1 ≤ _), (by decide : 348 + 19 ≤ _)⟩)
  dsimp only [Pt.U, Pt.locs, Pt.cells, Pt.slots] at X241 l241 y241 z241 st241 hQ241
  subst l241 y241 z241
  obtain ⟨rfl, N241q, Kq241, Vq241_0, VLq241_0⟩ := hQ241
  have K241 : Keep h0 T241.heap [] := K238.trans Kq241 (allS (Or.inr sz_b187) all0)
  have V241n : Arv Z T241.heap b187 k187 .byte (25 : Int32) (List.map Value.int (v0_500_L0 q0 p1)) (.int (0 : Int32)) := Vq241_0
  have VL241n : (v0_500_L0 q0 p1).length = ((25 : Int32)).toNatClampNeg := VLq241_0
  have N241 := Fr.app N238 N241q
  have k242 := fun (t : State) (kk : Steps p.tables e below (T241.setTop (mkF m 503 #[.val (.long q0), .second, .val (.int p1), .val (.int p2), .val (.long (v0_5_l4 q0)), .second, .val (.int (v0_14_l6 p1)), .val (.int (v0_21_s0 p1)), .val (.int (v0_43_l8 p1)), .val (.int (v0_51_s0 p1)), .val (.int (v0_73_l10 p1)), .val (.int (v0_81_l11 p1)), .val (.int (v0_93_l12 p2)), .val (.ref b187), .unset, .unset, .unset, .unset, .unset, .unset, .unset, .unset] [])) t) => k240 t (st241 _ kk)
  have k243 := fun (t : State) (kk : Steps p.tables e below (T241.setTop (mkF m 521 #[.val (.long q0), .second, .val (.int p1), .val (.int p2), .val (.long (v0_5_l4 q0)), .second, .val (.int (v0_14_l6 p1)), .val (.int (v0_21_s0 p1)), .val (.int (v0_43_l8 p1)), .val (.int (v0_51_s0 p1)), .val (.int (v0_73_l10 p1)), .val (.int (v0_81_l11 p1)), .val (.int (v0_93_l12 p2)), .val (.ref b187), .unset, .unset, .unset, .unset, .unset, .unset, .unset, .unset] [(.int (v0_73_l10 p1)), (.int (v0_51_s0 p1)), (.int (v0_43_l8 p1)), (.int (v0_21_s0 p1)), (.int (v0_81_l11 p1)), (.long (v0_5_l4 q0)), (.int (v0_14_l6 p1)), (.int (18 : Int32)), (.ref b187)])) t) => k242 t (by
    refine XS.aload X241.here hx rfl (hb hby at_503) rfl rfl ?_
    refine XS.bipush X241.here hx rfl (hb hby at_505) ?_
    refine XS.iload X241.here hx rfl (hb hby at_507) rfl ?_
    refine XS.lload X241.here hx rfl (hb hby at_509) rfl ?_
    show Steps p.tables e below (T241.setTop (mkF m 511 #[.val (.long q0), .second, .val (.int p1), .val (.int p2), .val (.long (v0_5_l4 q0)), .second, .val (.int (v0_14_l6 p1)), .val (.int (v0_21_s0 p1)), .val (.int (v0_43_l8 p1)), .val (.int (v0_51_s0 p1)), .val (.int (v0_73_l10 p1)), .val (.int (v0_81_l11 p1)), .val (.int (v0_93_l12 p2)), .val (.ref b187), .unset, .unset, .unset, .unset, .unset, .unset, .unset, .unset] [(.long (v0_5_l4 q0)), (.int (v0_14_l6 p1)), (.int (18 : Int32)), (.ref b187)])) _
    refine XS.iload X241.here hx rfl (hb hby at_511) rfl ?_
    refine XS.iload X241.here hx rfl (hb hby at_513) rfl ?_
    refine XS.iload X241.here hx rfl (hb hby at_515) rfl ?_
    refine XS.iload X241.here hx rfl (hb hby at_517) rfl ?_
    refine XS.iload X241.here hx rfl (hb hby at_519) rfl ?_
    exact kk)
  have Zz244 : n0 ≤ T241.heap.size := (Nat.le_trans Z0 K241.1)
  obtain ⟨_, _, ⟨T244, L244, k244, n244⟩, -, X244, ⟨Lc244, hQ244, l244, y244, z244⟩, st244⟩ := Jvm.LawKit.callS X241 hx (y := (⟨"com/example/gavelbook/gavelbook/DecimalsParsePinLaw", "putDigit", "([BIIJIZIZI)V"⟩ : MethodName)) hown (mvT hZ (hw _ (List.mem_of_getElem? (i := 2) rfl))) (mvT hZ (hw _ (List.mem_of_getElem? (i := 3) rfl))) (mvT hZ (hw _ (List.mem_of_getElem? (i := 4) rfl))) (mvT hZ (hw _ (List.mem_of_getElem? (i := 5) rfl))) (by decide) (backOf (W := 0) (rm1 l Z a0 hw [] b187 (18 : Int32) (v0_14_l6 p1) (v0_5_l4 q0) (v0_81_l11 p1) (v0_21_s0 p1) (v0_43_l8 p1) (v0_51_s0 p1) (v0_73_l10 p1) k187 (25 : Int32) (v0_500_L0 q0 p1) T241.heap n0 Zz244 (own_hpos _ _ _ _ _ _ (by decide) (own_off p1) : ¬ (v1_43_l10 (18 : Int32) (v0_81_l11 p1) (v0_21_s0 p1) (v0_43_l8 p1) (v0_51_s0 p1) (v0_73_l10 p1)) < 0 ∧ (v1_43_l10 (18 : Int32) (v0_81_l11 p1) (v0_21_s0 p1) (v0_43_l8 p1) (v0_51_s0 p1) (v0_73_l10 p1)) < (25 : Int32)) (fun h => own_hexp _ _ (own_n p1) (by decide) h : (18 : Int32) < (v0_14_l6 p1) → (¬ (((v0_14_l6 p1) - (1 : Int32)) - (18 : Int32)) < 0 ∧ (((v0_14_l6 p1) - (1 : Int32)) - (18 : Int32)) < (19 : Int32))) (fun h => own_pnz _ (own_hexp _ _ (own_n p1) (by decide) h) : (18 : Int32) < (v0_14_l6 p1) → v2_132_at (((v0_14_l6 p1) - (1 : Int32)) - (18 : Int32)) ≠ 0) V241n VL241n g_b187) hZ (hw _ (List.mem_of_getElem? (i := 5) rfl)) (hw _ (List.mem_of_getElem? (i := 4) rfl)) (by decide) (by decide)) (g := (mkF m 521 #[.val (.long q0), .second, .val (.int p1), .val (.int p2), .val (.long (v0_5_l4 q0)), .second, .val (.int (v0_14_l6 p1)), .val (.int (v0_21_s0 p1)), .val (.int (v0_43_l8 p1)), .val (.int (v0_51_s0 p1)), .val (.int (v0_73_l10 p1)), .val (.int (v0_81_l11 p1)), .val (.int (v0_93_l12 p2)), .val (.ref b187), .unset, .unset, .unset, .unset, .unset, .unset, .unset, .unset] [(.int (v0_73_l10 p1)), (.int (v0_51_s0 p1)), (.int (v0_43_l8 p1)), (.int (v0_21_s0 p1)), (.int (v0_81_l11 p1)), (.long (v0_5_l4 q0)), (.int (v0_14_l6 p1)), (.int (18 : Int32)), (.ref b187)])) rfl (by rw [hml]; rfl) (argsL := [(.ref b187), (.int (18 : Int32)), (.int (v0_14_l6 p1)), (.long (v0_5_l4 q0)), (.int (v0_81_l11 p1)), (.int (v0_21_s0 p1)), (.int (v0_43_l8 p1)), (.int (v0_51_s0 p1)), (.int (v0_73_l10 p1))]) (rest := []) (lenOf pd_1 rfl) rfl (by show 2 * 0 + _ ≤ _; exact Nat.le_of_eq rfl) (hb hby at_521) (fun _ _ => ⟨rfl, rfl, (by decide : 19 + 1 ≤ _), (by decide : 367 + 19 ≤ _)⟩)
  dsimp only [Pt.U, Pt.locs, Pt.cells, Pt.slots] at X244 l244 y244 z244 st244 hQ244
  subst l244 y244 z244
  obtain ⟨rfl, N244q, Kq244, Vq244_0, VLq244_0⟩ := hQ244
  have K244 : Keep h0 T244.heap [] := K241.trans Kq244 (allS (Or.inr sz_b187) all0)
  have V244n : Arv Z T244.heap b187 k187 .byte (25 : Int32) (List.map Value.int (v0_521_L0 q0 p1)) (.int (0 : Int32)) := Vq244_0
  have VL244n : (v0_521_L0 q0 p1).length = ((25 : Int32)).toNatClampNeg := VLq244_0
  have N244 := Fr.app N241 N244q
  have k245 := fun (t : State) (kk : Steps p.tables e below (T244.setTop (mkF m 524 #[.val (.long q0), .second, .val (.int p1), .val (.int p2), .val (.long (v0_5_l4 q0)), .second, .val (.int (v0_14_l6 p1)), .val (.int (v0_21_s0 p1)), .val (.int (v0_43_l8 p1)), .val (.int (v0_51_s0 p1)), .val (.int (v0_73_l10 p1)), .val (.int (v0_81_l11 p1)), .val (.int (v0_93_l12 p2)), .val (.ref b187), .unset, .unset, .unset, .unset, .unset, .unset, .unset, .unset] [])) t) => k243 t (st244 _ kk)
  have k246 := fun (t : State) (kk : Steps p.tables e below (T244.setTop (mkF m 526 #[.val (.long q0), .second, .val (.int p1), .val (.int p2), .val (.long (v0_5_l4 q0)), .second, .val (.int (v0_14_l6 p1)), .val (.int (v0_21_s0 p1)), .val (.int (v0_43_l8 p1)), .val (.int (v0_51_s0 p1)), .val (.int (v0_73_l10 p1)), .val (.int (v0_81_l11 p1)), .val (.int (v0_93_l12 p2)), .val (.ref b187), .unset, .unset, .unset, .unset, .unset, .unset, .unset, .unset] [(.int (v0_21_s0 p1))])) t) => k245 t (by
    refine XS.iload X244.here hx rfl (hb hby at_524) rfl ?_
    exact kk)
  by_cases hc526_247 : (v0_21_s0 p1) = (0 : Int32)
  · have k248 := fun (t : State) (kk : Steps p.tables e below (T244.setTop (mkF m 559 #[.val (.long q0), .second, .val (.int p1), .val (.int p2), .val (.long (v0_5_l4 q0)), .second, .val (.int (v0_14_l6 p1)), .val (.int (v0_21_s0 p1)), .val (.int (v0_43_l8 p1)), .val (.int (v0_51_s0 p1)), .val (.int (v0_73_l10 p1)), .val (.int (v0_81_l11 p1)), .val (.int (v0_93_l12 p2)), .val (.ref b187), .unset, .unset, .unset, .unset, .unset, .unset, .unset, .unset] [(.int (v0_51_s0 p1))])) t) => k246 t (by
      show Steps p.tables e below (T244.setTop (mkF m 526 #[.val (.long q0), .second, .val (.int p1), .val (.int p2), .val (.long (v0_5_l4 q0)), .second, .val (.int (v0_14_l6 p1)), .val (.int (v0_21_s0 p1)), .val (.int (v0_43_l8 p1)), .val (.int (v0_51_s0 p1)), .val (.int (v0_73_l10 p1)), .val (.int (v0_81_l11 p1)), .val (.int (v0_93_l12 p2)), .val (.ref b187), .unset, .unset, .unset, .unset, .unset, .unset, .unset, .unset] [(.int (v0_21_s0 p1))])) _
      refine XS.ifYes X244.here hx rfl (pc0 := 526) (pc' := 557) rfl (hb hby at_526) rfl ((if0 _ _).trans (teq hc526_247).1) (by decide) (by decide) ?_
      show Steps p.tables e below (T244.setTop (mkF m 557 #[.val (.long q0), .second, .val (.int p1), .val (.int p2), .val (.long (v0_5_l4 q0)), .second, .val (.int (v0_14_l6 p1)), .val (.int (v0_21_s0 p1)), .val (.int (v0_43_l8 p1)), .val (.int (v0_51_s0 p1)), .val (.int (v0_73_l10 p1)), .val (.int (v0_81_l11 p1)), .val (.int (v0_93_l12 p2)), .val (.ref b187), .unset, .unset, .unset, .unset, .unset, .unset, .unset, .unset] [])) _
      refine XS.iload X244.here hx rfl (hb hby at_557) rfl ?_
      exact kk)
    by_cases hc559_249 : (v0_51_s0 p1) = (0 : Int32)
    · have k250 := fun (t : State) (kk : Steps p.tables e below (T244.setTop (mkF m 625 #[.val (.long q0), .second, .val (.int p1), .val (.int p2), .val (.long (v0_5_l4 q0)), .second, .val (.int (v0_14_l6 p1)), .val (.int (v0_21_s0 p1)), .val (.int (v0_43_l8 p1)), .val (.int (v0_51_s0 p1)), .val (.int (v0_73_l10 p1)), .val (.int (v0_81_l11 p1)), .val (.int (v0_93_l12 p2)), .val (.ref b187), .val (.int (v0_614_l14 p1)), .unset, .unset, .unset, .unset, .unset, .unset, .unset] [(.int ((v0_81_l11 p1) + (v0_614_l14 p1))), (.int (v0_81_l11 p1)), (.ref b187)])) t) => k248 t (by
        show Steps p.tables e below (T244.setTop (mkF m 559 #[.val (.long q0), .second, .val (.int p1), .val (.int p2), .val (.long (v0_5_l4 q0)), .second, .val (.int (v0_14_l6 p1)), .val (.int (v0_21_s0 p1)), .val (.int (v0_43_l8 p1)), .val (.int (v0_51_s0 p1)), .val (.int (v0_73_l10 p1)), .val (.int (v0_81_l11 p1)), .val (.int (v0_93_l12 p2)), .val (.ref b187), .unset, .unset, .unset, .unset, .unset, .unset, .unset, .unset] [(.int (v0_51_s0 p1))])) _
        refine XS.ifYes X244.here hx rfl (pc0 := 559) (pc' := 590) rfl (hb hby at_559) rfl ((if0 _ _).trans (teq hc559_249).1) (by decide) (by decide) ?_
        refine XS.iload X244.here hx rfl (hb hby at_590) rfl ?_
        refine XS.iload X244.here hx rfl (hb hby at_592) rfl ?_
        show Steps p.tables e below (T244.setTop (mkF m 594 #[.val (.long q0), .second, .val (.int p1), .val (.int p2), .val (.long (v0_5_l4 q0)), .second, .val (.int (v0_14_l6 p1)), .val (.int (v0_21_s0 p1)), .val (.int (v0_43_l8 p1)), .val (.int (v0_51_s0 p1)), .val (.int (v0_73_l10 p1)), .val (.int (v0_81_l11 p1)), .val (.int (v0_93_l12 p2)), .val (.ref b187), .unset, .unset, .unset, .unset, .unset, .unset, .unset, .unset] [(.int (v0_21_s0 p1)), (.int (v0_14_l6 p1))])) _
        refine XS.ifYes X244.here hx rfl (pc0 := 594) (pc' := 601) rfl (hb hby at_594) rfl ((if0 _ _).trans (teq hc526_247).1) (by decide) (by decide) ?_
        refine XS.iconst X244.here hx rfl (hb hby at_601) ?_
        refine XS.iadd X244.here hx rfl (hb hby at_602) rfl ?_
        refine XS.iload X244.here hx rfl (hb hby at_603) rfl ?_
        show Steps p.tables e below (T244.setTop (mkF m 605 #[.val (.long q0), .second, .val (.int p1), .val (.int p2), .val (.long (v0_5_l4 q0)), .second, .val (.int (v0_14_l6 p1)), .val (.int (v0_21_s0 p1)), .val (.int (v0_43_l8 p1)), .val (.int (v0_51_s0 p1)), .val (.int (v0_73_l10 p1)), .val (.int (v0_81_l11 p1)), .val (.int (v0_93_l12 p2)), .val (.ref b187), .unset, .unset, .unset, .unset, .unset, .unset, .unset, .unset] [(.int (v0_51_s0 p1)), (.int ((v0_14_l6 p1) + (0 : Int32)))])) _
        refine XS.ifYes X244.here hx rfl (pc0 := 605) (pc' := 612) rfl (hb hby at_605) rfl ((if0 _ _).trans (teq hc559_249).1) (by decide) (by decide) ?_
        show Steps p.tables e below (T244.setTop (mkF m 612 #[.val (.long q0), .second, .val (.int p1), .val (.int p2), .val (.long (v0_5_l4 q0)), .second, .val (.int (v0_14_l6 p1)), .val (.int (v0_21_s0 p1)), .val (.int (v0_43_l8 p1)), .val (.int (v0_51_s0 p1)), .val (.int (v0_73_l10 p1)), .val (.int (v0_81_l11 p1)), .val (.int (v0_93_l12 p2)), .val (.ref b187), .unset, .unset, .unset, .unset, .unset, .unset, .unset, .unset] [(.int ((v0_14_l6 p1) + (0 : Int32)))])) _
        refine XS.iconst X244.here hx rfl (hb hby at_612) ?_
        refine XS.iadd X244.here hx rfl (hb hby at_613) rfl ?_
        refine XS.istore X244.here hx rfl (hb hby at_614) rfl (l' := #[.val (.long q0), .second, .val (.int p1), .val (.int p2), .val (.long (v0_5_l4 q0)), .second, .val (.int (v0_14_l6 p1)), .val (.int (v0_21_s0 p1)), .val (.int (v0_43_l8 p1)), .val (.int (v0_51_s0 p1)), .val (.int (v0_73_l10 p1)), .val (.int (v0_81_l11 p1)), .val (.int (v0_93_l12 p2)), .val (.ref b187), .val (.int (v0_614_l14 p1)), .unset, .unset, .unset, .unset, .unset, .unset, .unset]) rfl ?_
        refine XS.aload X244.here hx rfl (hb hby at_616) rfl rfl ?_
        refine XS.iload X244.here hx rfl (hb hby at_618) rfl ?_
        refine XS.iload X244.here hx rfl (hb hby at_620) rfl ?_
        show Steps p.tables e below (T244.setTop (mkF m 622 #[.val (.long q0), .second, .val (.int p1), .val (.int p2), .val (.long (v0_5_l4 q0)), .second, .val (.int (v0_14_l6 p1)), .val (.int (v0_21_s0 p1)), .val (.int (v0_43_l8 p1)), .val (.int (v0_51_s0 p1)), .val (.int (v0_73_l10 p1)), .val (.int (v0_81_l11 p1)), .val (.int (v0_93_l12 p2)), .val (.ref b187), .val (.int (v0_614_l14 p1)), .unset, .unset, .unset, .unset, .unset, .unset, .unset] [(.int (v0_81_l11 p1)), (.int (v0_81_l11 p1)), (.ref b187)])) _
        refine XS.iload X244.here hx rfl (hb hby at_622) rfl ?_
        refine XS.iadd X244.here hx rfl (hb hby at_624) rfl ?_
        exact kk)
      have Zz251 : n0 ≤ T244.heap.size := (Nat.le_trans Z0 K244.1)
      obtain ⟨_, _, ⟨T251, L251, k251, n251⟩, -, X251, ⟨Lc251, hQ251, l251, y251, z251⟩, st251⟩ := Jvm.LawKit.callS X244 hx (y := (⟨"com/example/gavelbook/gavelbook/Decimals", "parse", "([BII)J"⟩ : MethodName)) hown (mvT hZ (hw _ (List.mem_of_getElem? (i := 29) rfl))) (mvT hZ (hw _ (List.mem_of_getElem? (i := 30) rfl))) (mvT hZ (hw _ (List.mem_of_getElem? (i := 31) rfl))) (mvT hZ (hw _ (List.mem_of_getElem? (i := 32) rfl))) (by decide) (backOf (W := 0) (rm3 l Z a0 hw [] b187 (v0_81_l11 p1) ((v0_81_l11 p1) + (v0_614_l14 p1)) k187 (25 : Int32) (v0_521_L0 q0 p1) T244.heap n0 Zz251 (own_hst p1 : ¬ (v0_81_l11 p1) < 0) (own_hfin p1 0 0 (by decide) (by decide) : ¬ (25 : Int32) < ((v0_81_l11 p1) + (v0_614_l14 p1))) V244n VL244n) hZ (hw _ (List.mem_of_getElem? (i := 32) rfl)) (hw _ (List.mem_of_getElem? (i := 31) rfl)) (by decide) (by decide)) (g := (mkF m 625 #[.val (.long q0), .second, .val (.int p1), .val (.int p2), .val (.long (v0_5_l4 q0)), .second, .val (.int (v0_14_l6 p1)), .val (.int (v0_21_s0 p1)), .val (.int (v0_43_l8 p1)), .val (.int (v0_51_s0 p1)), .val (.int (v0_73_l10 p1)), .val (.int (v0_81_l11 p1)), .val (.int (v0_93_l12 p2)), .val (.ref b187), .val (.int (v0_614_l14 p1)), .unset, .unset, .unset, .unset, .unset, .unset, .unset] [(.int ((v0_81_l11 p1) + (v0_614_l14 p1))), (.int (v0_81_l11 p1)), (.ref b187)])) rfl (by rw [hml]; rfl) (argsL := [(.ref b187), (.int (v0_81_l11 p1)), (.int ((v0_81_l11 p1) + (v0_614_l14 p1)))]) (rest := []) (lenOf pd_2 rfl) rfl (by show 2 * 0 + _ ≤ _; exact Nat.le_of_eq rfl) (hb hby at_625) (fun _ _ => ⟨rfl, rfl, (by decide : 20 + 0 ≤ _), (by decide : 386 + 0 ≤ _)⟩)
      dsimp only [Pt.U, Pt.locs, Pt.cells, Pt.slots] at X251 l251 y251 z251 st251 hQ251
      subst l251 y251 z251
      obtain ⟨rfl, N251q, e251⟩ := hQ251
      have N251 := Fr.app N244 N251q
      have k252 := fun (t : State) (kk : Steps p.tables e below (T251.setTop (mkF m 628 #[.val (.long q0), .second, .val (.int p1), .val (.int p2), .val (.long (v0_5_l4 q0)), .second, .val (.int (v0_14_l6 p1)), .val (.int (v0_21_s0 p1)), .val (.int (v0_43_l8 p1)), .val (.int (v0_51_s0 p1)), .val (.int (v0_73_l10 p1)), .val (.int (v0_81_l11 p1)), .val (.int (v0_93_l12 p2)), .val (.ref b187), .val (.int (v0_614_l14 p1)), .unset, .unset, .unset, .unset, .unset, .unset, .unset] [(.long (own_parse (v0_81_l11 p1) ((v0_81_l11 p1) + (v0_614_l14 p1)) (v0_521_L0 q0 p1) (((v0_81_l11 p1) + (v0_614_l14 p1)).toInt - (v0_81_l11 p1).toInt).toNat (0 : Int64) (0 : Int32) (-1 : Int32) (v0_81_l11 p1)))])) t) => k250 t (st251 _ kk)
      have k253 := fun (t : State) (kk : Steps p.tables e below (T251.setTop (mkF m 718 #[.val (.long q0), .second, .val (.int p1), .val (.int p2), .val (.long (v0_5_l4 q0)), .second, .val (.int (v0_14_l6 p1)), .val (.int (v0_21_s0 p1)), .val (.int (v0_43_l8 p1)), .val (.int (v0_51_s0 p1)), .val (.int (v0_73_l10 p1)), .val (.int (v0_81_l11 p1)), .val (.int (v0_93_l12 p2)), .val (.ref b187), .val (.int (v0_614_l14 p1)), .val (.long (v0_628_l15 q0 p1)), .second, .val (.int (0 : Int32)), .unset, .unset, .val (.int (0 : Int32)), .val (.int (v0_73_l10 p1))] [(.int (v0_614_l14 p1))])) t) => k252 t (by
        refine XS.lstore X251.here hx rfl (hb hby at_628) rfl (l' := #[.val (.long q0), .second, .val (.int p1), .val (.int p2), .val (.long (v0_5_l4 q0)), .second, .val (.int (v0_14_l6 p1)), .val (.int (v0_21_s0 p1)), .val (.int (v0_43_l8 p1)), .val (.int (v0_51_s0 p1)), .val (.int (v0_73_l10 p1)), .val (.int (v0_81_l11 p1)), .val (.int (v0_93_l12 p2)), .val (.ref b187), .val (.int (v0_614_l14 p1)), .val (.long (v0_628_l15 q0 p1)), .second, .unset, .unset, .unset, .unset, .unset]) rfl ?_
        refine XS.iload X251.here hx rfl (hb hby at_630) rfl ?_
        show Steps p.tables e below (T251.setTop (mkF m 632 #[.val (.long q0), .second, .val (.int p1), .val (.int p2), .val (.long (v0_5_l4 q0)), .second, .val (.int (v0_14_l6 p1)), .val (.int (v0_21_s0 p1)), .val (.int (v0_43_l8 p1)), .val (.int (v0_51_s0 p1)), .val (.int (v0_73_l10 p1)), .val (.int (v0_81_l11 p1)), .val (.int (v0_93_l12 p2)), .val (.ref b187), .val (.int (v0_614_l14 p1)), .val (.long (v0_628_l15 q0 p1)), .second, .unset, .unset, .unset, .unset, .unset] [(.int (v0_51_s0 p1))])) _
        refine XS.ifYes X251.here hx rfl (pc0 := 632) (pc' := 646) rfl (hb hby at_632) rfl ((if0 _ _).trans (teq hc559_249).1) (by decide) (by decide) ?_
        refine XS.iconst X251.here hx rfl (hb hby at_646) ?_
        refine XS.istore X251.here hx rfl (hb hby at_647) rfl (l' := #[.val (.long q0), .second, .val (.int p1), .val (.int p2), .val (.long (v0_5_l4 q0)), .second, .val (.int (v0_14_l6 p1)), .val (.int (v0_21_s0 p1)), .val (.int (v0_43_l8 p1)), .val (.int (v0_51_s0 p1)), .val (.int (v0_73_l10 p1)), .val (.int (v0_81_l11 p1)), .val (.int (v0_93_l12 p2)), .val (.ref b187), .val (.int (v0_614_l14 p1)), .val (.long (v0_628_l15 q0 p1)), .second, .val (.int (0 : Int32)), .unset, .unset, .unset, .unset]) rfl ?_
        show Steps p.tables e below (T251.setTop (mkF m 649 #[.val (.long q0), .second, .val (.int p1), .val (.int p2), .val (.long (v0_5_l4 q0)), .second, .val (.int (v0_14_l6 p1)), .val (.int (v0_21_s0 p1)), .val (.int (v0_43_l8 p1)), .val (.int (v0_51_s0 p1)), .val (.int (v0_73_l10 p1)), .val (.int (v0_81_l11 p1)), .val (.int (v0_93_l12 p2)), .val (.ref b187), .val (.int (v0_614_l14 p1)), .val (.long (v0_628_l15 q0 p1)), .second, .val (.int (0 : Int32)), .unset, .unset, .unset, .unset] [])) _
        refine XS.iload X251.here hx rfl (hb hby at_649) rfl ?_
        show Steps p.tables e below (T251.setTop (mkF m 651 #[.val (.long q0), .second, .val (.int p1), .val (.int p2), .val (.long (v0_5_l4 q0)), .second, .val (.int (v0_14_l6 p1)), .val (.int (v0_21_s0 p1)), .val (.int (v0_43_l8 p1)), .val (.int (v0_51_s0 p1)), .val (.int (v0_73_l10 p1)), .val (.int (v0_81_l11 p1)), .val (.int (v0_93_l12 p2)), .val (.ref b187), .val (.int (v0_614_l14 p1)), .val (.long (v0_628_l15 q0 p1)), .second, .val (.int (0 : Int32)), .unset, .unset, .unset, .unset] [(.int (v0_51_s0 p1))])) _
        refine XS.ifYes X251.here hx rfl (pc0 := 651) (pc' := 667) rfl (hb hby at_651) rfl ((if0 _ _).trans (teq hc559_249).1) (by decide) (by decide) ?_
        refine XS.iload X251.here hx rfl (hb hby at_667) rfl ?_
        show Steps p.tables e below (T251.setTop (mkF m 669 #[.val (.long q0), .second, .val (.int p1), .val (.int p2), .val (.long (v0_5_l4 q0)), .second, .val (.int (v0_14_l6 p1)), .val (.int (v0_21_s0 p1)), .val (.int (v0_43_l8 p1)), .val (.int (v0_51_s0 p1)), .val (.int (v0_73_l10 p1)), .val (.int (v0_81_l11 p1)), .val (.int (v0_93_l12 p2)), .val (.ref b187), .val (.int (v0_614_l14 p1)), .val (.long (v0_628_l15 q0 p1)), .second, .val (.int (0 : Int32)), .unset, .unset, .unset, .unset] [(.int (v0_21_s0 p1))])) _
        refine XS.ifYes X251.here hx rfl (pc0 := 669) (pc' := 685) rfl (hb hby at_669) rfl ((if0 _ _).trans (teq hc526_247).1) (by decide) (by decide) ?_
        refine XS.iload X251.here hx rfl (hb hby at_685) rfl ?_
        show Steps p.tables e below (T251.setTop (mkF m 687 #[.val (.long q0), .second, .val (.int p1), .val (.int p2), .val (.long (v0_5_l4 q0)), .second, .val (.int (v0_14_l6 p1)), .val (.int (v0_21_s0 p1)), .val (.int (v0_43_l8 p1)), .val (.int (v0_51_s0 p1)), .val (.int (v0_73_l10 p1)), .val (.int (v0_81_l11 p1)), .val (.int (v0_93_l12 p2)), .val (.ref b187), .val (.int (v0_614_l14 p1)), .val (.long (v0_628_l15 q0 p1)), .second, .val (.int (0 : Int32)), .unset, .unset, .unset, .unset] [(.int (v0_21_s0 p1))])) _
        refine XS.ifNo X251.here hx rfl (hb hby at_687) rfl ((if0 _ _).trans (teq hc526_247).2) ?_
        refine XS.iload X251.here hx rfl (hb hby at_690) rfl ?_
        show Steps p.tables e below (T251.setTop (mkF m 692 #[.val (.long q0), .second, .val (.int p1), .val (.int p2), .val (.long (v0_5_l4 q0)), .second, .val (.int (v0_14_l6 p1)), .val (.int (v0_21_s0 p1)), .val (.int (v0_43_l8 p1)), .val (.int (v0_51_s0 p1)), .val (.int (v0_73_l10 p1)), .val (.int (v0_81_l11 p1)), .val (.int (v0_93_l12 p2)), .val (.ref b187), .val (.int (v0_614_l14 p1)), .val (.long (v0_628_l15 q0 p1)), .second, .val (.int (0 : Int32)), .unset, .unset, .unset, .unset] [(.int (0 : Int32))])) _
        refine XS.ifYes X251.here hx rfl (pc0 := 692) (pc' := 699) rfl (hb hby at_692) rfl ((if0 _ _).trans (teq (rfl : (0 : Int32) = (0 : Int32))).1) (by decide) (by decide) ?_
        refine XS.iconst X251.here hx rfl (hb hby at_699) ?_
        refine XS.istore X251.here hx rfl (hb hby at_700) rfl (l' := #[.val (.long q0), .second, .val (.int p1), .val (.int p2), .val (.long (v0_5_l4 q0)), .second, .val (.int (v0_14_l6 p1)), .val (.int (v0_21_s0 p1)), .val (.int (v0_43_l8 p1)), .val (.int (v0_51_s0 p1)), .val (.int (v0_73_l10 p1)), .val (.int (v0_81_l11 p1)), .val (.int (v0_93_l12 p2)), .val (.ref b187), .val (.int (v0_614_l14 p1)), .val (.long (v0_628_l15 q0 p1)), .second, .val (.int (0 : Int32)), .unset, .unset, .val (.int (0 : Int32)), .unset]) rfl ?_
        show Steps p.tables e below (T251.setTop (mkF m 702 #[.val (.long q0), .second, .val (.int p1), .val (.int p2), .val (.long (v0_5_l4 q0)), .second, .val (.int (v0_14_l6 p1)), .val (.int (v0_21_s0 p1)), .val (.int (v0_43_l8 p1)), .val (.int (v0_51_s0 p1)), .val (.int (v0_73_l10 p1)), .val (.int (v0_81_l11 p1)), .val (.int (v0_93_l12 p2)), .val (.ref b187), .val (.int (v0_614_l14 p1)), .val (.long (v0_628_l15 q0 p1)), .second, .val (.int (0 : Int32)), .unset, .unset, .val (.int (0 : Int32)), .unset] [])) _
        refine XS.iload X251.here hx rfl (hb hby at_702) rfl ?_
        show Steps p.tables e below (T251.setTop (mkF m 704 #[.val (.long q0), .second, .val (.int p1), .val (.int p2), .val (.long (v0_5_l4 q0)), .second, .val (.int (v0_14_l6 p1)), .val (.int (v0_21_s0 p1)), .val (.int (v0_43_l8 p1)), .val (.int (v0_51_s0 p1)), .val (.int (v0_73_l10 p1)), .val (.int (v0_81_l11 p1)), .val (.int (v0_93_l12 p2)), .val (.ref b187), .val (.int (v0_614_l14 p1)), .val (.long (v0_628_l15 q0 p1)), .second, .val (.int (0 : Int32)), .unset, .unset, .val (.int (0 : Int32)), .unset] [(.int (v0_21_s0 p1))])) _
        refine XS.ifYes X251.here hx rfl (pc0 := 704) (pc' := 712) rfl (hb hby at_704) rfl ((if0 _ _).trans (teq hc526_247).1) (by decide) (by decide) ?_
        refine XS.iload X251.here hx rfl (hb hby at_712) rfl ?_
        refine XS.istore X251.here hx rfl (hb hby at_714) rfl (l' := #[.val (.long q0), .second, .val (.int p1), .val (.int p2), .val (.long (v0_5_l4 q0)), .second, .val (.int (v0_14_l6 p1)), .val (.int (v0_21_s0 p1)), .val (.int (v0_43_l8 p1)), .val (.int (v0_51_s0 p1)), .val (.int (v0_73_l10 p1)), .val (.int (v0_81_l11 p1)), .val (.int (v0_93_l12 p2)), .val (.ref b187), .val (.int (v0_614_l14 p1)), .val (.long (v0_628_l15 q0 p1)), .second, .val (.int (0 : Int32)), .unset, .unset, .val (.int (0 : Int32)), .val (.int (v0_73_l10 p1))]) rfl ?_
        refine XS.iload X251.here hx rfl (hb hby at_716) rfl ?_
        exact kk)
      by_cases hc718_254 : (v0_614_l14 p1) = (0 : Int32)
      · have k257 := fun (t : State) (kk : Steps p.tables e below (T251.setTop (mkF m 821 #[.val (.long q0), .second, .val (.int p1), .val (.int p2), .val (.long (v0_5_l4 q0)), .second, .val (.int (v0_14_l6 p1)), .val (.int (v0_21_s0 p1)), .val (.int (v0_43_l8 p1)), .val (.int (v0_51_s0 p1)), .val (.int (v0_73_l10 p1)), .val (.int (v0_81_l11 p1)), .val (.int (v0_93_l12 p2)), .val (.ref b187), .val (.int (v0_614_l14 p1)), .val (.long (v0_628_l15 q0 p1)), .second, .val (.int (0 : Int32)), .val (.long (-1 : Int64)), .second, .val (.int (0 : Int32)), .val (.int (v0_73_l10 p1))] [(.int (v0_813_s0 q0 p1))])) t) => k253 t (by
          show Steps p.tables e below (T251.setTop (mkF m 718 #[.val (.long q0), .second, .val (.int p1), .val (.int p2), .val (.long (v0_5_l4 q0)), .second, .val (.int (v0_14_l6 p1)), .val (.int (v0_21_s0 p1)), .val (.int (v0_43_l8 p1)), .val (.int (v0_51_s0 p1)), .val (.int (v0_73_l10 p1)), .val (.int (v0_81_l11 p1)), .val (.int (v0_93_l12 p2)), .val (.ref b187), .val (.int (v0_614_l14 p1)), .val (.long (v0_628_l15 q0 p1)), .second, .val (.int (0 : Int32)), .unset, .unset, .val (.int (0 : Int32)), .val (.int (v0_73_l10 p1))] [(.int (v0_614_l14 p1))])) _
          refine XS.ifNo X251.here hx rfl (hb hby at_718) rfl ((if0 _ _).trans (teq hc718_254).2) ?_
          refine X251.ldc2Long hx hown (mvT hZ (hw _ (List.mem_of_getElem? (i := 35) rfl))) (g := (mkF m 721 #[.val (.long q0), .second, .val (.int p1), .val (.int p2), .val (.long (v0_5_l4 q0)), .second, .val (.int (v0_14_l6 p1)), .val (.int (v0_21_s0 p1)), .val (.int (v0_43_l8 p1)), .val (.int (v0_51_s0 p1)), .val (.int (v0_73_l10 p1)), .val (.int (v0_81_l11 p1)), .val (.int (v0_93_l12 p2)), .val (.ref b187), .val (.int (v0_614_l14 p1)), .val (.long (v0_628_l15 q0 p1)), .second, .val (.int (0 : Int32)), .unset, .unset, .val (.int (0 : Int32)), .val (.int (v0_73_l10 p1))] [])) rfl (hb hby at_721) _ ?_
          refine XS.lstore X251.here hx rfl (hb hby at_724) rfl (l' := #[.val (.long q0), .second, .val (.int p1), .val (.int p2), .val (.long (v0_5_l4 q0)), .second, .val (.int (v0_14_l6 p1)), .val (.int (v0_21_s0 p1)), .val (.int (v0_43_l8 p1)), .val (.int (v0_51_s0 p1)), .val (.int (v0_73_l10 p1)), .val (.int (v0_81_l11 p1)), .val (.int (v0_93_l12 p2)), .val (.ref b187), .val (.int (v0_614_l14 p1)), .val (.long (v0_628_l15 q0 p1)), .second, .val (.int (0 : Int32)), .val (.long (-1 : Int64)), .second, .val (.int (0 : Int32)), .val (.int (v0_73_l10 p1))]) rfl ?_
          show Steps p.tables e below (T251.setTop (mkF m 726 #[.val (.long q0), .second, .val (.int p1), .val (.int p2), .val (.long (v0_5_l4 q0)), .second, .val (.int (v0_14_l6 p1)), .val (.int (v0_21_s0 p1)), .val (.int (v0_43_l8 p1)), .val (.int (v0_51_s0 p1)), .val (.int (v0_73_l10 p1)), .val (.int (v0_81_l11 p1)), .val (.int (v0_93_l12 p2)), .val (.ref b187), .val (.int (v0_614_l14 p1)), .val (.long (v0_628_l15 q0 p1)), .second, .val (.int (0 : Int32)), .val (.long (-1 : Int64)), .second, .val (.int (0 : Int32)), .val (.int (v0_73_l10 p1))] [])) _
          refine XS.goto X251.here hx rfl (pc0 := 726) (pc' := 808) rfl (hb hby at_726) (by decide) (by decide) ?_
          refine XS.lload X251.here hx rfl (hb hby at_808) rfl ?_
          refine XS.lload X251.here hx rfl (hb hby at_810) rfl ?_
          refine XS.lcmp X251.here hx rfl (hb hby at_812) rfl ?_
          suffices k256 : Steps p.tables e below (T251.setTop (mkF m 821 #[.val (.long q0), .second, .val (.int p1), .val (.int p2), .val (.long (v0_5_l4 q0)), .second, .val (.int (v0_14_l6 p1)), .val (.int (v0_21_s0 p1)), .val (.int (v0_43_l8 p1)), .val (.int (v0_51_s0 p1)), .val (.int (v0_73_l10 p1)), .val (.int (v0_81_l11 p1)), .val (.int (v0_93_l12 p2)), .val (.ref b187), .val (.int (v0_614_l14 p1)), .val (.long (v0_628_l15 q0 p1)), .second, .val (.int (0 : Int32)), .val (.long (-1 : Int64)), .second, .val (.int (0 : Int32)), .val (.int (v0_73_l10 p1))] [(.int (v0_813_s0 q0 p1))])) t by
            by_cases hc813_255 : (v0_628_l15 q0 p1) = (-1 : Int64)
            · rw [(show (v0_813_s0 q0 p1) = (1 : Int32) from if_pos hc813_255)] at k256
              show Steps p.tables e below (T251.setTop (mkF m 813 #[.val (.long q0), .second, .val (.int p1), .val (.int p2), .val (.long (v0_5_l4 q0)), .second, .val (.int (v0_14_l6 p1)), .val (.int (v0_21_s0 p1)), .val (.int (v0_43_l8 p1)), .val (.int (v0_51_s0 p1)), .val (.int (v0_73_l10 p1)), .val (.int (v0_81_l11 p1)), .val (.int (v0_93_l12 p2)), .val (.ref b187), .val (.int (v0_614_l14 p1)), .val (.long (v0_628_l15 q0 p1)), .second, .val (.int (0 : Int32)), .val (.long (-1 : Int64)), .second, .val (.int (0 : Int32)), .val (.int (v0_73_l10 p1))] [(.int (lcmpW (v0_628_l15 q0 p1) (-1 : Int64)))])) _
              refine XS.ifNo X251.here hx rfl (hb hby at_813) rfl ((if0 _ _).trans (teq ((lw_eq _ _).mpr hc813_255)).2) ?_
              refine XS.iconst X251.here hx rfl (hb hby at_816) ?_
              refine XS.goto X251.here hx rfl (pc0 := 817) (pc' := 821) rfl (hb hby at_817) (by decide) (by decide) ?_
              exact k256
            · rw [(show (v0_813_s0 q0 p1) = (0 : Int32) from if_neg hc813_255)] at k256
              show Steps p.tables e below (T251.setTop (mkF m 813 #[.val (.long q0), .second, .val (.int p1), .val (.int p2), .val (.long (v0_5_l4 q0)), .second, .val (.int (v0_14_l6 p1)), .val (.int (v0_21_s0 p1)), .val (.int (v0_43_l8 p1)), .val (.int (v0_51_s0 p1)), .val (.int (v0_73_l10 p1)), .val (.int (v0_81_l11 p1)), .val (.int (v0_93_l12 p2)), .val (.ref b187), .val (.int (v0_614_l14 p1)), .val (.long (v0_628_l15 q0 p1)), .second, .val (.int (0 : Int32)), .val (.long (-1 : Int64)), .second, .val (.int (0 : Int32)), .val (.int (v0_73_l10 p1))] [(.int (lcmpW (v0_628_l15 q0 p1) (-1 : Int64)))])) _
              refine XS.ifYes X251.here hx rfl (pc0 := 813) (pc' := 820) rfl (hb hby at_813) rfl ((if0 _ _).trans (feq (fun q => hc813_255 ((lw_eq _ _).mp q))).2) (by decide) (by decide) ?_
              show Steps p.tables e below (T251.setTop (mkF m 820 #[.val (.long q0), .second, .val (.int p1), .val (.int p2), .val (.long (v0_5_l4 q0)), .second, .val (.int (v0_14_l6 p1)), .val (.int (v0_21_s0 p1)), .val (.int (v0_43_l8 p1)), .val (.int (v0_51_s0 p1)), .val (.int (v0_73_l10 p1)), .val (.int (v0_81_l11 p1)), .val (.int (v0_93_l12 p2)), .val (.ref b187), .val (.int (v0_614_l14 p1)), .val (.long (v0_628_l15 q0 p1)), .second, .val (.int (0 : Int32)), .val (.long (-1 : Int64)), .second, .val (.int (0 : Int32)), .val (.int (v0_73_l10 p1))] [])) _
              refine XS.iconst X251.here hx rfl (hb hby at_820) ?_
              exact k256
          exact kk)
        obtain ⟨fs, hr, hrun, hended, hW, hsame⟩ := X251.leave (v := some (.int (nar .boolean (v0_813_s0 q0 p1)))) (fun h => by rw [Bd.returns] at h; cases h)
        have hv : (v0_ret q0 p1 p2) = (nar .boolean (v0_813_s0 q0 p1)) := ((if_pos hc526_247).trans ((if_pos hc559_249).trans (if_pos hc718_254)))
        have hone : (nar .boolean (v0_813_s0 q0 p1)) = 1 := hv.symm.trans (own_law q0 p1 p2)
        refine ⟨_, _, k257 _ ?_, hrun, hended, _, _, rfl, ?_, ⟨_, rfl⟩, hW, hsame.mono (by decide) (by decide)⟩
        · show Steps p.tables e below (T251.setTop (mkF m 821 #[.val (.long q0), .second, .val (.int p1), .val (.int p2), .val (.long (v0_5_l4 q0)), .second, .val (.int (v0_14_l6 p1)), .val (.int (v0_21_s0 p1)), .val (.int (v0_43_l8 p1)), .val (.int (v0_51_s0 p1)), .val (.int (v0_73_l10 p1)), .val (.int (v0_81_l11 p1)), .val (.int (v0_93_l12 p2)), .val (.ref b187), .val (.int (v0_614_l14 p1)), .val (.long (v0_628_l15 q0 p1)), .second, .val (.int (0 : Int32)), .val (.long (-1 : Int64)), .second, .val (.int (0 : Int32)), .val (.int (v0_73_l10 p1))] [(.int (v0_813_s0 q0 p1))])) _
          exact retN X251 hx (t := .boolean) Bd.returns (by simp) (hb hby at_821) hr
        · show Q0 Z q0 p1 p2 h0 n0 _ T251.heap _
          rw [e251]
          exact ⟨congrArg (fun z => some (Value.int z)) hone, N251⟩
      · have k258 := fun (t : State) (kk : Steps p.tables e below (T251.setTop (mkF m 769 #[.val (.long q0), .second, .val (.int p1), .val (.int p2), .val (.long (v0_5_l4 q0)), .second, .val (.int (v0_14_l6 p1)), .val (.int (v0_21_s0 p1)), .val (.int (v0_43_l8 p1)), .val (.int (v0_51_s0 p1)), .val (.int (v0_73_l10 p1)), .val (.int (v0_81_l11 p1)), .val (.int (v0_93_l12 p2)), .val (.ref b187), .val (.int (v0_614_l14 p1)), .val (.long (v0_628_l15 q0 p1)), .second, .val (.int (0 : Int32)), .unset, .unset, .val (.int (0 : Int32)), .val (.int (v0_73_l10 p1))] [(.int (17 : Int32)), (.int (v0_14_l6 p1))])) t) => k253 t (by
          show Steps p.tables e below (T251.setTop (mkF m 718 #[.val (.long q0), .second, .val (.int p1), .val (.int p2), .val (.long (v0_5_l4 q0)), .second, .val (.int (v0_14_l6 p1)), .val (.int (v0_21_s0 p1)), .val (.int (v0_43_l8 p1)), .val (.int (v0_51_s0 p1)), .val (.int (v0_73_l10 p1)), .val (.int (v0_81_l11 p1)), .val (.int (v0_93_l12 p2)), .val (.ref b187), .val (.int (v0_614_l14 p1)), .val (.long (v0_628_l15 q0 p1)), .second, .val (.int (0 : Int32)), .unset, .unset, .val (.int (0 : Int32)), .val (.int (v0_73_l10 p1))] [(.int (v0_614_l14 p1))])) _
          refine XS.ifYes X251.here hx rfl (pc0 := 718) (pc' := 729) rfl (hb hby at_718) rfl ((if0 _ _).trans (feq hc718_254).2) (by decide) (by decide) ?_
          refine XS.iload X251.here hx rfl (hb hby at_729) rfl ?_
          show Steps p.tables e below (T251.setTop (mkF m 731 #[.val (.long q0), .second, .val (.int p1), .val (.int p2), .val (.long (v0_5_l4 q0)), .second, .val (.int (v0_14_l6 p1)), .val (.int (v0_21_s0 p1)), .val (.int (v0_43_l8 p1)), .val (.int (v0_51_s0 p1)), .val (.int (v0_73_l10 p1)), .val (.int (v0_81_l11 p1)), .val (.int (v0_93_l12 p2)), .val (.ref b187), .val (.int (v0_614_l14 p1)), .val (.long (v0_628_l15 q0 p1)), .second, .val (.int (0 : Int32)), .unset, .unset, .val (.int (0 : Int32)), .val (.int (v0_73_l10 p1))] [(.int (0 : Int32))])) _
          refine XS.ifYes X251.here hx rfl (pc0 := 731) (pc' := 765) rfl (hb hby at_731) rfl ((if0 _ _).trans (teq (rfl : (0 : Int32) = (0 : Int32))).1) (by decide) (by decide) ?_
          refine XS.iload X251.here hx rfl (hb hby at_765) rfl ?_
          refine XS.bipush X251.here hx rfl (hb hby at_767) ?_
          exact kk)
        by_cases hc769_259 : (17 : Int32) < (v0_14_l6 p1)
        · have k262 := fun (t : State) (kk : Steps p.tables e below (T251.setTop (mkF m 821 #[.val (.long q0), .second, .val (.int p1), .val (.int p2), .val (.long (v0_5_l4 q0)), .second, .val (.int (v0_14_l6 p1)), .val (.int (v0_21_s0 p1)), .val (.int (v0_43_l8 p1)), .val (.int (v0_51_s0 p1)), .val (.int (v0_73_l10 p1)), .val (.int (v0_81_l11 p1)), .val (.int (v0_93_l12 p2)), .val (.ref b187), .val (.int (v0_614_l14 p1)), .val (.long (v0_628_l15 q0 p1)), .second, .val (.int (0 : Int32)), .val (.long (-2 : Int64)), .second, .val (.int (0 : Int32)), .val (.int (v0_73_l10 p1))] [(.int (v0_813_s0_1 q0 p1))])) t) => k258 t (by
            show Steps p.tables e below (T251.setTop (mkF m 769 #[.val (.long q0), .second, .val (.int p1), .val (.int p2), .val (.long (v0_5_l4 q0)), .second, .val (.int (v0_14_l6 p1)), .val (.int (v0_21_s0 p1)), .val (.int (v0_43_l8 p1)), .val (.int (v0_51_s0 p1)), .val (.int (v0_73_l10 p1)), .val (.int (v0_81_l11 p1)), .val (.int (v0_93_l12 p2)), .val (.ref b187), .val (.int (v0_614_l14 p1)), .val (.long (v0_628_l15 q0 p1)), .second, .val (.int (0 : Int32)), .unset, .unset, .val (.int (0 : Int32)), .val (.int (v0_73_l10 p1))] [(.int (17 : Int32)), (.int (v0_14_l6 p1))])) _
            refine XS.icmpNo X251.here hx rfl (hb hby at_769) rfl (tlt hc769_259).2.2.2 ?_
            refine X251.ldc2Long hx hown (mvT hZ (hw _ (List.mem_of_getElem? (i := 37) rfl))) (g := (mkF m 772 #[.val (.long q0), .second, .val (.int p1), .val (.int p2), .val (.long (v0_5_l4 q0)), .second, .val (.int (v0_14_l6 p1)), .val (.int (v0_21_s0 p1)), .val (.int (v0_43_l8 p1)), .val (.int (v0_51_s0 p1)), .val (.int (v0_73_l10 p1)), .val (.int (v0_81_l11 p1)), .val (.int (v0_93_l12 p2)), .val (.ref b187), .val (.int (v0_614_l14 p1)), .val (.long (v0_628_l15 q0 p1)), .second, .val (.int (0 : Int32)), .unset, .unset, .val (.int (0 : Int32)), .val (.int (v0_73_l10 p1))] [])) rfl (hb hby at_772) _ ?_
            refine XS.lstore X251.here hx rfl (hb hby at_775) rfl (l' := #[.val (.long q0), .second, .val (.int p1), .val (.int p2), .val (.long (v0_5_l4 q0)), .second, .val (.int (v0_14_l6 p1)), .val (.int (v0_21_s0 p1)), .val (.int (v0_43_l8 p1)), .val (.int (v0_51_s0 p1)), .val (.int (v0_73_l10 p1)), .val (.int (v0_81_l11 p1)), .val (.int (v0_93_l12 p2)), .val (.ref b187), .val (.int (v0_614_l14 p1)), .val (.long (v0_628_l15 q0 p1)), .second, .val (.int (0 : Int32)), .val (.long (-2 : Int64)), .second, .val (.int (0 : Int32)), .val (.int (v0_73_l10 p1))]) rfl ?_
            show Steps p.tables e below (T251.setTop (mkF m 777 #[.val (.long q0), .second, .val (.int p1), .val (.int p2), .val (.long (v0_5_l4 q0)), .second, .val (.int (v0_14_l6 p1)), .val (.int (v0_21_s0 p1)), .val (.int (v0_43_l8 p1)), .val (.int (v0_51_s0 p1)), .val (.int (v0_73_l10 p1)), .val (.int (v0_81_l11 p1)), .val (.int (v0_93_l12 p2)), .val (.ref b187), .val (.int (v0_614_l14 p1)), .val (.long (v0_628_l15 q0 p1)), .second, .val (.int (0 : Int32)), .val (.long (-2 : Int64)), .second, .val (.int (0 : Int32)), .val (.int (v0_73_l10 p1))] [])) _
            refine XS.goto X251.here hx rfl (pc0 := 777) (pc' := 808) rfl (hb hby at_777) (by decide) (by decide) ?_
            refine XS.lload X251.here hx rfl (hb hby at_808) rfl ?_
            refine XS.lload X251.here hx rfl (hb hby at_810) rfl ?_
            refine XS.lcmp X251.here hx rfl (hb hby at_812) rfl ?_
            suffices k261 : Steps p.tables e below (T251.setTop (mkF m 821 #[.val (.long q0), .second, .val (.int p1), .val (.int p2), .val (.long (v0_5_l4 q0)), .second, .val (.int (v0_14_l6 p1)), .val (.int (v0_21_s0 p1)), .val (.int (v0_43_l8 p1)), .val (.int (v0_51_s0 p1)), .val (.int (v0_73_l10 p1)), .val (.int (v0_81_l11 p1)), .val (.int (v0_93_l12 p2)), .val (.ref b187), .val (.int (v0_614_l14 p1)), .val (.long (v0_628_l15 q0 p1)), .second, .val (.int (0 : Int32)), .val (.long (-2 : Int64)), .second, .val (.int (0 : Int32)), .val (.int (v0_73_l10 p1))] [(.int (v0_813_s0_1 q0 p1))])) t by
              by_cases hc813_260 : (v0_628_l15 q0 p1) = (-2 : Int64)
              · rw [(show (v0_813_s0_1 q0 p1) = (1 : Int32) from if_pos hc813_260)] at k261
                show Steps p.tables e below (T251.setTop (mkF m 813 #[.val (.long q0), .second, .val (.int p1), .val (.int p2), .val (.long (v0_5_l4 q0)), .second, .val (.int (v0_14_l6 p1)), .val (.int (v0_21_s0 p1)), .val (.int (v0_43_l8 p1)), .val (.int (v0_51_s0 p1)), .val (.int (v0_73_l10 p1)), .val (.int (v0_81_l11 p1)), .val (.int (v0_93_l12 p2)), .val (.ref b187), .val (.int (v0_614_l14 p1)), .val (.long (v0_628_l15 q0 p1)), .second, .val (.int (0 : Int32)), .val (.long (-2 : Int64)), .second, .val (.int (0 : Int32)), .val (.int (v0_73_l10 p1))] [(.int (lcmpW (v0_628_l15 q0 p1) (-2 : Int64)))])) _
                refine XS.ifNo X251.here hx rfl (hb hby at_813) rfl ((if0 _ _).trans (teq ((lw_eq _ _).mpr hc813_260)).2) ?_
                refine XS.iconst X251.here hx rfl (hb hby at_816) ?_
                refine XS.goto X251.here hx rfl (pc0 := 817) (pc' := 821) rfl (hb hby at_817) (by decide) (by decide) ?_
                exact k261
              · rw [(show (v0_813_s0_1 q0 p1) = (0 : Int32) from if_neg hc813_260)] at k261
                show Steps p.tables e below (T251.setTop (mkF m 813 #[.val (.long q0), .second, .val (.int p1), .val (.int p2), .val (.long (v0_5_l4 q0)), .second, .val (.int (v0_14_l6 p1)), .val (.int (v0_21_s0 p1)), .val (.int (v0_43_l8 p1)), .val (.int (v0_51_s0 p1)), .val (.int (v0_73_l10 p1)), .val (.int (v0_81_l11 p1)), .val (.int (v0_93_l12 p2)), .val (.ref b187), .val (.int (v0_614_l14 p1)), .val (.long (v0_628_l15 q0 p1)), .second, .val (.int (0 : Int32)), .val (.long (-2 : Int64)), .second, .val (.int (0 : Int32)), .val (.int (v0_73_l10 p1))] [(.int (lcmpW (v0_628_l15 q0 p1) (-2 : Int64)))])) _
                refine XS.ifYes X251.here hx rfl (pc0 := 813) (pc' := 820) rfl (hb hby at_813) rfl ((if0 _ _).trans (feq (fun q => hc813_260 ((lw_eq _ _).mp q))).2) (by decide) (by decide) ?_
                show Steps p.tables e below (T251.setTop (mkF m 820 #[.val (.long q0), .second, .val (.int p1), .val (.int p2), .val (.long (v0_5_l4 q0)), .second, .val (.int (v0_14_l6 p1)), .val (.int (v0_21_s0 p1)), .val (.int (v0_43_l8 p1)), .val (.int (v0_51_s0 p1)), .val (.int (v0_73_l10 p1)), .val (.int (v0_81_l11 p1)), .val (.int (v0_93_l12 p2)), .val (.ref b187), .val (.int (v0_614_l14 p1)), .val (.long (v0_628_l15 q0 p1)), .second, .val (.int (0 : Int32)), .val (.long (-2 : Int64)), .second, .val (.int (0 : Int32)), .val (.int (v0_73_l10 p1))] [])) _
                refine XS.iconst X251.here hx rfl (hb hby at_820) ?_
                exact k261
            exact kk)
          obtain ⟨fs, hr, hrun, hended, hW, hsame⟩ := X251.leave (v := some (.int (nar .boolean (v0_813_s0_1 q0 p1)))) (fun h => by rw [Bd.returns] at h; cases h)
          have hv : (v0_ret q0 p1 p2) = (nar .boolean (v0_813_s0_1 q0 p1)) := ((if_pos hc526_247).trans ((if_pos hc559_249).trans ((if_neg hc718_254).trans (if_pos hc769_259))))
          have hone : (nar .boolean (v0_813_s0_1 q0 p1)) = 1 := hv.symm.trans (own_law q0 p1 p2)
          refine ⟨_, _, k262 _ ?_, hrun, hended, _, _, rfl, ?_, ⟨_, rfl⟩, hW, hsame.mono (by decide) (by decide)⟩
          · show Steps p.tables e below (T251.setTop (mkF m 821 #[.val (.long q0), .second, .val (.int p1), .val (.int p2), .val (.long (v0_5_l4 q0)), .second, .val (.int (v0_14_l6 p1)), .val (.int (v0_21_s0 p1)), .val (.int (v0_43_l8 p1)), .val (.int (v0_51_s0 p1)), .val (.int (v0_73_l10 p1)), .val (.int (v0_81_l11 p1)), .val (.int (v0_93_l12 p2)), .val (.ref b187), .val (.int (v0_614_l14 p1)), .val (.long (v0_628_l15 q0 p1)), .second, .val (.int (0 : Int32)), .val (.long (-2 : Int64)), .second, .val (.int (0 : Int32)), .val (.int (v0_73_l10 p1))] [(.int (v0_813_s0_1 q0 p1))])) _
            exact retN X251 hx (t := .boolean) Bd.returns (by simp) (hb hby at_821) hr
          · show Q0 Z q0 p1 p2 h0 n0 _ T251.heap _
            rw [e251]
            exact ⟨congrArg (fun z => some (Value.int z)) hone, N251⟩
        · have k263 := fun (t : State) (kk : Steps p.tables e below (T251.setTop (mkF m 784 #[.val (.long q0), .second, .val (.int p1), .val (.int p2), .val (.long (v0_5_l4 q0)), .second, .val (.int (v0_14_l6 p1)), .val (.int (v0_21_s0 p1)), .val (.int (v0_43_l8 p1)), .val (.int (v0_51_s0 p1)), .val (.int (v0_73_l10 p1)), .val (.int (v0_81_l11 p1)), .val (.int (v0_93_l12 p2)), .val (.ref b187), .val (.int (v0_614_l14 p1)), .val (.long (v0_628_l15 q0 p1)), .second, .val (.int (0 : Int32)), .unset, .unset, .val (.int (0 : Int32)), .val (.int (v0_73_l10 p1))] [(.int (v0_14_l6 p1)), (.long (v0_5_l4 q0))])) t) => k258 t (by
            show Steps p.tables e below (T251.setTop (mkF m 769 #[.val (.long q0), .second, .val (.int p1), .val (.int p2), .val (.long (v0_5_l4 q0)), .second, .val (.int (v0_14_l6 p1)), .val (.int (v0_21_s0 p1)), .val (.int (v0_43_l8 p1)), .val (.int (v0_51_s0 p1)), .val (.int (v0_73_l10 p1)), .val (.int (v0_81_l11 p1)), .val (.int (v0_93_l12 p2)), .val (.ref b187), .val (.int (v0_614_l14 p1)), .val (.long (v0_628_l15 q0 p1)), .second, .val (.int (0 : Int32)), .unset, .unset, .val (.int (0 : Int32)), .val (.int (v0_73_l10 p1))] [(.int (17 : Int32)), (.int (v0_14_l6 p1))])) _
            refine XS.icmpYes X251.here hx rfl (pc0 := 769) (pc' := 780) rfl (hb hby at_769) rfl (flt hc769_259).2.2.2 (by decide) (by decide) ?_
            refine XS.lload X251.here hx rfl (hb hby at_780) rfl ?_
            refine XS.iload X251.here hx rfl (hb hby at_782) rfl ?_
            exact kk)
          have Zz264 : n0 ≤ T244.heap.size := (Nat.le_trans Z0 K244.1)
          obtain ⟨_, _, ⟨T264, L264, k264, n264⟩, -, X264, ⟨Lc264, hQ264, l264, y264, z264⟩, st264⟩ := Jvm.LawKit.callS X251 hx (y := (⟨"com/example/gavelbook/gavelbook/DecimalsParsePinLaw", "pow10", "(I)J"⟩ : MethodName)) hown (mvT hZ (hw _ (List.mem_of_getElem? (i := 7) rfl))) (mvT hZ (hw _ (List.mem_of_getElem? (i := 8) rfl))) (mvT hZ (hw _ (List.mem_of_getElem? (i := 4) rfl))) (mvT hZ (hw _ (List.mem_of_getElem? (i := 9) rfl))) (by decide) (backOf (W := 2) (rm2 l Z a0 hw [] (v0_14_l6 p1) T244.heap n0 Zz264 (own_hI17 p1 hc769_259 : ¬ (v0_14_l6 p1) < 0 ∧ (v0_14_l6 p1) < (19 : Int32))) hZ (hw _ (List.mem_of_getElem? (i := 9) rfl)) (hw _ (List.mem_of_getElem? (i := 4) rfl)) (by decide) (by decide)) (g := (mkF m 784 #[.val (.long q0), .second, .val (.int p1), .val (.int p2), .val (.long (v0_5_l4 q0)), .second, .val (.int (v0_14_l6 p1)), .val (.int (v0_21_s0 p1)), .val (.int (v0_43_l8 p1)), .val (.int (v0_51_s0 p1)), .val (.int (v0_73_l10 p1)), .val (.int (v0_81_l11 p1)), .val (.int (v0_93_l12 p2)), .val (.ref b187), .val (.int (v0_614_l14 p1)), .val (.long (v0_628_l15 q0 p1)), .second, .val (.int (0 : Int32)), .unset, .unset, .val (.int (0 : Int32)), .val (.int (v0_73_l10 p1))] [(.int (v0_14_l6 p1)), (.long (v0_5_l4 q0))])) rfl (by rw [hml]; rfl) (argsL := [(.int (v0_14_l6 p1))]) (rest := [(.long (v0_5_l4 q0))]) (lenOf pd_0 rfl) rfl (by show 2 * 0 + _ ≤ _; exact Nat.le_of_eq rfl) (hb hby at_784) (fun _ _ => ⟨rfl, e251, (by decide : 20 + 1 ≤ _), (by decide : 386 + 19 ≤ _)⟩)
          dsimp only [Pt.U, Pt.locs, Pt.cells, Pt.slots] at X264 l264 y264 z264 st264 hQ264
          subst l264 y264 z264
          obtain ⟨rfl, N264q, Kq264⟩ := hQ264
          have K264 : Keep h0 T264.heap [] := K244.trans Kq264 all0
          have N264 := Fr.app N251 N264q
          have k265 := fun (t : State) (kk : Steps p.tables e below (T264.setTop (mkF m 787 #[.val (.long q0), .second, .val (.int p1), .val (.int p2), .val (.long (v0_5_l4 q0)), .second, .val (.int (v0_14_l6 p1)), .val (.int (v0_21_s0 p1)), .val (.int (v0_43_l8 p1)), .val (.int (v0_51_s0 p1)), .val (.int (v0_73_l10 p1)), .val (.int (v0_81_l11 p1)), .val (.int (v0_93_l12 p2)), .val (.ref b187), .val (.int (v0_614_l14 p1)), .val (.long (v0_628_l15 q0 p1)), .second, .val (.int (0 : Int32)), .unset, .unset, .val (.int (0 : Int32)), .val (.int (v0_73_l10 p1))] [(.long (v2_132_at (v0_14_l6 p1))), (.long (v0_5_l4 q0))])) t) => k263 t (st264 _ kk)
          have k268 := fun (t : State) (kk : Steps p.tables e below (T264.setTop (mkF m 821 #[.val (.long q0), .second, .val (.int p1), .val (.int p2), .val (.long (v0_5_l4 q0)), .second, .val (.int (v0_14_l6 p1)), .val (.int (v0_21_s0 p1)), .val (.int (v0_43_l8 p1)), .val (.int (v0_51_s0 p1)), .val (.int (v0_73_l10 p1)), .val (.int (v0_81_l11 p1)), .val (.int (v0_93_l12 p2)), .val (.ref b187), .val (.int (v0_614_l14 p1)), .val (.long (v0_628_l15 q0 p1)), .second, .val (.int (0 : Int32)), .val (.long (v0_806_l18 q0 p1)), .second, .val (.int (0 : Int32)), .val (.int (v0_73_l10 p1))] [(.int (v0_813_s0_2 q0 p1))])) t) => k265 t (by
            refine own_lremM X264 hx rfl (hb hby at_787) rfl (own_pnz _ (own_hI17 p1 hc769_259)) ?_
            refine XS.iconst X264.here hx rfl (hb hby at_788) ?_
            refine XS.lshl X264.here hx rfl (hb hby at_789) rfl ?_
            show Steps p.tables e below (T264.setTop (mkF m 790 #[.val (.long q0), .second, .val (.int p1), .val (.int p2), .val (.long (v0_5_l4 q0)), .second, .val (.int (v0_14_l6 p1)), .val (.int (v0_21_s0 p1)), .val (.int (v0_43_l8 p1)), .val (.int (v0_51_s0 p1)), .val (.int (v0_73_l10 p1)), .val (.int (v0_81_l11 p1)), .val (.int (v0_93_l12 p2)), .val (.ref b187), .val (.int (v0_614_l14 p1)), .val (.long (v0_628_l15 q0 p1)), .second, .val (.int (0 : Int32)), .unset, .unset, .val (.int (0 : Int32)), .val (.int (v0_73_l10 p1))] [(.long (((v0_5_l4 q0) % (v2_132_at (v0_14_l6 p1))) <<< ((4 : Int32) &&& 0x3f).toInt64))])) _
            refine XS.iload X264.here hx rfl (hb hby at_790) rfl ?_
            show Steps p.tables e below (T264.setTop (mkF m 792 #[.val (.long q0), .second, .val (.int p1), .val (.int p2), .val (.long (v0_5_l4 q0)), .second, .val (.int (v0_14_l6 p1)), .val (.int (v0_21_s0 p1)), .val (.int (v0_43_l8 p1)), .val (.int (v0_51_s0 p1)), .val (.int (v0_73_l10 p1)), .val (.int (v0_81_l11 p1)), .val (.int (v0_93_l12 p2)), .val (.ref b187), .val (.int (v0_614_l14 p1)), .val (.long (v0_628_l15 q0 p1)), .second, .val (.int (0 : Int32)), .unset, .unset, .val (.int (0 : Int32)), .val (.int (v0_73_l10 p1))] [(.int (0 : Int32)), (.long (((v0_5_l4 q0) % (v2_132_at (v0_14_l6 p1))) <<< ((4 : Int32) &&& 0x3f).toInt64))])) _
            refine XS.ifYes X264.here hx rfl (pc0 := 792) (pc' := 803) rfl (hb hby at_792) rfl ((if0 _ _).trans (teq (rfl : (0 : Int32) = (0 : Int32))).1) (by decide) (by decide) ?_
            refine XS.iconst X264.here hx rfl (hb hby at_803) ?_
            refine XS.i2l X264.here hx rfl (hb hby at_804) rfl ?_
            refine XS.lor X264.here hx rfl (hb hby at_805) rfl ?_
            refine XS.lstore X264.here hx rfl (hb hby at_806) rfl (l' := #[.val (.long q0), .second, .val (.int p1), .val (.int p2), .val (.long (v0_5_l4 q0)), .second, .val (.int (v0_14_l6 p1)), .val (.int (v0_21_s0 p1)), .val (.int (v0_43_l8 p1)), .val (.int (v0_51_s0 p1)), .val (.int (v0_73_l10 p1)), .val (.int (v0_81_l11 p1)), .val (.int (v0_93_l12 p2)), .val (.ref b187), .val (.int (v0_614_l14 p1)), .val (.long (v0_628_l15 q0 p1)), .second, .val (.int (0 : Int32)), .val (.long (v0_806_l18 q0 p1)), .second, .val (.int (0 : Int32)), .val (.int (v0_73_l10 p1))]) rfl ?_
            refine XS.lload X264.here hx rfl (hb hby at_808) rfl ?_
            show Steps p.tables e below (T264.setTop (mkF m 810 #[.val (.long q0), .second, .val (.int p1), .val (.int p2), .val (.long (v0_5_l4 q0)), .second, .val (.int (v0_14_l6 p1)), .val (.int (v0_21_s0 p1)), .val (.int (v0_43_l8 p1)), .val (.int (v0_51_s0 p1)), .val (.int (v0_73_l10 p1)), .val (.int (v0_81_l11 p1)), .val (.int (v0_93_l12 p2)), .val (.ref b187), .val (.int (v0_614_l14 p1)), .val (.long (v0_628_l15 q0 p1)), .second, .val (.int (0 : Int32)), .val (.long (v0_806_l18 q0 p1)), .second, .val (.int (0 : Int32)), .val (.int (v0_73_l10 p1))] [(.long (v0_628_l15 q0 p1))])) _
            refine XS.lload X264.here hx rfl (hb hby at_810) rfl ?_
            refine XS.lcmp X264.here hx rfl (hb hby at_812) rfl ?_
            suffices k267 : Steps p.tables e below (T264.setTop (mkF m 821 #[.val (.long q0), .second, .val (.int p1), .val (.int p2), .val (.long (v0_5_l4 q0)), .second, .val (.int (v0_14_l6 p1)), .val (.int (v0_21_s0 p1)), .val (.int (v0_43_l8 p1)), .val (.int (v0_51_s0 p1)), .val (.int (v0_73_l10 p1)), .val (.int (v0_81_l11 p1)), .val (.int (v0_93_l12 p2)), .val (.ref b187), .val (.int (v0_614_l14 p1)), .val (.long (v0_628_l15 q0 p1)), .second, .val (.int (0 : Int32)), .val (.long (v0_806_l18 q0 p1)), .second, .val (.int (0 : Int32)), .val (.int (v0_73_l10 p1))] [(.int (v0_813_s0_2 q0 p1))])) t by
              by_cases hc813_266 : (v0_628_l15 q0 p1) = (v0_806_l18 q0 p1)
              · rw [(show (v0_813_s0_2 q0 p1) = (1 : Int32) from if_pos hc813_266)] at k267
                show Steps p.tables e below (T264.setTop (mkF m 813 #[.val (.long q0), .second, .val (.int p1), .val (.int p2), .val (.long (v0_5_l4 q0)), .second, .val (.int (v0_14_l6 p1)), .val (.int (v0_21_s0 p1)), .val (.int (v0_43_l8 p1)), .val (.int (v0_51_s0 p1)), .val (.int (v0_73_l10 p1)), .val (.int (v0_81_l11 p1)), .val (.int (v0_93_l12 p2)), .val (.ref b187), .val (.int (v0_614_l14 p1)), .val (.long (v0_628_l15 q0 p1)), .second, .val (.int (0 : Int32)), .val (.long (v0_806_l18 q0 p1)), .second, .val (.int (0 : Int32)), .val (.int (v0_73_l10 p1))] [(.int (lcmpW (v0_628_l15 q0 p1) (v0_806_l18 q0 p1)))])) _
                refine XS.ifNo X264.here hx rfl (hb hby at_813) rfl ((if0 _ _).trans (teq ((lw_eq _ _).mpr hc813_266)).2) ?_
                refine XS.iconst X264.here hx rfl (hb hby at_816) ?_
                refine XS.goto X264.here hx rfl (pc0 := 817) (pc' := 821) rfl (hb hby at_817) (by decide) (by decide) ?_
                exact k267
              · rw [(show (v0_813_s0_2 q0 p1) = (0 : Int32) from if_neg hc813_266)] at k267
                show Steps p.tables e below (T264.setTop (mkF m 813 #[.val (.long q0), .second, .val (.int p1), .val (.int p2), .val (.long (v0_5_l4 q0)), .second, .val (.int (v0_14_l6 p1)), .val (.int (v0_21_s0 p1)), .val (.int (v0_43_l8 p1)), .val (.int (v0_51_s0 p1)), .val (.int (v0_73_l10 p1)), .val (.int (v0_81_l11 p1)), .val (.int (v0_93_l12 p2)), .val (.ref b187), .val (.int (v0_614_l14 p1)), .val (.long (v0_628_l15 q0 p1)), .second, .val (.int (0 : Int32)), .val (.long (v0_806_l18 q0 p1)), .second, .val (.int (0 : Int32)), .val (.int (v0_73_l10 p1))] [(.int (lcmpW (v0_628_l15 q0 p1) (v0_806_l18 q0 p1)))])) _
                refine XS.ifYes X264.here hx rfl (pc0 := 813) (pc' := 820) rfl (hb hby at_813) rfl ((if0 _ _).trans (feq (fun q => hc813_266 ((lw_eq _ _).mp q))).2) (by decide) (by decide) ?_
                refine XS.iconst X264.here hx rfl (hb hby at_820) ?_
                exact k267
            exact kk)
          obtain ⟨fs, hr, hrun, hended, hW, hsame⟩ := X264.leave (v := some (.int (nar .boolean (v0_813_s0_2 q0 p1)))) (fun h => by rw [Bd.returns] at h; cases h)
          have hv : (v0_ret q0 p1 p2) = (nar .boolean (v0_813_s0_2 q0 p1)) := ((if_pos hc526_247).trans ((if_pos hc559_249).trans ((if_neg hc718_254).trans (if_neg hc769_259))))
          have hone : (nar .boolean (v0_813_s0_2 q0 p1)) = 1 := hv.symm.trans (own_law q0 p1 p2)
          refine ⟨_, _, k268 _ ?_, hrun, hended, _, _, rfl, ?_, ⟨_, rfl⟩, hW, hsame.mono (by decide) (by decide)⟩
          · show Steps p.tables e below (T264.setTop (mkF m 821 #[.val (.long q0), .second, .val (.int p1), .val (.int p2), .val (.long (v0_5_l4 q0)), .second, .val (.int (v0_14_l6 p1)), .val (.int (v0_21_s0 p1)), .val (.int (v0_43_l8 p1)), .val (.int (v0_51_s0 p1)), .val (.int (v0_73_l10 p1)), .val (.int (v0_81_l11 p1)), .val (.int (v0_93_l12 p2)), .val (.ref b187), .val (.int (v0_614_l14 p1)), .val (.long (v0_628_l15 q0 p1)), .second, .val (.int (0 : Int32)), .val (.long (v0_806_l18 q0 p1)), .second, .val (.int (0 : Int32)), .val (.int (v0_73_l10 p1))] [(.int (v0_813_s0_2 q0 p1))])) _
            exact retN X264 hx (t := .boolean) Bd.returns (by simp) (hb hby at_821) hr
          · show Q0 Z q0 p1 p2 h0 n0 _ T264.heap _
            exact ⟨congrArg (fun z => some (Value.int z)) hone, N264⟩
    · have k269 := fun (t : State) (kk : Steps p.tables e below (T244.setTop (mkF m 589 #[.val (.long q0), .second, .val (.int p1), .val (.int p2), .val (.long (v0_5_l4 q0)), .second, .val (.int (v0_14_l6 p1)), .val (.int (v0_21_s0 p1)), .val (.int (v0_43_l8 p1)), .val (.int (v0_51_s0 p1)), .val (.int (v0_73_l10 p1)), .val (.int (v0_81_l11 p1)), .val (.int (v0_93_l12 p2)), .val (.ref b187), .unset, .unset, .unset, .unset, .unset, .unset, .unset, .unset] [(.int (v0_93_l12 p2)), (.int (((v0_81_l11 p1) + (v0_73_l10 p1)) + (0 : Int32))), (.ref b187)])) t) => k248 t (by
        show Steps p.tables e below (T244.setTop (mkF m 559 #[.val (.long q0), .second, .val (.int p1), .val (.int p2), .val (.long (v0_5_l4 q0)), .second, .val (.int (v0_14_l6 p1)), .val (.int (v0_21_s0 p1)), .val (.int (v0_43_l8 p1)), .val (.int (v0_51_s0 p1)), .val (.int (v0_73_l10 p1)), .val (.int (v0_81_l11 p1)), .val (.int (v0_93_l12 p2)), .val (.ref b187), .unset, .unset, .unset, .unset, .unset, .unset, .unset, .unset] [(.int (v0_51_s0 p1))])) _
        refine XS.ifNo X244.here hx rfl (hb hby at_559) rfl ((if0 _ _).trans (feq hc559_249).1) ?_
        refine XS.aload X244.here hx rfl (hb hby at_562) rfl rfl ?_
        show Steps p.tables e below (T244.setTop (mkF m 564 #[.val (.long q0), .second, .val (.int p1), .val (.int p2), .val (.long (v0_5_l4 q0)), .second, .val (.int (v0_14_l6 p1)), .val (.int (v0_21_s0 p1)), .val (.int (v0_43_l8 p1)), .val (.int (v0_51_s0 p1)), .val (.int (v0_73_l10 p1)), .val (.int (v0_81_l11 p1)), .val (.int (v0_93_l12 p2)), .val (.ref b187), .unset, .unset, .unset, .unset, .unset, .unset, .unset, .unset] [(.ref b187)])) _
        refine XS.iload X244.here hx rfl (hb hby at_564) rfl ?_
        refine XS.iload X244.here hx rfl (hb hby at_566) rfl ?_
        refine XS.iadd X244.here hx rfl (hb hby at_568) rfl ?_
        refine XS.iload X244.here hx rfl (hb hby at_569) rfl ?_
        show Steps p.tables e below (T244.setTop (mkF m 571 #[.val (.long q0), .second, .val (.int p1), .val (.int p2), .val (.long (v0_5_l4 q0)), .second, .val (.int (v0_14_l6 p1)), .val (.int (v0_21_s0 p1)), .val (.int (v0_43_l8 p1)), .val (.int (v0_51_s0 p1)), .val (.int (v0_73_l10 p1)), .val (.int (v0_81_l11 p1)), .val (.int (v0_93_l12 p2)), .val (.ref b187), .unset, .unset, .unset, .unset, .unset, .unset, .unset, .unset] [(.int (v0_21_s0 p1)), (.int ((v0_81_l11 p1) + (v0_73_l10 p1))), (.ref b187)])) _
        refine XS.ifYes X244.here hx rfl (pc0 := 571) (pc' := 585) rfl (hb hby at_571) rfl ((if0 _ _).trans (teq hc526_247).1) (by decide) (by decide) ?_
        refine XS.iconst X244.here hx rfl (hb hby at_585) ?_
        refine XS.iadd X244.here hx rfl (hb hby at_586) rfl ?_
        show Steps p.tables e below (T244.setTop (mkF m 587 #[.val (.long q0), .second, .val (.int p1), .val (.int p2), .val (.long (v0_5_l4 q0)), .second, .val (.int (v0_14_l6 p1)), .val (.int (v0_21_s0 p1)), .val (.int (v0_43_l8 p1)), .val (.int (v0_51_s0 p1)), .val (.int (v0_73_l10 p1)), .val (.int (v0_81_l11 p1)), .val (.int (v0_93_l12 p2)), .val (.ref b187), .unset, .unset, .unset, .unset, .unset, .unset, .unset, .unset] [(.int (((v0_81_l11 p1) + (v0_73_l10 p1)) + (0 : Int32))), (.ref b187)])) _
        refine XS.iload X244.here hx rfl (hb hby at_587) rfl ?_
        exact kk)
      have hV270 := V244n
      obtain ⟨cl270, Ar270, q270, S270, Nn270, H270, G270⟩ := hV270
      have hb271 : ¬ (((v0_81_l11 p1) + (v0_73_l10 p1)) + (0 : Int32)) < 0 ∧ (((v0_81_l11 p1) + (v0_73_l10 p1)) + (0 : Int32)) < (25 : Int32) := own_in p1 _ _ (own_m p1) (by decide)
      have hin271 : ¬ ((((v0_81_l11 p1) + (v0_73_l10 p1)) + (0 : Int32)) < 0 ∨ cl270.slots.size ≤ ((((v0_81_l11 p1) + (v0_73_l10 p1)) + (0 : Int32))).toNatClampNeg) := inb_of S270 hb271
      obtain ⟨T271, h271, X271, e271, W271, st271⟩ := stB X244 hx hZ rfl Ar270 (j := (((v0_81_l11 p1) + (v0_73_l10 p1)) + (0 : Int32))) hin271 (g := (mkF m 589 #[.val (.long q0), .second, .val (.int p1), .val (.int p2), .val (.long (v0_5_l4 q0)), .second, .val (.int (v0_14_l6 p1)), .val (.int (v0_21_s0 p1)), .val (.int (v0_43_l8 p1)), .val (.int (v0_51_s0 p1)), .val (.int (v0_73_l10 p1)), .val (.int (v0_81_l11 p1)), .val (.int (v0_93_l12 p2)), .val (.ref b187), .unset, .unset, .unset, .unset, .unset, .unset, .unset, .unset] [(.int (v0_93_l12 p2)), (.int (((v0_81_l11 p1) + (v0_73_l10 p1)) + (0 : Int32))), (.ref b187)])) rfl rfl (hb hby at_589)
      have hl271 : ((((v0_81_l11 p1) + (v0_73_l10 p1)) + (0 : Int32))).toNatClampNeg < (List.map Value.int (v0_521_L0 q0 p1)).length := by rw [List.length_map, VL244n]; exact own_lt_nat hb271.1 hb271.2
      have V271r : Arv Z h271 b187 k187 .byte (25 : Int32) (List.map Value.int ((v0_521_L0 q0 p1).set ((((v0_81_l11 p1) + (v0_73_l10 p1)) + (0 : Int32))).toNatClampNeg (((v0_93_l12 p2)).toInt8.toInt32))) (.int (0 : Int32)) := by rw [List.map_set]; exact Arv.set Ar270 q270 S270 Nn270 H270 G270 (fits_nar_byte _) W271 _ rfl hl271
      have V271 : Arv Z h271 b187 k187 .byte (25 : Int32) (List.map Value.int (v0_589_L q0 p1 p2)) (.int (0 : Int32)) := V271r
      have VL271 : (v0_589_L q0 p1 p2).length = ((25 : Int32)).toNatClampNeg := (List.length_set).trans VL244n
      have K271 : Keep h0 h271 [] := K244.wr W271 (Or.inr sz_b187)
      have N271 := Fr.snoc X271 N244 g_b187
      have k272 := fun (t : State) (kk : Steps p.tables e below (T271.setTop (mkF m 590 #[.val (.long q0), .second, .val (.int p1), .val (.int p2), .val (.long (v0_5_l4 q0)), .second, .val (.int (v0_14_l6 p1)), .val (.int (v0_21_s0 p1)), .val (.int (v0_43_l8 p1)), .val (.int (v0_51_s0 p1)), .val (.int (v0_73_l10 p1)), .val (.int (v0_81_l11 p1)), .val (.int (v0_93_l12 p2)), .val (.ref b187), .unset, .unset, .unset, .unset, .unset, .unset, .unset, .unset] [])) t) => k269 t (st271 _ kk)
      have k273 := fun (t : State) (kk : Steps p.tables e below (T271.setTop (mkF m 625 #[.val (.long q0), .second, .val (.int p1), .val (.int p2), .val (.long (v0_5_l4 q0)), .second, .val (.int (v0_14_l6 p1)), .val (.int (v0_21_s0 p1)), .val (.int (v0_43_l8 p1)), .val (.int (v0_51_s0 p1)), .val (.int (v0_73_l10 p1)), .val (.int (v0_81_l11 p1)), .val (.int (v0_93_l12 p2)), .val (.ref b187), .val (.int (v0_614_l14_1 p1)), .unset, .unset, .unset, .unset, .unset, .unset, .unset] [(.int ((v0_81_l11 p1) + (v0_614_l14_1 p1))), (.int (v0_81_l11 p1)), (.ref b187)])) t) => k272 t (by
        refine XS.iload X271.here hx rfl (hb hby at_590) rfl ?_
        refine XS.iload X271.here hx rfl (hb hby at_592) rfl ?_
        show Steps p.tables e below (T271.setTop (mkF m 594 #[.val (.long q0), .second, .val (.int p1), .val (.int p2), .val (.long (v0_5_l4 q0)), .second, .val (.int (v0_14_l6 p1)), .val (.int (v0_21_s0 p1)), .val (.int (v0_43_l8 p1)), .val (.int (v0_51_s0 p1)), .val (.int (v0_73_l10 p1)), .val (.int (v0_81_l11 p1)), .val (.int (v0_93_l12 p2)), .val (.ref b187), .unset, .unset, .unset, .unset, .unset, .unset, .unset, .unset] [(.int (v0_21_s0 p1)), (.int (v0_14_l6 p1))])) _
        refine XS.ifYes X271.here hx rfl (pc0 := 594) (pc' := 601) rfl (hb hby at_594) rfl ((if0 _ _).trans (teq hc526_247).1) (by decide) (by decide) ?_
        refine XS.iconst X271.here hx rfl (hb hby at_601) ?_
        refine XS.iadd X271.here hx rfl (hb hby at_602) rfl ?_
        refine XS.iload X271.here hx rfl (hb hby at_603) rfl ?_
        show Steps p.tables e below (T271.setTop (mkF m 605 #[.val (.long q0), .second, .val (.int p1), .val (.int p2), .val (.long (v0_5_l4 q0)), .second, .val (.int (v0_14_l6 p1)), .val (.int (v0_21_s0 p1)), .val (.int (v0_43_l8 p1)), .val (.int (v0_51_s0 p1)), .val (.int (v0_73_l10 p1)), .val (.int (v0_81_l11 p1)), .val (.int (v0_93_l12 p2)), .val (.ref b187), .unset, .unset, .unset, .unset, .unset, .unset, .unset, .unset] [(.int (v0_51_s0 p1)), (.int ((v0_14_l6 p1) + (0 : Int32)))])) _
        refine XS.ifNo X271.here hx rfl (hb hby at_605) rfl ((if0 _ _).trans (feq hc559_249).1) ?_
        show Steps p.tables e below (T271.setTop (mkF m 608 #[.val (.long q0), .second, .val (.int p1), .val (.int p2), .val (.long (v0_5_l4 q0)), .second, .val (.int (v0_14_l6 p1)), .val (.int (v0_21_s0 p1)), .val (.int (v0_43_l8 p1)), .val (.int (v0_51_s0 p1)), .val (.int (v0_73_l10 p1)), .val (.int (v0_81_l11 p1)), .val (.int (v0_93_l12 p2)), .val (.ref b187), .unset, .unset, .unset, .unset, .unset, .unset, .unset, .unset] [(.int ((v0_14_l6 p1) + (0 : Int32)))])) _
        refine XS.iconst X271.here hx rfl (hb hby at_608) ?_
        refine XS.goto X271.here hx rfl (pc0 := 609) (pc' := 613) rfl (hb hby at_609) (by decide) (by decide) ?_
        refine XS.iadd X271.here hx rfl (hb hby at_613) rfl ?_
        refine XS.istore X271.here hx rfl (hb hby at_614) rfl (l' := #[.val (.long q0), .second, .val (.int p1), .val (.int p2), .val (.long (v0_5_l4 q0)), .second, .val (.int (v0_14_l6 p1)), .val (.int (v0_21_s0 p1)), .val (.int (v0_43_l8 p1)), .val (.int (v0_51_s0 p1)), .val (.int (v0_73_l10 p1)), .val (.int (v0_81_l11 p1)), .val (.int (v0_93_l12 p2)), .val (.ref b187), .val (.int (v0_614_l14_1 p1)), .unset, .unset, .unset, .unset, .unset, .unset, .unset]) rfl ?_
        refine XS.aload X271.here hx rfl (hb hby at_616) rfl rfl ?_
        refine XS.iload X271.here hx rfl (hb hby at_618) rfl ?_
        show Steps p.tables e below (T271.setTop (mkF m 620 #[.val (.long q0), .second, .val (.int p1), .val (.int p2), .val (.long (v0_5_l4 q0)), .second, .val (.int (v0_14_l6 p1)), .val (.int (v0_21_s0 p1)), .val (.int (v0_43_l8 p1)), .val (.int (v0_51_s0 p1)), .val (.int (v0_73_l10 p1)), .val (.int (v0_81_l11 p1)), .val (.int (v0_93_l12 p2)), .val (.ref b187), .val (.int (v0_614_l14_1 p1)), .unset, .unset, .unset, .unset, .unset, .unset, .unset] [(.int (v0_81_l11 p1)), (.ref b187)])) _
        refine XS.iload X271.here hx rfl (hb hby at_620) rfl ?_
        refine XS.iload X271.here hx rfl (hb hby at_622) rfl ?_
        refine XS.iadd X271.here hx rfl (hb hby at_624) rfl ?_
        exact kk)
      have Zz274 : n0 ≤ h271.size := (Nat.le_trans Z0 K271.1)
      obtain ⟨_, _, ⟨T274, L274, k274, n274⟩, -, X274, ⟨Lc274, hQ274, l274, y274, z274⟩, st274⟩ := Jvm.LawKit.callS X271 hx (y := (⟨"com/example/gavelbook/gavelbook/Decimals", "parse", "([BII)J"⟩ : MethodName)) hown (mvT hZ (hw _ (List.mem_of_getElem? (i := 29) rfl))) (mvT hZ (hw _ (List.mem_of_getElem? (i := 30) rfl))) (mvT hZ (hw _ (List.mem_of_getElem? (i := 31) rfl))) (mvT hZ (hw _ (List.mem_of_getElem? (i := 32) rfl))) (by decide) (backOf (W := 0) (rm3 l Z a0 hw [] b187 (v0_81_l11 p1) ((v0_81_l11 p1) + (v0_614_l14_1 p1)) k187 (25 : Int32) (v0_589_L q0 p1 p2) h271 n0 Zz274 (own_hst p1 : ¬ (v0_81_l11 p1) < 0) (own_hfin p1 0 1 (by decide) (by decide) : ¬ (25 : Int32) < ((v0_81_l11 p1) + (v0_614_l14_1 p1))) V271 VL271) hZ (hw _ (List.mem_of_getElem? (i := 32) rfl)) (hw _ (List.mem_of_getElem? (i := 31) rfl)) (by decide) (by decide)) (g := (mkF m 625 #[.val (.long q0), .second, .val (.int p1), .val (.int p2), .val (.long (v0_5_l4 q0)), .second, .val (.int (v0_14_l6 p1)), .val (.int (v0_21_s0 p1)), .val (.int (v0_43_l8 p1)), .val (.int (v0_51_s0 p1)), .val (.int (v0_73_l10 p1)), .val (.int (v0_81_l11 p1)), .val (.int (v0_93_l12 p2)), .val (.ref b187), .val (.int (v0_614_l14_1 p1)), .unset, .unset, .unset, .unset, .unset, .unset, .unset] [(.int ((v0_81_l11 p1) + (v0_614_l14_1 p1))), (.int (v0_81_l11 p1)), (.ref b187)])) rfl (by rw [hml]; rfl) (argsL := [(.ref b187), (.int (v0_81_l11 p1)), (.int ((v0_81_l11 p1) + (v0_614_l14_1 p1)))]) (rest := []) (lenOf pd_2 rfl) rfl (by show 2 * 0 + _ ≤ _; exact Nat.le_of_eq rfl) (hb hby at_625) (fun _ _ => ⟨rfl, e271, (by decide : 20 + 0 ≤ _), (by decide : 386 + 0 ≤ _)⟩)
      dsimp only [Pt.U, Pt.locs, Pt.cells, Pt.slots] at X274 l274 y274 z274 st274 hQ274
      subst l274 y274 z274
      obtain ⟨rfl, N274q, e274⟩ := hQ274
      have N274 := Fr.app N271 N274q
      have k275 := fun (t : State) (kk : Steps p.tables e below (T274.setTop (mkF m 628 #[.val (.long q0), .second, .val (.int p1), .val (.int p2), .val (.long (v0_5_l4 q0)), .second, .val (.int (v0_14_l6 p1)), .val (.int (v0_21_s0 p1)), .val (.int (v0_43_l8 p1)), .val (.int (v0_51_s0 p1)), .val (.int (v0_73_l10 p1)), .val (.int (v0_81_l11 p1)), .val (.int (v0_93_l12 p2)), .val (.ref b187), .val (.int (v0_614_l14_1 p1)), .unset, .unset, .unset, .unset, .unset, .unset, .unset] [(.long (own_parse (v0_81_l11 p1) ((v0_81_l11 p1) + (v0_614_l14_1 p1)) (v0_589_L q0 p1 p2) (((v0_81_l11 p1) + (v0_614_l14_1 p1)).toInt - (v0_81_l11 p1).toInt).toNat (0 : Int64) (0 : Int32) (-1 : Int32) (v0_81_l11 p1)))])) t) => k273 t (st274 _ kk)
      have k278 := fun (t : State) (kk : Steps p.tables e below (T274.setTop (mkF m 656 #[.val (.long q0), .second, .val (.int p1), .val (.int p2), .val (.long (v0_5_l4 q0)), .second, .val (.int (v0_14_l6 p1)), .val (.int (v0_21_s0 p1)), .val (.int (v0_43_l8 p1)), .val (.int (v0_51_s0 p1)), .val (.int (v0_73_l10 p1)), .val (.int (v0_81_l11 p1)), .val (.int (v0_93_l12 p2)), .val (.ref b187), .val (.int (v0_614_l14_1 p1)), .val (.long (v0_628_l15_1 q0 p1 p2)), .second, .val (.int (v0_639_s0 p2)), .unset, .unset, .unset, .unset] [(.int (v0_639_s0 p2))])) t) => k275 t (by
        refine XS.lstore X274.here hx rfl (hb hby at_628) rfl (l' := #[.val (.long q0), .second, .val (.int p1), .val (.int p2), .val (.long (v0_5_l4 q0)), .second, .val (.int (v0_14_l6 p1)), .val (.int (v0_21_s0 p1)), .val (.int (v0_43_l8 p1)), .val (.int (v0_51_s0 p1)), .val (.int (v0_73_l10 p1)), .val (.int (v0_81_l11 p1)), .val (.int (v0_93_l12 p2)), .val (.ref b187), .val (.int (v0_614_l14_1 p1)), .val (.long (v0_628_l15_1 q0 p1 p2)), .second, .unset, .unset, .unset, .unset, .unset]) rfl ?_
        refine XS.iload X274.here hx rfl (hb hby at_630) rfl ?_
        show Steps p.tables e below (T274.setTop (mkF m 632 #[.val (.long q0), .second, .val (.int p1), .val (.int p2), .val (.long (v0_5_l4 q0)), .second, .val (.int (v0_14_l6 p1)), .val (.int (v0_21_s0 p1)), .val (.int (v0_43_l8 p1)), .val (.int (v0_51_s0 p1)), .val (.int (v0_73_l10 p1)), .val (.int (v0_81_l11 p1)), .val (.int (v0_93_l12 p2)), .val (.ref b187), .val (.int (v0_614_l14_1 p1)), .val (.long (v0_628_l15_1 q0 p1 p2)), .second, .unset, .unset, .unset, .unset, .unset] [(.int (v0_51_s0 p1))])) _
        refine XS.ifNo X274.here hx rfl (hb hby at_632) rfl ((if0 _ _).trans (feq hc559_249).1) ?_
        refine XS.iload X274.here hx rfl (hb hby at_635) rfl ?_
        show Steps p.tables e below (T274.setTop (mkF m 637 #[.val (.long q0), .second, .val (.int p1), .val (.int p2), .val (.long (v0_5_l4 q0)), .second, .val (.int (v0_14_l6 p1)), .val (.int (v0_21_s0 p1)), .val (.int (v0_43_l8 p1)), .val (.int (v0_51_s0 p1)), .val (.int (v0_73_l10 p1)), .val (.int (v0_81_l11 p1)), .val (.int (v0_93_l12 p2)), .val (.ref b187), .val (.int (v0_614_l14_1 p1)), .val (.long (v0_628_l15_1 q0 p1 p2)), .second, .unset, .unset, .unset, .unset, .unset] [(.int (v0_93_l12 p2))])) _
        refine XS.bipush X274.here hx rfl (hb hby at_637) ?_
        suffices k277 : Steps p.tables e below (T274.setTop (mkF m 647 #[.val (.long q0), .second, .val (.int p1), .val (.int p2), .val (.long (v0_5_l4 q0)), .second, .val (.int (v0_14_l6 p1)), .val (.int (v0_21_s0 p1)), .val (.int (v0_43_l8 p1)), .val (.int (v0_51_s0 p1)), .val (.int (v0_73_l10 p1)), .val (.int (v0_81_l11 p1)), .val (.int (v0_93_l12 p2)), .val (.ref b187), .val (.int (v0_614_l14_1 p1)), .val (.long (v0_628_l15_1 q0 p1 p2)), .second, .unset, .unset, .unset, .unset, .unset] [(.int (v0_639_s0 p2))])) t by
          by_cases hc639_276 : (v0_93_l12 p2) = (46 : Int32)
          · rw [(show (v0_639_s0 p2) = (1 : Int32) from if_pos hc639_276)] at k277
            show Steps p.tables e below (T274.setTop (mkF m 639 #[.val (.long q0), .second, .val (.int p1), .val (.int p2), .val (.long (v0_5_l4 q0)), .second, .val (.int (v0_14_l6 p1)), .val (.int (v0_21_s0 p1)), .val (.int (v0_43_l8 p1)), .val (.int (v0_51_s0 p1)), .val (.int (v0_73_l10 p1)), .val (.int (v0_81_l11 p1)), .val (.int (v0_93_l12 p2)), .val (.ref b187), .val (.int (v0_614_l14_1 p1)), .val (.long (v0_628_l15_1 q0 p1 p2)), .second, .unset, .unset, .unset, .unset, .unset] [(.int (46 : Int32)), (.int (v0_93_l12 p2))])) _
            refine XS.icmpNo X274.here hx rfl (hb hby at_639) rfl (teq hc639_276).2 ?_
            refine XS.iconst X274.here hx rfl (hb hby at_642) ?_
            refine XS.goto X274.here hx rfl (pc0 := 643) (pc' := 647) rfl (hb hby at_643) (by decide) (by decide) ?_
            exact k277
          · rw [(show (v0_639_s0 p2) = (0 : Int32) from if_neg hc639_276)] at k277
            show Steps p.tables e below (T274.setTop (mkF m 639 #[.val (.long q0), .second, .val (.int p1), .val (.int p2), .val (.long (v0_5_l4 q0)), .second, .val (.int (v0_14_l6 p1)), .val (.int (v0_21_s0 p1)), .val (.int (v0_43_l8 p1)), .val (.int (v0_51_s0 p1)), .val (.int (v0_73_l10 p1)), .val (.int (v0_81_l11 p1)), .val (.int (v0_93_l12 p2)), .val (.ref b187), .val (.int (v0_614_l14_1 p1)), .val (.long (v0_628_l15_1 q0 p1 p2)), .second, .unset, .unset, .unset, .unset, .unset] [(.int (46 : Int32)), (.int (v0_93_l12 p2))])) _
            refine XS.icmpYes X274.here hx rfl (pc0 := 639) (pc' := 646) rfl (hb hby at_639) rfl (feq hc639_276).2 (by decide) (by decide) ?_
            refine XS.iconst X274.here hx rfl (hb hby at_646) ?_
            exact k277
        refine XS.istore X274.here hx rfl (hb hby at_647) rfl (l' := #[.val (.long q0), .second, .val (.int p1), .val (.int p2), .val (.long (v0_5_l4 q0)), .second, .val (.int (v0_14_l6 p1)), .val (.int (v0_21_s0 p1)), .val (.int (v0_43_l8 p1)), .val (.int (v0_51_s0 p1)), .val (.int (v0_73_l10 p1)), .val (.int (v0_81_l11 p1)), .val (.int (v0_93_l12 p2)), .val (.ref b187), .val (.int (v0_614_l14_1 p1)), .val (.long (v0_628_l15_1 q0 p1 p2)), .second, .val (.int (v0_639_s0 p2)), .unset, .unset, .unset, .unset]) rfl ?_
        refine XS.iload X274.here hx rfl (hb hby at_649) rfl ?_
        show Steps p.tables e below (T274.setTop (mkF m 651 #[.val (.long q0), .second, .val (.int p1), .val (.int p2), .val (.long (v0_5_l4 q0)), .second, .val (.int (v0_14_l6 p1)), .val (.int (v0_21_s0 p1)), .val (.int (v0_43_l8 p1)), .val (.int (v0_51_s0 p1)), .val (.int (v0_73_l10 p1)), .val (.int (v0_81_l11 p1)), .val (.int (v0_93_l12 p2)), .val (.ref b187), .val (.int (v0_614_l14_1 p1)), .val (.long (v0_628_l15_1 q0 p1 p2)), .second, .val (.int (v0_639_s0 p2)), .unset, .unset, .unset, .unset] [(.int (v0_51_s0 p1))])) _
        refine XS.ifNo X274.here hx rfl (hb hby at_651) rfl ((if0 _ _).trans (feq hc559_249).1) ?_
        show Steps p.tables e below (T274.setTop (mkF m 654 #[.val (.long q0), .second, .val (.int p1), .val (.int p2), .val (.long (v0_5_l4 q0)), .second, .val (.int (v0_14_l6 p1)), .val (.int (v0_21_s0 p1)), .val (.int (v0_43_l8 p1)), .val (.int (v0_51_s0 p1)), .val (.int (v0_73_l10 p1)), .val (.int (v0_81_l11 p1)), .val (.int (v0_93_l12 p2)), .val (.ref b187), .val (.int (v0_614_l14_1 p1)), .val (.long (v0_628_l15_1 q0 p1 p2)), .second, .val (.int (v0_639_s0 p2)), .unset, .unset, .unset, .unset] [])) _
        refine XS.iload X274.here hx rfl (hb hby at_654) rfl ?_
        exact kk)
      by_cases hc656_279 : (v0_639_s0 p2) = (0 : Int32)
      · have k282 := fun (t : State) (kk : Steps p.tables e below (T274.setTop (mkF m 821 #[.val (.long q0), .second, .val (.int p1), .val (.int p2), .val (.long (v0_5_l4 q0)), .second, .val (.int (v0_14_l6 p1)), .val (.int (v0_21_s0 p1)), .val (.int (v0_43_l8 p1)), .val (.int (v0_51_s0 p1)), .val (.int (v0_73_l10 p1)), .val (.int (v0_81_l11 p1)), .val (.int (v0_93_l12 p2)), .val (.ref b187), .val (.int (v0_614_l14_1 p1)), .val (.long (v0_628_l15_1 q0 p1 p2)), .second, .val (.int (v0_639_s0 p2)), .val (.long (-1 : Int64)), .second, .unset, .unset] [(.int (v0_813_s0_3 q0 p1 p2))])) t) => k278 t (by
          show Steps p.tables e below (T274.setTop (mkF m 656 #[.val (.long q0), .second, .val (.int p1), .val (.int p2), .val (.long (v0_5_l4 q0)), .second, .val (.int (v0_14_l6 p1)), .val (.int (v0_21_s0 p1)), .val (.int (v0_43_l8 p1)), .val (.int (v0_51_s0 p1)), .val (.int (v0_73_l10 p1)), .val (.int (v0_81_l11 p1)), .val (.int (v0_93_l12 p2)), .val (.ref b187), .val (.int (v0_614_l14_1 p1)), .val (.long (v0_628_l15_1 q0 p1 p2)), .second, .val (.int (v0_639_s0 p2)), .unset, .unset, .unset, .unset] [(.int (v0_639_s0 p2))])) _
          refine XS.ifNo X274.here hx rfl (hb hby at_656) rfl ((if0 _ _).trans (teq hc656_279).2) ?_
          refine X274.ldc2Long hx hown (mvT hZ (hw _ (List.mem_of_getElem? (i := 35) rfl))) (g := (mkF m 659 #[.val (.long q0), .second, .val (.int p1), .val (.int p2), .val (.long (v0_5_l4 q0)), .second, .val (.int (v0_14_l6 p1)), .val (.int (v0_21_s0 p1)), .val (.int (v0_43_l8 p1)), .val (.int (v0_51_s0 p1)), .val (.int (v0_73_l10 p1)), .val (.int (v0_81_l11 p1)), .val (.int (v0_93_l12 p2)), .val (.ref b187), .val (.int (v0_614_l14_1 p1)), .val (.long (v0_628_l15_1 q0 p1 p2)), .second, .val (.int (v0_639_s0 p2)), .unset, .unset, .unset, .unset] [])) rfl (hb hby at_659) _ ?_
          refine XS.lstore X274.here hx rfl (hb hby at_662) rfl (l' := #[.val (.long q0), .second, .val (.int p1), .val (.int p2), .val (.long (v0_5_l4 q0)), .second, .val (.int (v0_14_l6 p1)), .val (.int (v0_21_s0 p1)), .val (.int (v0_43_l8 p1)), .val (.int (v0_51_s0 p1)), .val (.int (v0_73_l10 p1)), .val (.int (v0_81_l11 p1)), .val (.int (v0_93_l12 p2)), .val (.ref b187), .val (.int (v0_614_l14_1 p1)), .val (.long (v0_628_l15_1 q0 p1 p2)), .second, .val (.int (v0_639_s0 p2)), .val (.long (-1 : Int64)), .second, .unset, .unset]) rfl ?_
          refine XS.goto X274.here hx rfl (pc0 := 664) (pc' := 808) rfl (hb hby at_664) (by decide) (by decide) ?_
          refine XS.lload X274.here hx rfl (hb hby at_808) rfl ?_
          refine XS.lload X274.here hx rfl (hb hby at_810) rfl ?_
          show Steps p.tables e below (T274.setTop (mkF m 812 #[.val (.long q0), .second, .val (.int p1), .val (.int p2), .val (.long (v0_5_l4 q0)), .second, .val (.int (v0_14_l6 p1)), .val (.int (v0_21_s0 p1)), .val (.int (v0_43_l8 p1)), .val (.int (v0_51_s0 p1)), .val (.int (v0_73_l10 p1)), .val (.int (v0_81_l11 p1)), .val (.int (v0_93_l12 p2)), .val (.ref b187), .val (.int (v0_614_l14_1 p1)), .val (.long (v0_628_l15_1 q0 p1 p2)), .second, .val (.int (v0_639_s0 p2)), .val (.long (-1 : Int64)), .second, .unset, .unset] [(.long (-1 : Int64)), (.long (v0_628_l15_1 q0 p1 p2))])) _
          refine XS.lcmp X274.here hx rfl (hb hby at_812) rfl ?_
          suffices k281 : Steps p.tables e below (T274.setTop (mkF m 821 #[.val (.long q0), .second, .val (.int p1), .val (.int p2), .val (.long (v0_5_l4 q0)), .second, .val (.int (v0_14_l6 p1)), .val (.int (v0_21_s0 p1)), .val (.int (v0_43_l8 p1)), .val (.int (v0_51_s0 p1)), .val (.int (v0_73_l10 p1)), .val (.int (v0_81_l11 p1)), .val (.int (v0_93_l12 p2)), .val (.ref b187), .val (.int (v0_614_l14_1 p1)), .val (.long (v0_628_l15_1 q0 p1 p2)), .second, .val (.int (v0_639_s0 p2)), .val (.long (-1 : Int64)), .second, .unset, .unset] [(.int (v0_813_s0_3 q0 p1 p2))])) t by
            by_cases hc813_280 : (v0_628_l15_1 q0 p1 p2) = (-1 : Int64)
            · rw [(show (v0_813_s0_3 q0 p1 p2) = (1 : Int32) from if_pos hc813_280)] at k281
              show Steps p.tables e below (T274.setTop (mkF m 813 #[.val (.long q0), .second, .val (.int p1), .val (.int p2), .val (.long (v0_5_l4 q0)), .second, .val (.int (v0_14_l6 p1)), .val (.int (v0_21_s0 p1)), .val (.int (v0_43_l8 p1)), .val (.int (v0_51_s0 p1)), .val (.int (v0_73_l10 p1)), .val (.int (v0_81_l11 p1)), .val (.int (v0_93_l12 p2)), .val (.ref b187), .val (.int (v0_614_l14_1 p1)), .val (.long (v0_628_l15_1 q0 p1 p2)), .second, .val (.int (v0_639_s0 p2)), .val (.long (-1 : Int64)), .second, .unset, .unset] [(.int (lcmpW (v0_628_l15_1 q0 p1 p2) (-1 : Int64)))])) _
              refine XS.ifNo X274.here hx rfl (hb hby at_813) rfl ((if0 _ _).trans (teq ((lw_eq _ _).mpr hc813_280)).2) ?_
              refine XS.iconst X274.here hx rfl (hb hby at_816) ?_
              refine XS.goto X274.here hx rfl (pc0 := 817) (pc' := 821) rfl (hb hby at_817) (by decide) (by decide) ?_
              exact k281
            · rw [(show (v0_813_s0_3 q0 p1 p2) = (0 : Int32) from if_neg hc813_280)] at k281
              show Steps p.tables e below (T274.setTop (mkF m 813 #[.val (.long q0), .second, .val (.int p1), .val (.int p2), .val (.long (v0_5_l4 q0)), .second, .val (.int (v0_14_l6 p1)), .val (.int (v0_21_s0 p1)), .val (.int (v0_43_l8 p1)), .val (.int (v0_51_s0 p1)), .val (.int (v0_73_l10 p1)), .val (.int (v0_81_l11 p1)), .val (.int (v0_93_l12 p2)), .val (.ref b187), .val (.int (v0_614_l14_1 p1)), .val (.long (v0_628_l15_1 q0 p1 p2)), .second, .val (.int (v0_639_s0 p2)), .val (.long (-1 : Int64)), .second, .unset, .unset] [(.int (lcmpW (v0_628_l15_1 q0 p1 p2) (-1 : Int64)))])) _
              refine XS.ifYes X274.here hx rfl (pc0 := 813) (pc' := 820) rfl (hb hby at_813) rfl ((if0 _ _).trans (feq (fun q => hc813_280 ((lw_eq _ _).mp q))).2) (by decide) (by decide) ?_
              refine XS.iconst X274.here hx rfl (hb hby at_820) ?_
              exact k281
          exact kk)
        obtain ⟨fs, hr, hrun, hended, hW, hsame⟩ := X274.leave (v := some (.int (nar .boolean (v0_813_s0_3 q0 p1 p2)))) (fun h => by rw [Bd.returns] at h; cases h)
        have hv : (v0_ret q0 p1 p2) = (nar .boolean (v0_813_s0_3 q0 p1 p2)) := ((if_pos hc526_247).trans ((if_neg hc559_249).trans (if_pos hc656_279)))
        have hone : (nar .boolean (v0_813_s0_3 q0 p1 p2)) = 1 := hv.symm.trans (own_law q0 p1 p2)
        refine ⟨_, _, k282 _ ?_, hrun, hended, _, _, rfl, ?_, ⟨_, rfl⟩, hW, hsame.mono (by decide) (by decide)⟩
        · show Steps p.tables e below (T274.setTop (mkF m 821 #[.val (.long q0), .second, .val (.int p1), .val (.int p2), .val (.long (v0_5_l4 q0)), .second, .val (.int (v0_14_l6 p1)), .val (.int (v0_21_s0 p1)), .val (.int (v0_43_l8 p1)), .val (.int (v0_51_s0 p1)), .val (.int (v0_73_l10 p1)), .val (.int (v0_81_l11 p1)), .val (.int (v0_93_l12 p2)), .val (.ref b187), .val (.int (v0_614_l14_1 p1)), .val (.long (v0_628_l15_1 q0 p1 p2)), .second, .val (.int (v0_639_s0 p2)), .val (.long (-1 : Int64)), .second, .unset, .unset] [(.int (v0_813_s0_3 q0 p1 p2))])) _
          exact retN X274 hx (t := .boolean) Bd.returns (by simp) (hb hby at_821) hr
        · show Q0 Z q0 p1 p2 h0 n0 _ T274.heap _
          rw [e274]
          exact ⟨congrArg (fun z => some (Value.int z)) hone, N274⟩
      · have k283 := fun (t : State) (kk : Steps p.tables e below (T274.setTop (mkF m 718 #[.val (.long q0), .second, .val (.int p1), .val (.int p2), .val (.long (v0_5_l4 q0)), .second, .val (.int (v0_14_l6 p1)), .val (.int (v0_21_s0 p1)), .val (.int (v0_43_l8 p1)), .val (.int (v0_51_s0 p1)), .val (.int (v0_73_l10 p1)), .val (.int (v0_81_l11 p1)), .val (.int (v0_93_l12 p2)), .val (.ref b187), .val (.int (v0_614_l14_1 p1)), .val (.long (v0_628_l15_1 q0 p1 p2)), .second, .val (.int (v0_639_s0 p2)), .unset, .unset, .val (.int (1 : Int32)), .val (.int (v0_73_l10 p1))] [(.int (v0_614_l14_1 p1))])) t) => k278 t (by
          show Steps p.tables e below (T274.setTop (mkF m 656 #[.val (.long q0), .second, .val (.int p1), .val (.int p2), .val (.long (v0_5_l4 q0)), .second, .val (.int (v0_14_l6 p1)), .val (.int (v0_21_s0 p1)), .val (.int (v0_43_l8 p1)), .val (.int (v0_51_s0 p1)), .val (.int (v0_73_l10 p1)), .val (.int (v0_81_l11 p1)), .val (.int (v0_93_l12 p2)), .val (.ref b187), .val (.int (v0_614_l14_1 p1)), .val (.long (v0_628_l15_1 q0 p1 p2)), .second, .val (.int (v0_639_s0 p2)), .unset, .unset, .unset, .unset] [(.int (v0_639_s0 p2))])) _
          refine XS.ifYes X274.here hx rfl (pc0 := 656) (pc' := 667) rfl (hb hby at_656) rfl ((if0 _ _).trans (feq hc656_279).2) (by decide) (by decide) ?_
          refine XS.iload X274.here hx rfl (hb hby at_667) rfl ?_
          show Steps p.tables e below (T274.setTop (mkF m 669 #[.val (.long q0), .second, .val (.int p1), .val (.int p2), .val (.long (v0_5_l4 q0)), .second, .val (.int (v0_14_l6 p1)), .val (.int (v0_21_s0 p1)), .val (.int (v0_43_l8 p1)), .val (.int (v0_51_s0 p1)), .val (.int (v0_73_l10 p1)), .val (.int (v0_81_l11 p1)), .val (.int (v0_93_l12 p2)), .val (.ref b187), .val (.int (v0_614_l14_1 p1)), .val (.long (v0_628_l15_1 q0 p1 p2)), .second, .val (.int (v0_639_s0 p2)), .unset, .unset, .unset, .unset] [(.int (v0_21_s0 p1))])) _
          refine XS.ifYes X274.here hx rfl (pc0 := 669) (pc' := 685) rfl (hb hby at_669) rfl ((if0 _ _).trans (teq hc526_247).1) (by decide) (by decide) ?_
          refine XS.iload X274.here hx rfl (hb hby at_685) rfl ?_
          show Steps p.tables e below (T274.setTop (mkF m 687 #[.val (.long q0), .second, .val (.int p1), .val (.int p2), .val (.long (v0_5_l4 q0)), .second, .val (.int (v0_14_l6 p1)), .val (.int (v0_21_s0 p1)), .val (.int (v0_43_l8 p1)), .val (.int (v0_51_s0 p1)), .val (.int (v0_73_l10 p1)), .val (.int (v0_81_l11 p1)), .val (.int (v0_93_l12 p2)), .val (.ref b187), .val (.int (v0_614_l14_1 p1)), .val (.long (v0_628_l15_1 q0 p1 p2)), .second, .val (.int (v0_639_s0 p2)), .unset, .unset, .unset, .unset] [(.int (v0_21_s0 p1))])) _
          refine XS.ifNo X274.here hx rfl (hb hby at_687) rfl ((if0 _ _).trans (teq hc526_247).2) ?_
          show Steps p.tables e below (T274.setTop (mkF m 690 #[.val (.long q0), .second, .val (.int p1), .val (.int p2), .val (.long (v0_5_l4 q0)), .second, .val (.int (v0_14_l6 p1)), .val (.int (v0_21_s0 p1)), .val (.int (v0_43_l8 p1)), .val (.int (v0_51_s0 p1)), .val (.int (v0_73_l10 p1)), .val (.int (v0_81_l11 p1)), .val (.int (v0_93_l12 p2)), .val (.ref b187), .val (.int (v0_614_l14_1 p1)), .val (.long (v0_628_l15_1 q0 p1 p2)), .second, .val (.int (v0_639_s0 p2)), .unset, .unset, .unset, .unset] [])) _
          refine XS.iload X274.here hx rfl (hb hby at_690) rfl ?_
          show Steps p.tables e below (T274.setTop (mkF m 692 #[.val (.long q0), .second, .val (.int p1), .val (.int p2), .val (.long (v0_5_l4 q0)), .second, .val (.int (v0_14_l6 p1)), .val (.int (v0_21_s0 p1)), .val (.int (v0_43_l8 p1)), .val (.int (v0_51_s0 p1)), .val (.int (v0_73_l10 p1)), .val (.int (v0_81_l11 p1)), .val (.int (v0_93_l12 p2)), .val (.ref b187), .val (.int (v0_614_l14_1 p1)), .val (.long (v0_628_l15_1 q0 p1 p2)), .second, .val (.int (v0_639_s0 p2)), .unset, .unset, .unset, .unset] [(.int (v0_639_s0 p2))])) _
          refine XS.ifNo X274.here hx rfl (hb hby at_692) rfl ((if0 _ _).trans (feq hc656_279).1) ?_
          refine XS.iconst X274.here hx rfl (hb hby at_695) ?_
          refine XS.goto X274.here hx rfl (pc0 := 696) (pc' := 700) rfl (hb hby at_696) (by decide) (by decide) ?_
          refine XS.istore X274.here hx rfl (hb hby at_700) rfl (l' := #[.val (.long q0), .second, .val (.int p1), .val (.int p2), .val (.long (v0_5_l4 q0)), .second, .val (.int (v0_14_l6 p1)), .val (.int (v0_21_s0 p1)), .val (.int (v0_43_l8 p1)), .val (.int (v0_51_s0 p1)), .val (.int (v0_73_l10 p1)), .val (.int (v0_81_l11 p1)), .val (.int (v0_93_l12 p2)), .val (.ref b187), .val (.int (v0_614_l14_1 p1)), .val (.long (v0_628_l15_1 q0 p1 p2)), .second, .val (.int (v0_639_s0 p2)), .unset, .unset, .val (.int (1 : Int32)), .unset]) rfl ?_
          refine XS.iload X274.here hx rfl (hb hby at_702) rfl ?_
          show Steps p.tables e below (T274.setTop (mkF m 704 #[.val (.long q0), .second, .val (.int p1), .val (.int p2), .val (.long (v0_5_l4 q0)), .second, .val (.int (v0_14_l6 p1)), .val (.int (v0_21_s0 p1)), .val (.int (v0_43_l8 p1)), .val (.int (v0_51_s0 p1)), .val (.int (v0_73_l10 p1)), .val (.int (v0_81_l11 p1)), .val (.int (v0_93_l12 p2)), .val (.ref b187), .val (.int (v0_614_l14_1 p1)), .val (.long (v0_628_l15_1 q0 p1 p2)), .second, .val (.int (v0_639_s0 p2)), .unset, .unset, .val (.int (1 : Int32)), .unset] [(.int (v0_21_s0 p1))])) _
          refine XS.ifYes X274.here hx rfl (pc0 := 704) (pc' := 712) rfl (hb hby at_704) rfl ((if0 _ _).trans (teq hc526_247).1) (by decide) (by decide) ?_
          refine XS.iload X274.here hx rfl (hb hby at_712) rfl ?_
          show Steps p.tables e below (T274.setTop (mkF m 714 #[.val (.long q0), .second, .val (.int p1), .val (.int p2), .val (.long (v0_5_l4 q0)), .second, .val (.int (v0_14_l6 p1)), .val (.int (v0_21_s0 p1)), .val (.int (v0_43_l8 p1)), .val (.int (v0_51_s0 p1)), .val (.int (v0_73_l10 p1)), .val (.int (v0_81_l11 p1)), .val (.int (v0_93_l12 p2)), .val (.ref b187), .val (.int (v0_614_l14_1 p1)), .val (.long (v0_628_l15_1 q0 p1 p2)), .second, .val (.int (v0_639_s0 p2)), .unset, .unset, .val (.int (1 : Int32)), .unset] [(.int (v0_73_l10 p1))])) _
          refine XS.istore X274.here hx rfl (hb hby at_714) rfl (l' := #[.val (.long q0), .second, .val (.int p1), .val (.int p2), .val (.long (v0_5_l4 q0)), .second, .val (.int (v0_14_l6 p1)), .val (.int (v0_21_s0 p1)), .val (.int (v0_43_l8 p1)), .val (.int (v0_51_s0 p1)), .val (.int (v0_73_l10 p1)), .val (.int (v0_81_l11 p1)), .val (.int (v0_93_l12 p2)), .val (.ref b187), .val (.int (v0_614_l14_1 p1)), .val (.long (v0_628_l15_1 q0 p1 p2)), .second, .val (.int (v0_639_s0 p2)), .unset, .unset, .val (.int (1 : Int32)), .val (.int (v0_73_l10 p1))]) rfl ?_
          refine XS.iload X274.here hx rfl (hb hby at_716) rfl ?_
          exact kk)
        by_cases hc718_284 : (v0_614_l14_1 p1) = (0 : Int32)
        · have k287 := fun (t : State) (kk : Steps p.tables e below (T274.setTop (mkF m 821 #[.val (.long q0), .second, .val (.int p1), .val (.int p2), .val (.long (v0_5_l4 q0)), .second, .val (.int (v0_14_l6 p1)), .val (.int (v0_21_s0 p1)), .val (.int (v0_43_l8 p1)), .val (.int (v0_51_s0 p1)), .val (.int (v0_73_l10 p1)), .val (.int (v0_81_l11 p1)), .val (.int (v0_93_l12 p2)), .val (.ref b187), .val (.int (v0_614_l14_1 p1)), .val (.long (v0_628_l15_1 q0 p1 p2)), .second, .val (.int (v0_639_s0 p2)), .val (.long (-1 : Int64)), .second, .val (.int (1 : Int32)), .val (.int (v0_73_l10 p1))] [(.int (v0_813_s0_3 q0 p1 p2))])) t) => k283 t (by
            show Steps p.tables e below (T274.setTop (mkF m 718 #[.val (.long q0), .second, .val (.int p1), .val (.int p2), .val (.long (v0_5_l4 q0)), .second, .val (.int (v0_14_l6 p1)), .val (.int (v0_21_s0 p1)), .val (.int (v0_43_l8 p1)), .val (.int (v0_51_s0 p1)), .val (.int (v0_73_l10 p1)), .val (.int (v0_81_l11 p1)), .val (.int (v0_93_l12 p2)), .val (.ref b187), .val (.int (v0_614_l14_1 p1)), .val (.long (v0_628_l15_1 q0 p1 p2)), .second, .val (.int (v0_639_s0 p2)), .unset, .unset, .val (.int (1 : Int32)), .val (.int (v0_73_l10 p1))] [(.int (v0_614_l14_1 p1))])) _
            refine XS.ifNo X274.here hx rfl (hb hby at_718) rfl ((if0 _ _).trans (teq hc718_284).2) ?_
            refine X274.ldc2Long hx hown (mvT hZ (hw _ (List.mem_of_getElem? (i := 35) rfl))) (g := (mkF m 721 #[.val (.long q0), .second, .val (.int p1), .val (.int p2), .val (.long (v0_5_l4 q0)), .second, .val (.int (v0_14_l6 p1)), .val (.int (v0_21_s0 p1)), .val (.int (v0_43_l8 p1)), .val (.int (v0_51_s0 p1)), .val (.int (v0_73_l10 p1)), .val (.int (v0_81_l11 p1)), .val (.int (v0_93_l12 p2)), .val (.ref b187), .val (.int (v0_614_l14_1 p1)), .val (.long (v0_628_l15_1 q0 p1 p2)), .second, .val (.int (v0_639_s0 p2)), .unset, .unset, .val (.int (1 : Int32)), .val (.int (v0_73_l10 p1))] [])) rfl (hb hby at_721) _ ?_
            refine XS.lstore X274.here hx rfl (hb hby at_724) rfl (l' := #[.val (.long q0), .second, .val (.int p1), .val (.int p2), .val (.long (v0_5_l4 q0)), .second, .val (.int (v0_14_l6 p1)), .val (.int (v0_21_s0 p1)), .val (.int (v0_43_l8 p1)), .val (.int (v0_51_s0 p1)), .val (.int (v0_73_l10 p1)), .val (.int (v0_81_l11 p1)), .val (.int (v0_93_l12 p2)), .val (.ref b187), .val (.int (v0_614_l14_1 p1)), .val (.long (v0_628_l15_1 q0 p1 p2)), .second, .val (.int (v0_639_s0 p2)), .val (.long (-1 : Int64)), .second, .val (.int (1 : Int32)), .val (.int (v0_73_l10 p1))]) rfl ?_
            refine XS.goto X274.here hx rfl (pc0 := 726) (pc' := 808) rfl (hb hby at_726) (by decide) (by decide) ?_
            refine XS.lload X274.here hx rfl (hb hby at_808) rfl ?_
            show Steps p.tables e below (T274.setTop (mkF m 810 #[.val (.long q0), .second, .val (.int p1), .val (.int p2), .val (.long (v0_5_l4 q0)), .second, .val (.int (v0_14_l6 p1)), .val (.int (v0_21_s0 p1)), .val (.int (v0_43_l8 p1)), .val (.int (v0_51_s0 p1)), .val (.int (v0_73_l10 p1)), .val (.int (v0_81_l11 p1)), .val (.int (v0_93_l12 p2)), .val (.ref b187), .val (.int (v0_614_l14_1 p1)), .val (.long (v0_628_l15_1 q0 p1 p2)), .second, .val (.int (v0_639_s0 p2)), .val (.long (-1 : Int64)), .second, .val (.int (1 : Int32)), .val (.int (v0_73_l10 p1))] [(.long (v0_628_l15_1 q0 p1 p2))])) _
            refine XS.lload X274.here hx rfl (hb hby at_810) rfl ?_
            refine XS.lcmp X274.here hx rfl (hb hby at_812) rfl ?_
            suffices k286 : Steps p.tables e below (T274.setTop (mkF m 821 #[.val (.long q0), .second, .val (.int p1), .val (.int p2), .val (.long (v0_5_l4 q0)), .second, .val (.int (v0_14_l6 p1)), .val (.int (v0_21_s0 p1)), .val (.int (v0_43_l8 p1)), .val (.int (v0_51_s0 p1)), .val (.int (v0_73_l10 p1)), .val (.int (v0_81_l11 p1)), .val (.int (v0_93_l12 p2)), .val (.ref b187), .val (.int (v0_614_l14_1 p1)), .val (.long (v0_628_l15_1 q0 p1 p2)), .second, .val (.int (v0_639_s0 p2)), .val (.long (-1 : Int64)), .second, .val (.int (1 : Int32)), .val (.int (v0_73_l10 p1))] [(.int (v0_813_s0_3 q0 p1 p2))])) t by
              by_cases hc813_285 : (v0_628_l15_1 q0 p1 p2) = (-1 : Int64)
              · rw [(show (v0_813_s0_3 q0 p1 p2) = (1 : Int32) from if_pos hc813_285)] at k286
                show Steps p.tables e below (T274.setTop (mkF m 813 #[.val (.long q0), .second, .val (.int p1), .val (.int p2), .val (.long (v0_5_l4 q0)), .second, .val (.int (v0_14_l6 p1)), .val (.int (v0_21_s0 p1)), .val (.int (v0_43_l8 p1)), .val (.int (v0_51_s0 p1)), .val (.int (v0_73_l10 p1)), .val (.int (v0_81_l11 p1)), .val (.int (v0_93_l12 p2)), .val (.ref b187), .val (.int (v0_614_l14_1 p1)), .val (.long (v0_628_l15_1 q0 p1 p2)), .second, .val (.int (v0_639_s0 p2)), .val (.long (-1 : Int64)), .second, .val (.int (1 : Int32)), .val (.int (v0_73_l10 p1))] [(.int (lcmpW (v0_628_l15_1 q0 p1 p2) (-1 : Int64)))])) _
                refine XS.ifNo X274.here hx rfl (hb hby at_813) rfl ((if0 _ _).trans (teq ((lw_eq _ _).mpr hc813_285)).2) ?_
                refine XS.iconst X274.here hx rfl (hb hby at_816) ?_
                refine XS.goto X274.here hx rfl (pc0 := 817) (pc' := 821) rfl (hb hby at_817) (by decide) (by decide) ?_
                exact k286
              · rw [(show (v0_813_s0_3 q0 p1 p2) = (0 : Int32) from if_neg hc813_285)] at k286
                show Steps p.tables e below (T274.setTop (mkF m 813 #[.val (.long q0), .second, .val (.int p1), .val (.int p2), .val (.long (v0_5_l4 q0)), .second, .val (.int (v0_14_l6 p1)), .val (.int (v0_21_s0 p1)), .val (.int (v0_43_l8 p1)), .val (.int (v0_51_s0 p1)), .val (.int (v0_73_l10 p1)), .val (.int (v0_81_l11 p1)), .val (.int (v0_93_l12 p2)), .val (.ref b187), .val (.int (v0_614_l14_1 p1)), .val (.long (v0_628_l15_1 q0 p1 p2)), .second, .val (.int (v0_639_s0 p2)), .val (.long (-1 : Int64)), .second, .val (.int (1 : Int32)), .val (.int (v0_73_l10 p1))] [(.int (lcmpW (v0_628_l15_1 q0 p1 p2) (-1 : Int64)))])) _
                refine XS.ifYes X274.here hx rfl (pc0 := 813) (pc' := 820) rfl (hb hby at_813) rfl ((if0 _ _).trans (feq (fun q => hc813_285 ((lw_eq _ _).mp q))).2) (by decide) (by decide) ?_
                refine XS.iconst X274.here hx rfl (hb hby at_820) ?_
                exact k286
            exact kk)
          obtain ⟨fs, hr, hrun, hended, hW, hsame⟩ := X274.leave (v := some (.int (nar .boolean (v0_813_s0_3 q0 p1 p2)))) (fun h => by rw [Bd.returns] at h; cases h)
          have hv : (v0_ret q0 p1 p2) = (nar .boolean (v0_813_s0_3 q0 p1 p2)) := ((if_pos hc526_247).trans ((if_neg hc559_249).trans ((if_neg hc656_279).trans (if_pos hc718_284))))
          have hone : (nar .boolean (v0_813_s0_3 q0 p1 p2)) = 1 := hv.symm.trans (own_law q0 p1 p2)
          refine ⟨_, _, k287 _ ?_, hrun, hended, _, _, rfl, ?_, ⟨_, rfl⟩, hW, hsame.mono (by decide) (by decide)⟩
          · show Steps p.tables e below (T274.setTop (mkF m 821 #[.val (.long q0), .second, .val (.int p1), .val (.int p2), .val (.long (v0_5_l4 q0)), .second, .val (.int (v0_14_l6 p1)), .val (.int (v0_21_s0 p1)), .val (.int (v0_43_l8 p1)), .val (.int (v0_51_s0 p1)), .val (.int (v0_73_l10 p1)), .val (.int (v0_81_l11 p1)), .val (.int (v0_93_l12 p2)), .val (.ref b187), .val (.int (v0_614_l14_1 p1)), .val (.long (v0_628_l15_1 q0 p1 p2)), .second, .val (.int (v0_639_s0 p2)), .val (.long (-1 : Int64)), .second, .val (.int (1 : Int32)), .val (.int (v0_73_l10 p1))] [(.int (v0_813_s0_3 q0 p1 p2))])) _
            exact retN X274 hx (t := .boolean) Bd.returns (by simp) (hb hby at_821) hr
          · show Q0 Z q0 p1 p2 h0 n0 _ T274.heap _
            rw [e274]
            exact ⟨congrArg (fun z => some (Value.int z)) hone, N274⟩
        · have k288 := fun (t : State) (kk : Steps p.tables e below (T274.setTop (mkF m 736 #[.val (.long q0), .second, .val (.int p1), .val (.int p2), .val (.long (v0_5_l4 q0)), .second, .val (.int (v0_14_l6 p1)), .val (.int (v0_21_s0 p1)), .val (.int (v0_43_l8 p1)), .val (.int (v0_51_s0 p1)), .val (.int (v0_73_l10 p1)), .val (.int (v0_81_l11 p1)), .val (.int (v0_93_l12 p2)), .val (.ref b187), .val (.int (v0_614_l14_1 p1)), .val (.long (v0_628_l15_1 q0 p1 p2)), .second, .val (.int (v0_639_s0 p2)), .unset, .unset, .val (.int (1 : Int32)), .val (.int (v0_73_l10 p1))] [(.int (v0_73_l10 p1))])) t) => k283 t (by
            show Steps p.tables e below (T274.setTop (mkF m 718 #[.val (.long q0), .second, .val (.int p1), .val (.int p2), .val (.long (v0_5_l4 q0)), .second, .val (.int (v0_14_l6 p1)), .val (.int (v0_21_s0 p1)), .val (.int (v0_43_l8 p1)), .val (.int (v0_51_s0 p1)), .val (.int (v0_73_l10 p1)), .val (.int (v0_81_l11 p1)), .val (.int (v0_93_l12 p2)), .val (.ref b187), .val (.int (v0_614_l14_1 p1)), .val (.long (v0_628_l15_1 q0 p1 p2)), .second, .val (.int (v0_639_s0 p2)), .unset, .unset, .val (.int (1 : Int32)), .val (.int (v0_73_l10 p1))] [(.int (v0_614_l14_1 p1))])) _
            refine XS.ifYes X274.here hx rfl (pc0 := 718) (pc' := 729) rfl (hb hby at_718) rfl ((if0 _ _).trans (feq hc718_284).2) (by decide) (by decide) ?_
            refine XS.iload X274.here hx rfl (hb hby at_729) rfl ?_
            show Steps p.tables e below (T274.setTop (mkF m 731 #[.val (.long q0), .second, .val (.int p1), .val (.int p2), .val (.long (v0_5_l4 q0)), .second, .val (.int (v0_14_l6 p1)), .val (.int (v0_21_s0 p1)), .val (.int (v0_43_l8 p1)), .val (.int (v0_51_s0 p1)), .val (.int (v0_73_l10 p1)), .val (.int (v0_81_l11 p1)), .val (.int (v0_93_l12 p2)), .val (.ref b187), .val (.int (v0_614_l14_1 p1)), .val (.long (v0_628_l15_1 q0 p1 p2)), .second, .val (.int (v0_639_s0 p2)), .unset, .unset, .val (.int (1 : Int32)), .val (.int (v0_73_l10 p1))] [(.int (1 : Int32))])) _
            refine XS.ifNo X274.here hx rfl (hb hby at_731) rfl ((if0 _ _).trans (feq (by decide : ¬ ((1 : Int32) = (0 : Int32)))).1) ?_
            show Steps p.tables e below (T274.setTop (mkF m 734 #[.val (.long q0), .second, .val (.int p1), .val (.int p2), .val (.long (v0_5_l4 q0)), .second, .val (.int (v0_14_l6 p1)), .val (.int (v0_21_s0 p1)), .val (.int (v0_43_l8 p1)), .val (.int (v0_51_s0 p1)), .val (.int (v0_73_l10 p1)), .val (.int (v0_81_l11 p1)), .val (.int (v0_93_l12 p2)), .val (.ref b187), .val (.int (v0_614_l14_1 p1)), .val (.long (v0_628_l15_1 q0 p1 p2)), .second, .val (.int (v0_639_s0 p2)), .unset, .unset, .val (.int (1 : Int32)), .val (.int (v0_73_l10 p1))] [])) _
            refine XS.iload X274.here hx rfl (hb hby at_734) rfl ?_
            exact kk)
          by_cases hc736_289 : (v0_73_l10 p1) = (0 : Int32)
          · have k292 := fun (t : State) (kk : Steps p.tables e below (T274.setTop (mkF m 821 #[.val (.long q0), .second, .val (.int p1), .val (.int p2), .val (.long (v0_5_l4 q0)), .second, .val (.int (v0_14_l6 p1)), .val (.int (v0_21_s0 p1)), .val (.int (v0_43_l8 p1)), .val (.int (v0_51_s0 p1)), .val (.int (v0_73_l10 p1)), .val (.int (v0_81_l11 p1)), .val (.int (v0_93_l12 p2)), .val (.ref b187), .val (.int (v0_614_l14_1 p1)), .val (.long (v0_628_l15_1 q0 p1 p2)), .second, .val (.int (v0_639_s0 p2)), .val (.long (-1 : Int64)), .second, .val (.int (1 : Int32)), .val (.int (v0_73_l10 p1))] [(.int (v0_813_s0_3 q0 p1 p2))])) t) => k288 t (by
              show Steps p.tables e below (T274.setTop (mkF m 736 #[.val (.long q0), .second, .val (.int p1), .val (.int p2), .val (.long (v0_5_l4 q0)), .second, .val (.int (v0_14_l6 p1)), .val (.int (v0_21_s0 p1)), .val (.int (v0_43_l8 p1)), .val (.int (v0_51_s0 p1)), .val (.int (v0_73_l10 p1)), .val (.int (v0_81_l11 p1)), .val (.int (v0_93_l12 p2)), .val (.ref b187), .val (.int (v0_614_l14_1 p1)), .val (.long (v0_628_l15_1 q0 p1 p2)), .second, .val (.int (v0_639_s0 p2)), .unset, .unset, .val (.int (1 : Int32)), .val (.int (v0_73_l10 p1))] [(.int (v0_73_l10 p1))])) _
              refine XS.ifYes X274.here hx rfl (pc0 := 736) (pc' := 757) rfl (hb hby at_736) rfl ((if0 _ _).trans (teq hc736_289).1) (by decide) (by decide) ?_
              refine X274.ldc2Long hx hown (mvT hZ (hw _ (List.mem_of_getElem? (i := 35) rfl))) (g := (mkF m 757 #[.val (.long q0), .second, .val (.int p1), .val (.int p2), .val (.long (v0_5_l4 q0)), .second, .val (.int (v0_14_l6 p1)), .val (.int (v0_21_s0 p1)), .val (.int (v0_43_l8 p1)), .val (.int (v0_51_s0 p1)), .val (.int (v0_73_l10 p1)), .val (.int (v0_81_l11 p1)), .val (.int (v0_93_l12 p2)), .val (.ref b187), .val (.int (v0_614_l14_1 p1)), .val (.long (v0_628_l15_1 q0 p1 p2)), .second, .val (.int (v0_639_s0 p2)), .unset, .unset, .val (.int (1 : Int32)), .val (.int (v0_73_l10 p1))] [])) rfl (hb hby at_757) _ ?_
              refine XS.lstore X274.here hx rfl (hb hby at_760) rfl (l' := #[.val (.long q0), .second, .val (.int p1), .val (.int p2), .val (.long (v0_5_l4 q0)), .second, .val (.int (v0_14_l6 p1)), .val (.int (v0_21_s0 p1)), .val (.int (v0_43_l8 p1)), .val (.int (v0_51_s0 p1)), .val (.int (v0_73_l10 p1)), .val (.int (v0_81_l11 p1)), .val (.int (v0_93_l12 p2)), .val (.ref b187), .val (.int (v0_614_l14_1 p1)), .val (.long (v0_628_l15_1 q0 p1 p2)), .second, .val (.int (v0_639_s0 p2)), .val (.long (-1 : Int64)), .second, .val (.int (1 : Int32)), .val (.int (v0_73_l10 p1))]) rfl ?_
              refine XS.goto X274.here hx rfl (pc0 := 762) (pc' := 808) rfl (hb hby at_762) (by decide) (by decide) ?_
              refine XS.lload X274.here hx rfl (hb hby at_808) rfl ?_
              refine XS.lload X274.here hx rfl (hb hby at_810) rfl ?_
              show Steps p.tables e below (T274.setTop (mkF m 812 #[.val (.long q0), .second, .val (.int p1), .val (.int p2), .val (.long (v0_5_l4 q0)), .second, .val (.int (v0_14_l6 p1)), .val (.int (v0_21_s0 p1)), .val (.int (v0_43_l8 p1)), .val (.int (v0_51_s0 p1)), .val (.int (v0_73_l10 p1)), .val (.int (v0_81_l11 p1)), .val (.int (v0_93_l12 p2)), .val (.ref b187), .val (.int (v0_614_l14_1 p1)), .val (.long (v0_628_l15_1 q0 p1 p2)), .second, .val (.int (v0_639_s0 p2)), .val (.long (-1 : Int64)), .second, .val (.int (1 : Int32)), .val (.int (v0_73_l10 p1))] [(.long (-1 : Int64)), (.long (v0_628_l15_1 q0 p1 p2))])) _
              refine XS.lcmp X274.here hx rfl (hb hby at_812) rfl ?_
              suffices k291 : Steps p.tables e below (T274.setTop (mkF m 821 #[.val (.long q0), .second, .val (.int p1), .val (.int p2), .val (.long (v0_5_l4 q0)), .second, .val (.int (v0_14_l6 p1)), .val (.int (v0_21_s0 p1)), .val (.int (v0_43_l8 p1)), .val (.int (v0_51_s0 p1)), .val (.int (v0_73_l10 p1)), .val (.int (v0_81_l11 p1)), .val (.int (v0_93_l12 p2)), .val (.ref b187), .val (.int (v0_614_l14_1 p1)), .val (.long (v0_628_l15_1 q0 p1 p2)), .second, .val (.int (v0_639_s0 p2)), .val (.long (-1 : Int64)), .second, .val (.int (1 : Int32)), .val (.int (v0_73_l10 p1))] [(.int (v0_813_s0_3 q0 p1 p2))])) t by
                by_cases hc813_290 : (v0_628_l15_1 q0 p1 p2) = (-1 : Int64)
                · rw [(show (v0_813_s0_3 q0 p1 p2) = (1 : Int32) from if_pos hc813_290)] at k291
                  show Steps p.tables e below (T274.setTop (mkF m 813 #[.val (.long q0), .second, .val (.int p1), .val (.int p2), .val (.long (v0_5_l4 q0)), .second, .val (.int (v0_14_l6 p1)), .val (.int (v0_21_s0 p1)), .val (.int (v0_43_l8 p1)), .val (.int (v0_51_s0 p1)), .val (.int (v0_73_l10 p1)), .val (.int (v0_81_l11 p1)), .val (.int (v0_93_l12 p2)), .val (.ref b187), .val (.int (v0_614_l14_1 p1)), .val (.long (v0_628_l15_1 q0 p1 p2)), .second, .val (.int (v0_639_s0 p2)), .val (.long (-1 : Int64)), .second, .val (.int (1 : Int32)), .val (.int (v0_73_l10 p1))] [(.int (lcmpW (v0_628_l15_1 q0 p1 p2) (-1 : Int64)))])) _
                  refine XS.ifNo X274.here hx rfl (hb hby at_813) rfl ((if0 _ _).trans (teq ((lw_eq _ _).mpr hc813_290)).2) ?_
                  refine XS.iconst X274.here hx rfl (hb hby at_816) ?_
                  refine XS.goto X274.here hx rfl (pc0 := 817) (pc' := 821) rfl (hb hby at_817) (by decide) (by decide) ?_
                  exact k291
                · rw [(show (v0_813_s0_3 q0 p1 p2) = (0 : Int32) from if_neg hc813_290)] at k291
                  show Steps p.tables e below (T274.setTop (mkF m 813 #[.val (.long q0), .second, .val (.int p1), .val (.int p2), .val (.long (v0_5_l4 q0)), .second, .val (.int (v0_14_l6 p1)), .val (.int (v0_21_s0 p1)), .val (.int (v0_43_l8 p1)), .val (.int (v0_51_s0 p1)), .val (.int (v0_73_l10 p1)), .val (.int (v0_81_l11 p1)), .val (.int (v0_93_l12 p2)), .val (.ref b187), .val (.int (v0_614_l14_1 p1)), .val (.long (v0_628_l15_1 q0 p1 p2)), .second, .val (.int (v0_639_s0 p2)), .val (.long (-1 : Int64)), .second, .val (.int (1 : Int32)), .val (.int (v0_73_l10 p1))] [(.int (lcmpW (v0_628_l15_1 q0 p1 p2) (-1 : Int64)))])) _
                  refine XS.ifYes X274.here hx rfl (pc0 := 813) (pc' := 820) rfl (hb hby at_813) rfl ((if0 _ _).trans (feq (fun q => hc813_290 ((lw_eq _ _).mp q))).2) (by decide) (by decide) ?_
                  refine XS.iconst X274.here hx rfl (hb hby at_820) ?_
                  exact k291
              exact kk)
            obtain ⟨fs, hr, hrun, hended, hW, hsame⟩ := X274.leave (v := some (.int (nar .boolean (v0_813_s0_3 q0 p1 p2)))) (fun h => by rw [Bd.returns] at h; cases h)
            have hv : (v0_ret q0 p1 p2) = (nar .boolean (v0_813_s0_3 q0 p1 p2)) := ((if_pos hc526_247).trans ((if_neg hc559_249).trans ((if_neg hc656_279).trans ((if_neg hc718_284).trans (if_pos hc736_289)))))
            have hone : (nar .boolean (v0_813_s0_3 q0 p1 p2)) = 1 := hv.symm.trans (own_law q0 p1 p2)
            refine ⟨_, _, k292 _ ?_, hrun, hended, _, _, rfl, ?_, ⟨_, rfl⟩, hW, hsame.mono (by decide) (by decide)⟩
            · show Steps p.tables e below (T274.setTop (mkF m 821 #[.val (.long q0), .second, .val (.int p1), .val (.int p2), .val (.long (v0_5_l4 q0)), .second, .val (.int (v0_14_l6 p1)), .val (.int (v0_21_s0 p1)), .val (.int (v0_43_l8 p1)), .val (.int (v0_51_s0 p1)), .val (.int (v0_73_l10 p1)), .val (.int (v0_81_l11 p1)), .val (.int (v0_93_l12 p2)), .val (.ref b187), .val (.int (v0_614_l14_1 p1)), .val (.long (v0_628_l15_1 q0 p1 p2)), .second, .val (.int (v0_639_s0 p2)), .val (.long (-1 : Int64)), .second, .val (.int (1 : Int32)), .val (.int (v0_73_l10 p1))] [(.int (v0_813_s0_3 q0 p1 p2))])) _
              exact retN X274 hx (t := .boolean) Bd.returns (by simp) (hb hby at_821) hr
            · show Q0 Z q0 p1 p2 h0 n0 _ T274.heap _
              rw [e274]
              exact ⟨congrArg (fun z => some (Value.int z)) hone, N274⟩
          · have k293 := fun (t : State) (kk : Steps p.tables e below (T274.setTop (mkF m 744 #[.val (.long q0), .second, .val (.int p1), .val (.int p2), .val (.long (v0_5_l4 q0)), .second, .val (.int (v0_14_l6 p1)), .val (.int (v0_21_s0 p1)), .val (.int (v0_43_l8 p1)), .val (.int (v0_51_s0 p1)), .val (.int (v0_73_l10 p1)), .val (.int (v0_81_l11 p1)), .val (.int (v0_93_l12 p2)), .val (.ref b187), .val (.int (v0_614_l14_1 p1)), .val (.long (v0_628_l15_1 q0 p1 p2)), .second, .val (.int (v0_639_s0 p2)), .unset, .unset, .val (.int (1 : Int32)), .val (.int (v0_73_l10 p1))] [(.int ((v0_14_l6 p1) - (v0_73_l10 p1)))])) t) => k288 t (by
              show Steps p.tables e below (T274.setTop (mkF m 736 #[.val (.long q0), .second, .val (.int p1), .val (.int p2), .val (.long (v0_5_l4 q0)), .second, .val (.int (v0_14_l6 p1)), .val (.int (v0_21_s0 p1)), .val (.int (v0_43_l8 p1)), .val (.int (v0_51_s0 p1)), .val (.int (v0_73_l10 p1)), .val (.int (v0_81_l11 p1)), .val (.int (v0_93_l12 p2)), .val (.ref b187), .val (.int (v0_614_l14_1 p1)), .val (.long (v0_628_l15_1 q0 p1 p2)), .second, .val (.int (v0_639_s0 p2)), .unset, .unset, .val (.int (1 : Int32)), .val (.int (v0_73_l10 p1))] [(.int (v0_73_l10 p1))])) _
              refine XS.ifNo X274.here hx rfl (hb hby at_736) rfl ((if0 _ _).trans (feq hc736_289).1) ?_
              refine XS.iload X274.here hx rfl (hb hby at_739) rfl ?_
              refine XS.iload X274.here hx rfl (hb hby at_741) rfl ?_
              show Steps p.tables e below (T274.setTop (mkF m 743 #[.val (.long q0), .second, .val (.int p1), .val (.int p2), .val (.long (v0_5_l4 q0)), .second, .val (.int (v0_14_l6 p1)), .val (.int (v0_21_s0 p1)), .val (.int (v0_43_l8 p1)), .val (.int (v0_51_s0 p1)), .val (.int (v0_73_l10 p1)), .val (.int (v0_81_l11 p1)), .val (.int (v0_93_l12 p2)), .val (.ref b187), .val (.int (v0_614_l14_1 p1)), .val (.long (v0_628_l15_1 q0 p1 p2)), .second, .val (.int (v0_639_s0 p2)), .unset, .unset, .val (.int (1 : Int32)), .val (.int (v0_73_l10 p1))] [(.int (v0_73_l10 p1)), (.int (v0_14_l6 p1))])) _
              refine XS.isub X274.here hx rfl (hb hby at_743) rfl ?_
              exact kk)
            by_cases hc744_294 : ((v0_14_l6 p1) - (v0_73_l10 p1)) = (0 : Int32)
            · have k297 := fun (t : State) (kk : Steps p.tables e below (T274.setTop (mkF m 821 #[.val (.long q0), .second, .val (.int p1), .val (.int p2), .val (.long (v0_5_l4 q0)), .second, .val (.int (v0_14_l6 p1)), .val (.int (v0_21_s0 p1)), .val (.int (v0_43_l8 p1)), .val (.int (v0_51_s0 p1)), .val (.int (v0_73_l10 p1)), .val (.int (v0_81_l11 p1)), .val (.int (v0_93_l12 p2)), .val (.ref b187), .val (.int (v0_614_l14_1 p1)), .val (.long (v0_628_l15_1 q0 p1 p2)), .second, .val (.int (v0_639_s0 p2)), .val (.long (-1 : Int64)), .second, .val (.int (1 : Int32)), .val (.int (v0_73_l10 p1))] [(.int (v0_813_s0_3 q0 p1 p2))])) t) => k293 t (by
                show Steps p.tables e below (T274.setTop (mkF m 744 #[.val (.long q0), .second, .val (.int p1), .val (.int p2), .val (.long (v0_5_l4 q0)), .second, .val (.int (v0_14_l6 p1)), .val (.int (v0_21_s0 p1)), .val (.int (v0_43_l8 p1)), .val (.int (v0_51_s0 p1)), .val (.int (v0_73_l10 p1)), .val (.int (v0_81_l11 p1)), .val (.int (v0_93_l12 p2)), .val (.ref b187), .val (.int (v0_614_l14_1 p1)), .val (.long (v0_628_l15_1 q0 p1 p2)), .second, .val (.int (v0_639_s0 p2)), .unset, .unset, .val (.int (1 : Int32)), .val (.int (v0_73_l10 p1))] [(.int ((v0_14_l6 p1) - (v0_73_l10 p1)))])) _
                refine XS.ifYes X274.here hx rfl (pc0 := 744) (pc' := 757) rfl (hb hby at_744) rfl ((if0 _ _).trans (teq hc744_294).1) (by decide) (by decide) ?_
                refine X274.ldc2Long hx hown (mvT hZ (hw _ (List.mem_of_getElem? (i := 35) rfl))) (g := (mkF m 757 #[.val (.long q0), .second, .val (.int p1), .val (.int p2), .val (.long (v0_5_l4 q0)), .second, .val (.int (v0_14_l6 p1)), .val (.int (v0_21_s0 p1)), .val (.int (v0_43_l8 p1)), .val (.int (v0_51_s0 p1)), .val (.int (v0_73_l10 p1)), .val (.int (v0_81_l11 p1)), .val (.int (v0_93_l12 p2)), .val (.ref b187), .val (.int (v0_614_l14_1 p1)), .val (.long (v0_628_l15_1 q0 p1 p2)), .second, .val (.int (v0_639_s0 p2)), .unset, .unset, .val (.int (1 : Int32)), .val (.int (v0_73_l10 p1))] [])) rfl (hb hby at_757) _ ?_
                refine XS.lstore X274.here hx rfl (hb hby at_760) rfl (l' := #[.val (.long q0), .second, .val (.int p1), .val (.int p2), .val (.long (v0_5_l4 q0)), .second, .val (.int (v0_14_l6 p1)), .val (.int (v0_21_s0 p1)), .val (.int (v0_43_l8 p1)), .val (.int (v0_51_s0 p1)), .val (.int (v0_73_l10 p1)), .val (.int (v0_81_l11 p1)), .val (.int (v0_93_l12 p2)), .val (.ref b187), .val (.int (v0_614_l14_1 p1)), .val (.long (v0_628_l15_1 q0 p1 p2)), .second, .val (.int (v0_639_s0 p2)), .val (.long (-1 : Int64)), .second, .val (.int (1 : Int32)), .val (.int (v0_73_l10 p1))]) rfl ?_
                refine XS.goto X274.here hx rfl (pc0 := 762) (pc' := 808) rfl (hb hby at_762) (by decide) (by decide) ?_
                refine XS.lload X274.here hx rfl (hb hby at_808) rfl ?_
                refine XS.lload X274.here hx rfl (hb hby at_810) rfl ?_
                show Steps p.tables e below (T274.setTop (mkF m 812 #[.val (.long q0), .second, .val (.int p1), .val (.int p2), .val (.long (v0_5_l4 q0)), .second, .val (.int (v0_14_l6 p1)), .val (.int (v0_21_s0 p1)), .val (.int (v0_43_l8 p1)), .val (.int (v0_51_s0 p1)), .val (.int (v0_73_l10 p1)), .val (.int (v0_81_l11 p1)), .val (.int (v0_93_l12 p2)), .val (.ref b187), .val (.int (v0_614_l14_1 p1)), .val (.long (v0_628_l15_1 q0 p1 p2)), .second, .val (.int (v0_639_s0 p2)), .val (.long (-1 : Int64)), .second, .val (.int (1 : Int32)), .val (.int (v0_73_l10 p1))] [(.long (-1 : Int64)), (.long (v0_628_l15_1 q0 p1 p2))])) _
                refine XS.lcmp X274.here hx rfl (hb hby at_812) rfl ?_
                suffices k296 : Steps p.tables e below (T274.setTop (mkF m 821 #[.val (.long q0), .second, .val (.int p1), .val (.int p2), .val (.long (v0_5_l4 q0)), .second, .val (.int (v0_14_l6 p1)), .val (.int (v0_21_s0 p1)), .val (.int (v0_43_l8 p1)), .val (.int (v0_51_s0 p1)), .val (.int (v0_73_l10 p1)), .val (.int (v0_81_l11 p1)), .val (.int (v0_93_l12 p2)), .val (.ref b187), .val (.int (v0_614_l14_1 p1)), .val (.long (v0_628_l15_1 q0 p1 p2)), .second, .val (.int (v0_639_s0 p2)), .val (.long (-1 : Int64)), .second, .val (.int (1 : Int32)), .val (.int (v0_73_l10 p1))] [(.int (v0_813_s0_3 q0 p1 p2))])) t by
                  by_cases hc813_295 : (v0_628_l15_1 q0 p1 p2) = (-1 : Int64)
                  · rw [(show (v0_813_s0_3 q0 p1 p2) = (1 : Int32) from if_pos hc813_295)] at k296
                    show Steps p.tables e below (T274.setTop (mkF m 813 #[.val (.long q0), .second, .val (.int p1), .val (.int p2), .val (.long (v0_5_l4 q0)), .second, .val (.int (v0_14_l6 p1)), .val (.int (v0_21_s0 p1)), .val (.int (v0_43_l8 p1)), .val (.int (v0_51_s0 p1)), .val (.int (v0_73_l10 p1)), .val (.int (v0_81_l11 p1)), .val (.int (v0_93_l12 p2)), .val (.ref b187), .val (.int (v0_614_l14_1 p1)), .val (.long (v0_628_l15_1 q0 p1 p2)), .second, .val (.int (v0_639_s0 p2)), .val (.long (-1 : Int64)), .second, .val (.int (1 : Int32)), .val (.int (v0_73_l10 p1))] [(.int (lcmpW (v0_628_l15_1 q0 p1 p2) (-1 : Int64)))])) _
                    refine XS.ifNo X274.here hx rfl (hb hby at_813) rfl ((if0 _ _).trans (teq ((lw_eq _ _).mpr hc813_295)).2) ?_
                    refine XS.iconst X274.here hx rfl (hb hby at_816) ?_
                    refine XS.goto X274.here hx rfl (pc0 := 817) (pc' := 821) rfl (hb hby at_817) (by decide) (by decide) ?_
                    exact k296
                  · rw [(show (v0_813_s0_3 q0 p1 p2) = (0 : Int32) from if_neg hc813_295)] at k296
                    show Steps p.tables e below (T274.setTop (mkF m 813 #[.val (.long q0), .second, .val (.int p1), .val (.int p2), .val (.long (v0_5_l4 q0)), .second, .val (.int (v0_14_l6 p1)), .val (.int (v0_21_s0 p1)), .val (.int (v0_43_l8 p1)), .val (.int (v0_51_s0 p1)), .val (.int (v0_73_l10 p1)), .val (.int (v0_81_l11 p1)), .val (.int (v0_93_l12 p2)), .val (.ref b187), .val (.int (v0_614_l14_1 p1)), .val (.long (v0_628_l15_1 q0 p1 p2)), .second, .val (.int (v0_639_s0 p2)), .val (.long (-1 : Int64)), .second, .val (.int (1 : Int32)), .val (.int (v0_73_l10 p1))] [(.int (lcmpW (v0_628_l15_1 q0 p1 p2) (-1 : Int64)))])) _
                    refine XS.ifYes X274.here hx rfl (pc0 := 813) (pc' := 820) rfl (hb hby at_813) rfl ((if0 _ _).trans (feq (fun q => hc813_295 ((lw_eq _ _).mp q))).2) (by decide) (by decide) ?_
                    refine XS.iconst X274.here hx rfl (hb hby at_820) ?_
                    exact k296
                exact kk)
              obtain ⟨fs, hr, hrun, hended, hW, hsame⟩ := X274.leave (v := some (.int (nar .boolean (v0_813_s0_3 q0 p1 p2)))) (fun h => by rw [Bd.returns] at h; cases h)
              have hv : (v0_ret q0 p1 p2) = (nar .boolean (v0_813_s0_3 q0 p1 p2)) := ((if_pos hc526_247).trans ((if_neg hc559_249).trans ((if_neg hc656_279).trans ((if_neg hc718_284).trans ((if_neg hc736_289).trans (if_pos hc744_294))))))
              have hone : (nar .boolean (v0_813_s0_3 q0 p1 p2)) = 1 := hv.symm.trans (own_law q0 p1 p2)
              refine ⟨_, _, k297 _ ?_, hrun, hended, _, _, rfl, ?_, ⟨_, rfl⟩, hW, hsame.mono (by decide) (by decide)⟩
              · show Steps p.tables e below (T274.setTop (mkF m 821 #[.val (.long q0), .second, .val (.int p1), .val (.int p2), .val (.long (v0_5_l4 q0)), .second, .val (.int (v0_14_l6 p1)), .val (.int (v0_21_s0 p1)), .val (.int (v0_43_l8 p1)), .val (.int (v0_51_s0 p1)), .val (.int (v0_73_l10 p1)), .val (.int (v0_81_l11 p1)), .val (.int (v0_93_l12 p2)), .val (.ref b187), .val (.int (v0_614_l14_1 p1)), .val (.long (v0_628_l15_1 q0 p1 p2)), .second, .val (.int (v0_639_s0 p2)), .val (.long (-1 : Int64)), .second, .val (.int (1 : Int32)), .val (.int (v0_73_l10 p1))] [(.int (v0_813_s0_3 q0 p1 p2))])) _
                exact retN X274 hx (t := .boolean) Bd.returns (by simp) (hb hby at_821) hr
              · show Q0 Z q0 p1 p2 h0 n0 _ T274.heap _
                rw [e274]
                exact ⟨congrArg (fun z => some (Value.int z)) hone, N274⟩
            · have k298 := fun (t : State) (kk : Steps p.tables e below (T274.setTop (mkF m 754 #[.val (.long q0), .second, .val (.int p1), .val (.int p2), .val (.long (v0_5_l4 q0)), .second, .val (.int (v0_14_l6 p1)), .val (.int (v0_21_s0 p1)), .val (.int (v0_43_l8 p1)), .val (.int (v0_51_s0 p1)), .val (.int (v0_73_l10 p1)), .val (.int (v0_81_l11 p1)), .val (.int (v0_93_l12 p2)), .val (.ref b187), .val (.int (v0_614_l14_1 p1)), .val (.long (v0_628_l15_1 q0 p1 p2)), .second, .val (.int (v0_639_s0 p2)), .unset, .unset, .val (.int (1 : Int32)), .val (.int (v0_73_l10 p1))] [(.int (8 : Int32)), (.int ((v0_14_l6 p1) - (v0_73_l10 p1)))])) t) => k293 t (by
                show Steps p.tables e below (T274.setTop (mkF m 744 #[.val (.long q0), .second, .val (.int p1), .val (.int p2), .val (.long (v0_5_l4 q0)), .second, .val (.int (v0_14_l6 p1)), .val (.int (v0_21_s0 p1)), .val (.int (v0_43_l8 p1)), .val (.int (v0_51_s0 p1)), .val (.int (v0_73_l10 p1)), .val (.int (v0_81_l11 p1)), .val (.int (v0_93_l12 p2)), .val (.ref b187), .val (.int (v0_614_l14_1 p1)), .val (.long (v0_628_l15_1 q0 p1 p2)), .second, .val (.int (v0_639_s0 p2)), .unset, .unset, .val (.int (1 : Int32)), .val (.int (v0_73_l10 p1))] [(.int ((v0_14_l6 p1) - (v0_73_l10 p1)))])) _
                refine XS.ifNo X274.here hx rfl (hb hby at_744) rfl ((if0 _ _).trans (feq hc744_294).1) ?_
                refine XS.iload X274.here hx rfl (hb hby at_747) rfl ?_
                refine XS.iload X274.here hx rfl (hb hby at_749) rfl ?_
                show Steps p.tables e below (T274.setTop (mkF m 751 #[.val (.long q0), .second, .val (.int p1), .val (.int p2), .val (.long (v0_5_l4 q0)), .second, .val (.int (v0_14_l6 p1)), .val (.int (v0_21_s0 p1)), .val (.int (v0_43_l8 p1)), .val (.int (v0_51_s0 p1)), .val (.int (v0_73_l10 p1)), .val (.int (v0_81_l11 p1)), .val (.int (v0_93_l12 p2)), .val (.ref b187), .val (.int (v0_614_l14_1 p1)), .val (.long (v0_628_l15_1 q0 p1 p2)), .second, .val (.int (v0_639_s0 p2)), .unset, .unset, .val (.int (1 : Int32)), .val (.int (v0_73_l10 p1))] [(.int (v0_73_l10 p1)), (.int (v0_14_l6 p1))])) _
                refine XS.isub X274.here hx rfl (hb hby at_751) rfl ?_
                refine XS.bipush X274.here hx rfl (hb hby at_752) ?_
                exact kk)
              by_cases hc754_299 : (8 : Int32) < ((v0_14_l6 p1) - (v0_73_l10 p1))
              · have k302 := fun (t : State) (kk : Steps p.tables e below (T274.setTop (mkF m 821 #[.val (.long q0), .second, .val (.int p1), .val (.int p2), .val (.long (v0_5_l4 q0)), .second, .val (.int (v0_14_l6 p1)), .val (.int (v0_21_s0 p1)), .val (.int (v0_43_l8 p1)), .val (.int (v0_51_s0 p1)), .val (.int (v0_73_l10 p1)), .val (.int (v0_81_l11 p1)), .val (.int (v0_93_l12 p2)), .val (.ref b187), .val (.int (v0_614_l14_1 p1)), .val (.long (v0_628_l15_1 q0 p1 p2)), .second, .val (.int (v0_639_s0 p2)), .val (.long (-1 : Int64)), .second, .val (.int (1 : Int32)), .val (.int (v0_73_l10 p1))] [(.int (v0_813_s0_3 q0 p1 p2))])) t) => k298 t (by
                  show Steps p.tables e below (T274.setTop (mkF m 754 #[.val (.long q0), .second, .val (.int p1), .val (.int p2), .val (.long (v0_5_l4 q0)), .second, .val (.int (v0_14_l6 p1)), .val (.int (v0_21_s0 p1)), .val (.int (v0_43_l8 p1)), .val (.int (v0_51_s0 p1)), .val (.int (v0_73_l10 p1)), .val (.int (v0_81_l11 p1)), .val (.int (v0_93_l12 p2)), .val (.ref b187), .val (.int (v0_614_l14_1 p1)), .val (.long (v0_628_l15_1 q0 p1 p2)), .second, .val (.int (v0_639_s0 p2)), .unset, .unset, .val (.int (1 : Int32)), .val (.int (v0_73_l10 p1))] [(.int (8 : Int32)), (.int ((v0_14_l6 p1) - (v0_73_l10 p1)))])) _
                  refine XS.icmpNo X274.here hx rfl (hb hby at_754) rfl (tlt hc754_299).2.2.2 ?_
                  refine X274.ldc2Long hx hown (mvT hZ (hw _ (List.mem_of_getElem? (i := 35) rfl))) (g := (mkF m 757 #[.val (.long q0), .second, .val (.int p1), .val (.int p2), .val (.long (v0_5_l4 q0)), .second, .val (.int (v0_14_l6 p1)), .val (.int (v0_21_s0 p1)), .val (.int (v0_43_l8 p1)), .val (.int (v0_51_s0 p1)), .val (.int (v0_73_l10 p1)), .val (.int (v0_81_l11 p1)), .val (.int (v0_93_l12 p2)), .val (.ref b187), .val (.int (v0_614_l14_1 p1)), .val (.long (v0_628_l15_1 q0 p1 p2)), .second, .val (.int (v0_639_s0 p2)), .unset, .unset, .val (.int (1 : Int32)), .val (.int (v0_73_l10 p1))] [])) rfl (hb hby at_757) _ ?_
                  refine XS.lstore X274.here hx rfl (hb hby at_760) rfl (l' := #[.val (.long q0), .second, .val (.int p1), .val (.int p2), .val (.long (v0_5_l4 q0)), .second, .val (.int (v0_14_l6 p1)), .val (.int (v0_21_s0 p1)), .val (.int (v0_43_l8 p1)), .val (.int (v0_51_s0 p1)), .val (.int (v0_73_l10 p1)), .val (.int (v0_81_l11 p1)), .val (.int (v0_93_l12 p2)), .val (.ref b187), .val (.int (v0_614_l14_1 p1)), .val (.long (v0_628_l15_1 q0 p1 p2)), .second, .val (.int (v0_639_s0 p2)), .val (.long (-1 : Int64)), .second, .val (.int (1 : Int32)), .val (.int (v0_73_l10 p1))]) rfl ?_
                  refine XS.goto X274.here hx rfl (pc0 := 762) (pc' := 808) rfl (hb hby at_762) (by decide) (by decide) ?_
                  refine XS.lload X274.here hx rfl (hb hby at_808) rfl ?_
                  show Steps p.tables e below (T274.setTop (mkF m 810 #[.val (.long q0), .second, .val (.int p1), .val (.int p2), .val (.long (v0_5_l4 q0)), .second, .val (.int (v0_14_l6 p1)), .val (.int (v0_21_s0 p1)), .val (.int (v0_43_l8 p1)), .val (.int (v0_51_s0 p1)), .val (.int (v0_73_l10 p1)), .val (.int (v0_81_l11 p1)), .val (.int (v0_93_l12 p2)), .val (.ref b187), .val (.int (v0_614_l14_1 p1)), .val (.long (v0_628_l15_1 q0 p1 p2)), .second, .val (.int (v0_639_s0 p2)), .val (.long (-1 : Int64)), .second, .val (.int (1 : Int32)), .val (.int (v0_73_l10 p1))] [(.long (v0_628_l15_1 q0 p1 p2))])) _
                  refine XS.lload X274.here hx rfl (hb hby at_810) rfl ?_
                  refine XS.lcmp X274.here hx rfl (hb hby at_812) rfl ?_
                  suffices k301 : Steps p.tables e below (T274.setTop (mkF m 821 #[.val (.long q0), .second, .val (.int p1), .val (.int p2), .val (.long (v0_5_l4 q0)), .second, .val (.int (v0_14_l6 p1)), .val (.int (v0_21_s0 p1)), .val (.int (v0_43_l8 p1)), .val (.int (v0_51_s0 p1)), .val (.int (v0_73_l10 p1)), .val (.int (v0_81_l11 p1)), .val (.int (v0_93_l12 p2)), .val (.ref b187), .val (.int (v0_614_l14_1 p1)), .val (.long (v0_628_l15_1 q0 p1 p2)), .second, .val (.int (v0_639_s0 p2)), .val (.long (-1 : Int64)), .second, .val (.int (1 : Int32)), .val (.int (v0_73_l10 p1))] [(.int (v0_813_s0_3 q0 p1 p2))])) t by
                    by_cases hc813_300 : (v0_628_l15_1 q0 p1 p2) = (-1 : Int64)
                    · rw [(show (v0_813_s0_3 q0 p1 p2) = (1 : Int32) from if_pos hc813_300)] at k301
                      show Steps p.tables e below (T274.setTop (mkF m 813 #[.val (.long q0), .second, .val (.int p1), .val (.int p2), .val (.long (v0_5_l4 q0)), .second, .val (.int (v0_14_l6 p1)), .val (.int (v0_21_s0 p1)), .val (.int (v0_43_l8 p1)), .val (.int (v0_51_s0 p1)), .val (.int (v0_73_l10 p1)), .val (.int (v0_81_l11 p1)), .val (.int (v0_93_l12 p2)), .val (.ref b187), .val (.int (v0_614_l14_1 p1)), .val (.long (v0_628_l15_1 q0 p1 p2)), .second, .val (.int (v0_639_s0 p2)), .val (.long (-1 : Int64)), .second, .val (.int (1 : Int32)), .val (.int (v0_73_l10 p1))] [(.int (lcmpW (v0_628_l15_1 q0 p1 p2) (-1 : Int64)))])) _
                      refine XS.ifNo X274.here hx rfl (hb hby at_813) rfl ((if0 _ _).trans (teq ((lw_eq _ _).mpr hc813_300)).2) ?_
                      refine XS.iconst X274.here hx rfl (hb hby at_816) ?_
                      refine XS.goto X274.here hx rfl (pc0 := 817) (pc' := 821) rfl (hb hby at_817) (by decide) (by decide) ?_
                      exact k301
                    · rw [(show (v0_813_s0_3 q0 p1 p2) = (0 : Int32) from if_neg hc813_300)] at k301
                      show Steps p.tables e below (T274.setTop (mkF m 813 #[.val (.long q0), .second, .val (.int p1), .val (.int p2), .val (.long (v0_5_l4 q0)), .second, .val (.int (v0_14_l6 p1)), .val (.int (v0_21_s0 p1)), .val (.int (v0_43_l8 p1)), .val (.int (v0_51_s0 p1)), .val (.int (v0_73_l10 p1)), .val (.int (v0_81_l11 p1)), .val (.int (v0_93_l12 p2)), .val (.ref b187), .val (.int (v0_614_l14_1 p1)), .val (.long (v0_628_l15_1 q0 p1 p2)), .second, .val (.int (v0_639_s0 p2)), .val (.long (-1 : Int64)), .second, .val (.int (1 : Int32)), .val (.int (v0_73_l10 p1))] [(.int (lcmpW (v0_628_l15_1 q0 p1 p2) (-1 : Int64)))])) _
                      refine XS.ifYes X274.here hx rfl (pc0 := 813) (pc' := 820) rfl (hb hby at_813) rfl ((if0 _ _).trans (feq (fun q => hc813_300 ((lw_eq _ _).mp q))).2) (by decide) (by decide) ?_
                      refine XS.iconst X274.here hx rfl (hb hby at_820) ?_
                      exact k301
                  exact kk)
                obtain ⟨fs, hr, hrun, hended, hW, hsame⟩ := X274.leave (v := some (.int (nar .boolean (v0_813_s0_3 q0 p1 p2)))) (fun h => by rw [Bd.returns] at h; cases h)
                have hv : (v0_ret q0 p1 p2) = (nar .boolean (v0_813_s0_3 q0 p1 p2)) := ((if_pos hc526_247).trans ((if_neg hc559_249).trans ((if_neg hc656_279).trans ((if_neg hc718_284).trans ((if_neg hc736_289).trans ((if_neg hc744_294).trans (if_pos hc754_299)))))))
                have hone : (nar .boolean (v0_813_s0_3 q0 p1 p2)) = 1 := hv.symm.trans (own_law q0 p1 p2)
                refine ⟨_, _, k302 _ ?_, hrun, hended, _, _, rfl, ?_, ⟨_, rfl⟩, hW, hsame.mono (by decide) (by decide)⟩
                · show Steps p.tables e below (T274.setTop (mkF m 821 #[.val (.long q0), .second, .val (.int p1), .val (.int p2), .val (.long (v0_5_l4 q0)), .second, .val (.int (v0_14_l6 p1)), .val (.int (v0_21_s0 p1)), .val (.int (v0_43_l8 p1)), .val (.int (v0_51_s0 p1)), .val (.int (v0_73_l10 p1)), .val (.int (v0_81_l11 p1)), .val (.int (v0_93_l12 p2)), .val (.ref b187), .val (.int (v0_614_l14_1 p1)), .val (.long (v0_628_l15_1 q0 p1 p2)), .second, .val (.int (v0_639_s0 p2)), .val (.long (-1 : Int64)), .second, .val (.int (1 : Int32)), .val (.int (v0_73_l10 p1))] [(.int (v0_813_s0_3 q0 p1 p2))])) _
                  exact retN X274 hx (t := .boolean) Bd.returns (by simp) (hb hby at_821) hr
                · show Q0 Z q0 p1 p2 h0 n0 _ T274.heap _
                  rw [e274]
                  exact ⟨congrArg (fun z => some (Value.int z)) hone, N274⟩
              · have k303 := fun (t : State) (kk : Steps p.tables e below (T274.setTop (mkF m 769 #[.val (.long q0), .second, .val (.int p1), .val (.int p2), .val (.long (v0_5_l4 q0)), .second, .val (.int (v0_14_l6 p1)), .val (.int (v0_21_s0 p1)), .val (.int (v0_43_l8 p1)), .val (.int (v0_51_s0 p1)), .val (.int (v0_73_l10 p1)), .val (.int (v0_81_l11 p1)), .val (.int (v0_93_l12 p2)), .val (.ref b187), .val (.int (v0_614_l14_1 p1)), .val (.long (v0_628_l15_1 q0 p1 p2)), .second, .val (.int (v0_639_s0 p2)), .unset, .unset, .val (.int (1 : Int32)), .val (.int (v0_73_l10 p1))] [(.int (17 : Int32)), (.int (v0_14_l6 p1))])) t) => k298 t (by
                  show Steps p.tables e below (T274.setTop (mkF m 754 #[.val (.long q0), .second, .val (.int p1), .val (.int p2), .val (.long (v0_5_l4 q0)), .second, .val (.int (v0_14_l6 p1)), .val (.int (v0_21_s0 p1)), .val (.int (v0_43_l8 p1)), .val (.int (v0_51_s0 p1)), .val (.int (v0_73_l10 p1)), .val (.int (v0_81_l11 p1)), .val (.int (v0_93_l12 p2)), .val (.ref b187), .val (.int (v0_614_l14_1 p1)), .val (.long (v0_628_l15_1 q0 p1 p2)), .second, .val (.int (v0_639_s0 p2)), .unset, .unset, .val (.int (1 : Int32)), .val (.int (v0_73_l10 p1))] [(.int (8 : Int32)), (.int ((v0_14_l6 p1) - (v0_73_l10 p1)))])) _
                  refine XS.icmpYes X274.here hx rfl (pc0 := 754) (pc' := 765) rfl (hb hby at_754) rfl (flt hc754_299).2.2.2 (by decide) (by decide) ?_
                  refine XS.iload X274.here hx rfl (hb hby at_765) rfl ?_
                  show Steps p.tables e below (T274.setTop (mkF m 767 #[.val (.long q0), .second, .val (.int p1), .val (.int p2), .val (.long (v0_5_l4 q0)), .second, .val (.int (v0_14_l6 p1)), .val (.int (v0_21_s0 p1)), .val (.int (v0_43_l8 p1)), .val (.int (v0_51_s0 p1)), .val (.int (v0_73_l10 p1)), .val (.int (v0_81_l11 p1)), .val (.int (v0_93_l12 p2)), .val (.ref b187), .val (.int (v0_614_l14_1 p1)), .val (.long (v0_628_l15_1 q0 p1 p2)), .second, .val (.int (v0_639_s0 p2)), .unset, .unset, .val (.int (1 : Int32)), .val (.int (v0_73_l10 p1))] [(.int (v0_14_l6 p1))])) _
                  refine XS.bipush X274.here hx rfl (hb hby at_767) ?_
                  exact kk)
                by_cases hc769_304 : (17 : Int32) < (v0_14_l6 p1)
                · have k307 := fun (t : State) (kk : Steps p.tables e below (T274.setTop (mkF m 821 #[.val (.long q0), .second, .val (.int p1), .val (.int p2), .val (.long (v0_5_l4 q0)), .second, .val (.int (v0_14_l6 p1)), .val (.int (v0_21_s0 p1)), .val (.int (v0_43_l8 p1)), .val (.int (v0_51_s0 p1)), .val (.int (v0_73_l10 p1)), .val (.int (v0_81_l11 p1)), .val (.int (v0_93_l12 p2)), .val (.ref b187), .val (.int (v0_614_l14_1 p1)), .val (.long (v0_628_l15_1 q0 p1 p2)), .second, .val (.int (v0_639_s0 p2)), .val (.long (-2 : Int64)), .second, .val (.int (1 : Int32)), .val (.int (v0_73_l10 p1))] [(.int (v0_813_s0_4 q0 p1 p2))])) t) => k303 t (by
                    show Steps p.tables e below (T274.setTop (mkF m 769 #[.val (.long q0), .second, .val (.int p1), .val (.int p2), .val (.long (v0_5_l4 q0)), .second, .val (.int (v0_14_l6 p1)), .val (.int (v0_21_s0 p1)), .val (.int (v0_43_l8 p1)), .val (.int (v0_51_s0 p1)), .val (.int (v0_73_l10 p1)), .val (.int (v0_81_l11 p1)), .val (.int (v0_93_l12 p2)), .val (.ref b187), .val (.int (v0_614_l14_1 p1)), .val (.long (v0_628_l15_1 q0 p1 p2)), .second, .val (.int (v0_639_s0 p2)), .unset, .unset, .val (.int (1 : Int32)), .val (.int (v0_73_l10 p1))] [(.int (17 : Int32)), (.int (v0_14_l6 p1))])) _
                    refine XS.icmpNo X274.here hx rfl (hb hby at_769) rfl (tlt hc769_304).2.2.2 ?_
                    refine X274.ldc2Long hx hown (mvT hZ (hw _ (List.mem_of_getElem? (i := 37) rfl))) (g := (mkF m 772 #[.val (.long q0), .second, .val (.int p1), .val (.int p2), .val (.long (v0_5_l4 q0)), .second, .val (.int (v0_14_l6 p1)), .val (.int (v0_21_s0 p1)), .val (.int (v0_43_l8 p1)), .val (.int (v0_51_s0 p1)), .val (.int (v0_73_l10 p1)), .val (.int (v0_81_l11 p1)), .val (.int (v0_93_l12 p2)), .val (.ref b187), .val (.int (v0_614_l14_1 p1)), .val (.long (v0_628_l15_1 q0 p1 p2)), .second, .val (.int (v0_639_s0 p2)), .unset, .unset, .val (.int (1 : Int32)), .val (.int (v0_73_l10 p1))] [])) rfl (hb hby at_772) _ ?_
                    refine XS.lstore X274.here hx rfl (hb hby at_775) rfl (l' := #[.val (.long q0), .second, .val (.int p1), .val (.int p2), .val (.long (v0_5_l4 q0)), .second, .val (.int (v0_14_l6 p1)), .val (.int (v0_21_s0 p1)), .val (.int (v0_43_l8 p1)), .val (.int (v0_51_s0 p1)), .val (.int (v0_73_l10 p1)), .val (.int (v0_81_l11 p1)), .val (.int (v0_93_l12 p2)), .val (.ref b187), .val (.int (v0_614_l14_1 p1)), .val (.long (v0_628_l15_1 q0 p1 p2)), .second, .val (.int (v0_639_s0 p2)), .val (.long (-2 : Int64)), .second, .val (.int (1 : Int32)), .val (.int (v0_73_l10 p1))]) rfl ?_
                    refine XS.goto X274.here hx rfl (pc0 := 777) (pc' := 808) rfl (hb hby at_777) (by decide) (by decide) ?_
                    refine XS.lload X274.here hx rfl (hb hby at_808) rfl ?_
                    refine XS.lload X274.here hx rfl (hb hby at_810) rfl ?_
                    show Steps p.tables e below (T274.setTop (mkF m 812 #[.val (.long q0), .second, .val (.int p1), .val (.int p2), .val (.long (v0_5_l4 q0)), .second, .val (.int (v0_14_l6 p1)), .val (.int (v0_21_s0 p1)), .val (.int (v0_43_l8 p1)), .val (.int (v0_51_s0 p1)), .val (.int (v0_73_l10 p1)), .val (.int (v0_81_l11 p1)), .val (.int (v0_93_l12 p2)), .val (.ref b187), .val (.int (v0_614_l14_1 p1)), .val (.long (v0_628_l15_1 q0 p1 p2)), .second, .val (.int (v0_639_s0 p2)), .val (.long (-2 : Int64)), .second, .val (.int (1 : Int32)), .val (.int (v0_73_l10 p1))] [(.long (-2 : Int64)), (.long (v0_628_l15_1 q0 p1 p2))])) _
                    refine XS.lcmp X274.here hx rfl (hb hby at_812) rfl ?_
                    suffices k306 : Steps p.tables e below (T274.setTop (mkF m 821 #[.val (.long q0), .second, .val (.int p1), .val (.int p2), .val (.long (v0_5_l4 q0)), .second, .val (.int (v0_14_l6 p1)), .val (.int (v0_21_s0 p1)), .val (.int (v0_43_l8 p1)), .val (.int (v0_51_s0 p1)), .val (.int (v0_73_l10 p1)), .val (.int (v0_81_l11 p1)), .val (.int (v0_93_l12 p2)), .val (.ref b187), .val (.int (v0_614_l14_1 p1)), .val (.long (v0_628_l15_1 q0 p1 p2)), .second, .val (.int (v0_639_s0 p2)), .val (.long (-2 : Int64)), .second, .val (.int (1 : Int32)), .val (.int (v0_73_l10 p1))] [(.int (v0_813_s0_4 q0 p1 p2))])) t by
                      by_cases hc813_305 : (v0_628_l15_1 q0 p1 p2) = (-2 : Int64)
                      · rw [(show (v0_813_s0_4 q0 p1 p2) = (1 : Int32) from if_pos hc813_305)] at k306
                        show Steps p.tables e below (T274.setTop (mkF m 813 #[.val (.long q0), .second, .val (.int p1), .val (.int p2), .val (.long (v0_5_l4 q0)), .second, .val (.int (v0_14_l6 p1)), .val (.int (v0_21_s0 p1)), .val (.int (v0_43_l8 p1)), .val (.int (v0_51_s0 p1)), .val (.int (v0_73_l10 p1)), .val (.int (v0_81_l11 p1)), .val (.int (v0_93_l12 p2)), .val (.ref b187), .val (.int (v0_614_l14_1 p1)), .val (.long (v0_628_l15_1 q0 p1 p2)), .second, .val (.int (v0_639_s0 p2)), .val (.long (-2 : Int64)), .second, .val (.int (1 : Int32)), .val (.int (v0_73_l10 p1))] [(.int (lcmpW (v0_628_l15_1 q0 p1 p2) (-2 : Int64)))])) _
                        refine XS.ifNo X274.here hx rfl (hb hby at_813) rfl ((if0 _ _).trans (teq ((lw_eq _ _).mpr hc813_305)).2) ?_
                        refine XS.iconst X274.here hx rfl (hb hby at_816) ?_
                        refine XS.goto X274.here hx rfl (pc0 := 817) (pc' := 821) rfl (hb hby at_817) (by decide) (by decide) ?_
                        exact k306
                      · rw [(show (v0_813_s0_4 q0 p1 p2) = (0 : Int32) from if_neg hc813_305)] at k306
                        show Steps p.tables e below (T274.setTop (mkF m 813 #[.val (.long q0), .second, .val (.int p1), .val (.int p2), .val (.long (v0_5_l4 q0)), .second, .val (.int (v0_14_l6 p1)), .val (.int (v0_21_s0 p1)), .val (.int (v0_43_l8 p1)), .val (.int (v0_51_s0 p1)), .val (.int (v0_73_l10 p1)), .val (.int (v0_81_l11 p1)), .val (.int (v0_93_l12 p2)), .val (.ref b187), .val (.int (v0_614_l14_1 p1)), .val (.long (v0_628_l15_1 q0 p1 p2)), .second, .val (.int (v0_639_s0 p2)), .val (.long (-2 : Int64)), .second, .val (.int (1 : Int32)), .val (.int (v0_73_l10 p1))] [(.int (lcmpW (v0_628_l15_1 q0 p1 p2) (-2 : Int64)))])) _
                        refine XS.ifYes X274.here hx rfl (pc0 := 813) (pc' := 820) rfl (hb hby at_813) rfl ((if0 _ _).trans (feq (fun q => hc813_305 ((lw_eq _ _).mp q))).2) (by decide) (by decide) ?_
                        refine XS.iconst X274.here hx rfl (hb hby at_820) ?_
                        exact k306
                    exact kk)
                  obtain ⟨fs, hr, hrun, hended, hW, hsame⟩ := X274.leave (v := some (.int (nar .boolean (v0_813_s0_4 q0 p1 p2)))) (fun h => by rw [Bd.returns] at h; cases h)
                  have hv : (v0_ret q0 p1 p2) = (nar .boolean (v0_813_s0_4 q0 p1 p2)) := ((if_pos hc526_247).trans ((if_neg hc559_249).trans ((if_neg hc656_279).trans ((if_neg hc718_284).trans ((if_neg hc736_289).trans ((if_neg hc744_294).trans ((if_neg hc754_299).trans (if_pos hc769_304))))))))
                  have hone : (nar .boolean (v0_813_s0_4 q0 p1 p2)) = 1 := hv.symm.trans (own_law q0 p1 p2)
                  refine ⟨_, _, k307 _ ?_, hrun, hended, _, _, rfl, ?_, ⟨_, rfl⟩, hW, hsame.mono (by decide) (by decide)⟩
                  · show Steps p.tables e below (T274.setTop (mkF m 821 #[.val (.long q0), .second, .val (.int p1), .val (.int p2), .val (.long (v0_5_l4 q0)), .second, .val (.int (v0_14_l6 p1)), .val (.int (v0_21_s0 p1)), .val (.int (v0_43_l8 p1)), .val (.int (v0_51_s0 p1)), .val (.int (v0_73_l10 p1)), .val (.int (v0_81_l11 p1)), .val (.int (v0_93_l12 p2)), .val (.ref b187), .val (.int (v0_614_l14_1 p1)), .val (.long (v0_628_l15_1 q0 p1 p2)), .second, .val (.int (v0_639_s0 p2)), .val (.long (-2 : Int64)), .second, .val (.int (1 : Int32)), .val (.int (v0_73_l10 p1))] [(.int (v0_813_s0_4 q0 p1 p2))])) _
                    exact retN X274 hx (t := .boolean) Bd.returns (by simp) (hb hby at_821) hr
                  · show Q0 Z q0 p1 p2 h0 n0 _ T274.heap _
                    rw [e274]
                    exact ⟨congrArg (fun z => some (Value.int z)) hone, N274⟩
                · have k308 := fun (t : State) (kk : Steps p.tables e below (T274.setTop (mkF m 784 #[.val (.long q0), .second, .val (.int p1), .val (.int p2), .val (.long (v0_5_l4 q0)), .second, .val (.int (v0_14_l6 p1)), .val (.int (v0_21_s0 p1)), .val (.int (v0_43_l8 p1)), .val (.int (v0_51_s0 p1)), .val (.int (v0_73_l10 p1)), .val (.int (v0_81_l11 p1)), .val (.int (v0_93_l12 p2)), .val (.ref b187), .val (.int (v0_614_l14_1 p1)), .val (.long (v0_628_l15_1 q0 p1 p2)), .second, .val (.int (v0_639_s0 p2)), .unset, .unset, .val (.int (1 : Int32)), .val (.int (v0_73_l10 p1))] [(.int (v0_14_l6 p1)), (.long (v0_5_l4 q0))])) t) => k303 t (by
                    show Steps p.tables e below (T274.setTop (mkF m 769 #[.val (.long q0), .second, .val (.int p1), .val (.int p2), .val (.long (v0_5_l4 q0)), .second, .val (.int (v0_14_l6 p1)), .val (.int (v0_21_s0 p1)), .val (.int (v0_43_l8 p1)), .val (.int (v0_51_s0 p1)), .val (.int (v0_73_l10 p1)), .val (.int (v0_81_l11 p1)), .val (.int (v0_93_l12 p2)), .val (.ref b187), .val (.int (v0_614_l14_1 p1)), .val (.long (v0_628_l15_1 q0 p1 p2)), .second, .val (.int (v0_639_s0 p2)), .unset, .unset, .val (.int (1 : Int32)), .val (.int (v0_73_l10 p1))] [(.int (17 : Int32)), (.int (v0_14_l6 p1))])) _
                    refine XS.icmpYes X274.here hx rfl (pc0 := 769) (pc' := 780) rfl (hb hby at_769) rfl (flt hc769_304).2.2.2 (by decide) (by decide) ?_
                    refine XS.lload X274.here hx rfl (hb hby at_780) rfl ?_
                    refine XS.iload X274.here hx rfl (hb hby at_782) rfl ?_
                    exact kk)
                  have Zz309 : n0 ≤ h271.size := (Nat.le_trans Z0 K271.1)
                  obtain ⟨_, _, ⟨T309, L309, k309, n309⟩, -, X309, ⟨Lc309, hQ309, l309, y309, z309⟩, st309⟩ := Jvm.LawKit.callS X274 hx (y := (⟨"com/example/gavelbook/gavelbook/DecimalsParsePinLaw", "pow10", "(I)J"⟩ : MethodName)) hown (mvT hZ (hw _ (List.mem_of_getElem? (i := 7) rfl))) (mvT hZ (hw _ (List.mem_of_getElem? (i := 8) rfl))) (mvT hZ (hw _ (List.mem_of_getElem? (i := 4) rfl))) (mvT hZ (hw _ (List.mem_of_getElem? (i := 9) rfl))) (by decide) (backOf (W := 2) (rm2 l Z a0 hw [] (v0_14_l6 p1) h271 n0 Zz309 (own_hI17 p1 hc769_304 : ¬ (v0_14_l6 p1) < 0 ∧ (v0_14_l6 p1) < (19 : Int32))) hZ (hw _ (List.mem_of_getElem? (i := 9) rfl)) (hw _ (List.mem_of_getElem? (i := 4) rfl)) (by decide) (by decide)) (g := (mkF m 784 #[.val (.long q0), .second, .val (.int p1), .val (.int p2), .val (.long (v0_5_l4 q0)), .second, .val (.int (v0_14_l6 p1)), .val (.int (v0_21_s0 p1)), .val (.int (v0_43_l8 p1)), .val (.int (v0_51_s0 p1)), .val (.int (v0_73_l10 p1)), .val (.int (v0_81_l11 p1)), .val (.int (v0_93_l12 p2)), .val (.ref b187), .val (.int (v0_614_l14_1 p1)), .val (.long (v0_628_l15_1 q0 p1 p2)), .second, .val (.int (v0_639_s0 p2)), .unset, .unset, .val (.int (1 : Int32)), .val (.int (v0_73_l10 p1))] [(.int (v0_14_l6 p1)), (.long (v0_5_l4 q0))])) rfl (by rw [hml]; rfl) (argsL := [(.int (v0_14_l6 p1))]) (rest := [(.long (v0_5_l4 q0))]) (lenOf pd_0 rfl) rfl (by show 2 * 0 + _ ≤ _; exact Nat.le_of_eq rfl) (hb hby at_784) (fun _ _ => ⟨rfl, e274, (by decide : 20 + 1 ≤ _), (by decide : 386 + 19 ≤ _)⟩)
                  dsimp only [Pt.U, Pt.locs, Pt.cells, Pt.slots] at X309 l309 y309 z309 st309 hQ309
                  subst l309 y309 z309
                  obtain ⟨rfl, N309q, Kq309⟩ := hQ309
                  have K309 : Keep h0 T309.heap [] := K271.trans Kq309 all0
                  have N309 := Fr.app N274 N309q
                  have k310 := fun (t : State) (kk : Steps p.tables e below (T309.setTop (mkF m 787 #[.val (.long q0), .second, .val (.int p1), .val (.int p2), .val (.long (v0_5_l4 q0)), .second, .val (.int (v0_14_l6 p1)), .val (.int (v0_21_s0 p1)), .val (.int (v0_43_l8 p1)), .val (.int (v0_51_s0 p1)), .val (.int (v0_73_l10 p1)), .val (.int (v0_81_l11 p1)), .val (.int (v0_93_l12 p2)), .val (.ref b187), .val (.int (v0_614_l14_1 p1)), .val (.long (v0_628_l15_1 q0 p1 p2)), .second, .val (.int (v0_639_s0 p2)), .unset, .unset, .val (.int (1 : Int32)), .val (.int (v0_73_l10 p1))] [(.long (v2_132_at (v0_14_l6 p1))), (.long (v0_5_l4 q0))])) t) => k308 t (st309 _ kk)
                  have k313 := fun (t : State) (kk : Steps p.tables e below (T309.setTop (mkF m 821 #[.val (.long q0), .second, .val (.int p1), .val (.int p2), .val (.long (v0_5_l4 q0)), .second, .val (.int (v0_14_l6 p1)), .val (.int (v0_21_s0 p1)), .val (.int (v0_43_l8 p1)), .val (.int (v0_51_s0 p1)), .val (.int (v0_73_l10 p1)), .val (.int (v0_81_l11 p1)), .val (.int (v0_93_l12 p2)), .val (.ref b187), .val (.int (v0_614_l14_1 p1)), .val (.long (v0_628_l15_1 q0 p1 p2)), .second, .val (.int (v0_639_s0 p2)), .val (.long (v0_806_l18_1 q0 p1)), .second, .val (.int (1 : Int32)), .val (.int (v0_73_l10 p1))] [(.int (v0_813_s0_5 q0 p1 p2))])) t) => k310 t (by
                    show Steps p.tables e below (T309.setTop (mkF m 787 #[.val (.long q0), .second, .val (.int p1), .val (.int p2), .val (.long (v0_5_l4 q0)), .second, .val (.int (v0_14_l6 p1)), .val (.int (v0_21_s0 p1)), .val (.int (v0_43_l8 p1)), .val (.int (v0_51_s0 p1)), .val (.int (v0_73_l10 p1)), .val (.int (v0_81_l11 p1)), .val (.int (v0_93_l12 p2)), .val (.ref b187), .val (.int (v0_614_l14_1 p1)), .val (.long (v0_628_l15_1 q0 p1 p2)), .second, .val (.int (v0_639_s0 p2)), .unset, .unset, .val (.int (1 : Int32)), .val (.int (v0_73_l10 p1))] [(.long (v2_132_at (v0_14_l6 p1))), (.long (v0_5_l4 q0))])) _
                    refine own_lremM X309 hx rfl (hb hby at_787) rfl (own_pnz _ (own_hI17 p1 hc769_304)) ?_
                    refine XS.iconst X309.here hx rfl (hb hby at_788) ?_
                    refine XS.lshl X309.here hx rfl (hb hby at_789) rfl ?_
                    refine XS.iload X309.here hx rfl (hb hby at_790) rfl ?_
                    show Steps p.tables e below (T309.setTop (mkF m 792 #[.val (.long q0), .second, .val (.int p1), .val (.int p2), .val (.long (v0_5_l4 q0)), .second, .val (.int (v0_14_l6 p1)), .val (.int (v0_21_s0 p1)), .val (.int (v0_43_l8 p1)), .val (.int (v0_51_s0 p1)), .val (.int (v0_73_l10 p1)), .val (.int (v0_81_l11 p1)), .val (.int (v0_93_l12 p2)), .val (.ref b187), .val (.int (v0_614_l14_1 p1)), .val (.long (v0_628_l15_1 q0 p1 p2)), .second, .val (.int (v0_639_s0 p2)), .unset, .unset, .val (.int (1 : Int32)), .val (.int (v0_73_l10 p1))] [(.int (1 : Int32)), (.long (((v0_5_l4 q0) % (v2_132_at (v0_14_l6 p1))) <<< ((4 : Int32) &&& 0x3f).toInt64))])) _
                    refine XS.ifNo X309.here hx rfl (hb hby at_792) rfl ((if0 _ _).trans (feq (by decide : ¬ ((1 : Int32) = (0 : Int32)))).1) ?_
                    refine XS.iload X309.here hx rfl (hb hby at_795) rfl ?_
                    refine XS.iload X309.here hx rfl (hb hby at_797) rfl ?_
                    show Steps p.tables e below (T309.setTop (mkF m 799 #[.val (.long q0), .second, .val (.int p1), .val (.int p2), .val (.long (v0_5_l4 q0)), .second, .val (.int (v0_14_l6 p1)), .val (.int (v0_21_s0 p1)), .val (.int (v0_43_l8 p1)), .val (.int (v0_51_s0 p1)), .val (.int (v0_73_l10 p1)), .val (.int (v0_81_l11 p1)), .val (.int (v0_93_l12 p2)), .val (.ref b187), .val (.int (v0_614_l14_1 p1)), .val (.long (v0_628_l15_1 q0 p1 p2)), .second, .val (.int (v0_639_s0 p2)), .unset, .unset, .val (.int (1 : Int32)), .val (.int (v0_73_l10 p1))] [(.int (v0_73_l10 p1)), (.int (v0_14_l6 p1)), (.long (((v0_5_l4 q0) % (v2_132_at (v0_14_l6 p1))) <<< ((4 : Int32) &&& 0x3f).toInt64))])) _
                    refine XS.isub X309.here hx rfl (hb hby at_799) rfl ?_
                    refine XS.goto X309.here hx rfl (pc0 := 800) (pc' := 804) rfl (hb hby at_800) (by decide) (by decide) ?_
                    refine XS.i2l X309.here hx rfl (hb hby at_804) rfl ?_
                    refine XS.lor X309.here hx rfl (hb hby at_805) rfl ?_
                    refine XS.lstore X309.here hx rfl (hb hby at_806) rfl (l' := #[.val (.long q0), .second, .val (.int p1), .val (.int p2), .val (.long (v0_5_l4 q0)), .second, .val (.int (v0_14_l6 p1)), .val (.int (v0_21_s0 p1)), .val (.int (v0_43_l8 p1)), .val (.int (v0_51_s0 p1)), .val (.int (v0_73_l10 p1)), .val (.int (v0_81_l11 p1)), .val (.int (v0_93_l12 p2)), .val (.ref b187), .val (.int (v0_614_l14_1 p1)), .val (.long (v0_628_l15_1 q0 p1 p2)), .second, .val (.int (v0_639_s0 p2)), .val (.long (v0_806_l18_1 q0 p1)), .second, .val (.int (1 : Int32)), .val (.int (v0_73_l10 p1))]) rfl ?_
                    refine XS.lload X309.here hx rfl (hb hby at_808) rfl ?_
                    show Steps p.tables e below (T309.setTop (mkF m 810 #[.val (.long q0), .second, .val (.int p1), .val (.int p2), .val (.long (v0_5_l4 q0)), .second, .val (.int (v0_14_l6 p1)), .val (.int (v0_21_s0 p1)), .val (.int (v0_43_l8 p1)), .val (.int (v0_51_s0 p1)), .val (.int (v0_73_l10 p1)), .val (.int (v0_81_l11 p1)), .val (.int (v0_93_l12 p2)), .val (.ref b187), .val (.int (v0_614_l14_1 p1)), .val (.long (v0_628_l15_1 q0 p1 p2)), .second, .val (.int (v0_639_s0 p2)), .val (.long (v0_806_l18_1 q0 p1)), .second, .val (.int (1 : Int32)), .val (.int (v0_73_l10 p1))] [(.long (v0_628_l15_1 q0 p1 p2))])) _
                    refine XS.lload X309.here hx rfl (hb hby at_810) rfl ?_
                    refine XS.lcmp X309.here hx rfl (hb hby at_812) rfl ?_
                    suffices k312 : Steps p.tables e below (T309.setTop (mkF m 821 #[.val (.long q0), .second, .val (.int p1), .val (.int p2), .val (.long (v0_5_l4 q0)), .second, .val (.int (v0_14_l6 p1)), .val (.int (v0_21_s0 p1)), .val (.int (v0_43_l8 p1)), .val (.int (v0_51_s0 p1)), .val (.int (v0_73_l10 p1)), .val (.int (v0_81_l11 p1)), .val (.int (v0_93_l12 p2)), .val (.ref b187), .val (.int (v0_614_l14_1 p1)), .val (.long (v0_628_l15_1 q0 p1 p2)), .second, .val (.int (v0_639_s0 p2)), .val (.long (v0_806_l18_1 q0 p1)), .second, .val (.int (1 : Int32)), .val (.int (v0_73_l10 p1))] [(.int (v0_813_s0_5 q0 p1 p2))])) t by
                      by_cases hc813_311 : (v0_628_l15_1 q0 p1 p2) = (v0_806_l18_1 q0 p1)
                      · rw [(show (v0_813_s0_5 q0 p1 p2) = (1 : Int32) from if_pos hc813_311)] at k312
                        show Steps p.tables e below (T309.setTop (mkF m 813 #[.val (.long q0), .second, .val (.int p1), .val (.int p2), .val (.long (v0_5_l4 q0)), .second, .val (.int (v0_14_l6 p1)), .val (.int (v0_21_s0 p1)), .val (.int (v0_43_l8 p1)), .val (.int (v0_51_s0 p1)), .val (.int (v0_73_l10 p1)), .val (.int (v0_81_l11 p1)), .val (.int (v0_93_l12 p2)), .val (.ref b187), .val (.int (v0_614_l14_1 p1)), .val (.long (v0_628_l15_1 q0 p1 p2)), .second, .val (.int (v0_639_s0 p2)), .val (.long (v0_806_l18_1 q0 p1)), .second, .val (.int (1 : Int32)), .val (.int (v0_73_l10 p1))] [(.int (lcmpW (v0_628_l15_1 q0 p1 p2) (v0_806_l18_1 q0 p1)))])) _
                        refine XS.ifNo X309.here hx rfl (hb hby at_813) rfl ((if0 _ _).trans (teq ((lw_eq _ _).mpr hc813_311)).2) ?_
                        refine XS.iconst X309.here hx rfl (hb hby at_816) ?_
                        refine XS.goto X309.here hx rfl (pc0 := 817) (pc' := 821) rfl (hb hby at_817) (by decide) (by decide) ?_
                        exact k312
                      · rw [(show (v0_813_s0_5 q0 p1 p2) = (0 : Int32) from if_neg hc813_311)] at k312
                        show Steps p.tables e below (T309.setTop (mkF m 813 #[.val (.long q0), .second, .val (.int p1), .val (.int p2), .val (.long (v0_5_l4 q0)), .second, .val (.int (v0_14_l6 p1)), .val (.int (v0_21_s0 p1)), .val (.int (v0_43_l8 p1)), .val (.int (v0_51_s0 p1)), .val (.int (v0_73_l10 p1)), .val (.int (v0_81_l11 p1)), .val (.int (v0_93_l12 p2)), .val (.ref b187), .val (.int (v0_614_l14_1 p1)), .val (.long (v0_628_l15_1 q0 p1 p2)), .second, .val (.int (v0_639_s0 p2)), .val (.long (v0_806_l18_1 q0 p1)), .second, .val (.int (1 : Int32)), .val (.int (v0_73_l10 p1))] [(.int (lcmpW (v0_628_l15_1 q0 p1 p2) (v0_806_l18_1 q0 p1)))])) _
                        refine XS.ifYes X309.here hx rfl (pc0 := 813) (pc' := 820) rfl (hb hby at_813) rfl ((if0 _ _).trans (feq (fun q => hc813_311 ((lw_eq _ _).mp q))).2) (by decide) (by decide) ?_
                        refine XS.iconst X309.here hx rfl (hb hby at_820) ?_
                        exact k312
                    exact kk)
                  obtain ⟨fs, hr, hrun, hended, hW, hsame⟩ := X309.leave (v := some (.int (nar .boolean (v0_813_s0_5 q0 p1 p2)))) (fun h => by rw [Bd.returns] at h; cases h)
                  have hv : (v0_ret q0 p1 p2) = (nar .boolean (v0_813_s0_5 q0 p1 p2)) := ((if_pos hc526_247).trans ((if_neg hc559_249).trans ((if_neg hc656_279).trans ((if_neg hc718_284).trans ((if_neg hc736_289).trans ((if_neg hc744_294).trans ((if_neg hc754_299).trans (if_neg hc769_304))))))))
                  have hone : (nar .boolean (v0_813_s0_5 q0 p1 p2)) = 1 := hv.symm.trans (own_law q0 p1 p2)
                  refine ⟨_, _, k313 _ ?_, hrun, hended, _, _, rfl, ?_, ⟨_, rfl⟩, hW, hsame.mono (by decide) (by decide)⟩
                  · show Steps p.tables e below (T309.setTop (mkF m 821 #[.val (.long q0), .second, .val (.int p1), .val (.int p2), .val (.long (v0_5_l4 q0)), .second, .val (.int (v0_14_l6 p1)), .val (.int (v0_21_s0 p1)), .val (.int (v0_43_l8 p1)), .val (.int (v0_51_s0 p1)), .val (.int (v0_73_l10 p1)), .val (.int (v0_81_l11 p1)), .val (.int (v0_93_l12 p2)), .val (.ref b187), .val (.int (v0_614_l14_1 p1)), .val (.long (v0_628_l15_1 q0 p1 p2)), .second, .val (.int (v0_639_s0 p2)), .val (.long (v0_806_l18_1 q0 p1)), .second, .val (.int (1 : Int32)), .val (.int (v0_73_l10 p1))] [(.int (v0_813_s0_5 q0 p1 p2))])) _
                    exact retN X309 hx (t := .boolean) Bd.returns (by simp) (hb hby at_821) hr
                  · show Q0 Z q0 p1 p2 h0 n0 _ T309.heap _
                    exact ⟨congrArg (fun z => some (Value.int z)) hone, N309⟩
  · have k318 := fun (t : State) (kk : Steps p.tables e below (T244.setTop (mkF m 556 #[.val (.long q0), .second, .val (.int p1), .val (.int p2), .val (.long (v0_5_l4 q0)), .second, .val (.int (v0_14_l6 p1)), .val (.int (v0_21_s0 p1)), .val (.int (v0_43_l8 p1)), .val (.int (v0_51_s0 p1)), .val (.int (v0_73_l10 p1)), .val (.int (v0_81_l11 p1)), .val (.int (v0_93_l12 p2)), .val (.ref b187), .unset, .unset, .unset, .unset, .unset, .unset, .unset, .unset] [(.int (46 : Int32)), (.int (((v0_81_l11 p1) + (v0_43_l8 p1)) + (v0_538_s0 p1))), (.ref b187)])) t) => k246 t (by
      show Steps p.tables e below (T244.setTop (mkF m 526 #[.val (.long q0), .second, .val (.int p1), .val (.int p2), .val (.long (v0_5_l4 q0)), .second, .val (.int (v0_14_l6 p1)), .val (.int (v0_21_s0 p1)), .val (.int (v0_43_l8 p1)), .val (.int (v0_51_s0 p1)), .val (.int (v0_73_l10 p1)), .val (.int (v0_81_l11 p1)), .val (.int (v0_93_l12 p2)), .val (.ref b187), .unset, .unset, .unset, .unset, .unset, .unset, .unset, .unset] [(.int (v0_21_s0 p1))])) _
      refine XS.ifNo X244.here hx rfl (hb hby at_526) rfl ((if0 _ _).trans (feq hc526_247).1) ?_
      refine XS.aload X244.here hx rfl (hb hby at_529) rfl rfl ?_
      show Steps p.tables e below (T244.setTop (mkF m 531 #[.val (.long q0), .second, .val (.int p1), .val (.int p2), .val (.long (v0_5_l4 q0)), .second, .val (.int (v0_14_l6 p1)), .val (.int (v0_21_s0 p1)), .val (.int (v0_43_l8 p1)), .val (.int (v0_51_s0 p1)), .val (.int (v0_73_l10 p1)), .val (.int (v0_81_l11 p1)), .val (.int (v0_93_l12 p2)), .val (.ref b187), .unset, .unset, .unset, .unset, .unset, .unset, .unset, .unset] [(.ref b187)])) _
      refine XS.iload X244.here hx rfl (hb hby at_531) rfl ?_
      refine XS.iload X244.here hx rfl (hb hby at_533) rfl ?_
      refine XS.iadd X244.here hx rfl (hb hby at_535) rfl ?_
      refine XS.iload X244.here hx rfl (hb hby at_536) rfl ?_
      suffices k317 : Steps p.tables e below (T244.setTop (mkF m 553 #[.val (.long q0), .second, .val (.int p1), .val (.int p2), .val (.long (v0_5_l4 q0)), .second, .val (.int (v0_14_l6 p1)), .val (.int (v0_21_s0 p1)), .val (.int (v0_43_l8 p1)), .val (.int (v0_51_s0 p1)), .val (.int (v0_73_l10 p1)), .val (.int (v0_81_l11 p1)), .val (.int (v0_93_l12 p2)), .val (.ref b187), .unset, .unset, .unset, .unset, .unset, .unset, .unset, .unset] [(.int (v0_538_s0 p1)), (.int ((v0_81_l11 p1) + (v0_43_l8 p1))), (.ref b187)])) t by
        by_cases hc538_314 : (v0_51_s0 p1) = (0 : Int32)
        · rw [(show (v0_538_s0 p1) = (0 : Int32) from if_pos hc538_314)] at k317
          show Steps p.tables e below (T244.setTop (mkF m 538 #[.val (.long q0), .second, .val (.int p1), .val (.int p2), .val (.long (v0_5_l4 q0)), .second, .val (.int (v0_14_l6 p1)), .val (.int (v0_21_s0 p1)), .val (.int (v0_43_l8 p1)), .val (.int (v0_51_s0 p1)), .val (.int (v0_73_l10 p1)), .val (.int (v0_81_l11 p1)), .val (.int (v0_93_l12 p2)), .val (.ref b187), .unset, .unset, .unset, .unset, .unset, .unset, .unset, .unset] [(.int (v0_51_s0 p1)), (.int ((v0_81_l11 p1) + (v0_43_l8 p1))), (.ref b187)])) _
          refine XS.ifYes X244.here hx rfl (pc0 := 538) (pc' := 552) rfl (hb hby at_538) rfl ((if0 _ _).trans (teq hc538_314).1) (by decide) (by decide) ?_
          refine XS.iconst X244.here hx rfl (hb hby at_552) ?_
          exact k317
        · rw [(show (v0_538_s0 p1) = (v0_545_s0 p1) from if_neg hc538_314)] at k317
          show Steps p.tables e below (T244.setTop (mkF m 538 #[.val (.long q0), .second, .val (.int p1), .val (.int p2), .val (.long (v0_5_l4 q0)), .second, .val (.int (v0_14_l6 p1)), .val (.int (v0_21_s0 p1)), .val (.int (v0_43_l8 p1)), .val (.int (v0_51_s0 p1)), .val (.int (v0_73_l10 p1)), .val (.int (v0_81_l11 p1)), .val (.int (v0_93_l12 p2)), .val (.ref b187), .unset, .unset, .unset, .unset, .unset, .unset, .unset, .unset] [(.int (v0_51_s0 p1)), (.int ((v0_81_l11 p1) + (v0_43_l8 p1))), (.ref b187)])) _
          refine XS.ifNo X244.here hx rfl (hb hby at_538) rfl ((if0 _ _).trans (feq hc538_314).1) ?_
          refine XS.iload X244.here hx rfl (hb hby at_541) rfl ?_
          show Steps p.tables e below (T244.setTop (mkF m 543 #[.val (.long q0), .second, .val (.int p1), .val (.int p2), .val (.long (v0_5_l4 q0)), .second, .val (.int (v0_14_l6 p1)), .val (.int (v0_21_s0 p1)), .val (.int (v0_43_l8 p1)), .val (.int (v0_51_s0 p1)), .val (.int (v0_73_l10 p1)), .val (.int (v0_81_l11 p1)), .val (.int (v0_93_l12 p2)), .val (.ref b187), .unset, .unset, .unset, .unset, .unset, .unset, .unset, .unset] [(.int (v0_73_l10 p1)), (.int ((v0_81_l11 p1) + (v0_43_l8 p1))), (.ref b187)])) _
          refine XS.iload X244.here hx rfl (hb hby at_543) rfl ?_
          suffices k316 : Steps p.tables e below (T244.setTop (mkF m 553 #[.val (.long q0), .second, .val (.int p1), .val (.int p2), .val (.long (v0_5_l4 q0)), .second, .val (.int (v0_14_l6 p1)), .val (.int (v0_21_s0 p1)), .val (.int (v0_43_l8 p1)), .val (.int (v0_51_s0 p1)), .val (.int (v0_73_l10 p1)), .val (.int (v0_81_l11 p1)), .val (.int (v0_93_l12 p2)), .val (.ref b187), .unset, .unset, .unset, .unset, .unset, .unset, .unset, .unset] [(.int (v0_545_s0 p1)), (.int ((v0_81_l11 p1) + (v0_43_l8 p1))), (.ref b187)])) t by
            by_cases hc545_315 : (v0_73_l10 p1) < (v0_43_l8 p1)
            · rw [(show (v0_545_s0 p1) = (1 : Int32) from if_pos hc545_315)] at k316
              show Steps p.tables e below (T244.setTop (mkF m 545 #[.val (.long q0), .second, .val (.int p1), .val (.int p2), .val (.long (v0_5_l4 q0)), .second, .val (.int (v0_14_l6 p1)), .val (.int (v0_21_s0 p1)), .val (.int (v0_43_l8 p1)), .val (.int (v0_51_s0 p1)), .val (.int (v0_73_l10 p1)), .val (.int (v0_81_l11 p1)), .val (.int (v0_93_l12 p2)), .val (.ref b187), .unset, .unset, .unset, .unset, .unset, .unset, .unset, .unset] [(.int (v0_43_l8 p1)), (.int (v0_73_l10 p1)), (.int ((v0_81_l11 p1) + (v0_43_l8 p1))), (.ref b187)])) _
              refine XS.icmpNo X244.here hx rfl (hb hby at_545) rfl (tlt hc545_315).2.1 ?_
              refine XS.iconst X244.here hx rfl (hb hby at_548) ?_
              refine XS.goto X244.here hx rfl (pc0 := 549) (pc' := 553) rfl (hb hby at_549) (by decide) (by decide) ?_
              exact k316
            · rw [(show (v0_545_s0 p1) = (0 : Int32) from if_neg hc545_315)] at k316
              show Steps p.tables e below (T244.setTop (mkF m 545 #[.val (.long q0), .second, .val (.int p1), .val (.int p2), .val (.long (v0_5_l4 q0)), .second, .val (.int (v0_14_l6 p1)), .val (.int (v0_21_s0 p1)), .val (.int (v0_43_l8 p1)), .val (.int (v0_51_s0 p1)), .val (.int (v0_73_l10 p1)), .val (.int (v0_81_l11 p1)), .val (.int (v0_93_l12 p2)), .val (.ref b187), .unset, .unset, .unset, .unset, .unset, .unset, .unset, .unset] [(.int (v0_43_l8 p1)), (.int (v0_73_l10 p1)), (.int ((v0_81_l11 p1) + (v0_43_l8 p1))), (.ref b187)])) _
              refine XS.icmpYes X244.here hx rfl (pc0 := 545) (pc' := 552) rfl (hb hby at_545) rfl (flt hc545_315).2.1 (by decide) (by decide) ?_
              refine XS.iconst X244.here hx rfl (hb hby at_552) ?_
              exact k316
          exact k317
      refine XS.iadd X244.here hx rfl (hb hby at_553) rfl ?_
      refine XS.bipush X244.here hx rfl (hb hby at_554) ?_
      exact kk)
    have hV319 := V244n
    obtain ⟨cl319, Ar319, q319, S319, Nn319, H319, G319⟩ := hV319
    have hb320 : ¬ (((v0_81_l11 p1) + (v0_43_l8 p1)) + (v0_538_s0 p1)) < 0 ∧ (((v0_81_l11 p1) + (v0_43_l8 p1)) + (v0_538_s0 p1)) < (25 : Int32) := own_in p1 _ _ (own_k p1) (own_538 p1)
    have hin320 : ¬ ((((v0_81_l11 p1) + (v0_43_l8 p1)) + (v0_538_s0 p1)) < 0 ∨ cl319.slots.size ≤ ((((v0_81_l11 p1) + (v0_43_l8 p1)) + (v0_538_s0 p1))).toNatClampNeg) := inb_of S319 hb320
    obtain ⟨T320, h320, X320, e320, W320, st320⟩ := stB X244 hx hZ rfl Ar319 (j := (((v0_81_l11 p1) + (v0_43_l8 p1)) + (v0_538_s0 p1))) hin320 (g := (mkF m 556 #[.val (.long q0), .second, .val (.int p1), .val (.int p2), .val (.long (v0_5_l4 q0)), .second, .val (.int (v0_14_l6 p1)), .val (.int (v0_21_s0 p1)), .val (.int (v0_43_l8 p1)), .val (.int (v0_51_s0 p1)), .val (.int (v0_73_l10 p1)), .val (.int (v0_81_l11 p1)), .val (.int (v0_93_l12 p2)), .val (.ref b187), .unset, .unset, .unset, .unset, .unset, .unset, .unset, .unset] [(.int (46 : Int32)), (.int (((v0_81_l11 p1) + (v0_43_l8 p1)) + (v0_538_s0 p1))), (.ref b187)])) rfl rfl (hb hby at_556)
    have hl320 : ((((v0_81_l11 p1) + (v0_43_l8 p1)) + (v0_538_s0 p1))).toNatClampNeg < (List.map Value.int (v0_521_L0 q0 p1)).length := by rw [List.length_map, VL244n]; exact own_lt_nat hb320.1 hb320.2
    have V320r : Arv Z h320 b187 k187 .byte (25 : Int32) (List.map Value.int ((v0_521_L0 q0 p1).set ((((v0_81_l11 p1) + (v0_43_l8 p1)) + (v0_538_s0 p1))).toNatClampNeg (46 : Int32))) (.int (0 : Int32)) := by rw [List.map_set]; exact Arv.set Ar319 q319 S319 Nn319 H319 G319 (fits_nar_byte _) W320 _ rfl hl320
    have V320 : Arv Z h320 b187 k187 .byte (25 : Int32) (List.map Value.int (v0_556_L q0 p1)) (.int (0 : Int32)) := V320r
    have VL320 : (v0_556_L q0 p1).length = ((25 : Int32)).toNatClampNeg := (List.length_set).trans VL244n
    have K320 : Keep h0 h320 [] := K244.wr W320 (Or.inr sz_b187)
    have N320 := Fr.snoc X320 N244 g_b187
    have k321 := fun (t : State) (kk : Steps p.tables e below (T320.setTop (mkF m 557 #[.val (.long q0), .second, .val (.int p1), .val (.int p2), .val (.long (v0_5_l4 q0)), .second, .val (.int (v0_14_l6 p1)), .val (.int (v0_21_s0 p1)), .val (.int (v0_43_l8 p1)), .val (.int (v0_51_s0 p1)), .val (.int (v0_73_l10 p1)), .val (.int (v0_81_l11 p1)), .val (.int (v0_93_l12 p2)), .val (.ref b187), .unset, .unset, .unset, .unset, .unset, .unset, .unset, .unset] [])) t) => k318 t (st320 _ kk)
    have k322 := fun (t : State) (kk : Steps p.tables e below (T320.setTop (mkF m 559 #[.val (.long q0), .second, .val (.int p1), .val (.int p2), .val (.long (v0_5_l4 q0)), .second, .val (.int (v0_14_l6 p1)), .val (.int (v0_21_s0 p1)), .val (.int (v0_43_l8 p1)), .val (.int (v0_51_s0 p1)), .val (.int (v0_73_l10 p1)), .val (.int (v0_81_l11 p1)), .val (.int (v0_93_l12 p2)), .val (.ref b187), .unset, .unset, .unset, .unset, .unset, .unset, .unset, .unset] [(.int (v0_51_s0 p1))])) t) => k321 t (by
      show Steps p.tables e below (T320.setTop (mkF m 557 #[.val (.long q0), .second, .val (.int p1), .val (.int p2), .val (.long (v0_5_l4 q0)), .second, .val (.int (v0_14_l6 p1)), .val (.int (v0_21_s0 p1)), .val (.int (v0_43_l8 p1)), .val (.int (v0_51_s0 p1)), .val (.int (v0_73_l10 p1)), .val (.int (v0_81_l11 p1)), .val (.int (v0_93_l12 p2)), .val (.ref b187), .unset, .unset, .unset, .unset, .unset, .unset, .unset, .unset] [])) _
      refine XS.iload X320.here hx rfl (hb hby at_557) rfl ?_
      exact kk)
    by_cases hc559_323 : (v0_51_s0 p1) = (0 : Int32)
    · have k324 := fun (t : State) (kk : Steps p.tables e below (T320.setTop (mkF m 625 #[.val (.long q0), .second, .val (.int p1), .val (.int p2), .val (.long (v0_5_l4 q0)), .second, .val (.int (v0_14_l6 p1)), .val (.int (v0_21_s0 p1)), .val (.int (v0_43_l8 p1)), .val (.int (v0_51_s0 p1)), .val (.int (v0_73_l10 p1)), .val (.int (v0_81_l11 p1)), .val (.int (v0_93_l12 p2)), .val (.ref b187), .val (.int (v0_614_l14_2 p1)), .unset, .unset, .unset, .unset, .unset, .unset, .unset] [(.int ((v0_81_l11 p1) + (v0_614_l14_2 p1))), (.int (v0_81_l11 p1)), (.ref b187)])) t) => k322 t (by
        show Steps p.tables e below (T320.setTop (mkF m 559 #[.val (.long q0), .second, .val (.int p1), .val (.int p2), .val (.long (v0_5_l4 q0)), .second, .val (.int (v0_14_l6 p1)), .val (.int (v0_21_s0 p1)), .val (.int (v0_43_l8 p1)), .val (.int (v0_51_s0 p1)), .val (.int (v0_73_l10 p1)), .val (.int (v0_81_l11 p1)), .val (.int (v0_93_l12 p2)), .val (.ref b187), .unset, .unset, .unset, .unset, .unset, .unset, .unset, .unset] [(.int (v0_51_s0 p1))])) _
        refine XS.ifYes X320.here hx rfl (pc0 := 559) (pc' := 590) rfl (hb hby at_559) rfl ((if0 _ _).trans (teq hc559_323).1) (by decide) (by decide) ?_
        refine XS.iload X320.here hx rfl (hb hby at_590) rfl ?_
        refine XS.iload X320.here hx rfl (hb hby at_592) rfl ?_
        show Steps p.tables e below (T320.setTop (mkF m 594 #[.val (.long q0), .second, .val (.int p1), .val (.int p2), .val (.long (v0_5_l4 q0)), .second, .val (.int (v0_14_l6 p1)), .val (.int (v0_21_s0 p1)), .val (.int (v0_43_l8 p1)), .val (.int (v0_51_s0 p1)), .val (.int (v0_73_l10 p1)), .val (.int (v0_81_l11 p1)), .val (.int (v0_93_l12 p2)), .val (.ref b187), .unset, .unset, .unset, .unset, .unset, .unset, .unset, .unset] [(.int (v0_21_s0 p1)), (.int (v0_14_l6 p1))])) _
        refine XS.ifNo X320.here hx rfl (hb hby at_594) rfl ((if0 _ _).trans (feq hc526_247).1) ?_
        refine XS.iconst X320.here hx rfl (hb hby at_597) ?_
        refine XS.goto X320.here hx rfl (pc0 := 598) (pc' := 602) rfl (hb hby at_598) (by decide) (by decide) ?_
        refine XS.iadd X320.here hx rfl (hb hby at_602) rfl ?_
        show Steps p.tables e below (T320.setTop (mkF m 603 #[.val (.long q0), .second, .val (.int p1), .val (.int p2), .val (.long (v0_5_l4 q0)), .second, .val (.int (v0_14_l6 p1)), .val (.int (v0_21_s0 p1)), .val (.int (v0_43_l8 p1)), .val (.int (v0_51_s0 p1)), .val (.int (v0_73_l10 p1)), .val (.int (v0_81_l11 p1)), .val (.int (v0_93_l12 p2)), .val (.ref b187), .unset, .unset, .unset, .unset, .unset, .unset, .unset, .unset] [(.int ((v0_14_l6 p1) + (1 : Int32)))])) _
        refine XS.iload X320.here hx rfl (hb hby at_603) rfl ?_
        show Steps p.tables e below (T320.setTop (mkF m 605 #[.val (.long q0), .second, .val (.int p1), .val (.int p2), .val (.long (v0_5_l4 q0)), .second, .val (.int (v0_14_l6 p1)), .val (.int (v0_21_s0 p1)), .val (.int (v0_43_l8 p1)), .val (.int (v0_51_s0 p1)), .val (.int (v0_73_l10 p1)), .val (.int (v0_81_l11 p1)), .val (.int (v0_93_l12 p2)), .val (.ref b187), .unset, .unset, .unset, .unset, .unset, .unset, .unset, .unset] [(.int (v0_51_s0 p1)), (.int ((v0_14_l6 p1) + (1 : Int32)))])) _
        refine XS.ifYes X320.here hx rfl (pc0 := 605) (pc' := 612) rfl (hb hby at_605) rfl ((if0 _ _).trans (teq hc559_323).1) (by decide) (by decide) ?_
        refine XS.iconst X320.here hx rfl (hb hby at_612) ?_
        refine XS.iadd X320.here hx rfl (hb hby at_613) rfl ?_
        refine XS.istore X320.here hx rfl (hb hby at_614) rfl (l' := #[.val (.long q0), .second, .val (.int p1), .val (.int p2), .val (.long (v0_5_l4 q0)), .second, .val (.int (v0_14_l6 p1)), .val (.int (v0_21_s0 p1)), .val (.int (v0_43_l8 p1)), .val (.int (v0_51_s0 p1)), .val (.int (v0_73_l10 p1)), .val (.int (v0_81_l11 p1)), .val (.int (v0_93_l12 p2)), .val (.ref b187), .val (.int (v0_614_l14_2 p1)), .unset, .unset, .unset, .unset, .unset, .unset, .unset]) rfl ?_
        refine XS.aload X320.here hx rfl (hb hby at_616) rfl rfl ?_
        refine XS.iload X320.here hx rfl (hb hby at_618) rfl ?_
        show Steps p.tables e below (T320.setTop (mkF m 620 #[.val (.long q0), .second, .val (.int p1), .val (.int p2), .val (.long (v0_5_l4 q0)), .second, .val (.int (v0_14_l6 p1)), .val (.int (v0_21_s0 p1)), .val (.int (v0_43_l8 p1)), .val (.int (v0_51_s0 p1)), .val (.int (v0_73_l10 p1)), .val (.int (v0_81_l11 p1)), .val (.int (v0_93_l12 p2)), .val (.ref b187), .val (.int (v0_614_l14_2 p1)), .unset, .unset, .unset, .unset, .unset, .unset, .unset] [(.int (v0_81_l11 p1)), (.ref b187)])) _
        refine XS.iload X320.here hx rfl (hb hby at_620) rfl ?_
        refine XS.iload X320.here hx rfl (hb hby at_622) rfl ?_
        refine XS.iadd X320.here hx rfl (hb hby at_624) rfl ?_
        exact kk)
      have Zz325 : n0 ≤ h320.size := (Nat.le_trans Z0 K320.1)
      obtain ⟨_, _, ⟨T325, L325, k325, n325⟩, -, X325, ⟨Lc325, hQ325, l325, y325, z325⟩, st325⟩ := Jvm.LawKit.callS X320 hx (y := (⟨"com/example/gavelbook/gavelbook/Decimals", "parse", "([BII)J"⟩ : MethodName)) hown (mvT hZ (hw _ (List.mem_of_getElem? (i := 29) rfl))) (mvT hZ (hw _ (List.mem_of_getElem? (i := 30) rfl))) (mvT hZ (hw _ (List.mem_of_getElem? (i := 31) rfl))) (mvT hZ (hw _ (List.mem_of_getElem? (i := 32) rfl))) (by decide) (backOf (W := 0) (rm3 l Z a0 hw [] b187 (v0_81_l11 p1) ((v0_81_l11 p1) + (v0_614_l14_2 p1)) k187 (25 : Int32) (v0_556_L q0 p1) h320 n0 Zz325 (own_hst p1 : ¬ (v0_81_l11 p1) < 0) (own_hfin p1 1 0 (by decide) (by decide) : ¬ (25 : Int32) < ((v0_81_l11 p1) + (v0_614_l14_2 p1))) V320 VL320) hZ (hw _ (List.mem_of_getElem? (i := 32) rfl)) (hw _ (List.mem_of_getElem? (i := 31) rfl)) (by decide) (by decide)) (g := (mkF m 625 #[.val (.long q0), .second, .val (.int p1), .val (.int p2), .val (.long (v0_5_l4 q0)), .second, .val (.int (v0_14_l6 p1)), .val (.int (v0_21_s0 p1)), .val (.int (v0_43_l8 p1)), .val (.int (v0_51_s0 p1)), .val (.int (v0_73_l10 p1)), .val (.int (v0_81_l11 p1)), .val (.int (v0_93_l12 p2)), .val (.ref b187), .val (.int (v0_614_l14_2 p1)), .unset, .unset, .unset, .unset, .unset, .unset, .unset] [(.int ((v0_81_l11 p1) + (v0_614_l14_2 p1))), (.int (v0_81_l11 p1)), (.ref b187)])) rfl (by rw [hml]; rfl) (argsL := [(.ref b187), (.int (v0_81_l11 p1)), (.int ((v0_81_l11 p1) + (v0_614_l14_2 p1)))]) (rest := []) (lenOf pd_2 rfl) rfl (by show 2 * 0 + _ ≤ _; exact Nat.le_of_eq rfl) (hb hby at_625) (fun _ _ => ⟨rfl, e320, (by decide : 20 + 0 ≤ _), (by decide : 386 + 0 ≤ _)⟩)
      dsimp only [Pt.U, Pt.locs, Pt.cells, Pt.slots] at X325 l325 y325 z325 st325 hQ325
      subst l325 y325 z325
      obtain ⟨rfl, N325q, e325⟩ := hQ325
      have N325 := Fr.app N320 N325q
      have k326 := fun (t : State) (kk : Steps p.tables e below (T325.setTop (mkF m 628 #[.val (.long q0), .second, .val (.int p1), .val (.int p2), .val (.long (v0_5_l4 q0)), .second, .val (.int (v0_14_l6 p1)), .val (.int (v0_21_s0 p1)), .val (.int (v0_43_l8 p1)), .val (.int (v0_51_s0 p1)), .val (.int (v0_73_l10 p1)), .val (.int (v0_81_l11 p1)), .val (.int (v0_93_l12 p2)), .val (.ref b187), .val (.int (v0_614_l14_2 p1)), .unset, .unset, .unset, .unset, .unset, .unset, .unset] [(.long (own_parse (v0_81_l11 p1) ((v0_81_l11 p1) + (v0_614_l14_2 p1)) (v0_556_L q0 p1) (((v0_81_l11 p1) + (v0_614_l14_2 p1)).toInt - (v0_81_l11 p1).toInt).toNat (0 : Int64) (0 : Int32) (-1 : Int32) (v0_81_l11 p1)))])) t) => k324 t (st325 _ kk)
      have k327 := fun (t : State) (kk : Steps p.tables e below (T325.setTop (mkF m 718 #[.val (.long q0), .second, .val (.int p1), .val (.int p2), .val (.long (v0_5_l4 q0)), .second, .val (.int (v0_14_l6 p1)), .val (.int (v0_21_s0 p1)), .val (.int (v0_43_l8 p1)), .val (.int (v0_51_s0 p1)), .val (.int (v0_73_l10 p1)), .val (.int (v0_81_l11 p1)), .val (.int (v0_93_l12 p2)), .val (.ref b187), .val (.int (v0_614_l14_2 p1)), .val (.long (v0_628_l15_2 q0 p1)), .second, .val (.int (0 : Int32)), .unset, .unset, .val (.int (1 : Int32)), .val (.int (v0_43_l8 p1))] [(.int (v0_614_l14_2 p1))])) t) => k326 t (by
        refine XS.lstore X325.here hx rfl (hb hby at_628) rfl (l' := #[.val (.long q0), .second, .val (.int p1), .val (.int p2), .val (.long (v0_5_l4 q0)), .second, .val (.int (v0_14_l6 p1)), .val (.int (v0_21_s0 p1)), .val (.int (v0_43_l8 p1)), .val (.int (v0_51_s0 p1)), .val (.int (v0_73_l10 p1)), .val (.int (v0_81_l11 p1)), .val (.int (v0_93_l12 p2)), .val (.ref b187), .val (.int (v0_614_l14_2 p1)), .val (.long (v0_628_l15_2 q0 p1)), .second, .unset, .unset, .unset, .unset, .unset]) rfl ?_
        refine XS.iload X325.here hx rfl (hb hby at_630) rfl ?_
        show Steps p.tables e below (T325.setTop (mkF m 632 #[.val (.long q0), .second, .val (.int p1), .val (.int p2), .val (.long (v0_5_l4 q0)), .second, .val (.int (v0_14_l6 p1)), .val (.int (v0_21_s0 p1)), .val (.int (v0_43_l8 p1)), .val (.int (v0_51_s0 p1)), .val (.int (v0_73_l10 p1)), .val (.int (v0_81_l11 p1)), .val (.int (v0_93_l12 p2)), .val (.ref b187), .val (.int (v0_614_l14_2 p1)), .val (.long (v0_628_l15_2 q0 p1)), .second, .unset, .unset, .unset, .unset, .unset] [(.int (v0_51_s0 p1))])) _
        refine XS.ifYes X325.here hx rfl (pc0 := 632) (pc' := 646) rfl (hb hby at_632) rfl ((if0 _ _).trans (teq hc559_323).1) (by decide) (by decide) ?_
        refine XS.iconst X325.here hx rfl (hb hby at_646) ?_
        show Steps p.tables e below (T325.setTop (mkF m 647 #[.val (.long q0), .second, .val (.int p1), .val (.int p2), .val (.long (v0_5_l4 q0)), .second, .val (.int (v0_14_l6 p1)), .val (.int (v0_21_s0 p1)), .val (.int (v0_43_l8 p1)), .val (.int (v0_51_s0 p1)), .val (.int (v0_73_l10 p1)), .val (.int (v0_81_l11 p1)), .val (.int (v0_93_l12 p2)), .val (.ref b187), .val (.int (v0_614_l14_2 p1)), .val (.long (v0_628_l15_2 q0 p1)), .second, .unset, .unset, .unset, .unset, .unset] [(.int (0 : Int32))])) _
        refine XS.istore X325.here hx rfl (hb hby at_647) rfl (l' := #[.val (.long q0), .second, .val (.int p1), .val (.int p2), .val (.long (v0_5_l4 q0)), .second, .val (.int (v0_14_l6 p1)), .val (.int (v0_21_s0 p1)), .val (.int (v0_43_l8 p1)), .val (.int (v0_51_s0 p1)), .val (.int (v0_73_l10 p1)), .val (.int (v0_81_l11 p1)), .val (.int (v0_93_l12 p2)), .val (.ref b187), .val (.int (v0_614_l14_2 p1)), .val (.long (v0_628_l15_2 q0 p1)), .second, .val (.int (0 : Int32)), .unset, .unset, .unset, .unset]) rfl ?_
        refine XS.iload X325.here hx rfl (hb hby at_649) rfl ?_
        show Steps p.tables e below (T325.setTop (mkF m 651 #[.val (.long q0), .second, .val (.int p1), .val (.int p2), .val (.long (v0_5_l4 q0)), .second, .val (.int (v0_14_l6 p1)), .val (.int (v0_21_s0 p1)), .val (.int (v0_43_l8 p1)), .val (.int (v0_51_s0 p1)), .val (.int (v0_73_l10 p1)), .val (.int (v0_81_l11 p1)), .val (.int (v0_93_l12 p2)), .val (.ref b187), .val (.int (v0_614_l14_2 p1)), .val (.long (v0_628_l15_2 q0 p1)), .second, .val (.int (0 : Int32)), .unset, .unset, .unset, .unset] [(.int (v0_51_s0 p1))])) _
        refine XS.ifYes X325.here hx rfl (pc0 := 651) (pc' := 667) rfl (hb hby at_651) rfl ((if0 _ _).trans (teq hc559_323).1) (by decide) (by decide) ?_
        refine XS.iload X325.here hx rfl (hb hby at_667) rfl ?_
        show Steps p.tables e below (T325.setTop (mkF m 669 #[.val (.long q0), .second, .val (.int p1), .val (.int p2), .val (.long (v0_5_l4 q0)), .second, .val (.int (v0_14_l6 p1)), .val (.int (v0_21_s0 p1)), .val (.int (v0_43_l8 p1)), .val (.int (v0_51_s0 p1)), .val (.int (v0_73_l10 p1)), .val (.int (v0_81_l11 p1)), .val (.int (v0_93_l12 p2)), .val (.ref b187), .val (.int (v0_614_l14_2 p1)), .val (.long (v0_628_l15_2 q0 p1)), .second, .val (.int (0 : Int32)), .unset, .unset, .unset, .unset] [(.int (v0_21_s0 p1))])) _
        refine XS.ifNo X325.here hx rfl (hb hby at_669) rfl ((if0 _ _).trans (feq hc526_247).1) ?_
        refine XS.iload X325.here hx rfl (hb hby at_672) rfl ?_
        show Steps p.tables e below (T325.setTop (mkF m 674 #[.val (.long q0), .second, .val (.int p1), .val (.int p2), .val (.long (v0_5_l4 q0)), .second, .val (.int (v0_14_l6 p1)), .val (.int (v0_21_s0 p1)), .val (.int (v0_43_l8 p1)), .val (.int (v0_51_s0 p1)), .val (.int (v0_73_l10 p1)), .val (.int (v0_81_l11 p1)), .val (.int (v0_93_l12 p2)), .val (.ref b187), .val (.int (v0_614_l14_2 p1)), .val (.long (v0_628_l15_2 q0 p1)), .second, .val (.int (0 : Int32)), .unset, .unset, .unset, .unset] [(.int (0 : Int32))])) _
        refine XS.ifYes X325.here hx rfl (pc0 := 674) (pc' := 685) rfl (hb hby at_674) rfl ((if0 _ _).trans (teq (rfl : (0 : Int32) = (0 : Int32))).1) (by decide) (by decide) ?_
        refine XS.iload X325.here hx rfl (hb hby at_685) rfl ?_
        show Steps p.tables e below (T325.setTop (mkF m 687 #[.val (.long q0), .second, .val (.int p1), .val (.int p2), .val (.long (v0_5_l4 q0)), .second, .val (.int (v0_14_l6 p1)), .val (.int (v0_21_s0 p1)), .val (.int (v0_43_l8 p1)), .val (.int (v0_51_s0 p1)), .val (.int (v0_73_l10 p1)), .val (.int (v0_81_l11 p1)), .val (.int (v0_93_l12 p2)), .val (.ref b187), .val (.int (v0_614_l14_2 p1)), .val (.long (v0_628_l15_2 q0 p1)), .second, .val (.int (0 : Int32)), .unset, .unset, .unset, .unset] [(.int (v0_21_s0 p1))])) _
        refine XS.ifYes X325.here hx rfl (pc0 := 687) (pc' := 695) rfl (hb hby at_687) rfl ((if0 _ _).trans (feq hc526_247).2) (by decide) (by decide) ?_
        refine XS.iconst X325.here hx rfl (hb hby at_695) ?_
        show Steps p.tables e below (T325.setTop (mkF m 696 #[.val (.long q0), .second, .val (.int p1), .val (.int p2), .val (.long (v0_5_l4 q0)), .second, .val (.int (v0_14_l6 p1)), .val (.int (v0_21_s0 p1)), .val (.int (v0_43_l8 p1)), .val (.int (v0_51_s0 p1)), .val (.int (v0_73_l10 p1)), .val (.int (v0_81_l11 p1)), .val (.int (v0_93_l12 p2)), .val (.ref b187), .val (.int (v0_614_l14_2 p1)), .val (.long (v0_628_l15_2 q0 p1)), .second, .val (.int (0 : Int32)), .unset, .unset, .unset, .unset] [(.int (1 : Int32))])) _
        refine XS.goto X325.here hx rfl (pc0 := 696) (pc' := 700) rfl (hb hby at_696) (by decide) (by decide) ?_
        refine XS.istore X325.here hx rfl (hb hby at_700) rfl (l' := #[.val (.long q0), .second, .val (.int p1), .val (.int p2), .val (.long (v0_5_l4 q0)), .second, .val (.int (v0_14_l6 p1)), .val (.int (v0_21_s0 p1)), .val (.int (v0_43_l8 p1)), .val (.int (v0_51_s0 p1)), .val (.int (v0_73_l10 p1)), .val (.int (v0_81_l11 p1)), .val (.int (v0_93_l12 p2)), .val (.ref b187), .val (.int (v0_614_l14_2 p1)), .val (.long (v0_628_l15_2 q0 p1)), .second, .val (.int (0 : Int32)), .unset, .unset, .val (.int (1 : Int32)), .unset]) rfl ?_
        refine XS.iload X325.here hx rfl (hb hby at_702) rfl ?_
        show Steps p.tables e below (T325.setTop (mkF m 704 #[.val (.long q0), .second, .val (.int p1), .val (.int p2), .val (.long (v0_5_l4 q0)), .second, .val (.int (v0_14_l6 p1)), .val (.int (v0_21_s0 p1)), .val (.int (v0_43_l8 p1)), .val (.int (v0_51_s0 p1)), .val (.int (v0_73_l10 p1)), .val (.int (v0_81_l11 p1)), .val (.int (v0_93_l12 p2)), .val (.ref b187), .val (.int (v0_614_l14_2 p1)), .val (.long (v0_628_l15_2 q0 p1)), .second, .val (.int (0 : Int32)), .unset, .unset, .val (.int (1 : Int32)), .unset] [(.int (v0_21_s0 p1))])) _
        refine XS.ifNo X325.here hx rfl (hb hby at_704) rfl ((if0 _ _).trans (feq hc526_247).1) ?_
        refine XS.iload X325.here hx rfl (hb hby at_707) rfl ?_
        refine XS.goto X325.here hx rfl (pc0 := 709) (pc' := 714) rfl (hb hby at_709) (by decide) (by decide) ?_
        refine XS.istore X325.here hx rfl (hb hby at_714) rfl (l' := #[.val (.long q0), .second, .val (.int p1), .val (.int p2), .val (.long (v0_5_l4 q0)), .second, .val (.int (v0_14_l6 p1)), .val (.int (v0_21_s0 p1)), .val (.int (v0_43_l8 p1)), .val (.int (v0_51_s0 p1)), .val (.int (v0_73_l10 p1)), .val (.int (v0_81_l11 p1)), .val (.int (v0_93_l12 p2)), .val (.ref b187), .val (.int (v0_614_l14_2 p1)), .val (.long (v0_628_l15_2 q0 p1)), .second, .val (.int (0 : Int32)), .unset, .unset, .val (.int (1 : Int32)), .val (.int (v0_43_l8 p1))]) rfl ?_
        show Steps p.tables e below (T325.setTop (mkF m 716 #[.val (.long q0), .second, .val (.int p1), .val (.int p2), .val (.long (v0_5_l4 q0)), .second, .val (.int (v0_14_l6 p1)), .val (.int (v0_21_s0 p1)), .val (.int (v0_43_l8 p1)), .val (.int (v0_51_s0 p1)), .val (.int (v0_73_l10 p1)), .val (.int (v0_81_l11 p1)), .val (.int (v0_93_l12 p2)), .val (.ref b187), .val (.int (v0_614_l14_2 p1)), .val (.long (v0_628_l15_2 q0 p1)), .second, .val (.int (0 : Int32)), .unset, .unset, .val (.int (1 : Int32)), .val (.int (v0_43_l8 p1))] [])) _
        refine XS.iload X325.here hx rfl (hb hby at_716) rfl ?_
        exact kk)
      by_cases hc718_328 : (v0_614_l14_2 p1) = (0 : Int32)
      · have k331 := fun (t : State) (kk : Steps p.tables e below (T325.setTop (mkF m 821 #[.val (.long q0), .second, .val (.int p1), .val (.int p2), .val (.long (v0_5_l4 q0)), .second, .val (.int (v0_14_l6 p1)), .val (.int (v0_21_s0 p1)), .val (.int (v0_43_l8 p1)), .val (.int (v0_51_s0 p1)), .val (.int (v0_73_l10 p1)), .val (.int (v0_81_l11 p1)), .val (.int (v0_93_l12 p2)), .val (.ref b187), .val (.int (v0_614_l14_2 p1)), .val (.long (v0_628_l15_2 q0 p1)), .second, .val (.int (0 : Int32)), .val (.long (-1 : Int64)), .second, .val (.int (1 : Int32)), .val (.int (v0_43_l8 p1))] [(.int (v0_813_s0_6 q0 p1))])) t) => k327 t (by
          show Steps p.tables e below (T325.setTop (mkF m 718 #[.val (.long q0), .second, .val (.int p1), .val (.int p2), .val (.long (v0_5_l4 q0)), .second, .val (.int (v0_14_l6 p1)), .val (.int (v0_21_s0 p1)), .val (.int (v0_43_l8 p1)), .val (.int (v0_51_s0 p1)), .val (.int (v0_73_l10 p1)), .val (.int (v0_81_l11 p1)), .val (.int (v0_93_l12 p2)), .val (.ref b187), .val (.int (v0_614_l14_2 p1)), .val (.long (v0_628_l15_2 q0 p1)), .second, .val (.int (0 : Int32)), .unset, .unset, .val (.int (1 : Int32)), .val (.int (v0_43_l8 p1))] [(.int (v0_614_l14_2 p1))])) _
          refine XS.ifNo X325.here hx rfl (hb hby at_718) rfl ((if0 _ _).trans (teq hc718_328).2) ?_
          refine X325.ldc2Long hx hown (mvT hZ (hw _ (List.mem_of_getElem? (i := 35) rfl))) (g := (mkF m 721 #[.val (.long q0), .second, .val (.int p1), .val (.int p2), .val (.long (v0_5_l4 q0)), .second, .val (.int (v0_14_l6 p1)), .val (.int (v0_21_s0 p1)), .val (.int (v0_43_l8 p1)), .val (.int (v0_51_s0 p1)), .val (.int (v0_73_l10 p1)), .val (.int (v0_81_l11 p1)), .val (.int (v0_93_l12 p2)), .val (.ref b187), .val (.int (v0_614_l14_2 p1)), .val (.long (v0_628_l15_2 q0 p1)), .second, .val (.int (0 : Int32)), .unset, .unset, .val (.int (1 : Int32)), .val (.int (v0_43_l8 p1))] [])) rfl (hb hby at_721) _ ?_
          refine XS.lstore X325.here hx rfl (hb hby at_724) rfl (l' := #[.val (.long q0), .second, .val (.int p1), .val (.int p2), .val (.long (v0_5_l4 q0)), .second, .val (.int (v0_14_l6 p1)), .val (.int (v0_21_s0 p1)), .val (.int (v0_43_l8 p1)), .val (.int (v0_51_s0 p1)), .val (.int (v0_73_l10 p1)), .val (.int (v0_81_l11 p1)), .val (.int (v0_93_l12 p2)), .val (.ref b187), .val (.int (v0_614_l14_2 p1)), .val (.long (v0_628_l15_2 q0 p1)), .second, .val (.int (0 : Int32)), .val (.long (-1 : Int64)), .second, .val (.int (1 : Int32)), .val (.int (v0_43_l8 p1))]) rfl ?_
          refine XS.goto X325.here hx rfl (pc0 := 726) (pc' := 808) rfl (hb hby at_726) (by decide) (by decide) ?_
          refine XS.lload X325.here hx rfl (hb hby at_808) rfl ?_
          refine XS.lload X325.here hx rfl (hb hby at_810) rfl ?_
          show Steps p.tables e below (T325.setTop (mkF m 812 #[.val (.long q0), .second, .val (.int p1), .val (.int p2), .val (.long (v0_5_l4 q0)), .second, .val (.int (v0_14_l6 p1)), .val (.int (v0_21_s0 p1)), .val (.int (v0_43_l8 p1)), .val (.int (v0_51_s0 p1)), .val (.int (v0_73_l10 p1)), .val (.int (v0_81_l11 p1)), .val (.int (v0_93_l12 p2)), .val (.ref b187), .val (.int (v0_614_l14_2 p1)), .val (.long (v0_628_l15_2 q0 p1)), .second, .val (.int (0 : Int32)), .val (.long (-1 : Int64)), .second, .val (.int (1 : Int32)), .val (.int (v0_43_l8 p1))] [(.long (-1 : Int64)), (.long (v0_628_l15_2 q0 p1))])) _
          refine XS.lcmp X325.here hx rfl (hb hby at_812) rfl ?_
          suffices k330 : Steps p.tables e below (T325.setTop (mkF m 821 #[.val (.long q0), .second, .val (.int p1), .val (.int p2), .val (.long (v0_5_l4 q0)), .second, .val (.int (v0_14_l6 p1)), .val (.int (v0_21_s0 p1)), .val (.int (v0_43_l8 p1)), .val (.int (v0_51_s0 p1)), .val (.int (v0_73_l10 p1)), .val (.int (v0_81_l11 p1)), .val (.int (v0_93_l12 p2)), .val (.ref b187), .val (.int (v0_614_l14_2 p1)), .val (.long (v0_628_l15_2 q0 p1)), .second, .val (.int (0 : Int32)), .val (.long (-1 : Int64)), .second, .val (.int (1 : Int32)), .val (.int (v0_43_l8 p1))] [(.int (v0_813_s0_6 q0 p1))])) t by
            by_cases hc813_329 : (v0_628_l15_2 q0 p1) = (-1 : Int64)
            · rw [(show (v0_813_s0_6 q0 p1) = (1 : Int32) from if_pos hc813_329)] at k330
              show Steps p.tables e below (T325.setTop (mkF m 813 #[.val (.long q0), .second, .val (.int p1), .val (.int p2), .val (.long (v0_5_l4 q0)), .second, .val (.int (v0_14_l6 p1)), .val (.int (v0_21_s0 p1)), .val (.int (v0_43_l8 p1)), .val (.int (v0_51_s0 p1)), .val (.int (v0_73_l10 p1)), .val (.int (v0_81_l11 p1)), .val (.int (v0_93_l12 p2)), .val (.ref b187), .val (.int (v0_614_l14_2 p1)), .val (.long (v0_628_l15_2 q0 p1)), .second, .val (.int (0 : Int32)), .val (.long (-1 : Int64)), .second, .val (.int (1 : Int32)), .val (.int (v0_43_l8 p1))] [(.int (lcmpW (v0_628_l15_2 q0 p1) (-1 : Int64)))])) _
              refine XS.ifNo X325.here hx rfl (hb hby at_813) rfl ((if0 _ _).trans (teq ((lw_eq _ _).mpr hc813_329)).2) ?_
              refine XS.iconst X325.here hx rfl (hb hby at_816) ?_
              refine XS.goto X325.here hx rfl (pc0 := 817) (pc' := 821) rfl (hb hby at_817) (by decide) (by decide) ?_
              exact k330
            · rw [(show (v0_813_s0_6 q0 p1) = (0 : Int32) from if_neg hc813_329)] at k330
              show Steps p.tables e below (T325.setTop (mkF m 813 #[.val (.long q0), .second, .val (.int p1), .val (.int p2), .val (.long (v0_5_l4 q0)), .second, .val (.int (v0_14_l6 p1)), .val (.int (v0_21_s0 p1)), .val (.int (v0_43_l8 p1)), .val (.int (v0_51_s0 p1)), .val (.int (v0_73_l10 p1)), .val (.int (v0_81_l11 p1)), .val (.int (v0_93_l12 p2)), .val (.ref b187), .val (.int (v0_614_l14_2 p1)), .val (.long (v0_628_l15_2 q0 p1)), .second, .val (.int (0 : Int32)), .val (.long (-1 : Int64)), .second, .val (.int (1 : Int32)), .val (.int (v0_43_l8 p1))] [(.int (lcmpW (v0_628_l15_2 q0 p1) (-1 : Int64)))])) _
              refine XS.ifYes X325.here hx rfl (pc0 := 813) (pc' := 820) rfl (hb hby at_813) rfl ((if0 _ _).trans (feq (fun q => hc813_329 ((lw_eq _ _).mp q))).2) (by decide) (by decide) ?_
              refine XS.iconst X325.here hx rfl (hb hby at_820) ?_
              exact k330
          exact kk)
        obtain ⟨fs, hr, hrun, hended, hW, hsame⟩ := X325.leave (v := some (.int (nar .boolean (v0_813_s0_6 q0 p1)))) (fun h => by rw [Bd.returns] at h; cases h)
        have hv : (v0_ret q0 p1 p2) = (nar .boolean (v0_813_s0_6 q0 p1)) := ((if_neg hc526_247).trans ((if_pos hc559_323).trans (if_pos hc718_328)))
        have hone : (nar .boolean (v0_813_s0_6 q0 p1)) = 1 := hv.symm.trans (own_law q0 p1 p2)
        refine ⟨_, _, k331 _ ?_, hrun, hended, _, _, rfl, ?_, ⟨_, rfl⟩, hW, hsame.mono (by decide) (by decide)⟩
        · show Steps p.tables e below (T325.setTop (mkF m 821 #[.val (.long q0), .second, .val (.int p1), .val (.int p2), .val (.long (v0_5_l4 q0)), .second, .val (.int (v0_14_l6 p1)), .val (.int (v0_21_s0 p1)), .val (.int (v0_43_l8 p1)), .val (.int (v0_51_s0 p1)), .val (.int (v0_73_l10 p1)), .val (.int (v0_81_l11 p1)), .val (.int (v0_93_l12 p2)), .val (.ref b187), .val (.int (v0_614_l14_2 p1)), .val (.long (v0_628_l15_2 q0 p1)), .second, .val (.int (0 : Int32)), .val (.long (-1 : Int64)), .second, .val (.int (1 : Int32)), .val (.int (v0_43_l8 p1))] [(.int (v0_813_s0_6 q0 p1))])) _
          exact retN X325 hx (t := .boolean) Bd.returns (by simp) (hb hby at_821) hr
        · show Q0 Z q0 p1 p2 h0 n0 _ T325.heap _
          rw [e325]
          exact ⟨congrArg (fun z => some (Value.int z)) hone, N325⟩
      · have k332 := fun (t : State) (kk : Steps p.tables e below (T325.setTop (mkF m 736 #[.val (.long q0), .second, .val (.int p1), .val (.int p2), .val (.long (v0_5_l4 q0)), .second, .val (.int (v0_14_l6 p1)), .val (.int (v0_21_s0 p1)), .val (.int (v0_43_l8 p1)), .val (.int (v0_51_s0 p1)), .val (.int (v0_73_l10 p1)), .val (.int (v0_81_l11 p1)), .val (.int (v0_93_l12 p2)), .val (.ref b187), .val (.int (v0_614_l14_2 p1)), .val (.long (v0_628_l15_2 q0 p1)), .second, .val (.int (0 : Int32)), .unset, .unset, .val (.int (1 : Int32)), .val (.int (v0_43_l8 p1))] [(.int (v0_43_l8 p1))])) t) => k327 t (by
          show Steps p.tables e below (T325.setTop (mkF m 718 #[.val (.long q0), .second, .val (.int p1), .val (.int p2), .val (.long (v0_5_l4 q0)), .second, .val (.int (v0_14_l6 p1)), .val (.int (v0_21_s0 p1)), .val (.int (v0_43_l8 p1)), .val (.int (v0_51_s0 p1)), .val (.int (v0_73_l10 p1)), .val (.int (v0_81_l11 p1)), .val (.int (v0_93_l12 p2)), .val (.ref b187), .val (.int (v0_614_l14_2 p1)), .val (.long (v0_628_l15_2 q0 p1)), .second, .val (.int (0 : Int32)), .unset, .unset, .val (.int (1 : Int32)), .val (.int (v0_43_l8 p1))] [(.int (v0_614_l14_2 p1))])) _
          refine XS.ifYes X325.here hx rfl (pc0 := 718) (pc' := 729) rfl (hb hby at_718) rfl ((if0 _ _).trans (feq hc718_328).2) (by decide) (by decide) ?_
          refine XS.iload X325.here hx rfl (hb hby at_729) rfl ?_
          show Steps p.tables e below (T325.setTop (mkF m 731 #[.val (.long q0), .second, .val (.int p1), .val (.int p2), .val (.long (v0_5_l4 q0)), .second, .val (.int (v0_14_l6 p1)), .val (.int (v0_21_s0 p1)), .val (.int (v0_43_l8 p1)), .val (.int (v0_51_s0 p1)), .val (.int (v0_73_l10 p1)), .val (.int (v0_81_l11 p1)), .val (.int (v0_93_l12 p2)), .val (.ref b187), .val (.int (v0_614_l14_2 p1)), .val (.long (v0_628_l15_2 q0 p1)), .second, .val (.int (0 : Int32)), .unset, .unset, .val (.int (1 : Int32)), .val (.int (v0_43_l8 p1))] [(.int (1 : Int32))])) _
          refine XS.ifNo X325.here hx rfl (hb hby at_731) rfl ((if0 _ _).trans (feq (by decide : ¬ ((1 : Int32) = (0 : Int32)))).1) ?_
          refine XS.iload X325.here hx rfl (hb hby at_734) rfl ?_
          exact kk)
        by_cases hc736_333 : (v0_43_l8 p1) = (0 : Int32)
        · have k336 := fun (t : State) (kk : Steps p.tables e below (T325.setTop (mkF m 821 #[.val (.long q0), .second, .val (.int p1), .val (.int p2), .val (.long (v0_5_l4 q0)), .second, .val (.int (v0_14_l6 p1)), .val (.int (v0_21_s0 p1)), .val (.int (v0_43_l8 p1)), .val (.int (v0_51_s0 p1)), .val (.int (v0_73_l10 p1)), .val (.int (v0_81_l11 p1)), .val (.int (v0_93_l12 p2)), .val (.ref b187), .val (.int (v0_614_l14_2 p1)), .val (.long (v0_628_l15_2 q0 p1)), .second, .val (.int (0 : Int32)), .val (.long (-1 : Int64)), .second, .val (.int (1 : Int32)), .val (.int (v0_43_l8 p1))] [(.int (v0_813_s0_6 q0 p1))])) t) => k332 t (by
            show Steps p.tables e below (T325.setTop (mkF m 736 #[.val (.long q0), .second, .val (.int p1), .val (.int p2), .val (.long (v0_5_l4 q0)), .second, .val (.int (v0_14_l6 p1)), .val (.int (v0_21_s0 p1)), .val (.int (v0_43_l8 p1)), .val (.int (v0_51_s0 p1)), .val (.int (v0_73_l10 p1)), .val (.int (v0_81_l11 p1)), .val (.int (v0_93_l12 p2)), .val (.ref b187), .val (.int (v0_614_l14_2 p1)), .val (.long (v0_628_l15_2 q0 p1)), .second, .val (.int (0 : Int32)), .unset, .unset, .val (.int (1 : Int32)), .val (.int (v0_43_l8 p1))] [(.int (v0_43_l8 p1))])) _
            refine XS.ifYes X325.here hx rfl (pc0 := 736) (pc' := 757) rfl (hb hby at_736) rfl ((if0 _ _).trans (teq hc736_333).1) (by decide) (by decide) ?_
            show Steps p.tables e below (T325.setTop (mkF m 757 #[.val (.long q0), .second, .val (.int p1), .val (.int p2), .val (.long (v0_5_l4 q0)), .second, .val (.int (v0_14_l6 p1)), .val (.int (v0_21_s0 p1)), .val (.int (v0_43_l8 p1)), .val (.int (v0_51_s0 p1)), .val (.int (v0_73_l10 p1)), .val (.int (v0_81_l11 p1)), .val (.int (v0_93_l12 p2)), .val (.ref b187), .val (.int (v0_614_l14_2 p1)), .val (.long (v0_628_l15_2 q0 p1)), .second, .val (.int (0 : Int32)), .unset, .unset, .val (.int (1 : Int32)), .val (.int (v0_43_l8 p1))] [])) _
            refine X325.ldc2Long hx hown (mvT hZ (hw _ (List.mem_of_getElem? (i := 35) rfl))) (g := (mkF m 757 #[.val (.long q0), .second, .val (.int p1), .val (.int p2), .val (.long (v0_5_l4 q0)), .second, .val (.int (v0_14_l6 p1)), .val (.int (v0_21_s0 p1)), .val (.int (v0_43_l8 p1)), .val (.int (v0_51_s0 p1)), .val (.int (v0_73_l10 p1)), .val (.int (v0_81_l11 p1)), .val (.int (v0_93_l12 p2)), .val (.ref b187), .val (.int (v0_614_l14_2 p1)), .val (.long (v0_628_l15_2 q0 p1)), .second, .val (.int (0 : Int32)), .unset, .unset, .val (.int (1 : Int32)), .val (.int (v0_43_l8 p1))] [])) rfl (hb hby at_757) _ ?_
            refine XS.lstore X325.here hx rfl (hb hby at_760) rfl (l' := #[.val (.long q0), .second, .val (.int p1), .val (.int p2), .val (.long (v0_5_l4 q0)), .second, .val (.int (v0_14_l6 p1)), .val (.int (v0_21_s0 p1)), .val (.int (v0_43_l8 p1)), .val (.int (v0_51_s0 p1)), .val (.int (v0_73_l10 p1)), .val (.int (v0_81_l11 p1)), .val (.int (v0_93_l12 p2)), .val (.ref b187), .val (.int (v0_614_l14_2 p1)), .val (.long (v0_628_l15_2 q0 p1)), .second, .val (.int (0 : Int32)), .val (.long (-1 : Int64)), .second, .val (.int (1 : Int32)), .val (.int (v0_43_l8 p1))]) rfl ?_
            refine XS.goto X325.here hx rfl (pc0 := 762) (pc' := 808) rfl (hb hby at_762) (by decide) (by decide) ?_
            refine XS.lload X325.here hx rfl (hb hby at_808) rfl ?_
            refine XS.lload X325.here hx rfl (hb hby at_810) rfl ?_
            refine XS.lcmp X325.here hx rfl (hb hby at_812) rfl ?_
            suffices k335 : Steps p.tables e below (T325.setTop (mkF m 821 #[.val (.long q0), .second, .val (.int p1), .val (.int p2), .val (.long (v0_5_l4 q0)), .second, .val (.int (v0_14_l6 p1)), .val (.int (v0_21_s0 p1)), .val (.int (v0_43_l8 p1)), .val (.int (v0_51_s0 p1)), .val (.int (v0_73_l10 p1)), .val (.int (v0_81_l11 p1)), .val (.int (v0_93_l12 p2)), .val (.ref b187), .val (.int (v0_614_l14_2 p1)), .val (.long (v0_628_l15_2 q0 p1)), .second, .val (.int (0 : Int32)), .val (.long (-1 : Int64)), .second, .val (.int (1 : Int32)), .val (.int (v0_43_l8 p1))] [(.int (v0_813_s0_6 q0 p1))])) t by
              by_cases hc813_334 : (v0_628_l15_2 q0 p1) = (-1 : Int64)
              · rw [(show (v0_813_s0_6 q0 p1) = (1 : Int32) from if_pos hc813_334)] at k335
                show Steps p.tables e below (T325.setTop (mkF m 813 #[.val (.long q0), .second, .val (.int p1), .val (.int p2), .val (.long (v0_5_l4 q0)), .second, .val (.int (v0_14_l6 p1)), .val (.int (v0_21_s0 p1)), .val (.int (v0_43_l8 p1)), .val (.int (v0_51_s0 p1)), .val (.int (v0_73_l10 p1)), .val (.int (v0_81_l11 p1)), .val (.int (v0_93_l12 p2)), .val (.ref b187), .val (.int (v0_614_l14_2 p1)), .val (.long (v0_628_l15_2 q0 p1)), .second, .val (.int (0 : Int32)), .val (.long (-1 : Int64)), .second, .val (.int (1 : Int32)), .val (.int (v0_43_l8 p1))] [(.int (lcmpW (v0_628_l15_2 q0 p1) (-1 : Int64)))])) _
                refine XS.ifNo X325.here hx rfl (hb hby at_813) rfl ((if0 _ _).trans (teq ((lw_eq _ _).mpr hc813_334)).2) ?_
                show Steps p.tables e below (T325.setTop (mkF m 816 #[.val (.long q0), .second, .val (.int p1), .val (.int p2), .val (.long (v0_5_l4 q0)), .second, .val (.int (v0_14_l6 p1)), .val (.int (v0_21_s0 p1)), .val (.int (v0_43_l8 p1)), .val (.int (v0_51_s0 p1)), .val (.int (v0_73_l10 p1)), .val (.int (v0_81_l11 p1)), .val (.int (v0_93_l12 p2)), .val (.ref b187), .val (.int (v0_614_l14_2 p1)), .val (.long (v0_628_l15_2 q0 p1)), .second, .val (.int (0 : Int32)), .val (.long (-1 : Int64)), .second, .val (.int (1 : Int32)), .val (.int (v0_43_l8 p1))] [])) _
                refine XS.iconst X325.here hx rfl (hb hby at_816) ?_
                refine XS.goto X325.here hx rfl (pc0 := 817) (pc' := 821) rfl (hb hby at_817) (by decide) (by decide) ?_
                exact k335
              · rw [(show (v0_813_s0_6 q0 p1) = (0 : Int32) from if_neg hc813_334)] at k335
                show Steps p.tables e below (T325.setTop (mkF m 813 #[.val (.long q0), .second, .val (.int p1), .val (.int p2), .val (.long (v0_5_l4 q0)), .second, .val (.int (v0_14_l6 p1)), .val (.int (v0_21_s0 p1)), .val (.int (v0_43_l8 p1)), .val (.int (v0_51_s0 p1)), .val (.int (v0_73_l10 p1)), .val (.int (v0_81_l11 p1)), .val (.int (v0_93_l12 p2)), .val (.ref b187), .val (.int (v0_614_l14_2 p1)), .val (.long (v0_628_l15_2 q0 p1)), .second, .val (.int (0 : Int32)), .val (.long (-1 : Int64)), .second, .val (.int (1 : Int32)), .val (.int (v0_43_l8 p1))] [(.int (lcmpW (v0_628_l15_2 q0 p1) (-1 : Int64)))])) _
                refine XS.ifYes X325.here hx rfl (pc0 := 813) (pc' := 820) rfl (hb hby at_813) rfl ((if0 _ _).trans (feq (fun q => hc813_334 ((lw_eq _ _).mp q))).2) (by decide) (by decide) ?_
                refine XS.iconst X325.here hx rfl (hb hby at_820) ?_
                exact k335
            exact kk)
          obtain ⟨fs, hr, hrun, hended, hW, hsame⟩ := X325.leave (v := some (.int (nar .boolean (v0_813_s0_6 q0 p1)))) (fun h => by rw [Bd.returns] at h; cases h)
          have hv : (v0_ret q0 p1 p2) = (nar .boolean (v0_813_s0_6 q0 p1)) := ((if_neg hc526_247).trans ((if_pos hc559_323).trans ((if_neg hc718_328).trans (if_pos hc736_333))))
          have hone : (nar .boolean (v0_813_s0_6 q0 p1)) = 1 := hv.symm.trans (own_law q0 p1 p2)
          refine ⟨_, _, k336 _ ?_, hrun, hended, _, _, rfl, ?_, ⟨_, rfl⟩, hW, hsame.mono (by decide) (by decide)⟩
          · show Steps p.tables e below (T325.setTop (mkF m 821 #[.val (.long q0), .second, .val (.int p1), .val (.int p2), .val (.long (v0_5_l4 q0)), .second, .val (.int (v0_14_l6 p1)), .val (.int (v0_21_s0 p1)), .val (.int (v0_43_l8 p1)), .val (.int (v0_51_s0 p1)), .val (.int (v0_73_l10 p1)), .val (.int (v0_81_l11 p1)), .val (.int (v0_93_l12 p2)), .val (.ref b187), .val (.int (v0_614_l14_2 p1)), .val (.long (v0_628_l15_2 q0 p1)), .second, .val (.int (0 : Int32)), .val (.long (-1 : Int64)), .second, .val (.int (1 : Int32)), .val (.int (v0_43_l8 p1))] [(.int (v0_813_s0_6 q0 p1))])) _
            exact retN X325 hx (t := .boolean) Bd.returns (by simp) (hb hby at_821) hr
          · show Q0 Z q0 p1 p2 h0 n0 _ T325.heap _
            rw [e325]
            exact ⟨congrArg (fun z => some (Value.int z)) hone, N325⟩
        · have k337 := fun (t : State) (kk : Steps p.tables e below (T325.setTop (mkF m 744 #[.val (.long q0), .second, .val (.int p1), .val (.int p2), .val (.long (v0_5_l4 q0)), .second, .val (.int (v0_14_l6 p1)), .val (.int (v0_21_s0 p1)), .val (.int (v0_43_l8 p1)), .val (.int (v0_51_s0 p1)), .val (.int (v0_73_l10 p1)), .val (.int (v0_81_l11 p1)), .val (.int (v0_93_l12 p2)), .val (.ref b187), .val (.int (v0_614_l14_2 p1)), .val (.long (v0_628_l15_2 q0 p1)), .second, .val (.int (0 : Int32)), .unset, .unset, .val (.int (1 : Int32)), .val (.int (v0_43_l8 p1))] [(.int ((v0_14_l6 p1) - (v0_43_l8 p1)))])) t) => k332 t (by
            show Steps p.tables e below (T325.setTop (mkF m 736 #[.val (.long q0), .second, .val (.int p1), .val (.int p2), .val (.long (v0_5_l4 q0)), .second, .val (.int (v0_14_l6 p1)), .val (.int (v0_21_s0 p1)), .val (.int (v0_43_l8 p1)), .val (.int (v0_51_s0 p1)), .val (.int (v0_73_l10 p1)), .val (.int (v0_81_l11 p1)), .val (.int (v0_93_l12 p2)), .val (.ref b187), .val (.int (v0_614_l14_2 p1)), .val (.long (v0_628_l15_2 q0 p1)), .second, .val (.int (0 : Int32)), .unset, .unset, .val (.int (1 : Int32)), .val (.int (v0_43_l8 p1))] [(.int (v0_43_l8 p1))])) _
            refine XS.ifNo X325.here hx rfl (hb hby at_736) rfl ((if0 _ _).trans (feq hc736_333).1) ?_
            refine XS.iload X325.here hx rfl (hb hby at_739) rfl ?_
            refine XS.iload X325.here hx rfl (hb hby at_741) rfl ?_
            refine XS.isub X325.here hx rfl (hb hby at_743) rfl ?_
            exact kk)
          by_cases hc744_338 : ((v0_14_l6 p1) - (v0_43_l8 p1)) = (0 : Int32)
          · have k341 := fun (t : State) (kk : Steps p.tables e below (T325.setTop (mkF m 821 #[.val (.long q0), .second, .val (.int p1), .val (.int p2), .val (.long (v0_5_l4 q0)), .second, .val (.int (v0_14_l6 p1)), .val (.int (v0_21_s0 p1)), .val (.int (v0_43_l8 p1)), .val (.int (v0_51_s0 p1)), .val (.int (v0_73_l10 p1)), .val (.int (v0_81_l11 p1)), .val (.int (v0_93_l12 p2)), .val (.ref b187), .val (.int (v0_614_l14_2 p1)), .val (.long (v0_628_l15_2 q0 p1)), .second, .val (.int (0 : Int32)), .val (.long (-1 : Int64)), .second, .val (.int (1 : Int32)), .val (.int (v0_43_l8 p1))] [(.int (v0_813_s0_6 q0 p1))])) t) => k337 t (by
              show Steps p.tables e below (T325.setTop (mkF m 744 #[.val (.long q0), .second, .val (.int p1), .val (.int p2), .val (.long (v0_5_l4 q0)), .second, .val (.int (v0_14_l6 p1)), .val (.int (v0_21_s0 p1)), .val (.int (v0_43_l8 p1)), .val (.int (v0_51_s0 p1)), .val (.int (v0_73_l10 p1)), .val (.int (v0_81_l11 p1)), .val (.int (v0_93_l12 p2)), .val (.ref b187), .val (.int (v0_614_l14_2 p1)), .val (.long (v0_628_l15_2 q0 p1)), .second, .val (.int (0 : Int32)), .unset, .unset, .val (.int (1 : Int32)), .val (.int (v0_43_l8 p1))] [(.int ((v0_14_l6 p1) - (v0_43_l8 p1)))])) _
              refine XS.ifYes X325.here hx rfl (pc0 := 744) (pc' := 757) rfl (hb hby at_744) rfl ((if0 _ _).trans (teq hc744_338).1) (by decide) (by decide) ?_
              show Steps p.tables e below (T325.setTop (mkF m 757 #[.val (.long q0), .second, .val (.int p1), .val (.int p2), .val (.long (v0_5_l4 q0)), .second, .val (.int (v0_14_l6 p1)), .val (.int (v0_21_s0 p1)), .val (.int (v0_43_l8 p1)), .val (.int (v0_51_s0 p1)), .val (.int (v0_73_l10 p1)), .val (.int (v0_81_l11 p1)), .val (.int (v0_93_l12 p2)), .val (.ref b187), .val (.int (v0_614_l14_2 p1)), .val (.long (v0_628_l15_2 q0 p1)), .second, .val (.int (0 : Int32)), .unset, .unset, .val (.int (1 : Int32)), .val (.int (v0_43_l8 p1))] [])) _
              refine X325.ldc2Long hx hown (mvT hZ (hw _ (List.mem_of_getElem? (i := 35) rfl))) (g := (mkF m 757 #[.val (.long q0), .second, .val (.int p1), .val (.int p2), .val (.long (v0_5_l4 q0)), .second, .val (.int (v0_14_l6 p1)), .val (.int (v0_21_s0 p1)), .val (.int (v0_43_l8 p1)), .val (.int (v0_51_s0 p1)), .val (.int (v0_73_l10 p1)), .val (.int (v0_81_l11 p1)), .val (.int (v0_93_l12 p2)), .val (.ref b187), .val (.int (v0_614_l14_2 p1)), .val (.long (v0_628_l15_2 q0 p1)), .second, .val (.int (0 : Int32)), .unset, .unset, .val (.int (1 : Int32)), .val (.int (v0_43_l8 p1))] [])) rfl (hb hby at_757) _ ?_
              refine XS.lstore X325.here hx rfl (hb hby at_760) rfl (l' := #[.val (.long q0), .second, .val (.int p1), .val (.int p2), .val (.long (v0_5_l4 q0)), .second, .val (.int (v0_14_l6 p1)), .val (.int (v0_21_s0 p1)), .val (.int (v0_43_l8 p1)), .val (.int (v0_51_s0 p1)), .val (.int (v0_73_l10 p1)), .val (.int (v0_81_l11 p1)), .val (.int (v0_93_l12 p2)), .val (.ref b187), .val (.int (v0_614_l14_2 p1)), .val (.long (v0_628_l15_2 q0 p1)), .second, .val (.int (0 : Int32)), .val (.long (-1 : Int64)), .second, .val (.int (1 : Int32)), .val (.int (v0_43_l8 p1))]) rfl ?_
              refine XS.goto X325.here hx rfl (pc0 := 762) (pc' := 808) rfl (hb hby at_762) (by decide) (by decide) ?_
              refine XS.lload X325.here hx rfl (hb hby at_808) rfl ?_
              refine XS.lload X325.here hx rfl (hb hby at_810) rfl ?_
              refine XS.lcmp X325.here hx rfl (hb hby at_812) rfl ?_
              suffices k340 : Steps p.tables e below (T325.setTop (mkF m 821 #[.val (.long q0), .second, .val (.int p1), .val (.int p2), .val (.long (v0_5_l4 q0)), .second, .val (.int (v0_14_l6 p1)), .val (.int (v0_21_s0 p1)), .val (.int (v0_43_l8 p1)), .val (.int (v0_51_s0 p1)), .val (.int (v0_73_l10 p1)), .val (.int (v0_81_l11 p1)), .val (.int (v0_93_l12 p2)), .val (.ref b187), .val (.int (v0_614_l14_2 p1)), .val (.long (v0_628_l15_2 q0 p1)), .second, .val (.int (0 : Int32)), .val (.long (-1 : Int64)), .second, .val (.int (1 : Int32)), .val (.int (v0_43_l8 p1))] [(.int (v0_813_s0_6 q0 p1))])) t by
                by_cases hc813_339 : (v0_628_l15_2 q0 p1) = (-1 : Int64)
                · rw [(show (v0_813_s0_6 q0 p1) = (1 : Int32) from if_pos hc813_339)] at k340
                  show Steps p.tables e below (T325.setTop (mkF m 813 #[.val (.long q0), .second, .val (.int p1), .val (.int p2), .val (.long (v0_5_l4 q0)), .second, .val (.int (v0_14_l6 p1)), .val (.int (v0_21_s0 p1)), .val (.int (v0_43_l8 p1)), .val (.int (v0_51_s0 p1)), .val (.int (v0_73_l10 p1)), .val (.int (v0_81_l11 p1)), .val (.int (v0_93_l12 p2)), .val (.ref b187), .val (.int (v0_614_l14_2 p1)), .val (.long (v0_628_l15_2 q0 p1)), .second, .val (.int (0 : Int32)), .val (.long (-1 : Int64)), .second, .val (.int (1 : Int32)), .val (.int (v0_43_l8 p1))] [(.int (lcmpW (v0_628_l15_2 q0 p1) (-1 : Int64)))])) _
                  refine XS.ifNo X325.here hx rfl (hb hby at_813) rfl ((if0 _ _).trans (teq ((lw_eq _ _).mpr hc813_339)).2) ?_
                  show Steps p.tables e below (T325.setTop (mkF m 816 #[.val (.long q0), .second, .val (.int p1), .val (.int p2), .val (.long (v0_5_l4 q0)), .second, .val (.int (v0_14_l6 p1)), .val (.int (v0_21_s0 p1)), .val (.int (v0_43_l8 p1)), .val (.int (v0_51_s0 p1)), .val (.int (v0_73_l10 p1)), .val (.int (v0_81_l11 p1)), .val (.int (v0_93_l12 p2)), .val (.ref b187), .val (.int (v0_614_l14_2 p1)), .val (.long (v0_628_l15_2 q0 p1)), .second, .val (.int (0 : Int32)), .val (.long (-1 : Int64)), .second, .val (.int (1 : Int32)), .val (.int (v0_43_l8 p1))] [])) _
                  refine XS.iconst X325.here hx rfl (hb hby at_816) ?_
                  refine XS.goto X325.here hx rfl (pc0 := 817) (pc' := 821) rfl (hb hby at_817) (by decide) (by decide) ?_
                  exact k340
                · rw [(show (v0_813_s0_6 q0 p1) = (0 : Int32) from if_neg hc813_339)] at k340
                  show Steps p.tables e below (T325.setTop (mkF m 813 #[.val (.long q0), .second, .val (.int p1), .val (.int p2), .val (.long (v0_5_l4 q0)), .second, .val (.int (v0_14_l6 p1)), .val (.int (v0_21_s0 p1)), .val (.int (v0_43_l8 p1)), .val (.int (v0_51_s0 p1)), .val (.int (v0_73_l10 p1)), .val (.int (v0_81_l11 p1)), .val (.int (v0_93_l12 p2)), .val (.ref b187), .val (.int (v0_614_l14_2 p1)), .val (.long (v0_628_l15_2 q0 p1)), .second, .val (.int (0 : Int32)), .val (.long (-1 : Int64)), .second, .val (.int (1 : Int32)), .val (.int (v0_43_l8 p1))] [(.int (lcmpW (v0_628_l15_2 q0 p1) (-1 : Int64)))])) _
                  refine XS.ifYes X325.here hx rfl (pc0 := 813) (pc' := 820) rfl (hb hby at_813) rfl ((if0 _ _).trans (feq (fun q => hc813_339 ((lw_eq _ _).mp q))).2) (by decide) (by decide) ?_
                  refine XS.iconst X325.here hx rfl (hb hby at_820) ?_
                  exact k340
              exact kk)
            obtain ⟨fs, hr, hrun, hended, hW, hsame⟩ := X325.leave (v := some (.int (nar .boolean (v0_813_s0_6 q0 p1)))) (fun h => by rw [Bd.returns] at h; cases h)
            have hv : (v0_ret q0 p1 p2) = (nar .boolean (v0_813_s0_6 q0 p1)) := ((if_neg hc526_247).trans ((if_pos hc559_323).trans ((if_neg hc718_328).trans ((if_neg hc736_333).trans (if_pos hc744_338)))))
            have hone : (nar .boolean (v0_813_s0_6 q0 p1)) = 1 := hv.symm.trans (own_law q0 p1 p2)
            refine ⟨_, _, k341 _ ?_, hrun, hended, _, _, rfl, ?_, ⟨_, rfl⟩, hW, hsame.mono (by decide) (by decide)⟩
            · show Steps p.tables e below (T325.setTop (mkF m 821 #[.val (.long q0), .second, .val (.int p1), .val (.int p2), .val (.long (v0_5_l4 q0)), .second, .val (.int (v0_14_l6 p1)), .val (.int (v0_21_s0 p1)), .val (.int (v0_43_l8 p1)), .val (.int (v0_51_s0 p1)), .val (.int (v0_73_l10 p1)), .val (.int (v0_81_l11 p1)), .val (.int (v0_93_l12 p2)), .val (.ref b187), .val (.int (v0_614_l14_2 p1)), .val (.long (v0_628_l15_2 q0 p1)), .second, .val (.int (0 : Int32)), .val (.long (-1 : Int64)), .second, .val (.int (1 : Int32)), .val (.int (v0_43_l8 p1))] [(.int (v0_813_s0_6 q0 p1))])) _
              exact retN X325 hx (t := .boolean) Bd.returns (by simp) (hb hby at_821) hr
            · show Q0 Z q0 p1 p2 h0 n0 _ T325.heap _
              rw [e325]
              exact ⟨congrArg (fun z => some (Value.int z)) hone, N325⟩
          · have k342 := fun (t : State) (kk : Steps p.tables e below (T325.setTop (mkF m 754 #[.val (.long q0), .second, .val (.int p1), .val (.int p2), .val (.long (v0_5_l4 q0)), .second, .val (.int (v0_14_l6 p1)), .val (.int (v0_21_s0 p1)), .val (.int (v0_43_l8 p1)), .val (.int (v0_51_s0 p1)), .val (.int (v0_73_l10 p1)), .val (.int (v0_81_l11 p1)), .val (.int (v0_93_l12 p2)), .val (.ref b187), .val (.int (v0_614_l14_2 p1)), .val (.long (v0_628_l15_2 q0 p1)), .second, .val (.int (0 : Int32)), .unset, .unset, .val (.int (1 : Int32)), .val (.int (v0_43_l8 p1))] [(.int (8 : Int32)), (.int ((v0_14_l6 p1) - (v0_43_l8 p1)))])) t) => k337 t (by
              show Steps p.tables e below (T325.setTop (mkF m 744 #[.val (.long q0), .second, .val (.int p1), .val (.int p2), .val (.long (v0_5_l4 q0)), .second, .val (.int (v0_14_l6 p1)), .val (.int (v0_21_s0 p1)), .val (.int (v0_43_l8 p1)), .val (.int (v0_51_s0 p1)), .val (.int (v0_73_l10 p1)), .val (.int (v0_81_l11 p1)), .val (.int (v0_93_l12 p2)), .val (.ref b187), .val (.int (v0_614_l14_2 p1)), .val (.long (v0_628_l15_2 q0 p1)), .second, .val (.int (0 : Int32)), .unset, .unset, .val (.int (1 : Int32)), .val (.int (v0_43_l8 p1))] [(.int ((v0_14_l6 p1) - (v0_43_l8 p1)))])) _
              refine XS.ifNo X325.here hx rfl (hb hby at_744) rfl ((if0 _ _).trans (feq hc744_338).1) ?_
              refine XS.iload X325.here hx rfl (hb hby at_747) rfl ?_
              refine XS.iload X325.here hx rfl (hb hby at_749) rfl ?_
              refine XS.isub X325.here hx rfl (hb hby at_751) rfl ?_
              show Steps p.tables e below (T325.setTop (mkF m 752 #[.val (.long q0), .second, .val (.int p1), .val (.int p2), .val (.long (v0_5_l4 q0)), .second, .val (.int (v0_14_l6 p1)), .val (.int (v0_21_s0 p1)), .val (.int (v0_43_l8 p1)), .val (.int (v0_51_s0 p1)), .val (.int (v0_73_l10 p1)), .val (.int (v0_81_l11 p1)), .val (.int (v0_93_l12 p2)), .val (.ref b187), .val (.int (v0_614_l14_2 p1)), .val (.long (v0_628_l15_2 q0 p1)), .second, .val (.int (0 : Int32)), .unset, .unset, .val (.int (1 : Int32)), .val (.int (v0_43_l8 p1))] [(.int ((v0_14_l6 p1) - (v0_43_l8 p1)))])) _
              refine XS.bipush X325.here hx rfl (hb hby at_752) ?_
              exact kk)
            by_cases hc754_343 : (8 : Int32) < ((v0_14_l6 p1) - (v0_43_l8 p1))
            · have k346 := fun (t : State) (kk : Steps p.tables e below (T325.setTop (mkF m 821 #[.val (.long q0), .second, .val (.int p1), .val (.int p2), .val (.long (v0_5_l4 q0)), .second, .val (.int (v0_14_l6 p1)), .val (.int (v0_21_s0 p1)), .val (.int (v0_43_l8 p1)), .val (.int (v0_51_s0 p1)), .val (.int (v0_73_l10 p1)), .val (.int (v0_81_l11 p1)), .val (.int (v0_93_l12 p2)), .val (.ref b187), .val (.int (v0_614_l14_2 p1)), .val (.long (v0_628_l15_2 q0 p1)), .second, .val (.int (0 : Int32)), .val (.long (-1 : Int64)), .second, .val (.int (1 : Int32)), .val (.int (v0_43_l8 p1))] [(.int (v0_813_s0_6 q0 p1))])) t) => k342 t (by
                show Steps p.tables e below (T325.setTop (mkF m 754 #[.val (.long q0), .second, .val (.int p1), .val (.int p2), .val (.long (v0_5_l4 q0)), .second, .val (.int (v0_14_l6 p1)), .val (.int (v0_21_s0 p1)), .val (.int (v0_43_l8 p1)), .val (.int (v0_51_s0 p1)), .val (.int (v0_73_l10 p1)), .val (.int (v0_81_l11 p1)), .val (.int (v0_93_l12 p2)), .val (.ref b187), .val (.int (v0_614_l14_2 p1)), .val (.long (v0_628_l15_2 q0 p1)), .second, .val (.int (0 : Int32)), .unset, .unset, .val (.int (1 : Int32)), .val (.int (v0_43_l8 p1))] [(.int (8 : Int32)), (.int ((v0_14_l6 p1) - (v0_43_l8 p1)))])) _
                refine XS.icmpNo X325.here hx rfl (hb hby at_754) rfl (tlt hc754_343).2.2.2 ?_
                refine X325.ldc2Long hx hown (mvT hZ (hw _ (List.mem_of_getElem? (i := 35) rfl))) (g := (mkF m 757 #[.val (.long q0), .second, .val (.int p1), .val (.int p2), .val (.long (v0_5_l4 q0)), .second, .val (.int (v0_14_l6 p1)), .val (.int (v0_21_s0 p1)), .val (.int (v0_43_l8 p1)), .val (.int (v0_51_s0 p1)), .val (.int (v0_73_l10 p1)), .val (.int (v0_81_l11 p1)), .val (.int (v0_93_l12 p2)), .val (.ref b187), .val (.int (v0_614_l14_2 p1)), .val (.long (v0_628_l15_2 q0 p1)), .second, .val (.int (0 : Int32)), .unset, .unset, .val (.int (1 : Int32)), .val (.int (v0_43_l8 p1))] [])) rfl (hb hby at_757) _ ?_
                refine XS.lstore X325.here hx rfl (hb hby at_760) rfl (l' := #[.val (.long q0), .second, .val (.int p1), .val (.int p2), .val (.long (v0_5_l4 q0)), .second, .val (.int (v0_14_l6 p1)), .val (.int (v0_21_s0 p1)), .val (.int (v0_43_l8 p1)), .val (.int (v0_51_s0 p1)), .val (.int (v0_73_l10 p1)), .val (.int (v0_81_l11 p1)), .val (.int (v0_93_l12 p2)), .val (.ref b187), .val (.int (v0_614_l14_2 p1)), .val (.long (v0_628_l15_2 q0 p1)), .second, .val (.int (0 : Int32)), .val (.long (-1 : Int64)), .second, .val (.int (1 : Int32)), .val (.int (v0_43_l8 p1))]) rfl ?_
                refine XS.goto X325.here hx rfl (pc0 := 762) (pc' := 808) rfl (hb hby at_762) (by decide) (by decide) ?_
                refine XS.lload X325.here hx rfl (hb hby at_808) rfl ?_
                refine XS.lload X325.here hx rfl (hb hby at_810) rfl ?_
                show Steps p.tables e below (T325.setTop (mkF m 812 #[.val (.long q0), .second, .val (.int p1), .val (.int p2), .val (.long (v0_5_l4 q0)), .second, .val (.int (v0_14_l6 p1)), .val (.int (v0_21_s0 p1)), .val (.int (v0_43_l8 p1)), .val (.int (v0_51_s0 p1)), .val (.int (v0_73_l10 p1)), .val (.int (v0_81_l11 p1)), .val (.int (v0_93_l12 p2)), .val (.ref b187), .val (.int (v0_614_l14_2 p1)), .val (.long (v0_628_l15_2 q0 p1)), .second, .val (.int (0 : Int32)), .val (.long (-1 : Int64)), .second, .val (.int (1 : Int32)), .val (.int (v0_43_l8 p1))] [(.long (-1 : Int64)), (.long (v0_628_l15_2 q0 p1))])) _
                refine XS.lcmp X325.here hx rfl (hb hby at_812) rfl ?_
                suffices k345 : Steps p.tables e below (T325.setTop (mkF m 821 #[.val (.long q0), .second, .val (.int p1), .val (.int p2), .val (.long (v0_5_l4 q0)), .second, .val (.int (v0_14_l6 p1)), .val (.int (v0_21_s0 p1)), .val (.int (v0_43_l8 p1)), .val (.int (v0_51_s0 p1)), .val (.int (v0_73_l10 p1)), .val (.int (v0_81_l11 p1)), .val (.int (v0_93_l12 p2)), .val (.ref b187), .val (.int (v0_614_l14_2 p1)), .val (.long (v0_628_l15_2 q0 p1)), .second, .val (.int (0 : Int32)), .val (.long (-1 : Int64)), .second, .val (.int (1 : Int32)), .val (.int (v0_43_l8 p1))] [(.int (v0_813_s0_6 q0 p1))])) t by
                  by_cases hc813_344 : (v0_628_l15_2 q0 p1) = (-1 : Int64)
                  · rw [(show (v0_813_s0_6 q0 p1) = (1 : Int32) from if_pos hc813_344)] at k345
                    show Steps p.tables e below (T325.setTop (mkF m 813 #[.val (.long q0), .second, .val (.int p1), .val (.int p2), .val (.long (v0_5_l4 q0)), .second, .val (.int (v0_14_l6 p1)), .val (.int (v0_21_s0 p1)), .val (.int (v0_43_l8 p1)), .val (.int (v0_51_s0 p1)), .val (.int (v0_73_l10 p1)), .val (.int (v0_81_l11 p1)), .val (.int (v0_93_l12 p2)), .val (.ref b187), .val (.int (v0_614_l14_2 p1)), .val (.long (v0_628_l15_2 q0 p1)), .second, .val (.int (0 : Int32)), .val (.long (-1 : Int64)), .second, .val (.int (1 : Int32)), .val (.int (v0_43_l8 p1))] [(.int (lcmpW (v0_628_l15_2 q0 p1) (-1 : Int64)))])) _
                    refine XS.ifNo X325.here hx rfl (hb hby at_813) rfl ((if0 _ _).trans (teq ((lw_eq _ _).mpr hc813_344)).2) ?_
                    refine XS.iconst X325.here hx rfl (hb hby at_816) ?_
                    refine XS.goto X325.here hx rfl (pc0 := 817) (pc' := 821) rfl (hb hby at_817) (by decide) (by decide) ?_
                    exact k345
                  · rw [(show (v0_813_s0_6 q0 p1) = (0 : Int32) from if_neg hc813_344)] at k345
                    show Steps p.tables e below (T325.setTop (mkF m 813 #[.val (.long q0), .second, .val (.int p1), .val (.int p2), .val (.long (v0_5_l4 q0)), .second, .val (.int (v0_14_l6 p1)), .val (.int (v0_21_s0 p1)), .val (.int (v0_43_l8 p1)), .val (.int (v0_51_s0 p1)), .val (.int (v0_73_l10 p1)), .val (.int (v0_81_l11 p1)), .val (.int (v0_93_l12 p2)), .val (.ref b187), .val (.int (v0_614_l14_2 p1)), .val (.long (v0_628_l15_2 q0 p1)), .second, .val (.int (0 : Int32)), .val (.long (-1 : Int64)), .second, .val (.int (1 : Int32)), .val (.int (v0_43_l8 p1))] [(.int (lcmpW (v0_628_l15_2 q0 p1) (-1 : Int64)))])) _
                    refine XS.ifYes X325.here hx rfl (pc0 := 813) (pc' := 820) rfl (hb hby at_813) rfl ((if0 _ _).trans (feq (fun q => hc813_344 ((lw_eq _ _).mp q))).2) (by decide) (by decide) ?_
                    refine XS.iconst X325.here hx rfl (hb hby at_820) ?_
                    exact k345
                exact kk)
              obtain ⟨fs, hr, hrun, hended, hW, hsame⟩ := X325.leave (v := some (.int (nar .boolean (v0_813_s0_6 q0 p1)))) (fun h => by rw [Bd.returns] at h; cases h)
              have hv : (v0_ret q0 p1 p2) = (nar .boolean (v0_813_s0_6 q0 p1)) := ((if_neg hc526_247).trans ((if_pos hc559_323).trans ((if_neg hc718_328).trans ((if_neg hc736_333).trans ((if_neg hc744_338).trans (if_pos hc754_343))))))
              have hone : (nar .boolean (v0_813_s0_6 q0 p1)) = 1 := hv.symm.trans (own_law q0 p1 p2)
              refine ⟨_, _, k346 _ ?_, hrun, hended, _, _, rfl, ?_, ⟨_, rfl⟩, hW, hsame.mono (by decide) (by decide)⟩
              · show Steps p.tables e below (T325.setTop (mkF m 821 #[.val (.long q0), .second, .val (.int p1), .val (.int p2), .val (.long (v0_5_l4 q0)), .second, .val (.int (v0_14_l6 p1)), .val (.int (v0_21_s0 p1)), .val (.int (v0_43_l8 p1)), .val (.int (v0_51_s0 p1)), .val (.int (v0_73_l10 p1)), .val (.int (v0_81_l11 p1)), .val (.int (v0_93_l12 p2)), .val (.ref b187), .val (.int (v0_614_l14_2 p1)), .val (.long (v0_628_l15_2 q0 p1)), .second, .val (.int (0 : Int32)), .val (.long (-1 : Int64)), .second, .val (.int (1 : Int32)), .val (.int (v0_43_l8 p1))] [(.int (v0_813_s0_6 q0 p1))])) _
                exact retN X325 hx (t := .boolean) Bd.returns (by simp) (hb hby at_821) hr
              · show Q0 Z q0 p1 p2 h0 n0 _ T325.heap _
                rw [e325]
                exact ⟨congrArg (fun z => some (Value.int z)) hone, N325⟩
            · have k347 := fun (t : State) (kk : Steps p.tables e below (T325.setTop (mkF m 769 #[.val (.long q0), .second, .val (.int p1), .val (.int p2), .val (.long (v0_5_l4 q0)), .second, .val (.int (v0_14_l6 p1)), .val (.int (v0_21_s0 p1)), .val (.int (v0_43_l8 p1)), .val (.int (v0_51_s0 p1)), .val (.int (v0_73_l10 p1)), .val (.int (v0_81_l11 p1)), .val (.int (v0_93_l12 p2)), .val (.ref b187), .val (.int (v0_614_l14_2 p1)), .val (.long (v0_628_l15_2 q0 p1)), .second, .val (.int (0 : Int32)), .unset, .unset, .val (.int (1 : Int32)), .val (.int (v0_43_l8 p1))] [(.int (17 : Int32)), (.int (v0_14_l6 p1))])) t) => k342 t (by
                show Steps p.tables e below (T325.setTop (mkF m 754 #[.val (.long q0), .second, .val (.int p1), .val (.int p2), .val (.long (v0_5_l4 q0)), .second, .val (.int (v0_14_l6 p1)), .val (.int (v0_21_s0 p1)), .val (.int (v0_43_l8 p1)), .val (.int (v0_51_s0 p1)), .val (.int (v0_73_l10 p1)), .val (.int (v0_81_l11 p1)), .val (.int (v0_93_l12 p2)), .val (.ref b187), .val (.int (v0_614_l14_2 p1)), .val (.long (v0_628_l15_2 q0 p1)), .second, .val (.int (0 : Int32)), .unset, .unset, .val (.int (1 : Int32)), .val (.int (v0_43_l8 p1))] [(.int (8 : Int32)), (.int ((v0_14_l6 p1) - (v0_43_l8 p1)))])) _
                refine XS.icmpYes X325.here hx rfl (pc0 := 754) (pc' := 765) rfl (hb hby at_754) rfl (flt hc754_343).2.2.2 (by decide) (by decide) ?_
                refine XS.iload X325.here hx rfl (hb hby at_765) rfl ?_
                refine XS.bipush X325.here hx rfl (hb hby at_767) ?_
                exact kk)
              by_cases hc769_348 : (17 : Int32) < (v0_14_l6 p1)
              · have k351 := fun (t : State) (kk : Steps p.tables e below (T325.setTop (mkF m 821 #[.val (.long q0), .second, .val (.int p1), .val (.int p2), .val (.long (v0_5_l4 q0)), .second, .val (.int (v0_14_l6 p1)), .val (.int (v0_21_s0 p1)), .val (.int (v0_43_l8 p1)), .val (.int (v0_51_s0 p1)), .val (.int (v0_73_l10 p1)), .val (.int (v0_81_l11 p1)), .val (.int (v0_93_l12 p2)), .val (.ref b187), .val (.int (v0_614_l14_2 p1)), .val (.long (v0_628_l15_2 q0 p1)), .second, .val (.int (0 : Int32)), .val (.long (-2 : Int64)), .second, .val (.int (1 : Int32)), .val (.int (v0_43_l8 p1))] [(.int (v0_813_s0_7 q0 p1))])) t) => k347 t (by
                  show Steps p.tables e below (T325.setTop (mkF m 769 #[.val (.long q0), .second, .val (.int p1), .val (.int p2), .val (.long (v0_5_l4 q0)), .second, .val (.int (v0_14_l6 p1)), .val (.int (v0_21_s0 p1)), .val (.int (v0_43_l8 p1)), .val (.int (v0_51_s0 p1)), .val (.int (v0_73_l10 p1)), .val (.int (v0_81_l11 p1)), .val (.int (v0_93_l12 p2)), .val (.ref b187), .val (.int (v0_614_l14_2 p1)), .val (.long (v0_628_l15_2 q0 p1)), .second, .val (.int (0 : Int32)), .unset, .unset, .val (.int (1 : Int32)), .val (.int (v0_43_l8 p1))] [(.int (17 : Int32)), (.int (v0_14_l6 p1))])) _
                  refine XS.icmpNo X325.here hx rfl (hb hby at_769) rfl (tlt hc769_348).2.2.2 ?_
                  show Steps p.tables e below (T325.setTop (mkF m 772 #[.val (.long q0), .second, .val (.int p1), .val (.int p2), .val (.long (v0_5_l4 q0)), .second, .val (.int (v0_14_l6 p1)), .val (.int (v0_21_s0 p1)), .val (.int (v0_43_l8 p1)), .val (.int (v0_51_s0 p1)), .val (.int (v0_73_l10 p1)), .val (.int (v0_81_l11 p1)), .val (.int (v0_93_l12 p2)), .val (.ref b187), .val (.int (v0_614_l14_2 p1)), .val (.long (v0_628_l15_2 q0 p1)), .second, .val (.int (0 : Int32)), .unset, .unset, .val (.int (1 : Int32)), .val (.int (v0_43_l8 p1))] [])) _
                  refine X325.ldc2Long hx hown (mvT hZ (hw _ (List.mem_of_getElem? (i := 37) rfl))) (g := (mkF m 772 #[.val (.long q0), .second, .val (.int p1), .val (.int p2), .val (.long (v0_5_l4 q0)), .second, .val (.int (v0_14_l6 p1)), .val (.int (v0_21_s0 p1)), .val (.int (v0_43_l8 p1)), .val (.int (v0_51_s0 p1)), .val (.int (v0_73_l10 p1)), .val (.int (v0_81_l11 p1)), .val (.int (v0_93_l12 p2)), .val (.ref b187), .val (.int (v0_614_l14_2 p1)), .val (.long (v0_628_l15_2 q0 p1)), .second, .val (.int (0 : Int32)), .unset, .unset, .val (.int (1 : Int32)), .val (.int (v0_43_l8 p1))] [])) rfl (hb hby at_772) _ ?_
                  refine XS.lstore X325.here hx rfl (hb hby at_775) rfl (l' := #[.val (.long q0), .second, .val (.int p1), .val (.int p2), .val (.long (v0_5_l4 q0)), .second, .val (.int (v0_14_l6 p1)), .val (.int (v0_21_s0 p1)), .val (.int (v0_43_l8 p1)), .val (.int (v0_51_s0 p1)), .val (.int (v0_73_l10 p1)), .val (.int (v0_81_l11 p1)), .val (.int (v0_93_l12 p2)), .val (.ref b187), .val (.int (v0_614_l14_2 p1)), .val (.long (v0_628_l15_2 q0 p1)), .second, .val (.int (0 : Int32)), .val (.long (-2 : Int64)), .second, .val (.int (1 : Int32)), .val (.int (v0_43_l8 p1))]) rfl ?_
                  refine XS.goto X325.here hx rfl (pc0 := 777) (pc' := 808) rfl (hb hby at_777) (by decide) (by decide) ?_
                  refine XS.lload X325.here hx rfl (hb hby at_808) rfl ?_
                  refine XS.lload X325.here hx rfl (hb hby at_810) rfl ?_
                  refine XS.lcmp X325.here hx rfl (hb hby at_812) rfl ?_
                  suffices k350 : Steps p.tables e below (T325.setTop (mkF m 821 #[.val (.long q0), .second, .val (.int p1), .val (.int p2), .val (.long (v0_5_l4 q0)), .second, .val (.int (v0_14_l6 p1)), .val (.int (v0_21_s0 p1)), .val (.int (v0_43_l8 p1)), .val (.int (v0_51_s0 p1)), .val (.int (v0_73_l10 p1)), .val (.int (v0_81_l11 p1)), .val (.int (v0_93_l12 p2)), .val (.ref b187), .val (.int (v0_614_l14_2 p1)), .val (.long (v0_628_l15_2 q0 p1)), .second, .val (.int (0 : Int32)), .val (.long (-2 : Int64)), .second, .val (.int (1 : Int32)), .val (.int (v0_43_l8 p1))] [(.int (v0_813_s0_7 q0 p1))])) t by
                    by_cases hc813_349 : (v0_628_l15_2 q0 p1) = (-2 : Int64)
                    · rw [(show (v0_813_s0_7 q0 p1) = (1 : Int32) from if_pos hc813_349)] at k350
                      show Steps p.tables e below (T325.setTop (mkF m 813 #[.val (.long q0), .second, .val (.int p1), .val (.int p2), .val (.long (v0_5_l4 q0)), .second, .val (.int (v0_14_l6 p1)), .val (.int (v0_21_s0 p1)), .val (.int (v0_43_l8 p1)), .val (.int (v0_51_s0 p1)), .val (.int (v0_73_l10 p1)), .val (.int (v0_81_l11 p1)), .val (.int (v0_93_l12 p2)), .val (.ref b187), .val (.int (v0_614_l14_2 p1)), .val (.long (v0_628_l15_2 q0 p1)), .second, .val (.int (0 : Int32)), .val (.long (-2 : Int64)), .second, .val (.int (1 : Int32)), .val (.int (v0_43_l8 p1))] [(.int (lcmpW (v0_628_l15_2 q0 p1) (-2 : Int64)))])) _
                      refine XS.ifNo X325.here hx rfl (hb hby at_813) rfl ((if0 _ _).trans (teq ((lw_eq _ _).mpr hc813_349)).2) ?_
                      show Steps p.tables e below (T325.setTop (mkF m 816 #[.val (.long q0), .second, .val (.int p1), .val (.int p2), .val (.long (v0_5_l4 q0)), .second, .val (.int (v0_14_l6 p1)), .val (.int (v0_21_s0 p1)), .val (.int (v0_43_l8 p1)), .val (.int (v0_51_s0 p1)), .val (.int (v0_73_l10 p1)), .val (.int (v0_81_l11 p1)), .val (.int (v0_93_l12 p2)), .val (.ref b187), .val (.int (v0_614_l14_2 p1)), .val (.long (v0_628_l15_2 q0 p1)), .second, .val (.int (0 : Int32)), .val (.long (-2 : Int64)), .second, .val (.int (1 : Int32)), .val (.int (v0_43_l8 p1))] [])) _
                      refine XS.iconst X325.here hx rfl (hb hby at_816) ?_
                      refine XS.goto X325.here hx rfl (pc0 := 817) (pc' := 821) rfl (hb hby at_817) (by decide) (by decide) ?_
                      exact k350
                    · rw [(show (v0_813_s0_7 q0 p1) = (0 : Int32) from if_neg hc813_349)] at k350
                      show Steps p.tables e below (T325.setTop (mkF m 813 #[.val (.long q0), .second, .val (.int p1), .val (.int p2), .val (.long (v0_5_l4 q0)), .second, .val (.int (v0_14_l6 p1)), .val (.int (v0_21_s0 p1)), .val (.int (v0_43_l8 p1)), .val (.int (v0_51_s0 p1)), .val (.int (v0_73_l10 p1)), .val (.int (v0_81_l11 p1)), .val (.int (v0_93_l12 p2)), .val (.ref b187), .val (.int (v0_614_l14_2 p1)), .val (.long (v0_628_l15_2 q0 p1)), .second, .val (.int (0 : Int32)), .val (.long (-2 : Int64)), .second, .val (.int (1 : Int32)), .val (.int (v0_43_l8 p1))] [(.int (lcmpW (v0_628_l15_2 q0 p1) (-2 : Int64)))])) _
                      refine XS.ifYes X325.here hx rfl (pc0 := 813) (pc' := 820) rfl (hb hby at_813) rfl ((if0 _ _).trans (feq (fun q => hc813_349 ((lw_eq _ _).mp q))).2) (by decide) (by decide) ?_
                      refine XS.iconst X325.here hx rfl (hb hby at_820) ?_
                      exact k350
                  exact kk)
                obtain ⟨fs, hr, hrun, hended, hW, hsame⟩ := X325.leave (v := some (.int (nar .boolean (v0_813_s0_7 q0 p1)))) (fun h => by rw [Bd.returns] at h; cases h)
                have hv : (v0_ret q0 p1 p2) = (nar .boolean (v0_813_s0_7 q0 p1)) := ((if_neg hc526_247).trans ((if_pos hc559_323).trans ((if_neg hc718_328).trans ((if_neg hc736_333).trans ((if_neg hc744_338).trans ((if_neg hc754_343).trans (if_pos hc769_348)))))))
                have hone : (nar .boolean (v0_813_s0_7 q0 p1)) = 1 := hv.symm.trans (own_law q0 p1 p2)
                refine ⟨_, _, k351 _ ?_, hrun, hended, _, _, rfl, ?_, ⟨_, rfl⟩, hW, hsame.mono (by decide) (by decide)⟩
                · show Steps p.tables e below (T325.setTop (mkF m 821 #[.val (.long q0), .second, .val (.int p1), .val (.int p2), .val (.long (v0_5_l4 q0)), .second, .val (.int (v0_14_l6 p1)), .val (.int (v0_21_s0 p1)), .val (.int (v0_43_l8 p1)), .val (.int (v0_51_s0 p1)), .val (.int (v0_73_l10 p1)), .val (.int (v0_81_l11 p1)), .val (.int (v0_93_l12 p2)), .val (.ref b187), .val (.int (v0_614_l14_2 p1)), .val (.long (v0_628_l15_2 q0 p1)), .second, .val (.int (0 : Int32)), .val (.long (-2 : Int64)), .second, .val (.int (1 : Int32)), .val (.int (v0_43_l8 p1))] [(.int (v0_813_s0_7 q0 p1))])) _
                  exact retN X325 hx (t := .boolean) Bd.returns (by simp) (hb hby at_821) hr
                · show Q0 Z q0 p1 p2 h0 n0 _ T325.heap _
                  rw [e325]
                  exact ⟨congrArg (fun z => some (Value.int z)) hone, N325⟩
              · have k352 := fun (t : State) (kk : Steps p.tables e below (T325.setTop (mkF m 784 #[.val (.long q0), .second, .val (.int p1), .val (.int p2), .val (.long (v0_5_l4 q0)), .second, .val (.int (v0_14_l6 p1)), .val (.int (v0_21_s0 p1)), .val (.int (v0_43_l8 p1)), .val (.int (v0_51_s0 p1)), .val (.int (v0_73_l10 p1)), .val (.int (v0_81_l11 p1)), .val (.int (v0_93_l12 p2)), .val (.ref b187), .val (.int (v0_614_l14_2 p1)), .val (.long (v0_628_l15_2 q0 p1)), .second, .val (.int (0 : Int32)), .unset, .unset, .val (.int (1 : Int32)), .val (.int (v0_43_l8 p1))] [(.int (v0_14_l6 p1)), (.long (v0_5_l4 q0))])) t) => k347 t (by
                  show Steps p.tables e below (T325.setTop (mkF m 769 #[.val (.long q0), .second, .val (.int p1), .val (.int p2), .val (.long (v0_5_l4 q0)), .second, .val (.int (v0_14_l6 p1)), .val (.int (v0_21_s0 p1)), .val (.int (v0_43_l8 p1)), .val (.int (v0_51_s0 p1)), .val (.int (v0_73_l10 p1)), .val (.int (v0_81_l11 p1)), .val (.int (v0_93_l12 p2)), .val (.ref b187), .val (.int (v0_614_l14_2 p1)), .val (.long (v0_628_l15_2 q0 p1)), .second, .val (.int (0 : Int32)), .unset, .unset, .val (.int (1 : Int32)), .val (.int (v0_43_l8 p1))] [(.int (17 : Int32)), (.int (v0_14_l6 p1))])) _
                  refine XS.icmpYes X325.here hx rfl (pc0 := 769) (pc' := 780) rfl (hb hby at_769) rfl (flt hc769_348).2.2.2 (by decide) (by decide) ?_
                  refine XS.lload X325.here hx rfl (hb hby at_780) rfl ?_
                  refine XS.iload X325.here hx rfl (hb hby at_782) rfl ?_
                  exact kk)
                have Zz353 : n0 ≤ h320.size := (Nat.le_trans Z0 K320.1)
                obtain ⟨_, _, ⟨T353, L353, k353, n353⟩, -, X353, ⟨Lc353, hQ353, l353, y353, z353⟩, st353⟩ := Jvm.LawKit.callS X325 hx (y := (⟨"com/example/gavelbook/gavelbook/DecimalsParsePinLaw", "pow10", "(I)J"⟩ : MethodName)) hown (mvT hZ (hw _ (List.mem_of_getElem? (i := 7) rfl))) (mvT hZ (hw _ (List.mem_of_getElem? (i := 8) rfl))) (mvT hZ (hw _ (List.mem_of_getElem? (i := 4) rfl))) (mvT hZ (hw _ (List.mem_of_getElem? (i := 9) rfl))) (by decide) (backOf (W := 2) (rm2 l Z a0 hw [] (v0_14_l6 p1) h320 n0 Zz353 (own_hI17 p1 hc769_348 : ¬ (v0_14_l6 p1) < 0 ∧ (v0_14_l6 p1) < (19 : Int32))) hZ (hw _ (List.mem_of_getElem? (i := 9) rfl)) (hw _ (List.mem_of_getElem? (i := 4) rfl)) (by decide) (by decide)) (g := (mkF m 784 #[.val (.long q0), .second, .val (.int p1), .val (.int p2), .val (.long (v0_5_l4 q0)), .second, .val (.int (v0_14_l6 p1)), .val (.int (v0_21_s0 p1)), .val (.int (v0_43_l8 p1)), .val (.int (v0_51_s0 p1)), .val (.int (v0_73_l10 p1)), .val (.int (v0_81_l11 p1)), .val (.int (v0_93_l12 p2)), .val (.ref b187), .val (.int (v0_614_l14_2 p1)), .val (.long (v0_628_l15_2 q0 p1)), .second, .val (.int (0 : Int32)), .unset, .unset, .val (.int (1 : Int32)), .val (.int (v0_43_l8 p1))] [(.int (v0_14_l6 p1)), (.long (v0_5_l4 q0))])) rfl (by rw [hml]; rfl) (argsL := [(.int (v0_14_l6 p1))]) (rest := [(.long (v0_5_l4 q0))]) (lenOf pd_0 rfl) rfl (by show 2 * 0 + _ ≤ _; exact Nat.le_of_eq rfl) (hb hby at_784) (fun _ _ => ⟨rfl, e325, (by decide : 20 + 1 ≤ _), (by decide : 386 + 19 ≤ _)⟩)
                dsimp only [Pt.U, Pt.locs, Pt.cells, Pt.slots] at X353 l353 y353 z353 st353 hQ353
                subst l353 y353 z353
                obtain ⟨rfl, N353q, Kq353⟩ := hQ353
                have K353 : Keep h0 T353.heap [] := K320.trans Kq353 all0
                have N353 := Fr.app N325 N353q
                have k354 := fun (t : State) (kk : Steps p.tables e below (T353.setTop (mkF m 787 #[.val (.long q0), .second, .val (.int p1), .val (.int p2), .val (.long (v0_5_l4 q0)), .second, .val (.int (v0_14_l6 p1)), .val (.int (v0_21_s0 p1)), .val (.int (v0_43_l8 p1)), .val (.int (v0_51_s0 p1)), .val (.int (v0_73_l10 p1)), .val (.int (v0_81_l11 p1)), .val (.int (v0_93_l12 p2)), .val (.ref b187), .val (.int (v0_614_l14_2 p1)), .val (.long (v0_628_l15_2 q0 p1)), .second, .val (.int (0 : Int32)), .unset, .unset, .val (.int (1 : Int32)), .val (.int (v0_43_l8 p1))] [(.long (v2_132_at (v0_14_l6 p1))), (.long (v0_5_l4 q0))])) t) => k352 t (st353 _ kk)
                have k357 := fun (t : State) (kk : Steps p.tables e below (T353.setTop (mkF m 821 #[.val (.long q0), .second, .val (.int p1), .val (.int p2), .val (.long (v0_5_l4 q0)), .second, .val (.int (v0_14_l6 p1)), .val (.int (v0_21_s0 p1)), .val (.int (v0_43_l8 p1)), .val (.int (v0_51_s0 p1)), .val (.int (v0_73_l10 p1)), .val (.int (v0_81_l11 p1)), .val (.int (v0_93_l12 p2)), .val (.ref b187), .val (.int (v0_614_l14_2 p1)), .val (.long (v0_628_l15_2 q0 p1)), .second, .val (.int (0 : Int32)), .val (.long (v0_806_l18_2 q0 p1)), .second, .val (.int (1 : Int32)), .val (.int (v0_43_l8 p1))] [(.int (v0_813_s0_8 q0 p1))])) t) => k354 t (by
                  refine own_lremM X353 hx rfl (hb hby at_787) rfl (own_pnz _ (own_hI17 p1 hc769_348)) ?_
                  show Steps p.tables e below (T353.setTop (mkF m 788 #[.val (.long q0), .second, .val (.int p1), .val (.int p2), .val (.long (v0_5_l4 q0)), .second, .val (.int (v0_14_l6 p1)), .val (.int (v0_21_s0 p1)), .val (.int (v0_43_l8 p1)), .val (.int (v0_51_s0 p1)), .val (.int (v0_73_l10 p1)), .val (.int (v0_81_l11 p1)), .val (.int (v0_93_l12 p2)), .val (.ref b187), .val (.int (v0_614_l14_2 p1)), .val (.long (v0_628_l15_2 q0 p1)), .second, .val (.int (0 : Int32)), .unset, .unset, .val (.int (1 : Int32)), .val (.int (v0_43_l8 p1))] [(.long ((v0_5_l4 q0) % (v2_132_at (v0_14_l6 p1))))])) _
                  refine XS.iconst X353.here hx rfl (hb hby at_788) ?_
                  refine XS.lshl X353.here hx rfl (hb hby at_789) rfl ?_
                  refine XS.iload X353.here hx rfl (hb hby at_790) rfl ?_
                  show Steps p.tables e below (T353.setTop (mkF m 792 #[.val (.long q0), .second, .val (.int p1), .val (.int p2), .val (.long (v0_5_l4 q0)), .second, .val (.int (v0_14_l6 p1)), .val (.int (v0_21_s0 p1)), .val (.int (v0_43_l8 p1)), .val (.int (v0_51_s0 p1)), .val (.int (v0_73_l10 p1)), .val (.int (v0_81_l11 p1)), .val (.int (v0_93_l12 p2)), .val (.ref b187), .val (.int (v0_614_l14_2 p1)), .val (.long (v0_628_l15_2 q0 p1)), .second, .val (.int (0 : Int32)), .unset, .unset, .val (.int (1 : Int32)), .val (.int (v0_43_l8 p1))] [(.int (1 : Int32)), (.long (((v0_5_l4 q0) % (v2_132_at (v0_14_l6 p1))) <<< ((4 : Int32) &&& 0x3f).toInt64))])) _
                  refine XS.ifNo X353.here hx rfl (hb hby at_792) rfl ((if0 _ _).trans (feq (by decide : ¬ ((1 : Int32) = (0 : Int32)))).1) ?_
                  refine XS.iload X353.here hx rfl (hb hby at_795) rfl ?_
                  refine XS.iload X353.here hx rfl (hb hby at_797) rfl ?_
                  refine XS.isub X353.here hx rfl (hb hby at_799) rfl ?_
                  show Steps p.tables e below (T353.setTop (mkF m 800 #[.val (.long q0), .second, .val (.int p1), .val (.int p2), .val (.long (v0_5_l4 q0)), .second, .val (.int (v0_14_l6 p1)), .val (.int (v0_21_s0 p1)), .val (.int (v0_43_l8 p1)), .val (.int (v0_51_s0 p1)), .val (.int (v0_73_l10 p1)), .val (.int (v0_81_l11 p1)), .val (.int (v0_93_l12 p2)), .val (.ref b187), .val (.int (v0_614_l14_2 p1)), .val (.long (v0_628_l15_2 q0 p1)), .second, .val (.int (0 : Int32)), .unset, .unset, .val (.int (1 : Int32)), .val (.int (v0_43_l8 p1))] [(.int ((v0_14_l6 p1) - (v0_43_l8 p1))), (.long (((v0_5_l4 q0) % (v2_132_at (v0_14_l6 p1))) <<< ((4 : Int32) &&& 0x3f).toInt64))])) _
                  refine XS.goto X353.here hx rfl (pc0 := 800) (pc' := 804) rfl (hb hby at_800) (by decide) (by decide) ?_
                  refine XS.i2l X353.here hx rfl (hb hby at_804) rfl ?_
                  refine XS.lor X353.here hx rfl (hb hby at_805) rfl ?_
                  refine XS.lstore X353.here hx rfl (hb hby at_806) rfl (l' := #[.val (.long q0), .second, .val (.int p1), .val (.int p2), .val (.long (v0_5_l4 q0)), .second, .val (.int (v0_14_l6 p1)), .val (.int (v0_21_s0 p1)), .val (.int (v0_43_l8 p1)), .val (.int (v0_51_s0 p1)), .val (.int (v0_73_l10 p1)), .val (.int (v0_81_l11 p1)), .val (.int (v0_93_l12 p2)), .val (.ref b187), .val (.int (v0_614_l14_2 p1)), .val (.long (v0_628_l15_2 q0 p1)), .second, .val (.int (0 : Int32)), .val (.long (v0_806_l18_2 q0 p1)), .second, .val (.int (1 : Int32)), .val (.int (v0_43_l8 p1))]) rfl ?_
                  refine XS.lload X353.here hx rfl (hb hby at_808) rfl ?_
                  refine XS.lload X353.here hx rfl (hb hby at_810) rfl ?_
                  show Steps p.tables e below (T353.setTop (mkF m 812 #[.val (.long q0), .second, .val (.int p1), .val (.int p2), .val (.long (v0_5_l4 q0)), .second, .val (.int (v0_14_l6 p1)), .val (.int (v0_21_s0 p1)), .val (.int (v0_43_l8 p1)), .val (.int (v0_51_s0 p1)), .val (.int (v0_73_l10 p1)), .val (.int (v0_81_l11 p1)), .val (.int (v0_93_l12 p2)), .val (.ref b187), .val (.int (v0_614_l14_2 p1)), .val (.long (v0_628_l15_2 q0 p1)), .second, .val (.int (0 : Int32)), .val (.long (v0_806_l18_2 q0 p1)), .second, .val (.int (1 : Int32)), .val (.int (v0_43_l8 p1))] [(.long (v0_806_l18_2 q0 p1)), (.long (v0_628_l15_2 q0 p1))])) _
                  refine XS.lcmp X353.here hx rfl (hb hby at_812) rfl ?_
                  suffices k356 : Steps p.tables e below (T353.setTop (mkF m 821 #[.val (.long q0), .second, .val (.int p1), .val (.int p2), .val (.long (v0_5_l4 q0)), .second, .val (.int (v0_14_l6 p1)), .val (.int (v0_21_s0 p1)), .val (.int (v0_43_l8 p1)), .val (.int (v0_51_s0 p1)), .val (.int (v0_73_l10 p1)), .val (.int (v0_81_l11 p1)), .val (.int (v0_93_l12 p2)), .val (.ref b187), .val (.int (v0_614_l14_2 p1)), .val (.long (v0_628_l15_2 q0 p1)), .second, .val (.int (0 : Int32)), .val (.long (v0_806_l18_2 q0 p1)), .second, .val (.int (1 : Int32)), .val (.int (v0_43_l8 p1))] [(.int (v0_813_s0_8 q0 p1))])) t by
                    by_cases hc813_355 : (v0_628_l15_2 q0 p1) = (v0_806_l18_2 q0 p1)
                    · rw [(show (v0_813_s0_8 q0 p1) = (1 : Int32) from if_pos hc813_355)] at k356
                      show Steps p.tables e below (T353.setTop (mkF m 813 #[.val (.long q0), .second, .val (.int p1), .val (.int p2), .val (.long (v0_5_l4 q0)), .second, .val (.int (v0_14_l6 p1)), .val (.int (v0_21_s0 p1)), .val (.int (v0_43_l8 p1)), .val (.int (v0_51_s0 p1)), .val (.int (v0_73_l10 p1)), .val (.int (v0_81_l11 p1)), .val (.int (v0_93_l12 p2)), .val (.ref b187), .val (.int (v0_614_l14_2 p1)), .val (.long (v0_628_l15_2 q0 p1)), .second, .val (.int (0 : Int32)), .val (.long (v0_806_l18_2 q0 p1)), .second, .val (.int (1 : Int32)), .val (.int (v0_43_l8 p1))] [(.int (lcmpW (v0_628_l15_2 q0 p1) (v0_806_l18_2 q0 p1)))])) _
                      refine XS.ifNo X353.here hx rfl (hb hby at_813) rfl ((if0 _ _).trans (teq ((lw_eq _ _).mpr hc813_355)).2) ?_
                      refine XS.iconst X353.here hx rfl (hb hby at_816) ?_
                      refine XS.goto X353.here hx rfl (pc0 := 817) (pc' := 821) rfl (hb hby at_817) (by decide) (by decide) ?_
                      exact k356
                    · rw [(show (v0_813_s0_8 q0 p1) = (0 : Int32) from if_neg hc813_355)] at k356
                      show Steps p.tables e below (T353.setTop (mkF m 813 #[.val (.long q0), .second, .val (.int p1), .val (.int p2), .val (.long (v0_5_l4 q0)), .second, .val (.int (v0_14_l6 p1)), .val (.int (v0_21_s0 p1)), .val (.int (v0_43_l8 p1)), .val (.int (v0_51_s0 p1)), .val (.int (v0_73_l10 p1)), .val (.int (v0_81_l11 p1)), .val (.int (v0_93_l12 p2)), .val (.ref b187), .val (.int (v0_614_l14_2 p1)), .val (.long (v0_628_l15_2 q0 p1)), .second, .val (.int (0 : Int32)), .val (.long (v0_806_l18_2 q0 p1)), .second, .val (.int (1 : Int32)), .val (.int (v0_43_l8 p1))] [(.int (lcmpW (v0_628_l15_2 q0 p1) (v0_806_l18_2 q0 p1)))])) _
                      refine XS.ifYes X353.here hx rfl (pc0 := 813) (pc' := 820) rfl (hb hby at_813) rfl ((if0 _ _).trans (feq (fun q => hc813_355 ((lw_eq _ _).mp q))).2) (by decide) (by decide) ?_
                      refine XS.iconst X353.here hx rfl (hb hby at_820) ?_
                      exact k356
                  exact kk)
                obtain ⟨fs, hr, hrun, hended, hW, hsame⟩ := X353.leave (v := some (.int (nar .boolean (v0_813_s0_8 q0 p1)))) (fun h => by rw [Bd.returns] at h; cases h)
                have hv : (v0_ret q0 p1 p2) = (nar .boolean (v0_813_s0_8 q0 p1)) := ((if_neg hc526_247).trans ((if_pos hc559_323).trans ((if_neg hc718_328).trans ((if_neg hc736_333).trans ((if_neg hc744_338).trans ((if_neg hc754_343).trans (if_neg hc769_348)))))))
                have hone : (nar .boolean (v0_813_s0_8 q0 p1)) = 1 := hv.symm.trans (own_law q0 p1 p2)
                refine ⟨_, _, k357 _ ?_, hrun, hended, _, _, rfl, ?_, ⟨_, rfl⟩, hW, hsame.mono (by decide) (by decide)⟩
                · show Steps p.tables e below (T353.setTop (mkF m 821 #[.val (.long q0), .second, .val (.int p1), .val (.int p2), .val (.long (v0_5_l4 q0)), .second, .val (.int (v0_14_l6 p1)), .val (.int (v0_21_s0 p1)), .val (.int (v0_43_l8 p1)), .val (.int (v0_51_s0 p1)), .val (.int (v0_73_l10 p1)), .val (.int (v0_81_l11 p1)), .val (.int (v0_93_l12 p2)), .val (.ref b187), .val (.int (v0_614_l14_2 p1)), .val (.long (v0_628_l15_2 q0 p1)), .second, .val (.int (0 : Int32)), .val (.long (v0_806_l18_2 q0 p1)), .second, .val (.int (1 : Int32)), .val (.int (v0_43_l8 p1))] [(.int (v0_813_s0_8 q0 p1))])) _
                  exact retN X353 hx (t := .boolean) Bd.returns (by simp) (hb hby at_821) hr
                · show Q0 Z q0 p1 p2 h0 n0 _ T353.heap _
                  exact ⟨congrArg (fun z => some (Value.int z)) hone, N353⟩
    · have k360 := fun (t : State) (kk : Steps p.tables e below (T320.setTop (mkF m 589 #[.val (.long q0), .second, .val (.int p1), .val (.int p2), .val (.long (v0_5_l4 q0)), .second, .val (.int (v0_14_l6 p1)), .val (.int (v0_21_s0 p1)), .val (.int (v0_43_l8 p1)), .val (.int (v0_51_s0 p1)), .val (.int (v0_73_l10 p1)), .val (.int (v0_81_l11 p1)), .val (.int (v0_93_l12 p2)), .val (.ref b187), .unset, .unset, .unset, .unset, .unset, .unset, .unset, .unset] [(.int (v0_93_l12 p2)), (.int (((v0_81_l11 p1) + (v0_73_l10 p1)) + (v0_578_s0 p1))), (.ref b187)])) t) => k322 t (by
        show Steps p.tables e below (T320.setTop (mkF m 559 #[.val (.long q0), .second, .val (.int p1), .val (.int p2), .val (.long (v0_5_l4 q0)), .second, .val (.int (v0_14_l6 p1)), .val (.int (v0_21_s0 p1)), .val (.int (v0_43_l8 p1)), .val (.int (v0_51_s0 p1)), .val (.int (v0_73_l10 p1)), .val (.int (v0_81_l11 p1)), .val (.int (v0_93_l12 p2)), .val (.ref b187), .unset, .unset, .unset, .unset, .unset, .unset, .unset, .unset] [(.int (v0_51_s0 p1))])) _
        refine XS.ifNo X320.here hx rfl (hb hby at_559) rfl ((if0 _ _).trans (feq hc559_323).1) ?_
        refine XS.aload X320.here hx rfl (hb hby at_562) rfl rfl ?_
        refine XS.iload X320.here hx rfl (hb hby at_564) rfl ?_
        show Steps p.tables e below (T320.setTop (mkF m 566 #[.val (.long q0), .second, .val (.int p1), .val (.int p2), .val (.long (v0_5_l4 q0)), .second, .val (.int (v0_14_l6 p1)), .val (.int (v0_21_s0 p1)), .val (.int (v0_43_l8 p1)), .val (.int (v0_51_s0 p1)), .val (.int (v0_73_l10 p1)), .val (.int (v0_81_l11 p1)), .val (.int (v0_93_l12 p2)), .val (.ref b187), .unset, .unset, .unset, .unset, .unset, .unset, .unset, .unset] [(.int (v0_81_l11 p1)), (.ref b187)])) _
        refine XS.iload X320.here hx rfl (hb hby at_566) rfl ?_
        refine XS.iadd X320.here hx rfl (hb hby at_568) rfl ?_
        refine XS.iload X320.here hx rfl (hb hby at_569) rfl ?_
        show Steps p.tables e below (T320.setTop (mkF m 571 #[.val (.long q0), .second, .val (.int p1), .val (.int p2), .val (.long (v0_5_l4 q0)), .second, .val (.int (v0_14_l6 p1)), .val (.int (v0_21_s0 p1)), .val (.int (v0_43_l8 p1)), .val (.int (v0_51_s0 p1)), .val (.int (v0_73_l10 p1)), .val (.int (v0_81_l11 p1)), .val (.int (v0_93_l12 p2)), .val (.ref b187), .unset, .unset, .unset, .unset, .unset, .unset, .unset, .unset] [(.int (v0_21_s0 p1)), (.int ((v0_81_l11 p1) + (v0_73_l10 p1))), (.ref b187)])) _
        refine XS.ifNo X320.here hx rfl (hb hby at_571) rfl ((if0 _ _).trans (feq hc526_247).1) ?_
        refine XS.iload X320.here hx rfl (hb hby at_574) rfl ?_
        refine XS.iload X320.here hx rfl (hb hby at_576) rfl ?_
        suffices k359 : Steps p.tables e below (T320.setTop (mkF m 586 #[.val (.long q0), .second, .val (.int p1), .val (.int p2), .val (.long (v0_5_l4 q0)), .second, .val (.int (v0_14_l6 p1)), .val (.int (v0_21_s0 p1)), .val (.int (v0_43_l8 p1)), .val (.int (v0_51_s0 p1)), .val (.int (v0_73_l10 p1)), .val (.int (v0_81_l11 p1)), .val (.int (v0_93_l12 p2)), .val (.ref b187), .unset, .unset, .unset, .unset, .unset, .unset, .unset, .unset] [(.int (v0_578_s0 p1)), (.int ((v0_81_l11 p1) + (v0_73_l10 p1))), (.ref b187)])) t by
          by_cases hc578_358 : (v0_73_l10 p1) < (v0_43_l8 p1)
          · rw [(show (v0_578_s0 p1) = (0 : Int32) from if_pos hc578_358)] at k359
            show Steps p.tables e below (T320.setTop (mkF m 578 #[.val (.long q0), .second, .val (.int p1), .val (.int p2), .val (.long (v0_5_l4 q0)), .second, .val (.int (v0_14_l6 p1)), .val (.int (v0_21_s0 p1)), .val (.int (v0_43_l8 p1)), .val (.int (v0_51_s0 p1)), .val (.int (v0_73_l10 p1)), .val (.int (v0_81_l11 p1)), .val (.int (v0_93_l12 p2)), .val (.ref b187), .unset, .unset, .unset, .unset, .unset, .unset, .unset, .unset] [(.int (v0_73_l10 p1)), (.int (v0_43_l8 p1)), (.int ((v0_81_l11 p1) + (v0_73_l10 p1))), (.ref b187)])) _
            refine XS.icmpYes X320.here hx rfl (pc0 := 578) (pc' := 585) rfl (hb hby at_578) rfl (tlt hc578_358).2.2.1 (by decide) (by decide) ?_
            refine XS.iconst X320.here hx rfl (hb hby at_585) ?_
            exact k359
          · rw [(show (v0_578_s0 p1) = (1 : Int32) from if_neg hc578_358)] at k359
            show Steps p.tables e below (T320.setTop (mkF m 578 #[.val (.long q0), .second, .val (.int p1), .val (.int p2), .val (.long (v0_5_l4 q0)), .second, .val (.int (v0_14_l6 p1)), .val (.int (v0_21_s0 p1)), .val (.int (v0_43_l8 p1)), .val (.int (v0_51_s0 p1)), .val (.int (v0_73_l10 p1)), .val (.int (v0_81_l11 p1)), .val (.int (v0_93_l12 p2)), .val (.ref b187), .unset, .unset, .unset, .unset, .unset, .unset, .unset, .unset] [(.int (v0_73_l10 p1)), (.int (v0_43_l8 p1)), (.int ((v0_81_l11 p1) + (v0_73_l10 p1))), (.ref b187)])) _
            refine XS.icmpNo X320.here hx rfl (hb hby at_578) rfl (flt hc578_358).2.2.1 ?_
            show Steps p.tables e below (T320.setTop (mkF m 581 #[.val (.long q0), .second, .val (.int p1), .val (.int p2), .val (.long (v0_5_l4 q0)), .second, .val (.int (v0_14_l6 p1)), .val (.int (v0_21_s0 p1)), .val (.int (v0_43_l8 p1)), .val (.int (v0_51_s0 p1)), .val (.int (v0_73_l10 p1)), .val (.int (v0_81_l11 p1)), .val (.int (v0_93_l12 p2)), .val (.ref b187), .unset, .unset, .unset, .unset, .unset, .unset, .unset, .unset] [(.int ((v0_81_l11 p1) + (v0_73_l10 p1))), (.ref b187)])) _
            refine XS.iconst X320.here hx rfl (hb hby at_581) ?_
            refine XS.goto X320.here hx rfl (pc0 := 582) (pc' := 586) rfl (hb hby at_582) (by decide) (by decide) ?_
            exact k359
        refine XS.iadd X320.here hx rfl (hb hby at_586) rfl ?_
        refine XS.iload X320.here hx rfl (hb hby at_587) rfl ?_
        exact kk)
      have hV361 := V320
      obtain ⟨cl361, Ar361, q361, S361, Nn361, H361, G361⟩ := hV361
      have hb362 : ¬ (((v0_81_l11 p1) + (v0_73_l10 p1)) + (v0_578_s0 p1)) < 0 ∧ (((v0_81_l11 p1) + (v0_73_l10 p1)) + (v0_578_s0 p1)) < (25 : Int32) := own_in p1 _ _ (own_m p1) (own_578 p1)
      have hin362 : ¬ ((((v0_81_l11 p1) + (v0_73_l10 p1)) + (v0_578_s0 p1)) < 0 ∨ cl361.slots.size ≤ ((((v0_81_l11 p1) + (v0_73_l10 p1)) + (v0_578_s0 p1))).toNatClampNeg) := inb_of S361 hb362
      obtain ⟨T362, h362, X362, e362, W362, st362⟩ := stB X320 hx hZ e320 Ar361 (j := (((v0_81_l11 p1) + (v0_73_l10 p1)) + (v0_578_s0 p1))) hin362 (g := (mkF m 589 #[.val (.long q0), .second, .val (.int p1), .val (.int p2), .val (.long (v0_5_l4 q0)), .second, .val (.int (v0_14_l6 p1)), .val (.int (v0_21_s0 p1)), .val (.int (v0_43_l8 p1)), .val (.int (v0_51_s0 p1)), .val (.int (v0_73_l10 p1)), .val (.int (v0_81_l11 p1)), .val (.int (v0_93_l12 p2)), .val (.ref b187), .unset, .unset, .unset, .unset, .unset, .unset, .unset, .unset] [(.int (v0_93_l12 p2)), (.int (((v0_81_l11 p1) + (v0_73_l10 p1)) + (v0_578_s0 p1))), (.ref b187)])) rfl rfl (hb hby at_589)
      have hl362 : ((((v0_81_l11 p1) + (v0_73_l10 p1)) + (v0_578_s0 p1))).toNatClampNeg < (List.map Value.int (v0_556_L q0 p1)).length := by rw [List.length_map, VL320]; exact own_lt_nat hb362.1 hb362.2
      have V362r : Arv Z h362 b187 k187 .byte (25 : Int32) (List.map Value.int ((v0_556_L q0 p1).set ((((v0_81_l11 p1) + (v0_73_l10 p1)) + (v0_578_s0 p1))).toNatClampNeg (((v0_93_l12 p2)).toInt8.toInt32))) (.int (0 : Int32)) := by rw [List.map_set]; exact Arv.set Ar361 q361 S361 Nn361 H361 G361 (fits_nar_byte _) W362 _ rfl hl362
      have V362 : Arv Z h362 b187 k187 .byte (25 : Int32) (List.map Value.int (v0_589_L_1 q0 p1 p2)) (.int (0 : Int32)) := V362r
      have VL362 : (v0_589_L_1 q0 p1 p2).length = ((25 : Int32)).toNatClampNeg := (List.length_set).trans VL320
      have K362 : Keep h0 h362 [] := K320.wr W362 (Or.inr sz_b187)
      have N362 := Fr.snoc X362 N320 g_b187
      have k363 := fun (t : State) (kk : Steps p.tables e below (T362.setTop (mkF m 590 #[.val (.long q0), .second, .val (.int p1), .val (.int p2), .val (.long (v0_5_l4 q0)), .second, .val (.int (v0_14_l6 p1)), .val (.int (v0_21_s0 p1)), .val (.int (v0_43_l8 p1)), .val (.int (v0_51_s0 p1)), .val (.int (v0_73_l10 p1)), .val (.int (v0_81_l11 p1)), .val (.int (v0_93_l12 p2)), .val (.ref b187), .unset, .unset, .unset, .unset, .unset, .unset, .unset, .unset] [])) t) => k360 t (st362 _ kk)
      have k364 := fun (t : State) (kk : Steps p.tables e below (T362.setTop (mkF m 625 #[.val (.long q0), .second, .val (.int p1), .val (.int p2), .val (.long (v0_5_l4 q0)), .second, .val (.int (v0_14_l6 p1)), .val (.int (v0_21_s0 p1)), .val (.int (v0_43_l8 p1)), .val (.int (v0_51_s0 p1)), .val (.int (v0_73_l10 p1)), .val (.int (v0_81_l11 p1)), .val (.int (v0_93_l12 p2)), .val (.ref b187), .val (.int (v0_614_l14_3 p1)), .unset, .unset, .unset, .unset, .unset, .unset, .unset] [(.int ((v0_81_l11 p1) + (v0_614_l14_3 p1))), (.int (v0_81_l11 p1)), (.ref b187)])) t) => k363 t (by
        refine XS.iload X362.here hx rfl (hb hby at_590) rfl ?_
        refine XS.iload X362.here hx rfl (hb hby at_592) rfl ?_
        show Steps p.tables e below (T362.setTop (mkF m 594 #[.val (.long q0), .second, .val (.int p1), .val (.int p2), .val (.long (v0_5_l4 q0)), .second, .val (.int (v0_14_l6 p1)), .val (.int (v0_21_s0 p1)), .val (.int (v0_43_l8 p1)), .val (.int (v0_51_s0 p1)), .val (.int (v0_73_l10 p1)), .val (.int (v0_81_l11 p1)), .val (.int (v0_93_l12 p2)), .val (.ref b187), .unset, .unset, .unset, .unset, .unset, .unset, .unset, .unset] [(.int (v0_21_s0 p1)), (.int (v0_14_l6 p1))])) _
        refine XS.ifNo X362.here hx rfl (hb hby at_594) rfl ((if0 _ _).trans (feq hc526_247).1) ?_
        show Steps p.tables e below (T362.setTop (mkF m 597 #[.val (.long q0), .second, .val (.int p1), .val (.int p2), .val (.long (v0_5_l4 q0)), .second, .val (.int (v0_14_l6 p1)), .val (.int (v0_21_s0 p1)), .val (.int (v0_43_l8 p1)), .val (.int (v0_51_s0 p1)), .val (.int (v0_73_l10 p1)), .val (.int (v0_81_l11 p1)), .val (.int (v0_93_l12 p2)), .val (.ref b187), .unset, .unset, .unset, .unset, .unset, .unset, .unset, .unset] [(.int (v0_14_l6 p1))])) _
        refine XS.iconst X362.here hx rfl (hb hby at_597) ?_
        refine XS.goto X362.here hx rfl (pc0 := 598) (pc' := 602) rfl (hb hby at_598) (by decide) (by decide) ?_
        refine XS.iadd X362.here hx rfl (hb hby at_602) rfl ?_
        refine XS.iload X362.here hx rfl (hb hby at_603) rfl ?_
        show Steps p.tables e below (T362.setTop (mkF m 605 #[.val (.long q0), .second, .val (.int p1), .val (.int p2), .val (.long (v0_5_l4 q0)), .second, .val (.int (v0_14_l6 p1)), .val (.int (v0_21_s0 p1)), .val (.int (v0_43_l8 p1)), .val (.int (v0_51_s0 p1)), .val (.int (v0_73_l10 p1)), .val (.int (v0_81_l11 p1)), .val (.int (v0_93_l12 p2)), .val (.ref b187), .unset, .unset, .unset, .unset, .unset, .unset, .unset, .unset] [(.int (v0_51_s0 p1)), (.int ((v0_14_l6 p1) + (1 : Int32)))])) _
        refine XS.ifNo X362.here hx rfl (hb hby at_605) rfl ((if0 _ _).trans (feq hc559_323).1) ?_
        refine XS.iconst X362.here hx rfl (hb hby at_608) ?_
        refine XS.goto X362.here hx rfl (pc0 := 609) (pc' := 613) rfl (hb hby at_609) (by decide) (by decide) ?_
        show Steps p.tables e below (T362.setTop (mkF m 613 #[.val (.long q0), .second, .val (.int p1), .val (.int p2), .val (.long (v0_5_l4 q0)), .second, .val (.int (v0_14_l6 p1)), .val (.int (v0_21_s0 p1)), .val (.int (v0_43_l8 p1)), .val (.int (v0_51_s0 p1)), .val (.int (v0_73_l10 p1)), .val (.int (v0_81_l11 p1)), .val (.int (v0_93_l12 p2)), .val (.ref b187), .unset, .unset, .unset, .unset, .unset, .unset, .unset, .unset] [(.int (1 : Int32)), (.int ((v0_14_l6 p1) + (1 : Int32)))])) _
        refine XS.iadd X362.here hx rfl (hb hby at_613) rfl ?_
        refine XS.istore X362.here hx rfl (hb hby at_614) rfl (l' := #[.val (.long q0), .second, .val (.int p1), .val (.int p2), .val (.long (v0_5_l4 q0)), .second, .val (.int (v0_14_l6 p1)), .val (.int (v0_21_s0 p1)), .val (.int (v0_43_l8 p1)), .val (.int (v0_51_s0 p1)), .val (.int (v0_73_l10 p1)), .val (.int (v0_81_l11 p1)), .val (.int (v0_93_l12 p2)), .val (.ref b187), .val (.int (v0_614_l14_3 p1)), .unset, .unset, .unset, .unset, .unset, .unset, .unset]) rfl ?_
        refine XS.aload X362.here hx rfl (hb hby at_616) rfl rfl ?_
        refine XS.iload X362.here hx rfl (hb hby at_618) rfl ?_
        refine XS.iload X362.here hx rfl (hb hby at_620) rfl ?_
        refine XS.iload X362.here hx rfl (hb hby at_622) rfl ?_
        show Steps p.tables e below (T362.setTop (mkF m 624 #[.val (.long q0), .second, .val (.int p1), .val (.int p2), .val (.long (v0_5_l4 q0)), .second, .val (.int (v0_14_l6 p1)), .val (.int (v0_21_s0 p1)), .val (.int (v0_43_l8 p1)), .val (.int (v0_51_s0 p1)), .val (.int (v0_73_l10 p1)), .val (.int (v0_81_l11 p1)), .val (.int (v0_93_l12 p2)), .val (.ref b187), .val (.int (v0_614_l14_3 p1)), .unset, .unset, .unset, .unset, .unset, .unset, .unset] [(.int (v0_614_l14_3 p1)), (.int (v0_81_l11 p1)), (.int (v0_81_l11 p1)), (.ref b187)])) _
        refine XS.iadd X362.here hx rfl (hb hby at_624) rfl ?_
        exact kk)
      have Zz365 : n0 ≤ h362.size := (Nat.le_trans Z0 K362.1)
      obtain ⟨_, _, ⟨T365, L365, k365, n365⟩, -, X365, ⟨Lc365, hQ365, l365, y365, z365⟩, st365⟩ := Jvm.LawKit.callS X362 hx (y := (⟨"com/example/gavelbook/gavelbook/Decimals", "parse", "([BII)J"⟩ : MethodName)) hown (mvT hZ (hw _ (List.mem_of_getElem? (i := 29) rfl))) (mvT hZ (hw _ (List.mem_of_getElem? (i := 30) rfl))) (mvT hZ (hw _ (List.mem_of_getElem? (i := 31) rfl))) (mvT hZ (hw _ (List.mem_of_getElem? (i := 32) rfl))) (by decide) (backOf (W := 0) (rm3 l Z a0 hw [] b187 (v0_81_l11 p1) ((v0_81_l11 p1) + (v0_614_l14_3 p1)) k187 (25 : Int32) (v0_589_L_1 q0 p1 p2) h362 n0 Zz365 (own_hst p1 : ¬ (v0_81_l11 p1) < 0) (own_hfin p1 1 1 (by decide) (by decide) : ¬ (25 : Int32) < ((v0_81_l11 p1) + (v0_614_l14_3 p1))) V362 VL362) hZ (hw _ (List.mem_of_getElem? (i := 32) rfl)) (hw _ (List.mem_of_getElem? (i := 31) rfl)) (by decide) (by decide)) (g := (mkF m 625 #[.val (.long q0), .second, .val (.int p1), .val (.int p2), .val (.long (v0_5_l4 q0)), .second, .val (.int (v0_14_l6 p1)), .val (.int (v0_21_s0 p1)), .val (.int (v0_43_l8 p1)), .val (.int (v0_51_s0 p1)), .val (.int (v0_73_l10 p1)), .val (.int (v0_81_l11 p1)), .val (.int (v0_93_l12 p2)), .val (.ref b187), .val (.int (v0_614_l14_3 p1)), .unset, .unset, .unset, .unset, .unset, .unset, .unset] [(.int ((v0_81_l11 p1) + (v0_614_l14_3 p1))), (.int (v0_81_l11 p1)), (.ref b187)])) rfl (by rw [hml]; rfl) (argsL := [(.ref b187), (.int (v0_81_l11 p1)), (.int ((v0_81_l11 p1) + (v0_614_l14_3 p1)))]) (rest := []) (lenOf pd_2 rfl) rfl (by show 2 * 0 + _ ≤ _; exact Nat.le_of_eq rfl) (hb hby at_625) (fun _ _ => ⟨rfl, e362, (by decide : 20 + 0 ≤ _), (by decide : 386 + 0 ≤ _)⟩)
      dsimp only [Pt.U, Pt.locs, Pt.cells, Pt.slots] at X365 l365 y365 z365 st365 hQ365
      subst l365 y365 z365
      obtain ⟨rfl, N365q, e365⟩ := hQ365
      have N365 := Fr.app N362 N365q
      have k366 := fun (t : State) (kk : Steps p.tables e below (T365.setTop (mkF m 628 #[.val (.long q0), .second, .val (.int p1), .val (.int p2), .val (.long (v0_5_l4 q0)), .second, .val (.int (v0_14_l6 p1)), .val (.int (v0_21_s0 p1)), .val (.int (v0_43_l8 p1)), .val (.int (v0_51_s0 p1)), .val (.int (v0_73_l10 p1)), .val (.int (v0_81_l11 p1)), .val (.int (v0_93_l12 p2)), .val (.ref b187), .val (.int (v0_614_l14_3 p1)), .unset, .unset, .unset, .unset, .unset, .unset, .unset] [(.long (own_parse (v0_81_l11 p1) ((v0_81_l11 p1) + (v0_614_l14_3 p1)) (v0_589_L_1 q0 p1 p2) (((v0_81_l11 p1) + (v0_614_l14_3 p1)).toInt - (v0_81_l11 p1).toInt).toNat (0 : Int64) (0 : Int32) (-1 : Int32) (v0_81_l11 p1)))])) t) => k364 t (st365 _ kk)
      have k369 := fun (t : State) (kk : Steps p.tables e below (T365.setTop (mkF m 656 #[.val (.long q0), .second, .val (.int p1), .val (.int p2), .val (.long (v0_5_l4 q0)), .second, .val (.int (v0_14_l6 p1)), .val (.int (v0_21_s0 p1)), .val (.int (v0_43_l8 p1)), .val (.int (v0_51_s0 p1)), .val (.int (v0_73_l10 p1)), .val (.int (v0_81_l11 p1)), .val (.int (v0_93_l12 p2)), .val (.ref b187), .val (.int (v0_614_l14_3 p1)), .val (.long (v0_628_l15_3 q0 p1 p2)), .second, .val (.int (v0_639_s0 p2)), .unset, .unset, .unset, .unset] [(.int (v0_639_s0 p2))])) t) => k366 t (by
        refine XS.lstore X365.here hx rfl (hb hby at_628) rfl (l' := #[.val (.long q0), .second, .val (.int p1), .val (.int p2), .val (.long (v0_5_l4 q0)), .second, .val (.int (v0_14_l6 p1)), .val (.int (v0_21_s0 p1)), .val (.int (v0_43_l8 p1)), .val (.int (v0_51_s0 p1)), .val (.int (v0_73_l10 p1)), .val (.int (v0_81_l11 p1)), .val (.int (v0_93_l12 p2)), .val (.ref b187), .val (.int (v0_614_l14_3 p1)), .val (.long (v0_628_l15_3 q0 p1 p2)), .second, .unset, .unset, .unset, .unset, .unset]) rfl ?_
        refine XS.iload X365.here hx rfl (hb hby at_630) rfl ?_
        show Steps p.tables e below (T365.setTop (mkF m 632 #[.val (.long q0), .second, .val (.int p1), .val (.int p2), .val (.long (v0_5_l4 q0)), .second, .val (.int (v0_14_l6 p1)), .val (.int (v0_21_s0 p1)), .val (.int (v0_43_l8 p1)), .val (.int (v0_51_s0 p1)), .val (.int (v0_73_l10 p1)), .val (.int (v0_81_l11 p1)), .val (.int (v0_93_l12 p2)), .val (.ref b187), .val (.int (v0_614_l14_3 p1)), .val (.long (v0_628_l15_3 q0 p1 p2)), .second, .unset, .unset, .unset, .unset, .unset] [(.int (v0_51_s0 p1))])) _
        refine XS.ifNo X365.here hx rfl (hb hby at_632) rfl ((if0 _ _).trans (feq hc559_323).1) ?_
        refine XS.iload X365.here hx rfl (hb hby at_635) rfl ?_
        refine XS.bipush X365.here hx rfl (hb hby at_637) ?_
        suffices k368 : Steps p.tables e below (T365.setTop (mkF m 647 #[.val (.long q0), .second, .val (.int p1), .val (.int p2), .val (.long (v0_5_l4 q0)), .second, .val (.int (v0_14_l6 p1)), .val (.int (v0_21_s0 p1)), .val (.int (v0_43_l8 p1)), .val (.int (v0_51_s0 p1)), .val (.int (v0_73_l10 p1)), .val (.int (v0_81_l11 p1)), .val (.int (v0_93_l12 p2)), .val (.ref b187), .val (.int (v0_614_l14_3 p1)), .val (.long (v0_628_l15_3 q0 p1 p2)), .second, .unset, .unset, .unset, .unset, .unset] [(.int (v0_639_s0 p2))])) t by
          by_cases hc639_367 : (v0_93_l12 p2) = (46 : Int32)
          · rw [(show (v0_639_s0 p2) = (1 : Int32) from if_pos hc639_367)] at k368
            show Steps p.tables e below (T365.setTop (mkF m 639 #[.val (.long q0), .second, .val (.int p1), .val (.int p2), .val (.long (v0_5_l4 q0)), .second, .val (.int (v0_14_l6 p1)), .val (.int (v0_21_s0 p1)), .val (.int (v0_43_l8 p1)), .val (.int (v0_51_s0 p1)), .val (.int (v0_73_l10 p1)), .val (.int (v0_81_l11 p1)), .val (.int (v0_93_l12 p2)), .val (.ref b187), .val (.int (v0_614_l14_3 p1)), .val (.long (v0_628_l15_3 q0 p1 p2)), .second, .unset, .unset, .unset, .unset, .unset] [(.int (46 : Int32)), (.int (v0_93_l12 p2))])) _
            refine XS.icmpNo X365.here hx rfl (hb hby at_639) rfl (teq hc639_367).2 ?_
            refine XS.iconst X365.here hx rfl (hb hby at_642) ?_
            show Steps p.tables e below (T365.setTop (mkF m 643 #[.val (.long q0), .second, .val (.int p1), .val (.int p2), .val (.long (v0_5_l4 q0)), .second, .val (.int (v0_14_l6 p1)), .val (.int (v0_21_s0 p1)), .val (.int (v0_43_l8 p1)), .val (.int (v0_51_s0 p1)), .val (.int (v0_73_l10 p1)), .val (.int (v0_81_l11 p1)), .val (.int (v0_93_l12 p2)), .val (.ref b187), .val (.int (v0_614_l14_3 p1)), .val (.long (v0_628_l15_3 q0 p1 p2)), .second, .unset, .unset, .unset, .unset, .unset] [(.int (1 : Int32))])) _
            refine XS.goto X365.here hx rfl (pc0 := 643) (pc' := 647) rfl (hb hby at_643) (by decide) (by decide) ?_
            exact k368
          · rw [(show (v0_639_s0 p2) = (0 : Int32) from if_neg hc639_367)] at k368
            show Steps p.tables e below (T365.setTop (mkF m 639 #[.val (.long q0), .second, .val (.int p1), .val (.int p2), .val (.long (v0_5_l4 q0)), .second, .val (.int (v0_14_l6 p1)), .val (.int (v0_21_s0 p1)), .val (.int (v0_43_l8 p1)), .val (.int (v0_51_s0 p1)), .val (.int (v0_73_l10 p1)), .val (.int (v0_81_l11 p1)), .val (.int (v0_93_l12 p2)), .val (.ref b187), .val (.int (v0_614_l14_3 p1)), .val (.long (v0_628_l15_3 q0 p1 p2)), .second, .unset, .unset, .unset, .unset, .unset] [(.int (46 : Int32)), (.int (v0_93_l12 p2))])) _
            refine XS.icmpYes X365.here hx rfl (pc0 := 639) (pc' := 646) rfl (hb hby at_639) rfl (feq hc639_367).2 (by decide) (by decide) ?_
            refine XS.iconst X365.here hx rfl (hb hby at_646) ?_
            exact k368
        refine XS.istore X365.here hx rfl (hb hby at_647) rfl (l' := #[.val (.long q0), .second, .val (.int p1), .val (.int p2), .val (.long (v0_5_l4 q0)), .second, .val (.int (v0_14_l6 p1)), .val (.int (v0_21_s0 p1)), .val (.int (v0_43_l8 p1)), .val (.int (v0_51_s0 p1)), .val (.int (v0_73_l10 p1)), .val (.int (v0_81_l11 p1)), .val (.int (v0_93_l12 p2)), .val (.ref b187), .val (.int (v0_614_l14_3 p1)), .val (.long (v0_628_l15_3 q0 p1 p2)), .second, .val (.int (v0_639_s0 p2)), .unset, .unset, .unset, .unset]) rfl ?_
        refine XS.iload X365.here hx rfl (hb hby at_649) rfl ?_
        show Steps p.tables e below (T365.setTop (mkF m 651 #[.val (.long q0), .second, .val (.int p1), .val (.int p2), .val (.long (v0_5_l4 q0)), .second, .val (.int (v0_14_l6 p1)), .val (.int (v0_21_s0 p1)), .val (.int (v0_43_l8 p1)), .val (.int (v0_51_s0 p1)), .val (.int (v0_73_l10 p1)), .val (.int (v0_81_l11 p1)), .val (.int (v0_93_l12 p2)), .val (.ref b187), .val (.int (v0_614_l14_3 p1)), .val (.long (v0_628_l15_3 q0 p1 p2)), .second, .val (.int (v0_639_s0 p2)), .unset, .unset, .unset, .unset] [(.int (v0_51_s0 p1))])) _
        refine XS.ifNo X365.here hx rfl (hb hby at_651) rfl ((if0 _ _).trans (feq hc559_323).1) ?_
        refine XS.iload X365.here hx rfl (hb hby at_654) rfl ?_
        exact kk)
      by_cases hc656_370 : (v0_639_s0 p2) = (0 : Int32)
      · have k373 := fun (t : State) (kk : Steps p.tables e below (T365.setTop (mkF m 821 #[.val (.long q0), .second, .val (.int p1), .val (.int p2), .val (.long (v0_5_l4 q0)), .second, .val (.int (v0_14_l6 p1)), .val (.int (v0_21_s0 p1)), .val (.int (v0_43_l8 p1)), .val (.int (v0_51_s0 p1)), .val (.int (v0_73_l10 p1)), .val (.int (v0_81_l11 p1)), .val (.int (v0_93_l12 p2)), .val (.ref b187), .val (.int (v0_614_l14_3 p1)), .val (.long (v0_628_l15_3 q0 p1 p2)), .second, .val (.int (v0_639_s0 p2)), .val (.long (-1 : Int64)), .second, .unset, .unset] [(.int (v0_813_s0_9 q0 p1 p2))])) t) => k369 t (by
          show Steps p.tables e below (T365.setTop (mkF m 656 #[.val (.long q0), .second, .val (.int p1), .val (.int p2), .val (.long (v0_5_l4 q0)), .second, .val (.int (v0_14_l6 p1)), .val (.int (v0_21_s0 p1)), .val (.int (v0_43_l8 p1)), .val (.int (v0_51_s0 p1)), .val (.int (v0_73_l10 p1)), .val (.int (v0_81_l11 p1)), .val (.int (v0_93_l12 p2)), .val (.ref b187), .val (.int (v0_614_l14_3 p1)), .val (.long (v0_628_l15_3 q0 p1 p2)), .second, .val (.int (v0_639_s0 p2)), .unset, .unset, .unset, .unset] [(.int (v0_639_s0 p2))])) _
          refine XS.ifNo X365.here hx rfl (hb hby at_656) rfl ((if0 _ _).trans (teq hc656_370).2) ?_
          refine X365.ldc2Long hx hown (mvT hZ (hw _ (List.mem_of_getElem? (i := 35) rfl))) (g := (mkF m 659 #[.val (.long q0), .second, .val (.int p1), .val (.int p2), .val (.long (v0_5_l4 q0)), .second, .val (.int (v0_14_l6 p1)), .val (.int (v0_21_s0 p1)), .val (.int (v0_43_l8 p1)), .val (.int (v0_51_s0 p1)), .val (.int (v0_73_l10 p1)), .val (.int (v0_81_l11 p1)), .val (.int (v0_93_l12 p2)), .val (.ref b187), .val (.int (v0_614_l14_3 p1)), .val (.long (v0_628_l15_3 q0 p1 p2)), .second, .val (.int (v0_639_s0 p2)), .unset, .unset, .unset, .unset] [])) rfl (hb hby at_659) _ ?_
          show Steps p.tables e below (T365.setTop (mkF m 662 #[.val (.long q0), .second, .val (.int p1), .val (.int p2), .val (.long (v0_5_l4 q0)), .second, .val (.int (v0_14_l6 p1)), .val (.int (v0_21_s0 p1)), .val (.int (v0_43_l8 p1)), .val (.int (v0_51_s0 p1)), .val (.int (v0_73_l10 p1)), .val (.int (v0_81_l11 p1)), .val (.int (v0_93_l12 p2)), .val (.ref b187), .val (.int (v0_614_l14_3 p1)), .val (.long (v0_628_l15_3 q0 p1 p2)), .second, .val (.int (v0_639_s0 p2)), .unset, .unset, .unset, .unset] [(.long (-1 : Int64))])) _
          refine XS.lstore X365.here hx rfl (hb hby at_662) rfl (l' := #[.val (.long q0), .second, .val (.int p1), .val (.int p2), .val (.long (v0_5_l4 q0)), .second, .val (.int (v0_14_l6 p1)), .val (.int (v0_21_s0 p1)), .val (.int (v0_43_l8 p1)), .val (.int (v0_51_s0 p1)), .val (.int (v0_73_l10 p1)), .val (.int (v0_81_l11 p1)), .val (.int (v0_93_l12 p2)), .val (.ref b187), .val (.int (v0_614_l14_3 p1)), .val (.long (v0_628_l15_3 q0 p1 p2)), .second, .val (.int (v0_639_s0 p2)), .val (.long (-1 : Int64)), .second, .unset, .unset]) rfl ?_
          refine XS.goto X365.here hx rfl (pc0 := 664) (pc' := 808) rfl (hb hby at_664) (by decide) (by decide) ?_
          refine XS.lload X365.here hx rfl (hb hby at_808) rfl ?_
          refine XS.lload X365.here hx rfl (hb hby at_810) rfl ?_
          refine XS.lcmp X365.here hx rfl (hb hby at_812) rfl ?_
          suffices k372 : Steps p.tables e below (T365.setTop (mkF m 821 #[.val (.long q0), .second, .val (.int p1), .val (.int p2), .val (.long (v0_5_l4 q0)), .second, .val (.int (v0_14_l6 p1)), .val (.int (v0_21_s0 p1)), .val (.int (v0_43_l8 p1)), .val (.int (v0_51_s0 p1)), .val (.int (v0_73_l10 p1)), .val (.int (v0_81_l11 p1)), .val (.int (v0_93_l12 p2)), .val (.ref b187), .val (.int (v0_614_l14_3 p1)), .val (.long (v0_628_l15_3 q0 p1 p2)), .second, .val (.int (v0_639_s0 p2)), .val (.long (-1 : Int64)), .second, .unset, .unset] [(.int (v0_813_s0_9 q0 p1 p2))])) t by
            by_cases hc813_371 : (v0_628_l15_3 q0 p1 p2) = (-1 : Int64)
            · rw [(show (v0_813_s0_9 q0 p1 p2) = (1 : Int32) from if_pos hc813_371)] at k372
              show Steps p.tables e below (T365.setTop (mkF m 813 #[.val (.long q0), .second, .val (.int p1), .val (.int p2), .val (.long (v0_5_l4 q0)), .second, .val (.int (v0_14_l6 p1)), .val (.int (v0_21_s0 p1)), .val (.int (v0_43_l8 p1)), .val (.int (v0_51_s0 p1)), .val (.int (v0_73_l10 p1)), .val (.int (v0_81_l11 p1)), .val (.int (v0_93_l12 p2)), .val (.ref b187), .val (.int (v0_614_l14_3 p1)), .val (.long (v0_628_l15_3 q0 p1 p2)), .second, .val (.int (v0_639_s0 p2)), .val (.long (-1 : Int64)), .second, .unset, .unset] [(.int (lcmpW (v0_628_l15_3 q0 p1 p2) (-1 : Int64)))])) _
              refine XS.ifNo X365.here hx rfl (hb hby at_813) rfl ((if0 _ _).trans (teq ((lw_eq _ _).mpr hc813_371)).2) ?_
              refine XS.iconst X365.here hx rfl (hb hby at_816) ?_
              show Steps p.tables e below (T365.setTop (mkF m 817 #[.val (.long q0), .second, .val (.int p1), .val (.int p2), .val (.long (v0_5_l4 q0)), .second, .val (.int (v0_14_l6 p1)), .val (.int (v0_21_s0 p1)), .val (.int (v0_43_l8 p1)), .val (.int (v0_51_s0 p1)), .val (.int (v0_73_l10 p1)), .val (.int (v0_81_l11 p1)), .val (.int (v0_93_l12 p2)), .val (.ref b187), .val (.int (v0_614_l14_3 p1)), .val (.long (v0_628_l15_3 q0 p1 p2)), .second, .val (.int (v0_639_s0 p2)), .val (.long (-1 : Int64)), .second, .unset, .unset] [(.int (1 : Int32))])) _
              refine XS.goto X365.here hx rfl (pc0 := 817) (pc' := 821) rfl (hb hby at_817) (by decide) (by decide) ?_
              exact k372
            · rw [(show (v0_813_s0_9 q0 p1 p2) = (0 : Int32) from if_neg hc813_371)] at k372
              show Steps p.tables e below (T365.setTop (mkF m 813 #[.val (.long q0), .second, .val (.int p1), .val (.int p2), .val (.long (v0_5_l4 q0)), .second, .val (.int (v0_14_l6 p1)), .val (.int (v0_21_s0 p1)), .val (.int (v0_43_l8 p1)), .val (.int (v0_51_s0 p1)), .val (.int (v0_73_l10 p1)), .val (.int (v0_81_l11 p1)), .val (.int (v0_93_l12 p2)), .val (.ref b187), .val (.int (v0_614_l14_3 p1)), .val (.long (v0_628_l15_3 q0 p1 p2)), .second, .val (.int (v0_639_s0 p2)), .val (.long (-1 : Int64)), .second, .unset, .unset] [(.int (lcmpW (v0_628_l15_3 q0 p1 p2) (-1 : Int64)))])) _
              refine XS.ifYes X365.here hx rfl (pc0 := 813) (pc' := 820) rfl (hb hby at_813) rfl ((if0 _ _).trans (feq (fun q => hc813_371 ((lw_eq _ _).mp q))).2) (by decide) (by decide) ?_
              refine XS.iconst X365.here hx rfl (hb hby at_820) ?_
              exact k372
          exact kk)
        obtain ⟨fs, hr, hrun, hended, hW, hsame⟩ := X365.leave (v := some (.int (nar .boolean (v0_813_s0_9 q0 p1 p2)))) (fun h => by rw [Bd.returns] at h; cases h)
        have hv : (v0_ret q0 p1 p2) = (nar .boolean (v0_813_s0_9 q0 p1 p2)) := ((if_neg hc526_247).trans (if_neg hc559_323))
        have hone : (nar .boolean (v0_813_s0_9 q0 p1 p2)) = 1 := hv.symm.trans (own_law q0 p1 p2)
        refine ⟨_, _, k373 _ ?_, hrun, hended, _, _, rfl, ?_, ⟨_, rfl⟩, hW, hsame.mono (by decide) (by decide)⟩
        · show Steps p.tables e below (T365.setTop (mkF m 821 #[.val (.long q0), .second, .val (.int p1), .val (.int p2), .val (.long (v0_5_l4 q0)), .second, .val (.int (v0_14_l6 p1)), .val (.int (v0_21_s0 p1)), .val (.int (v0_43_l8 p1)), .val (.int (v0_51_s0 p1)), .val (.int (v0_73_l10 p1)), .val (.int (v0_81_l11 p1)), .val (.int (v0_93_l12 p2)), .val (.ref b187), .val (.int (v0_614_l14_3 p1)), .val (.long (v0_628_l15_3 q0 p1 p2)), .second, .val (.int (v0_639_s0 p2)), .val (.long (-1 : Int64)), .second, .unset, .unset] [(.int (v0_813_s0_9 q0 p1 p2))])) _
          exact retN X365 hx (t := .boolean) Bd.returns (by simp) (hb hby at_821) hr
        · show Q0 Z q0 p1 p2 h0 n0 _ T365.heap _
          rw [e365]
          exact ⟨congrArg (fun z => some (Value.int z)) hone, N365⟩
      · have k376 := fun (t : State) (kk : Steps p.tables e below (T365.setTop (mkF m 821 #[.val (.long q0), .second, .val (.int p1), .val (.int p2), .val (.long (v0_5_l4 q0)), .second, .val (.int (v0_14_l6 p1)), .val (.int (v0_21_s0 p1)), .val (.int (v0_43_l8 p1)), .val (.int (v0_51_s0 p1)), .val (.int (v0_73_l10 p1)), .val (.int (v0_81_l11 p1)), .val (.int (v0_93_l12 p2)), .val (.ref b187), .val (.int (v0_614_l14_3 p1)), .val (.long (v0_628_l15_3 q0 p1 p2)), .second, .val (.int (v0_639_s0 p2)), .val (.long (-1 : Int64)), .second, .unset, .unset] [(.int (v0_813_s0_9 q0 p1 p2))])) t) => k369 t (by
          show Steps p.tables e below (T365.setTop (mkF m 656 #[.val (.long q0), .second, .val (.int p1), .val (.int p2), .val (.long (v0_5_l4 q0)), .second, .val (.int (v0_14_l6 p1)), .val (.int (v0_21_s0 p1)), .val (.int (v0_43_l8 p1)), .val (.int (v0_51_s0 p1)), .val (.int (v0_73_l10 p1)), .val (.int (v0_81_l11 p1)), .val (.int (v0_93_l12 p2)), .val (.ref b187), .val (.int (v0_614_l14_3 p1)), .val (.long (v0_628_l15_3 q0 p1 p2)), .second, .val (.int (v0_639_s0 p2)), .unset, .unset, .unset, .unset] [(.int (v0_639_s0 p2))])) _
          refine XS.ifYes X365.here hx rfl (pc0 := 656) (pc' := 667) rfl (hb hby at_656) rfl ((if0 _ _).trans (feq hc656_370).2) (by decide) (by decide) ?_
          refine XS.iload X365.here hx rfl (hb hby at_667) rfl ?_
          show Steps p.tables e below (T365.setTop (mkF m 669 #[.val (.long q0), .second, .val (.int p1), .val (.int p2), .val (.long (v0_5_l4 q0)), .second, .val (.int (v0_14_l6 p1)), .val (.int (v0_21_s0 p1)), .val (.int (v0_43_l8 p1)), .val (.int (v0_51_s0 p1)), .val (.int (v0_73_l10 p1)), .val (.int (v0_81_l11 p1)), .val (.int (v0_93_l12 p2)), .val (.ref b187), .val (.int (v0_614_l14_3 p1)), .val (.long (v0_628_l15_3 q0 p1 p2)), .second, .val (.int (v0_639_s0 p2)), .unset, .unset, .unset, .unset] [(.int (v0_21_s0 p1))])) _
          refine XS.ifNo X365.here hx rfl (hb hby at_669) rfl ((if0 _ _).trans (feq hc526_247).1) ?_
          refine XS.iload X365.here hx rfl (hb hby at_672) rfl ?_
          show Steps p.tables e below (T365.setTop (mkF m 674 #[.val (.long q0), .second, .val (.int p1), .val (.int p2), .val (.long (v0_5_l4 q0)), .second, .val (.int (v0_14_l6 p1)), .val (.int (v0_21_s0 p1)), .val (.int (v0_43_l8 p1)), .val (.int (v0_51_s0 p1)), .val (.int (v0_73_l10 p1)), .val (.int (v0_81_l11 p1)), .val (.int (v0_93_l12 p2)), .val (.ref b187), .val (.int (v0_614_l14_3 p1)), .val (.long (v0_628_l15_3 q0 p1 p2)), .second, .val (.int (v0_639_s0 p2)), .unset, .unset, .unset, .unset] [(.int (v0_639_s0 p2))])) _
          refine XS.ifNo X365.here hx rfl (hb hby at_674) rfl ((if0 _ _).trans (feq hc656_370).1) ?_
          refine X365.ldc2Long hx hown (mvT hZ (hw _ (List.mem_of_getElem? (i := 35) rfl))) (g := (mkF m 677 #[.val (.long q0), .second, .val (.int p1), .val (.int p2), .val (.long (v0_5_l4 q0)), .second, .val (.int (v0_14_l6 p1)), .val (.int (v0_21_s0 p1)), .val (.int (v0_43_l8 p1)), .val (.int (v0_51_s0 p1)), .val (.int (v0_73_l10 p1)), .val (.int (v0_81_l11 p1)), .val (.int (v0_93_l12 p2)), .val (.ref b187), .val (.int (v0_614_l14_3 p1)), .val (.long (v0_628_l15_3 q0 p1 p2)), .second, .val (.int (v0_639_s0 p2)), .unset, .unset, .unset, .unset] [])) rfl (hb hby at_677) _ ?_
          refine XS.lstore X365.here hx rfl (hb hby at_680) rfl (l' := #[.val (.long q0), .second, .val (.int p1), .val (.int p2), .val (.long (v0_5_l4 q0)), .second, .val (.int (v0_14_l6 p1)), .val (.int (v0_21_s0 p1)), .val (.int (v0_43_l8 p1)), .val (.int (v0_51_s0 p1)), .val (.int (v0_73_l10 p1)), .val (.int (v0_81_l11 p1)), .val (.int (v0_93_l12 p2)), .val (.ref b187), .val (.int (v0_614_l14_3 p1)), .val (.long (v0_628_l15_3 q0 p1 p2)), .second, .val (.int (v0_639_s0 p2)), .val (.long (-1 : Int64)), .second, .unset, .unset]) rfl ?_
          show Steps p.tables e below (T365.setTop (mkF m 682 #[.val (.long q0), .second, .val (.int p1), .val (.int p2), .val (.long (v0_5_l4 q0)), .second, .val (.int (v0_14_l6 p1)), .val (.int (v0_21_s0 p1)), .val (.int (v0_43_l8 p1)), .val (.int (v0_51_s0 p1)), .val (.int (v0_73_l10 p1)), .val (.int (v0_81_l11 p1)), .val (.int (v0_93_l12 p2)), .val (.ref b187), .val (.int (v0_614_l14_3 p1)), .val (.long (v0_628_l15_3 q0 p1 p2)), .second, .val (.int (v0_639_s0 p2)), .val (.long (-1 : Int64)), .second, .unset, .unset] [])) _
          refine XS.goto X365.here hx rfl (pc0 := 682) (pc' := 808) rfl (hb hby at_682) (by decide) (by decide) ?_
          refine XS.lload X365.here hx rfl (hb hby at_808) rfl ?_
          refine XS.lload X365.here hx rfl (hb hby at_810) rfl ?_
          refine XS.lcmp X365.here hx rfl (hb hby at_812) rfl ?_
          suffices k375 : Steps p.tables e below (T365.setTop (mkF m 821 #[.val (.long q0), .second, .val (.int p1), .val (.int p2), .val (.long (v0_5_l4 q0)), .second, .val (.int (v0_14_l6 p1)), .val (.int (v0_21_s0 p1)), .val (.int (v0_43_l8 p1)), .val (.int (v0_51_s0 p1)), .val (.int (v0_73_l10 p1)), .val (.int (v0_81_l11 p1)), .val (.int (v0_93_l12 p2)), .val (.ref b187), .val (.int (v0_614_l14_3 p1)), .val (.long (v0_628_l15_3 q0 p1 p2)), .second, .val (.int (v0_639_s0 p2)), .val (.long (-1 : Int64)), .second, .unset, .unset] [(.int (v0_813_s0_9 q0 p1 p2))])) t by
            by_cases hc813_374 : (v0_628_l15_3 q0 p1 p2) = (-1 : Int64)
            · rw [(show (v0_813_s0_9 q0 p1 p2) = (1 : Int32) from if_pos hc813_374)] at k375
              show Steps p.tables e below (T365.setTop (mkF m 813 #[.val (.long q0), .second, .val (.int p1), .val (.int p2), .val (.long (v0_5_l4 q0)), .second, .val (.int (v0_14_l6 p1)), .val (.int (v0_21_s0 p1)), .val (.int (v0_43_l8 p1)), .val (.int (v0_51_s0 p1)), .val (.int (v0_73_l10 p1)), .val (.int (v0_81_l11 p1)), .val (.int (v0_93_l12 p2)), .val (.ref b187), .val (.int (v0_614_l14_3 p1)), .val (.long (v0_628_l15_3 q0 p1 p2)), .second, .val (.int (v0_639_s0 p2)), .val (.long (-1 : Int64)), .second, .unset, .unset] [(.int (lcmpW (v0_628_l15_3 q0 p1 p2) (-1 : Int64)))])) _
              refine XS.ifNo X365.here hx rfl (hb hby at_813) rfl ((if0 _ _).trans (teq ((lw_eq _ _).mpr hc813_374)).2) ?_
              refine XS.iconst X365.here hx rfl (hb hby at_816) ?_
              refine XS.goto X365.here hx rfl (pc0 := 817) (pc' := 821) rfl (hb hby at_817) (by decide) (by decide) ?_
              exact k375
            · rw [(show (v0_813_s0_9 q0 p1 p2) = (0 : Int32) from if_neg hc813_374)] at k375
              show Steps p.tables e below (T365.setTop (mkF m 813 #[.val (.long q0), .second, .val (.int p1), .val (.int p2), .val (.long (v0_5_l4 q0)), .second, .val (.int (v0_14_l6 p1)), .val (.int (v0_21_s0 p1)), .val (.int (v0_43_l8 p1)), .val (.int (v0_51_s0 p1)), .val (.int (v0_73_l10 p1)), .val (.int (v0_81_l11 p1)), .val (.int (v0_93_l12 p2)), .val (.ref b187), .val (.int (v0_614_l14_3 p1)), .val (.long (v0_628_l15_3 q0 p1 p2)), .second, .val (.int (v0_639_s0 p2)), .val (.long (-1 : Int64)), .second, .unset, .unset] [(.int (lcmpW (v0_628_l15_3 q0 p1 p2) (-1 : Int64)))])) _
              refine XS.ifYes X365.here hx rfl (pc0 := 813) (pc' := 820) rfl (hb hby at_813) rfl ((if0 _ _).trans (feq (fun q => hc813_374 ((lw_eq _ _).mp q))).2) (by decide) (by decide) ?_
              show Steps p.tables e below (T365.setTop (mkF m 820 #[.val (.long q0), .second, .val (.int p1), .val (.int p2), .val (.long (v0_5_l4 q0)), .second, .val (.int (v0_14_l6 p1)), .val (.int (v0_21_s0 p1)), .val (.int (v0_43_l8 p1)), .val (.int (v0_51_s0 p1)), .val (.int (v0_73_l10 p1)), .val (.int (v0_81_l11 p1)), .val (.int (v0_93_l12 p2)), .val (.ref b187), .val (.int (v0_614_l14_3 p1)), .val (.long (v0_628_l15_3 q0 p1 p2)), .second, .val (.int (v0_639_s0 p2)), .val (.long (-1 : Int64)), .second, .unset, .unset] [])) _
              refine XS.iconst X365.here hx rfl (hb hby at_820) ?_
              exact k375
          exact kk)
        obtain ⟨fs, hr, hrun, hended, hW, hsame⟩ := X365.leave (v := some (.int (nar .boolean (v0_813_s0_9 q0 p1 p2)))) (fun h => by rw [Bd.returns] at h; cases h)
        have hv : (v0_ret q0 p1 p2) = (nar .boolean (v0_813_s0_9 q0 p1 p2)) := ((if_neg hc526_247).trans (if_neg hc559_323))
        have hone : (nar .boolean (v0_813_s0_9 q0 p1 p2)) = 1 := hv.symm.trans (own_law q0 p1 p2)
        refine ⟨_, _, k376 _ ?_, hrun, hended, _, _, rfl, ?_, ⟨_, rfl⟩, hW, hsame.mono (by decide) (by decide)⟩
        · show Steps p.tables e below (T365.setTop (mkF m 821 #[.val (.long q0), .second, .val (.int p1), .val (.int p2), .val (.long (v0_5_l4 q0)), .second, .val (.int (v0_14_l6 p1)), .val (.int (v0_21_s0 p1)), .val (.int (v0_43_l8 p1)), .val (.int (v0_51_s0 p1)), .val (.int (v0_73_l10 p1)), .val (.int (v0_81_l11 p1)), .val (.int (v0_93_l12 p2)), .val (.ref b187), .val (.int (v0_614_l14_3 p1)), .val (.long (v0_628_l15_3 q0 p1 p2)), .second, .val (.int (v0_639_s0 p2)), .val (.long (-1 : Int64)), .second, .unset, .unset] [(.int (v0_813_s0_9 q0 p1 p2))])) _
          exact retN X365 hx (t := .boolean) Bd.returns (by simp) (hb hby at_821) hr
        · show Q0 Z q0 p1 p2 h0 n0 _ T365.heap _
          rw [e365]
          exact ⟨congrArg (fun z => some (Value.int z)) hone, N365⟩
set_option maxRecDepth 65536 in
set_option maxHeartbeats 40000000 in
theorem comes_1 {Post : Tables → Env → Array Value → State → Outcome → State → Prop} (hpost : ∀ tb e args s v u, (limb_1_1.after args s (.returned v) u = true ∧ limb_1_2.after args s (.returned v) u = true ∧ True) → FrameEnd s (.returned v) u (Jvm.fieldLocs frame_1_writes args s ++ Jvm.arrayLocs frame_1_arrays args s ++ Jvm.staticLocs frame_1_statics s) 48 896 → Post tb e args s (.returned v) u) :
    ArmFor flags0 classFile x code maxLocals ret World_1 tables_1 room_1 Calls_1 rest_1 Pre_1 Post := by
  intro l hfl _ _ p e ha hc hk s m args below hf hA hF happ hP
  obtain ⟨hcalls, hrest, hpre⟩ := hP
  obtain ⟨-, -, -, hnamed, -, -, -, hat⟩ := (Spec.applies_iff hf).mp happ
  obtain ⟨hg, hn⟩ := and_e (Cond.before_iff.mp (show (Jvm.Cond.and given_1 narrow_1).before args s = true from hpre))
  obtain ⟨hcnt, hg0⟩ := and_e hg
  obtain ⟨ha0, hg1⟩ := and_e hg0
  obtain ⟨ha1, hg2⟩ := and_e hg1
  have ha2 := hg2
  obtain ⟨w0, w1, w2, rfl⟩ : ∃ w0 w1 w2 : Value, args = #[w0, w1, w2] := by
    have hs : args.size = 3 := by simpa [Cond.value, given_1] using hcnt
    obtain ⟨L⟩ := args
    match L, hs with
    | [w0, w1, w2], _ => exact ⟨w0, w1, w2, rfl⟩
  have hw := fun d (hd : d ∈ tables_1) => atoms_spec (ws := Jvm.Cond.code x code maxLocals ret :: tables_1) hat d (List.mem_cons_of_mem _ hd)
  have hfit : Fit s := fun {y c} hc i hi => by
    obtain ⟨ha, rfl⟩ := Array.getElem?_eq_some_iff.mp hc
    have q := List.all_eq_true.mp ((Array.all_eq_true_iff_forall_mem.mp hF) _ (Array.getElem_mem ha)) i (List.mem_range.mpr hi)
    simpa [Array.getElem?_eq_getElem hi] using q
  obtain ⟨q0, ea0⟩ := isL_v ha0
  obtain rfl : w0 = (.long q0) := Option.some.inj ea0
  obtain ⟨p1, ea1⟩ := is_v ha1
  obtain rfl : w1 = (.int p1) := Option.some.inj ea1
  obtain ⟨p2, ea2⟩ := is_v ha2
  obtain rfl : w2 = (.int p2) := Option.some.inj ea2
  obtain ⟨n, o, h1, h2, h3, _, L, rfl, ⟨rfl, N⟩, hq⟩ := rm0 l s _ hw tables_1 q0 p1 p2 s.heap s.heap.size (Nat.le_refl _)  p e ha hc hk s m _ below hf ((Spec.applies_iff_loose hf).mp happ).1 ⟨rfl, State.Warmed39.refl s, rfl⟩ trivial
  refine ⟨n, _, h1, h2, h3, hpost _ _ _ _ _ _ ⟨Cond.after_iff.mpr rfl, Cond.after_iff.mpr (eq_i res_at (Term.int_eval (1)) rfl), trivial⟩ ⟨hq.1, hq.2.1, (hq.2.2.sift fun y hy => Or.inr (N y hy)).mono (by decide) (by decide)⟩⟩
theorem main_1_1 : Claimed_1_1 := comes_1 fun _ _ _ _ _ _ h hF => ⟨h.1, hF⟩
theorem main_1_2 : Claimed_1_2 := comes_1 fun _ _ _ _ _ _ h hF => ⟨h.2.1, hF⟩
end Jvm.Pilot.@@N@@
namespace Jvm.Pilot.@@N@@
open Jvm Jvm.ClassFile Sem Op Lib Jvm.Free Jvm.Stand Jvm.Pilot.@@N@@.Jvm.D
/-! MADE BY PROGRAM (witnessworld.py) out of the Statement's table words and the real class files: 11 classes; the members and pool entries that the words name. The judged class is class 1, her method 3. -/
namespace start1
open Jvm.ClassFile
def u (s : String) : CpInfo := .utf8 (stringToUtf16 s)
/-- a pool by its gaps: so many unusable entries, then the entry; so many at the end -/
def gap : Nat → List CpInfo → List CpInfo
  | 0, r => r
  | n + 1, r => .unusable :: gap n r
def poolList (es : List (Nat × CpInfo)) (last : Nat) : List CpInfo := es.foldr (fun e r => gap e.1 (e.2 :: r)) (gap last [])
def pool (es : List (Nat × CpInfo)) (last : Nat) : Array CpInfo := ⟨poolList es last⟩
def fileOf (pool : Array CpInfo) (this : Nat) (attrs : Array Attribute := #[]) (ms : Array MethodInfo := #[]) (fl : Nat := 33) (sup : Nat := 0) (ifs : Array Nat := #[]) (fds : Array FieldInfo := #[]) : ClassFile where
  minorVersion := 0
  majorVersion := 65
  constantPool := pool
  accessFlags := fl
  thisClass := this
  superClass := sup
  interfaces := ifs
  fields := fds
  methods := ms
  attributes := attrs
def plain (name : String) (sup : Option ClassId) : Class where
  name := name
  kind := .ordinary
  loader := none
  accessFlags := 33
  super := sup
  interfaces := #[]
  cf := none
  fields := #[]
  methods := #[]
  instanceTypes := #[]
  staticTypes := #[]
  resolved := #[]
  callSites := []
  init := .initialized
  statics := none
  mirror := none

def pool0 : Array CpInfo := pool [(5, u "<init>"), (0, u "()V"), (1, .class_ 10), (1, u "java/lang/Object")] 113

def k0m0 : Method := { name := "<init>", desc := "()V", sig := { parameters := [], returnType := none }, accessFlags := 1, code := none }
/-- java/lang/Object -/
def k0 : Class := { plain "java/lang/Object" none with
  accessFlags := 33
  interfaces := #[]
  cf := some (fileOf pool0 8 #[] #[{ accessFlags := 1, nameIndex := 5, descriptorIndex := 6, attributes := #[] }] 33 0 #[] #[])
  fields := #[]
  methods := #[k0m0]
  instanceTypes := #[]
  staticTypes := #[]
  resolved := Array.replicate 124 none
  statics := none }

def pool1 : Array CpInfo := pool [(2, .class_ 4), (1, u "java/lang/Object"), (0, u "<init>"), (0, u "()V"), (0, .long 10), (1, .long 100), (1, .long 1000), (1, .long 10000), (1, .long 100000), (1, .long 1000000), (1, .long 10000000), (1, .long 100000000), (1, .long 1000000000), (1, .long 10000000000), (1, .long 100000000000), (1, .long 1000000000000), (1, .long 10000000000000), (1, .long 100000000000000), (1, .long 1000000000000000), (1, .long 10000000000000000), (1, .long 100000000000000000), (1, .long 1000000000000000000), (1, .long 48), (1, .methodref 46 47), (0, .class_ 48), (0, .nameAndType 49 50), (0, u "com/example/gavelbook/gavelbook/DecimalsParsePinLaw"), (0, u "pow10"), (0, u "(I)J"), (2, .long 9223372036854775807), (1, .methodref 46 56), (0, .nameAndType 57 58), (0, u "putDigit"), (0, u "([BIIJIZIZI)V"), (0, .methodref 60 61), (0, .class_ 62), (0, .nameAndType 63 64), (0, u "com/example/gavelbook/gavelbook/Decimals"), (0, u "parse"), (0, u "([BII)J"), (0, .long 18446744073709551615), (1, .long 18446744073709551614), (6, u "law"), (0, u "(JII)Z")] 2

def k1m0 : Method := { name := "<init>", desc := "()V", sig := { parameters := [], returnType := none }, accessFlags := 2, code := none }
def k1c1 : Code := { maxStack := 5, maxLocals := 2, code := method_2_code, exceptionTable := #[], attributes := #[] }
def k1m1 : Method := { name := "pow10", desc := "(I)J", sig := { parameters := [.int], returnType := some .long }, accessFlags := 10, code := some k1c1 }
def k1c2 : Code := { maxStack := 8, maxLocals := 11, code := method_3_code, exceptionTable := #[], attributes := #[] }
def k1m2 : Method := { name := "putDigit", desc := "([BIIJIZIZI)V", sig := { parameters := [(.array .byte), .int, .int, .long, .int, .boolean, .int, .boolean, .int], returnType := none }, accessFlags := 10, code := some k1c2 }
def k1c3 : Code := { maxStack := 10, maxLocals := 22, code := code, exceptionTable := #[], attributes := #[] }
def k1m3 : Method := { name := "law", desc := "(JII)Z", sig := { parameters := [.long, .int, .int], returnType := some .boolean }, accessFlags := 9, code := some k1c3 }
/-- com/example/gavelbook/gavelbook/DecimalsParsePinLaw -/
def k1 : Class := { plain "com/example/gavelbook/gavelbook/DecimalsParsePinLaw" (some 0) with
  accessFlags := 49
  interfaces := #[]
  cf := some (fileOf pool1 46 #[] #[{ accessFlags := 2, nameIndex := 5, descriptorIndex := 6, attributes := #[] }, { accessFlags := 10, nameIndex := 49, descriptorIndex := 50, attributes := #[] }, { accessFlags := 10, nameIndex := 57, descriptorIndex := 58, attributes := #[] }, { accessFlags := 9, nameIndex := 74, descriptorIndex := 75, attributes := #[] }] 49 2 #[] #[])
  fields := #[]
  methods := #[k1m0, k1m1, k1m2, k1m3]
  instanceTypes := #[]
  staticTypes := #[]
  resolved := Array.replicate 78 none
  statics := none }

def pool2 : Array CpInfo := pool [(2, .class_ 4), (1, u "java/lang/Object"), (0, u "<init>"), (0, u "()V"), (0, .long 10), (1, .class_ 10), (0, u "com/example/gavelbook/gavelbook/Decimals"), (0, .long 18446744073709551615), (1, .long 18446744073709551614), (11, u "MOST_UNSCALED"), (0, u "[J"), (2, u "POWERS_OF_TEN"), (14, u "MOST_DECIMALS"), (0, u "I"), (2, u "PACKED_DIGITS"), (1, u "ONE"), (0, u "J"), (2, u "MALFORMED"), (0, u "UNPACKED"), (0, u "SCALE_BITS"), (3, u "parse"), (0, u "([BII)J")] 15

def k2m0 : Method := { name := "<init>", desc := "()V", sig := { parameters := [], returnType := none }, accessFlags := 2, code := none }
def k2c1 : Code := { maxStack := 4, maxLocals := 10, code := prog_15_method_2_code, exceptionTable := #[], attributes := #[] }
def k2m1 : Method := { name := "parse", desc := "([BII)J", sig := { parameters := [(.array .byte), .int, .int], returnType := some .long }, accessFlags := 8, code := some k2c1 }
/-- com/example/gavelbook/gavelbook/Decimals -/
def k2 : Class := { plain "com/example/gavelbook/gavelbook/Decimals" (some 0) with
  accessFlags := 48
  interfaces := #[]
  cf := some (fileOf pool2 9 #[] #[{ accessFlags := 2, nameIndex := 5, descriptorIndex := 6, attributes := #[] }, { accessFlags := 8, nameIndex := 60, descriptorIndex := 61, attributes := #[] }] 48 2 #[] #[{ accessFlags := 24, nameIndex := 44, descriptorIndex := 45, attributes := #[] }, { accessFlags := 24, nameIndex := 48, descriptorIndex := 45, attributes := #[] }, { accessFlags := 24, nameIndex := 50, descriptorIndex := 51, attributes := #[] }, { accessFlags := 24, nameIndex := 54, descriptorIndex := 51, attributes := #[] }, { accessFlags := 24, nameIndex := 55, descriptorIndex := 51, attributes := #[] }, { accessFlags := 26, nameIndex := 56, descriptorIndex := 45, attributes := #[] }, { accessFlags := 26, nameIndex := 29, descriptorIndex := 26, attributes := #[] }, { accessFlags := 26, nameIndex := 25, descriptorIndex := 26, attributes := #[] }])
  fields := #[{ name := "MOST_DECIMALS", type := .int, accessFlags := 24, slot := 0, constantValue := 0 }, { name := "PACKED_DIGITS", type := .int, accessFlags := 24, slot := 1, constantValue := 0 }, { name := "ONE", type := .long, accessFlags := 24, slot := 2, constantValue := 0 }, { name := "MALFORMED", type := .long, accessFlags := 24, slot := 3, constantValue := 0 }, { name := "UNPACKED", type := .long, accessFlags := 24, slot := 4, constantValue := 0 }, { name := "SCALE_BITS", type := .int, accessFlags := 26, slot := 5, constantValue := 0 }, { name := "POWERS_OF_TEN", type := (.array .long), accessFlags := 26, slot := 6, constantValue := 0 }, { name := "MOST_UNSCALED", type := (.array .long), accessFlags := 26, slot := 7, constantValue := 0 }]
  methods := #[k2m0, k2m1]
  instanceTypes := #[]
  staticTypes := #[.int, .int, .long, .long, .long, .int, (.array .long), (.array .long)]
  resolved := Array.replicate 77 none
  statics := none }

def pool3 : Array CpInfo := pool [(1, u "java/lang/Cloneable"), (0, .class_ 1), (0, u "java/lang/Object"), (0, .class_ 3)] 3

/-- java/lang/Cloneable -/
def k3 : Class := { plain "java/lang/Cloneable" (some 0) with
  accessFlags := 1537
  interfaces := #[]
  cf := some (fileOf pool3 2 #[] #[] 1537 4 #[] #[])
  fields := #[]
  methods := #[]
  instanceTypes := #[]
  staticTypes := #[]
  resolved := Array.replicate 8 none
  statics := none }

def pool4 : Array CpInfo := pool [(1, u "java/io/Serializable"), (0, .class_ 1), (0, u "java/lang/Object"), (0, .class_ 3)] 3

/-- java/io/Serializable -/
def k4 : Class := { plain "java/io/Serializable" (some 0) with
  accessFlags := 1537
  interfaces := #[]
  cf := some (fileOf pool4 2 #[] #[] 1537 4 #[] #[])
  fields := #[]
  methods := #[]
  instanceTypes := #[]
  staticTypes := #[]
  resolved := Array.replicate 8 none
  statics := none }

/-- the primitive byte -/
def k5 : Class := { plain "byte" none with kind := .primitive 'B', accessFlags := 0x411 }
/-- [B -/
def k6 : Class := { plain "[B" (some 0) with kind := .array 5 .byte, interfaces := #[3, 4], accessFlags := 1041 }

/-- the primitive int -/
def k7 : Class := { plain "int" none with kind := .primitive 'I', accessFlags := 0x411 }
/-- [I -/
def k8 : Class := { plain "[I" (some 0) with kind := .array 7 .int, interfaces := #[3, 4], accessFlags := 1041 }

/-- the primitive long -/
def k9 : Class := { plain "long" none with kind := .primitive 'J', accessFlags := 0x411 }
/-- [J -/
def k10 : Class := { plain "[J" (some 0) with kind := .array 9 .long, interfaces := #[3, 4], accessFlags := 1041 }

def heap : Heap := #[]
def classes : Array Class := #[k0, k1, k2, k3, k4, k5, k6, k7, k8, k9, k10]
def interned : List (Array UInt16 × Addr) := []
def slotsUsed : Nat := 0
def theMethod : MethodId := ⟨1, 3⟩
def args0 : Array Value := #[.long 5, .int 3, .int 7]
def aboutOver (below : List Frame) : State where
  vm := { classes := classes, interned := interned.toArray }
  heap := heap
  slotsUsed := slotsUsed
  threads := #[{ frames := .invoking theMethod args0 :: below }]
def below0 : List Frame := [.native { method := ⟨0, 0⟩, args := #[] }]
def about1 : State := aboutOver below0
def p0 : Program := .bare "" "" ""
def e0 : Env := launch0.env 0 0 0
theorem w_frames : about1.frames = Frame.invoking theMethod args0 :: below0 := rfl
set_option maxRecDepth 65536 in
theorem w_args : argsFit about1.vm theMethod args0 = true := by decide +kernel
set_option maxRecDepth 65536 in
theorem w_heap : heapFits about1 = true := by decide +kernel
set_option maxRecDepth 65536 in
theorem w_runnable : about1.curStatus? = some .runnable := by decide +kernel
set_option maxRecDepth 65536 in
theorem w_alone : about1.alone = true := by decide +kernel
set_option maxRecDepth 65536 in
theorem w_named : about1.methodNamed? x = some theMethod := by decide +kernel
set_option maxRecDepth 65536 in
theorem w_hears : about1.hears theMethod below0 = true := by decide +kernel
set_option maxRecDepth 65536 in
theorem w_ripe : about1.ripe theMethod args0 below0 = true := by decide +kernel
theorem w_running : about1.status = .running := rfl
set_option maxRecDepth 65536 in
theorem w_room : about1.hasRoom e0.platform room_1 = true :=
  launch0.hasRoom_least _ room_1 (by decide +kernel) (by decide +kernel) (by decide +kernel) (by decide +kernel) (by decide +kernel) (by decide +kernel)
theorem allAtoms_all (ts : List Jvm.Cond) (a : Array Jvm.Value) (st : Jvm.State) : (allAtoms ts).before a st = ts.all (fun c => c.before a st) := by
  induction ts with
  | nil => rfl
  | cons c t ih =>
    show (Jvm.Cond.and c (allAtoms t)).before a st = _
    rw [Jvm.Cond.before_and, ih, List.all_cons]
def words1 : List Jvm.Cond := Jvm.Cond.code x code maxLocals ret :: tables_1
/-- a 'code' word, met by the world's own term for the bytes: nothing is compared byte by byte -/
theorem code_word {y : MethodName} {bytes : ByteArray} {mx : Nat} {rt : Option FieldType} {a : Array Value} {s : State} {m : MethodId} {meth : Method} {c : Code} (h1 : s.methodNamed? y = some m) (h2 : s.vm.method? m = some meth) (h3 : meth.code = some c) (h4 : c.code = bytes)
    (h5 : (c.maxLocals == mx && c.exceptionTable.isEmpty && decide (c.maxStack ≤ mostOperands) && decide (meth.sig.returnType = rt) && !meth.locks && decide (parseMethodDescriptor y.desc = some meth.sig)) = true) : (Jvm.Cond.code y bytes mx rt).before a s = true := by
  simp only [Bool.and_eq_true, beq_iff_eq, Bool.not_eq_true', decide_eq_true_eq] at h5
  obtain ⟨⟨⟨⟨⟨g1, g2⟩, g3⟩, g4⟩, g5⟩, g6⟩ := h5
  simp [Cond.before, Cond.holds, Cond.value, h1, h2, h3, h4, g1, g2, g3, g4, g5, g6]
def isCode : Jvm.Cond → Bool
  | .code _ _ _ _ => true
  | _ => false
theorem all_split {L : List Jvm.Cond} {P : Jvm.Cond → Bool} (h1 : L.all (fun c => isCode c || P c) = true) (h2 : ∀ c ∈ L.filter isCode, P c = true) : L.all P = true := by
  refine List.all_eq_true.mpr fun c hc => ?_
  have h := List.all_eq_true.mp h1 c hc
  rcases Bool.eq_false_or_eq_true (isCode c) with hi | hi
  · exact h2 c (List.mem_filter.mpr ⟨hc, hi⟩)
  · simpa [hi] using h
set_option maxRecDepth 65536 in
theorem w_c0 : (Jvm.Cond.code x code maxLocals ret).before args0 about1 = true := code_word (m := ⟨1, 3⟩) (meth := k1m3) (c := k1c3) (by decide +kernel) rfl rfl rfl (by decide +kernel)
set_option maxRecDepth 65536 in
theorem w_c1 : (Jvm.Cond.code ({ cls := "com/example/gavelbook/gavelbook/DecimalsParsePinLaw", name := "putDigit", desc := "([BIIJIZIZI)V" } : Jvm.MethodName) method_3_code (11 : Nat) (Option.none : Option Jvm.ClassFile.FieldType)).before args0 about1 = true := code_word (m := ⟨1, 2⟩) (meth := k1m2) (c := k1c2) (by decide +kernel) rfl rfl rfl (by decide +kernel)
set_option maxRecDepth 65536 in
theorem w_c2 : (Jvm.Cond.code ({ cls := "com/example/gavelbook/gavelbook/DecimalsParsePinLaw", name := "pow10", desc := "(I)J" } : Jvm.MethodName) method_2_code (2 : Nat) (Option.some Jvm.ClassFile.FieldType.long)).before args0 about1 = true := code_word (m := ⟨1, 1⟩) (meth := k1m1) (c := k1c1) (by decide +kernel) rfl rfl rfl (by decide +kernel)
set_option maxRecDepth 65536 in
theorem w_c3 : (Jvm.Cond.code ({ cls := "com/example/gavelbook/gavelbook/Decimals", name := "parse", desc := "([BII)J" } : Jvm.MethodName) prog_15_method_2_code (10 : Nat) (Option.some Jvm.ClassFile.FieldType.long)).before args0 about1 = true := code_word (m := ⟨2, 1⟩) (meth := k2m1) (c := k2c1) (by decide +kernel) rfl rfl rfl (by decide +kernel)
def codes1 : List Jvm.Cond := [Jvm.Cond.code x code maxLocals ret, Jvm.Cond.code ({ cls := "com/example/gavelbook/gavelbook/DecimalsParsePinLaw", name := "putDigit", desc := "([BIIJIZIZI)V" } : Jvm.MethodName) method_3_code (11 : Nat) (Option.none : Option Jvm.ClassFile.FieldType), Jvm.Cond.code ({ cls := "com/example/gavelbook/gavelbook/DecimalsParsePinLaw", name := "pow10", desc := "(I)J" } : Jvm.MethodName) method_2_code (2 : Nat) (Option.some Jvm.ClassFile.FieldType.long), Jvm.Cond.code ({ cls := "com/example/gavelbook/gavelbook/Decimals", name := "parse", desc := "([BII)J" } : Jvm.MethodName) prog_15_method_2_code (10 : Nat) (Option.some Jvm.ClassFile.FieldType.long)]
set_option maxRecDepth 65536 in
theorem codes_eq : words1.filter isCode = codes1 := rfl
theorem w_codes : ∀ c ∈ words1.filter isCode, c.before args0 about1 = true := by
  rw [codes_eq]
  intro c hc
  simp only [codes1, List.mem_cons, List.not_mem_nil, or_false] at hc
  rcases hc with rfl | rfl | rfl | rfl
  · exact w_c0
  · exact w_c1
  · exact w_c2
  · exact w_c3
set_option maxRecDepth 65536 in
theorem w_t1 : (words1.take 24).all (fun c => isCode c || c.before args0 about1) = true := by decide +kernel
set_option maxRecDepth 65536 in
theorem w_t2 : (words1.drop 24).all (fun c => isCode c || c.before args0 about1) = true := by decide +kernel
theorem w_tables : (allAtoms (Jvm.Cond.code x code maxLocals ret :: tables_1)).before args0 about1 = true := by
  rw [allAtoms_all]
  show words1.all (fun c => c.before args0 about1) = true
  refine all_split ?_ w_codes
  rw [← List.take_append_drop 24 words1, List.all_append, w_t1, w_t2]
  rfl
set_option maxRecDepth 65536 in
theorem w_case : (Jvm.Cond.and given_1 narrow_1).before args0 about1 = true := by decide +kernel
theorem w_applies : (headSpec (Jvm.Cond.code x code maxLocals ret :: tables_1) room_1).applies x e0.platform about1 = true :=
  (Spec.applies_iff w_frames).mpr ⟨w_running, w_runnable, w_alone, w_named, w_hears, w_ripe, w_room, w_tables⟩
theorem atStart : AtStart classFile x code maxLocals ret World_1 tables_1 room_1 Calls_1 rest_1 Pre_1 launch0 p0 e0 about1 theMethod args0 below0 :=
  ⟨lists_1, trivial, launch0.admits_env _ _ _, launch0.least_env, fairChoices_fair.cas, fairChoices_fair.clock, w_frames, w_args, w_heap, w_applies, trivial, trivial, w_case⟩
end start1
theorem witness_1 : WitnessClaimed_1 := ⟨start1.p0, start1.e0, start1.about1, start1.theMethod, start1.args0, start1.below0, start1.atStart⟩
end Jvm.Pilot.@@N@@
