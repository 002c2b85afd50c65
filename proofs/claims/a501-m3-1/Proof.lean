import JvmDerived
import JvmDerived.Pilot.@@N@@Statement
import JvmDerived.Pilot.@@N@@Code
set_option linter.unusedVariables false
set_option linter.unusedSimpArgs false
namespace Jvm.RoadKit
open Sem ClassFile Op Lib Jvm.Stand Jvm.Free Jvm.LawKit
section New
variable {p : Program} {l : Launch} {e : Env} {R : Room} {s : State} {m : MethodId} {args : Array Value} {below : List Frame} {meth : Method} {c : Code} {T : State} {locs : List Loc} {cells slots : Nat}
theorem retI (X : Stand p l e R s m args below meth c T locs cells slots) (hx : p.tables.exec = Jvm.exec) {pc : Nat} {Ls : Array Slot} {z : Int32} {rest : List Value} (hret : meth.sig.returnType = some .int) (hd : decode c.code pc = .ok (.ireturn, 1)) {fs : List Frame}
    (hl : ∀ (f : JFrame) (acts : List Action), f.method = m → f.locked = none → f.entered = [] → (doReturn e (T.setTop f) acts (some (.int z))).1 = T.setFrames fs) : Steps p.tables e below (T.setTop (mkF m pc Ls (.int z :: rest))) (T.setFrames fs) := by
  have hm' : T.vm.method? m = some meth := X.method'
  have hn : narrow .int (.int z) = .int z := rfl
  show Steps p.tables e below (T.setTop { method := m, pc := pc, locals := Ls, stack := _ :: rest, locked := none }) _
  jvm_step X.here [X.here.top, hx, hd, hm', hret, hn]
  first | (intro acts; rw [hl _ acts rfl rfl rfl]) | rw [hl _ _ rfl rfl rfl]
  exact Steps.refl _
theorem own_lremM {g : JFrame} {target : State} (X : Stand p l e R s m args below meth c T locs cells slots) (hx : p.tables.exec = Jvm.exec) (hg : g.method = m) {x y : Int64} {rest : List Value} (hd : decode c.code g.pc = .ok (.lrem, 1)) (hs : g.stack = .long y :: .long x :: rest) (hy : y ≠ 0)
    (hr : Steps p.tables e below (T.setTop { g with pc := g.pc + 1, stack := .long (x % y) :: rest }) target) : Steps p.tables e below (T.setTop g) target := by
  have q : x - x / y * y = x % y := lrem_mod x y
  exact XS.lrem X.here hx hg hd hs hy (by rw [q]; exact hr)
theorem own_getD_int (L : List Int32) (n : Nat) (d : Int32) : (L.map Value.int).getD n (.int d) = .int (L.getD n d) := by simp [List.getD_eq_getElem?_getD, List.getElem?_map]
theorem own_getD_long (L : List Int64) (n : Nat) (d : Int64) : (L.map Value.long).getD n (.long d) = .long (L.getD n d) := by simp [List.getD_eq_getElem?_getD, List.getElem?_map]
theorem own_lt_nat {j z : Int32} (h : ¬ j < 0) (q : j < z) : j.toNatClampNeg < z.toNatClampNeg := by
  rw [Int32.lt_iff_toInt_lt] at h q; have : (0 : Int32).toInt = 0 := rfl
  simp only [Int32.toNatClampNeg]; omega
theorem own_eq_int {t : Term} {v : Int32} {args : Array Value} {s : State} (h : (Cond.eq t (.int v)).value args s none s [] = some true) : t.eval args s none [] s = some (.int v) := by
  simp only [Cond.value, Term.eval] at h
  cases ht : t.eval args s none [] s with
  | none => simp [ht] at h
  | some x => cases x <;> simp [ht] at h ⊢; exact h
theorem own_eq_long {t : Term} {v : Int64} {args : Array Value} {s : State} (h : (Cond.eq t (.long v)).value args s none s [] = some true) : t.eval args s none [] s = some (.long v) := by
  simp only [Cond.value, Term.eval] at h
  cases ht : t.eval args s none [] s with
  | none => simp [ht] at h
  | some x => cases x <;> simp [ht] at h ⊢; exact h
theorem own_selpriv {s : State} {args : Array Value} {y : MethodName} {n : Nat} (wi : (Cond.instantiable y.cls n).before args s = true) (hpriv : s.PrivateAt y) (hinst : (Cond.instanceMethod y).before args s = true) (hy : y.cls ≠ "java/lang/invoke/MethodHandle" ∧ y.cls ≠ "java/lang/invoke/VarHandle") : (Cond.selects y.cls y y).before args s = true := by
  obtain ⟨c, k, h1, h2, -, h4, -⟩ := Cond.instantiable_spec wi
  exact Jvm.Stand.selects_self_of_private h1 h2 (Bool.or_eq_false_iff.mp h4).1 hpriv hinst hy
theorem own_narb (P : Prop) [Decidable P] : nar .boolean (if P then (1 : Int32) else (0 : Int32)) = if P then (1 : Int32) else (0 : Int32) := by by_cases h : P <;> simp only [h, if_true, if_false] <;> rfl
end New
end Jvm.RoadKit
namespace Jvm.Pilot.@@N@@
open Jvm Jvm.ClassFile Sem Op Lib Jvm.Free Jvm.Stand Jvm.LawKit Jvm.RoadKit Bundle Jvm.Pilot.@@N@@.Jvm.D
theorem d1_0 : decode prog_24_method_4_code 0 = .ok (.aload_n 0, 1) := by decide +kernel
theorem d1_1 : decode prog_24_method_4_code 1 = .ok (.iload_n 1, 1) := by decide +kernel
theorem d1_2 : decode prog_24_method_4_code 2 = .ok (.iload_n 2, 1) := by decide +kernel
theorem d1_3 : decode prog_24_method_4_code 3 = .ok (.bipush 6, 2) := by decide +kernel
theorem d1_5 : decode prog_24_method_4_code 5 = .ok (.iushr, 1) := by decide +kernel
theorem d1_6 : decode prog_24_method_4_code 6 = .ok (.iadd, 1) := by decide +kernel
theorem d1_7 : decode prog_24_method_4_code 7 = .ok (.dup2, 1) := by decide +kernel
theorem d1_8 : decode prog_24_method_4_code 8 = .ok (.laload, 1) := by decide +kernel
theorem d1_9 : decode prog_24_method_4_code 9 = .ok (.lconst 1, 1) := by decide +kernel
theorem d1_10 : decode prog_24_method_4_code 10 = .ok (.iload_n 2, 1) := by decide +kernel
theorem d1_11 : decode prog_24_method_4_code 11 = .ok (.lshl, 1) := by decide +kernel
theorem d1_12 : decode prog_24_method_4_code 12 = .ok (.ldc2_w 9, 3) := by decide +kernel
theorem d1_15 : decode prog_24_method_4_code 15 = .ok (.lxor, 1) := by decide +kernel
theorem d1_16 : decode prog_24_method_4_code 16 = .ok (.land, 1) := by decide +kernel
theorem d1_17 : decode prog_24_method_4_code 17 = .ok (.lastore, 1) := by decide +kernel
theorem d1_18 : decode prog_24_method_4_code 18 = .ok (.return_, 1) := by decide +kernel
theorem pn_17 : plainName "com/example/slabrun/slabrun/core/Bitmaps" = true := by first | (simp [plainName, overriddenIn]; done) | decide +kernel
def v1_8_at (p1 : Int32) (p2 : Int32) (L_ra0 : List Int64) : Int64 := (L_ra0.getD ((p1 + ((p2.toUInt32 >>> ((6 : Int32) &&& 31).toUInt32).toInt32))).toNatClampNeg (0 : Int64))
def v1_17_L (p1 : Int32) (p2 : Int32) (L_ra0 : List Int64) : List Int64 := (L_ra0.set ((p1 + ((p2.toUInt32 >>> ((6 : Int32) &&& 31).toUInt32).toInt32))).toNatClampNeg ((v1_8_at p1 p2 L_ra0) &&& (((1 : Int64) <<< (p2 &&& 0x3f).toInt64) ^^^ (-1 : Int64))))
theorem ef_rm1 (m : MethodId) (ra0 : Addr) (p1 : Int32) (p2 : Int32) : entryFrame m #[(.ref ra0), (.int p1), (.int p2)] 3 = mkF m 0 #[.val (.ref ra0), .val (.int p1), .val (.int p2)] [] := by first | (simp [entryFrame, mkF, argsToLocals, Value.category]; done) | rfl
def Q1 (Z : State) (ra0 : Addr) (p1 : Int32) (p2 : Int32) (k_ra0 : ClassId) (n_ra0 : Int32) (L_ra0 : List Int64) (h0 : Heap) (n0 : Nat) (v : Option Value) (h : Heap) (L : List Loc) : Prop := v = none ∧ Fr n0 L ∧ Keep h0 h [ra0] ∧ Arv Z h ra0 k_ra0 .long n_ra0 (List.map Value.long (v1_17_L p1 p2 L_ra0)) (.long (0 : Int64)) ∧ (v1_17_L p1 p2 L_ra0).length = n_ra0.toNatClampNeg
set_option maxRecDepth 65536 in
set_option maxHeartbeats 40000000 in
theorem rm1 (l : Launch) (Z : State) (a0 : Array Value) (hw : ∀ d ∈ tables_1, d.before a0 Z = true) (ws : List Jvm.Cond) (ra0 : Addr) (p1 : Int32) (p2 : Int32) (k_ra0 : ClassId) (n_ra0 : Int32) (L_ra0 : List Int64) (h0 : Heap) (n0 : Nat) (Z0 : n0 ≤ h0.size) (hI : ¬ (p1 + ((p2.toUInt32 >>> ((6 : Int32) &&& 31).toUInt32).toInt32)) < 0 ∧ (p1 + ((p2.toUInt32 >>> ((6 : Int32) &&& 31).toUInt32).toInt32)) < n_ra0) (V_ra0 : Arv Z h0 ra0 k_ra0 .long n_ra0 (List.map Value.long L_ra0) (.long (0 : Int64))) (VL_ra0 : L_ra0.length = n_ra0.toNatClampNeg) (g_ra0 : n0 ≤ ra0) :
    MetFree l (⟨"com/example/slabrun/slabrun/core/Bitmaps", "clear", "([JII)V"⟩ : MethodName) (head1 (Jvm.Cond.code (⟨"com/example/slabrun/slabrun/core/Bitmaps", "clear", "([JII)V"⟩ : MethodName) prog_24_method_4_code 3 none :: ws) ({ frames := 0, cells := 0, slots := 0, locals := 0 } : Room)) (fun a U => a = #[(.ref ra0), (.int p1), (.int p2)] ∧ Z.Warmed39 U.vm ∧ U.heap = h0) (fun _ _ _ _ _ => True) (fun _ U o U' => ∃ v L, o = .returned v ∧ Q1 Z ra0 p1 p2 k_ra0 n_ra0 L_ra0 h0 n0 v U'.heap L ∧ FrameEnd U o U' L ({ frames := 0, cells := 0, slots := 0, locals := 0 } : Room).cells ({ frames := 0, cells := 0, slots := 0, locals := 0 } : Room).slots) := by
  refine MetFree.of_bodySF (plainFor_of_name pn_17) hisR ?_
  intro p e s m args below meth c s₁ Bd hml0 hP hK
  obtain ⟨rfl, hZ, hh⟩ := hP
  have hx := Bd.exec
  have hby := Bd.bytes
  have hml : c.maxLocals = 3 := hml0
  have hown : s.vm.findClass "com/example/slabrun/slabrun/core/Bitmaps" = some m.cls := findClass_of_methodNamed Bd.named
  have hnm := (name_of_methodNamed Bd.named Bd.method).1
  have X0 : Stand p l e ({ frames := 0, cells := 0, slots := 0, locals := 0 } : Room) s m #[(.ref ra0), (.int p1), (.int p2)] below meth c s₁ [] 0 0 := Stand.of_body Bd
  have e0 : s₁.heap = h0 := by rw [← hh, Bd.state]; rfl
  have N0 := Fr.nil n0
  have KC0 := Keep.refl h0 [ra0]
  have pre0 : ∀ t, Steps p.tables e below (s₁.setTop (mkF m 0 #[.val (.ref ra0), .val (.int p1), .val (.int p2)] [])) t → Steps p.tables e below (s₁.setTop (entryFrame m #[(.ref ra0), (.int p1), (.int p2)] 3)) t := fun t k => castTop (ef_rm1 m ra0 p1 p2) k
  have k1 := fun (t : State) (kk : Steps p.tables e below (s₁.setTop (mkF m 8 #[.val (.ref ra0), .val (.int p1), .val (.int p2)] [(.int (p1 + ((p2.toUInt32 >>> ((6 : Int32) &&& 31).toUInt32).toInt32))), (.ref ra0), (.int (p1 + ((p2.toUInt32 >>> ((6 : Int32) &&& 31).toUInt32).toInt32))), (.ref ra0)])) t) => pre0 t (by
    show Steps p.tables e below (s₁.setTop (mkF m 0 #[.val (.ref ra0), .val (.int p1), .val (.int p2)] [])) _
    refine XS.aloadN X0.here hx rfl (hb hby d1_0) rfl rfl ?_
    show Steps p.tables e below (s₁.setTop (mkF m 1 #[.val (.ref ra0), .val (.int p1), .val (.int p2)] [(.ref ra0)])) _
    refine XS.iloadN X0.here hx rfl (hb hby d1_1) rfl ?_
    show Steps p.tables e below (s₁.setTop (mkF m 2 #[.val (.ref ra0), .val (.int p1), .val (.int p2)] [(.int p1), (.ref ra0)])) _
    refine XS.iloadN X0.here hx rfl (hb hby d1_2) rfl ?_
    show Steps p.tables e below (s₁.setTop (mkF m 3 #[.val (.ref ra0), .val (.int p1), .val (.int p2)] [(.int p2), (.int p1), (.ref ra0)])) _
    refine XS.bipush X0.here hx rfl (hb hby d1_3) ?_
    show Steps p.tables e below (s₁.setTop (mkF m 5 #[.val (.ref ra0), .val (.int p1), .val (.int p2)] [(.int (6 : Int32)), (.int p2), (.int p1), (.ref ra0)])) _
    refine XS.iushr X0.here hx rfl (hb hby d1_5) rfl ?_
    show Steps p.tables e below (s₁.setTop (mkF m 6 #[.val (.ref ra0), .val (.int p1), .val (.int p2)] [(.int ((p2.toUInt32 >>> ((6 : Int32) &&& 31).toUInt32).toInt32)), (.int p1), (.ref ra0)])) _
    refine XS.iadd X0.here hx rfl (hb hby d1_6) rfl ?_
    show Steps p.tables e below (s₁.setTop (mkF m 7 #[.val (.ref ra0), .val (.int p1), .val (.int p2)] [(.int (p1 + ((p2.toUInt32 >>> ((6 : Int32) &&& 31).toUInt32).toInt32))), (.ref ra0)])) _
    jvm_step X0.here [X0.here.top, hx, (hb hby d1_7), Value.category]
    exact kk)
  have hV2 := V_ra0
  obtain ⟨cl2, Ar2, q2, S2, Nn2, H2, G2⟩ := hV2
  have hb3 : ¬ (p1 + ((p2.toUInt32 >>> ((6 : Int32) &&& 31).toUInt32).toInt32)) < 0 ∧ (p1 + ((p2.toUInt32 >>> ((6 : Int32) &&& 31).toUInt32).toInt32)) < n_ra0 := hI
  have hin3 : ¬ ((p1 + ((p2.toUInt32 >>> ((6 : Int32) &&& 31).toUInt32).toInt32)) < 0 ∨ cl2.slots.size ≤ ((p1 + ((p2.toUInt32 >>> ((6 : Int32) &&& 31).toUInt32).toInt32))).toNatClampNeg) := inb_of S2 hb3
  have hat3 : cl2.slots[((p1 + ((p2.toUInt32 >>> ((6 : Int32) &&& 31).toUInt32).toInt32))).toNatClampNeg]? = some (.long (v1_8_at p1 p2 L_ra0)) := Has.at H2 hin3 (own_getD_long _ _ _)
  have st3 := X0.laload hx (j := (p1 + ((p2.toUInt32 >>> ((6 : Int32) &&& 31).toUInt32).toInt32))) (v := (.long (v1_8_at p1 p2 L_ra0))) (by rw [e0]; exact Ar2.1) (State.isArrayOf_alike hZ.alike Ar2.2.1) Ar2.2.2 hin3 hat3 (g := (mkF m 8 #[.val (.ref ra0), .val (.int p1), .val (.int p2)] [(.int (p1 + ((p2.toUInt32 >>> ((6 : Int32) &&& 31).toUInt32).toInt32))), (.ref ra0), (.int (p1 + ((p2.toUInt32 >>> ((6 : Int32) &&& 31).toUInt32).toInt32))), (.ref ra0)])) rfl rfl (hb hby d1_8)
  have k4 := fun (t : State) (kk : Steps p.tables e below (s₁.setTop (mkF m 9 #[.val (.ref ra0), .val (.int p1), .val (.int p2)] [(.long (v1_8_at p1 p2 L_ra0)), (.int (p1 + ((p2.toUInt32 >>> ((6 : Int32) &&& 31).toUInt32).toInt32))), (.ref ra0)])) t) => k1 t (st3 _ kk)
  have k5 := fun (t : State) (kk : Steps p.tables e below (s₁.setTop (mkF m 17 #[.val (.ref ra0), .val (.int p1), .val (.int p2)] [(.long ((v1_8_at p1 p2 L_ra0) &&& (((1 : Int64) <<< (p2 &&& 0x3f).toInt64) ^^^ (-1 : Int64)))), (.int (p1 + ((p2.toUInt32 >>> ((6 : Int32) &&& 31).toUInt32).toInt32))), (.ref ra0)])) t) => k4 t (by
    show Steps p.tables e below (s₁.setTop (mkF m 9 #[.val (.ref ra0), .val (.int p1), .val (.int p2)] [(.long (v1_8_at p1 p2 L_ra0)), (.int (p1 + ((p2.toUInt32 >>> ((6 : Int32) &&& 31).toUInt32).toInt32))), (.ref ra0)])) _
    refine XS.lconst X0.here hx rfl (hb hby d1_9) ?_
    show Steps p.tables e below (s₁.setTop (mkF m 10 #[.val (.ref ra0), .val (.int p1), .val (.int p2)] [(.long (1 : Int64)), (.long (v1_8_at p1 p2 L_ra0)), (.int (p1 + ((p2.toUInt32 >>> ((6 : Int32) &&& 31).toUInt32).toInt32))), (.ref ra0)])) _
    refine XS.iloadN X0.here hx rfl (hb hby d1_10) rfl ?_
    show Steps p.tables e below (s₁.setTop (mkF m 11 #[.val (.ref ra0), .val (.int p1), .val (.int p2)] [(.int p2), (.long (1 : Int64)), (.long (v1_8_at p1 p2 L_ra0)), (.int (p1 + ((p2.toUInt32 >>> ((6 : Int32) &&& 31).toUInt32).toInt32))), (.ref ra0)])) _
    refine XS.lshl X0.here hx rfl (hb hby d1_11) rfl ?_
    show Steps p.tables e below (s₁.setTop (mkF m 12 #[.val (.ref ra0), .val (.int p1), .val (.int p2)] [(.long ((1 : Int64) <<< (p2 &&& 0x3f).toInt64)), (.long (v1_8_at p1 p2 L_ra0)), (.int (p1 + ((p2.toUInt32 >>> ((6 : Int32) &&& 31).toUInt32).toInt32))), (.ref ra0)])) _
    refine X0.ldc2Long hx hown (mvT hZ (hw _ (List.mem_of_getElem? (i := 6) rfl))) (g := (mkF m 12 #[.val (.ref ra0), .val (.int p1), .val (.int p2)] [(.long ((1 : Int64) <<< (p2 &&& 0x3f).toInt64)), (.long (v1_8_at p1 p2 L_ra0)), (.int (p1 + ((p2.toUInt32 >>> ((6 : Int32) &&& 31).toUInt32).toInt32))), (.ref ra0)])) rfl (hb hby d1_12) _ ?_
    show Steps p.tables e below (s₁.setTop (mkF m 15 #[.val (.ref ra0), .val (.int p1), .val (.int p2)] [(.long (-1 : Int64)), (.long ((1 : Int64) <<< (p2 &&& 0x3f).toInt64)), (.long (v1_8_at p1 p2 L_ra0)), (.int (p1 + ((p2.toUInt32 >>> ((6 : Int32) &&& 31).toUInt32).toInt32))), (.ref ra0)])) _
    refine XS.lxor X0.here hx rfl (hb hby d1_15) rfl ?_
    show Steps p.tables e below (s₁.setTop (mkF m 16 #[.val (.ref ra0), .val (.int p1), .val (.int p2)] [(.long (((1 : Int64) <<< (p2 &&& 0x3f).toInt64) ^^^ (-1 : Int64))), (.long (v1_8_at p1 p2 L_ra0)), (.int (p1 + ((p2.toUInt32 >>> ((6 : Int32) &&& 31).toUInt32).toInt32))), (.ref ra0)])) _
    refine XS.land X0.here hx rfl (hb hby d1_16) rfl ?_
    exact kk)
  have hV6 := V_ra0
  obtain ⟨cl6, Ar6, q6, S6, Nn6, H6, G6⟩ := hV6
  have hb7 : ¬ (p1 + ((p2.toUInt32 >>> ((6 : Int32) &&& 31).toUInt32).toInt32)) < 0 ∧ (p1 + ((p2.toUInt32 >>> ((6 : Int32) &&& 31).toUInt32).toInt32)) < n_ra0 := hI
  have hin7 : ¬ ((p1 + ((p2.toUInt32 >>> ((6 : Int32) &&& 31).toUInt32).toInt32)) < 0 ∨ cl6.slots.size ≤ ((p1 + ((p2.toUInt32 >>> ((6 : Int32) &&& 31).toUInt32).toInt32))).toNatClampNeg) := inb_of S6 hb7
  obtain ⟨T7, h7, X7, e7, W7, st7⟩ := stJ X0 hx hZ e0 Ar6 (j := (p1 + ((p2.toUInt32 >>> ((6 : Int32) &&& 31).toUInt32).toInt32))) hin7 (g := (mkF m 17 #[.val (.ref ra0), .val (.int p1), .val (.int p2)] [(.long ((v1_8_at p1 p2 L_ra0) &&& (((1 : Int64) <<< (p2 &&& 0x3f).toInt64) ^^^ (-1 : Int64)))), (.int (p1 + ((p2.toUInt32 >>> ((6 : Int32) &&& 31).toUInt32).toInt32))), (.ref ra0)])) rfl rfl (hb hby d1_17)
  have hl7 : ((p1 + ((p2.toUInt32 >>> ((6 : Int32) &&& 31).toUInt32).toInt32))).toNatClampNeg < (List.map Value.long L_ra0).length := by rw [List.length_map, VL_ra0]; exact own_lt_nat hb7.1 hb7.2
  have V7r : Arv Z h7 ra0 k_ra0 .long n_ra0 (List.map Value.long (L_ra0.set ((p1 + ((p2.toUInt32 >>> ((6 : Int32) &&& 31).toUInt32).toInt32))).toNatClampNeg ((v1_8_at p1 p2 L_ra0) &&& (((1 : Int64) <<< (p2 &&& 0x3f).toInt64) ^^^ (-1 : Int64))))) (.long (0 : Int64)) := by rw [List.map_set]; exact Arv.set Ar6 q6 S6 Nn6 H6 G6 rfl W7 _ rfl hl7
  have V7 : Arv Z h7 ra0 k_ra0 .long n_ra0 (List.map Value.long (v1_17_L p1 p2 L_ra0)) (.long (0 : Int64)) := V7r
  have VL7 : (v1_17_L p1 p2 L_ra0).length = (n_ra0).toNatClampNeg := (List.length_set).trans VL_ra0
  have K7 : Keep h0 h7 [ra0] := KC0.wr W7 (Or.inl (List.mem_of_getElem? (i := 0) rfl))
  have N7 := Fr.snoc X7 N0 g_ra0
  have k8 := fun (t : State) (kk : Steps p.tables e below (T7.setTop (mkF m 18 #[.val (.ref ra0), .val (.int p1), .val (.int p2)] [])) t) => k5 t (st7 _ kk)
  obtain ⟨fs, hr, hrun, hended, hW, hsame⟩ := X7.leave (v := none) (fun _ => rfl)
  refine ⟨_, _, k8 _ ?_, hrun, hended, _, _, rfl, ?_, ⟨_, rfl⟩, hW, hsame.mono (by decide) (by decide)⟩
  · show Steps p.tables e below (T7.setTop (mkF m 18 #[.val (.ref ra0), .val (.int p1), .val (.int p2)] [])) _
    exact X7.returnOut hx Bd.returns (hb hby d1_18) hr
  · show Q1 Z ra0 p1 p2 k_ra0 n_ra0 L_ra0 h0 n0 _ T7.heap _
    rw [e7]
    exact ⟨rfl, N7, K7, V7, VL7⟩
theorem d2_0 : decode method_3_code 0 = .ok (.iload 4, 2) := by decide +kernel
theorem d2_2 : decode method_3_code 2 = .ok (.iload 5, 2) := by decide +kernel
theorem d2_4 : decode method_3_code 4 = .ok (.if_icmp .eq 15, 3) := by decide +kernel
theorem d2_7 : decode method_3_code 7 = .ok (.lload_n 0, 1) := by decide +kernel
theorem d2_8 : decode method_3_code 8 = .ok (.lload_n 2, 1) := by decide +kernel
theorem d2_9 : decode method_3_code 9 = .ok (.lcmp, 1) := by decide +kernel
theorem d2_10 : decode method_3_code 10 = .ok (.ifCond .ne 7, 3) := by decide +kernel
theorem d2_13 : decode method_3_code 13 = .ok (.iconst 1, 1) := by decide +kernel
theorem d2_14 : decode method_3_code 14 = .ok (.goto 4, 3) := by decide +kernel
theorem d2_17 : decode method_3_code 17 = .ok (.iconst 0, 1) := by decide +kernel
theorem d2_18 : decode method_3_code 18 = .ok (.ireturn, 1) := by decide +kernel
theorem d2_19 : decode method_3_code 19 = .ok (.lload_n 0, 1) := by decide +kernel
theorem d2_20 : decode method_3_code 20 = .ok (.lload 6, 2) := by decide +kernel
theorem d2_22 : decode method_3_code 22 = .ok (.land, 1) := by decide +kernel
theorem d2_23 : decode method_3_code 23 = .ok (.lconst 0, 1) := by decide +kernel
theorem d2_24 : decode method_3_code 24 = .ok (.lcmp, 1) := by decide +kernel
theorem d2_25 : decode method_3_code 25 = .ok (.ifCond .ne 19, 3) := by decide +kernel
theorem d2_28 : decode method_3_code 28 = .ok (.lload_n 0, 1) := by decide +kernel
theorem d2_29 : decode method_3_code 29 = .ok (.lload 6, 2) := by decide +kernel
theorem d2_31 : decode method_3_code 31 = .ok (.lor, 1) := by decide +kernel
theorem d2_32 : decode method_3_code 32 = .ok (.lload_n 2, 1) := by decide +kernel
theorem d2_33 : decode method_3_code 33 = .ok (.lload 6, 2) := by decide +kernel
theorem d2_35 : decode method_3_code 35 = .ok (.lor, 1) := by decide +kernel
theorem d2_36 : decode method_3_code 36 = .ok (.lcmp, 1) := by decide +kernel
theorem d2_37 : decode method_3_code 37 = .ok (.ifCond .ne 7, 3) := by decide +kernel
theorem d2_40 : decode method_3_code 40 = .ok (.iconst 1, 1) := by decide +kernel
theorem d2_41 : decode method_3_code 41 = .ok (.goto 4, 3) := by decide +kernel
theorem d2_44 : decode method_3_code 44 = .ok (.iconst 0, 1) := by decide +kernel
theorem d2_45 : decode method_3_code 45 = .ok (.ireturn, 1) := by decide +kernel
theorem pn_50 : plainName "com/example/slabrun/slabrun/core/BitmapsClearPinLaw" = true := by first | (simp [plainName, overriddenIn]; done) | decide +kernel
def v2_37_s0 (q0 : Int64) (q1 : Int64) (q4 : Int64) : Int32 := if (q0 ||| q4) = (q1 ||| q4) then (1 : Int32) else (0 : Int32)
def v2_25_s0 (q0 : Int64) (q1 : Int64) (q4 : Int64) : Int32 := if (q0 &&& q4) = (0 : Int64) then (v2_37_s0 q0 q1 q4) else (0 : Int32)
def v2_10_s0 (q0 : Int64) (q1 : Int64) : Int32 := if q0 = q1 then (1 : Int32) else (0 : Int32)
def v2_ret (q0 : Int64) (q1 : Int64) (p2 : Int32) (p3 : Int32) (q4 : Int64) : Int32 := (if p2 = p3 then (nar .boolean (v2_25_s0 q0 q1 q4)) else (nar .boolean (v2_10_s0 q0 q1)))
theorem ef_rm2 (m : MethodId) (q0 : Int64) (q1 : Int64) (p2 : Int32) (p3 : Int32) (q4 : Int64) : entryFrame m #[(.long q0), (.long q1), (.int p2), (.int p3), (.long q4)] 8 = mkF m 0 #[.val (.long q0), .second, .val (.long q1), .second, .val (.int p2), .val (.int p3), .val (.long q4), .second] [] := by first | (simp [entryFrame, mkF, argsToLocals, Value.category]; done) | rfl
def Q2 (Z : State) (q0 : Int64) (q1 : Int64) (p2 : Int32) (p3 : Int32) (q4 : Int64) (h0 : Heap) (n0 : Nat) (v : Option Value) (h : Heap) (L : List Loc) : Prop := v = some (.int (v2_ret q0 q1 p2 p3 q4)) ∧ Fr n0 L ∧ h = h0
set_option maxRecDepth 65536 in
set_option maxHeartbeats 40000000 in
theorem rm2 (l : Launch) (Z : State) (a0 : Array Value) (hw : ∀ d ∈ tables_1, d.before a0 Z = true) (ws : List Jvm.Cond) (q0 : Int64) (q1 : Int64) (p2 : Int32) (p3 : Int32) (q4 : Int64) (h0 : Heap) (n0 : Nat) (Z0 : n0 ≤ h0.size) :
    MetFree l (⟨"com/example/slabrun/slabrun/core/BitmapsClearPinLaw", "same", "(JJIIJ)Z"⟩ : MethodName) (head1 (Jvm.Cond.code (⟨"com/example/slabrun/slabrun/core/BitmapsClearPinLaw", "same", "(JJIIJ)Z"⟩ : MethodName) method_3_code 8 (some .boolean) :: ws) ({ frames := 0, cells := 0, slots := 0, locals := 0 } : Room)) (fun a U => a = #[(.long q0), (.long q1), (.int p2), (.int p3), (.long q4)] ∧ Z.Warmed39 U.vm ∧ U.heap = h0) (fun _ _ _ _ _ => True) (fun _ U o U' => ∃ v L, o = .returned v ∧ Q2 Z q0 q1 p2 p3 q4 h0 n0 v U'.heap L ∧ FrameEnd U o U' L ({ frames := 0, cells := 0, slots := 0, locals := 0 } : Room).cells ({ frames := 0, cells := 0, slots := 0, locals := 0 } : Room).slots) := by
  refine MetFree.of_bodySF (plainFor_of_name pn_50) hisR ?_
  intro p e s m args below meth c s₁ Bd hml0 hP hK
  obtain ⟨rfl, hZ, hh⟩ := hP
  have hx := Bd.exec
  have hby := Bd.bytes
  have hml : c.maxLocals = 8 := hml0
  have hown : s.vm.findClass "com/example/slabrun/slabrun/core/BitmapsClearPinLaw" = some m.cls := findClass_of_methodNamed Bd.named
  have hnm := (name_of_methodNamed Bd.named Bd.method).1
  have X0 : Stand p l e ({ frames := 0, cells := 0, slots := 0, locals := 0 } : Room) s m #[(.long q0), (.long q1), (.int p2), (.int p3), (.long q4)] below meth c s₁ [] 0 0 := Stand.of_body Bd
  have e0 : s₁.heap = h0 := by rw [← hh, Bd.state]; rfl
  have N0 := Fr.nil n0
  have KC0 := Keep.refl h0 ([] : List Addr)
  have pre0 : ∀ t, Steps p.tables e below (s₁.setTop (mkF m 0 #[.val (.long q0), .second, .val (.long q1), .second, .val (.int p2), .val (.int p3), .val (.long q4), .second] [])) t → Steps p.tables e below (s₁.setTop (entryFrame m #[(.long q0), (.long q1), (.int p2), (.int p3), (.long q4)] 8)) t := fun t k => castTop (ef_rm2 m q0 q1 p2 p3 q4) k
  have k9 := fun (t : State) (kk : Steps p.tables e below (s₁.setTop (mkF m 4 #[.val (.long q0), .second, .val (.long q1), .second, .val (.int p2), .val (.int p3), .val (.long q4), .second] [(.int p3), (.int p2)])) t) => pre0 t (by
    show Steps p.tables e below (s₁.setTop (mkF m 0 #[.val (.long q0), .second, .val (.long q1), .second, .val (.int p2), .val (.int p3), .val (.long q4), .second] [])) _
    refine XS.iload X0.here hx rfl (hb hby d2_0) rfl ?_
    show Steps p.tables e below (s₁.setTop (mkF m 2 #[.val (.long q0), .second, .val (.long q1), .second, .val (.int p2), .val (.int p3), .val (.long q4), .second] [(.int p2)])) _
    refine XS.iload X0.here hx rfl (hb hby d2_2) rfl ?_
    exact kk)
  by_cases hc4_10 : p2 = p3
  · have k15 := fun (t : State) (kk : Steps p.tables e below (s₁.setTop (mkF m 45 #[.val (.long q0), .second, .val (.long q1), .second, .val (.int p2), .val (.int p3), .val (.long q4), .second] [(.int (v2_25_s0 q0 q1 q4))])) t) => k9 t (by
      show Steps p.tables e below (s₁.setTop (mkF m 4 #[.val (.long q0), .second, .val (.long q1), .second, .val (.int p2), .val (.int p3), .val (.long q4), .second] [(.int p3), (.int p2)])) _
      refine XS.icmpYes X0.here hx rfl (pc0 := 4) (pc' := 19) rfl (hb hby d2_4) rfl (teq hc4_10).1 (by decide) (by decide) ?_
      show Steps p.tables e below (s₁.setTop (mkF m 19 #[.val (.long q0), .second, .val (.long q1), .second, .val (.int p2), .val (.int p3), .val (.long q4), .second] [])) _
      refine XS.lloadN X0.here hx rfl (hb hby d2_19) rfl ?_
      show Steps p.tables e below (s₁.setTop (mkF m 20 #[.val (.long q0), .second, .val (.long q1), .second, .val (.int p2), .val (.int p3), .val (.long q4), .second] [(.long q0)])) _
      refine XS.lload X0.here hx rfl (hb hby d2_20) rfl ?_
      show Steps p.tables e below (s₁.setTop (mkF m 22 #[.val (.long q0), .second, .val (.long q1), .second, .val (.int p2), .val (.int p3), .val (.long q4), .second] [(.long q4), (.long q0)])) _
      refine XS.land X0.here hx rfl (hb hby d2_22) rfl ?_
      show Steps p.tables e below (s₁.setTop (mkF m 23 #[.val (.long q0), .second, .val (.long q1), .second, .val (.int p2), .val (.int p3), .val (.long q4), .second] [(.long (q0 &&& q4))])) _
      refine XS.lconst X0.here hx rfl (hb hby d2_23) ?_
      show Steps p.tables e below (s₁.setTop (mkF m 24 #[.val (.long q0), .second, .val (.long q1), .second, .val (.int p2), .val (.int p3), .val (.long q4), .second] [(.long (0 : Int64)), (.long (q0 &&& q4))])) _
      refine XS.lcmp X0.here hx rfl (hb hby d2_24) rfl ?_
      suffices k14 : Steps p.tables e below (s₁.setTop (mkF m 45 #[.val (.long q0), .second, .val (.long q1), .second, .val (.int p2), .val (.int p3), .val (.long q4), .second] [(.int (v2_25_s0 q0 q1 q4))])) t by
        by_cases hc25_11 : (q0 &&& q4) = (0 : Int64)
        · rw [(show (v2_25_s0 q0 q1 q4) = (v2_37_s0 q0 q1 q4) from if_pos hc25_11)] at k14
          show Steps p.tables e below (s₁.setTop (mkF m 25 #[.val (.long q0), .second, .val (.long q1), .second, .val (.int p2), .val (.int p3), .val (.long q4), .second] [(.int (lcmpW (q0 &&& q4) (0 : Int64)))])) _
          refine XS.ifNo X0.here hx rfl (hb hby d2_25) rfl ((if0 _ _).trans (teq ((lw_eq _ _).mpr hc25_11)).2) ?_
          show Steps p.tables e below (s₁.setTop (mkF m 28 #[.val (.long q0), .second, .val (.long q1), .second, .val (.int p2), .val (.int p3), .val (.long q4), .second] [])) _
          refine XS.lloadN X0.here hx rfl (hb hby d2_28) rfl ?_
          show Steps p.tables e below (s₁.setTop (mkF m 29 #[.val (.long q0), .second, .val (.long q1), .second, .val (.int p2), .val (.int p3), .val (.long q4), .second] [(.long q0)])) _
          refine XS.lload X0.here hx rfl (hb hby d2_29) rfl ?_
          show Steps p.tables e below (s₁.setTop (mkF m 31 #[.val (.long q0), .second, .val (.long q1), .second, .val (.int p2), .val (.int p3), .val (.long q4), .second] [(.long q4), (.long q0)])) _
          refine XS.lor X0.here hx rfl (hb hby d2_31) rfl ?_
          show Steps p.tables e below (s₁.setTop (mkF m 32 #[.val (.long q0), .second, .val (.long q1), .second, .val (.int p2), .val (.int p3), .val (.long q4), .second] [(.long (q0 ||| q4))])) _
          refine XS.lloadN X0.here hx rfl (hb hby d2_32) rfl ?_
          show Steps p.tables e below (s₁.setTop (mkF m 33 #[.val (.long q0), .second, .val (.long q1), .second, .val (.int p2), .val (.int p3), .val (.long q4), .second] [(.long q1), (.long (q0 ||| q4))])) _
          refine XS.lload X0.here hx rfl (hb hby d2_33) rfl ?_
          show Steps p.tables e below (s₁.setTop (mkF m 35 #[.val (.long q0), .second, .val (.long q1), .second, .val (.int p2), .val (.int p3), .val (.long q4), .second] [(.long q4), (.long q1), (.long (q0 ||| q4))])) _
          refine XS.lor X0.here hx rfl (hb hby d2_35) rfl ?_
          show Steps p.tables e below (s₁.setTop (mkF m 36 #[.val (.long q0), .second, .val (.long q1), .second, .val (.int p2), .val (.int p3), .val (.long q4), .second] [(.long (q1 ||| q4)), (.long (q0 ||| q4))])) _
          refine XS.lcmp X0.here hx rfl (hb hby d2_36) rfl ?_
          suffices k13 : Steps p.tables e below (s₁.setTop (mkF m 45 #[.val (.long q0), .second, .val (.long q1), .second, .val (.int p2), .val (.int p3), .val (.long q4), .second] [(.int (v2_37_s0 q0 q1 q4))])) t by
            by_cases hc37_12 : (q0 ||| q4) = (q1 ||| q4)
            · rw [(show (v2_37_s0 q0 q1 q4) = (1 : Int32) from if_pos hc37_12)] at k13
              show Steps p.tables e below (s₁.setTop (mkF m 37 #[.val (.long q0), .second, .val (.long q1), .second, .val (.int p2), .val (.int p3), .val (.long q4), .second] [(.int (lcmpW (q0 ||| q4) (q1 ||| q4)))])) _
              refine XS.ifNo X0.here hx rfl (hb hby d2_37) rfl ((if0 _ _).trans (teq ((lw_eq _ _).mpr hc37_12)).2) ?_
              show Steps p.tables e below (s₁.setTop (mkF m 40 #[.val (.long q0), .second, .val (.long q1), .second, .val (.int p2), .val (.int p3), .val (.long q4), .second] [])) _
              refine XS.iconst X0.here hx rfl (hb hby d2_40) ?_
              show Steps p.tables e below (s₁.setTop (mkF m 41 #[.val (.long q0), .second, .val (.long q1), .second, .val (.int p2), .val (.int p3), .val (.long q4), .second] [(.int (1 : Int32))])) _
              refine XS.goto X0.here hx rfl (pc0 := 41) (pc' := 45) rfl (hb hby d2_41) (by decide) (by decide) ?_
              exact k13
            · rw [(show (v2_37_s0 q0 q1 q4) = (0 : Int32) from if_neg hc37_12)] at k13
              show Steps p.tables e below (s₁.setTop (mkF m 37 #[.val (.long q0), .second, .val (.long q1), .second, .val (.int p2), .val (.int p3), .val (.long q4), .second] [(.int (lcmpW (q0 ||| q4) (q1 ||| q4)))])) _
              refine XS.ifYes X0.here hx rfl (pc0 := 37) (pc' := 44) rfl (hb hby d2_37) rfl ((if0 _ _).trans (feq (fun q => hc37_12 ((lw_eq _ _).mp q))).2) (by decide) (by decide) ?_
              show Steps p.tables e below (s₁.setTop (mkF m 44 #[.val (.long q0), .second, .val (.long q1), .second, .val (.int p2), .val (.int p3), .val (.long q4), .second] [])) _
              refine XS.iconst X0.here hx rfl (hb hby d2_44) ?_
              exact k13
          exact k14
        · rw [(show (v2_25_s0 q0 q1 q4) = (0 : Int32) from if_neg hc25_11)] at k14
          show Steps p.tables e below (s₁.setTop (mkF m 25 #[.val (.long q0), .second, .val (.long q1), .second, .val (.int p2), .val (.int p3), .val (.long q4), .second] [(.int (lcmpW (q0 &&& q4) (0 : Int64)))])) _
          refine XS.ifYes X0.here hx rfl (pc0 := 25) (pc' := 44) rfl (hb hby d2_25) rfl ((if0 _ _).trans (feq (fun q => hc25_11 ((lw_eq _ _).mp q))).2) (by decide) (by decide) ?_
          show Steps p.tables e below (s₁.setTop (mkF m 44 #[.val (.long q0), .second, .val (.long q1), .second, .val (.int p2), .val (.int p3), .val (.long q4), .second] [])) _
          refine XS.iconst X0.here hx rfl (hb hby d2_44) ?_
          exact k14
      exact kk)
    obtain ⟨fs, hr, hrun, hended, hW, hsame⟩ := X0.leave (v := some (.int (nar .boolean (v2_25_s0 q0 q1 q4)))) (fun h => by rw [Bd.returns] at h; cases h)
    have hv : (v2_ret q0 q1 p2 p3 q4) = (nar .boolean (v2_25_s0 q0 q1 q4)) := (if_pos hc4_10)
    refine ⟨_, _, k15 _ ?_, hrun, hended, _, _, rfl, ?_, ⟨_, rfl⟩, hW, hsame.mono (by decide) (by decide)⟩
    · show Steps p.tables e below (s₁.setTop (mkF m 45 #[.val (.long q0), .second, .val (.long q1), .second, .val (.int p2), .val (.int p3), .val (.long q4), .second] [(.int (v2_25_s0 q0 q1 q4))])) _
      exact retN X0 hx (t := .boolean) Bd.returns (by simp) (hb hby d2_45) hr
    · show Q2 Z q0 q1 p2 p3 q4 h0 n0 _ s₁.heap _
      rw [e0]
      exact ⟨(congrArg (fun z => some (Value.int z)) hv).symm, N0, rfl⟩
  · have k18 := fun (t : State) (kk : Steps p.tables e below (s₁.setTop (mkF m 18 #[.val (.long q0), .second, .val (.long q1), .second, .val (.int p2), .val (.int p3), .val (.long q4), .second] [(.int (v2_10_s0 q0 q1))])) t) => k9 t (by
      show Steps p.tables e below (s₁.setTop (mkF m 4 #[.val (.long q0), .second, .val (.long q1), .second, .val (.int p2), .val (.int p3), .val (.long q4), .second] [(.int p3), (.int p2)])) _
      refine XS.icmpNo X0.here hx rfl (hb hby d2_4) rfl (feq hc4_10).1 ?_
      show Steps p.tables e below (s₁.setTop (mkF m 7 #[.val (.long q0), .second, .val (.long q1), .second, .val (.int p2), .val (.int p3), .val (.long q4), .second] [])) _
      refine XS.lloadN X0.here hx rfl (hb hby d2_7) rfl ?_
      show Steps p.tables e below (s₁.setTop (mkF m 8 #[.val (.long q0), .second, .val (.long q1), .second, .val (.int p2), .val (.int p3), .val (.long q4), .second] [(.long q0)])) _
      refine XS.lloadN X0.here hx rfl (hb hby d2_8) rfl ?_
      show Steps p.tables e below (s₁.setTop (mkF m 9 #[.val (.long q0), .second, .val (.long q1), .second, .val (.int p2), .val (.int p3), .val (.long q4), .second] [(.long q1), (.long q0)])) _
      refine XS.lcmp X0.here hx rfl (hb hby d2_9) rfl ?_
      suffices k17 : Steps p.tables e below (s₁.setTop (mkF m 18 #[.val (.long q0), .second, .val (.long q1), .second, .val (.int p2), .val (.int p3), .val (.long q4), .second] [(.int (v2_10_s0 q0 q1))])) t by
        by_cases hc10_16 : q0 = q1
        · rw [(show (v2_10_s0 q0 q1) = (1 : Int32) from if_pos hc10_16)] at k17
          show Steps p.tables e below (s₁.setTop (mkF m 10 #[.val (.long q0), .second, .val (.long q1), .second, .val (.int p2), .val (.int p3), .val (.long q4), .second] [(.int (lcmpW q0 q1))])) _
          refine XS.ifNo X0.here hx rfl (hb hby d2_10) rfl ((if0 _ _).trans (teq ((lw_eq _ _).mpr hc10_16)).2) ?_
          show Steps p.tables e below (s₁.setTop (mkF m 13 #[.val (.long q0), .second, .val (.long q1), .second, .val (.int p2), .val (.int p3), .val (.long q4), .second] [])) _
          refine XS.iconst X0.here hx rfl (hb hby d2_13) ?_
          show Steps p.tables e below (s₁.setTop (mkF m 14 #[.val (.long q0), .second, .val (.long q1), .second, .val (.int p2), .val (.int p3), .val (.long q4), .second] [(.int (1 : Int32))])) _
          refine XS.goto X0.here hx rfl (pc0 := 14) (pc' := 18) rfl (hb hby d2_14) (by decide) (by decide) ?_
          exact k17
        · rw [(show (v2_10_s0 q0 q1) = (0 : Int32) from if_neg hc10_16)] at k17
          show Steps p.tables e below (s₁.setTop (mkF m 10 #[.val (.long q0), .second, .val (.long q1), .second, .val (.int p2), .val (.int p3), .val (.long q4), .second] [(.int (lcmpW q0 q1))])) _
          refine XS.ifYes X0.here hx rfl (pc0 := 10) (pc' := 17) rfl (hb hby d2_10) rfl ((if0 _ _).trans (feq (fun q => hc10_16 ((lw_eq _ _).mp q))).2) (by decide) (by decide) ?_
          show Steps p.tables e below (s₁.setTop (mkF m 17 #[.val (.long q0), .second, .val (.long q1), .second, .val (.int p2), .val (.int p3), .val (.long q4), .second] [])) _
          refine XS.iconst X0.here hx rfl (hb hby d2_17) ?_
          exact k17
      exact kk)
    obtain ⟨fs, hr, hrun, hended, hW, hsame⟩ := X0.leave (v := some (.int (nar .boolean (v2_10_s0 q0 q1)))) (fun h => by rw [Bd.returns] at h; cases h)
    have hv : (v2_ret q0 q1 p2 p3 q4) = (nar .boolean (v2_10_s0 q0 q1)) := (if_neg hc4_10)
    refine ⟨_, _, k18 _ ?_, hrun, hended, _, _, rfl, ?_, ⟨_, rfl⟩, hW, hsame.mono (by decide) (by decide)⟩
    · show Steps p.tables e below (s₁.setTop (mkF m 18 #[.val (.long q0), .second, .val (.long q1), .second, .val (.int p2), .val (.int p3), .val (.long q4), .second] [(.int (v2_10_s0 q0 q1))])) _
      exact retN X0 hx (t := .boolean) Bd.returns (by simp) (hb hby d2_18) hr
    · show Q2 Z q0 q1 p2 p3 q4 h0 n0 _ s₁.heap _
      rw [e0]
      exact ⟨(congrArg (fun z => some (Value.int z)) hv).symm, N0, rfl⟩
theorem pd_0 : parseMethodDescriptor "([JII)V" = some ⟨[(.array .long), .int, .int], none⟩ := by decide +kernel
theorem pd_1 : parseMethodDescriptor "(JJIIJ)Z" = some ⟨[.long, .long, .int, .int, .long], some .boolean⟩ := by decide +kernel
def v0_38_l12 (p5 : Int32) : Int32 := ((p5 &&& (2147483647 : Int32)) % (192 : Int32))
def v0_46_L0 (q0 : Int64) (q1 : Int64) (q2 : Int64) (q3 : Int64) (p4 : Int32) (p5 : Int32) : List Int64 := (v1_17_L (p4 &&& (1 : Int32)) (v0_38_l12 p5) ([q0, q1, q2, q3] : List Int64))
def v0_57_l13 (p4 : Int32) (p5 : Int32) : Int32 := ((p4 &&& (1 : Int32)) + ((v0_38_l12 p5) / (64 : Int32)))
def v0_66_l14 (p5 : Int32) : Int64 := ((1 : Int64) <<< (((v0_38_l12 p5) % (64 : Int32)) &&& 0x3f).toInt64)
def v0_71_at (q0 : Int64) (q1 : Int64) (q2 : Int64) (q3 : Int64) (p4 : Int32) (p5 : Int32) : Int64 := ((v0_46_L0 q0 q1 q2 q3 p4 p5).getD ((0 : Int32)).toNatClampNeg (0 : Int64))
def v0_87_at (q0 : Int64) (q1 : Int64) (q2 : Int64) (q3 : Int64) (p4 : Int32) (p5 : Int32) : Int64 := ((v0_46_L0 q0 q1 q2 q3 p4 p5).getD ((1 : Int32)).toNatClampNeg (0 : Int64))
def v0_103_at (q0 : Int64) (q1 : Int64) (q2 : Int64) (q3 : Int64) (p4 : Int32) (p5 : Int32) : Int64 := ((v0_46_L0 q0 q1 q2 q3 p4 p5).getD ((2 : Int32)).toNatClampNeg (0 : Int64))
def v0_120_at (q0 : Int64) (q1 : Int64) (q2 : Int64) (q3 : Int64) (p4 : Int32) (p5 : Int32) : Int64 := ((v0_46_L0 q0 q1 q2 q3 p4 p5).getD ((3 : Int32)).toNatClampNeg (0 : Int64))
def v0_131_s0 (q0 : Int64) (q1 : Int64) (q2 : Int64) (q3 : Int64) (p4 : Int32) (p5 : Int32) : Int32 := if (v2_ret (v0_120_at q0 q1 q2 q3 p4 p5) q3 (3 : Int32) (v0_57_l13 p4 p5) (v0_66_l14 p5)) = (0 : Int32) then (0 : Int32) else (1 : Int32)
def v0_ret (q0 : Int64) (q1 : Int64) (q2 : Int64) (q3 : Int64) (p4 : Int32) (p5 : Int32) : Int32 := (if (v2_ret (v0_71_at q0 q1 q2 q3 p4 p5) q0 (0 : Int32) (v0_57_l13 p4 p5) (v0_66_l14 p5)) = (0 : Int32) then (0 : Int32) else (if (v2_ret (v0_87_at q0 q1 q2 q3 p4 p5) q1 (1 : Int32) (v0_57_l13 p4 p5) (v0_66_l14 p5)) = (0 : Int32) then (0 : Int32) else (if (v2_ret (v0_103_at q0 q1 q2 q3 p4 p5) q2 (2 : Int32) (v0_57_l13 p4 p5) (v0_66_l14 p5)) = (0 : Int32) then (0 : Int32) else (nar .boolean (v0_131_s0 q0 q1 q2 q3 p4 p5)))))
theorem own_B (p5 : Int32) : 0 ≤ (v0_38_l12 p5).toInt ∧ (v0_38_l12 p5).toInt < 192 := by
  have h2 := (c_and p5 (2147483647 : Int32) (by decide)).1
  have h3 := (c_iremV (p5 &&& 2147483647) (192 : Int32)).1 h2 (by decide)
  exact ⟨h3.1, h3.2.1⟩
theorem own_S (p4 : Int32) : 0 ≤ (p4 &&& (1 : Int32)).toInt ∧ (p4 &&& (1 : Int32)).toInt ≤ 1 := c_and p4 (1 : Int32) (by decide)
theorem own_idx (p4 p5 : Int32) : ((p4 &&& (1 : Int32)) + (((v0_38_l12 p5).toUInt32 >>> ((6 : Int32) &&& 31).toUInt32).toInt32)).toInt = (p4 &&& (1 : Int32)).toInt + (v0_38_l12 p5).toInt / 64 := by
  have hB := own_B p5; have hS := own_S p4
  have e1 := c_iushr (v0_38_l12 p5) (6 : Int32) 6 (by decide) (by decide)
  have e2 := c_iadd (p4 &&& (1 : Int32)) (((v0_38_l12 p5).toUInt32 >>> ((6 : Int32) &&& 31).toUInt32).toInt32)
  have r2 := rng32 ((p4 &&& (1 : Int32)) + (((v0_38_l12 p5).toUInt32 >>> ((6 : Int32) &&& 31).toUInt32).toInt32))
  have : ((2 ^ 6 : Nat) : Int) = 64 := rfl
  omega
theorem own_hI (p4 p5 : Int32) : ¬ ((p4 &&& (1 : Int32)) + (((v0_38_l12 p5).toUInt32 >>> ((6 : Int32) &&& 31).toUInt32).toInt32)) < 0 ∧ ((p4 &&& (1 : Int32)) + (((v0_38_l12 p5).toUInt32 >>> ((6 : Int32) &&& 31).toUInt32).toInt32)) < (4 : Int32) := by
  have hB := own_B p5; have hS := own_S p4; have hI := own_idx p4 p5
  rw [Int32.lt_iff_toInt_lt, Int32.lt_iff_toInt_lt, hI]
  have z0 : (0 : Int32).toInt = 0 := rfl
  have z4 : (4 : Int32).toInt = 4 := rfl
  omega
theorem own_k (p4 p5 : Int32) : (v0_57_l13 p4 p5) = ((p4 &&& (1 : Int32)) + (((v0_38_l12 p5).toUInt32 >>> ((6 : Int32) &&& 31).toUInt32).toInt32)) := by
  have hB := own_B p5; have hS := own_S p4; have hI := own_idx p4 p5
  apply Int32.toInt_inj.mp
  rw [hI]
  unfold v0_57_l13
  have e1 := (c_idiv (v0_38_l12 p5) (64 : Int32) 64 rfl (by decide)).1 hB.1
  have e2 := c_iadd (p4 &&& (1 : Int32)) (v0_38_l12 p5 / 64)
  have r2 := rng32 ((p4 &&& (1 : Int32)) + (v0_38_l12 p5 / 64))
  omega
theorem own_sh (p5 : Int32) : (((v0_38_l12 p5) % (64 : Int32)) &&& 0x3f) = ((v0_38_l12 p5) &&& 0x3f) := by
  have hB := own_B p5
  apply Int32.toInt_inj.mp
  rw [c_mask _ 0x3f 6 (by decide) (by decide), c_mask _ 0x3f 6 (by decide) (by decide)]
  have e1 := (c_irem (v0_38_l12 p5) (64 : Int32) 64 rfl).1 hB.1
  rw [e1]
  have : ((2 ^ 6 : Nat) : Int) = 64 := rfl
  omega
theorem own_same1 (x m : Int64) (i k : Int32) (h : ¬ i = k) : v2_ret x x i k m = 1 := by
  unfold v2_ret v2_10_s0; rw [if_neg h, if_pos rfl]; rfl
theorem own_same2 (x m : Int64) (i k : Int32) (h : i = k) : v2_ret (x &&& (m ^^^ (-1 : Int64))) x i k m = 1 := by
  have e1 : (x &&& (m ^^^ (-1 : Int64))) &&& m = 0 := by
    apply Int64.toBitVec_inj.mp
    rw [Int64.toBitVec_and, Int64.toBitVec_and, Int64.toBitVec_xor, show (-1 : Int64).toBitVec = BitVec.allOnes 64 from rfl, show (0 : Int64).toBitVec = 0#64 from rfl]
    apply BitVec.eq_of_getLsbD_eq
    intro j hj
    rw [BitVec.getLsbD_and, BitVec.getLsbD_and, BitVec.getLsbD_xor, BitVec.getLsbD_allOnes, BitVec.getLsbD_zero]
    cases x.toBitVec.getLsbD j <;> cases m.toBitVec.getLsbD j <;> simp [hj]
  have e2 : (x &&& (m ^^^ (-1 : Int64))) ||| m = x ||| m := by
    apply Int64.toBitVec_inj.mp
    rw [Int64.toBitVec_or, Int64.toBitVec_and, Int64.toBitVec_xor, Int64.toBitVec_or, show (-1 : Int64).toBitVec = BitVec.allOnes 64 from rfl]
    apply BitVec.eq_of_getLsbD_eq
    intro j hj
    rw [BitVec.getLsbD_or, BitVec.getLsbD_and, BitVec.getLsbD_xor, BitVec.getLsbD_allOnes, BitVec.getLsbD_or]
    cases x.toBitVec.getLsbD j <;> cases m.toBitVec.getLsbD j <;> simp [hj]
  unfold v2_ret v2_25_s0 v2_37_s0
  rw [if_pos h, if_pos e1, if_pos e2]; rfl
theorem own_law (q0 q1 q2 q3 : Int64) (p4 p5 : Int32) : (v0_ret q0 q1 q2 q3 p4 p5) = 1 := by
  have hk := own_k p4 p5
  have hI := own_hI p4 p5
  unfold v0_ret v0_131_s0 v0_71_at v0_87_at v0_103_at v0_120_at v0_46_L0 v1_17_L v1_8_at v0_66_l14
  rw [hk, own_sh]
  generalize ((p4 &&& (1 : Int32)) + (((v0_38_l12 p5).toUInt32 >>> ((6 : Int32) &&& 31).toUInt32).toInt32)) = k at *
  generalize ((1 : Int64) <<< ((v0_38_l12 p5) &&& 0x3f).toInt64) = m
  have hc : k = 0 ∨ k = 1 ∨ k = 2 ∨ k = 3 := by
    rw [Int32.lt_iff_toInt_lt, Int32.lt_iff_toInt_lt] at hI
    rw [← Int32.toInt_inj, ← Int32.toInt_inj, ← Int32.toInt_inj, ← Int32.toInt_inj]
    have z0 : (0 : Int32).toInt = 0 := rfl
    have z1 : (1 : Int32).toInt = 1 := rfl
    have z2 : (2 : Int32).toInt = 2 := rfl
    have z3 : (3 : Int32).toInt = 3 := rfl
    have z4 : (4 : Int32).toInt = 4 := rfl
    omega
  rcases hc with rfl | rfl | rfl | rfl
  · have s0 : v2_ret (q0 &&& (m ^^^ (-1 : Int64))) q0 0 0 m = 1 := own_same2 _ _ _ _ rfl
    have s1 : v2_ret q1 q1 1 0 m = 1 := own_same1 _ _ _ _ (by decide)
    have s2 : v2_ret q2 q2 2 0 m = 1 := own_same1 _ _ _ _ (by decide)
    have s3 : v2_ret q3 q3 3 0 m = 1 := own_same1 _ _ _ _ (by decide)
    show (if v2_ret (q0 &&& (m ^^^ (-1 : Int64))) q0 0 0 m = 0 then _ else if v2_ret q1 q1 1 0 m = 0 then _ else if v2_ret q2 q2 2 0 m = 0 then _ else nar .boolean (if v2_ret q3 q3 3 0 m = 0 then _ else _)) = _
    rw [s0, s1, s2, s3]; rfl
  · have s0 : v2_ret q0 q0 0 1 m = 1 := own_same1 _ _ _ _ (by decide)
    have s1 : v2_ret (q1 &&& (m ^^^ (-1 : Int64))) q1 1 1 m = 1 := own_same2 _ _ _ _ rfl
    have s2 : v2_ret q2 q2 2 1 m = 1 := own_same1 _ _ _ _ (by decide)
    have s3 : v2_ret q3 q3 3 1 m = 1 := own_same1 _ _ _ _ (by decide)
    show (if v2_ret q0 q0 0 1 m = 0 then _ else if v2_ret (q1 &&& (m ^^^ (-1 : Int64))) q1 1 1 m = 0 then _ else if v2_ret q2 q2 2 1 m = 0 then _ else nar .boolean (if v2_ret q3 q3 3 1 m = 0 then _ else _)) = _
    rw [s0, s1, s2, s3]; rfl
  · have s0 : v2_ret q0 q0 0 2 m = 1 := own_same1 _ _ _ _ (by decide)
    have s1 : v2_ret q1 q1 1 2 m = 1 := own_same1 _ _ _ _ (by decide)
    have s2 : v2_ret (q2 &&& (m ^^^ (-1 : Int64))) q2 2 2 m = 1 := own_same2 _ _ _ _ rfl
    have s3 : v2_ret q3 q3 3 2 m = 1 := own_same1 _ _ _ _ (by decide)
    show (if v2_ret q0 q0 0 2 m = 0 then _ else if v2_ret q1 q1 1 2 m = 0 then _ else if v2_ret (q2 &&& (m ^^^ (-1 : Int64))) q2 2 2 m = 0 then _ else nar .boolean (if v2_ret q3 q3 3 2 m = 0 then _ else _)) = _
    rw [s0, s1, s2, s3]; rfl
  · have s0 : v2_ret q0 q0 0 3 m = 1 := own_same1 _ _ _ _ (by decide)
    have s1 : v2_ret q1 q1 1 3 m = 1 := own_same1 _ _ _ _ (by decide)
    have s2 : v2_ret q2 q2 2 3 m = 1 := own_same1 _ _ _ _ (by decide)
    have s3 : v2_ret (q3 &&& (m ^^^ (-1 : Int64))) q3 3 3 m = 1 := own_same2 _ _ _ _ rfl
    show (if v2_ret q0 q0 0 3 m = 0 then _ else if v2_ret q1 q1 1 3 m = 0 then _ else if v2_ret q2 q2 2 3 m = 0 then _ else nar .boolean (if v2_ret (q3 &&& (m ^^^ (-1 : Int64))) q3 3 3 m = 0 then _ else _)) = _
    rw [s0, s1, s2, s3]; rfl

theorem ef_rm0 (m : MethodId) (q0 : Int64) (q1 : Int64) (q2 : Int64) (q3 : Int64) (p4 : Int32) (p5 : Int32) : entryFrame m #[(.long q0), (.long q1), (.long q2), (.long q3), (.int p4), (.int p5)] maxLocals = mkF m 0 #[.val (.long q0), .second, .val (.long q1), .second, .val (.long q2), .second, .val (.long q3), .second, .val (.int p4), .val (.int p5), .unset, .unset, .unset, .unset, .unset, .unset] [] := by first | (simp [entryFrame, mkF, argsToLocals, Value.category, maxLocals]; done) | rfl
def Q0 (Z : State) (q0 : Int64) (q1 : Int64) (q2 : Int64) (q3 : Int64) (p4 : Int32) (p5 : Int32) (h0 : Heap) (n0 : Nat) (v : Option Value) (h : Heap) (L : List Loc) : Prop := v = some (.int 1) ∧ Fr n0 L
set_option maxRecDepth 65536 in
set_option maxHeartbeats 40000000 in
theorem rm0 (l : Launch) (Z : State) (a0 : Array Value) (hw : ∀ d ∈ tables_1, d.before a0 Z = true) (ws : List Jvm.Cond) (q0 : Int64) (q1 : Int64) (q2 : Int64) (q3 : Int64) (p4 : Int32) (p5 : Int32) (h0 : Heap) (n0 : Nat) (Z0 : n0 ≤ h0.size) :
    MetFree l x (head1 (Jvm.Cond.code x code maxLocals ret :: ws) room_1) (fun a U => a = #[(.long q0), (.long q1), (.long q2), (.long q3), (.int p4), (.int p5)] ∧ Z.Warmed39 U.vm ∧ U.heap = h0) (fun _ _ _ _ _ => True) (fun _ U o U' => ∃ v L, o = .returned v ∧ Q0 Z q0 q1 q2 q3 p4 p5 h0 n0 v U'.heap L ∧ FrameEnd U o U' L room_1.cells room_1.slots) := by
  refine MetFree.of_bodySF (plainFor_of_name pn_50) hisR ?_
  intro p e s m args below meth c s₁ Bd hml0 hP hK
  obtain ⟨rfl, hZ, hh⟩ := hP
  have hx := Bd.exec
  have hby := Bd.bytes
  have hml : c.maxLocals = 16 := hml0
  have hown : s.vm.findClass "com/example/slabrun/slabrun/core/BitmapsClearPinLaw" = some m.cls := findClass_of_methodNamed Bd.named
  have hnm := (name_of_methodNamed Bd.named Bd.method).1
  have X0 : Stand p l e room_1 s m #[(.long q0), (.long q1), (.long q2), (.long q3), (.int p4), (.int p5)] below meth c s₁ [] 0 0 := Stand.of_body Bd
  have e0 : s₁.heap = h0 := by rw [← hh, Bd.state]; rfl
  have N0 := Fr.nil n0
  have KC0 := Keep.refl h0 ([] : List Addr)
  have pre0 : ∀ t, Steps p.tables e below (s₁.setTop (mkF m 0 #[.val (.long q0), .second, .val (.long q1), .second, .val (.long q2), .second, .val (.long q3), .second, .val (.int p4), .val (.int p5), .unset, .unset, .unset, .unset, .unset, .unset] [])) t → Steps p.tables e below (s₁.setTop (entryFrame m #[(.long q0), (.long q1), (.long q2), (.long q3), (.int p4), (.int p5)] maxLocals)) t := fun t k => castTop (ef_rm0 m q0 q1 q2 q3 p4 p5) k
  have k19 := fun (t : State) (kk : Steps p.tables e below (s₁.setTop (mkF m 1 #[.val (.long q0), .second, .val (.long q1), .second, .val (.long q2), .second, .val (.long q3), .second, .val (.int p4), .val (.int p5), .unset, .unset, .unset, .unset, .unset, .unset] [(.int (4 : Int32))])) t) => pre0 t (by
    show Steps p.tables e below (s₁.setTop (mkF m 0 #[.val (.long q0), .second, .val (.long q1), .second, .val (.long q2), .second, .val (.long q3), .second, .val (.int p4), .val (.int p5), .unset, .unset, .unset, .unset, .unset, .unset] [])) _
    refine XS.iconst X0.here hx rfl (hb hby at_0) ?_
    exact kk)
  obtain ⟨T20, h20, k20, X20, e20, E20, A20, st20⟩ := newP X0 hx hZ (hw _ (List.mem_of_getElem? (i := 0) rfl)) e0 (g := (mkF m 1 #[.val (.long q0), .second, .val (.long q1), .second, .val (.long q2), .second, .val (.long q3), .second, .val (.int p4), .val (.int p5), .unset, .unset, .unset, .unset, .unset, .unset] [(.int (4 : Int32))])) rfl (hb hby at_1) rfl (by decide) (cap := 4) (by decide) (by decide) (by decide) (by decide)
  obtain ⟨b20, g20⟩ : ∃ z, z = h0.size := ⟨_, rfl⟩
  rw [← g20] at A20 st20
  have g_b20 : n0 ≤ b20 := Nat.le_trans (Nat.le_trans Z0 KC0.1) (Nat.le_of_eq g20.symm)
  have sz_b20 : h0.size ≤ b20 := Nat.le_trans KC0.1 (Nat.le_of_eq g20.symm)
  have K20 : Keep h0 h20 [] := KC0.ext E20
  have V20 : Arv Z h20 b20 k20 .long (4 : Int32) (List.map Value.long ([(0 : Int64), (0 : Int64), (0 : Int64), (0 : Int64)] : List Int64)) (.long (0 : Int64)) := (Arv.new A20 (by decide)).pad (pad_rep [] (.long (0 : Int64)) 4)
  have VL20 : ([(0 : Int64), (0 : Int64), (0 : Int64), (0 : Int64)] : List Int64).length = ((4 : Int32)).toNatClampNeg := rfl
  have k21 := fun (t : State) (kk : Steps p.tables e below (T20.setTop (mkF m 3 #[.val (.long q0), .second, .val (.long q1), .second, .val (.long q2), .second, .val (.long q3), .second, .val (.int p4), .val (.int p5), .unset, .unset, .unset, .unset, .unset, .unset] [(.ref b20)])) t) => k19 t (st20 _ kk)
  have k22 := fun (t : State) (kk : Steps p.tables e below (T20.setTop (mkF m 6 #[.val (.long q0), .second, .val (.long q1), .second, .val (.long q2), .second, .val (.long q3), .second, .val (.int p4), .val (.int p5), .unset, .unset, .unset, .unset, .unset, .unset] [(.long q0), (.int (0 : Int32)), (.ref b20), (.ref b20)])) t) => k21 t (by
    show Steps p.tables e below (T20.setTop (mkF m 3 #[.val (.long q0), .second, .val (.long q1), .second, .val (.long q2), .second, .val (.long q3), .second, .val (.int p4), .val (.int p5), .unset, .unset, .unset, .unset, .unset, .unset] [(.ref b20)])) _
    refine XS.dup X20.here hx rfl (hb hby at_3) rfl rfl ?_
    show Steps p.tables e below (T20.setTop (mkF m 4 #[.val (.long q0), .second, .val (.long q1), .second, .val (.long q2), .second, .val (.long q3), .second, .val (.int p4), .val (.int p5), .unset, .unset, .unset, .unset, .unset, .unset] [(.ref b20), (.ref b20)])) _
    refine XS.iconst X20.here hx rfl (hb hby at_4) ?_
    show Steps p.tables e below (T20.setTop (mkF m 5 #[.val (.long q0), .second, .val (.long q1), .second, .val (.long q2), .second, .val (.long q3), .second, .val (.int p4), .val (.int p5), .unset, .unset, .unset, .unset, .unset, .unset] [(.int (0 : Int32)), (.ref b20), (.ref b20)])) _
    refine XS.lloadN X20.here hx rfl (hb hby at_5) rfl ?_
    exact kk)
  have hV23 := V20
  obtain ⟨cl23, Ar23, q23, S23, Nn23, H23, G23⟩ := hV23
  have hb24 : ¬ (0 : Int32) < 0 ∧ (0 : Int32) < (4 : Int32) := ⟨by decide, by decide⟩
  have hin24 : ¬ ((0 : Int32) < 0 ∨ cl23.slots.size ≤ ((0 : Int32)).toNatClampNeg) := inb_of S23 hb24
  obtain ⟨T24, h24, X24, e24, W24, st24⟩ := stJ X20 hx hZ e20 Ar23 (j := (0 : Int32)) hin24 (g := (mkF m 6 #[.val (.long q0), .second, .val (.long q1), .second, .val (.long q2), .second, .val (.long q3), .second, .val (.int p4), .val (.int p5), .unset, .unset, .unset, .unset, .unset, .unset] [(.long q0), (.int (0 : Int32)), (.ref b20), (.ref b20)])) rfl rfl (hb hby at_6)
  have V24 : Arv Z h24 b20 k20 .long (4 : Int32) (List.map Value.long ([q0, (0 : Int64), (0 : Int64), (0 : Int64)] : List Int64)) (.long (0 : Int64)) := Arv.set Ar23 q23 S23 Nn23 H23 G23 rfl W24 0 rfl (Nat.le_of_ble_eq_true rfl)
  have VL24 : ([q0, (0 : Int64), (0 : Int64), (0 : Int64)] : List Int64).length = ((4 : Int32)).toNatClampNeg := rfl
  have K24 : Keep h0 h24 [] := K20.wr W24 (Or.inr sz_b20)
  have N24 := Fr.snoc X24 N0 g_b20
  have k25 := fun (t : State) (kk : Steps p.tables e below (T24.setTop (mkF m 7 #[.val (.long q0), .second, .val (.long q1), .second, .val (.long q2), .second, .val (.long q3), .second, .val (.int p4), .val (.int p5), .unset, .unset, .unset, .unset, .unset, .unset] [(.ref b20)])) t) => k22 t (st24 _ kk)
  have k26 := fun (t : State) (kk : Steps p.tables e below (T24.setTop (mkF m 10 #[.val (.long q0), .second, .val (.long q1), .second, .val (.long q2), .second, .val (.long q3), .second, .val (.int p4), .val (.int p5), .unset, .unset, .unset, .unset, .unset, .unset] [(.long q1), (.int (1 : Int32)), (.ref b20), (.ref b20)])) t) => k25 t (by
    show Steps p.tables e below (T24.setTop (mkF m 7 #[.val (.long q0), .second, .val (.long q1), .second, .val (.long q2), .second, .val (.long q3), .second, .val (.int p4), .val (.int p5), .unset, .unset, .unset, .unset, .unset, .unset] [(.ref b20)])) _
    refine XS.dup X24.here hx rfl (hb hby at_7) rfl rfl ?_
    show Steps p.tables e below (T24.setTop (mkF m 8 #[.val (.long q0), .second, .val (.long q1), .second, .val (.long q2), .second, .val (.long q3), .second, .val (.int p4), .val (.int p5), .unset, .unset, .unset, .unset, .unset, .unset] [(.ref b20), (.ref b20)])) _
    refine XS.iconst X24.here hx rfl (hb hby at_8) ?_
    show Steps p.tables e below (T24.setTop (mkF m 9 #[.val (.long q0), .second, .val (.long q1), .second, .val (.long q2), .second, .val (.long q3), .second, .val (.int p4), .val (.int p5), .unset, .unset, .unset, .unset, .unset, .unset] [(.int (1 : Int32)), (.ref b20), (.ref b20)])) _
    refine XS.lloadN X24.here hx rfl (hb hby at_9) rfl ?_
    exact kk)
  have hV27 := V24
  obtain ⟨cl27, Ar27, q27, S27, Nn27, H27, G27⟩ := hV27
  have hb28 : ¬ (1 : Int32) < 0 ∧ (1 : Int32) < (4 : Int32) := ⟨by decide, by decide⟩
  have hin28 : ¬ ((1 : Int32) < 0 ∨ cl27.slots.size ≤ ((1 : Int32)).toNatClampNeg) := inb_of S27 hb28
  obtain ⟨T28, h28, X28, e28, W28, st28⟩ := stJ X24 hx hZ e24 Ar27 (j := (1 : Int32)) hin28 (g := (mkF m 10 #[.val (.long q0), .second, .val (.long q1), .second, .val (.long q2), .second, .val (.long q3), .second, .val (.int p4), .val (.int p5), .unset, .unset, .unset, .unset, .unset, .unset] [(.long q1), (.int (1 : Int32)), (.ref b20), (.ref b20)])) rfl rfl (hb hby at_10)
  have V28 : Arv Z h28 b20 k20 .long (4 : Int32) (List.map Value.long ([q0, q1, (0 : Int64), (0 : Int64)] : List Int64)) (.long (0 : Int64)) := Arv.set Ar27 q27 S27 Nn27 H27 G27 rfl W28 1 rfl (Nat.le_of_ble_eq_true rfl)
  have VL28 : ([q0, q1, (0 : Int64), (0 : Int64)] : List Int64).length = ((4 : Int32)).toNatClampNeg := rfl
  have K28 : Keep h0 h28 [] := K24.wr W28 (Or.inr sz_b20)
  have N28 := Fr.snoc X28 N24 g_b20
  have k29 := fun (t : State) (kk : Steps p.tables e below (T28.setTop (mkF m 11 #[.val (.long q0), .second, .val (.long q1), .second, .val (.long q2), .second, .val (.long q3), .second, .val (.int p4), .val (.int p5), .unset, .unset, .unset, .unset, .unset, .unset] [(.ref b20)])) t) => k26 t (st28 _ kk)
  have k30 := fun (t : State) (kk : Steps p.tables e below (T28.setTop (mkF m 15 #[.val (.long q0), .second, .val (.long q1), .second, .val (.long q2), .second, .val (.long q3), .second, .val (.int p4), .val (.int p5), .unset, .unset, .unset, .unset, .unset, .unset] [(.long q2), (.int (2 : Int32)), (.ref b20), (.ref b20)])) t) => k29 t (by
    show Steps p.tables e below (T28.setTop (mkF m 11 #[.val (.long q0), .second, .val (.long q1), .second, .val (.long q2), .second, .val (.long q3), .second, .val (.int p4), .val (.int p5), .unset, .unset, .unset, .unset, .unset, .unset] [(.ref b20)])) _
    refine XS.dup X28.here hx rfl (hb hby at_11) rfl rfl ?_
    show Steps p.tables e below (T28.setTop (mkF m 12 #[.val (.long q0), .second, .val (.long q1), .second, .val (.long q2), .second, .val (.long q3), .second, .val (.int p4), .val (.int p5), .unset, .unset, .unset, .unset, .unset, .unset] [(.ref b20), (.ref b20)])) _
    refine XS.iconst X28.here hx rfl (hb hby at_12) ?_
    show Steps p.tables e below (T28.setTop (mkF m 13 #[.val (.long q0), .second, .val (.long q1), .second, .val (.long q2), .second, .val (.long q3), .second, .val (.int p4), .val (.int p5), .unset, .unset, .unset, .unset, .unset, .unset] [(.int (2 : Int32)), (.ref b20), (.ref b20)])) _
    refine XS.lload X28.here hx rfl (hb hby at_13) rfl ?_
    exact kk)
  have hV31 := V28
  obtain ⟨cl31, Ar31, q31, S31, Nn31, H31, G31⟩ := hV31
  have hb32 : ¬ (2 : Int32) < 0 ∧ (2 : Int32) < (4 : Int32) := ⟨by decide, by decide⟩
  have hin32 : ¬ ((2 : Int32) < 0 ∨ cl31.slots.size ≤ ((2 : Int32)).toNatClampNeg) := inb_of S31 hb32
  obtain ⟨T32, h32, X32, e32, W32, st32⟩ := stJ X28 hx hZ e28 Ar31 (j := (2 : Int32)) hin32 (g := (mkF m 15 #[.val (.long q0), .second, .val (.long q1), .second, .val (.long q2), .second, .val (.long q3), .second, .val (.int p4), .val (.int p5), .unset, .unset, .unset, .unset, .unset, .unset] [(.long q2), (.int (2 : Int32)), (.ref b20), (.ref b20)])) rfl rfl (hb hby at_15)
  have V32 : Arv Z h32 b20 k20 .long (4 : Int32) (List.map Value.long ([q0, q1, q2, (0 : Int64)] : List Int64)) (.long (0 : Int64)) := Arv.set Ar31 q31 S31 Nn31 H31 G31 rfl W32 2 rfl (Nat.le_of_ble_eq_true rfl)
  have VL32 : ([q0, q1, q2, (0 : Int64)] : List Int64).length = ((4 : Int32)).toNatClampNeg := rfl
  have K32 : Keep h0 h32 [] := K28.wr W32 (Or.inr sz_b20)
  have N32 := Fr.snoc X32 N28 g_b20
  have k33 := fun (t : State) (kk : Steps p.tables e below (T32.setTop (mkF m 16 #[.val (.long q0), .second, .val (.long q1), .second, .val (.long q2), .second, .val (.long q3), .second, .val (.int p4), .val (.int p5), .unset, .unset, .unset, .unset, .unset, .unset] [(.ref b20)])) t) => k30 t (st32 _ kk)
  have k34 := fun (t : State) (kk : Steps p.tables e below (T32.setTop (mkF m 20 #[.val (.long q0), .second, .val (.long q1), .second, .val (.long q2), .second, .val (.long q3), .second, .val (.int p4), .val (.int p5), .unset, .unset, .unset, .unset, .unset, .unset] [(.long q3), (.int (3 : Int32)), (.ref b20), (.ref b20)])) t) => k33 t (by
    show Steps p.tables e below (T32.setTop (mkF m 16 #[.val (.long q0), .second, .val (.long q1), .second, .val (.long q2), .second, .val (.long q3), .second, .val (.int p4), .val (.int p5), .unset, .unset, .unset, .unset, .unset, .unset] [(.ref b20)])) _
    refine XS.dup X32.here hx rfl (hb hby at_16) rfl rfl ?_
    show Steps p.tables e below (T32.setTop (mkF m 17 #[.val (.long q0), .second, .val (.long q1), .second, .val (.long q2), .second, .val (.long q3), .second, .val (.int p4), .val (.int p5), .unset, .unset, .unset, .unset, .unset, .unset] [(.ref b20), (.ref b20)])) _
    refine XS.iconst X32.here hx rfl (hb hby at_17) ?_
    show Steps p.tables e below (T32.setTop (mkF m 18 #[.val (.long q0), .second, .val (.long q1), .second, .val (.long q2), .second, .val (.long q3), .second, .val (.int p4), .val (.int p5), .unset, .unset, .unset, .unset, .unset, .unset] [(.int (3 : Int32)), (.ref b20), (.ref b20)])) _
    refine XS.lload X32.here hx rfl (hb hby at_18) rfl ?_
    exact kk)
  have hV35 := V32
  obtain ⟨cl35, Ar35, q35, S35, Nn35, H35, G35⟩ := hV35
  have hb36 : ¬ (3 : Int32) < 0 ∧ (3 : Int32) < (4 : Int32) := ⟨by decide, by decide⟩
  have hin36 : ¬ ((3 : Int32) < 0 ∨ cl35.slots.size ≤ ((3 : Int32)).toNatClampNeg) := inb_of S35 hb36
  obtain ⟨T36, h36, X36, e36, W36, st36⟩ := stJ X32 hx hZ e32 Ar35 (j := (3 : Int32)) hin36 (g := (mkF m 20 #[.val (.long q0), .second, .val (.long q1), .second, .val (.long q2), .second, .val (.long q3), .second, .val (.int p4), .val (.int p5), .unset, .unset, .unset, .unset, .unset, .unset] [(.long q3), (.int (3 : Int32)), (.ref b20), (.ref b20)])) rfl rfl (hb hby at_20)
  have V36 : Arv Z h36 b20 k20 .long (4 : Int32) (List.map Value.long ([q0, q1, q2, q3] : List Int64)) (.long (0 : Int64)) := Arv.set Ar35 q35 S35 Nn35 H35 G35 rfl W36 3 rfl (Nat.le_of_ble_eq_true rfl)
  have VL36 : ([q0, q1, q2, q3] : List Int64).length = ((4 : Int32)).toNatClampNeg := rfl
  have K36 : Keep h0 h36 [] := K32.wr W36 (Or.inr sz_b20)
  have N36 := Fr.snoc X36 N32 g_b20
  have k37 := fun (t : State) (kk : Steps p.tables e below (T36.setTop (mkF m 21 #[.val (.long q0), .second, .val (.long q1), .second, .val (.long q2), .second, .val (.long q3), .second, .val (.int p4), .val (.int p5), .unset, .unset, .unset, .unset, .unset, .unset] [(.ref b20)])) t) => k34 t (st36 _ kk)
  have k38 := fun (t : State) (kk : Steps p.tables e below (T36.setTop (mkF m 46 #[.val (.long q0), .second, .val (.long q1), .second, .val (.long q2), .second, .val (.long q3), .second, .val (.int p4), .val (.int p5), .val (.ref b20), .val (.int (p4 &&& (1 : Int32))), .val (.int (v0_38_l12 p5)), .unset, .unset, .unset] [(.int (v0_38_l12 p5)), (.int (p4 &&& (1 : Int32))), (.ref b20)])) t) => k37 t (by
    show Steps p.tables e below (T36.setTop (mkF m 21 #[.val (.long q0), .second, .val (.long q1), .second, .val (.long q2), .second, .val (.long q3), .second, .val (.int p4), .val (.int p5), .unset, .unset, .unset, .unset, .unset, .unset] [(.ref b20)])) _
    refine XS.astore X36.here hx rfl (hb hby at_21) rfl rfl (l' := #[.val (.long q0), .second, .val (.long q1), .second, .val (.long q2), .second, .val (.long q3), .second, .val (.int p4), .val (.int p5), .val (.ref b20), .unset, .unset, .unset, .unset, .unset]) rfl ?_
    show Steps p.tables e below (T36.setTop (mkF m 23 #[.val (.long q0), .second, .val (.long q1), .second, .val (.long q2), .second, .val (.long q3), .second, .val (.int p4), .val (.int p5), .val (.ref b20), .unset, .unset, .unset, .unset, .unset] [])) _
    refine XS.iload X36.here hx rfl (hb hby at_23) rfl ?_
    show Steps p.tables e below (T36.setTop (mkF m 25 #[.val (.long q0), .second, .val (.long q1), .second, .val (.long q2), .second, .val (.long q3), .second, .val (.int p4), .val (.int p5), .val (.ref b20), .unset, .unset, .unset, .unset, .unset] [(.int p4)])) _
    refine XS.iconst X36.here hx rfl (hb hby at_25) ?_
    show Steps p.tables e below (T36.setTop (mkF m 26 #[.val (.long q0), .second, .val (.long q1), .second, .val (.long q2), .second, .val (.long q3), .second, .val (.int p4), .val (.int p5), .val (.ref b20), .unset, .unset, .unset, .unset, .unset] [(.int (1 : Int32)), (.int p4)])) _
    refine XS.iand X36.here hx rfl (hb hby at_26) rfl ?_
    show Steps p.tables e below (T36.setTop (mkF m 27 #[.val (.long q0), .second, .val (.long q1), .second, .val (.long q2), .second, .val (.long q3), .second, .val (.int p4), .val (.int p5), .val (.ref b20), .unset, .unset, .unset, .unset, .unset] [(.int (p4 &&& (1 : Int32)))])) _
    refine XS.istore X36.here hx rfl (hb hby at_27) rfl (l' := #[.val (.long q0), .second, .val (.long q1), .second, .val (.long q2), .second, .val (.long q3), .second, .val (.int p4), .val (.int p5), .val (.ref b20), .val (.int (p4 &&& (1 : Int32))), .unset, .unset, .unset, .unset]) rfl ?_
    show Steps p.tables e below (T36.setTop (mkF m 29 #[.val (.long q0), .second, .val (.long q1), .second, .val (.long q2), .second, .val (.long q3), .second, .val (.int p4), .val (.int p5), .val (.ref b20), .val (.int (p4 &&& (1 : Int32))), .unset, .unset, .unset, .unset] [])) _
    refine XS.iload X36.here hx rfl (hb hby at_29) rfl ?_
    show Steps p.tables e below (T36.setTop (mkF m 31 #[.val (.long q0), .second, .val (.long q1), .second, .val (.long q2), .second, .val (.long q3), .second, .val (.int p4), .val (.int p5), .val (.ref b20), .val (.int (p4 &&& (1 : Int32))), .unset, .unset, .unset, .unset] [(.int p5)])) _
    refine X36.ldcInt hx hown (mvT hZ (hw _ (List.mem_of_getElem? (i := 1) rfl))) (g := (mkF m 31 #[.val (.long q0), .second, .val (.long q1), .second, .val (.long q2), .second, .val (.long q3), .second, .val (.int p4), .val (.int p5), .val (.ref b20), .val (.int (p4 &&& (1 : Int32))), .unset, .unset, .unset, .unset] [(.int p5)])) rfl (hb hby at_31) _ ?_
    show Steps p.tables e below (T36.setTop (mkF m 33 #[.val (.long q0), .second, .val (.long q1), .second, .val (.long q2), .second, .val (.long q3), .second, .val (.int p4), .val (.int p5), .val (.ref b20), .val (.int (p4 &&& (1 : Int32))), .unset, .unset, .unset, .unset] [(.int (2147483647 : Int32)), (.int p5)])) _
    refine XS.iand X36.here hx rfl (hb hby at_33) rfl ?_
    show Steps p.tables e below (T36.setTop (mkF m 34 #[.val (.long q0), .second, .val (.long q1), .second, .val (.long q2), .second, .val (.long q3), .second, .val (.int p4), .val (.int p5), .val (.ref b20), .val (.int (p4 &&& (1 : Int32))), .unset, .unset, .unset, .unset] [(.int (p5 &&& (2147483647 : Int32)))])) _
    refine XS.sipush X36.here hx rfl (hb hby at_34) ?_
    show Steps p.tables e below (T36.setTop (mkF m 37 #[.val (.long q0), .second, .val (.long q1), .second, .val (.long q2), .second, .val (.long q3), .second, .val (.int p4), .val (.int p5), .val (.ref b20), .val (.int (p4 &&& (1 : Int32))), .unset, .unset, .unset, .unset] [(.int (192 : Int32)), (.int (p5 &&& (2147483647 : Int32)))])) _
    refine iremM X36 hx rfl (hb hby at_37) rfl (by decide) ?_
    show Steps p.tables e below (T36.setTop (mkF m 38 #[.val (.long q0), .second, .val (.long q1), .second, .val (.long q2), .second, .val (.long q3), .second, .val (.int p4), .val (.int p5), .val (.ref b20), .val (.int (p4 &&& (1 : Int32))), .unset, .unset, .unset, .unset] [(.int ((p5 &&& (2147483647 : Int32)) % (192 : Int32)))])) _
    refine XS.istore X36.here hx rfl (hb hby at_38) rfl (l' := #[.val (.long q0), .second, .val (.long q1), .second, .val (.long q2), .second, .val (.long q3), .second, .val (.int p4), .val (.int p5), .val (.ref b20), .val (.int (p4 &&& (1 : Int32))), .val (.int (v0_38_l12 p5)), .unset, .unset, .unset]) rfl ?_
    show Steps p.tables e below (T36.setTop (mkF m 40 #[.val (.long q0), .second, .val (.long q1), .second, .val (.long q2), .second, .val (.long q3), .second, .val (.int p4), .val (.int p5), .val (.ref b20), .val (.int (p4 &&& (1 : Int32))), .val (.int (v0_38_l12 p5)), .unset, .unset, .unset] [])) _
    refine XS.aload X36.here hx rfl (hb hby at_40) rfl rfl ?_
    show Steps p.tables e below (T36.setTop (mkF m 42 #[.val (.long q0), .second, .val (.long q1), .second, .val (.long q2), .second, .val (.long q3), .second, .val (.int p4), .val (.int p5), .val (.ref b20), .val (.int (p4 &&& (1 : Int32))), .val (.int (v0_38_l12 p5)), .unset, .unset, .unset] [(.ref b20)])) _
    refine XS.iload X36.here hx rfl (hb hby at_42) rfl ?_
    show Steps p.tables e below (T36.setTop (mkF m 44 #[.val (.long q0), .second, .val (.long q1), .second, .val (.long q2), .second, .val (.long q3), .second, .val (.int p4), .val (.int p5), .val (.ref b20), .val (.int (p4 &&& (1 : Int32))), .val (.int (v0_38_l12 p5)), .unset, .unset, .unset] [(.int (p4 &&& (1 : Int32))), (.ref b20)])) _
    refine XS.iload X36.here hx rfl (hb hby at_44) rfl ?_
    exact kk)
  have Zz39 : n0 ≤ h36.size := (Nat.le_trans Z0 K36.1)
  obtain ⟨_, _, ⟨T39, L39, k39, n39⟩, -, X39, ⟨Lc39, hQ39, l39, y39, z39⟩, st39⟩ := Jvm.LawKit.callS X36 hx (y := (⟨"com/example/slabrun/slabrun/core/Bitmaps", "clear", "([JII)V"⟩ : MethodName)) hown (mvT hZ (hw _ (List.mem_of_getElem? (i := 2) rfl))) (mvT hZ (hw _ (List.mem_of_getElem? (i := 3) rfl))) (mvT hZ (hw _ (List.mem_of_getElem? (i := 4) rfl))) (mvT hZ (hw _ (List.mem_of_getElem? (i := 5) rfl))) (by decide) (backOf (W := 0) (rm1 l Z a0 hw [] b20 (p4 &&& (1 : Int32)) (v0_38_l12 p5) k20 (4 : Int32) ([q0, q1, q2, q3] : List Int64) h36 n0 Zz39 (own_hI p4 p5 : ¬ ((p4 &&& (1 : Int32)) + (((v0_38_l12 p5).toUInt32 >>> ((6 : Int32) &&& 31).toUInt32).toInt32)) < 0 ∧ ((p4 &&& (1 : Int32)) + (((v0_38_l12 p5).toUInt32 >>> ((6 : Int32) &&& 31).toUInt32).toInt32)) < (4 : Int32)) V36 VL36 g_b20) hZ (hw _ (List.mem_of_getElem? (i := 5) rfl)) (hw _ (List.mem_of_getElem? (i := 4) rfl)) (by decide) (by decide)) (g := (mkF m 46 #[.val (.long q0), .second, .val (.long q1), .second, .val (.long q2), .second, .val (.long q3), .second, .val (.int p4), .val (.int p5), .val (.ref b20), .val (.int (p4 &&& (1 : Int32))), .val (.int (v0_38_l12 p5)), .unset, .unset, .unset] [(.int (v0_38_l12 p5)), (.int (p4 &&& (1 : Int32))), (.ref b20)])) rfl (by rw [hml]; rfl) (argsL := [(.ref b20), (.int (p4 &&& (1 : Int32))), (.int (v0_38_l12 p5))]) (rest := []) (lenOf pd_0 rfl) rfl (by show 2 * 0 + _ ≤ _; exact Nat.le_of_eq rfl) (hb hby at_46) (fun _ _ => ⟨rfl, e36, (by decide : 1 + 0 ≤ _), (by decide : 4 + 0 ≤ _)⟩)
  dsimp only [Pt.U, Pt.locs, Pt.cells, Pt.slots] at X39 l39 y39 z39 st39 hQ39
  subst l39 y39 z39
  obtain ⟨rfl, N39q, Kq39, Vq39_0, VLq39_0⟩ := hQ39
  have K39 : Keep h0 T39.heap [] := K36.trans Kq39 (allS (Or.inr sz_b20) all0)
  have V39n : Arv Z T39.heap b20 k20 .long (4 : Int32) (List.map Value.long (v0_46_L0 q0 q1 q2 q3 p4 p5)) (.long (0 : Int64)) := Vq39_0
  have VL39n : (v0_46_L0 q0 q1 q2 q3 p4 p5).length = ((4 : Int32)).toNatClampNeg := VLq39_0
  have N39 := Fr.app N36 N39q
  have k40 := fun (t : State) (kk : Steps p.tables e below (T39.setTop (mkF m 49 #[.val (.long q0), .second, .val (.long q1), .second, .val (.long q2), .second, .val (.long q3), .second, .val (.int p4), .val (.int p5), .val (.ref b20), .val (.int (p4 &&& (1 : Int32))), .val (.int (v0_38_l12 p5)), .unset, .unset, .unset] [])) t) => k38 t (st39 _ kk)
  have k41 := fun (t : State) (kk : Steps p.tables e below (T39.setTop (mkF m 71 #[.val (.long q0), .second, .val (.long q1), .second, .val (.long q2), .second, .val (.long q3), .second, .val (.int p4), .val (.int p5), .val (.ref b20), .val (.int (p4 &&& (1 : Int32))), .val (.int (v0_38_l12 p5)), .val (.int (v0_57_l13 p4 p5)), .val (.long (v0_66_l14 p5)), .second] [(.int (0 : Int32)), (.ref b20)])) t) => k40 t (by
    show Steps p.tables e below (T39.setTop (mkF m 49 #[.val (.long q0), .second, .val (.long q1), .second, .val (.long q2), .second, .val (.long q3), .second, .val (.int p4), .val (.int p5), .val (.ref b20), .val (.int (p4 &&& (1 : Int32))), .val (.int (v0_38_l12 p5)), .unset, .unset, .unset] [])) _
    refine XS.iload X39.here hx rfl (hb hby at_49) rfl ?_
    show Steps p.tables e below (T39.setTop (mkF m 51 #[.val (.long q0), .second, .val (.long q1), .second, .val (.long q2), .second, .val (.long q3), .second, .val (.int p4), .val (.int p5), .val (.ref b20), .val (.int (p4 &&& (1 : Int32))), .val (.int (v0_38_l12 p5)), .unset, .unset, .unset] [(.int (p4 &&& (1 : Int32)))])) _
    refine XS.iload X39.here hx rfl (hb hby at_51) rfl ?_
    show Steps p.tables e below (T39.setTop (mkF m 53 #[.val (.long q0), .second, .val (.long q1), .second, .val (.long q2), .second, .val (.long q3), .second, .val (.int p4), .val (.int p5), .val (.ref b20), .val (.int (p4 &&& (1 : Int32))), .val (.int (v0_38_l12 p5)), .unset, .unset, .unset] [(.int (v0_38_l12 p5)), (.int (p4 &&& (1 : Int32)))])) _
    refine XS.bipush X39.here hx rfl (hb hby at_53) ?_
    show Steps p.tables e below (T39.setTop (mkF m 55 #[.val (.long q0), .second, .val (.long q1), .second, .val (.long q2), .second, .val (.long q3), .second, .val (.int p4), .val (.int p5), .val (.ref b20), .val (.int (p4 &&& (1 : Int32))), .val (.int (v0_38_l12 p5)), .unset, .unset, .unset] [(.int (64 : Int32)), (.int (v0_38_l12 p5)), (.int (p4 &&& (1 : Int32)))])) _
    refine XS.idiv X39.here hx rfl (hb hby at_55) rfl (by decide) ?_
    show Steps p.tables e below (T39.setTop (mkF m 56 #[.val (.long q0), .second, .val (.long q1), .second, .val (.long q2), .second, .val (.long q3), .second, .val (.int p4), .val (.int p5), .val (.ref b20), .val (.int (p4 &&& (1 : Int32))), .val (.int (v0_38_l12 p5)), .unset, .unset, .unset] [(.int ((v0_38_l12 p5) / (64 : Int32))), (.int (p4 &&& (1 : Int32)))])) _
    refine XS.iadd X39.here hx rfl (hb hby at_56) rfl ?_
    show Steps p.tables e below (T39.setTop (mkF m 57 #[.val (.long q0), .second, .val (.long q1), .second, .val (.long q2), .second, .val (.long q3), .second, .val (.int p4), .val (.int p5), .val (.ref b20), .val (.int (p4 &&& (1 : Int32))), .val (.int (v0_38_l12 p5)), .unset, .unset, .unset] [(.int ((p4 &&& (1 : Int32)) + ((v0_38_l12 p5) / (64 : Int32))))])) _
    refine XS.istore X39.here hx rfl (hb hby at_57) rfl (l' := #[.val (.long q0), .second, .val (.long q1), .second, .val (.long q2), .second, .val (.long q3), .second, .val (.int p4), .val (.int p5), .val (.ref b20), .val (.int (p4 &&& (1 : Int32))), .val (.int (v0_38_l12 p5)), .val (.int (v0_57_l13 p4 p5)), .unset, .unset]) rfl ?_
    show Steps p.tables e below (T39.setTop (mkF m 59 #[.val (.long q0), .second, .val (.long q1), .second, .val (.long q2), .second, .val (.long q3), .second, .val (.int p4), .val (.int p5), .val (.ref b20), .val (.int (p4 &&& (1 : Int32))), .val (.int (v0_38_l12 p5)), .val (.int (v0_57_l13 p4 p5)), .unset, .unset] [])) _
    refine XS.lconst X39.here hx rfl (hb hby at_59) ?_
    show Steps p.tables e below (T39.setTop (mkF m 60 #[.val (.long q0), .second, .val (.long q1), .second, .val (.long q2), .second, .val (.long q3), .second, .val (.int p4), .val (.int p5), .val (.ref b20), .val (.int (p4 &&& (1 : Int32))), .val (.int (v0_38_l12 p5)), .val (.int (v0_57_l13 p4 p5)), .unset, .unset] [(.long (1 : Int64))])) _
    refine XS.iload X39.here hx rfl (hb hby at_60) rfl ?_
    show Steps p.tables e below (T39.setTop (mkF m 62 #[.val (.long q0), .second, .val (.long q1), .second, .val (.long q2), .second, .val (.long q3), .second, .val (.int p4), .val (.int p5), .val (.ref b20), .val (.int (p4 &&& (1 : Int32))), .val (.int (v0_38_l12 p5)), .val (.int (v0_57_l13 p4 p5)), .unset, .unset] [(.int (v0_38_l12 p5)), (.long (1 : Int64))])) _
    refine XS.bipush X39.here hx rfl (hb hby at_62) ?_
    show Steps p.tables e below (T39.setTop (mkF m 64 #[.val (.long q0), .second, .val (.long q1), .second, .val (.long q2), .second, .val (.long q3), .second, .val (.int p4), .val (.int p5), .val (.ref b20), .val (.int (p4 &&& (1 : Int32))), .val (.int (v0_38_l12 p5)), .val (.int (v0_57_l13 p4 p5)), .unset, .unset] [(.int (64 : Int32)), (.int (v0_38_l12 p5)), (.long (1 : Int64))])) _
    refine iremM X39 hx rfl (hb hby at_64) rfl (by decide) ?_
    show Steps p.tables e below (T39.setTop (mkF m 65 #[.val (.long q0), .second, .val (.long q1), .second, .val (.long q2), .second, .val (.long q3), .second, .val (.int p4), .val (.int p5), .val (.ref b20), .val (.int (p4 &&& (1 : Int32))), .val (.int (v0_38_l12 p5)), .val (.int (v0_57_l13 p4 p5)), .unset, .unset] [(.int ((v0_38_l12 p5) % (64 : Int32))), (.long (1 : Int64))])) _
    refine XS.lshl X39.here hx rfl (hb hby at_65) rfl ?_
    show Steps p.tables e below (T39.setTop (mkF m 66 #[.val (.long q0), .second, .val (.long q1), .second, .val (.long q2), .second, .val (.long q3), .second, .val (.int p4), .val (.int p5), .val (.ref b20), .val (.int (p4 &&& (1 : Int32))), .val (.int (v0_38_l12 p5)), .val (.int (v0_57_l13 p4 p5)), .unset, .unset] [(.long ((1 : Int64) <<< (((v0_38_l12 p5) % (64 : Int32)) &&& 0x3f).toInt64))])) _
    refine XS.lstore X39.here hx rfl (hb hby at_66) rfl (l' := #[.val (.long q0), .second, .val (.long q1), .second, .val (.long q2), .second, .val (.long q3), .second, .val (.int p4), .val (.int p5), .val (.ref b20), .val (.int (p4 &&& (1 : Int32))), .val (.int (v0_38_l12 p5)), .val (.int (v0_57_l13 p4 p5)), .val (.long (v0_66_l14 p5)), .second]) rfl ?_
    show Steps p.tables e below (T39.setTop (mkF m 68 #[.val (.long q0), .second, .val (.long q1), .second, .val (.long q2), .second, .val (.long q3), .second, .val (.int p4), .val (.int p5), .val (.ref b20), .val (.int (p4 &&& (1 : Int32))), .val (.int (v0_38_l12 p5)), .val (.int (v0_57_l13 p4 p5)), .val (.long (v0_66_l14 p5)), .second] [])) _
    refine XS.aload X39.here hx rfl (hb hby at_68) rfl rfl ?_
    show Steps p.tables e below (T39.setTop (mkF m 70 #[.val (.long q0), .second, .val (.long q1), .second, .val (.long q2), .second, .val (.long q3), .second, .val (.int p4), .val (.int p5), .val (.ref b20), .val (.int (p4 &&& (1 : Int32))), .val (.int (v0_38_l12 p5)), .val (.int (v0_57_l13 p4 p5)), .val (.long (v0_66_l14 p5)), .second] [(.ref b20)])) _
    refine XS.iconst X39.here hx rfl (hb hby at_70) ?_
    exact kk)
  have hV42 := V39n
  obtain ⟨cl42, Ar42, q42, S42, Nn42, H42, G42⟩ := hV42
  have hb43 : ¬ (0 : Int32) < 0 ∧ (0 : Int32) < (4 : Int32) := ⟨by decide, by decide⟩
  have hin43 : ¬ ((0 : Int32) < 0 ∨ cl42.slots.size ≤ ((0 : Int32)).toNatClampNeg) := inb_of S42 hb43
  have hat43 : cl42.slots[((0 : Int32)).toNatClampNeg]? = some (.long (v0_71_at q0 q1 q2 q3 p4 p5)) := Has.at H42 hin43 (own_getD_long _ _ _)
  have st43 := X39.laload hx (j := (0 : Int32)) (v := (.long (v0_71_at q0 q1 q2 q3 p4 p5))) Ar42.1 (State.isArrayOf_alike hZ.alike Ar42.2.1) Ar42.2.2 hin43 hat43 (g := (mkF m 71 #[.val (.long q0), .second, .val (.long q1), .second, .val (.long q2), .second, .val (.long q3), .second, .val (.int p4), .val (.int p5), .val (.ref b20), .val (.int (p4 &&& (1 : Int32))), .val (.int (v0_38_l12 p5)), .val (.int (v0_57_l13 p4 p5)), .val (.long (v0_66_l14 p5)), .second] [(.int (0 : Int32)), (.ref b20)])) rfl rfl (hb hby at_71)
  have k44 := fun (t : State) (kk : Steps p.tables e below (T39.setTop (mkF m 72 #[.val (.long q0), .second, .val (.long q1), .second, .val (.long q2), .second, .val (.long q3), .second, .val (.int p4), .val (.int p5), .val (.ref b20), .val (.int (p4 &&& (1 : Int32))), .val (.int (v0_38_l12 p5)), .val (.int (v0_57_l13 p4 p5)), .val (.long (v0_66_l14 p5)), .second] [(.long (v0_71_at q0 q1 q2 q3 p4 p5))])) t) => k41 t (st43 _ kk)
  have k45 := fun (t : State) (kk : Steps p.tables e below (T39.setTop (mkF m 78 #[.val (.long q0), .second, .val (.long q1), .second, .val (.long q2), .second, .val (.long q3), .second, .val (.int p4), .val (.int p5), .val (.ref b20), .val (.int (p4 &&& (1 : Int32))), .val (.int (v0_38_l12 p5)), .val (.int (v0_57_l13 p4 p5)), .val (.long (v0_66_l14 p5)), .second] [(.long (v0_66_l14 p5)), (.int (v0_57_l13 p4 p5)), (.int (0 : Int32)), (.long q0), (.long (v0_71_at q0 q1 q2 q3 p4 p5))])) t) => k44 t (by
    show Steps p.tables e below (T39.setTop (mkF m 72 #[.val (.long q0), .second, .val (.long q1), .second, .val (.long q2), .second, .val (.long q3), .second, .val (.int p4), .val (.int p5), .val (.ref b20), .val (.int (p4 &&& (1 : Int32))), .val (.int (v0_38_l12 p5)), .val (.int (v0_57_l13 p4 p5)), .val (.long (v0_66_l14 p5)), .second] [(.long (v0_71_at q0 q1 q2 q3 p4 p5))])) _
    refine XS.lloadN X39.here hx rfl (hb hby at_72) rfl ?_
    show Steps p.tables e below (T39.setTop (mkF m 73 #[.val (.long q0), .second, .val (.long q1), .second, .val (.long q2), .second, .val (.long q3), .second, .val (.int p4), .val (.int p5), .val (.ref b20), .val (.int (p4 &&& (1 : Int32))), .val (.int (v0_38_l12 p5)), .val (.int (v0_57_l13 p4 p5)), .val (.long (v0_66_l14 p5)), .second] [(.long q0), (.long (v0_71_at q0 q1 q2 q3 p4 p5))])) _
    refine XS.iconst X39.here hx rfl (hb hby at_73) ?_
    show Steps p.tables e below (T39.setTop (mkF m 74 #[.val (.long q0), .second, .val (.long q1), .second, .val (.long q2), .second, .val (.long q3), .second, .val (.int p4), .val (.int p5), .val (.ref b20), .val (.int (p4 &&& (1 : Int32))), .val (.int (v0_38_l12 p5)), .val (.int (v0_57_l13 p4 p5)), .val (.long (v0_66_l14 p5)), .second] [(.int (0 : Int32)), (.long q0), (.long (v0_71_at q0 q1 q2 q3 p4 p5))])) _
    refine XS.iload X39.here hx rfl (hb hby at_74) rfl ?_
    show Steps p.tables e below (T39.setTop (mkF m 76 #[.val (.long q0), .second, .val (.long q1), .second, .val (.long q2), .second, .val (.long q3), .second, .val (.int p4), .val (.int p5), .val (.ref b20), .val (.int (p4 &&& (1 : Int32))), .val (.int (v0_38_l12 p5)), .val (.int (v0_57_l13 p4 p5)), .val (.long (v0_66_l14 p5)), .second] [(.int (v0_57_l13 p4 p5)), (.int (0 : Int32)), (.long q0), (.long (v0_71_at q0 q1 q2 q3 p4 p5))])) _
    refine XS.lload X39.here hx rfl (hb hby at_76) rfl ?_
    exact kk)
  have Zz46 : n0 ≤ T39.heap.size := (Nat.le_trans Z0 K39.1)
  obtain ⟨_, _, ⟨T46, L46, k46, n46⟩, -, X46, ⟨Lc46, hQ46, l46, y46, z46⟩, st46⟩ := Jvm.LawKit.callS X39 hx (y := (⟨"com/example/slabrun/slabrun/core/BitmapsClearPinLaw", "same", "(JJIIJ)Z"⟩ : MethodName)) hown (mvT hZ (hw _ (List.mem_of_getElem? (i := 7) rfl))) (mvT hZ (hw _ (List.mem_of_getElem? (i := 8) rfl))) (mvT hZ (hw _ (List.mem_of_getElem? (i := 9) rfl))) (mvT hZ (hw _ (List.mem_of_getElem? (i := 10) rfl))) (by decide) (backOf (W := 0) (rm2 l Z a0 hw [] (v0_71_at q0 q1 q2 q3 p4 p5) q0 (0 : Int32) (v0_57_l13 p4 p5) (v0_66_l14 p5) T39.heap n0 Zz46) hZ (hw _ (List.mem_of_getElem? (i := 10) rfl)) (hw _ (List.mem_of_getElem? (i := 9) rfl)) (by decide) (by decide)) (g := (mkF m 78 #[.val (.long q0), .second, .val (.long q1), .second, .val (.long q2), .second, .val (.long q3), .second, .val (.int p4), .val (.int p5), .val (.ref b20), .val (.int (p4 &&& (1 : Int32))), .val (.int (v0_38_l12 p5)), .val (.int (v0_57_l13 p4 p5)), .val (.long (v0_66_l14 p5)), .second] [(.long (v0_66_l14 p5)), (.int (v0_57_l13 p4 p5)), (.int (0 : Int32)), (.long q0), (.long (v0_71_at q0 q1 q2 q3 p4 p5))])) rfl (by rw [hml]; rfl) (argsL := [(.long (v0_71_at q0 q1 q2 q3 p4 p5)), (.long q0), (.int (0 : Int32)), (.int (v0_57_l13 p4 p5)), (.long (v0_66_l14 p5))]) (rest := []) (lenOf pd_1 rfl) rfl (by show 2 * 0 + _ ≤ _; exact Nat.le_of_eq rfl) (hb hby at_78) (fun _ _ => ⟨rfl, rfl, (by decide : 1 + 0 ≤ _), (by decide : 4 + 0 ≤ _)⟩)
  dsimp only [Pt.U, Pt.locs, Pt.cells, Pt.slots] at X46 l46 y46 z46 st46 hQ46
  subst l46 y46 z46
  obtain ⟨rfl, N46q, e46⟩ := hQ46
  have N46 := Fr.app N39 N46q
  have k47 := fun (t : State) (kk : Steps p.tables e below (T46.setTop (mkF m 81 #[.val (.long q0), .second, .val (.long q1), .second, .val (.long q2), .second, .val (.long q3), .second, .val (.int p4), .val (.int p5), .val (.ref b20), .val (.int (p4 &&& (1 : Int32))), .val (.int (v0_38_l12 p5)), .val (.int (v0_57_l13 p4 p5)), .val (.long (v0_66_l14 p5)), .second] [(.int (v2_ret (v0_71_at q0 q1 q2 q3 p4 p5) q0 (0 : Int32) (v0_57_l13 p4 p5) (v0_66_l14 p5)))])) t) => k45 t (st46 _ kk)
  by_cases hc81_48 : (v2_ret (v0_71_at q0 q1 q2 q3 p4 p5) q0 (0 : Int32) (v0_57_l13 p4 p5) (v0_66_l14 p5)) = (0 : Int32)
  · have k49 := fun (t : State) (kk : Steps p.tables e below (T46.setTop (mkF m 139 #[.val (.long q0), .second, .val (.long q1), .second, .val (.long q2), .second, .val (.long q3), .second, .val (.int p4), .val (.int p5), .val (.ref b20), .val (.int (p4 &&& (1 : Int32))), .val (.int (v0_38_l12 p5)), .val (.int (v0_57_l13 p4 p5)), .val (.long (v0_66_l14 p5)), .second] [(.int (0 : Int32))])) t) => k47 t (by
      show Steps p.tables e below (T46.setTop (mkF m 81 #[.val (.long q0), .second, .val (.long q1), .second, .val (.long q2), .second, .val (.long q3), .second, .val (.int p4), .val (.int p5), .val (.ref b20), .val (.int (p4 &&& (1 : Int32))), .val (.int (v0_38_l12 p5)), .val (.int (v0_57_l13 p4 p5)), .val (.long (v0_66_l14 p5)), .second] [(.int (v2_ret (v0_71_at q0 q1 q2 q3 p4 p5) q0 (0 : Int32) (v0_57_l13 p4 p5) (v0_66_l14 p5)))])) _
      refine XS.ifYes X46.here hx rfl (pc0 := 81) (pc' := 138) rfl (hb hby at_81) rfl ((if0 _ _).trans (teq hc81_48).1) (by decide) (by decide) ?_
      show Steps p.tables e below (T46.setTop (mkF m 138 #[.val (.long q0), .second, .val (.long q1), .second, .val (.long q2), .second, .val (.long q3), .second, .val (.int p4), .val (.int p5), .val (.ref b20), .val (.int (p4 &&& (1 : Int32))), .val (.int (v0_38_l12 p5)), .val (.int (v0_57_l13 p4 p5)), .val (.long (v0_66_l14 p5)), .second] [])) _
      refine XS.iconst X46.here hx rfl (hb hby at_138) ?_
      exact kk)
    obtain ⟨fs, hr, hrun, hended, hW, hsame⟩ := X46.leave (v := some (.int (0 : Int32))) (fun h => by rw [Bd.returns] at h; cases h)
    have hv : (v0_ret q0 q1 q2 q3 p4 p5) = (0 : Int32) := (if_pos hc81_48)
    have hone : (0 : Int32) = 1 := hv.symm.trans (own_law q0 q1 q2 q3 p4 p5)
    exact absurd hone (by decide)
  · have k50 := fun (t : State) (kk : Steps p.tables e below (T46.setTop (mkF m 87 #[.val (.long q0), .second, .val (.long q1), .second, .val (.long q2), .second, .val (.long q3), .second, .val (.int p4), .val (.int p5), .val (.ref b20), .val (.int (p4 &&& (1 : Int32))), .val (.int (v0_38_l12 p5)), .val (.int (v0_57_l13 p4 p5)), .val (.long (v0_66_l14 p5)), .second] [(.int (1 : Int32)), (.ref b20)])) t) => k47 t (by
      show Steps p.tables e below (T46.setTop (mkF m 81 #[.val (.long q0), .second, .val (.long q1), .second, .val (.long q2), .second, .val (.long q3), .second, .val (.int p4), .val (.int p5), .val (.ref b20), .val (.int (p4 &&& (1 : Int32))), .val (.int (v0_38_l12 p5)), .val (.int (v0_57_l13 p4 p5)), .val (.long (v0_66_l14 p5)), .second] [(.int (v2_ret (v0_71_at q0 q1 q2 q3 p4 p5) q0 (0 : Int32) (v0_57_l13 p4 p5) (v0_66_l14 p5)))])) _
      refine XS.ifNo X46.here hx rfl (hb hby at_81) rfl ((if0 _ _).trans (feq hc81_48).1) ?_
      show Steps p.tables e below (T46.setTop (mkF m 84 #[.val (.long q0), .second, .val (.long q1), .second, .val (.long q2), .second, .val (.long q3), .second, .val (.int p4), .val (.int p5), .val (.ref b20), .val (.int (p4 &&& (1 : Int32))), .val (.int (v0_38_l12 p5)), .val (.int (v0_57_l13 p4 p5)), .val (.long (v0_66_l14 p5)), .second] [])) _
      refine XS.aload X46.here hx rfl (hb hby at_84) rfl rfl ?_
      show Steps p.tables e below (T46.setTop (mkF m 86 #[.val (.long q0), .second, .val (.long q1), .second, .val (.long q2), .second, .val (.long q3), .second, .val (.int p4), .val (.int p5), .val (.ref b20), .val (.int (p4 &&& (1 : Int32))), .val (.int (v0_38_l12 p5)), .val (.int (v0_57_l13 p4 p5)), .val (.long (v0_66_l14 p5)), .second] [(.ref b20)])) _
      refine XS.iconst X46.here hx rfl (hb hby at_86) ?_
      exact kk)
    have hV51 := V39n
    obtain ⟨cl51, Ar51, q51, S51, Nn51, H51, G51⟩ := hV51
    have hb52 : ¬ (1 : Int32) < 0 ∧ (1 : Int32) < (4 : Int32) := ⟨by decide, by decide⟩
    have hin52 : ¬ ((1 : Int32) < 0 ∨ cl51.slots.size ≤ ((1 : Int32)).toNatClampNeg) := inb_of S51 hb52
    have hat52 : cl51.slots[((1 : Int32)).toNatClampNeg]? = some (.long (v0_87_at q0 q1 q2 q3 p4 p5)) := Has.at H51 hin52 (own_getD_long _ _ _)
    have st52 := X46.laload hx (j := (1 : Int32)) (v := (.long (v0_87_at q0 q1 q2 q3 p4 p5))) (by rw [e46]; exact Ar51.1) (State.isArrayOf_alike hZ.alike Ar51.2.1) Ar51.2.2 hin52 hat52 (g := (mkF m 87 #[.val (.long q0), .second, .val (.long q1), .second, .val (.long q2), .second, .val (.long q3), .second, .val (.int p4), .val (.int p5), .val (.ref b20), .val (.int (p4 &&& (1 : Int32))), .val (.int (v0_38_l12 p5)), .val (.int (v0_57_l13 p4 p5)), .val (.long (v0_66_l14 p5)), .second] [(.int (1 : Int32)), (.ref b20)])) rfl rfl (hb hby at_87)
    have k53 := fun (t : State) (kk : Steps p.tables e below (T46.setTop (mkF m 88 #[.val (.long q0), .second, .val (.long q1), .second, .val (.long q2), .second, .val (.long q3), .second, .val (.int p4), .val (.int p5), .val (.ref b20), .val (.int (p4 &&& (1 : Int32))), .val (.int (v0_38_l12 p5)), .val (.int (v0_57_l13 p4 p5)), .val (.long (v0_66_l14 p5)), .second] [(.long (v0_87_at q0 q1 q2 q3 p4 p5))])) t) => k50 t (st52 _ kk)
    have k54 := fun (t : State) (kk : Steps p.tables e below (T46.setTop (mkF m 94 #[.val (.long q0), .second, .val (.long q1), .second, .val (.long q2), .second, .val (.long q3), .second, .val (.int p4), .val (.int p5), .val (.ref b20), .val (.int (p4 &&& (1 : Int32))), .val (.int (v0_38_l12 p5)), .val (.int (v0_57_l13 p4 p5)), .val (.long (v0_66_l14 p5)), .second] [(.long (v0_66_l14 p5)), (.int (v0_57_l13 p4 p5)), (.int (1 : Int32)), (.long q1), (.long (v0_87_at q0 q1 q2 q3 p4 p5))])) t) => k53 t (by
      show Steps p.tables e below (T46.setTop (mkF m 88 #[.val (.long q0), .second, .val (.long q1), .second, .val (.long q2), .second, .val (.long q3), .second, .val (.int p4), .val (.int p5), .val (.ref b20), .val (.int (p4 &&& (1 : Int32))), .val (.int (v0_38_l12 p5)), .val (.int (v0_57_l13 p4 p5)), .val (.long (v0_66_l14 p5)), .second] [(.long (v0_87_at q0 q1 q2 q3 p4 p5))])) _
      refine XS.lloadN X46.here hx rfl (hb hby at_88) rfl ?_
      show Steps p.tables e below (T46.setTop (mkF m 89 #[.val (.long q0), .second, .val (.long q1), .second, .val (.long q2), .second, .val (.long q3), .second, .val (.int p4), .val (.int p5), .val (.ref b20), .val (.int (p4 &&& (1 : Int32))), .val (.int (v0_38_l12 p5)), .val (.int (v0_57_l13 p4 p5)), .val (.long (v0_66_l14 p5)), .second] [(.long q1), (.long (v0_87_at q0 q1 q2 q3 p4 p5))])) _
      refine XS.iconst X46.here hx rfl (hb hby at_89) ?_
      show Steps p.tables e below (T46.setTop (mkF m 90 #[.val (.long q0), .second, .val (.long q1), .second, .val (.long q2), .second, .val (.long q3), .second, .val (.int p4), .val (.int p5), .val (.ref b20), .val (.int (p4 &&& (1 : Int32))), .val (.int (v0_38_l12 p5)), .val (.int (v0_57_l13 p4 p5)), .val (.long (v0_66_l14 p5)), .second] [(.int (1 : Int32)), (.long q1), (.long (v0_87_at q0 q1 q2 q3 p4 p5))])) _
      refine XS.iload X46.here hx rfl (hb hby at_90) rfl ?_
      show Steps p.tables e below (T46.setTop (mkF m 92 #[.val (.long q0), .second, .val (.long q1), .second, .val (.long q2), .second, .val (.long q3), .second, .val (.int p4), .val (.int p5), .val (.ref b20), .val (.int (p4 &&& (1 : Int32))), .val (.int (v0_38_l12 p5)), .val (.int (v0_57_l13 p4 p5)), .val (.long (v0_66_l14 p5)), .second] [(.int (v0_57_l13 p4 p5)), (.int (1 : Int32)), (.long q1), (.long (v0_87_at q0 q1 q2 q3 p4 p5))])) _
      refine XS.lload X46.here hx rfl (hb hby at_92) rfl ?_
      exact kk)
    have Zz55 : n0 ≤ T39.heap.size := (Nat.le_trans Z0 K39.1)
    obtain ⟨_, _, ⟨T55, L55, k55, n55⟩, -, X55, ⟨Lc55, hQ55, l55, y55, z55⟩, st55⟩ := Jvm.LawKit.callS X46 hx (y := (⟨"com/example/slabrun/slabrun/core/BitmapsClearPinLaw", "same", "(JJIIJ)Z"⟩ : MethodName)) hown (mvT hZ (hw _ (List.mem_of_getElem? (i := 7) rfl))) (mvT hZ (hw _ (List.mem_of_getElem? (i := 8) rfl))) (mvT hZ (hw _ (List.mem_of_getElem? (i := 9) rfl))) (mvT hZ (hw _ (List.mem_of_getElem? (i := 10) rfl))) (by decide) (backOf (W := 0) (rm2 l Z a0 hw [] (v0_87_at q0 q1 q2 q3 p4 p5) q1 (1 : Int32) (v0_57_l13 p4 p5) (v0_66_l14 p5) T39.heap n0 Zz55) hZ (hw _ (List.mem_of_getElem? (i := 10) rfl)) (hw _ (List.mem_of_getElem? (i := 9) rfl)) (by decide) (by decide)) (g := (mkF m 94 #[.val (.long q0), .second, .val (.long q1), .second, .val (.long q2), .second, .val (.long q3), .second, .val (.int p4), .val (.int p5), .val (.ref b20), .val (.int (p4 &&& (1 : Int32))), .val (.int (v0_38_l12 p5)), .val (.int (v0_57_l13 p4 p5)), .val (.long (v0_66_l14 p5)), .second] [(.long (v0_66_l14 p5)), (.int (v0_57_l13 p4 p5)), (.int (1 : Int32)), (.long q1), (.long (v0_87_at q0 q1 q2 q3 p4 p5))])) rfl (by rw [hml]; rfl) (argsL := [(.long (v0_87_at q0 q1 q2 q3 p4 p5)), (.long q1), (.int (1 : Int32)), (.int (v0_57_l13 p4 p5)), (.long (v0_66_l14 p5))]) (rest := []) (lenOf pd_1 rfl) rfl (by show 2 * 0 + _ ≤ _; exact Nat.le_of_eq rfl) (hb hby at_94) (fun _ _ => ⟨rfl, e46, (by decide : 1 + 0 ≤ _), (by decide : 4 + 0 ≤ _)⟩)
    dsimp only [Pt.U, Pt.locs, Pt.cells, Pt.slots] at X55 l55 y55 z55 st55 hQ55
    subst l55 y55 z55
    obtain ⟨rfl, N55q, e55⟩ := hQ55
    have N55 := Fr.app N46 N55q
    have k56 := fun (t : State) (kk : Steps p.tables e below (T55.setTop (mkF m 97 #[.val (.long q0), .second, .val (.long q1), .second, .val (.long q2), .second, .val (.long q3), .second, .val (.int p4), .val (.int p5), .val (.ref b20), .val (.int (p4 &&& (1 : Int32))), .val (.int (v0_38_l12 p5)), .val (.int (v0_57_l13 p4 p5)), .val (.long (v0_66_l14 p5)), .second] [(.int (v2_ret (v0_87_at q0 q1 q2 q3 p4 p5) q1 (1 : Int32) (v0_57_l13 p4 p5) (v0_66_l14 p5)))])) t) => k54 t (st55 _ kk)
    by_cases hc97_57 : (v2_ret (v0_87_at q0 q1 q2 q3 p4 p5) q1 (1 : Int32) (v0_57_l13 p4 p5) (v0_66_l14 p5)) = (0 : Int32)
    · have k58 := fun (t : State) (kk : Steps p.tables e below (T55.setTop (mkF m 139 #[.val (.long q0), .second, .val (.long q1), .second, .val (.long q2), .second, .val (.long q3), .second, .val (.int p4), .val (.int p5), .val (.ref b20), .val (.int (p4 &&& (1 : Int32))), .val (.int (v0_38_l12 p5)), .val (.int (v0_57_l13 p4 p5)), .val (.long (v0_66_l14 p5)), .second] [(.int (0 : Int32))])) t) => k56 t (by
        show Steps p.tables e below (T55.setTop (mkF m 97 #[.val (.long q0), .second, .val (.long q1), .second, .val (.long q2), .second, .val (.long q3), .second, .val (.int p4), .val (.int p5), .val (.ref b20), .val (.int (p4 &&& (1 : Int32))), .val (.int (v0_38_l12 p5)), .val (.int (v0_57_l13 p4 p5)), .val (.long (v0_66_l14 p5)), .second] [(.int (v2_ret (v0_87_at q0 q1 q2 q3 p4 p5) q1 (1 : Int32) (v0_57_l13 p4 p5) (v0_66_l14 p5)))])) _
        refine XS.ifYes X55.here hx rfl (pc0 := 97) (pc' := 138) rfl (hb hby at_97) rfl ((if0 _ _).trans (teq hc97_57).1) (by decide) (by decide) ?_
        show Steps p.tables e below (T55.setTop (mkF m 138 #[.val (.long q0), .second, .val (.long q1), .second, .val (.long q2), .second, .val (.long q3), .second, .val (.int p4), .val (.int p5), .val (.ref b20), .val (.int (p4 &&& (1 : Int32))), .val (.int (v0_38_l12 p5)), .val (.int (v0_57_l13 p4 p5)), .val (.long (v0_66_l14 p5)), .second] [])) _
        refine XS.iconst X55.here hx rfl (hb hby at_138) ?_
        exact kk)
      obtain ⟨fs, hr, hrun, hended, hW, hsame⟩ := X55.leave (v := some (.int (0 : Int32))) (fun h => by rw [Bd.returns] at h; cases h)
      have hv : (v0_ret q0 q1 q2 q3 p4 p5) = (0 : Int32) := ((if_neg hc81_48).trans (if_pos hc97_57))
      have hone : (0 : Int32) = 1 := hv.symm.trans (own_law q0 q1 q2 q3 p4 p5)
      exact absurd hone (by decide)
    · have k59 := fun (t : State) (kk : Steps p.tables e below (T55.setTop (mkF m 103 #[.val (.long q0), .second, .val (.long q1), .second, .val (.long q2), .second, .val (.long q3), .second, .val (.int p4), .val (.int p5), .val (.ref b20), .val (.int (p4 &&& (1 : Int32))), .val (.int (v0_38_l12 p5)), .val (.int (v0_57_l13 p4 p5)), .val (.long (v0_66_l14 p5)), .second] [(.int (2 : Int32)), (.ref b20)])) t) => k56 t (by
        show Steps p.tables e below (T55.setTop (mkF m 97 #[.val (.long q0), .second, .val (.long q1), .second, .val (.long q2), .second, .val (.long q3), .second, .val (.int p4), .val (.int p5), .val (.ref b20), .val (.int (p4 &&& (1 : Int32))), .val (.int (v0_38_l12 p5)), .val (.int (v0_57_l13 p4 p5)), .val (.long (v0_66_l14 p5)), .second] [(.int (v2_ret (v0_87_at q0 q1 q2 q3 p4 p5) q1 (1 : Int32) (v0_57_l13 p4 p5) (v0_66_l14 p5)))])) _
        refine XS.ifNo X55.here hx rfl (hb hby at_97) rfl ((if0 _ _).trans (feq hc97_57).1) ?_
        show Steps p.tables e below (T55.setTop (mkF m 100 #[.val (.long q0), .second, .val (.long q1), .second, .val (.long q2), .second, .val (.long q3), .second, .val (.int p4), .val (.int p5), .val (.ref b20), .val (.int (p4 &&& (1 : Int32))), .val (.int (v0_38_l12 p5)), .val (.int (v0_57_l13 p4 p5)), .val (.long (v0_66_l14 p5)), .second] [])) _
        refine XS.aload X55.here hx rfl (hb hby at_100) rfl rfl ?_
        show Steps p.tables e below (T55.setTop (mkF m 102 #[.val (.long q0), .second, .val (.long q1), .second, .val (.long q2), .second, .val (.long q3), .second, .val (.int p4), .val (.int p5), .val (.ref b20), .val (.int (p4 &&& (1 : Int32))), .val (.int (v0_38_l12 p5)), .val (.int (v0_57_l13 p4 p5)), .val (.long (v0_66_l14 p5)), .second] [(.ref b20)])) _
        refine XS.iconst X55.here hx rfl (hb hby at_102) ?_
        exact kk)
      have hV60 := V39n
      obtain ⟨cl60, Ar60, q60, S60, Nn60, H60, G60⟩ := hV60
      have hb61 : ¬ (2 : Int32) < 0 ∧ (2 : Int32) < (4 : Int32) := ⟨by decide, by decide⟩
      have hin61 : ¬ ((2 : Int32) < 0 ∨ cl60.slots.size ≤ ((2 : Int32)).toNatClampNeg) := inb_of S60 hb61
      have hat61 : cl60.slots[((2 : Int32)).toNatClampNeg]? = some (.long (v0_103_at q0 q1 q2 q3 p4 p5)) := Has.at H60 hin61 (own_getD_long _ _ _)
      have st61 := X55.laload hx (j := (2 : Int32)) (v := (.long (v0_103_at q0 q1 q2 q3 p4 p5))) (by rw [e55]; exact Ar60.1) (State.isArrayOf_alike hZ.alike Ar60.2.1) Ar60.2.2 hin61 hat61 (g := (mkF m 103 #[.val (.long q0), .second, .val (.long q1), .second, .val (.long q2), .second, .val (.long q3), .second, .val (.int p4), .val (.int p5), .val (.ref b20), .val (.int (p4 &&& (1 : Int32))), .val (.int (v0_38_l12 p5)), .val (.int (v0_57_l13 p4 p5)), .val (.long (v0_66_l14 p5)), .second] [(.int (2 : Int32)), (.ref b20)])) rfl rfl (hb hby at_103)
      have k62 := fun (t : State) (kk : Steps p.tables e below (T55.setTop (mkF m 104 #[.val (.long q0), .second, .val (.long q1), .second, .val (.long q2), .second, .val (.long q3), .second, .val (.int p4), .val (.int p5), .val (.ref b20), .val (.int (p4 &&& (1 : Int32))), .val (.int (v0_38_l12 p5)), .val (.int (v0_57_l13 p4 p5)), .val (.long (v0_66_l14 p5)), .second] [(.long (v0_103_at q0 q1 q2 q3 p4 p5))])) t) => k59 t (st61 _ kk)
      have k63 := fun (t : State) (kk : Steps p.tables e below (T55.setTop (mkF m 111 #[.val (.long q0), .second, .val (.long q1), .second, .val (.long q2), .second, .val (.long q3), .second, .val (.int p4), .val (.int p5), .val (.ref b20), .val (.int (p4 &&& (1 : Int32))), .val (.int (v0_38_l12 p5)), .val (.int (v0_57_l13 p4 p5)), .val (.long (v0_66_l14 p5)), .second] [(.long (v0_66_l14 p5)), (.int (v0_57_l13 p4 p5)), (.int (2 : Int32)), (.long q2), (.long (v0_103_at q0 q1 q2 q3 p4 p5))])) t) => k62 t (by
        show Steps p.tables e below (T55.setTop (mkF m 104 #[.val (.long q0), .second, .val (.long q1), .second, .val (.long q2), .second, .val (.long q3), .second, .val (.int p4), .val (.int p5), .val (.ref b20), .val (.int (p4 &&& (1 : Int32))), .val (.int (v0_38_l12 p5)), .val (.int (v0_57_l13 p4 p5)), .val (.long (v0_66_l14 p5)), .second] [(.long (v0_103_at q0 q1 q2 q3 p4 p5))])) _
        refine XS.lload X55.here hx rfl (hb hby at_104) rfl ?_
        show Steps p.tables e below (T55.setTop (mkF m 106 #[.val (.long q0), .second, .val (.long q1), .second, .val (.long q2), .second, .val (.long q3), .second, .val (.int p4), .val (.int p5), .val (.ref b20), .val (.int (p4 &&& (1 : Int32))), .val (.int (v0_38_l12 p5)), .val (.int (v0_57_l13 p4 p5)), .val (.long (v0_66_l14 p5)), .second] [(.long q2), (.long (v0_103_at q0 q1 q2 q3 p4 p5))])) _
        refine XS.iconst X55.here hx rfl (hb hby at_106) ?_
        show Steps p.tables e below (T55.setTop (mkF m 107 #[.val (.long q0), .second, .val (.long q1), .second, .val (.long q2), .second, .val (.long q3), .second, .val (.int p4), .val (.int p5), .val (.ref b20), .val (.int (p4 &&& (1 : Int32))), .val (.int (v0_38_l12 p5)), .val (.int (v0_57_l13 p4 p5)), .val (.long (v0_66_l14 p5)), .second] [(.int (2 : Int32)), (.long q2), (.long (v0_103_at q0 q1 q2 q3 p4 p5))])) _
        refine XS.iload X55.here hx rfl (hb hby at_107) rfl ?_
        show Steps p.tables e below (T55.setTop (mkF m 109 #[.val (.long q0), .second, .val (.long q1), .second, .val (.long q2), .second, .val (.long q3), .second, .val (.int p4), .val (.int p5), .val (.ref b20), .val (.int (p4 &&& (1 : Int32))), .val (.int (v0_38_l12 p5)), .val (.int (v0_57_l13 p4 p5)), .val (.long (v0_66_l14 p5)), .second] [(.int (v0_57_l13 p4 p5)), (.int (2 : Int32)), (.long q2), (.long (v0_103_at q0 q1 q2 q3 p4 p5))])) _
        refine XS.lload X55.here hx rfl (hb hby at_109) rfl ?_
        exact kk)
      have Zz64 : n0 ≤ T39.heap.size := (Nat.le_trans Z0 K39.1)
      obtain ⟨_, _, ⟨T64, L64, k64, n64⟩, -, X64, ⟨Lc64, hQ64, l64, y64, z64⟩, st64⟩ := Jvm.LawKit.callS X55 hx (y := (⟨"com/example/slabrun/slabrun/core/BitmapsClearPinLaw", "same", "(JJIIJ)Z"⟩ : MethodName)) hown (mvT hZ (hw _ (List.mem_of_getElem? (i := 7) rfl))) (mvT hZ (hw _ (List.mem_of_getElem? (i := 8) rfl))) (mvT hZ (hw _ (List.mem_of_getElem? (i := 9) rfl))) (mvT hZ (hw _ (List.mem_of_getElem? (i := 10) rfl))) (by decide) (backOf (W := 0) (rm2 l Z a0 hw [] (v0_103_at q0 q1 q2 q3 p4 p5) q2 (2 : Int32) (v0_57_l13 p4 p5) (v0_66_l14 p5) T39.heap n0 Zz64) hZ (hw _ (List.mem_of_getElem? (i := 10) rfl)) (hw _ (List.mem_of_getElem? (i := 9) rfl)) (by decide) (by decide)) (g := (mkF m 111 #[.val (.long q0), .second, .val (.long q1), .second, .val (.long q2), .second, .val (.long q3), .second, .val (.int p4), .val (.int p5), .val (.ref b20), .val (.int (p4 &&& (1 : Int32))), .val (.int (v0_38_l12 p5)), .val (.int (v0_57_l13 p4 p5)), .val (.long (v0_66_l14 p5)), .second] [(.long (v0_66_l14 p5)), (.int (v0_57_l13 p4 p5)), (.int (2 : Int32)), (.long q2), (.long (v0_103_at q0 q1 q2 q3 p4 p5))])) rfl (by rw [hml]; rfl) (argsL := [(.long (v0_103_at q0 q1 q2 q3 p4 p5)), (.long q2), (.int (2 : Int32)), (.int (v0_57_l13 p4 p5)), (.long (v0_66_l14 p5))]) (rest := []) (lenOf pd_1 rfl) rfl (by show 2 * 0 + _ ≤ _; exact Nat.le_of_eq rfl) (hb hby at_111) (fun _ _ => ⟨rfl, e55, (by decide : 1 + 0 ≤ _), (by decide : 4 + 0 ≤ _)⟩)
      dsimp only [Pt.U, Pt.locs, Pt.cells, Pt.slots] at X64 l64 y64 z64 st64 hQ64
      subst l64 y64 z64
      obtain ⟨rfl, N64q, e64⟩ := hQ64
      have N64 := Fr.app N55 N64q
      have k65 := fun (t : State) (kk : Steps p.tables e below (T64.setTop (mkF m 114 #[.val (.long q0), .second, .val (.long q1), .second, .val (.long q2), .second, .val (.long q3), .second, .val (.int p4), .val (.int p5), .val (.ref b20), .val (.int (p4 &&& (1 : Int32))), .val (.int (v0_38_l12 p5)), .val (.int (v0_57_l13 p4 p5)), .val (.long (v0_66_l14 p5)), .second] [(.int (v2_ret (v0_103_at q0 q1 q2 q3 p4 p5) q2 (2 : Int32) (v0_57_l13 p4 p5) (v0_66_l14 p5)))])) t) => k63 t (st64 _ kk)
      by_cases hc114_66 : (v2_ret (v0_103_at q0 q1 q2 q3 p4 p5) q2 (2 : Int32) (v0_57_l13 p4 p5) (v0_66_l14 p5)) = (0 : Int32)
      · have k67 := fun (t : State) (kk : Steps p.tables e below (T64.setTop (mkF m 139 #[.val (.long q0), .second, .val (.long q1), .second, .val (.long q2), .second, .val (.long q3), .second, .val (.int p4), .val (.int p5), .val (.ref b20), .val (.int (p4 &&& (1 : Int32))), .val (.int (v0_38_l12 p5)), .val (.int (v0_57_l13 p4 p5)), .val (.long (v0_66_l14 p5)), .second] [(.int (0 : Int32))])) t) => k65 t (by
          show Steps p.tables e below (T64.setTop (mkF m 114 #[.val (.long q0), .second, .val (.long q1), .second, .val (.long q2), .second, .val (.long q3), .second, .val (.int p4), .val (.int p5), .val (.ref b20), .val (.int (p4 &&& (1 : Int32))), .val (.int (v0_38_l12 p5)), .val (.int (v0_57_l13 p4 p5)), .val (.long (v0_66_l14 p5)), .second] [(.int (v2_ret (v0_103_at q0 q1 q2 q3 p4 p5) q2 (2 : Int32) (v0_57_l13 p4 p5) (v0_66_l14 p5)))])) _
          refine XS.ifYes X64.here hx rfl (pc0 := 114) (pc' := 138) rfl (hb hby at_114) rfl ((if0 _ _).trans (teq hc114_66).1) (by decide) (by decide) ?_
          show Steps p.tables e below (T64.setTop (mkF m 138 #[.val (.long q0), .second, .val (.long q1), .second, .val (.long q2), .second, .val (.long q3), .second, .val (.int p4), .val (.int p5), .val (.ref b20), .val (.int (p4 &&& (1 : Int32))), .val (.int (v0_38_l12 p5)), .val (.int (v0_57_l13 p4 p5)), .val (.long (v0_66_l14 p5)), .second] [])) _
          refine XS.iconst X64.here hx rfl (hb hby at_138) ?_
          exact kk)
        obtain ⟨fs, hr, hrun, hended, hW, hsame⟩ := X64.leave (v := some (.int (0 : Int32))) (fun h => by rw [Bd.returns] at h; cases h)
        have hv : (v0_ret q0 q1 q2 q3 p4 p5) = (0 : Int32) := ((if_neg hc81_48).trans ((if_neg hc97_57).trans (if_pos hc114_66)))
        have hone : (0 : Int32) = 1 := hv.symm.trans (own_law q0 q1 q2 q3 p4 p5)
        exact absurd hone (by decide)
      · have k68 := fun (t : State) (kk : Steps p.tables e below (T64.setTop (mkF m 120 #[.val (.long q0), .second, .val (.long q1), .second, .val (.long q2), .second, .val (.long q3), .second, .val (.int p4), .val (.int p5), .val (.ref b20), .val (.int (p4 &&& (1 : Int32))), .val (.int (v0_38_l12 p5)), .val (.int (v0_57_l13 p4 p5)), .val (.long (v0_66_l14 p5)), .second] [(.int (3 : Int32)), (.ref b20)])) t) => k65 t (by
          show Steps p.tables e below (T64.setTop (mkF m 114 #[.val (.long q0), .second, .val (.long q1), .second, .val (.long q2), .second, .val (.long q3), .second, .val (.int p4), .val (.int p5), .val (.ref b20), .val (.int (p4 &&& (1 : Int32))), .val (.int (v0_38_l12 p5)), .val (.int (v0_57_l13 p4 p5)), .val (.long (v0_66_l14 p5)), .second] [(.int (v2_ret (v0_103_at q0 q1 q2 q3 p4 p5) q2 (2 : Int32) (v0_57_l13 p4 p5) (v0_66_l14 p5)))])) _
          refine XS.ifNo X64.here hx rfl (hb hby at_114) rfl ((if0 _ _).trans (feq hc114_66).1) ?_
          show Steps p.tables e below (T64.setTop (mkF m 117 #[.val (.long q0), .second, .val (.long q1), .second, .val (.long q2), .second, .val (.long q3), .second, .val (.int p4), .val (.int p5), .val (.ref b20), .val (.int (p4 &&& (1 : Int32))), .val (.int (v0_38_l12 p5)), .val (.int (v0_57_l13 p4 p5)), .val (.long (v0_66_l14 p5)), .second] [])) _
          refine XS.aload X64.here hx rfl (hb hby at_117) rfl rfl ?_
          show Steps p.tables e below (T64.setTop (mkF m 119 #[.val (.long q0), .second, .val (.long q1), .second, .val (.long q2), .second, .val (.long q3), .second, .val (.int p4), .val (.int p5), .val (.ref b20), .val (.int (p4 &&& (1 : Int32))), .val (.int (v0_38_l12 p5)), .val (.int (v0_57_l13 p4 p5)), .val (.long (v0_66_l14 p5)), .second] [(.ref b20)])) _
          refine XS.iconst X64.here hx rfl (hb hby at_119) ?_
          exact kk)
        have hV69 := V39n
        obtain ⟨cl69, Ar69, q69, S69, Nn69, H69, G69⟩ := hV69
        have hb70 : ¬ (3 : Int32) < 0 ∧ (3 : Int32) < (4 : Int32) := ⟨by decide, by decide⟩
        have hin70 : ¬ ((3 : Int32) < 0 ∨ cl69.slots.size ≤ ((3 : Int32)).toNatClampNeg) := inb_of S69 hb70
        have hat70 : cl69.slots[((3 : Int32)).toNatClampNeg]? = some (.long (v0_120_at q0 q1 q2 q3 p4 p5)) := Has.at H69 hin70 (own_getD_long _ _ _)
        have st70 := X64.laload hx (j := (3 : Int32)) (v := (.long (v0_120_at q0 q1 q2 q3 p4 p5))) (by rw [e64]; exact Ar69.1) (State.isArrayOf_alike hZ.alike Ar69.2.1) Ar69.2.2 hin70 hat70 (g := (mkF m 120 #[.val (.long q0), .second, .val (.long q1), .second, .val (.long q2), .second, .val (.long q3), .second, .val (.int p4), .val (.int p5), .val (.ref b20), .val (.int (p4 &&& (1 : Int32))), .val (.int (v0_38_l12 p5)), .val (.int (v0_57_l13 p4 p5)), .val (.long (v0_66_l14 p5)), .second] [(.int (3 : Int32)), (.ref b20)])) rfl rfl (hb hby at_120)
        have k71 := fun (t : State) (kk : Steps p.tables e below (T64.setTop (mkF m 121 #[.val (.long q0), .second, .val (.long q1), .second, .val (.long q2), .second, .val (.long q3), .second, .val (.int p4), .val (.int p5), .val (.ref b20), .val (.int (p4 &&& (1 : Int32))), .val (.int (v0_38_l12 p5)), .val (.int (v0_57_l13 p4 p5)), .val (.long (v0_66_l14 p5)), .second] [(.long (v0_120_at q0 q1 q2 q3 p4 p5))])) t) => k68 t (st70 _ kk)
        have k72 := fun (t : State) (kk : Steps p.tables e below (T64.setTop (mkF m 128 #[.val (.long q0), .second, .val (.long q1), .second, .val (.long q2), .second, .val (.long q3), .second, .val (.int p4), .val (.int p5), .val (.ref b20), .val (.int (p4 &&& (1 : Int32))), .val (.int (v0_38_l12 p5)), .val (.int (v0_57_l13 p4 p5)), .val (.long (v0_66_l14 p5)), .second] [(.long (v0_66_l14 p5)), (.int (v0_57_l13 p4 p5)), (.int (3 : Int32)), (.long q3), (.long (v0_120_at q0 q1 q2 q3 p4 p5))])) t) => k71 t (by
          show Steps p.tables e below (T64.setTop (mkF m 121 #[.val (.long q0), .second, .val (.long q1), .second, .val (.long q2), .second, .val (.long q3), .second, .val (.int p4), .val (.int p5), .val (.ref b20), .val (.int (p4 &&& (1 : Int32))), .val (.int (v0_38_l12 p5)), .val (.int (v0_57_l13 p4 p5)), .val (.long (v0_66_l14 p5)), .second] [(.long (v0_120_at q0 q1 q2 q3 p4 p5))])) _
          refine XS.lload X64.here hx rfl (hb hby at_121) rfl ?_
          show Steps p.tables e below (T64.setTop (mkF m 123 #[.val (.long q0), .second, .val (.long q1), .second, .val (.long q2), .second, .val (.long q3), .second, .val (.int p4), .val (.int p5), .val (.ref b20), .val (.int (p4 &&& (1 : Int32))), .val (.int (v0_38_l12 p5)), .val (.int (v0_57_l13 p4 p5)), .val (.long (v0_66_l14 p5)), .second] [(.long q3), (.long (v0_120_at q0 q1 q2 q3 p4 p5))])) _
          refine XS.iconst X64.here hx rfl (hb hby at_123) ?_
          show Steps p.tables e below (T64.setTop (mkF m 124 #[.val (.long q0), .second, .val (.long q1), .second, .val (.long q2), .second, .val (.long q3), .second, .val (.int p4), .val (.int p5), .val (.ref b20), .val (.int (p4 &&& (1 : Int32))), .val (.int (v0_38_l12 p5)), .val (.int (v0_57_l13 p4 p5)), .val (.long (v0_66_l14 p5)), .second] [(.int (3 : Int32)), (.long q3), (.long (v0_120_at q0 q1 q2 q3 p4 p5))])) _
          refine XS.iload X64.here hx rfl (hb hby at_124) rfl ?_
          show Steps p.tables e below (T64.setTop (mkF m 126 #[.val (.long q0), .second, .val (.long q1), .second, .val (.long q2), .second, .val (.long q3), .second, .val (.int p4), .val (.int p5), .val (.ref b20), .val (.int (p4 &&& (1 : Int32))), .val (.int (v0_38_l12 p5)), .val (.int (v0_57_l13 p4 p5)), .val (.long (v0_66_l14 p5)), .second] [(.int (v0_57_l13 p4 p5)), (.int (3 : Int32)), (.long q3), (.long (v0_120_at q0 q1 q2 q3 p4 p5))])) _
          refine XS.lload X64.here hx rfl (hb hby at_126) rfl ?_
          exact kk)
        have Zz73 : n0 ≤ T39.heap.size := (Nat.le_trans Z0 K39.1)
        obtain ⟨_, _, ⟨T73, L73, k73, n73⟩, -, X73, ⟨Lc73, hQ73, l73, y73, z73⟩, st73⟩ := Jvm.LawKit.callS X64 hx (y := (⟨"com/example/slabrun/slabrun/core/BitmapsClearPinLaw", "same", "(JJIIJ)Z"⟩ : MethodName)) hown (mvT hZ (hw _ (List.mem_of_getElem? (i := 7) rfl))) (mvT hZ (hw _ (List.mem_of_getElem? (i := 8) rfl))) (mvT hZ (hw _ (List.mem_of_getElem? (i := 9) rfl))) (mvT hZ (hw _ (List.mem_of_getElem? (i := 10) rfl))) (by decide) (backOf (W := 0) (rm2 l Z a0 hw [] (v0_120_at q0 q1 q2 q3 p4 p5) q3 (3 : Int32) (v0_57_l13 p4 p5) (v0_66_l14 p5) T39.heap n0 Zz73) hZ (hw _ (List.mem_of_getElem? (i := 10) rfl)) (hw _ (List.mem_of_getElem? (i := 9) rfl)) (by decide) (by decide)) (g := (mkF m 128 #[.val (.long q0), .second, .val (.long q1), .second, .val (.long q2), .second, .val (.long q3), .second, .val (.int p4), .val (.int p5), .val (.ref b20), .val (.int (p4 &&& (1 : Int32))), .val (.int (v0_38_l12 p5)), .val (.int (v0_57_l13 p4 p5)), .val (.long (v0_66_l14 p5)), .second] [(.long (v0_66_l14 p5)), (.int (v0_57_l13 p4 p5)), (.int (3 : Int32)), (.long q3), (.long (v0_120_at q0 q1 q2 q3 p4 p5))])) rfl (by rw [hml]; rfl) (argsL := [(.long (v0_120_at q0 q1 q2 q3 p4 p5)), (.long q3), (.int (3 : Int32)), (.int (v0_57_l13 p4 p5)), (.long (v0_66_l14 p5))]) (rest := []) (lenOf pd_1 rfl) rfl (by show 2 * 0 + _ ≤ _; exact Nat.le_of_eq rfl) (hb hby at_128) (fun _ _ => ⟨rfl, e64, (by decide : 1 + 0 ≤ _), (by decide : 4 + 0 ≤ _)⟩)
        dsimp only [Pt.U, Pt.locs, Pt.cells, Pt.slots] at X73 l73 y73 z73 st73 hQ73
        subst l73 y73 z73
        obtain ⟨rfl, N73q, e73⟩ := hQ73
        have N73 := Fr.app N64 N73q
        have k74 := fun (t : State) (kk : Steps p.tables e below (T73.setTop (mkF m 131 #[.val (.long q0), .second, .val (.long q1), .second, .val (.long q2), .second, .val (.long q3), .second, .val (.int p4), .val (.int p5), .val (.ref b20), .val (.int (p4 &&& (1 : Int32))), .val (.int (v0_38_l12 p5)), .val (.int (v0_57_l13 p4 p5)), .val (.long (v0_66_l14 p5)), .second] [(.int (v2_ret (v0_120_at q0 q1 q2 q3 p4 p5) q3 (3 : Int32) (v0_57_l13 p4 p5) (v0_66_l14 p5)))])) t) => k72 t (st73 _ kk)
        have k77 := fun (t : State) (kk : Steps p.tables e below (T73.setTop (mkF m 139 #[.val (.long q0), .second, .val (.long q1), .second, .val (.long q2), .second, .val (.long q3), .second, .val (.int p4), .val (.int p5), .val (.ref b20), .val (.int (p4 &&& (1 : Int32))), .val (.int (v0_38_l12 p5)), .val (.int (v0_57_l13 p4 p5)), .val (.long (v0_66_l14 p5)), .second] [(.int (v0_131_s0 q0 q1 q2 q3 p4 p5))])) t) => k74 t (by
          suffices k76 : Steps p.tables e below (T73.setTop (mkF m 139 #[.val (.long q0), .second, .val (.long q1), .second, .val (.long q2), .second, .val (.long q3), .second, .val (.int p4), .val (.int p5), .val (.ref b20), .val (.int (p4 &&& (1 : Int32))), .val (.int (v0_38_l12 p5)), .val (.int (v0_57_l13 p4 p5)), .val (.long (v0_66_l14 p5)), .second] [(.int (v0_131_s0 q0 q1 q2 q3 p4 p5))])) t by
            by_cases hc131_75 : (v2_ret (v0_120_at q0 q1 q2 q3 p4 p5) q3 (3 : Int32) (v0_57_l13 p4 p5) (v0_66_l14 p5)) = (0 : Int32)
            · rw [(show (v0_131_s0 q0 q1 q2 q3 p4 p5) = (0 : Int32) from if_pos hc131_75)] at k76
              show Steps p.tables e below (T73.setTop (mkF m 131 #[.val (.long q0), .second, .val (.long q1), .second, .val (.long q2), .second, .val (.long q3), .second, .val (.int p4), .val (.int p5), .val (.ref b20), .val (.int (p4 &&& (1 : Int32))), .val (.int (v0_38_l12 p5)), .val (.int (v0_57_l13 p4 p5)), .val (.long (v0_66_l14 p5)), .second] [(.int (v2_ret (v0_120_at q0 q1 q2 q3 p4 p5) q3 (3 : Int32) (v0_57_l13 p4 p5) (v0_66_l14 p5)))])) _
              refine XS.ifYes X73.here hx rfl (pc0 := 131) (pc' := 138) rfl (hb hby at_131) rfl ((if0 _ _).trans (teq hc131_75).1) (by decide) (by decide) ?_
              show Steps p.tables e below (T73.setTop (mkF m 138 #[.val (.long q0), .second, .val (.long q1), .second, .val (.long q2), .second, .val (.long q3), .second, .val (.int p4), .val (.int p5), .val (.ref b20), .val (.int (p4 &&& (1 : Int32))), .val (.int (v0_38_l12 p5)), .val (.int (v0_57_l13 p4 p5)), .val (.long (v0_66_l14 p5)), .second] [])) _
              refine XS.iconst X73.here hx rfl (hb hby at_138) ?_
              exact k76
            · rw [(show (v0_131_s0 q0 q1 q2 q3 p4 p5) = (1 : Int32) from if_neg hc131_75)] at k76
              show Steps p.tables e below (T73.setTop (mkF m 131 #[.val (.long q0), .second, .val (.long q1), .second, .val (.long q2), .second, .val (.long q3), .second, .val (.int p4), .val (.int p5), .val (.ref b20), .val (.int (p4 &&& (1 : Int32))), .val (.int (v0_38_l12 p5)), .val (.int (v0_57_l13 p4 p5)), .val (.long (v0_66_l14 p5)), .second] [(.int (v2_ret (v0_120_at q0 q1 q2 q3 p4 p5) q3 (3 : Int32) (v0_57_l13 p4 p5) (v0_66_l14 p5)))])) _
              refine XS.ifNo X73.here hx rfl (hb hby at_131) rfl ((if0 _ _).trans (feq hc131_75).1) ?_
              show Steps p.tables e below (T73.setTop (mkF m 134 #[.val (.long q0), .second, .val (.long q1), .second, .val (.long q2), .second, .val (.long q3), .second, .val (.int p4), .val (.int p5), .val (.ref b20), .val (.int (p4 &&& (1 : Int32))), .val (.int (v0_38_l12 p5)), .val (.int (v0_57_l13 p4 p5)), .val (.long (v0_66_l14 p5)), .second] [])) _
              refine XS.iconst X73.here hx rfl (hb hby at_134) ?_
              show Steps p.tables e below (T73.setTop (mkF m 135 #[.val (.long q0), .second, .val (.long q1), .second, .val (.long q2), .second, .val (.long q3), .second, .val (.int p4), .val (.int p5), .val (.ref b20), .val (.int (p4 &&& (1 : Int32))), .val (.int (v0_38_l12 p5)), .val (.int (v0_57_l13 p4 p5)), .val (.long (v0_66_l14 p5)), .second] [(.int (1 : Int32))])) _
              refine XS.goto X73.here hx rfl (pc0 := 135) (pc' := 139) rfl (hb hby at_135) (by decide) (by decide) ?_
              exact k76
          exact kk)
        obtain ⟨fs, hr, hrun, hended, hW, hsame⟩ := X73.leave (v := some (.int (nar .boolean (v0_131_s0 q0 q1 q2 q3 p4 p5)))) (fun h => by rw [Bd.returns] at h; cases h)
        have hv : (v0_ret q0 q1 q2 q3 p4 p5) = (nar .boolean (v0_131_s0 q0 q1 q2 q3 p4 p5)) := ((if_neg hc81_48).trans ((if_neg hc97_57).trans (if_neg hc114_66)))
        have hone : (nar .boolean (v0_131_s0 q0 q1 q2 q3 p4 p5)) = 1 := hv.symm.trans (own_law q0 q1 q2 q3 p4 p5)
        refine ⟨_, _, k77 _ ?_, hrun, hended, _, _, rfl, ?_, ⟨_, rfl⟩, hW, hsame.mono (by decide) (by decide)⟩
        · show Steps p.tables e below (T73.setTop (mkF m 139 #[.val (.long q0), .second, .val (.long q1), .second, .val (.long q2), .second, .val (.long q3), .second, .val (.int p4), .val (.int p5), .val (.ref b20), .val (.int (p4 &&& (1 : Int32))), .val (.int (v0_38_l12 p5)), .val (.int (v0_57_l13 p4 p5)), .val (.long (v0_66_l14 p5)), .second] [(.int (v0_131_s0 q0 q1 q2 q3 p4 p5))])) _
          exact retN X73 hx (t := .boolean) Bd.returns (by simp) (hb hby at_139) hr
        · show Q0 Z q0 q1 q2 q3 p4 p5 h0 n0 _ T73.heap _
          rw [e73]
          exact ⟨congrArg (fun z => some (Value.int z)) hone, N73⟩
set_option maxRecDepth 65536 in
set_option maxHeartbeats 40000000 in
theorem comes_1 {Post : Tables → Env → Array Value → State → Outcome → State → Prop} (hpost : ∀ tb e args s v u, (limb_1_1.after args s (.returned v) u = true ∧ limb_1_2.after args s (.returned v) u = true ∧ True) → FrameEnd s (.returned v) u (Jvm.fieldLocs frame_1_writes args s ++ Jvm.arrayLocs frame_1_arrays args s ++ Jvm.staticLocs frame_1_statics s) 16 128 → Post tb e args s (.returned v) u) :
    ArmFor flags0 classFile x code maxLocals ret World_1 tables_1 room_1 Calls_1 rest_1 Pre_1 Post := by
  intro l hfl _ _ p e ha hc hk s m args below hf hA hF happ hP
  obtain ⟨hcalls, hrest, hpre⟩ := hP
  obtain ⟨-, -, -, hnamed, -, -, -, hat⟩ := (Spec.applies_iff hf).mp happ
  obtain ⟨hg, hn⟩ := and_e (Cond.before_iff.mp (show (Jvm.Cond.and given_1 narrow_1).before args s = true from hpre))
  obtain ⟨hcnt, hg0⟩ := and_e hg
  obtain ⟨ha0, hg1⟩ := and_e hg0
  obtain ⟨ha1, hg2⟩ := and_e hg1
  obtain ⟨ha2, hg3⟩ := and_e hg2
  obtain ⟨ha3, hg4⟩ := and_e hg3
  obtain ⟨ha4, hg5⟩ := and_e hg4
  have ha5 := hg5
  obtain ⟨w0, w1, w2, w3, w4, w5, rfl⟩ : ∃ w0 w1 w2 w3 w4 w5 : Value, args = #[w0, w1, w2, w3, w4, w5] := by
    have hs : args.size = 6 := by simpa [Cond.value, given_1] using hcnt
    obtain ⟨L⟩ := args
    match L, hs with
    | [w0, w1, w2, w3, w4, w5], _ => exact ⟨w0, w1, w2, w3, w4, w5, rfl⟩
  have hw := fun d (hd : d ∈ tables_1) => atoms_spec (ws := Jvm.Cond.code x code maxLocals ret :: tables_1) hat d (List.mem_cons_of_mem _ hd)
  have hfit : Fit s := fun {y c} hc i hi => by
    obtain ⟨ha, rfl⟩ := Array.getElem?_eq_some_iff.mp hc
    have q := List.all_eq_true.mp ((Array.all_eq_true_iff_forall_mem.mp hF) _ (Array.getElem_mem ha)) i (List.mem_range.mpr hi)
    simpa [Array.getElem?_eq_getElem hi] using q
  obtain ⟨q0, ea0⟩ := isL_v ha0
  obtain rfl : w0 = (.long q0) := Option.some.inj ea0
  obtain ⟨q1, ea1⟩ := isL_v ha1
  obtain rfl : w1 = (.long q1) := Option.some.inj ea1
  obtain ⟨q2, ea2⟩ := isL_v ha2
  obtain rfl : w2 = (.long q2) := Option.some.inj ea2
  obtain ⟨q3, ea3⟩ := isL_v ha3
  obtain rfl : w3 = (.long q3) := Option.some.inj ea3
  obtain ⟨p4, ea4⟩ := is_v ha4
  obtain rfl : w4 = (.int p4) := Option.some.inj ea4
  obtain ⟨p5, ea5⟩ := is_v ha5
  obtain rfl : w5 = (.int p5) := Option.some.inj ea5
  obtain ⟨n, o, h1, h2, h3, _, L, rfl, ⟨rfl, N⟩, hq⟩ := rm0 l s _ hw tables_1 q0 q1 q2 q3 p4 p5 s.heap s.heap.size (Nat.le_refl _)  p e ha hc hk s m _ below hf ((Spec.applies_iff_loose hf).mp happ).1 ⟨rfl, State.Warmed39.refl s, rfl⟩ trivial
  refine ⟨n, _, h1, h2, h3, hpost _ _ _ _ _ _ ⟨Cond.after_iff.mpr rfl, Cond.after_iff.mpr (eq_i res_at (Term.int_eval (1)) rfl), trivial⟩ ⟨hq.1, hq.2.1, (hq.2.2.sift fun y hy => Or.inr (N y hy)).mono (by decide) (by decide)⟩⟩
theorem main_1_1 : Claimed_1_1 := comes_1 fun _ _ _ _ _ _ h hF => ⟨h.1, hF⟩
theorem main_1_2 : Claimed_1_2 := comes_1 fun _ _ _ _ _ _ h hF => ⟨h.2.1, hF⟩
end Jvm.Pilot.@@N@@
namespace Jvm.Pilot.@@N@@
open Jvm Jvm.ClassFile Sem Op Lib Jvm.Free Jvm.Stand Jvm.Pilot.@@N@@.Jvm.D
/-! MADE BY PROGRAM (witnessworld.py) out of the Statement's table words and the real class files: 11 classes; the members and pool entries that the words name. The judged class is class 1, her method 1. -/
namespace start1
open Jvm.ClassFile
def u (s : String) : CpInfo := .utf8 (stringToUtf16 s)
/-- a pool by its gaps: so many unusable entries, then the entry; so many at the end -/
def gap : Nat → List CpInfo → List CpInfo
  | 0, r => r
  | n + 1, r => .unusable :: gap n r
def poolList (es : List (Nat × CpInfo)) (last : Nat) : List CpInfo := es.foldr (fun e r => gap e.1 (e.2 :: r)) (gap last [])
def pool (es : List (Nat × CpInfo)) (last : Nat) : Array CpInfo := ⟨poolList es last⟩
def fileOf (pool : Array CpInfo) (this : Nat) (attrs : Array Attribute := #[]) (ms : Array MethodInfo := #[]) (fl : Nat := 33) (sup : Nat := 0) (ifs : Array Nat := #[]) (fds : Array FieldInfo := #[]) : ClassFile where
  minorVersion := 0
  majorVersion := 65
  constantPool := pool
  accessFlags := fl
  thisClass := this
  superClass := sup
  interfaces := ifs
  fields := fds
  methods := ms
  attributes := attrs
def plain (name : String) (sup : Option ClassId) : Class where
  name := name
  kind := .ordinary
  loader := none
  accessFlags := 33
  super := sup
  interfaces := #[]
  cf := none
  fields := #[]
  methods := #[]
  instanceTypes := #[]
  staticTypes := #[]
  resolved := #[]
  callSites := []
  init := .initialized
  statics := none
  mirror := none

def pool0 : Array CpInfo := pool [(5, u "<init>"), (0, u "()V"), (1, .class_ 10), (1, u "java/lang/Object")] 113

def k0m0 : Method := { name := "<init>", desc := "()V", sig := { parameters := [], returnType := none }, accessFlags := 1, code := none }
/-- java/lang/Object -/
def k0 : Class := { plain "java/lang/Object" none with
  accessFlags := 33
  interfaces := #[]
  cf := some (fileOf pool0 8 #[] #[{ accessFlags := 1, nameIndex := 5, descriptorIndex := 6, attributes := #[] }] 33 0 #[] #[])
  fields := #[]
  methods := #[k0m0]
  instanceTypes := #[]
  staticTypes := #[]
  resolved := Array.replicate 124 none
  statics := none }

def pool1 : Array CpInfo := pool [(2, .class_ 4), (1, u "java/lang/Object"), (0, u "<init>"), (0, u "()V"), (0, .integer 2147483647), (0, .methodref 9 10), (0, .class_ 11), (0, .nameAndType 12 13), (0, u "com/example/slabrun/slabrun/core/Bitmaps"), (0, u "clear"), (0, u "([JII)V"), (0, .methodref 15 16), (0, .class_ 17), (0, .nameAndType 18 19), (0, u "com/example/slabrun/slabrun/core/BitmapsClearPinLaw"), (0, u "same"), (0, u "(JJIIJ)Z"), (2, u "law"), (0, u "(JJJJII)Z")] 5

def k1m0 : Method := { name := "<init>", desc := "()V", sig := { parameters := [], returnType := none }, accessFlags := 1, code := none }
def k1c1 : Code := { maxStack := 8, maxLocals := 16, code := code, exceptionTable := #[], attributes := #[] }
def k1m1 : Method := { name := "law", desc := "(JJJJII)Z", sig := { parameters := [.long, .long, .long, .long, .int, .int], returnType := some .boolean }, accessFlags := 9, code := some k1c1 }
def k1c2 : Code := { maxStack := 6, maxLocals := 8, code := method_3_code, exceptionTable := #[], attributes := #[] }
def k1m2 : Method := { name := "same", desc := "(JJIIJ)Z", sig := { parameters := [.long, .long, .int, .int, .long], returnType := some .boolean }, accessFlags := 10, code := some k1c2 }
/-- com/example/slabrun/slabrun/core/BitmapsClearPinLaw -/
def k1 : Class := { plain "com/example/slabrun/slabrun/core/BitmapsClearPinLaw" (some 0) with
  accessFlags := 49
  interfaces := #[]
  cf := some (fileOf pool1 15 #[] #[{ accessFlags := 1, nameIndex := 5, descriptorIndex := 6, attributes := #[] }, { accessFlags := 9, nameIndex := 22, descriptorIndex := 23, attributes := #[] }, { accessFlags := 10, nameIndex := 18, descriptorIndex := 19, attributes := #[] }] 49 2 #[] #[])
  fields := #[]
  methods := #[k1m0, k1m1, k1m2]
  instanceTypes := #[]
  staticTypes := #[]
  resolved := Array.replicate 29 none
  statics := none }

def pool2 : Array CpInfo := pool [(2, .class_ 4), (1, u "java/lang/Object"), (0, u "<init>"), (0, u "()V"), (2, .long 18446744073709551615), (2, .class_ 14), (1, u "com/example/slabrun/slabrun/core/Bitmaps"), (12, u "NONE"), (0, u "I"), (7, u "([JII)V"), (0, u "clear")] 6

def k2m0 : Method := { name := "<init>", desc := "()V", sig := { parameters := [], returnType := none }, accessFlags := 2, code := none }
def k2c1 : Code := { maxStack := 8, maxLocals := 3, code := prog_24_method_4_code, exceptionTable := #[], attributes := #[] }
def k2m1 : Method := { name := "clear", desc := "([JII)V", sig := { parameters := [(.array .long), .int, .int], returnType := none }, accessFlags := 8, code := some k2c1 }
/-- com/example/slabrun/slabrun/core/Bitmaps -/
def k2 : Class := { plain "com/example/slabrun/slabrun/core/Bitmaps" (some 0) with
  accessFlags := 48
  interfaces := #[]
  cf := some (fileOf pool2 12 #[] #[{ accessFlags := 2, nameIndex := 5, descriptorIndex := 6, attributes := #[] }, { accessFlags := 8, nameIndex := 37, descriptorIndex := 36, attributes := #[] }] 48 2 #[] #[{ accessFlags := 24, nameIndex := 27, descriptorIndex := 28, attributes := #[] }])
  fields := #[{ name := "NONE", type := .int, accessFlags := 24, slot := 0, constantValue := 0 }]
  methods := #[k2m0, k2m1]
  instanceTypes := #[]
  staticTypes := #[.int]
  resolved := Array.replicate 44 none
  statics := none }

def pool3 : Array CpInfo := pool [(1, u "java/lang/Cloneable"), (0, .class_ 1), (0, u "java/lang/Object"), (0, .class_ 3)] 3

/-- java/lang/Cloneable -/
def k3 : Class := { plain "java/lang/Cloneable" (some 0) with
  accessFlags := 1537
  interfaces := #[]
  cf := some (fileOf pool3 2 #[] #[] 1537 4 #[] #[])
  fields := #[]
  methods := #[]
  instanceTypes := #[]
  staticTypes := #[]
  resolved := Array.replicate 8 none
  statics := none }

def pool4 : Array CpInfo := pool [(1, u "java/io/Serializable"), (0, .class_ 1), (0, u "java/lang/Object"), (0, .class_ 3)] 3

/-- java/io/Serializable -/
def k4 : Class := { plain "java/io/Serializable" (some 0) with
  accessFlags := 1537
  interfaces := #[]
  cf := some (fileOf pool4 2 #[] #[] 1537 4 #[] #[])
  fields := #[]
  methods := #[]
  instanceTypes := #[]
  staticTypes := #[]
  resolved := Array.replicate 8 none
  statics := none }

/-- the primitive byte -/
def k5 : Class := { plain "byte" none with kind := .primitive 'B', accessFlags := 0x411 }
/-- [B -/
def k6 : Class := { plain "[B" (some 0) with kind := .array 5 .byte, interfaces := #[3, 4], accessFlags := 1041 }

/-- the primitive int -/
def k7 : Class := { plain "int" none with kind := .primitive 'I', accessFlags := 0x411 }
/-- [I -/
def k8 : Class := { plain "[I" (some 0) with kind := .array 7 .int, interfaces := #[3, 4], accessFlags := 1041 }

/-- the primitive long -/
def k9 : Class := { plain "long" none with kind := .primitive 'J', accessFlags := 0x411 }
/-- [J -/
def k10 : Class := { plain "[J" (some 0) with kind := .array 9 .long, interfaces := #[3, 4], accessFlags := 1041 }

def heap : Heap := #[]
def classes : Array Class := #[k0, k1, k2, k3, k4, k5, k6, k7, k8, k9, k10]
def interned : List (Array UInt16 × Addr) := []
def slotsUsed : Nat := 0
def theMethod : MethodId := ⟨1, 1⟩
def args0 : Array Value := #[.long 5, .long 3, .long 0, .long 7, .int 1, .int 70]
def aboutOver (below : List Frame) : State where
  vm := { classes := classes, interned := interned.toArray }
  heap := heap
  slotsUsed := slotsUsed
  threads := #[{ frames := .invoking theMethod args0 :: below }]
def below0 : List Frame := [.native { method := ⟨0, 0⟩, args := #[] }]
def about1 : State := aboutOver below0
def p0 : Program := .bare "" "" ""
def e0 : Env := launch0.env 0 0 0
theorem w_frames : about1.frames = Frame.invoking theMethod args0 :: below0 := rfl
set_option maxRecDepth 65536 in
theorem w_args : argsFit about1.vm theMethod args0 = true := by decide +kernel
set_option maxRecDepth 65536 in
theorem w_heap : heapFits about1 = true := by decide +kernel
set_option maxRecDepth 65536 in
theorem w_runnable : about1.curStatus? = some .runnable := by decide +kernel
set_option maxRecDepth 65536 in
theorem w_alone : about1.alone = true := by decide +kernel
set_option maxRecDepth 65536 in
theorem w_named : about1.methodNamed? x = some theMethod := by decide +kernel
set_option maxRecDepth 65536 in
theorem w_hears : about1.hears theMethod below0 = true := by decide +kernel
set_option maxRecDepth 65536 in
theorem w_ripe : about1.ripe theMethod args0 below0 = true := by decide +kernel
theorem w_running : about1.status = .running := rfl
set_option maxRecDepth 65536 in
theorem w_room : about1.hasRoom e0.platform room_1 = true :=
  launch0.hasRoom_least _ room_1 (by decide +kernel) (by decide +kernel) (by decide +kernel) (by decide +kernel) (by decide +kernel) (by decide +kernel)
theorem allAtoms_all (ts : List Jvm.Cond) (a : Array Jvm.Value) (st : Jvm.State) : (allAtoms ts).before a st = ts.all (fun c => c.before a st) := by
  induction ts with
  | nil => rfl
  | cons c t ih =>
    show (Jvm.Cond.and c (allAtoms t)).before a st = _
    rw [Jvm.Cond.before_and, ih, List.all_cons]
def words1 : List Jvm.Cond := Jvm.Cond.code x code maxLocals ret :: tables_1
/-- a 'code' word, met by the world's own term for the bytes: nothing is compared byte by byte -/
theorem code_word {y : MethodName} {bytes : ByteArray} {mx : Nat} {rt : Option FieldType} {a : Array Value} {s : State} {m : MethodId} {meth : Method} {c : Code} (h1 : s.methodNamed? y = some m) (h2 : s.vm.method? m = some meth) (h3 : meth.code = some c) (h4 : c.code = bytes)
    (h5 : (c.maxLocals == mx && c.exceptionTable.isEmpty && decide (c.maxStack ≤ mostOperands) && decide (meth.sig.returnType = rt) && !meth.locks && decide (parseMethodDescriptor y.desc = some meth.sig)) = true) : (Jvm.Cond.code y bytes mx rt).before a s = true := by
  simp only [Bool.and_eq_true, beq_iff_eq, Bool.not_eq_true', decide_eq_true_eq] at h5
  obtain ⟨⟨⟨⟨⟨g1, g2⟩, g3⟩, g4⟩, g5⟩, g6⟩ := h5
  simp [Cond.before, Cond.holds, Cond.value, h1, h2, h3, h4, g1, g2, g3, g4, g5, g6]
def isCode : Jvm.Cond → Bool
  | .code _ _ _ _ => true
  | _ => false
theorem all_split {L : List Jvm.Cond} {P : Jvm.Cond → Bool} (h1 : L.all (fun c => isCode c || P c) = true) (h2 : ∀ c ∈ L.filter isCode, P c = true) : L.all P = true := by
  refine List.all_eq_true.mpr fun c hc => ?_
  have h := List.all_eq_true.mp h1 c hc
  rcases Bool.eq_false_or_eq_true (isCode c) with hi | hi
  · exact h2 c (List.mem_filter.mpr ⟨hc, hi⟩)
  · simpa [hi] using h
set_option maxRecDepth 65536 in
theorem w_c0 : (Jvm.Cond.code x code maxLocals ret).before args0 about1 = true := code_word (m := ⟨1, 1⟩) (meth := k1m1) (c := k1c1) (by decide +kernel) rfl rfl rfl (by decide +kernel)
set_option maxRecDepth 65536 in
theorem w_c1 : (Jvm.Cond.code ({ cls := "com/example/slabrun/slabrun/core/Bitmaps", name := "clear", desc := "([JII)V" } : Jvm.MethodName) prog_24_method_4_code (3 : Nat) (Option.none : Option Jvm.ClassFile.FieldType)).before args0 about1 = true := code_word (m := ⟨2, 1⟩) (meth := k2m1) (c := k2c1) (by decide +kernel) rfl rfl rfl (by decide +kernel)
set_option maxRecDepth 65536 in
theorem w_c2 : (Jvm.Cond.code ({ cls := "com/example/slabrun/slabrun/core/BitmapsClearPinLaw", name := "same", desc := "(JJIIJ)Z" } : Jvm.MethodName) method_3_code (8 : Nat) (Option.some Jvm.ClassFile.FieldType.boolean)).before args0 about1 = true := code_word (m := ⟨1, 2⟩) (meth := k1m2) (c := k1c2) (by decide +kernel) rfl rfl rfl (by decide +kernel)
def codes1 : List Jvm.Cond := [Jvm.Cond.code x code maxLocals ret, Jvm.Cond.code ({ cls := "com/example/slabrun/slabrun/core/Bitmaps", name := "clear", desc := "([JII)V" } : Jvm.MethodName) prog_24_method_4_code (3 : Nat) (Option.none : Option Jvm.ClassFile.FieldType), Jvm.Cond.code ({ cls := "com/example/slabrun/slabrun/core/BitmapsClearPinLaw", name := "same", desc := "(JJIIJ)Z" } : Jvm.MethodName) method_3_code (8 : Nat) (Option.some Jvm.ClassFile.FieldType.boolean)]
set_option maxRecDepth 65536 in
theorem codes_eq : words1.filter isCode = codes1 := rfl
theorem w_codes : ∀ c ∈ words1.filter isCode, c.before args0 about1 = true := by
  rw [codes_eq]
  intro c hc
  simp only [codes1, List.mem_cons, List.not_mem_nil, or_false] at hc
  rcases hc with rfl | rfl | rfl
  · exact w_c0
  · exact w_c1
  · exact w_c2
set_option maxRecDepth 65536 in
theorem w_t1 : words1.all (fun c => isCode c || c.before args0 about1) = true := by decide +kernel
theorem w_tables : (allAtoms (Jvm.Cond.code x code maxLocals ret :: tables_1)).before args0 about1 = true := by
  rw [allAtoms_all]
  show words1.all (fun c => c.before args0 about1) = true
  refine all_split ?_ w_codes
  rw [w_t1]
set_option maxRecDepth 65536 in
theorem w_case : (Jvm.Cond.and given_1 narrow_1).before args0 about1 = true := by decide +kernel
theorem w_applies : (headSpec (Jvm.Cond.code x code maxLocals ret :: tables_1) room_1).applies x e0.platform about1 = true :=
  (Spec.applies_iff w_frames).mpr ⟨w_running, w_runnable, w_alone, w_named, w_hears, w_ripe, w_room, w_tables⟩
theorem atStart : AtStart classFile x code maxLocals ret World_1 tables_1 room_1 Calls_1 rest_1 Pre_1 launch0 p0 e0 about1 theMethod args0 below0 :=
  ⟨lists_1, trivial, launch0.admits_env _ _ _, launch0.least_env, fairChoices_fair.cas, fairChoices_fair.clock, w_frames, w_args, w_heap, w_applies, trivial, trivial, w_case⟩
end start1
theorem witness_1 : WitnessClaimed_1 := ⟨start1.p0, start1.e0, start1.about1, start1.theMethod, start1.args0, start1.below0, start1.atStart⟩
end Jvm.Pilot.@@N@@
