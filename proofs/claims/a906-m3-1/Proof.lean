import JvmDerived
import JvmDerived.Pilot.@@N@@Statement
import JvmDerived.Pilot.@@N@@Code
set_option linter.unusedVariables false
set_option linter.unusedSimpArgs false
namespace Jvm.RoadKit
open Sem ClassFile Op Lib Jvm.Stand Jvm.Free Jvm.LawKit
section New
variable {p : Program} {l : Launch} {e : Env} {R : Room} {s : State} {m : MethodId} {args : Array Value} {below : List Frame} {meth : Method} {c : Code} {T : State} {locs : List Loc} {cells slots : Nat}
theorem retI (X : Stand p l e R s m args below meth c T locs cells slots) (hx : p.tables.exec = Jvm.exec) {pc : Nat} {Ls : Array Slot} {z : Int32} {rest : List Value} (hret : meth.sig.returnType = some .int) (hd : decode c.code pc = .ok (.ireturn, 1)) {fs : List Frame}
    (hl : ∀ (f : JFrame) (acts : List Action), f.method = m → f.locked = none → f.entered = [] → (doReturn e (T.setTop f) acts (some (.int z))).1 = T.setFrames fs) : Steps p.tables e below (T.setTop (mkF m pc Ls (.int z :: rest))) (T.setFrames fs) := by
  have hm' : T.vm.method? m = some meth := X.method'
  have hn : narrow .int (.int z) = .int z := rfl
  show Steps p.tables e below (T.setTop { method := m, pc := pc, locals := Ls, stack := _ :: rest, locked := none }) _
  jvm_step X.here [X.here.top, hx, hd, hm', hret, hn]
  first | (intro acts; rw [hl _ acts rfl rfl rfl]) | rw [hl _ _ rfl rfl rfl]
  exact Steps.refl _
theorem own_lremM {g : JFrame} {target : State} (X : Stand p l e R s m args below meth c T locs cells slots) (hx : p.tables.exec = Jvm.exec) (hg : g.method = m) {x y : Int64} {rest : List Value} (hd : decode c.code g.pc = .ok (.lrem, 1)) (hs : g.stack = .long y :: .long x :: rest) (hy : y ≠ 0)
    (hr : Steps p.tables e below (T.setTop { g with pc := g.pc + 1, stack := .long (x % y) :: rest }) target) : Steps p.tables e below (T.setTop g) target := by
  have q : x - x / y * y = x % y := lrem_mod x y
  exact XS.lrem X.here hx hg hd hs hy (by rw [q]; exact hr)
theorem own_getD_int (L : List Int32) (n : Nat) (d : Int32) : (L.map Value.int).getD n (.int d) = .int (L.getD n d) := by simp [List.getD_eq_getElem?_getD, List.getElem?_map]
theorem own_getD_long (L : List Int64) (n : Nat) (d : Int64) : (L.map Value.long).getD n (.long d) = .long (L.getD n d) := by simp [List.getD_eq_getElem?_getD, List.getElem?_map]
theorem own_lt_nat {j z : Int32} (h : ¬ j < 0) (q : j < z) : j.toNatClampNeg < z.toNatClampNeg := by
  rw [Int32.lt_iff_toInt_lt] at h q; have : (0 : Int32).toInt = 0 := rfl
  simp only [Int32.toNatClampNeg]; omega
theorem own_eq_int {t : Term} {v : Int32} {args : Array Value} {s : State} (h : (Cond.eq t (.int v)).value args s none s [] = some true) : t.eval args s none [] s = some (.int v) := by
  simp only [Cond.value, Term.eval] at h
  cases ht : t.eval args s none [] s with
  | none => simp [ht] at h
  | some x => cases x <;> simp [ht] at h ⊢; exact h
theorem own_eq_long {t : Term} {v : Int64} {args : Array Value} {s : State} (h : (Cond.eq t (.long v)).value args s none s [] = some true) : t.eval args s none [] s = some (.long v) := by
  simp only [Cond.value, Term.eval] at h
  cases ht : t.eval args s none [] s with
  | none => simp [ht] at h
  | some x => cases x <;> simp [ht] at h ⊢; exact h
theorem own_selpriv {s : State} {args : Array Value} {y : MethodName} {n : Nat} (wi : (Cond.instantiable y.cls n).before args s = true) (hpriv : s.PrivateAt y) (hinst : (Cond.instanceMethod y).before args s = true) (hy : y.cls ≠ "java/lang/invoke/MethodHandle" ∧ y.cls ≠ "java/lang/invoke/VarHandle") : (Cond.selects y.cls y y).before args s = true := by
  obtain ⟨c, k, h1, h2, -, h4, -⟩ := Cond.instantiable_spec wi
  exact Jvm.Stand.selects_self_of_private h1 h2 (Bool.or_eq_false_iff.mp h4).1 hpriv hinst hy
theorem own_narb (P : Prop) [Decidable P] : nar .boolean (if P then (1 : Int32) else (0 : Int32)) = if P then (1 : Int32) else (0 : Int32) := by by_cases h : P <;> simp only [h, if_true, if_false] <;> rfl
end New
end Jvm.RoadKit
namespace Jvm.Pilot.@@N@@
open Jvm Jvm.ClassFile Sem Op Lib Jvm.Free Jvm.Stand Jvm.LawKit Jvm.RoadKit Bundle Jvm.Pilot.@@N@@.Jvm.D
theorem d1_0 : decode prog_7_method_1_code 0 = .ok (.aload_n 0, 1) := by decide +kernel
theorem d1_1 : decode prog_7_method_1_code 1 = .ok (.invokespecial 1, 3) := by decide +kernel
theorem d1_4 : decode prog_7_method_1_code 4 = .ok (.aload_n 0, 1) := by decide +kernel
theorem d1_5 : decode prog_7_method_1_code 5 = .ok (.lload_n 1, 1) := by decide +kernel
theorem d1_6 : decode prog_7_method_1_code 6 = .ok (.putfield 7, 3) := by decide +kernel
theorem d1_9 : decode prog_7_method_1_code 9 = .ok (.return_, 1) := by decide +kernel
theorem pn_7 : plainName "com/example/lattice_traffic/latticetraffic/SplitMix64" = true := by first | (simp [plainName, overriddenIn]; done) | decide +kernel
theorem ef_rm1 (m : MethodId) (ra0 : Addr) (q1 : Int64) : entryFrame m #[(.ref ra0), (.long q1)] 3 = mkF m 0 #[.val (.ref ra0), .val (.long q1), .second] [] := by first | (simp [entryFrame, mkF, argsToLocals, Value.category]; done) | rfl
def Q1 (Z : State) (ra0 : Addr) (q1 : Int64) (w_state_ra0 : Int64) (h0 : Heap) (n0 : Nat) (v : Option Value) (h : Heap) (L : List Loc) : Prop := v = none ∧ Fr n0 L ∧ Keep h0 h [ra0] ∧ Exa Z h ra0 "com/example/lattice_traffic/latticetraffic/SplitMix64" ∧ Fld Z h ra0 "com/example/lattice_traffic/latticetraffic/SplitMix64" "state" "J" (.long q1)
set_option maxRecDepth 65536 in
set_option maxHeartbeats 40000000 in
theorem rm1 (l : Launch) (Z : State) (a0 : Array Value) (hw : ∀ d ∈ tables_1, d.before a0 Z = true) (ws : List Jvm.Cond) (ra0 : Addr) (q1 : Int64) (w_state_ra0 : Int64) (h0 : Heap) (n0 : Nat) (Z0 : n0 ≤ h0.size) (E_ra0 : Exa Z h0 ra0 "com/example/lattice_traffic/latticetraffic/SplitMix64") (F_state_ra0 : Fld Z h0 ra0 "com/example/lattice_traffic/latticetraffic/SplitMix64" "state" "J" (.long w_state_ra0)) (g_ra0 : n0 ≤ ra0) :
    MetFree l (⟨"com/example/lattice_traffic/latticetraffic/SplitMix64", "<init>", "(J)V"⟩ : MethodName) (head1 (Jvm.Cond.code (⟨"com/example/lattice_traffic/latticetraffic/SplitMix64", "<init>", "(J)V"⟩ : MethodName) prog_7_method_1_code 3 none :: ws) ({ frames := 1, cells := 0, slots := 0, locals := 12 } : Room)) (fun a U => a = #[(.ref ra0), (.long q1)] ∧ Z.Warmed39 U.vm ∧ U.heap = h0) (fun _ _ _ _ _ => True) (fun _ U o U' => ∃ v L, o = .returned v ∧ Q1 Z ra0 q1 w_state_ra0 h0 n0 v U'.heap L ∧ FrameEnd U o U' L ({ frames := 1, cells := 0, slots := 0, locals := 12 } : Room).cells ({ frames := 1, cells := 0, slots := 0, locals := 12 } : Room).slots) := by
  refine MetFree.of_bodySF (plainFor_of_name pn_7) hisR ?_
  intro p e s m args below meth c s₁ Bd hml0 hP hK
  obtain ⟨rfl, hZ, hh⟩ := hP
  have hx := Bd.exec
  have hby := Bd.bytes
  have hml : c.maxLocals = 3 := hml0
  have hown : s.vm.findClass "com/example/lattice_traffic/latticetraffic/SplitMix64" = some m.cls := findClass_of_methodNamed Bd.named
  have hnm := (name_of_methodNamed Bd.named Bd.method).1
  have X0 : Stand p l e ({ frames := 1, cells := 0, slots := 0, locals := 12 } : Room) s m #[(.ref ra0), (.long q1)] below meth c s₁ [] 0 0 := Stand.of_body Bd
  have e0 : s₁.heap = h0 := by rw [← hh, Bd.state]; rfl
  have N0 := Fr.nil n0
  have KC0 := Keep.refl h0 [ra0]
  have pre0 : ∀ t, Steps p.tables e below (s₁.setTop (mkF m 0 #[.val (.ref ra0), .val (.long q1), .second] [])) t → Steps p.tables e below (s₁.setTop (entryFrame m #[(.ref ra0), (.long q1)] 3)) t := fun t k => castTop (ef_rm1 m ra0 q1) k
  have k1 := fun (t : State) (kk : Steps p.tables e below (s₁.setTop (mkF m 1 #[.val (.ref ra0), .val (.long q1), .second] [(.ref ra0)])) t) => pre0 t (by
    show Steps p.tables e below (s₁.setTop (mkF m 0 #[.val (.ref ra0), .val (.long q1), .second] [])) _
    refine XS.aloadN X0.here hx rfl (hb hby d1_0) rfl rfl ?_
    exact kk)
  obtain ⟨T2, X2, e2, st2⟩ := initO X0 hx hZ hown (hw _ (List.mem_of_getElem? (i := 6) rfl)) (hw _ (List.mem_of_getElem? (i := 7) rfl)) (hw _ (List.mem_of_getElem? (i := 8) rfl)) e0 (g := (mkF m 1 #[.val (.ref ra0), .val (.long q1), .second] [(.ref ra0)])) rfl (by rw [hml]; rfl) rfl (hb hby d1_1) (by decide) (W := 0) (by show 2 * 0 + _ ≤ _; exact Nat.le_of_eq rfl) (by decide)
  have k3 := fun (t : State) (kk : Steps p.tables e below (T2.setTop (mkF m 4 #[.val (.ref ra0), .val (.long q1), .second] [])) t) => k1 t (st2 _ kk)
  have k4 := fun (t : State) (kk : Steps p.tables e below (T2.setTop (mkF m 6 #[.val (.ref ra0), .val (.long q1), .second] [(.long q1), (.ref ra0)])) t) => k3 t (by
    show Steps p.tables e below (T2.setTop (mkF m 4 #[.val (.ref ra0), .val (.long q1), .second] [])) _
    refine XS.aloadN X2.here hx rfl (hb hby d1_4) rfl rfl ?_
    show Steps p.tables e below (T2.setTop (mkF m 5 #[.val (.ref ra0), .val (.long q1), .second] [(.ref ra0)])) _
    refine XS.lloadN X2.here hx rfl (hb hby d1_5) rfl ?_
    exact kk)
  obtain ⟨T5, h5, X5, e5, W5, st5⟩ := putF X2 hx hZ hown (host := "") (Or.inl (hw _ (List.mem_of_getElem? (i := 9) rfl))) Via.refl e2 F_state_ra0 E_ra0 (Or.inl (hw _ (List.mem_of_getElem? (i := 10) rfl))) (hw _ (List.mem_of_getElem? (i := 1) rfl)) (ty := .long) (by decide) rfl rfl (g := (mkF m 6 #[.val (.ref ra0), .val (.long q1), .second] [(.long q1), (.ref ra0)])) rfl rfl (hb hby d1_6)
  have Fw5 := F_state_ra0.same W5
  have K5 : Keep h0 h5 [ra0] := KC0.wr W5 (Or.inl (List.mem_of_getElem? (i := 0) rfl))
  have N5 := Fr.snoc X5 N0 g_ra0
  have k6 := fun (t : State) (kk : Steps p.tables e below (T5.setTop (mkF m 9 #[.val (.ref ra0), .val (.long q1), .second] [])) t) => k4 t (st5 _ kk)
  obtain ⟨fs, hr, hrun, hended, hW, hsame⟩ := X5.leave (v := none) (fun _ => rfl)
  have f7 := (E_ra0.wr W5)
  refine ⟨_, _, k6 _ ?_, hrun, hended, _, _, rfl, ?_, ⟨_, rfl⟩, hW, hsame.mono (by decide) (by decide)⟩
  · show Steps p.tables e below (T5.setTop (mkF m 9 #[.val (.ref ra0), .val (.long q1), .second] [])) _
    exact X5.returnOut hx Bd.returns (hb hby d1_9) hr
  · show Q1 Z ra0 q1 w_state_ra0 h0 n0 _ T5.heap _
    rw [e5]
    exact ⟨rfl, N5, K5, f7, Fw5⟩
theorem d3_0 : decode prog_7_method_2_code 0 = .ok (.aload_n 0, 1) := by decide +kernel
theorem d3_1 : decode prog_7_method_2_code 1 = .ok (.dup, 1) := by decide +kernel
theorem d3_2 : decode prog_7_method_2_code 2 = .ok (.getfield 7, 3) := by decide +kernel
theorem d3_5 : decode prog_7_method_2_code 5 = .ok (.ldc2_w 13, 3) := by decide +kernel
theorem d3_8 : decode prog_7_method_2_code 8 = .ok (.ladd, 1) := by decide +kernel
theorem d3_9 : decode prog_7_method_2_code 9 = .ok (.putfield 7, 3) := by decide +kernel
theorem d3_12 : decode prog_7_method_2_code 12 = .ok (.aload_n 0, 1) := by decide +kernel
theorem d3_13 : decode prog_7_method_2_code 13 = .ok (.getfield 7, 3) := by decide +kernel
theorem d3_16 : decode prog_7_method_2_code 16 = .ok (.lstore_n 1, 1) := by decide +kernel
theorem d3_17 : decode prog_7_method_2_code 17 = .ok (.lload_n 1, 1) := by decide +kernel
theorem d3_18 : decode prog_7_method_2_code 18 = .ok (.lload_n 1, 1) := by decide +kernel
theorem d3_19 : decode prog_7_method_2_code 19 = .ok (.bipush 30, 2) := by decide +kernel
theorem d3_21 : decode prog_7_method_2_code 21 = .ok (.lushr, 1) := by decide +kernel
theorem d3_22 : decode prog_7_method_2_code 22 = .ok (.lxor, 1) := by decide +kernel
theorem d3_23 : decode prog_7_method_2_code 23 = .ok (.ldc2_w 15, 3) := by decide +kernel
theorem d3_26 : decode prog_7_method_2_code 26 = .ok (.lmul, 1) := by decide +kernel
theorem d3_27 : decode prog_7_method_2_code 27 = .ok (.lstore_n 1, 1) := by decide +kernel
theorem d3_28 : decode prog_7_method_2_code 28 = .ok (.lload_n 1, 1) := by decide +kernel
theorem d3_29 : decode prog_7_method_2_code 29 = .ok (.lload_n 1, 1) := by decide +kernel
theorem d3_30 : decode prog_7_method_2_code 30 = .ok (.bipush 27, 2) := by decide +kernel
theorem d3_32 : decode prog_7_method_2_code 32 = .ok (.lushr, 1) := by decide +kernel
theorem d3_33 : decode prog_7_method_2_code 33 = .ok (.lxor, 1) := by decide +kernel
theorem d3_34 : decode prog_7_method_2_code 34 = .ok (.ldc2_w 17, 3) := by decide +kernel
theorem d3_37 : decode prog_7_method_2_code 37 = .ok (.lmul, 1) := by decide +kernel
theorem d3_38 : decode prog_7_method_2_code 38 = .ok (.lstore_n 1, 1) := by decide +kernel
theorem d3_39 : decode prog_7_method_2_code 39 = .ok (.lload_n 1, 1) := by decide +kernel
theorem d3_40 : decode prog_7_method_2_code 40 = .ok (.lload_n 1, 1) := by decide +kernel
theorem d3_41 : decode prog_7_method_2_code 41 = .ok (.bipush 31, 2) := by decide +kernel
theorem d3_43 : decode prog_7_method_2_code 43 = .ok (.lushr, 1) := by decide +kernel
theorem d3_44 : decode prog_7_method_2_code 44 = .ok (.lxor, 1) := by decide +kernel
theorem d3_45 : decode prog_7_method_2_code 45 = .ok (.lreturn, 1) := by decide +kernel
def v3_16_l1 (w_state_ra0 : Int64) : Int64 := (w_state_ra0 + (-7046029254386353131 : Int64))
def v3_27_l1 (w_state_ra0 : Int64) : Int64 := (((v3_16_l1 w_state_ra0) ^^^ (((v3_16_l1 w_state_ra0).toUInt64 >>> ((30 : Int32) &&& 0x3f).toInt64.toUInt64).toInt64)) * (-4658895280553007687 : Int64))
def v3_38_l1 (w_state_ra0 : Int64) : Int64 := (((v3_27_l1 w_state_ra0) ^^^ (((v3_27_l1 w_state_ra0).toUInt64 >>> ((27 : Int32) &&& 0x3f).toInt64.toUInt64).toInt64)) * (-7723592293110705685 : Int64))
theorem ef_rm3 (m : MethodId) (ra0 : Addr) : entryFrame m #[(.ref ra0)] 3 = mkF m 0 #[.val (.ref ra0), .unset, .unset] [] := by first | (simp [entryFrame, mkF, argsToLocals, Value.category]; done) | rfl
def Q3 (Z : State) (ra0 : Addr) (w_state_ra0 : Int64) (h0 : Heap) (n0 : Nat) (v : Option Value) (h : Heap) (L : List Loc) : Prop := v = some (.long ((v3_38_l1 w_state_ra0) ^^^ (((v3_38_l1 w_state_ra0).toUInt64 >>> ((31 : Int32) &&& 0x3f).toInt64.toUInt64).toInt64))) ∧ Fr n0 L ∧ Keep h0 h [ra0] ∧ Exa Z h ra0 "com/example/lattice_traffic/latticetraffic/SplitMix64" ∧ Fld Z h ra0 "com/example/lattice_traffic/latticetraffic/SplitMix64" "state" "J" (.long (w_state_ra0 + (-7046029254386353131 : Int64)))
set_option maxRecDepth 65536 in
set_option maxHeartbeats 40000000 in
theorem rm3 (l : Launch) (Z : State) (a0 : Array Value) (hw : ∀ d ∈ tables_1, d.before a0 Z = true) (ws : List Jvm.Cond) (ra0 : Addr) (w_state_ra0 : Int64) (h0 : Heap) (n0 : Nat) (Z0 : n0 ≤ h0.size) (F_state_ra0 : Fld Z h0 ra0 "com/example/lattice_traffic/latticetraffic/SplitMix64" "state" "J" (.long w_state_ra0)) (E_ra0 : Exa Z h0 ra0 "com/example/lattice_traffic/latticetraffic/SplitMix64") (g_ra0 : n0 ≤ ra0) :
    MetFree l (⟨"com/example/lattice_traffic/latticetraffic/SplitMix64", "nextLong", "()J"⟩ : MethodName) (head1 (Jvm.Cond.code (⟨"com/example/lattice_traffic/latticetraffic/SplitMix64", "nextLong", "()J"⟩ : MethodName) prog_7_method_2_code 3 (some .long) :: ws) ({ frames := 0, cells := 0, slots := 0, locals := 0 } : Room)) (fun a U => a = #[(.ref ra0)] ∧ Z.Warmed39 U.vm ∧ U.heap = h0) (fun _ _ _ _ _ => True) (fun _ U o U' => ∃ v L, o = .returned v ∧ Q3 Z ra0 w_state_ra0 h0 n0 v U'.heap L ∧ FrameEnd U o U' L ({ frames := 0, cells := 0, slots := 0, locals := 0 } : Room).cells ({ frames := 0, cells := 0, slots := 0, locals := 0 } : Room).slots) := by
  refine MetFree.of_bodySF (plainFor_of_name pn_7) hisR ?_
  intro p e s m args below meth c s₁ Bd hml0 hP hK
  obtain ⟨rfl, hZ, hh⟩ := hP
  have hx := Bd.exec
  have hby := Bd.bytes
  have hml : c.maxLocals = 3 := hml0
  have hown : s.vm.findClass "com/example/lattice_traffic/latticetraffic/SplitMix64" = some m.cls := findClass_of_methodNamed Bd.named
  have hnm := (name_of_methodNamed Bd.named Bd.method).1
  have X0 : Stand p l e ({ frames := 0, cells := 0, slots := 0, locals := 0 } : Room) s m #[(.ref ra0)] below meth c s₁ [] 0 0 := Stand.of_body Bd
  have e0 : s₁.heap = h0 := by rw [← hh, Bd.state]; rfl
  have N0 := Fr.nil n0
  have KC0 := Keep.refl h0 [ra0]
  have pre0 : ∀ t, Steps p.tables e below (s₁.setTop (mkF m 0 #[.val (.ref ra0), .unset, .unset] [])) t → Steps p.tables e below (s₁.setTop (entryFrame m #[(.ref ra0)] 3)) t := fun t k => castTop (ef_rm3 m ra0) k
  have k8 := fun (t : State) (kk : Steps p.tables e below (s₁.setTop (mkF m 2 #[.val (.ref ra0), .unset, .unset] [(.ref ra0), (.ref ra0)])) t) => pre0 t (by
    show Steps p.tables e below (s₁.setTop (mkF m 0 #[.val (.ref ra0), .unset, .unset] [])) _
    refine XS.aloadN X0.here hx rfl (hb hby d3_0) rfl rfl ?_
    show Steps p.tables e below (s₁.setTop (mkF m 1 #[.val (.ref ra0), .unset, .unset] [(.ref ra0)])) _
    refine XS.dup X0.here hx rfl (hb hby d3_1) rfl rfl ?_
    exact kk)
  obtain ⟨T9, X9, e9, st9⟩ := getF X0 hx hZ hown (host := "") (Or.inl (hw _ (List.mem_of_getElem? (i := 9) rfl))) Via.refl e0 F_state_ra0 (g := (mkF m 2 #[.val (.ref ra0), .unset, .unset] [(.ref ra0), (.ref ra0)])) rfl rfl (hb hby d3_2)
  have k10 := fun (t : State) (kk : Steps p.tables e below (T9.setTop (mkF m 5 #[.val (.ref ra0), .unset, .unset] [(.long w_state_ra0), (.ref ra0)])) t) => k8 t (st9 _ kk)
  have k11 := fun (t : State) (kk : Steps p.tables e below (T9.setTop (mkF m 9 #[.val (.ref ra0), .unset, .unset] [(.long (w_state_ra0 + (-7046029254386353131 : Int64))), (.ref ra0)])) t) => k10 t (by
    show Steps p.tables e below (T9.setTop (mkF m 5 #[.val (.ref ra0), .unset, .unset] [(.long w_state_ra0), (.ref ra0)])) _
    refine X9.ldc2Long hx hown (mvT hZ (hw _ (List.mem_of_getElem? (i := 16) rfl))) (g := (mkF m 5 #[.val (.ref ra0), .unset, .unset] [(.long w_state_ra0), (.ref ra0)])) rfl (hb hby d3_5) _ ?_
    show Steps p.tables e below (T9.setTop (mkF m 8 #[.val (.ref ra0), .unset, .unset] [(.long (-7046029254386353131 : Int64)), (.long w_state_ra0), (.ref ra0)])) _
    refine XS.ladd X9.here hx rfl (hb hby d3_8) rfl ?_
    exact kk)
  obtain ⟨T12, h12, X12, e12, W12, st12⟩ := putF X9 hx hZ hown (host := "") (Or.inl (hw _ (List.mem_of_getElem? (i := 9) rfl))) Via.refl e9 F_state_ra0 E_ra0 (Or.inl (hw _ (List.mem_of_getElem? (i := 10) rfl))) (hw _ (List.mem_of_getElem? (i := 1) rfl)) (ty := .long) (by decide) rfl rfl (g := (mkF m 9 #[.val (.ref ra0), .unset, .unset] [(.long (w_state_ra0 + (-7046029254386353131 : Int64))), (.ref ra0)])) rfl rfl (hb hby d3_9)
  have Fw12 := F_state_ra0.same W12
  have K12 : Keep h0 h12 [ra0] := KC0.wr W12 (Or.inl (List.mem_of_getElem? (i := 0) rfl))
  have N12 := Fr.snoc X12 N0 g_ra0
  have k13 := fun (t : State) (kk : Steps p.tables e below (T12.setTop (mkF m 12 #[.val (.ref ra0), .unset, .unset] [])) t) => k11 t (st12 _ kk)
  have k14 := fun (t : State) (kk : Steps p.tables e below (T12.setTop (mkF m 13 #[.val (.ref ra0), .unset, .unset] [(.ref ra0)])) t) => k13 t (by
    show Steps p.tables e below (T12.setTop (mkF m 12 #[.val (.ref ra0), .unset, .unset] [])) _
    refine XS.aloadN X12.here hx rfl (hb hby d3_12) rfl rfl ?_
    exact kk)
  obtain ⟨T15, X15, e15, st15⟩ := getF X12 hx hZ hown (host := "") (Or.inl (hw _ (List.mem_of_getElem? (i := 9) rfl))) Via.refl e12 Fw12 (g := (mkF m 13 #[.val (.ref ra0), .unset, .unset] [(.ref ra0)])) rfl rfl (hb hby d3_13)
  have k16 := fun (t : State) (kk : Steps p.tables e below (T15.setTop (mkF m 16 #[.val (.ref ra0), .unset, .unset] [(.long (w_state_ra0 + (-7046029254386353131 : Int64)))])) t) => k14 t (st15 _ kk)
  have k17 := fun (t : State) (kk : Steps p.tables e below (T15.setTop (mkF m 45 #[.val (.ref ra0), .val (.long (v3_38_l1 w_state_ra0)), .second] [(.long ((v3_38_l1 w_state_ra0) ^^^ (((v3_38_l1 w_state_ra0).toUInt64 >>> ((31 : Int32) &&& 0x3f).toInt64.toUInt64).toInt64)))])) t) => k16 t (by
    show Steps p.tables e below (T15.setTop (mkF m 16 #[.val (.ref ra0), .unset, .unset] [(.long (w_state_ra0 + (-7046029254386353131 : Int64)))])) _
    refine XS.lstoreN X15.here hx rfl (hb hby d3_16) rfl (l' := #[.val (.ref ra0), .val (.long (v3_16_l1 w_state_ra0)), .second]) rfl ?_
    show Steps p.tables e below (T15.setTop (mkF m 17 #[.val (.ref ra0), .val (.long (v3_16_l1 w_state_ra0)), .second] [])) _
    refine XS.lloadN X15.here hx rfl (hb hby d3_17) rfl ?_
    show Steps p.tables e below (T15.setTop (mkF m 18 #[.val (.ref ra0), .val (.long (v3_16_l1 w_state_ra0)), .second] [(.long (v3_16_l1 w_state_ra0))])) _
    refine XS.lloadN X15.here hx rfl (hb hby d3_18) rfl ?_
    show Steps p.tables e below (T15.setTop (mkF m 19 #[.val (.ref ra0), .val (.long (v3_16_l1 w_state_ra0)), .second] [(.long (v3_16_l1 w_state_ra0)), (.long (v3_16_l1 w_state_ra0))])) _
    refine XS.bipush X15.here hx rfl (hb hby d3_19) ?_
    show Steps p.tables e below (T15.setTop (mkF m 21 #[.val (.ref ra0), .val (.long (v3_16_l1 w_state_ra0)), .second] [(.int (30 : Int32)), (.long (v3_16_l1 w_state_ra0)), (.long (v3_16_l1 w_state_ra0))])) _
    refine XS.lushr X15.here hx rfl (hb hby d3_21) rfl ?_
    show Steps p.tables e below (T15.setTop (mkF m 22 #[.val (.ref ra0), .val (.long (v3_16_l1 w_state_ra0)), .second] [(.long (((v3_16_l1 w_state_ra0).toUInt64 >>> ((30 : Int32) &&& 0x3f).toInt64.toUInt64).toInt64)), (.long (v3_16_l1 w_state_ra0))])) _
    refine XS.lxor X15.here hx rfl (hb hby d3_22) rfl ?_
    show Steps p.tables e below (T15.setTop (mkF m 23 #[.val (.ref ra0), .val (.long (v3_16_l1 w_state_ra0)), .second] [(.long ((v3_16_l1 w_state_ra0) ^^^ (((v3_16_l1 w_state_ra0).toUInt64 >>> ((30 : Int32) &&& 0x3f).toInt64.toUInt64).toInt64)))])) _
    refine X15.ldc2Long hx hown (mvT hZ (hw _ (List.mem_of_getElem? (i := 17) rfl))) (g := (mkF m 23 #[.val (.ref ra0), .val (.long (v3_16_l1 w_state_ra0)), .second] [(.long ((v3_16_l1 w_state_ra0) ^^^ (((v3_16_l1 w_state_ra0).toUInt64 >>> ((30 : Int32) &&& 0x3f).toInt64.toUInt64).toInt64)))])) rfl (hb hby d3_23) _ ?_
    show Steps p.tables e below (T15.setTop (mkF m 26 #[.val (.ref ra0), .val (.long (v3_16_l1 w_state_ra0)), .second] [(.long (-4658895280553007687 : Int64)), (.long ((v3_16_l1 w_state_ra0) ^^^ (((v3_16_l1 w_state_ra0).toUInt64 >>> ((30 : Int32) &&& 0x3f).toInt64.toUInt64).toInt64)))])) _
    refine XS.lmul X15.here hx rfl (hb hby d3_26) rfl ?_
    show Steps p.tables e below (T15.setTop (mkF m 27 #[.val (.ref ra0), .val (.long (v3_16_l1 w_state_ra0)), .second] [(.long (((v3_16_l1 w_state_ra0) ^^^ (((v3_16_l1 w_state_ra0).toUInt64 >>> ((30 : Int32) &&& 0x3f).toInt64.toUInt64).toInt64)) * (-4658895280553007687 : Int64)))])) _
    refine XS.lstoreN X15.here hx rfl (hb hby d3_27) rfl (l' := #[.val (.ref ra0), .val (.long (v3_27_l1 w_state_ra0)), .second]) rfl ?_
    show Steps p.tables e below (T15.setTop (mkF m 28 #[.val (.ref ra0), .val (.long (v3_27_l1 w_state_ra0)), .second] [])) _
    refine XS.lloadN X15.here hx rfl (hb hby d3_28) rfl ?_
    show Steps p.tables e below (T15.setTop (mkF m 29 #[.val (.ref ra0), .val (.long (v3_27_l1 w_state_ra0)), .second] [(.long (v3_27_l1 w_state_ra0))])) _
    refine XS.lloadN X15.here hx rfl (hb hby d3_29) rfl ?_
    show Steps p.tables e below (T15.setTop (mkF m 30 #[.val (.ref ra0), .val (.long (v3_27_l1 w_state_ra0)), .second] [(.long (v3_27_l1 w_state_ra0)), (.long (v3_27_l1 w_state_ra0))])) _
    refine XS.bipush X15.here hx rfl (hb hby d3_30) ?_
    show Steps p.tables e below (T15.setTop (mkF m 32 #[.val (.ref ra0), .val (.long (v3_27_l1 w_state_ra0)), .second] [(.int (27 : Int32)), (.long (v3_27_l1 w_state_ra0)), (.long (v3_27_l1 w_state_ra0))])) _
    refine XS.lushr X15.here hx rfl (hb hby d3_32) rfl ?_
    show Steps p.tables e below (T15.setTop (mkF m 33 #[.val (.ref ra0), .val (.long (v3_27_l1 w_state_ra0)), .second] [(.long (((v3_27_l1 w_state_ra0).toUInt64 >>> ((27 : Int32) &&& 0x3f).toInt64.toUInt64).toInt64)), (.long (v3_27_l1 w_state_ra0))])) _
    refine XS.lxor X15.here hx rfl (hb hby d3_33) rfl ?_
    show Steps p.tables e below (T15.setTop (mkF m 34 #[.val (.ref ra0), .val (.long (v3_27_l1 w_state_ra0)), .second] [(.long ((v3_27_l1 w_state_ra0) ^^^ (((v3_27_l1 w_state_ra0).toUInt64 >>> ((27 : Int32) &&& 0x3f).toInt64.toUInt64).toInt64)))])) _
    refine X15.ldc2Long hx hown (mvT hZ (hw _ (List.mem_of_getElem? (i := 18) rfl))) (g := (mkF m 34 #[.val (.ref ra0), .val (.long (v3_27_l1 w_state_ra0)), .second] [(.long ((v3_27_l1 w_state_ra0) ^^^ (((v3_27_l1 w_state_ra0).toUInt64 >>> ((27 : Int32) &&& 0x3f).toInt64.toUInt64).toInt64)))])) rfl (hb hby d3_34) _ ?_
    show Steps p.tables e below (T15.setTop (mkF m 37 #[.val (.ref ra0), .val (.long (v3_27_l1 w_state_ra0)), .second] [(.long (-7723592293110705685 : Int64)), (.long ((v3_27_l1 w_state_ra0) ^^^ (((v3_27_l1 w_state_ra0).toUInt64 >>> ((27 : Int32) &&& 0x3f).toInt64.toUInt64).toInt64)))])) _
    refine XS.lmul X15.here hx rfl (hb hby d3_37) rfl ?_
    show Steps p.tables e below (T15.setTop (mkF m 38 #[.val (.ref ra0), .val (.long (v3_27_l1 w_state_ra0)), .second] [(.long (((v3_27_l1 w_state_ra0) ^^^ (((v3_27_l1 w_state_ra0).toUInt64 >>> ((27 : Int32) &&& 0x3f).toInt64.toUInt64).toInt64)) * (-7723592293110705685 : Int64)))])) _
    refine XS.lstoreN X15.here hx rfl (hb hby d3_38) rfl (l' := #[.val (.ref ra0), .val (.long (v3_38_l1 w_state_ra0)), .second]) rfl ?_
    show Steps p.tables e below (T15.setTop (mkF m 39 #[.val (.ref ra0), .val (.long (v3_38_l1 w_state_ra0)), .second] [])) _
    refine XS.lloadN X15.here hx rfl (hb hby d3_39) rfl ?_
    show Steps p.tables e below (T15.setTop (mkF m 40 #[.val (.ref ra0), .val (.long (v3_38_l1 w_state_ra0)), .second] [(.long (v3_38_l1 w_state_ra0))])) _
    refine XS.lloadN X15.here hx rfl (hb hby d3_40) rfl ?_
    show Steps p.tables e below (T15.setTop (mkF m 41 #[.val (.ref ra0), .val (.long (v3_38_l1 w_state_ra0)), .second] [(.long (v3_38_l1 w_state_ra0)), (.long (v3_38_l1 w_state_ra0))])) _
    refine XS.bipush X15.here hx rfl (hb hby d3_41) ?_
    show Steps p.tables e below (T15.setTop (mkF m 43 #[.val (.ref ra0), .val (.long (v3_38_l1 w_state_ra0)), .second] [(.int (31 : Int32)), (.long (v3_38_l1 w_state_ra0)), (.long (v3_38_l1 w_state_ra0))])) _
    refine XS.lushr X15.here hx rfl (hb hby d3_43) rfl ?_
    show Steps p.tables e below (T15.setTop (mkF m 44 #[.val (.ref ra0), .val (.long (v3_38_l1 w_state_ra0)), .second] [(.long (((v3_38_l1 w_state_ra0).toUInt64 >>> ((31 : Int32) &&& 0x3f).toInt64.toUInt64).toInt64)), (.long (v3_38_l1 w_state_ra0))])) _
    refine XS.lxor X15.here hx rfl (hb hby d3_44) rfl ?_
    exact kk)
  obtain ⟨fs, hr, hrun, hended, hW, hsame⟩ := X15.leave (v := some (.long ((v3_38_l1 w_state_ra0) ^^^ (((v3_38_l1 w_state_ra0).toUInt64 >>> ((31 : Int32) &&& 0x3f).toInt64.toUInt64).toInt64)))) (fun h => by rw [Bd.returns] at h; cases h)
  have f18 := (E_ra0.wr W12)
  refine ⟨_, _, k17 _ ?_, hrun, hended, _, _, rfl, ?_, ⟨_, rfl⟩, hW, hsame.mono (by decide) (by decide)⟩
  · show Steps p.tables e below (T15.setTop (mkF m 45 #[.val (.ref ra0), .val (.long (v3_38_l1 w_state_ra0)), .second] [(.long ((v3_38_l1 w_state_ra0) ^^^ (((v3_38_l1 w_state_ra0).toUInt64 >>> ((31 : Int32) &&& 0x3f).toInt64.toUInt64).toInt64)))])) _
    exact retOut X15 hx (t := .long) Bd.returns rfl (Or.inr (Or.inl ⟨rfl, rfl, _, rfl⟩)) (hb hby d3_45) hr
  · show Q3 Z ra0 w_state_ra0 h0 n0 _ T15.heap _
    rw [e15]
    exact ⟨rfl, N12, K12, f18, Fw12⟩
theorem pd_0 : parseMethodDescriptor "(J)V" = some ⟨[.long], none⟩ := by decide +kernel
theorem pd_1 : parseMethodDescriptor "()J" = some ⟨[], some .long⟩ := by decide +kernel
theorem pn_46 : plainName "com/example/lattice_traffic/latticetraffic/SplitMix64NextLongPinLaw" = true := by first | (simp [plainName, overriddenIn]; done) | decide +kernel
def v0_15_l5 (q0 : Int64) : Int64 := ((v3_38_l1 q0) ^^^ (((v3_38_l1 q0).toUInt64 >>> ((31 : Int32) &&& 0x3f).toInt64.toUInt64).toInt64))
def v0_22_l7 (q0 : Int64) : Int64 := ((v3_38_l1 (q0 + (-7046029254386353131 : Int64))) ^^^ (((v3_38_l1 (q0 + (-7046029254386353131 : Int64))).toUInt64 >>> ((31 : Int32) &&& 0x3f).toInt64.toUInt64).toInt64))
def v0_43_l10 (q0 : Int64) : Int64 := ((v3_38_l1 (q0 + (-7046029254386353131 : Int64))) ^^^ (((v3_38_l1 (q0 + (-7046029254386353131 : Int64))).toUInt64 >>> ((31 : Int32) &&& 0x3f).toInt64.toUInt64).toInt64))
def v0_60_l13 (q1 : Int64) : Int64 := ((v3_38_l1 q1) ^^^ (((v3_38_l1 q1).toUInt64 >>> ((31 : Int32) &&& 0x3f).toInt64.toUInt64).toInt64))
def v0_77_l16  : Int64 := ((v3_38_l1 (0 : Int64)) ^^^ (((v3_38_l1 (0 : Int64)).toUInt64 >>> ((31 : Int32) &&& 0x3f).toInt64.toUInt64).toInt64))
def v0_84_s0 (q0 : Int64) : Int32 := if (v0_22_l7 q0) = (v0_43_l10 q0) then (1 : Int32) else (0 : Int32)
def v0_97_s0 (q0 : Int64) (q1 : Int64) : Int32 := if q0 = q1 then (1 : Int32) else (0 : Int32)
def v0_110_s0 (q0 : Int64) (q1 : Int64) : Int32 := if (v0_15_l5 q0) = (v0_60_l13 q1) then (1 : Int32) else (0 : Int32)
def v0_118_s0 (q0 : Int64) (q1 : Int64) : Int32 := if (v0_97_s0 q0 q1) = (v0_110_s0 q0 q1) then (1 : Int32) else (0 : Int32)
def v0_134_s0  : Int32 := if v0_77_l16 = (-2152535657050944081 : Int64) then (1 : Int32) else (0 : Int32)
def v0_156_s0  : Int32 := if v0_134_s0 = (0 : Int32) then (0 : Int32) else (1 : Int32)
def v0_151_s0 (q0 : Int64) (q1 : Int64) : Int32 := if (v0_118_s0 q0 q1) = (0 : Int32) then (0 : Int32) else v0_156_s0
def v0_146_s0 (q0 : Int64) (q1 : Int64) : Int32 := if (v0_84_s0 q0) = (0 : Int32) then (0 : Int32) else (v0_151_s0 q0 q1)
theorem own_xsb (x y : BitVec 64) (k : Nat) (hk : 22 ≤ k) (h : x ^^^ (x >>> k) = y ^^^ (y >>> k)) : x = y := by
  have g : ∀ z : BitVec 64, (z ^^^ (z >>> k)) ^^^ ((z ^^^ (z >>> k)) >>> k) ^^^ ((z ^^^ (z >>> k)) >>> (k + k)) = z := by
    intro z
    apply BitVec.eq_of_getLsbD_eq
    intro i hi
    simp only [BitVec.getLsbD_xor, BitVec.getLsbD_ushiftRight]
    have e1 : k + (k + i) = k + k + i := by omega
    have e2 : z.getLsbD (k + (k + k + i)) = false := BitVec.getLsbD_of_ge _ _ (by omega)
    rw [e1, e2]
    cases z.getLsbD i <;> cases z.getLsbD (k + i) <;> cases z.getLsbD (k + k + i) <;> rfl
  rw [← g x, ← g y, h]
theorem own_xs (x y : Int64) (q : Int32) (k : Nat) (hk : 22 ≤ k) (hq : ((q &&& 0x3f).toInt64.toUInt64.toBitVec % 64).toNat = k)
    (h : x ^^^ ((x.toUInt64 >>> (q &&& 0x3f).toInt64.toUInt64).toInt64) = y ^^^ ((y.toUInt64 >>> (q &&& 0x3f).toInt64.toUInt64).toInt64)) : x = y := by
  have f : ∀ z : Int64, (z ^^^ ((z.toUInt64 >>> (q &&& 0x3f).toInt64.toUInt64).toInt64)).toBitVec = z.toBitVec ^^^ (z.toBitVec >>> k) := by
    intro z
    rw [Int64.toBitVec_xor]
    show z.toBitVec ^^^ (z.toUInt64 >>> (q &&& 0x3f).toInt64.toUInt64).toBitVec = _
    rw [UInt64.toBitVec_shiftRight, BitVec.ushiftRight_eq', hq]; rfl
  apply Int64.toBitVec_inj.mp
  refine own_xsb _ _ k hk ?_
  rw [← f x, ← f y, h]
theorem own_mul (x y c d : Int64) (hcd : c * d = 1) (h : x * c = y * c) : x = y := by
  have e : x * c * d = y * c * d := by rw [h]
  rw [Int64.mul_assoc, Int64.mul_assoc, hcd, Int64.mul_one, Int64.mul_one] at e
  exact e
theorem own_inj (x y : Int64) (h : v0_15_l5 x = v0_60_l13 y) : x = y := by
  unfold v0_15_l5 v0_60_l13 at h
  have h1 := own_xs _ _ (31 : Int32) 31 (by decide) (by decide) h
  unfold v3_38_l1 at h1
  have h2 := own_xs _ _ (27 : Int32) 27 (by decide) (by decide) (own_mul _ _ _ 3573116690164977347 (by decide) h1)
  unfold v3_27_l1 at h2
  have h3 := own_xs _ _ (30 : Int32) 30 (by decide) (by decide) (own_mul _ _ _ (-7575587736534282103) (by decide) h2)
  unfold v3_16_l1 at h3
  have h4 := congrArg (fun z => z - (-7046029254386353131 : Int64)) h3
  simpa only [Int64.add_sub_cancel] using h4
theorem own_law (q0 q1 : Int64) : (nar .boolean (v0_146_s0 q0 q1)) = 1 := by
  have e1 : v0_84_s0 q0 = 1 := by unfold v0_84_s0; exact if_pos rfl
  have e2 : v0_118_s0 q0 q1 = 1 := by
    unfold v0_118_s0
    refine if_pos ?_
    unfold v0_97_s0 v0_110_s0
    by_cases h : q0 = q1
    · subst h; rw [if_pos rfl, if_pos (show v0_15_l5 q0 = v0_60_l13 q0 from rfl)]
    · rw [if_neg h, if_neg (fun q => h (own_inj _ _ q))]
  have e3 : v0_134_s0 = 1 := by unfold v0_134_s0; exact if_pos (by decide +kernel)
  have e : v0_146_s0 q0 q1 = 1 := by
    unfold v0_146_s0 v0_151_s0 v0_156_s0
    rw [e1, e2, e3]; rfl
  rw [e]; rfl

theorem ef_rm0 (m : MethodId) (q0 : Int64) (q1 : Int64) : entryFrame m #[(.long q0), (.long q1)] maxLocals = mkF m 0 #[.val (.long q0), .second, .val (.long q1), .second, .unset, .unset, .unset, .unset, .unset, .unset, .unset, .unset, .unset, .unset, .unset, .unset, .unset, .unset, .unset, .unset, .unset] [] := by first | (simp [entryFrame, mkF, argsToLocals, Value.category, maxLocals]; done) | rfl
def Q0 (Z : State) (q0 : Int64) (q1 : Int64) (h0 : Heap) (n0 : Nat) (v : Option Value) (h : Heap) (L : List Loc) : Prop := v = some (.int 1) ∧ Fr n0 L
set_option maxRecDepth 65536 in
set_option maxHeartbeats 40000000 in
theorem rm0 (l : Launch) (Z : State) (a0 : Array Value) (hw : ∀ d ∈ tables_1, d.before a0 Z = true) (ws : List Jvm.Cond) (q0 : Int64) (q1 : Int64) (h0 : Heap) (n0 : Nat) (Z0 : n0 ≤ h0.size) :
    MetFree l x (head1 (Jvm.Cond.code x code maxLocals ret :: ws) room_1) (fun a U => a = #[(.long q0), (.long q1)] ∧ Z.Warmed39 U.vm ∧ U.heap = h0) (fun _ _ _ _ _ => True) (fun _ U o U' => ∃ v L, o = .returned v ∧ Q0 Z q0 q1 h0 n0 v U'.heap L ∧ FrameEnd U o U' L room_1.cells room_1.slots) := by
  refine MetFree.of_bodySF (plainFor_of_name pn_46) hisR ?_
  intro p e s m args below meth c s₁ Bd hml0 hP hK
  obtain ⟨rfl, hZ, hh⟩ := hP
  have hx := Bd.exec
  have hby := Bd.bytes
  have hml : c.maxLocals = 21 := hml0
  have hown : s.vm.findClass "com/example/lattice_traffic/latticetraffic/SplitMix64NextLongPinLaw" = some m.cls := findClass_of_methodNamed Bd.named
  have hnm := (name_of_methodNamed Bd.named Bd.method).1
  have X0 : Stand p l e room_1 s m #[(.long q0), (.long q1)] below meth c s₁ [] 0 0 := Stand.of_body Bd
  have e0 : s₁.heap = h0 := by rw [← hh, Bd.state]; rfl
  have N0 := Fr.nil n0
  have KC0 := Keep.refl h0 ([] : List Addr)
  have pre0 : ∀ t, Steps p.tables e below (s₁.setTop (mkF m 0 #[.val (.long q0), .second, .val (.long q1), .second, .unset, .unset, .unset, .unset, .unset, .unset, .unset, .unset, .unset, .unset, .unset, .unset, .unset, .unset, .unset, .unset, .unset] [])) t → Steps p.tables e below (s₁.setTop (entryFrame m #[(.long q0), (.long q1)] maxLocals)) t := fun t k => castTop (ef_rm0 m q0 q1) k
  obtain ⟨T19, h19, X19, e19, E19, A19, D19, -, st19⟩ := newO X0 hx hZ hown (hw _ (List.mem_of_getElem? (i := 0) rfl)) (hw _ (List.mem_of_getElem? (i := 1) rfl)) (hw _ (List.mem_of_getElem? (i := 2) rfl)) e0 (g := (mkF m 0 #[.val (.long q0), .second, .val (.long q1), .second, .unset, .unset, .unset, .unset, .unset, .unset, .unset, .unset, .unset, .unset, .unset, .unset, .unset, .unset, .unset, .unset, .unset] [])) rfl (hb hby at_0) (by decide) (by decide)
  obtain ⟨b19, g19⟩ : ∃ z, z = h0.size := ⟨_, rfl⟩
  rw [← g19] at A19 D19 st19
  have g_b19 : n0 ≤ b19 := Nat.le_trans (Nat.le_trans Z0 KC0.1) (Nat.le_of_eq g19.symm)
  have sz_b19 : h0.size ≤ b19 := Nat.le_trans KC0.1 (Nat.le_of_eq g19.symm)
  have K19 : Keep h0 h19 [] := KC0.ext E19
  have F_state_b19 : Fld Z h19 b19 "com/example/lattice_traffic/latticetraffic/SplitMix64" "state" "J" (.long (0 : Int64)) := D19 (Or.inl (hw _ (List.mem_of_getElem? (i := 10) rfl))) (ty := .long) (by decide)
  have k20 := fun (t : State) (kk : Steps p.tables e below (T19.setTop (mkF m 3 #[.val (.long q0), .second, .val (.long q1), .second, .unset, .unset, .unset, .unset, .unset, .unset, .unset, .unset, .unset, .unset, .unset, .unset, .unset, .unset, .unset, .unset, .unset] [(.ref b19)])) t) => pre0 t (st19 _ kk)
  have k21 := fun (t : State) (kk : Steps p.tables e below (T19.setTop (mkF m 5 #[.val (.long q0), .second, .val (.long q1), .second, .unset, .unset, .unset, .unset, .unset, .unset, .unset, .unset, .unset, .unset, .unset, .unset, .unset, .unset, .unset, .unset, .unset] [(.long q0), (.ref b19), (.ref b19)])) t) => k20 t (by
    show Steps p.tables e below (T19.setTop (mkF m 3 #[.val (.long q0), .second, .val (.long q1), .second, .unset, .unset, .unset, .unset, .unset, .unset, .unset, .unset, .unset, .unset, .unset, .unset, .unset, .unset, .unset, .unset, .unset] [(.ref b19)])) _
    refine XS.dup X19.here hx rfl (hb hby at_3) rfl rfl ?_
    show Steps p.tables e below (T19.setTop (mkF m 4 #[.val (.long q0), .second, .val (.long q1), .second, .unset, .unset, .unset, .unset, .unset, .unset, .unset, .unset, .unset, .unset, .unset, .unset, .unset, .unset, .unset, .unset, .unset] [(.ref b19), (.ref b19)])) _
    refine XS.lloadN X19.here hx rfl (hb hby at_4) rfl ?_
    exact kk)
  have Zz22 : n0 ≤ h19.size := (Nat.le_trans Z0 K19.1)
  obtain ⟨_, _, ⟨T22, L22, k22, n22⟩, -, X22, ⟨Lc22, hQ22, l22, y22, z22⟩, st22⟩ := X19.specialBack hx (y := (⟨"com/example/lattice_traffic/latticetraffic/SplitMix64", "<init>", "(J)V"⟩ : MethodName)) rfl hown (mvT hZ (hw _ (List.mem_of_getElem? (i := 3) rfl))) (mvT hZ (hw _ (List.mem_of_getElem? (i := 4) rfl))) (mvT hZ (hw _ (List.mem_of_getElem? (i := 5) rfl))) (by decide) (backOf (W := 1) (rm1 l Z a0 hw [] b19 q0 (0 : Int64) h19 n0 Zz22 A19 F_state_b19 g_b19) hZ (hw _ (List.mem_of_getElem? (i := 5) rfl)) (hw _ (List.mem_of_getElem? (i := 2) rfl)) (by decide) (by decide)) (g := (mkF m 5 #[.val (.long q0), .second, .val (.long q1), .second, .unset, .unset, .unset, .unset, .unset, .unset, .unset, .unset, .unset, .unset, .unset, .unset, .unset, .unset, .unset, .unset, .unset] [(.long q0), (.ref b19), (.ref b19)])) rfl (by rw [hml]; rfl) (Steps.refl _) (a := b19) (argsL := [(.long q0)]) (rest := [(.ref b19)]) (lenOf pd_0 rfl) rfl (by show 2 * 0 + _ ≤ _; exact Nat.le_of_eq rfl) (hb hby at_5) (fun _ _ => ⟨rfl, e19, (by decide : 1 + 0 ≤ _), (by decide : 1 + 0 ≤ _)⟩)
  dsimp only [Pt.U, Pt.locs, Pt.cells, Pt.slots] at X22 l22 y22 z22 st22 hQ22
  subst l22 y22 z22
  obtain ⟨rfl, N22q, Kq22, Eq22_0, Fq22_0⟩ := hQ22
  have K22 : Keep h0 T22.heap [] := K19.trans Kq22 (allS (Or.inr sz_b19) all0)
  have N22 := Fr.app N0 N22q
  have k23 := fun (t : State) (kk : Steps p.tables e below (T22.setTop (mkF m 8 #[.val (.long q0), .second, .val (.long q1), .second, .unset, .unset, .unset, .unset, .unset, .unset, .unset, .unset, .unset, .unset, .unset, .unset, .unset, .unset, .unset, .unset, .unset] [(.ref b19)])) t) => k21 t (st22.trans kk)
  have k24 := fun (t : State) (kk : Steps p.tables e below (T22.setTop (mkF m 12 #[.val (.long q0), .second, .val (.long q1), .second, .val (.ref b19), .unset, .unset, .unset, .unset, .unset, .unset, .unset, .unset, .unset, .unset, .unset, .unset, .unset, .unset, .unset, .unset] [(.ref b19)])) t) => k23 t (by
    show Steps p.tables e below (T22.setTop (mkF m 8 #[.val (.long q0), .second, .val (.long q1), .second, .unset, .unset, .unset, .unset, .unset, .unset, .unset, .unset, .unset, .unset, .unset, .unset, .unset, .unset, .unset, .unset, .unset] [(.ref b19)])) _
    refine XS.astore X22.here hx rfl (hb hby at_8) rfl rfl (l' := #[.val (.long q0), .second, .val (.long q1), .second, .val (.ref b19), .unset, .unset, .unset, .unset, .unset, .unset, .unset, .unset, .unset, .unset, .unset, .unset, .unset, .unset, .unset, .unset]) rfl ?_
    show Steps p.tables e below (T22.setTop (mkF m 10 #[.val (.long q0), .second, .val (.long q1), .second, .val (.ref b19), .unset, .unset, .unset, .unset, .unset, .unset, .unset, .unset, .unset, .unset, .unset, .unset, .unset, .unset, .unset, .unset] [])) _
    refine XS.aload X22.here hx rfl (hb hby at_10) rfl rfl ?_
    exact kk)
  have Zz25 : n0 ≤ T22.heap.size := (Nat.le_trans Z0 K22.1)
  obtain ⟨cq25, kq25, q25a, q25b, q25c⟩ := isOf hZ rfl Eq22_0
  obtain ⟨_, _, ⟨T25, L25, k25, n25⟩, -, X25, ⟨Lc25, hQ25, l25, y25, z25⟩, st25⟩ := X22.virtualBack hx (y := (⟨"com/example/lattice_traffic/latticetraffic/SplitMix64", "nextLong", "()J"⟩ : MethodName)) (z := (⟨"com/example/lattice_traffic/latticetraffic/SplitMix64", "nextLong", "()J"⟩ : MethodName)) hown (mvT hZ (hw _ (List.mem_of_getElem? (i := 11) rfl))) (mvT hZ (hw _ (List.mem_of_getElem? (i := 12) rfl))) (notFace_of_selects (args := #[]) (mvT hZ (hw _ (List.mem_of_getElem? (i := 14) rfl)))) (mvT hZ (hw _ (List.mem_of_getElem? (i := 14) rfl))) (mvT hZ (hw _ (List.mem_of_getElem? (i := 13) rfl))) (by decide) (backOf (W := 0) (rm3 l Z a0 hw [] b19 q0 T22.heap n0 Zz25 Fq22_0 Eq22_0 g_b19) hZ (hw _ (List.mem_of_getElem? (i := 15) rfl)) (hw _ (List.mem_of_getElem? (i := 2) rfl)) (by decide) (by decide)) q25a q25c (g := (mkF m 12 #[.val (.long q0), .second, .val (.long q1), .second, .val (.ref b19), .unset, .unset, .unset, .unset, .unset, .unset, .unset, .unset, .unset, .unset, .unset, .unset, .unset, .unset, .unset, .unset] [(.ref b19)])) rfl (by rw [hml]; rfl) (Steps.refl _) (argsL := []) (rest := []) (lenOf pd_1 rfl) rfl (by show 2 * 0 + _ ≤ _; exact Nat.le_of_eq rfl) (hb hby at_12) (fun _ _ => ⟨rfl, rfl, (by decide : 1 + 0 ≤ _), (by decide : 1 + 0 ≤ _)⟩)
  dsimp only [Pt.U, Pt.locs, Pt.cells, Pt.slots] at X25 l25 y25 z25 st25 hQ25
  subst l25 y25 z25
  obtain ⟨rfl, N25q, Kq25, Eq25_0, Fq25_0⟩ := hQ25
  have K25 : Keep h0 T25.heap [] := K22.trans Kq25 (allS (Or.inr sz_b19) all0)
  have N25 := Fr.app N22 N25q
  have k26 := fun (t : State) (kk : Steps p.tables e below (T25.setTop (mkF m 15 #[.val (.long q0), .second, .val (.long q1), .second, .val (.ref b19), .unset, .unset, .unset, .unset, .unset, .unset, .unset, .unset, .unset, .unset, .unset, .unset, .unset, .unset, .unset, .unset] [(.long ((v3_38_l1 q0) ^^^ (((v3_38_l1 q0).toUInt64 >>> ((31 : Int32) &&& 0x3f).toInt64.toUInt64).toInt64)))])) t) => k24 t (st25.trans kk)
  have k27 := fun (t : State) (kk : Steps p.tables e below (T25.setTop (mkF m 19 #[.val (.long q0), .second, .val (.long q1), .second, .val (.ref b19), .val (.long (v0_15_l5 q0)), .second, .unset, .unset, .unset, .unset, .unset, .unset, .unset, .unset, .unset, .unset, .unset, .unset, .unset, .unset] [(.ref b19)])) t) => k26 t (by
    show Steps p.tables e below (T25.setTop (mkF m 15 #[.val (.long q0), .second, .val (.long q1), .second, .val (.ref b19), .unset, .unset, .unset, .unset, .unset, .unset, .unset, .unset, .unset, .unset, .unset, .unset, .unset, .unset, .unset, .unset] [(.long ((v3_38_l1 q0) ^^^ (((v3_38_l1 q0).toUInt64 >>> ((31 : Int32) &&& 0x3f).toInt64.toUInt64).toInt64)))])) _
    refine XS.lstore X25.here hx rfl (hb hby at_15) rfl (l' := #[.val (.long q0), .second, .val (.long q1), .second, .val (.ref b19), .val (.long (v0_15_l5 q0)), .second, .unset, .unset, .unset, .unset, .unset, .unset, .unset, .unset, .unset, .unset, .unset, .unset, .unset, .unset]) rfl ?_
    show Steps p.tables e below (T25.setTop (mkF m 17 #[.val (.long q0), .second, .val (.long q1), .second, .val (.ref b19), .val (.long (v0_15_l5 q0)), .second, .unset, .unset, .unset, .unset, .unset, .unset, .unset, .unset, .unset, .unset, .unset, .unset, .unset, .unset] [])) _
    refine XS.aload X25.here hx rfl (hb hby at_17) rfl rfl ?_
    exact kk)
  have Zz28 : n0 ≤ T25.heap.size := (Nat.le_trans Z0 K25.1)
  obtain ⟨cq28, kq28, q28a, q28b, q28c⟩ := isOf hZ rfl Eq25_0
  obtain ⟨_, _, ⟨T28, L28, k28, n28⟩, -, X28, ⟨Lc28, hQ28, l28, y28, z28⟩, st28⟩ := X25.virtualBack hx (y := (⟨"com/example/lattice_traffic/latticetraffic/SplitMix64", "nextLong", "()J"⟩ : MethodName)) (z := (⟨"com/example/lattice_traffic/latticetraffic/SplitMix64", "nextLong", "()J"⟩ : MethodName)) hown (mvT hZ (hw _ (List.mem_of_getElem? (i := 11) rfl))) (mvT hZ (hw _ (List.mem_of_getElem? (i := 12) rfl))) (notFace_of_selects (args := #[]) (mvT hZ (hw _ (List.mem_of_getElem? (i := 14) rfl)))) (mvT hZ (hw _ (List.mem_of_getElem? (i := 14) rfl))) (mvT hZ (hw _ (List.mem_of_getElem? (i := 13) rfl))) (by decide) (backOf (W := 0) (rm3 l Z a0 hw [] b19 (q0 + (-7046029254386353131 : Int64)) T25.heap n0 Zz28 Fq25_0 Eq25_0 g_b19) hZ (hw _ (List.mem_of_getElem? (i := 15) rfl)) (hw _ (List.mem_of_getElem? (i := 2) rfl)) (by decide) (by decide)) q28a q28c (g := (mkF m 19 #[.val (.long q0), .second, .val (.long q1), .second, .val (.ref b19), .val (.long (v0_15_l5 q0)), .second, .unset, .unset, .unset, .unset, .unset, .unset, .unset, .unset, .unset, .unset, .unset, .unset, .unset, .unset] [(.ref b19)])) rfl (by rw [hml]; rfl) (Steps.refl _) (argsL := []) (rest := []) (lenOf pd_1 rfl) rfl (by show 2 * 0 + _ ≤ _; exact Nat.le_of_eq rfl) (hb hby at_19) (fun _ _ => ⟨rfl, rfl, (by decide : 1 + 0 ≤ _), (by decide : 1 + 0 ≤ _)⟩)
  dsimp only [Pt.U, Pt.locs, Pt.cells, Pt.slots] at X28 l28 y28 z28 st28 hQ28
  subst l28 y28 z28
  obtain ⟨rfl, N28q, Kq28, Eq28_0, Fq28_0⟩ := hQ28
  have K28 : Keep h0 T28.heap [] := K25.trans Kq28 (allS (Or.inr sz_b19) all0)
  have N28 := Fr.app N25 N28q
  have k29 := fun (t : State) (kk : Steps p.tables e below (T28.setTop (mkF m 22 #[.val (.long q0), .second, .val (.long q1), .second, .val (.ref b19), .val (.long (v0_15_l5 q0)), .second, .unset, .unset, .unset, .unset, .unset, .unset, .unset, .unset, .unset, .unset, .unset, .unset, .unset, .unset] [(.long ((v3_38_l1 (q0 + (-7046029254386353131 : Int64))) ^^^ (((v3_38_l1 (q0 + (-7046029254386353131 : Int64))).toUInt64 >>> ((31 : Int32) &&& 0x3f).toInt64.toUInt64).toInt64)))])) t) => k27 t (st28.trans kk)
  have k30 := fun (t : State) (kk : Steps p.tables e below (T28.setTop (mkF m 24 #[.val (.long q0), .second, .val (.long q1), .second, .val (.ref b19), .val (.long (v0_15_l5 q0)), .second, .val (.long (v0_22_l7 q0)), .second, .unset, .unset, .unset, .unset, .unset, .unset, .unset, .unset, .unset, .unset, .unset, .unset] [])) t) => k29 t (by
    show Steps p.tables e below (T28.setTop (mkF m 22 #[.val (.long q0), .second, .val (.long q1), .second, .val (.ref b19), .val (.long (v0_15_l5 q0)), .second, .unset, .unset, .unset, .unset, .unset, .unset, .unset, .unset, .unset, .unset, .unset, .unset, .unset, .unset] [(.long ((v3_38_l1 (q0 + (-7046029254386353131 : Int64))) ^^^ (((v3_38_l1 (q0 + (-7046029254386353131 : Int64))).toUInt64 >>> ((31 : Int32) &&& 0x3f).toInt64.toUInt64).toInt64)))])) _
    refine XS.lstore X28.here hx rfl (hb hby at_22) rfl (l' := #[.val (.long q0), .second, .val (.long q1), .second, .val (.ref b19), .val (.long (v0_15_l5 q0)), .second, .val (.long (v0_22_l7 q0)), .second, .unset, .unset, .unset, .unset, .unset, .unset, .unset, .unset, .unset, .unset, .unset, .unset]) rfl ?_
    exact kk)
  obtain ⟨T31, h31, X31, e31, E31, A31, D31, -, st31⟩ := newO X28 hx hZ hown (hw _ (List.mem_of_getElem? (i := 0) rfl)) (hw _ (List.mem_of_getElem? (i := 1) rfl)) (hw _ (List.mem_of_getElem? (i := 2) rfl)) rfl (g := (mkF m 24 #[.val (.long q0), .second, .val (.long q1), .second, .val (.ref b19), .val (.long (v0_15_l5 q0)), .second, .val (.long (v0_22_l7 q0)), .second, .unset, .unset, .unset, .unset, .unset, .unset, .unset, .unset, .unset, .unset, .unset, .unset] [])) rfl (hb hby at_24) (by decide) (by decide)
  obtain ⟨b31, g31⟩ : ∃ z, z = T28.heap.size := ⟨_, rfl⟩
  rw [← g31] at A31 D31 st31
  have ne_b19_b31 : b19 ≠ b31 := Nat.ne_of_lt (Nat.lt_of_lt_of_le Eq28_0.lt (Nat.le_of_eq g31.symm))
  have g_b31 : n0 ≤ b31 := Nat.le_trans (Nat.le_trans Z0 K28.1) (Nat.le_of_eq g31.symm)
  have sz_b31 : h0.size ≤ b31 := Nat.le_trans K28.1 (Nat.le_of_eq g31.symm)
  have K31 : Keep h0 h31 [] := K28.ext E31
  have F_state_b31 : Fld Z h31 b31 "com/example/lattice_traffic/latticetraffic/SplitMix64" "state" "J" (.long (0 : Int64)) := D31 (Or.inl (hw _ (List.mem_of_getElem? (i := 10) rfl))) (ty := .long) (by decide)
  have k32 := fun (t : State) (kk : Steps p.tables e below (T31.setTop (mkF m 27 #[.val (.long q0), .second, .val (.long q1), .second, .val (.ref b19), .val (.long (v0_15_l5 q0)), .second, .val (.long (v0_22_l7 q0)), .second, .unset, .unset, .unset, .unset, .unset, .unset, .unset, .unset, .unset, .unset, .unset, .unset] [(.ref b31)])) t) => k30 t (st31 _ kk)
  have k33 := fun (t : State) (kk : Steps p.tables e below (T31.setTop (mkF m 33 #[.val (.long q0), .second, .val (.long q1), .second, .val (.ref b19), .val (.long (v0_15_l5 q0)), .second, .val (.long (v0_22_l7 q0)), .second, .unset, .unset, .unset, .unset, .unset, .unset, .unset, .unset, .unset, .unset, .unset, .unset] [(.long (q0 + (-7046029254386353131 : Int64))), (.ref b31), (.ref b31)])) t) => k32 t (by
    show Steps p.tables e below (T31.setTop (mkF m 27 #[.val (.long q0), .second, .val (.long q1), .second, .val (.ref b19), .val (.long (v0_15_l5 q0)), .second, .val (.long (v0_22_l7 q0)), .second, .unset, .unset, .unset, .unset, .unset, .unset, .unset, .unset, .unset, .unset, .unset, .unset] [(.ref b31)])) _
    refine XS.dup X31.here hx rfl (hb hby at_27) rfl rfl ?_
    show Steps p.tables e below (T31.setTop (mkF m 28 #[.val (.long q0), .second, .val (.long q1), .second, .val (.ref b19), .val (.long (v0_15_l5 q0)), .second, .val (.long (v0_22_l7 q0)), .second, .unset, .unset, .unset, .unset, .unset, .unset, .unset, .unset, .unset, .unset, .unset, .unset] [(.ref b31), (.ref b31)])) _
    refine XS.lloadN X31.here hx rfl (hb hby at_28) rfl ?_
    show Steps p.tables e below (T31.setTop (mkF m 29 #[.val (.long q0), .second, .val (.long q1), .second, .val (.ref b19), .val (.long (v0_15_l5 q0)), .second, .val (.long (v0_22_l7 q0)), .second, .unset, .unset, .unset, .unset, .unset, .unset, .unset, .unset, .unset, .unset, .unset, .unset] [(.long q0), (.ref b31), (.ref b31)])) _
    refine X31.ldc2Long hx hown (mvT hZ (hw _ (List.mem_of_getElem? (i := 19) rfl))) (g := (mkF m 29 #[.val (.long q0), .second, .val (.long q1), .second, .val (.ref b19), .val (.long (v0_15_l5 q0)), .second, .val (.long (v0_22_l7 q0)), .second, .unset, .unset, .unset, .unset, .unset, .unset, .unset, .unset, .unset, .unset, .unset, .unset] [(.long q0), (.ref b31), (.ref b31)])) rfl (hb hby at_29) _ ?_
    show Steps p.tables e below (T31.setTop (mkF m 32 #[.val (.long q0), .second, .val (.long q1), .second, .val (.ref b19), .val (.long (v0_15_l5 q0)), .second, .val (.long (v0_22_l7 q0)), .second, .unset, .unset, .unset, .unset, .unset, .unset, .unset, .unset, .unset, .unset, .unset, .unset] [(.long (-7046029254386353131 : Int64)), (.long q0), (.ref b31), (.ref b31)])) _
    refine XS.ladd X31.here hx rfl (hb hby at_32) rfl ?_
    exact kk)
  have Zz34 : n0 ≤ h31.size := (Nat.le_trans Z0 K31.1)
  obtain ⟨_, _, ⟨T34, L34, k34, n34⟩, -, X34, ⟨Lc34, hQ34, l34, y34, z34⟩, st34⟩ := X31.specialBack hx (y := (⟨"com/example/lattice_traffic/latticetraffic/SplitMix64", "<init>", "(J)V"⟩ : MethodName)) rfl hown (mvT hZ (hw _ (List.mem_of_getElem? (i := 3) rfl))) (mvT hZ (hw _ (List.mem_of_getElem? (i := 4) rfl))) (mvT hZ (hw _ (List.mem_of_getElem? (i := 5) rfl))) (by decide) (backOf (W := 1) (rm1 l Z a0 hw [] b31 (q0 + (-7046029254386353131 : Int64)) (0 : Int64) h31 n0 Zz34 A31 F_state_b31 g_b31) hZ (hw _ (List.mem_of_getElem? (i := 5) rfl)) (hw _ (List.mem_of_getElem? (i := 2) rfl)) (by decide) (by decide)) (g := (mkF m 33 #[.val (.long q0), .second, .val (.long q1), .second, .val (.ref b19), .val (.long (v0_15_l5 q0)), .second, .val (.long (v0_22_l7 q0)), .second, .unset, .unset, .unset, .unset, .unset, .unset, .unset, .unset, .unset, .unset, .unset, .unset] [(.long (q0 + (-7046029254386353131 : Int64))), (.ref b31), (.ref b31)])) rfl (by rw [hml]; rfl) (Steps.refl _) (a := b31) (argsL := [(.long (q0 + (-7046029254386353131 : Int64)))]) (rest := [(.ref b31)]) (lenOf pd_0 rfl) rfl (by show 2 * 0 + _ ≤ _; exact Nat.le_of_eq rfl) (hb hby at_33) (fun _ _ => ⟨rfl, e31, (by decide : 2 + 0 ≤ _), (by decide : 2 + 0 ≤ _)⟩)
  dsimp only [Pt.U, Pt.locs, Pt.cells, Pt.slots] at X34 l34 y34 z34 st34 hQ34
  subst l34 y34 z34
  obtain ⟨rfl, N34q, Kq34, Eq34_0, Fq34_0⟩ := hQ34
  have K34 : Keep h0 T34.heap [] := K31.trans Kq34 (allS (Or.inr sz_b31) all0)
  have N34 := Fr.app N28 N34q
  have k35 := fun (t : State) (kk : Steps p.tables e below (T34.setTop (mkF m 36 #[.val (.long q0), .second, .val (.long q1), .second, .val (.ref b19), .val (.long (v0_15_l5 q0)), .second, .val (.long (v0_22_l7 q0)), .second, .unset, .unset, .unset, .unset, .unset, .unset, .unset, .unset, .unset, .unset, .unset, .unset] [(.ref b31)])) t) => k33 t (st34.trans kk)
  have k36 := fun (t : State) (kk : Steps p.tables e below (T34.setTop (mkF m 40 #[.val (.long q0), .second, .val (.long q1), .second, .val (.ref b19), .val (.long (v0_15_l5 q0)), .second, .val (.long (v0_22_l7 q0)), .second, .val (.ref b31), .unset, .unset, .unset, .unset, .unset, .unset, .unset, .unset, .unset, .unset, .unset] [(.ref b31)])) t) => k35 t (by
    show Steps p.tables e below (T34.setTop (mkF m 36 #[.val (.long q0), .second, .val (.long q1), .second, .val (.ref b19), .val (.long (v0_15_l5 q0)), .second, .val (.long (v0_22_l7 q0)), .second, .unset, .unset, .unset, .unset, .unset, .unset, .unset, .unset, .unset, .unset, .unset, .unset] [(.ref b31)])) _
    refine XS.astore X34.here hx rfl (hb hby at_36) rfl rfl (l' := #[.val (.long q0), .second, .val (.long q1), .second, .val (.ref b19), .val (.long (v0_15_l5 q0)), .second, .val (.long (v0_22_l7 q0)), .second, .val (.ref b31), .unset, .unset, .unset, .unset, .unset, .unset, .unset, .unset, .unset, .unset, .unset]) rfl ?_
    show Steps p.tables e below (T34.setTop (mkF m 38 #[.val (.long q0), .second, .val (.long q1), .second, .val (.ref b19), .val (.long (v0_15_l5 q0)), .second, .val (.long (v0_22_l7 q0)), .second, .val (.ref b31), .unset, .unset, .unset, .unset, .unset, .unset, .unset, .unset, .unset, .unset, .unset] [])) _
    refine XS.aload X34.here hx rfl (hb hby at_38) rfl rfl ?_
    exact kk)
  have Zz37 : n0 ≤ T34.heap.size := (Nat.le_trans Z0 K34.1)
  obtain ⟨cq37, kq37, q37a, q37b, q37c⟩ := isOf hZ rfl Eq34_0
  obtain ⟨_, _, ⟨T37, L37, k37, n37⟩, -, X37, ⟨Lc37, hQ37, l37, y37, z37⟩, st37⟩ := X34.virtualBack hx (y := (⟨"com/example/lattice_traffic/latticetraffic/SplitMix64", "nextLong", "()J"⟩ : MethodName)) (z := (⟨"com/example/lattice_traffic/latticetraffic/SplitMix64", "nextLong", "()J"⟩ : MethodName)) hown (mvT hZ (hw _ (List.mem_of_getElem? (i := 11) rfl))) (mvT hZ (hw _ (List.mem_of_getElem? (i := 12) rfl))) (notFace_of_selects (args := #[]) (mvT hZ (hw _ (List.mem_of_getElem? (i := 14) rfl)))) (mvT hZ (hw _ (List.mem_of_getElem? (i := 14) rfl))) (mvT hZ (hw _ (List.mem_of_getElem? (i := 13) rfl))) (by decide) (backOf (W := 0) (rm3 l Z a0 hw [] b31 (q0 + (-7046029254386353131 : Int64)) T34.heap n0 Zz37 Fq34_0 Eq34_0 g_b31) hZ (hw _ (List.mem_of_getElem? (i := 15) rfl)) (hw _ (List.mem_of_getElem? (i := 2) rfl)) (by decide) (by decide)) q37a q37c (g := (mkF m 40 #[.val (.long q0), .second, .val (.long q1), .second, .val (.ref b19), .val (.long (v0_15_l5 q0)), .second, .val (.long (v0_22_l7 q0)), .second, .val (.ref b31), .unset, .unset, .unset, .unset, .unset, .unset, .unset, .unset, .unset, .unset, .unset] [(.ref b31)])) rfl (by rw [hml]; rfl) (Steps.refl _) (argsL := []) (rest := []) (lenOf pd_1 rfl) rfl (by show 2 * 0 + _ ≤ _; exact Nat.le_of_eq rfl) (hb hby at_40) (fun _ _ => ⟨rfl, rfl, (by decide : 2 + 0 ≤ _), (by decide : 2 + 0 ≤ _)⟩)
  dsimp only [Pt.U, Pt.locs, Pt.cells, Pt.slots] at X37 l37 y37 z37 st37 hQ37
  subst l37 y37 z37
  obtain ⟨rfl, N37q, Kq37, Eq37_0, Fq37_0⟩ := hQ37
  have K37 : Keep h0 T37.heap [] := K34.trans Kq37 (allS (Or.inr sz_b31) all0)
  have N37 := Fr.app N34 N37q
  have k38 := fun (t : State) (kk : Steps p.tables e below (T37.setTop (mkF m 43 #[.val (.long q0), .second, .val (.long q1), .second, .val (.ref b19), .val (.long (v0_15_l5 q0)), .second, .val (.long (v0_22_l7 q0)), .second, .val (.ref b31), .unset, .unset, .unset, .unset, .unset, .unset, .unset, .unset, .unset, .unset, .unset] [(.long ((v3_38_l1 (q0 + (-7046029254386353131 : Int64))) ^^^ (((v3_38_l1 (q0 + (-7046029254386353131 : Int64))).toUInt64 >>> ((31 : Int32) &&& 0x3f).toInt64.toUInt64).toInt64)))])) t) => k36 t (st37.trans kk)
  have k39 := fun (t : State) (kk : Steps p.tables e below (T37.setTop (mkF m 45 #[.val (.long q0), .second, .val (.long q1), .second, .val (.ref b19), .val (.long (v0_15_l5 q0)), .second, .val (.long (v0_22_l7 q0)), .second, .val (.ref b31), .val (.long (v0_43_l10 q0)), .second, .unset, .unset, .unset, .unset, .unset, .unset, .unset, .unset, .unset] [])) t) => k38 t (by
    show Steps p.tables e below (T37.setTop (mkF m 43 #[.val (.long q0), .second, .val (.long q1), .second, .val (.ref b19), .val (.long (v0_15_l5 q0)), .second, .val (.long (v0_22_l7 q0)), .second, .val (.ref b31), .unset, .unset, .unset, .unset, .unset, .unset, .unset, .unset, .unset, .unset, .unset] [(.long ((v3_38_l1 (q0 + (-7046029254386353131 : Int64))) ^^^ (((v3_38_l1 (q0 + (-7046029254386353131 : Int64))).toUInt64 >>> ((31 : Int32) &&& 0x3f).toInt64.toUInt64).toInt64)))])) _
    refine XS.lstore X37.here hx rfl (hb hby at_43) rfl (l' := #[.val (.long q0), .second, .val (.long q1), .second, .val (.ref b19), .val (.long (v0_15_l5 q0)), .second, .val (.long (v0_22_l7 q0)), .second, .val (.ref b31), .val (.long (v0_43_l10 q0)), .second, .unset, .unset, .unset, .unset, .unset, .unset, .unset, .unset, .unset]) rfl ?_
    exact kk)
  obtain ⟨T40, h40, X40, e40, E40, A40, D40, -, st40⟩ := newO X37 hx hZ hown (hw _ (List.mem_of_getElem? (i := 0) rfl)) (hw _ (List.mem_of_getElem? (i := 1) rfl)) (hw _ (List.mem_of_getElem? (i := 2) rfl)) rfl (g := (mkF m 45 #[.val (.long q0), .second, .val (.long q1), .second, .val (.ref b19), .val (.long (v0_15_l5 q0)), .second, .val (.long (v0_22_l7 q0)), .second, .val (.ref b31), .val (.long (v0_43_l10 q0)), .second, .unset, .unset, .unset, .unset, .unset, .unset, .unset, .unset, .unset] [])) rfl (hb hby at_45) (by decide) (by decide)
  obtain ⟨b40, g40⟩ : ∃ z, z = T37.heap.size := ⟨_, rfl⟩
  rw [← g40] at A40 D40 st40
  have f41 := (((Eq28_0.ext E31).keep Kq34).keep Kq37)
  have ne_b19_b40 : b19 ≠ b40 := Nat.ne_of_lt (Nat.lt_of_lt_of_le f41.lt (Nat.le_of_eq g40.symm))
  have ne_b31_b40 : b31 ≠ b40 := Nat.ne_of_lt (Nat.lt_of_lt_of_le Eq37_0.lt (Nat.le_of_eq g40.symm))
  have g_b40 : n0 ≤ b40 := Nat.le_trans (Nat.le_trans Z0 K37.1) (Nat.le_of_eq g40.symm)
  have sz_b40 : h0.size ≤ b40 := Nat.le_trans K37.1 (Nat.le_of_eq g40.symm)
  have K40 : Keep h0 h40 [] := K37.ext E40
  have F_state_b40 : Fld Z h40 b40 "com/example/lattice_traffic/latticetraffic/SplitMix64" "state" "J" (.long (0 : Int64)) := D40 (Or.inl (hw _ (List.mem_of_getElem? (i := 10) rfl))) (ty := .long) (by decide)
  have k42 := fun (t : State) (kk : Steps p.tables e below (T40.setTop (mkF m 48 #[.val (.long q0), .second, .val (.long q1), .second, .val (.ref b19), .val (.long (v0_15_l5 q0)), .second, .val (.long (v0_22_l7 q0)), .second, .val (.ref b31), .val (.long (v0_43_l10 q0)), .second, .unset, .unset, .unset, .unset, .unset, .unset, .unset, .unset, .unset] [(.ref b40)])) t) => k39 t (st40 _ kk)
  have k43 := fun (t : State) (kk : Steps p.tables e below (T40.setTop (mkF m 50 #[.val (.long q0), .second, .val (.long q1), .second, .val (.ref b19), .val (.long (v0_15_l5 q0)), .second, .val (.long (v0_22_l7 q0)), .second, .val (.ref b31), .val (.long (v0_43_l10 q0)), .second, .unset, .unset, .unset, .unset, .unset, .unset, .unset, .unset, .unset] [(.long q1), (.ref b40), (.ref b40)])) t) => k42 t (by
    show Steps p.tables e below (T40.setTop (mkF m 48 #[.val (.long q0), .second, .val (.long q1), .second, .val (.ref b19), .val (.long (v0_15_l5 q0)), .second, .val (.long (v0_22_l7 q0)), .second, .val (.ref b31), .val (.long (v0_43_l10 q0)), .second, .unset, .unset, .unset, .unset, .unset, .unset, .unset, .unset, .unset] [(.ref b40)])) _
    refine XS.dup X40.here hx rfl (hb hby at_48) rfl rfl ?_
    show Steps p.tables e below (T40.setTop (mkF m 49 #[.val (.long q0), .second, .val (.long q1), .second, .val (.ref b19), .val (.long (v0_15_l5 q0)), .second, .val (.long (v0_22_l7 q0)), .second, .val (.ref b31), .val (.long (v0_43_l10 q0)), .second, .unset, .unset, .unset, .unset, .unset, .unset, .unset, .unset, .unset] [(.ref b40), (.ref b40)])) _
    refine XS.lloadN X40.here hx rfl (hb hby at_49) rfl ?_
    exact kk)
  have Zz44 : n0 ≤ h40.size := (Nat.le_trans Z0 K40.1)
  obtain ⟨_, _, ⟨T44, L44, k44, n44⟩, -, X44, ⟨Lc44, hQ44, l44, y44, z44⟩, st44⟩ := X40.specialBack hx (y := (⟨"com/example/lattice_traffic/latticetraffic/SplitMix64", "<init>", "(J)V"⟩ : MethodName)) rfl hown (mvT hZ (hw _ (List.mem_of_getElem? (i := 3) rfl))) (mvT hZ (hw _ (List.mem_of_getElem? (i := 4) rfl))) (mvT hZ (hw _ (List.mem_of_getElem? (i := 5) rfl))) (by decide) (backOf (W := 1) (rm1 l Z a0 hw [] b40 q1 (0 : Int64) h40 n0 Zz44 A40 F_state_b40 g_b40) hZ (hw _ (List.mem_of_getElem? (i := 5) rfl)) (hw _ (List.mem_of_getElem? (i := 2) rfl)) (by decide) (by decide)) (g := (mkF m 50 #[.val (.long q0), .second, .val (.long q1), .second, .val (.ref b19), .val (.long (v0_15_l5 q0)), .second, .val (.long (v0_22_l7 q0)), .second, .val (.ref b31), .val (.long (v0_43_l10 q0)), .second, .unset, .unset, .unset, .unset, .unset, .unset, .unset, .unset, .unset] [(.long q1), (.ref b40), (.ref b40)])) rfl (by rw [hml]; rfl) (Steps.refl _) (a := b40) (argsL := [(.long q1)]) (rest := [(.ref b40)]) (lenOf pd_0 rfl) rfl (by show 2 * 0 + _ ≤ _; exact Nat.le_of_eq rfl) (hb hby at_50) (fun _ _ => ⟨rfl, e40, (by decide : 3 + 0 ≤ _), (by decide : 3 + 0 ≤ _)⟩)
  dsimp only [Pt.U, Pt.locs, Pt.cells, Pt.slots] at X44 l44 y44 z44 st44 hQ44
  subst l44 y44 z44
  obtain ⟨rfl, N44q, Kq44, Eq44_0, Fq44_0⟩ := hQ44
  have K44 : Keep h0 T44.heap [] := K40.trans Kq44 (allS (Or.inr sz_b40) all0)
  have N44 := Fr.app N37 N44q
  have k45 := fun (t : State) (kk : Steps p.tables e below (T44.setTop (mkF m 53 #[.val (.long q0), .second, .val (.long q1), .second, .val (.ref b19), .val (.long (v0_15_l5 q0)), .second, .val (.long (v0_22_l7 q0)), .second, .val (.ref b31), .val (.long (v0_43_l10 q0)), .second, .unset, .unset, .unset, .unset, .unset, .unset, .unset, .unset, .unset] [(.ref b40)])) t) => k43 t (st44.trans kk)
  have k46 := fun (t : State) (kk : Steps p.tables e below (T44.setTop (mkF m 57 #[.val (.long q0), .second, .val (.long q1), .second, .val (.ref b19), .val (.long (v0_15_l5 q0)), .second, .val (.long (v0_22_l7 q0)), .second, .val (.ref b31), .val (.long (v0_43_l10 q0)), .second, .val (.ref b40), .unset, .unset, .unset, .unset, .unset, .unset, .unset, .unset] [(.ref b40)])) t) => k45 t (by
    show Steps p.tables e below (T44.setTop (mkF m 53 #[.val (.long q0), .second, .val (.long q1), .second, .val (.ref b19), .val (.long (v0_15_l5 q0)), .second, .val (.long (v0_22_l7 q0)), .second, .val (.ref b31), .val (.long (v0_43_l10 q0)), .second, .unset, .unset, .unset, .unset, .unset, .unset, .unset, .unset, .unset] [(.ref b40)])) _
    refine XS.astore X44.here hx rfl (hb hby at_53) rfl rfl (l' := #[.val (.long q0), .second, .val (.long q1), .second, .val (.ref b19), .val (.long (v0_15_l5 q0)), .second, .val (.long (v0_22_l7 q0)), .second, .val (.ref b31), .val (.long (v0_43_l10 q0)), .second, .val (.ref b40), .unset, .unset, .unset, .unset, .unset, .unset, .unset, .unset]) rfl ?_
    show Steps p.tables e below (T44.setTop (mkF m 55 #[.val (.long q0), .second, .val (.long q1), .second, .val (.ref b19), .val (.long (v0_15_l5 q0)), .second, .val (.long (v0_22_l7 q0)), .second, .val (.ref b31), .val (.long (v0_43_l10 q0)), .second, .val (.ref b40), .unset, .unset, .unset, .unset, .unset, .unset, .unset, .unset] [])) _
    refine XS.aload X44.here hx rfl (hb hby at_55) rfl rfl ?_
    exact kk)
  have Zz47 : n0 ≤ T44.heap.size := (Nat.le_trans Z0 K44.1)
  obtain ⟨cq47, kq47, q47a, q47b, q47c⟩ := isOf hZ rfl Eq44_0
  obtain ⟨_, _, ⟨T47, L47, k47, n47⟩, -, X47, ⟨Lc47, hQ47, l47, y47, z47⟩, st47⟩ := X44.virtualBack hx (y := (⟨"com/example/lattice_traffic/latticetraffic/SplitMix64", "nextLong", "()J"⟩ : MethodName)) (z := (⟨"com/example/lattice_traffic/latticetraffic/SplitMix64", "nextLong", "()J"⟩ : MethodName)) hown (mvT hZ (hw _ (List.mem_of_getElem? (i := 11) rfl))) (mvT hZ (hw _ (List.mem_of_getElem? (i := 12) rfl))) (notFace_of_selects (args := #[]) (mvT hZ (hw _ (List.mem_of_getElem? (i := 14) rfl)))) (mvT hZ (hw _ (List.mem_of_getElem? (i := 14) rfl))) (mvT hZ (hw _ (List.mem_of_getElem? (i := 13) rfl))) (by decide) (backOf (W := 0) (rm3 l Z a0 hw [] b40 q1 T44.heap n0 Zz47 Fq44_0 Eq44_0 g_b40) hZ (hw _ (List.mem_of_getElem? (i := 15) rfl)) (hw _ (List.mem_of_getElem? (i := 2) rfl)) (by decide) (by decide)) q47a q47c (g := (mkF m 57 #[.val (.long q0), .second, .val (.long q1), .second, .val (.ref b19), .val (.long (v0_15_l5 q0)), .second, .val (.long (v0_22_l7 q0)), .second, .val (.ref b31), .val (.long (v0_43_l10 q0)), .second, .val (.ref b40), .unset, .unset, .unset, .unset, .unset, .unset, .unset, .unset] [(.ref b40)])) rfl (by rw [hml]; rfl) (Steps.refl _) (argsL := []) (rest := []) (lenOf pd_1 rfl) rfl (by show 2 * 0 + _ ≤ _; exact Nat.le_of_eq rfl) (hb hby at_57) (fun _ _ => ⟨rfl, rfl, (by decide : 3 + 0 ≤ _), (by decide : 3 + 0 ≤ _)⟩)
  dsimp only [Pt.U, Pt.locs, Pt.cells, Pt.slots] at X47 l47 y47 z47 st47 hQ47
  subst l47 y47 z47
  obtain ⟨rfl, N47q, Kq47, Eq47_0, Fq47_0⟩ := hQ47
  have K47 : Keep h0 T47.heap [] := K44.trans Kq47 (allS (Or.inr sz_b40) all0)
  have N47 := Fr.app N44 N47q
  have k48 := fun (t : State) (kk : Steps p.tables e below (T47.setTop (mkF m 60 #[.val (.long q0), .second, .val (.long q1), .second, .val (.ref b19), .val (.long (v0_15_l5 q0)), .second, .val (.long (v0_22_l7 q0)), .second, .val (.ref b31), .val (.long (v0_43_l10 q0)), .second, .val (.ref b40), .unset, .unset, .unset, .unset, .unset, .unset, .unset, .unset] [(.long ((v3_38_l1 q1) ^^^ (((v3_38_l1 q1).toUInt64 >>> ((31 : Int32) &&& 0x3f).toInt64.toUInt64).toInt64)))])) t) => k46 t (st47.trans kk)
  have k49 := fun (t : State) (kk : Steps p.tables e below (T47.setTop (mkF m 62 #[.val (.long q0), .second, .val (.long q1), .second, .val (.ref b19), .val (.long (v0_15_l5 q0)), .second, .val (.long (v0_22_l7 q0)), .second, .val (.ref b31), .val (.long (v0_43_l10 q0)), .second, .val (.ref b40), .val (.long (v0_60_l13 q1)), .second, .unset, .unset, .unset, .unset, .unset, .unset] [])) t) => k48 t (by
    show Steps p.tables e below (T47.setTop (mkF m 60 #[.val (.long q0), .second, .val (.long q1), .second, .val (.ref b19), .val (.long (v0_15_l5 q0)), .second, .val (.long (v0_22_l7 q0)), .second, .val (.ref b31), .val (.long (v0_43_l10 q0)), .second, .val (.ref b40), .unset, .unset, .unset, .unset, .unset, .unset, .unset, .unset] [(.long ((v3_38_l1 q1) ^^^ (((v3_38_l1 q1).toUInt64 >>> ((31 : Int32) &&& 0x3f).toInt64.toUInt64).toInt64)))])) _
    refine XS.lstore X47.here hx rfl (hb hby at_60) rfl (l' := #[.val (.long q0), .second, .val (.long q1), .second, .val (.ref b19), .val (.long (v0_15_l5 q0)), .second, .val (.long (v0_22_l7 q0)), .second, .val (.ref b31), .val (.long (v0_43_l10 q0)), .second, .val (.ref b40), .val (.long (v0_60_l13 q1)), .second, .unset, .unset, .unset, .unset, .unset, .unset]) rfl ?_
    exact kk)
  obtain ⟨T50, h50, X50, e50, E50, A50, D50, -, st50⟩ := newO X47 hx hZ hown (hw _ (List.mem_of_getElem? (i := 0) rfl)) (hw _ (List.mem_of_getElem? (i := 1) rfl)) (hw _ (List.mem_of_getElem? (i := 2) rfl)) rfl (g := (mkF m 62 #[.val (.long q0), .second, .val (.long q1), .second, .val (.ref b19), .val (.long (v0_15_l5 q0)), .second, .val (.long (v0_22_l7 q0)), .second, .val (.ref b31), .val (.long (v0_43_l10 q0)), .second, .val (.ref b40), .val (.long (v0_60_l13 q1)), .second, .unset, .unset, .unset, .unset, .unset, .unset] [])) rfl (hb hby at_62) (by decide) (by decide)
  obtain ⟨b50, g50⟩ : ∃ z, z = T47.heap.size := ⟨_, rfl⟩
  rw [← g50] at A50 D50 st50
  have f51 := (((f41.ext E40).keep Kq44).keep Kq47)
  have ne_b19_b50 : b19 ≠ b50 := Nat.ne_of_lt (Nat.lt_of_lt_of_le f51.lt (Nat.le_of_eq g50.symm))
  have f52 := (((Eq37_0.ext E40).keep Kq44).keep Kq47)
  have ne_b31_b50 : b31 ≠ b50 := Nat.ne_of_lt (Nat.lt_of_lt_of_le f52.lt (Nat.le_of_eq g50.symm))
  have ne_b40_b50 : b40 ≠ b50 := Nat.ne_of_lt (Nat.lt_of_lt_of_le Eq47_0.lt (Nat.le_of_eq g50.symm))
  have g_b50 : n0 ≤ b50 := Nat.le_trans (Nat.le_trans Z0 K47.1) (Nat.le_of_eq g50.symm)
  have sz_b50 : h0.size ≤ b50 := Nat.le_trans K47.1 (Nat.le_of_eq g50.symm)
  have K50 : Keep h0 h50 [] := K47.ext E50
  have F_state_b50 : Fld Z h50 b50 "com/example/lattice_traffic/latticetraffic/SplitMix64" "state" "J" (.long (0 : Int64)) := D50 (Or.inl (hw _ (List.mem_of_getElem? (i := 10) rfl))) (ty := .long) (by decide)
  have k53 := fun (t : State) (kk : Steps p.tables e below (T50.setTop (mkF m 65 #[.val (.long q0), .second, .val (.long q1), .second, .val (.ref b19), .val (.long (v0_15_l5 q0)), .second, .val (.long (v0_22_l7 q0)), .second, .val (.ref b31), .val (.long (v0_43_l10 q0)), .second, .val (.ref b40), .val (.long (v0_60_l13 q1)), .second, .unset, .unset, .unset, .unset, .unset, .unset] [(.ref b50)])) t) => k49 t (st50 _ kk)
  have k54 := fun (t : State) (kk : Steps p.tables e below (T50.setTop (mkF m 67 #[.val (.long q0), .second, .val (.long q1), .second, .val (.ref b19), .val (.long (v0_15_l5 q0)), .second, .val (.long (v0_22_l7 q0)), .second, .val (.ref b31), .val (.long (v0_43_l10 q0)), .second, .val (.ref b40), .val (.long (v0_60_l13 q1)), .second, .unset, .unset, .unset, .unset, .unset, .unset] [(.long (0 : Int64)), (.ref b50), (.ref b50)])) t) => k53 t (by
    show Steps p.tables e below (T50.setTop (mkF m 65 #[.val (.long q0), .second, .val (.long q1), .second, .val (.ref b19), .val (.long (v0_15_l5 q0)), .second, .val (.long (v0_22_l7 q0)), .second, .val (.ref b31), .val (.long (v0_43_l10 q0)), .second, .val (.ref b40), .val (.long (v0_60_l13 q1)), .second, .unset, .unset, .unset, .unset, .unset, .unset] [(.ref b50)])) _
    refine XS.dup X50.here hx rfl (hb hby at_65) rfl rfl ?_
    show Steps p.tables e below (T50.setTop (mkF m 66 #[.val (.long q0), .second, .val (.long q1), .second, .val (.ref b19), .val (.long (v0_15_l5 q0)), .second, .val (.long (v0_22_l7 q0)), .second, .val (.ref b31), .val (.long (v0_43_l10 q0)), .second, .val (.ref b40), .val (.long (v0_60_l13 q1)), .second, .unset, .unset, .unset, .unset, .unset, .unset] [(.ref b50), (.ref b50)])) _
    refine XS.lconst X50.here hx rfl (hb hby at_66) ?_
    exact kk)
  have Zz55 : n0 ≤ h50.size := (Nat.le_trans Z0 K50.1)
  obtain ⟨_, _, ⟨T55, L55, k55, n55⟩, -, X55, ⟨Lc55, hQ55, l55, y55, z55⟩, st55⟩ := X50.specialBack hx (y := (⟨"com/example/lattice_traffic/latticetraffic/SplitMix64", "<init>", "(J)V"⟩ : MethodName)) rfl hown (mvT hZ (hw _ (List.mem_of_getElem? (i := 3) rfl))) (mvT hZ (hw _ (List.mem_of_getElem? (i := 4) rfl))) (mvT hZ (hw _ (List.mem_of_getElem? (i := 5) rfl))) (by decide) (backOf (W := 1) (rm1 l Z a0 hw [] b50 (0 : Int64) (0 : Int64) h50 n0 Zz55 A50 F_state_b50 g_b50) hZ (hw _ (List.mem_of_getElem? (i := 5) rfl)) (hw _ (List.mem_of_getElem? (i := 2) rfl)) (by decide) (by decide)) (g := (mkF m 67 #[.val (.long q0), .second, .val (.long q1), .second, .val (.ref b19), .val (.long (v0_15_l5 q0)), .second, .val (.long (v0_22_l7 q0)), .second, .val (.ref b31), .val (.long (v0_43_l10 q0)), .second, .val (.ref b40), .val (.long (v0_60_l13 q1)), .second, .unset, .unset, .unset, .unset, .unset, .unset] [(.long (0 : Int64)), (.ref b50), (.ref b50)])) rfl (by rw [hml]; rfl) (Steps.refl _) (a := b50) (argsL := [(.long (0 : Int64))]) (rest := [(.ref b50)]) (lenOf pd_0 rfl) rfl (by show 2 * 0 + _ ≤ _; exact Nat.le_of_eq rfl) (hb hby at_67) (fun _ _ => ⟨rfl, e50, (by decide : 4 + 0 ≤ _), (by decide : 4 + 0 ≤ _)⟩)
  dsimp only [Pt.U, Pt.locs, Pt.cells, Pt.slots] at X55 l55 y55 z55 st55 hQ55
  subst l55 y55 z55
  obtain ⟨rfl, N55q, Kq55, Eq55_0, Fq55_0⟩ := hQ55
  have K55 : Keep h0 T55.heap [] := K50.trans Kq55 (allS (Or.inr sz_b50) all0)
  have N55 := Fr.app N47 N55q
  have k56 := fun (t : State) (kk : Steps p.tables e below (T55.setTop (mkF m 70 #[.val (.long q0), .second, .val (.long q1), .second, .val (.ref b19), .val (.long (v0_15_l5 q0)), .second, .val (.long (v0_22_l7 q0)), .second, .val (.ref b31), .val (.long (v0_43_l10 q0)), .second, .val (.ref b40), .val (.long (v0_60_l13 q1)), .second, .unset, .unset, .unset, .unset, .unset, .unset] [(.ref b50)])) t) => k54 t (st55.trans kk)
  have k57 := fun (t : State) (kk : Steps p.tables e below (T55.setTop (mkF m 74 #[.val (.long q0), .second, .val (.long q1), .second, .val (.ref b19), .val (.long (v0_15_l5 q0)), .second, .val (.long (v0_22_l7 q0)), .second, .val (.ref b31), .val (.long (v0_43_l10 q0)), .second, .val (.ref b40), .val (.long (v0_60_l13 q1)), .second, .val (.ref b50), .unset, .unset, .unset, .unset, .unset] [(.ref b50)])) t) => k56 t (by
    show Steps p.tables e below (T55.setTop (mkF m 70 #[.val (.long q0), .second, .val (.long q1), .second, .val (.ref b19), .val (.long (v0_15_l5 q0)), .second, .val (.long (v0_22_l7 q0)), .second, .val (.ref b31), .val (.long (v0_43_l10 q0)), .second, .val (.ref b40), .val (.long (v0_60_l13 q1)), .second, .unset, .unset, .unset, .unset, .unset, .unset] [(.ref b50)])) _
    refine XS.astore X55.here hx rfl (hb hby at_70) rfl rfl (l' := #[.val (.long q0), .second, .val (.long q1), .second, .val (.ref b19), .val (.long (v0_15_l5 q0)), .second, .val (.long (v0_22_l7 q0)), .second, .val (.ref b31), .val (.long (v0_43_l10 q0)), .second, .val (.ref b40), .val (.long (v0_60_l13 q1)), .second, .val (.ref b50), .unset, .unset, .unset, .unset, .unset]) rfl ?_
    show Steps p.tables e below (T55.setTop (mkF m 72 #[.val (.long q0), .second, .val (.long q1), .second, .val (.ref b19), .val (.long (v0_15_l5 q0)), .second, .val (.long (v0_22_l7 q0)), .second, .val (.ref b31), .val (.long (v0_43_l10 q0)), .second, .val (.ref b40), .val (.long (v0_60_l13 q1)), .second, .val (.ref b50), .unset, .unset, .unset, .unset, .unset] [])) _
    refine XS.aload X55.here hx rfl (hb hby at_72) rfl rfl ?_
    exact kk)
  have Zz58 : n0 ≤ T55.heap.size := (Nat.le_trans Z0 K55.1)
  obtain ⟨cq58, kq58, q58a, q58b, q58c⟩ := isOf hZ rfl Eq55_0
  obtain ⟨_, _, ⟨T58, L58, k58, n58⟩, -, X58, ⟨Lc58, hQ58, l58, y58, z58⟩, st58⟩ := X55.virtualBack hx (y := (⟨"com/example/lattice_traffic/latticetraffic/SplitMix64", "nextLong", "()J"⟩ : MethodName)) (z := (⟨"com/example/lattice_traffic/latticetraffic/SplitMix64", "nextLong", "()J"⟩ : MethodName)) hown (mvT hZ (hw _ (List.mem_of_getElem? (i := 11) rfl))) (mvT hZ (hw _ (List.mem_of_getElem? (i := 12) rfl))) (notFace_of_selects (args := #[]) (mvT hZ (hw _ (List.mem_of_getElem? (i := 14) rfl)))) (mvT hZ (hw _ (List.mem_of_getElem? (i := 14) rfl))) (mvT hZ (hw _ (List.mem_of_getElem? (i := 13) rfl))) (by decide) (backOf (W := 0) (rm3 l Z a0 hw [] b50 (0 : Int64) T55.heap n0 Zz58 Fq55_0 Eq55_0 g_b50) hZ (hw _ (List.mem_of_getElem? (i := 15) rfl)) (hw _ (List.mem_of_getElem? (i := 2) rfl)) (by decide) (by decide)) q58a q58c (g := (mkF m 74 #[.val (.long q0), .second, .val (.long q1), .second, .val (.ref b19), .val (.long (v0_15_l5 q0)), .second, .val (.long (v0_22_l7 q0)), .second, .val (.ref b31), .val (.long (v0_43_l10 q0)), .second, .val (.ref b40), .val (.long (v0_60_l13 q1)), .second, .val (.ref b50), .unset, .unset, .unset, .unset, .unset] [(.ref b50)])) rfl (by rw [hml]; rfl) (Steps.refl _) (argsL := []) (rest := []) (lenOf pd_1 rfl) rfl (by show 2 * 0 + _ ≤ _; exact Nat.le_of_eq rfl) (hb hby at_74) (fun _ _ => ⟨rfl, rfl, (by decide : 4 + 0 ≤ _), (by decide : 4 + 0 ≤ _)⟩)
  dsimp only [Pt.U, Pt.locs, Pt.cells, Pt.slots] at X58 l58 y58 z58 st58 hQ58
  subst l58 y58 z58
  obtain ⟨rfl, N58q, Kq58, Eq58_0, Fq58_0⟩ := hQ58
  have K58 : Keep h0 T58.heap [] := K55.trans Kq58 (allS (Or.inr sz_b50) all0)
  have N58 := Fr.app N55 N58q
  have k59 := fun (t : State) (kk : Steps p.tables e below (T58.setTop (mkF m 77 #[.val (.long q0), .second, .val (.long q1), .second, .val (.ref b19), .val (.long (v0_15_l5 q0)), .second, .val (.long (v0_22_l7 q0)), .second, .val (.ref b31), .val (.long (v0_43_l10 q0)), .second, .val (.ref b40), .val (.long (v0_60_l13 q1)), .second, .val (.ref b50), .unset, .unset, .unset, .unset, .unset] [(.long ((v3_38_l1 (0 : Int64)) ^^^ (((v3_38_l1 (0 : Int64)).toUInt64 >>> ((31 : Int32) &&& 0x3f).toInt64.toUInt64).toInt64)))])) t) => k57 t (st58.trans kk)
  have k76 := fun (t : State) (kk : Steps p.tables e below (T58.setTop (mkF m 164 #[.val (.long q0), .second, .val (.long q1), .second, .val (.ref b19), .val (.long (v0_15_l5 q0)), .second, .val (.long (v0_22_l7 q0)), .second, .val (.ref b31), .val (.long (v0_43_l10 q0)), .second, .val (.ref b40), .val (.long (v0_60_l13 q1)), .second, .val (.ref b50), .val (.long v0_77_l16), .second, .val (.int (v0_84_s0 q0)), .val (.int (v0_118_s0 q0 q1)), .val (.int v0_134_s0)] [(.int (v0_146_s0 q0 q1))])) t) => k59 t (by
    show Steps p.tables e below (T58.setTop (mkF m 77 #[.val (.long q0), .second, .val (.long q1), .second, .val (.ref b19), .val (.long (v0_15_l5 q0)), .second, .val (.long (v0_22_l7 q0)), .second, .val (.ref b31), .val (.long (v0_43_l10 q0)), .second, .val (.ref b40), .val (.long (v0_60_l13 q1)), .second, .val (.ref b50), .unset, .unset, .unset, .unset, .unset] [(.long ((v3_38_l1 (0 : Int64)) ^^^ (((v3_38_l1 (0 : Int64)).toUInt64 >>> ((31 : Int32) &&& 0x3f).toInt64.toUInt64).toInt64)))])) _
    refine XS.lstore X58.here hx rfl (hb hby at_77) rfl (l' := #[.val (.long q0), .second, .val (.long q1), .second, .val (.ref b19), .val (.long (v0_15_l5 q0)), .second, .val (.long (v0_22_l7 q0)), .second, .val (.ref b31), .val (.long (v0_43_l10 q0)), .second, .val (.ref b40), .val (.long (v0_60_l13 q1)), .second, .val (.ref b50), .val (.long v0_77_l16), .second, .unset, .unset, .unset]) rfl ?_
    show Steps p.tables e below (T58.setTop (mkF m 79 #[.val (.long q0), .second, .val (.long q1), .second, .val (.ref b19), .val (.long (v0_15_l5 q0)), .second, .val (.long (v0_22_l7 q0)), .second, .val (.ref b31), .val (.long (v0_43_l10 q0)), .second, .val (.ref b40), .val (.long (v0_60_l13 q1)), .second, .val (.ref b50), .val (.long v0_77_l16), .second, .unset, .unset, .unset] [])) _
    refine XS.lload X58.here hx rfl (hb hby at_79) rfl ?_
    show Steps p.tables e below (T58.setTop (mkF m 81 #[.val (.long q0), .second, .val (.long q1), .second, .val (.ref b19), .val (.long (v0_15_l5 q0)), .second, .val (.long (v0_22_l7 q0)), .second, .val (.ref b31), .val (.long (v0_43_l10 q0)), .second, .val (.ref b40), .val (.long (v0_60_l13 q1)), .second, .val (.ref b50), .val (.long v0_77_l16), .second, .unset, .unset, .unset] [(.long (v0_22_l7 q0))])) _
    refine XS.lload X58.here hx rfl (hb hby at_81) rfl ?_
    show Steps p.tables e below (T58.setTop (mkF m 83 #[.val (.long q0), .second, .val (.long q1), .second, .val (.ref b19), .val (.long (v0_15_l5 q0)), .second, .val (.long (v0_22_l7 q0)), .second, .val (.ref b31), .val (.long (v0_43_l10 q0)), .second, .val (.ref b40), .val (.long (v0_60_l13 q1)), .second, .val (.ref b50), .val (.long v0_77_l16), .second, .unset, .unset, .unset] [(.long (v0_43_l10 q0)), (.long (v0_22_l7 q0))])) _
    refine XS.lcmp X58.here hx rfl (hb hby at_83) rfl ?_
    suffices k61 : Steps p.tables e below (T58.setTop (mkF m 92 #[.val (.long q0), .second, .val (.long q1), .second, .val (.ref b19), .val (.long (v0_15_l5 q0)), .second, .val (.long (v0_22_l7 q0)), .second, .val (.ref b31), .val (.long (v0_43_l10 q0)), .second, .val (.ref b40), .val (.long (v0_60_l13 q1)), .second, .val (.ref b50), .val (.long v0_77_l16), .second, .unset, .unset, .unset] [(.int (v0_84_s0 q0))])) t by
      by_cases hc84_60 : (v0_22_l7 q0) = (v0_43_l10 q0)
      · rw [(show (v0_84_s0 q0) = (1 : Int32) from if_pos hc84_60)] at k61
        show Steps p.tables e below (T58.setTop (mkF m 84 #[.val (.long q0), .second, .val (.long q1), .second, .val (.ref b19), .val (.long (v0_15_l5 q0)), .second, .val (.long (v0_22_l7 q0)), .second, .val (.ref b31), .val (.long (v0_43_l10 q0)), .second, .val (.ref b40), .val (.long (v0_60_l13 q1)), .second, .val (.ref b50), .val (.long v0_77_l16), .second, .unset, .unset, .unset] [(.int (lcmpW (v0_22_l7 q0) (v0_43_l10 q0)))])) _
        refine XS.ifNo X58.here hx rfl (hb hby at_84) rfl ((if0 _ _).trans (teq ((lw_eq _ _).mpr hc84_60)).2) ?_
        show Steps p.tables e below (T58.setTop (mkF m 87 #[.val (.long q0), .second, .val (.long q1), .second, .val (.ref b19), .val (.long (v0_15_l5 q0)), .second, .val (.long (v0_22_l7 q0)), .second, .val (.ref b31), .val (.long (v0_43_l10 q0)), .second, .val (.ref b40), .val (.long (v0_60_l13 q1)), .second, .val (.ref b50), .val (.long v0_77_l16), .second, .unset, .unset, .unset] [])) _
        refine XS.iconst X58.here hx rfl (hb hby at_87) ?_
        show Steps p.tables e below (T58.setTop (mkF m 88 #[.val (.long q0), .second, .val (.long q1), .second, .val (.ref b19), .val (.long (v0_15_l5 q0)), .second, .val (.long (v0_22_l7 q0)), .second, .val (.ref b31), .val (.long (v0_43_l10 q0)), .second, .val (.ref b40), .val (.long (v0_60_l13 q1)), .second, .val (.ref b50), .val (.long v0_77_l16), .second, .unset, .unset, .unset] [(.int (1 : Int32))])) _
        refine XS.goto X58.here hx rfl (pc0 := 88) (pc' := 92) rfl (hb hby at_88) (by decide) (by decide) ?_
        exact k61
      · rw [(show (v0_84_s0 q0) = (0 : Int32) from if_neg hc84_60)] at k61
        show Steps p.tables e below (T58.setTop (mkF m 84 #[.val (.long q0), .second, .val (.long q1), .second, .val (.ref b19), .val (.long (v0_15_l5 q0)), .second, .val (.long (v0_22_l7 q0)), .second, .val (.ref b31), .val (.long (v0_43_l10 q0)), .second, .val (.ref b40), .val (.long (v0_60_l13 q1)), .second, .val (.ref b50), .val (.long v0_77_l16), .second, .unset, .unset, .unset] [(.int (lcmpW (v0_22_l7 q0) (v0_43_l10 q0)))])) _
        refine XS.ifYes X58.here hx rfl (pc0 := 84) (pc' := 91) rfl (hb hby at_84) rfl ((if0 _ _).trans (feq (fun q => hc84_60 ((lw_eq _ _).mp q))).2) (by decide) (by decide) ?_
        show Steps p.tables e below (T58.setTop (mkF m 91 #[.val (.long q0), .second, .val (.long q1), .second, .val (.ref b19), .val (.long (v0_15_l5 q0)), .second, .val (.long (v0_22_l7 q0)), .second, .val (.ref b31), .val (.long (v0_43_l10 q0)), .second, .val (.ref b40), .val (.long (v0_60_l13 q1)), .second, .val (.ref b50), .val (.long v0_77_l16), .second, .unset, .unset, .unset] [])) _
        refine XS.iconst X58.here hx rfl (hb hby at_91) ?_
        exact k61
    show Steps p.tables e below (T58.setTop (mkF m 92 #[.val (.long q0), .second, .val (.long q1), .second, .val (.ref b19), .val (.long (v0_15_l5 q0)), .second, .val (.long (v0_22_l7 q0)), .second, .val (.ref b31), .val (.long (v0_43_l10 q0)), .second, .val (.ref b40), .val (.long (v0_60_l13 q1)), .second, .val (.ref b50), .val (.long v0_77_l16), .second, .unset, .unset, .unset] [(.int (v0_84_s0 q0))])) _
    refine XS.istore X58.here hx rfl (hb hby at_92) rfl (l' := #[.val (.long q0), .second, .val (.long q1), .second, .val (.ref b19), .val (.long (v0_15_l5 q0)), .second, .val (.long (v0_22_l7 q0)), .second, .val (.ref b31), .val (.long (v0_43_l10 q0)), .second, .val (.ref b40), .val (.long (v0_60_l13 q1)), .second, .val (.ref b50), .val (.long v0_77_l16), .second, .val (.int (v0_84_s0 q0)), .unset, .unset]) rfl ?_
    show Steps p.tables e below (T58.setTop (mkF m 94 #[.val (.long q0), .second, .val (.long q1), .second, .val (.ref b19), .val (.long (v0_15_l5 q0)), .second, .val (.long (v0_22_l7 q0)), .second, .val (.ref b31), .val (.long (v0_43_l10 q0)), .second, .val (.ref b40), .val (.long (v0_60_l13 q1)), .second, .val (.ref b50), .val (.long v0_77_l16), .second, .val (.int (v0_84_s0 q0)), .unset, .unset] [])) _
    refine XS.lloadN X58.here hx rfl (hb hby at_94) rfl ?_
    show Steps p.tables e below (T58.setTop (mkF m 95 #[.val (.long q0), .second, .val (.long q1), .second, .val (.ref b19), .val (.long (v0_15_l5 q0)), .second, .val (.long (v0_22_l7 q0)), .second, .val (.ref b31), .val (.long (v0_43_l10 q0)), .second, .val (.ref b40), .val (.long (v0_60_l13 q1)), .second, .val (.ref b50), .val (.long v0_77_l16), .second, .val (.int (v0_84_s0 q0)), .unset, .unset] [(.long q0)])) _
    refine XS.lloadN X58.here hx rfl (hb hby at_95) rfl ?_
    show Steps p.tables e below (T58.setTop (mkF m 96 #[.val (.long q0), .second, .val (.long q1), .second, .val (.ref b19), .val (.long (v0_15_l5 q0)), .second, .val (.long (v0_22_l7 q0)), .second, .val (.ref b31), .val (.long (v0_43_l10 q0)), .second, .val (.ref b40), .val (.long (v0_60_l13 q1)), .second, .val (.ref b50), .val (.long v0_77_l16), .second, .val (.int (v0_84_s0 q0)), .unset, .unset] [(.long q1), (.long q0)])) _
    refine XS.lcmp X58.here hx rfl (hb hby at_96) rfl ?_
    suffices k63 : Steps p.tables e below (T58.setTop (mkF m 105 #[.val (.long q0), .second, .val (.long q1), .second, .val (.ref b19), .val (.long (v0_15_l5 q0)), .second, .val (.long (v0_22_l7 q0)), .second, .val (.ref b31), .val (.long (v0_43_l10 q0)), .second, .val (.ref b40), .val (.long (v0_60_l13 q1)), .second, .val (.ref b50), .val (.long v0_77_l16), .second, .val (.int (v0_84_s0 q0)), .unset, .unset] [(.int (v0_97_s0 q0 q1))])) t by
      by_cases hc97_62 : q0 = q1
      · rw [(show (v0_97_s0 q0 q1) = (1 : Int32) from if_pos hc97_62)] at k63
        show Steps p.tables e below (T58.setTop (mkF m 97 #[.val (.long q0), .second, .val (.long q1), .second, .val (.ref b19), .val (.long (v0_15_l5 q0)), .second, .val (.long (v0_22_l7 q0)), .second, .val (.ref b31), .val (.long (v0_43_l10 q0)), .second, .val (.ref b40), .val (.long (v0_60_l13 q1)), .second, .val (.ref b50), .val (.long v0_77_l16), .second, .val (.int (v0_84_s0 q0)), .unset, .unset] [(.int (lcmpW q0 q1))])) _
        refine XS.ifNo X58.here hx rfl (hb hby at_97) rfl ((if0 _ _).trans (teq ((lw_eq _ _).mpr hc97_62)).2) ?_
        show Steps p.tables e below (T58.setTop (mkF m 100 #[.val (.long q0), .second, .val (.long q1), .second, .val (.ref b19), .val (.long (v0_15_l5 q0)), .second, .val (.long (v0_22_l7 q0)), .second, .val (.ref b31), .val (.long (v0_43_l10 q0)), .second, .val (.ref b40), .val (.long (v0_60_l13 q1)), .second, .val (.ref b50), .val (.long v0_77_l16), .second, .val (.int (v0_84_s0 q0)), .unset, .unset] [])) _
        refine XS.iconst X58.here hx rfl (hb hby at_100) ?_
        show Steps p.tables e below (T58.setTop (mkF m 101 #[.val (.long q0), .second, .val (.long q1), .second, .val (.ref b19), .val (.long (v0_15_l5 q0)), .second, .val (.long (v0_22_l7 q0)), .second, .val (.ref b31), .val (.long (v0_43_l10 q0)), .second, .val (.ref b40), .val (.long (v0_60_l13 q1)), .second, .val (.ref b50), .val (.long v0_77_l16), .second, .val (.int (v0_84_s0 q0)), .unset, .unset] [(.int (1 : Int32))])) _
        refine XS.goto X58.here hx rfl (pc0 := 101) (pc' := 105) rfl (hb hby at_101) (by decide) (by decide) ?_
        exact k63
      · rw [(show (v0_97_s0 q0 q1) = (0 : Int32) from if_neg hc97_62)] at k63
        show Steps p.tables e below (T58.setTop (mkF m 97 #[.val (.long q0), .second, .val (.long q1), .second, .val (.ref b19), .val (.long (v0_15_l5 q0)), .second, .val (.long (v0_22_l7 q0)), .second, .val (.ref b31), .val (.long (v0_43_l10 q0)), .second, .val (.ref b40), .val (.long (v0_60_l13 q1)), .second, .val (.ref b50), .val (.long v0_77_l16), .second, .val (.int (v0_84_s0 q0)), .unset, .unset] [(.int (lcmpW q0 q1))])) _
        refine XS.ifYes X58.here hx rfl (pc0 := 97) (pc' := 104) rfl (hb hby at_97) rfl ((if0 _ _).trans (feq (fun q => hc97_62 ((lw_eq _ _).mp q))).2) (by decide) (by decide) ?_
        show Steps p.tables e below (T58.setTop (mkF m 104 #[.val (.long q0), .second, .val (.long q1), .second, .val (.ref b19), .val (.long (v0_15_l5 q0)), .second, .val (.long (v0_22_l7 q0)), .second, .val (.ref b31), .val (.long (v0_43_l10 q0)), .second, .val (.ref b40), .val (.long (v0_60_l13 q1)), .second, .val (.ref b50), .val (.long v0_77_l16), .second, .val (.int (v0_84_s0 q0)), .unset, .unset] [])) _
        refine XS.iconst X58.here hx rfl (hb hby at_104) ?_
        exact k63
    show Steps p.tables e below (T58.setTop (mkF m 105 #[.val (.long q0), .second, .val (.long q1), .second, .val (.ref b19), .val (.long (v0_15_l5 q0)), .second, .val (.long (v0_22_l7 q0)), .second, .val (.ref b31), .val (.long (v0_43_l10 q0)), .second, .val (.ref b40), .val (.long (v0_60_l13 q1)), .second, .val (.ref b50), .val (.long v0_77_l16), .second, .val (.int (v0_84_s0 q0)), .unset, .unset] [(.int (v0_97_s0 q0 q1))])) _
    refine XS.lload X58.here hx rfl (hb hby at_105) rfl ?_
    show Steps p.tables e below (T58.setTop (mkF m 107 #[.val (.long q0), .second, .val (.long q1), .second, .val (.ref b19), .val (.long (v0_15_l5 q0)), .second, .val (.long (v0_22_l7 q0)), .second, .val (.ref b31), .val (.long (v0_43_l10 q0)), .second, .val (.ref b40), .val (.long (v0_60_l13 q1)), .second, .val (.ref b50), .val (.long v0_77_l16), .second, .val (.int (v0_84_s0 q0)), .unset, .unset] [(.long (v0_15_l5 q0)), (.int (v0_97_s0 q0 q1))])) _
    refine XS.lload X58.here hx rfl (hb hby at_107) rfl ?_
    show Steps p.tables e below (T58.setTop (mkF m 109 #[.val (.long q0), .second, .val (.long q1), .second, .val (.ref b19), .val (.long (v0_15_l5 q0)), .second, .val (.long (v0_22_l7 q0)), .second, .val (.ref b31), .val (.long (v0_43_l10 q0)), .second, .val (.ref b40), .val (.long (v0_60_l13 q1)), .second, .val (.ref b50), .val (.long v0_77_l16), .second, .val (.int (v0_84_s0 q0)), .unset, .unset] [(.long (v0_60_l13 q1)), (.long (v0_15_l5 q0)), (.int (v0_97_s0 q0 q1))])) _
    refine XS.lcmp X58.here hx rfl (hb hby at_109) rfl ?_
    suffices k65 : Steps p.tables e below (T58.setTop (mkF m 118 #[.val (.long q0), .second, .val (.long q1), .second, .val (.ref b19), .val (.long (v0_15_l5 q0)), .second, .val (.long (v0_22_l7 q0)), .second, .val (.ref b31), .val (.long (v0_43_l10 q0)), .second, .val (.ref b40), .val (.long (v0_60_l13 q1)), .second, .val (.ref b50), .val (.long v0_77_l16), .second, .val (.int (v0_84_s0 q0)), .unset, .unset] [(.int (v0_110_s0 q0 q1)), (.int (v0_97_s0 q0 q1))])) t by
      by_cases hc110_64 : (v0_15_l5 q0) = (v0_60_l13 q1)
      · rw [(show (v0_110_s0 q0 q1) = (1 : Int32) from if_pos hc110_64)] at k65
        show Steps p.tables e below (T58.setTop (mkF m 110 #[.val (.long q0), .second, .val (.long q1), .second, .val (.ref b19), .val (.long (v0_15_l5 q0)), .second, .val (.long (v0_22_l7 q0)), .second, .val (.ref b31), .val (.long (v0_43_l10 q0)), .second, .val (.ref b40), .val (.long (v0_60_l13 q1)), .second, .val (.ref b50), .val (.long v0_77_l16), .second, .val (.int (v0_84_s0 q0)), .unset, .unset] [(.int (lcmpW (v0_15_l5 q0) (v0_60_l13 q1))), (.int (v0_97_s0 q0 q1))])) _
        refine XS.ifNo X58.here hx rfl (hb hby at_110) rfl ((if0 _ _).trans (teq ((lw_eq _ _).mpr hc110_64)).2) ?_
        show Steps p.tables e below (T58.setTop (mkF m 113 #[.val (.long q0), .second, .val (.long q1), .second, .val (.ref b19), .val (.long (v0_15_l5 q0)), .second, .val (.long (v0_22_l7 q0)), .second, .val (.ref b31), .val (.long (v0_43_l10 q0)), .second, .val (.ref b40), .val (.long (v0_60_l13 q1)), .second, .val (.ref b50), .val (.long v0_77_l16), .second, .val (.int (v0_84_s0 q0)), .unset, .unset] [(.int (v0_97_s0 q0 q1))])) _
        refine XS.iconst X58.here hx rfl (hb hby at_113) ?_
        show Steps p.tables e below (T58.setTop (mkF m 114 #[.val (.long q0), .second, .val (.long q1), .second, .val (.ref b19), .val (.long (v0_15_l5 q0)), .second, .val (.long (v0_22_l7 q0)), .second, .val (.ref b31), .val (.long (v0_43_l10 q0)), .second, .val (.ref b40), .val (.long (v0_60_l13 q1)), .second, .val (.ref b50), .val (.long v0_77_l16), .second, .val (.int (v0_84_s0 q0)), .unset, .unset] [(.int (1 : Int32)), (.int (v0_97_s0 q0 q1))])) _
        refine XS.goto X58.here hx rfl (pc0 := 114) (pc' := 118) rfl (hb hby at_114) (by decide) (by decide) ?_
        exact k65
      · rw [(show (v0_110_s0 q0 q1) = (0 : Int32) from if_neg hc110_64)] at k65
        show Steps p.tables e below (T58.setTop (mkF m 110 #[.val (.long q0), .second, .val (.long q1), .second, .val (.ref b19), .val (.long (v0_15_l5 q0)), .second, .val (.long (v0_22_l7 q0)), .second, .val (.ref b31), .val (.long (v0_43_l10 q0)), .second, .val (.ref b40), .val (.long (v0_60_l13 q1)), .second, .val (.ref b50), .val (.long v0_77_l16), .second, .val (.int (v0_84_s0 q0)), .unset, .unset] [(.int (lcmpW (v0_15_l5 q0) (v0_60_l13 q1))), (.int (v0_97_s0 q0 q1))])) _
        refine XS.ifYes X58.here hx rfl (pc0 := 110) (pc' := 117) rfl (hb hby at_110) rfl ((if0 _ _).trans (feq (fun q => hc110_64 ((lw_eq _ _).mp q))).2) (by decide) (by decide) ?_
        show Steps p.tables e below (T58.setTop (mkF m 117 #[.val (.long q0), .second, .val (.long q1), .second, .val (.ref b19), .val (.long (v0_15_l5 q0)), .second, .val (.long (v0_22_l7 q0)), .second, .val (.ref b31), .val (.long (v0_43_l10 q0)), .second, .val (.ref b40), .val (.long (v0_60_l13 q1)), .second, .val (.ref b50), .val (.long v0_77_l16), .second, .val (.int (v0_84_s0 q0)), .unset, .unset] [(.int (v0_97_s0 q0 q1))])) _
        refine XS.iconst X58.here hx rfl (hb hby at_117) ?_
        exact k65
    suffices k67 : Steps p.tables e below (T58.setTop (mkF m 126 #[.val (.long q0), .second, .val (.long q1), .second, .val (.ref b19), .val (.long (v0_15_l5 q0)), .second, .val (.long (v0_22_l7 q0)), .second, .val (.ref b31), .val (.long (v0_43_l10 q0)), .second, .val (.ref b40), .val (.long (v0_60_l13 q1)), .second, .val (.ref b50), .val (.long v0_77_l16), .second, .val (.int (v0_84_s0 q0)), .unset, .unset] [(.int (v0_118_s0 q0 q1))])) t by
      by_cases hc118_66 : (v0_97_s0 q0 q1) = (v0_110_s0 q0 q1)
      · rw [(show (v0_118_s0 q0 q1) = (1 : Int32) from if_pos hc118_66)] at k67
        show Steps p.tables e below (T58.setTop (mkF m 118 #[.val (.long q0), .second, .val (.long q1), .second, .val (.ref b19), .val (.long (v0_15_l5 q0)), .second, .val (.long (v0_22_l7 q0)), .second, .val (.ref b31), .val (.long (v0_43_l10 q0)), .second, .val (.ref b40), .val (.long (v0_60_l13 q1)), .second, .val (.ref b50), .val (.long v0_77_l16), .second, .val (.int (v0_84_s0 q0)), .unset, .unset] [(.int (v0_110_s0 q0 q1)), (.int (v0_97_s0 q0 q1))])) _
        refine XS.icmpNo X58.here hx rfl (hb hby at_118) rfl (teq hc118_66).2 ?_
        show Steps p.tables e below (T58.setTop (mkF m 121 #[.val (.long q0), .second, .val (.long q1), .second, .val (.ref b19), .val (.long (v0_15_l5 q0)), .second, .val (.long (v0_22_l7 q0)), .second, .val (.ref b31), .val (.long (v0_43_l10 q0)), .second, .val (.ref b40), .val (.long (v0_60_l13 q1)), .second, .val (.ref b50), .val (.long v0_77_l16), .second, .val (.int (v0_84_s0 q0)), .unset, .unset] [])) _
        refine XS.iconst X58.here hx rfl (hb hby at_121) ?_
        show Steps p.tables e below (T58.setTop (mkF m 122 #[.val (.long q0), .second, .val (.long q1), .second, .val (.ref b19), .val (.long (v0_15_l5 q0)), .second, .val (.long (v0_22_l7 q0)), .second, .val (.ref b31), .val (.long (v0_43_l10 q0)), .second, .val (.ref b40), .val (.long (v0_60_l13 q1)), .second, .val (.ref b50), .val (.long v0_77_l16), .second, .val (.int (v0_84_s0 q0)), .unset, .unset] [(.int (1 : Int32))])) _
        refine XS.goto X58.here hx rfl (pc0 := 122) (pc' := 126) rfl (hb hby at_122) (by decide) (by decide) ?_
        exact k67
      · rw [(show (v0_118_s0 q0 q1) = (0 : Int32) from if_neg hc118_66)] at k67
        show Steps p.tables e below (T58.setTop (mkF m 118 #[.val (.long q0), .second, .val (.long q1), .second, .val (.ref b19), .val (.long (v0_15_l5 q0)), .second, .val (.long (v0_22_l7 q0)), .second, .val (.ref b31), .val (.long (v0_43_l10 q0)), .second, .val (.ref b40), .val (.long (v0_60_l13 q1)), .second, .val (.ref b50), .val (.long v0_77_l16), .second, .val (.int (v0_84_s0 q0)), .unset, .unset] [(.int (v0_110_s0 q0 q1)), (.int (v0_97_s0 q0 q1))])) _
        refine XS.icmpYes X58.here hx rfl (pc0 := 118) (pc' := 125) rfl (hb hby at_118) rfl (feq hc118_66).2 (by decide) (by decide) ?_
        show Steps p.tables e below (T58.setTop (mkF m 125 #[.val (.long q0), .second, .val (.long q1), .second, .val (.ref b19), .val (.long (v0_15_l5 q0)), .second, .val (.long (v0_22_l7 q0)), .second, .val (.ref b31), .val (.long (v0_43_l10 q0)), .second, .val (.ref b40), .val (.long (v0_60_l13 q1)), .second, .val (.ref b50), .val (.long v0_77_l16), .second, .val (.int (v0_84_s0 q0)), .unset, .unset] [])) _
        refine XS.iconst X58.here hx rfl (hb hby at_125) ?_
        exact k67
    show Steps p.tables e below (T58.setTop (mkF m 126 #[.val (.long q0), .second, .val (.long q1), .second, .val (.ref b19), .val (.long (v0_15_l5 q0)), .second, .val (.long (v0_22_l7 q0)), .second, .val (.ref b31), .val (.long (v0_43_l10 q0)), .second, .val (.ref b40), .val (.long (v0_60_l13 q1)), .second, .val (.ref b50), .val (.long v0_77_l16), .second, .val (.int (v0_84_s0 q0)), .unset, .unset] [(.int (v0_118_s0 q0 q1))])) _
    refine XS.istore X58.here hx rfl (hb hby at_126) rfl (l' := #[.val (.long q0), .second, .val (.long q1), .second, .val (.ref b19), .val (.long (v0_15_l5 q0)), .second, .val (.long (v0_22_l7 q0)), .second, .val (.ref b31), .val (.long (v0_43_l10 q0)), .second, .val (.ref b40), .val (.long (v0_60_l13 q1)), .second, .val (.ref b50), .val (.long v0_77_l16), .second, .val (.int (v0_84_s0 q0)), .val (.int (v0_118_s0 q0 q1)), .unset]) rfl ?_
    show Steps p.tables e below (T58.setTop (mkF m 128 #[.val (.long q0), .second, .val (.long q1), .second, .val (.ref b19), .val (.long (v0_15_l5 q0)), .second, .val (.long (v0_22_l7 q0)), .second, .val (.ref b31), .val (.long (v0_43_l10 q0)), .second, .val (.ref b40), .val (.long (v0_60_l13 q1)), .second, .val (.ref b50), .val (.long v0_77_l16), .second, .val (.int (v0_84_s0 q0)), .val (.int (v0_118_s0 q0 q1)), .unset] [])) _
    refine XS.lload X58.here hx rfl (hb hby at_128) rfl ?_
    show Steps p.tables e below (T58.setTop (mkF m 130 #[.val (.long q0), .second, .val (.long q1), .second, .val (.ref b19), .val (.long (v0_15_l5 q0)), .second, .val (.long (v0_22_l7 q0)), .second, .val (.ref b31), .val (.long (v0_43_l10 q0)), .second, .val (.ref b40), .val (.long (v0_60_l13 q1)), .second, .val (.ref b50), .val (.long v0_77_l16), .second, .val (.int (v0_84_s0 q0)), .val (.int (v0_118_s0 q0 q1)), .unset] [(.long v0_77_l16)])) _
    refine X58.ldc2Long hx hown (mvT hZ (hw _ (List.mem_of_getElem? (i := 20) rfl))) (g := (mkF m 130 #[.val (.long q0), .second, .val (.long q1), .second, .val (.ref b19), .val (.long (v0_15_l5 q0)), .second, .val (.long (v0_22_l7 q0)), .second, .val (.ref b31), .val (.long (v0_43_l10 q0)), .second, .val (.ref b40), .val (.long (v0_60_l13 q1)), .second, .val (.ref b50), .val (.long v0_77_l16), .second, .val (.int (v0_84_s0 q0)), .val (.int (v0_118_s0 q0 q1)), .unset] [(.long v0_77_l16)])) rfl (hb hby at_130) _ ?_
    show Steps p.tables e below (T58.setTop (mkF m 133 #[.val (.long q0), .second, .val (.long q1), .second, .val (.ref b19), .val (.long (v0_15_l5 q0)), .second, .val (.long (v0_22_l7 q0)), .second, .val (.ref b31), .val (.long (v0_43_l10 q0)), .second, .val (.ref b40), .val (.long (v0_60_l13 q1)), .second, .val (.ref b50), .val (.long v0_77_l16), .second, .val (.int (v0_84_s0 q0)), .val (.int (v0_118_s0 q0 q1)), .unset] [(.long (-2152535657050944081 : Int64)), (.long v0_77_l16)])) _
    refine XS.lcmp X58.here hx rfl (hb hby at_133) rfl ?_
    suffices k69 : Steps p.tables e below (T58.setTop (mkF m 142 #[.val (.long q0), .second, .val (.long q1), .second, .val (.ref b19), .val (.long (v0_15_l5 q0)), .second, .val (.long (v0_22_l7 q0)), .second, .val (.ref b31), .val (.long (v0_43_l10 q0)), .second, .val (.ref b40), .val (.long (v0_60_l13 q1)), .second, .val (.ref b50), .val (.long v0_77_l16), .second, .val (.int (v0_84_s0 q0)), .val (.int (v0_118_s0 q0 q1)), .unset] [(.int v0_134_s0)])) t by
      by_cases hc134_68 : v0_77_l16 = (-2152535657050944081 : Int64)
      · rw [(show v0_134_s0 = (1 : Int32) from if_pos hc134_68)] at k69
        show Steps p.tables e below (T58.setTop (mkF m 134 #[.val (.long q0), .second, .val (.long q1), .second, .val (.ref b19), .val (.long (v0_15_l5 q0)), .second, .val (.long (v0_22_l7 q0)), .second, .val (.ref b31), .val (.long (v0_43_l10 q0)), .second, .val (.ref b40), .val (.long (v0_60_l13 q1)), .second, .val (.ref b50), .val (.long v0_77_l16), .second, .val (.int (v0_84_s0 q0)), .val (.int (v0_118_s0 q0 q1)), .unset] [(.int (lcmpW v0_77_l16 (-2152535657050944081 : Int64)))])) _
        refine XS.ifNo X58.here hx rfl (hb hby at_134) rfl ((if0 _ _).trans (teq ((lw_eq _ _).mpr hc134_68)).2) ?_
        show Steps p.tables e below (T58.setTop (mkF m 137 #[.val (.long q0), .second, .val (.long q1), .second, .val (.ref b19), .val (.long (v0_15_l5 q0)), .second, .val (.long (v0_22_l7 q0)), .second, .val (.ref b31), .val (.long (v0_43_l10 q0)), .second, .val (.ref b40), .val (.long (v0_60_l13 q1)), .second, .val (.ref b50), .val (.long v0_77_l16), .second, .val (.int (v0_84_s0 q0)), .val (.int (v0_118_s0 q0 q1)), .unset] [])) _
        refine XS.iconst X58.here hx rfl (hb hby at_137) ?_
        show Steps p.tables e below (T58.setTop (mkF m 138 #[.val (.long q0), .second, .val (.long q1), .second, .val (.ref b19), .val (.long (v0_15_l5 q0)), .second, .val (.long (v0_22_l7 q0)), .second, .val (.ref b31), .val (.long (v0_43_l10 q0)), .second, .val (.ref b40), .val (.long (v0_60_l13 q1)), .second, .val (.ref b50), .val (.long v0_77_l16), .second, .val (.int (v0_84_s0 q0)), .val (.int (v0_118_s0 q0 q1)), .unset] [(.int (1 : Int32))])) _
        refine XS.goto X58.here hx rfl (pc0 := 138) (pc' := 142) rfl (hb hby at_138) (by decide) (by decide) ?_
        exact k69
      · rw [(show v0_134_s0 = (0 : Int32) from if_neg hc134_68)] at k69
        show Steps p.tables e below (T58.setTop (mkF m 134 #[.val (.long q0), .second, .val (.long q1), .second, .val (.ref b19), .val (.long (v0_15_l5 q0)), .second, .val (.long (v0_22_l7 q0)), .second, .val (.ref b31), .val (.long (v0_43_l10 q0)), .second, .val (.ref b40), .val (.long (v0_60_l13 q1)), .second, .val (.ref b50), .val (.long v0_77_l16), .second, .val (.int (v0_84_s0 q0)), .val (.int (v0_118_s0 q0 q1)), .unset] [(.int (lcmpW v0_77_l16 (-2152535657050944081 : Int64)))])) _
        refine XS.ifYes X58.here hx rfl (pc0 := 134) (pc' := 141) rfl (hb hby at_134) rfl ((if0 _ _).trans (feq (fun q => hc134_68 ((lw_eq _ _).mp q))).2) (by decide) (by decide) ?_
        show Steps p.tables e below (T58.setTop (mkF m 141 #[.val (.long q0), .second, .val (.long q1), .second, .val (.ref b19), .val (.long (v0_15_l5 q0)), .second, .val (.long (v0_22_l7 q0)), .second, .val (.ref b31), .val (.long (v0_43_l10 q0)), .second, .val (.ref b40), .val (.long (v0_60_l13 q1)), .second, .val (.ref b50), .val (.long v0_77_l16), .second, .val (.int (v0_84_s0 q0)), .val (.int (v0_118_s0 q0 q1)), .unset] [])) _
        refine XS.iconst X58.here hx rfl (hb hby at_141) ?_
        exact k69
    show Steps p.tables e below (T58.setTop (mkF m 142 #[.val (.long q0), .second, .val (.long q1), .second, .val (.ref b19), .val (.long (v0_15_l5 q0)), .second, .val (.long (v0_22_l7 q0)), .second, .val (.ref b31), .val (.long (v0_43_l10 q0)), .second, .val (.ref b40), .val (.long (v0_60_l13 q1)), .second, .val (.ref b50), .val (.long v0_77_l16), .second, .val (.int (v0_84_s0 q0)), .val (.int (v0_118_s0 q0 q1)), .unset] [(.int v0_134_s0)])) _
    refine XS.istore X58.here hx rfl (hb hby at_142) rfl (l' := #[.val (.long q0), .second, .val (.long q1), .second, .val (.ref b19), .val (.long (v0_15_l5 q0)), .second, .val (.long (v0_22_l7 q0)), .second, .val (.ref b31), .val (.long (v0_43_l10 q0)), .second, .val (.ref b40), .val (.long (v0_60_l13 q1)), .second, .val (.ref b50), .val (.long v0_77_l16), .second, .val (.int (v0_84_s0 q0)), .val (.int (v0_118_s0 q0 q1)), .val (.int v0_134_s0)]) rfl ?_
    show Steps p.tables e below (T58.setTop (mkF m 144 #[.val (.long q0), .second, .val (.long q1), .second, .val (.ref b19), .val (.long (v0_15_l5 q0)), .second, .val (.long (v0_22_l7 q0)), .second, .val (.ref b31), .val (.long (v0_43_l10 q0)), .second, .val (.ref b40), .val (.long (v0_60_l13 q1)), .second, .val (.ref b50), .val (.long v0_77_l16), .second, .val (.int (v0_84_s0 q0)), .val (.int (v0_118_s0 q0 q1)), .val (.int v0_134_s0)] [])) _
    refine XS.iload X58.here hx rfl (hb hby at_144) rfl ?_
    suffices k75 : Steps p.tables e below (T58.setTop (mkF m 164 #[.val (.long q0), .second, .val (.long q1), .second, .val (.ref b19), .val (.long (v0_15_l5 q0)), .second, .val (.long (v0_22_l7 q0)), .second, .val (.ref b31), .val (.long (v0_43_l10 q0)), .second, .val (.ref b40), .val (.long (v0_60_l13 q1)), .second, .val (.ref b50), .val (.long v0_77_l16), .second, .val (.int (v0_84_s0 q0)), .val (.int (v0_118_s0 q0 q1)), .val (.int v0_134_s0)] [(.int (v0_146_s0 q0 q1))])) t by
      by_cases hc146_70 : (v0_84_s0 q0) = (0 : Int32)
      · rw [(show (v0_146_s0 q0 q1) = (0 : Int32) from if_pos hc146_70)] at k75
        show Steps p.tables e below (T58.setTop (mkF m 146 #[.val (.long q0), .second, .val (.long q1), .second, .val (.ref b19), .val (.long (v0_15_l5 q0)), .second, .val (.long (v0_22_l7 q0)), .second, .val (.ref b31), .val (.long (v0_43_l10 q0)), .second, .val (.ref b40), .val (.long (v0_60_l13 q1)), .second, .val (.ref b50), .val (.long v0_77_l16), .second, .val (.int (v0_84_s0 q0)), .val (.int (v0_118_s0 q0 q1)), .val (.int v0_134_s0)] [(.int (v0_84_s0 q0))])) _
        refine XS.ifYes X58.here hx rfl (pc0 := 146) (pc' := 163) rfl (hb hby at_146) rfl ((if0 _ _).trans (teq hc146_70).1) (by decide) (by decide) ?_
        show Steps p.tables e below (T58.setTop (mkF m 163 #[.val (.long q0), .second, .val (.long q1), .second, .val (.ref b19), .val (.long (v0_15_l5 q0)), .second, .val (.long (v0_22_l7 q0)), .second, .val (.ref b31), .val (.long (v0_43_l10 q0)), .second, .val (.ref b40), .val (.long (v0_60_l13 q1)), .second, .val (.ref b50), .val (.long v0_77_l16), .second, .val (.int (v0_84_s0 q0)), .val (.int (v0_118_s0 q0 q1)), .val (.int v0_134_s0)] [])) _
        refine XS.iconst X58.here hx rfl (hb hby at_163) ?_
        exact k75
      · rw [(show (v0_146_s0 q0 q1) = (v0_151_s0 q0 q1) from if_neg hc146_70)] at k75
        show Steps p.tables e below (T58.setTop (mkF m 146 #[.val (.long q0), .second, .val (.long q1), .second, .val (.ref b19), .val (.long (v0_15_l5 q0)), .second, .val (.long (v0_22_l7 q0)), .second, .val (.ref b31), .val (.long (v0_43_l10 q0)), .second, .val (.ref b40), .val (.long (v0_60_l13 q1)), .second, .val (.ref b50), .val (.long v0_77_l16), .second, .val (.int (v0_84_s0 q0)), .val (.int (v0_118_s0 q0 q1)), .val (.int v0_134_s0)] [(.int (v0_84_s0 q0))])) _
        refine XS.ifNo X58.here hx rfl (hb hby at_146) rfl ((if0 _ _).trans (feq hc146_70).1) ?_
        show Steps p.tables e below (T58.setTop (mkF m 149 #[.val (.long q0), .second, .val (.long q1), .second, .val (.ref b19), .val (.long (v0_15_l5 q0)), .second, .val (.long (v0_22_l7 q0)), .second, .val (.ref b31), .val (.long (v0_43_l10 q0)), .second, .val (.ref b40), .val (.long (v0_60_l13 q1)), .second, .val (.ref b50), .val (.long v0_77_l16), .second, .val (.int (v0_84_s0 q0)), .val (.int (v0_118_s0 q0 q1)), .val (.int v0_134_s0)] [])) _
        refine XS.iload X58.here hx rfl (hb hby at_149) rfl ?_
        suffices k74 : Steps p.tables e below (T58.setTop (mkF m 164 #[.val (.long q0), .second, .val (.long q1), .second, .val (.ref b19), .val (.long (v0_15_l5 q0)), .second, .val (.long (v0_22_l7 q0)), .second, .val (.ref b31), .val (.long (v0_43_l10 q0)), .second, .val (.ref b40), .val (.long (v0_60_l13 q1)), .second, .val (.ref b50), .val (.long v0_77_l16), .second, .val (.int (v0_84_s0 q0)), .val (.int (v0_118_s0 q0 q1)), .val (.int v0_134_s0)] [(.int (v0_151_s0 q0 q1))])) t by
          by_cases hc151_71 : (v0_118_s0 q0 q1) = (0 : Int32)
          · rw [(show (v0_151_s0 q0 q1) = (0 : Int32) from if_pos hc151_71)] at k74
            show Steps p.tables e below (T58.setTop (mkF m 151 #[.val (.long q0), .second, .val (.long q1), .second, .val (.ref b19), .val (.long (v0_15_l5 q0)), .second, .val (.long (v0_22_l7 q0)), .second, .val (.ref b31), .val (.long (v0_43_l10 q0)), .second, .val (.ref b40), .val (.long (v0_60_l13 q1)), .second, .val (.ref b50), .val (.long v0_77_l16), .second, .val (.int (v0_84_s0 q0)), .val (.int (v0_118_s0 q0 q1)), .val (.int v0_134_s0)] [(.int (v0_118_s0 q0 q1))])) _
            refine XS.ifYes X58.here hx rfl (pc0 := 151) (pc' := 163) rfl (hb hby at_151) rfl ((if0 _ _).trans (teq hc151_71).1) (by decide) (by decide) ?_
            show Steps p.tables e below (T58.setTop (mkF m 163 #[.val (.long q0), .second, .val (.long q1), .second, .val (.ref b19), .val (.long (v0_15_l5 q0)), .second, .val (.long (v0_22_l7 q0)), .second, .val (.ref b31), .val (.long (v0_43_l10 q0)), .second, .val (.ref b40), .val (.long (v0_60_l13 q1)), .second, .val (.ref b50), .val (.long v0_77_l16), .second, .val (.int (v0_84_s0 q0)), .val (.int (v0_118_s0 q0 q1)), .val (.int v0_134_s0)] [])) _
            refine XS.iconst X58.here hx rfl (hb hby at_163) ?_
            exact k74
          · rw [(show (v0_151_s0 q0 q1) = v0_156_s0 from if_neg hc151_71)] at k74
            show Steps p.tables e below (T58.setTop (mkF m 151 #[.val (.long q0), .second, .val (.long q1), .second, .val (.ref b19), .val (.long (v0_15_l5 q0)), .second, .val (.long (v0_22_l7 q0)), .second, .val (.ref b31), .val (.long (v0_43_l10 q0)), .second, .val (.ref b40), .val (.long (v0_60_l13 q1)), .second, .val (.ref b50), .val (.long v0_77_l16), .second, .val (.int (v0_84_s0 q0)), .val (.int (v0_118_s0 q0 q1)), .val (.int v0_134_s0)] [(.int (v0_118_s0 q0 q1))])) _
            refine XS.ifNo X58.here hx rfl (hb hby at_151) rfl ((if0 _ _).trans (feq hc151_71).1) ?_
            show Steps p.tables e below (T58.setTop (mkF m 154 #[.val (.long q0), .second, .val (.long q1), .second, .val (.ref b19), .val (.long (v0_15_l5 q0)), .second, .val (.long (v0_22_l7 q0)), .second, .val (.ref b31), .val (.long (v0_43_l10 q0)), .second, .val (.ref b40), .val (.long (v0_60_l13 q1)), .second, .val (.ref b50), .val (.long v0_77_l16), .second, .val (.int (v0_84_s0 q0)), .val (.int (v0_118_s0 q0 q1)), .val (.int v0_134_s0)] [])) _
            refine XS.iload X58.here hx rfl (hb hby at_154) rfl ?_
            suffices k73 : Steps p.tables e below (T58.setTop (mkF m 164 #[.val (.long q0), .second, .val (.long q1), .second, .val (.ref b19), .val (.long (v0_15_l5 q0)), .second, .val (.long (v0_22_l7 q0)), .second, .val (.ref b31), .val (.long (v0_43_l10 q0)), .second, .val (.ref b40), .val (.long (v0_60_l13 q1)), .second, .val (.ref b50), .val (.long v0_77_l16), .second, .val (.int (v0_84_s0 q0)), .val (.int (v0_118_s0 q0 q1)), .val (.int v0_134_s0)] [(.int v0_156_s0)])) t by
              by_cases hc156_72 : v0_134_s0 = (0 : Int32)
              · rw [(show v0_156_s0 = (0 : Int32) from if_pos hc156_72)] at k73
                show Steps p.tables e below (T58.setTop (mkF m 156 #[.val (.long q0), .second, .val (.long q1), .second, .val (.ref b19), .val (.long (v0_15_l5 q0)), .second, .val (.long (v0_22_l7 q0)), .second, .val (.ref b31), .val (.long (v0_43_l10 q0)), .second, .val (.ref b40), .val (.long (v0_60_l13 q1)), .second, .val (.ref b50), .val (.long v0_77_l16), .second, .val (.int (v0_84_s0 q0)), .val (.int (v0_118_s0 q0 q1)), .val (.int v0_134_s0)] [(.int v0_134_s0)])) _
                refine XS.ifYes X58.here hx rfl (pc0 := 156) (pc' := 163) rfl (hb hby at_156) rfl ((if0 _ _).trans (teq hc156_72).1) (by decide) (by decide) ?_
                show Steps p.tables e below (T58.setTop (mkF m 163 #[.val (.long q0), .second, .val (.long q1), .second, .val (.ref b19), .val (.long (v0_15_l5 q0)), .second, .val (.long (v0_22_l7 q0)), .second, .val (.ref b31), .val (.long (v0_43_l10 q0)), .second, .val (.ref b40), .val (.long (v0_60_l13 q1)), .second, .val (.ref b50), .val (.long v0_77_l16), .second, .val (.int (v0_84_s0 q0)), .val (.int (v0_118_s0 q0 q1)), .val (.int v0_134_s0)] [])) _
                refine XS.iconst X58.here hx rfl (hb hby at_163) ?_
                exact k73
              · rw [(show v0_156_s0 = (1 : Int32) from if_neg hc156_72)] at k73
                show Steps p.tables e below (T58.setTop (mkF m 156 #[.val (.long q0), .second, .val (.long q1), .second, .val (.ref b19), .val (.long (v0_15_l5 q0)), .second, .val (.long (v0_22_l7 q0)), .second, .val (.ref b31), .val (.long (v0_43_l10 q0)), .second, .val (.ref b40), .val (.long (v0_60_l13 q1)), .second, .val (.ref b50), .val (.long v0_77_l16), .second, .val (.int (v0_84_s0 q0)), .val (.int (v0_118_s0 q0 q1)), .val (.int v0_134_s0)] [(.int v0_134_s0)])) _
                refine XS.ifNo X58.here hx rfl (hb hby at_156) rfl ((if0 _ _).trans (feq hc156_72).1) ?_
                show Steps p.tables e below (T58.setTop (mkF m 159 #[.val (.long q0), .second, .val (.long q1), .second, .val (.ref b19), .val (.long (v0_15_l5 q0)), .second, .val (.long (v0_22_l7 q0)), .second, .val (.ref b31), .val (.long (v0_43_l10 q0)), .second, .val (.ref b40), .val (.long (v0_60_l13 q1)), .second, .val (.ref b50), .val (.long v0_77_l16), .second, .val (.int (v0_84_s0 q0)), .val (.int (v0_118_s0 q0 q1)), .val (.int v0_134_s0)] [])) _
                refine XS.iconst X58.here hx rfl (hb hby at_159) ?_
                show Steps p.tables e below (T58.setTop (mkF m 160 #[.val (.long q0), .second, .val (.long q1), .second, .val (.ref b19), .val (.long (v0_15_l5 q0)), .second, .val (.long (v0_22_l7 q0)), .second, .val (.ref b31), .val (.long (v0_43_l10 q0)), .second, .val (.ref b40), .val (.long (v0_60_l13 q1)), .second, .val (.ref b50), .val (.long v0_77_l16), .second, .val (.int (v0_84_s0 q0)), .val (.int (v0_118_s0 q0 q1)), .val (.int v0_134_s0)] [(.int (1 : Int32))])) _
                refine XS.goto X58.here hx rfl (pc0 := 160) (pc' := 164) rfl (hb hby at_160) (by decide) (by decide) ?_
                exact k73
            exact k74
        exact k75
    exact kk)
  obtain ⟨fs, hr, hrun, hended, hW, hsame⟩ := X58.leave (v := some (.int (nar .boolean (v0_146_s0 q0 q1)))) (fun h => by rw [Bd.returns] at h; cases h)
  have hv : (nar .boolean (v0_146_s0 q0 q1)) = (nar .boolean (v0_146_s0 q0 q1)) := rfl
  have hone : (nar .boolean (v0_146_s0 q0 q1)) = 1 := hv.symm.trans (own_law q0 q1)
  refine ⟨_, _, k76 _ ?_, hrun, hended, _, _, rfl, ?_, ⟨_, rfl⟩, hW, hsame.mono (by decide) (by decide)⟩
  · show Steps p.tables e below (T58.setTop (mkF m 164 #[.val (.long q0), .second, .val (.long q1), .second, .val (.ref b19), .val (.long (v0_15_l5 q0)), .second, .val (.long (v0_22_l7 q0)), .second, .val (.ref b31), .val (.long (v0_43_l10 q0)), .second, .val (.ref b40), .val (.long (v0_60_l13 q1)), .second, .val (.ref b50), .val (.long v0_77_l16), .second, .val (.int (v0_84_s0 q0)), .val (.int (v0_118_s0 q0 q1)), .val (.int v0_134_s0)] [(.int (v0_146_s0 q0 q1))])) _
    exact retN X58 hx (t := .boolean) Bd.returns (by simp) (hb hby at_164) hr
  · show Q0 Z q0 q1 h0 n0 _ T58.heap _
    exact ⟨congrArg (fun z => some (Value.int z)) hone, N58⟩
set_option maxRecDepth 65536 in
set_option maxHeartbeats 40000000 in
theorem comes_1 {Post : Tables → Env → Array Value → State → Outcome → State → Prop} (hpost : ∀ tb e args s v u, (limb_1_1.after args s (.returned v) u = true ∧ limb_1_2.after args s (.returned v) u = true ∧ True) → FrameEnd s (.returned v) u (Jvm.fieldLocs frame_1_writes args s ++ Jvm.arrayLocs frame_1_arrays args s ++ Jvm.staticLocs frame_1_statics s) 16 128 → Post tb e args s (.returned v) u) :
    ArmFor flags0 classFile x code maxLocals ret World_1 tables_1 room_1 Calls_1 rest_1 Pre_1 Post := by
  intro l hfl _ _ p e ha hc hk s m args below hf hA hF happ hP
  obtain ⟨hcalls, hrest, hpre⟩ := hP
  obtain ⟨-, -, -, hnamed, -, -, -, hat⟩ := (Spec.applies_iff hf).mp happ
  obtain ⟨hg, hn⟩ := and_e (Cond.before_iff.mp (show (Jvm.Cond.and given_1 narrow_1).before args s = true from hpre))
  obtain ⟨hcnt, hg0⟩ := and_e hg
  obtain ⟨ha0, hg1⟩ := and_e hg0
  have ha1 := hg1
  obtain ⟨w0, w1, rfl⟩ : ∃ w0 w1 : Value, args = #[w0, w1] := by
    have hs : args.size = 2 := by simpa [Cond.value, given_1] using hcnt
    obtain ⟨L⟩ := args
    match L, hs with
    | [w0, w1], _ => exact ⟨w0, w1, rfl⟩
  have hw := fun d (hd : d ∈ tables_1) => atoms_spec (ws := Jvm.Cond.code x code maxLocals ret :: tables_1) hat d (List.mem_cons_of_mem _ hd)
  have hfit : Fit s := fun {y c} hc i hi => by
    obtain ⟨ha, rfl⟩ := Array.getElem?_eq_some_iff.mp hc
    have q := List.all_eq_true.mp ((Array.all_eq_true_iff_forall_mem.mp hF) _ (Array.getElem_mem ha)) i (List.mem_range.mpr hi)
    simpa [Array.getElem?_eq_getElem hi] using q
  obtain ⟨q0, ea0⟩ := isL_v ha0
  obtain rfl : w0 = (.long q0) := Option.some.inj ea0
  obtain ⟨q1, ea1⟩ := isL_v ha1
  obtain rfl : w1 = (.long q1) := Option.some.inj ea1
  obtain ⟨n, o, h1, h2, h3, _, L, rfl, ⟨rfl, N⟩, hq⟩ := rm0 l s _ hw tables_1 q0 q1 s.heap s.heap.size (Nat.le_refl _)  p e ha hc hk s m _ below hf ((Spec.applies_iff_loose hf).mp happ).1 ⟨rfl, State.Warmed39.refl s, rfl⟩ trivial
  refine ⟨n, _, h1, h2, h3, hpost _ _ _ _ _ _ ⟨Cond.after_iff.mpr rfl, Cond.after_iff.mpr (eq_i res_at (Term.int_eval (1)) rfl), trivial⟩ ⟨hq.1, hq.2.1, (hq.2.2.sift fun y hy => Or.inr (N y hy)).mono (by decide) (by decide)⟩⟩
theorem main_1_1 : Claimed_1_1 := comes_1 fun _ _ _ _ _ _ h hF => ⟨h.1, hF⟩
theorem main_1_2 : Claimed_1_2 := comes_1 fun _ _ _ _ _ _ h hF => ⟨h.2.1, hF⟩
end Jvm.Pilot.@@N@@
namespace Jvm.Pilot.@@N@@
open Jvm Jvm.ClassFile Sem Op Lib Jvm.Free Jvm.Stand Jvm.Pilot.@@N@@.Jvm.D
/-! MADE BY PROGRAM (witnessworld.py) out of the Statement's table words and the real class files: 9 classes; the members and pool entries that the words name. The judged class is class 1, her method 1. -/
namespace start1
open Jvm.ClassFile
def u (s : String) : CpInfo := .utf8 (stringToUtf16 s)
/-- a pool by its gaps: so many unusable entries, then the entry; so many at the end -/
def gap : Nat → List CpInfo → List CpInfo
  | 0, r => r
  | n + 1, r => .unusable :: gap n r
def poolList (es : List (Nat × CpInfo)) (last : Nat) : List CpInfo := es.foldr (fun e r => gap e.1 (e.2 :: r)) (gap last [])
def pool (es : List (Nat × CpInfo)) (last : Nat) : Array CpInfo := ⟨poolList es last⟩
def fileOf (pool : Array CpInfo) (this : Nat) (attrs : Array Attribute := #[]) (ms : Array MethodInfo := #[]) (fl : Nat := 33) (sup : Nat := 0) (ifs : Array Nat := #[]) (fds : Array FieldInfo := #[]) : ClassFile where
  minorVersion := 0
  majorVersion := 65
  constantPool := pool
  accessFlags := fl
  thisClass := this
  superClass := sup
  interfaces := ifs
  fields := fds
  methods := ms
  attributes := attrs
def plain (name : String) (sup : Option ClassId) : Class where
  name := name
  kind := .ordinary
  loader := none
  accessFlags := 33
  super := sup
  interfaces := #[]
  cf := none
  fields := #[]
  methods := #[]
  instanceTypes := #[]
  staticTypes := #[]
  resolved := #[]
  callSites := []
  init := .initialized
  statics := none
  mirror := none

def pool0 : Array CpInfo := pool [(5, u "<init>"), (0, u "()V"), (1, .class_ 10), (1, u "java/lang/Object")] 113

def k0c0 : Code := { maxStack := 0, maxLocals := 1, code := object_method_1_code, exceptionTable := #[], attributes := #[] }
def k0m0 : Method := { name := "<init>", desc := "()V", sig := { parameters := [], returnType := none }, accessFlags := 1, code := some k0c0 }
/-- java/lang/Object -/
def k0 : Class := { plain "java/lang/Object" none with
  accessFlags := 33
  interfaces := #[]
  cf := some (fileOf pool0 8 #[] #[{ accessFlags := 1, nameIndex := 5, descriptorIndex := 6, attributes := #[] }] 33 0 #[] #[])
  fields := #[]
  methods := #[k0m0]
  instanceTypes := #[]
  staticTypes := #[]
  resolved := Array.replicate 124 none
  statics := none }

def pool1 : Array CpInfo := pool [(2, .class_ 4), (1, u "java/lang/Object"), (0, u "<init>"), (0, u "()V"), (0, .class_ 8), (0, u "com/example/lattice_traffic/latticetraffic/SplitMix64"), (0, .methodref 7 10), (0, .nameAndType 5 11), (0, u "(J)V"), (0, .methodref 7 13), (0, .nameAndType 14 15), (0, u "nextLong"), (0, u "()J"), (0, .long 11400714819323198485), (1, .long 16294208416658607535), (1, .class_ 21), (0, u "com/example/lattice_traffic/latticetraffic/SplitMix64NextLongPinLaw"), (2, u "law"), (0, u "(JJ)Z")] 3

def k1m0 : Method := { name := "<init>", desc := "()V", sig := { parameters := [], returnType := none }, accessFlags := 2, code := none }
def k1c1 : Code := { maxStack := 6, maxLocals := 21, code := code, exceptionTable := #[], attributes := #[] }
def k1m1 : Method := { name := "law", desc := "(JJ)Z", sig := { parameters := [.long, .long], returnType := some .boolean }, accessFlags := 9, code := some k1c1 }
/-- com/example/lattice_traffic/latticetraffic/SplitMix64NextLongPinLaw -/
def k1 : Class := { plain "com/example/lattice_traffic/latticetraffic/SplitMix64NextLongPinLaw" (some 0) with
  accessFlags := 49
  interfaces := #[]
  cf := some (fileOf pool1 20 #[] #[{ accessFlags := 2, nameIndex := 5, descriptorIndex := 6, attributes := #[] }, { accessFlags := 9, nameIndex := 24, descriptorIndex := 25, attributes := #[] }] 49 2 #[] #[])
  fields := #[]
  methods := #[k1m0, k1m1]
  instanceTypes := #[]
  staticTypes := #[]
  resolved := Array.replicate 29 none
  statics := none }

def pool2 : Array CpInfo := pool [(1, .methodref 2 3), (0, .class_ 4), (0, .nameAndType 5 6), (0, u "java/lang/Object"), (0, u "<init>"), (0, u "()V"), (0, .fieldref 8 9), (0, .class_ 10), (0, .nameAndType 11 12), (0, u "com/example/lattice_traffic/latticetraffic/SplitMix64"), (0, u "state"), (0, u "J"), (0, .long 11400714819323198485), (1, .long 13787848793156543929), (1, .long 10723151780598845931), (4, u "()J"), (12, u "nextLong"), (13, u "GOLDEN_GAMMA"), (1, u "DOUBLE_UNIT"), (0, u "D"), (0, u "LOW_32_BITS"), (0, u "(J)V")] 28

def k2c0 : Code := { maxStack := 3, maxLocals := 3, code := prog_7_method_1_code, exceptionTable := #[], attributes := #[] }
def k2m0 : Method := { name := "<init>", desc := "(J)V", sig := { parameters := [.long], returnType := none }, accessFlags := 1, code := some k2c0 }
def k2c1 : Code := { maxStack := 5, maxLocals := 3, code := prog_7_method_2_code, exceptionTable := #[], attributes := #[] }
def k2m1 : Method := { name := "nextLong", desc := "()J", sig := { parameters := [], returnType := some .long }, accessFlags := 1, code := some k2c1 }
/-- com/example/lattice_traffic/latticetraffic/SplitMix64 -/
def k2 : Class := { plain "com/example/lattice_traffic/latticetraffic/SplitMix64" (some 0) with
  accessFlags := 49
  interfaces := #[]
  cf := some (fileOf pool2 8 #[] #[{ accessFlags := 1, nameIndex := 5, descriptorIndex := 54, attributes := #[] }, { accessFlags := 1, nameIndex := 35, descriptorIndex := 22, attributes := #[] }] 49 2 #[] #[{ accessFlags := 26, nameIndex := 49, descriptorIndex := 12, attributes := #[] }, { accessFlags := 26, nameIndex := 51, descriptorIndex := 52, attributes := #[] }, { accessFlags := 26, nameIndex := 53, descriptorIndex := 12, attributes := #[] }, { accessFlags := 2, nameIndex := 11, descriptorIndex := 12, attributes := #[] }])
  fields := #[{ name := "GOLDEN_GAMMA", type := .long, accessFlags := 26, slot := 0, constantValue := 0 }, { name := "DOUBLE_UNIT", type := .double, accessFlags := 26, slot := 1, constantValue := 0 }, { name := "LOW_32_BITS", type := .long, accessFlags := 26, slot := 2, constantValue := 0 }, { name := "state", type := .long, accessFlags := 2, slot := 0, constantValue := 0 }]
  methods := #[k2m0, k2m1]
  instanceTypes := #[.long]
  staticTypes := #[.long, .double, .long]
  resolved := Array.replicate 83 none
  statics := none }

def pool3 : Array CpInfo := pool [(1, u "java/lang/Cloneable"), (0, .class_ 1), (0, u "java/lang/Object"), (0, .class_ 3)] 3

/-- java/lang/Cloneable -/
def k3 : Class := { plain "java/lang/Cloneable" (some 0) with
  accessFlags := 1537
  interfaces := #[]
  cf := some (fileOf pool3 2 #[] #[] 1537 4 #[] #[])
  fields := #[]
  methods := #[]
  instanceTypes := #[]
  staticTypes := #[]
  resolved := Array.replicate 8 none
  statics := none }

def pool4 : Array CpInfo := pool [(1, u "java/io/Serializable"), (0, .class_ 1), (0, u "java/lang/Object"), (0, .class_ 3)] 3

/-- java/io/Serializable -/
def k4 : Class := { plain "java/io/Serializable" (some 0) with
  accessFlags := 1537
  interfaces := #[]
  cf := some (fileOf pool4 2 #[] #[] 1537 4 #[] #[])
  fields := #[]
  methods := #[]
  instanceTypes := #[]
  staticTypes := #[]
  resolved := Array.replicate 8 none
  statics := none }

/-- the primitive byte -/
def k5 : Class := { plain "byte" none with kind := .primitive 'B', accessFlags := 0x411 }
/-- [B -/
def k6 : Class := { plain "[B" (some 0) with kind := .array 5 .byte, interfaces := #[3, 4], accessFlags := 1041 }

/-- the primitive int -/
def k7 : Class := { plain "int" none with kind := .primitive 'I', accessFlags := 0x411 }
/-- [I -/
def k8 : Class := { plain "[I" (some 0) with kind := .array 7 .int, interfaces := #[3, 4], accessFlags := 1041 }

def heap : Heap := #[]
def classes : Array Class := #[k0, k1, k2, k3, k4, k5, k6, k7, k8]
def interned : List (Array UInt16 × Addr) := []
def slotsUsed : Nat := 0
def theMethod : MethodId := ⟨1, 1⟩
def args0 : Array Value := #[.long 5, .long 3]
def aboutOver (below : List Frame) : State where
  vm := { classes := classes, interned := interned.toArray }
  heap := heap
  slotsUsed := slotsUsed
  threads := #[{ frames := .invoking theMethod args0 :: below }]
def below0 : List Frame := [.native { method := ⟨0, 0⟩, args := #[] }]
def about1 : State := aboutOver below0
def p0 : Program := .bare "" "" ""
def e0 : Env := launch0.env 0 0 0
theorem w_frames : about1.frames = Frame.invoking theMethod args0 :: below0 := rfl
set_option maxRecDepth 65536 in
theorem w_args : argsFit about1.vm theMethod args0 = true := by decide +kernel
set_option maxRecDepth 65536 in
theorem w_heap : heapFits about1 = true := by decide +kernel
set_option maxRecDepth 65536 in
theorem w_runnable : about1.curStatus? = some .runnable := by decide +kernel
set_option maxRecDepth 65536 in
theorem w_alone : about1.alone = true := by decide +kernel
set_option maxRecDepth 65536 in
theorem w_named : about1.methodNamed? x = some theMethod := by decide +kernel
set_option maxRecDepth 65536 in
theorem w_hears : about1.hears theMethod below0 = true := by decide +kernel
set_option maxRecDepth 65536 in
theorem w_ripe : about1.ripe theMethod args0 below0 = true := by decide +kernel
theorem w_running : about1.status = .running := rfl
set_option maxRecDepth 65536 in
theorem w_room : about1.hasRoom e0.platform room_1 = true :=
  launch0.hasRoom_least _ room_1 (by decide +kernel) (by decide +kernel) (by decide +kernel) (by decide +kernel) (by decide +kernel) (by decide +kernel)
theorem allAtoms_all (ts : List Jvm.Cond) (a : Array Jvm.Value) (st : Jvm.State) : (allAtoms ts).before a st = ts.all (fun c => c.before a st) := by
  induction ts with
  | nil => rfl
  | cons c t ih =>
    show (Jvm.Cond.and c (allAtoms t)).before a st = _
    rw [Jvm.Cond.before_and, ih, List.all_cons]
def words1 : List Jvm.Cond := Jvm.Cond.code x code maxLocals ret :: tables_1
/-- a 'code' word, met by the world's own term for the bytes: nothing is compared byte by byte -/
theorem code_word {y : MethodName} {bytes : ByteArray} {mx : Nat} {rt : Option FieldType} {a : Array Value} {s : State} {m : MethodId} {meth : Method} {c : Code} (h1 : s.methodNamed? y = some m) (h2 : s.vm.method? m = some meth) (h3 : meth.code = some c) (h4 : c.code = bytes)
    (h5 : (c.maxLocals == mx && c.exceptionTable.isEmpty && decide (c.maxStack ≤ mostOperands) && decide (meth.sig.returnType = rt) && !meth.locks && decide (parseMethodDescriptor y.desc = some meth.sig)) = true) : (Jvm.Cond.code y bytes mx rt).before a s = true := by
  simp only [Bool.and_eq_true, beq_iff_eq, Bool.not_eq_true', decide_eq_true_eq] at h5
  obtain ⟨⟨⟨⟨⟨g1, g2⟩, g3⟩, g4⟩, g5⟩, g6⟩ := h5
  simp [Cond.before, Cond.holds, Cond.value, h1, h2, h3, h4, g1, g2, g3, g4, g5, g6]
def isCode : Jvm.Cond → Bool
  | .code _ _ _ _ => true
  | _ => false
theorem all_split {L : List Jvm.Cond} {P : Jvm.Cond → Bool} (h1 : L.all (fun c => isCode c || P c) = true) (h2 : ∀ c ∈ L.filter isCode, P c = true) : L.all P = true := by
  refine List.all_eq_true.mpr fun c hc => ?_
  have h := List.all_eq_true.mp h1 c hc
  rcases Bool.eq_false_or_eq_true (isCode c) with hi | hi
  · exact h2 c (List.mem_filter.mpr ⟨hc, hi⟩)
  · simpa [hi] using h
set_option maxRecDepth 65536 in
theorem w_c0 : (Jvm.Cond.code x code maxLocals ret).before args0 about1 = true := code_word (m := ⟨1, 1⟩) (meth := k1m1) (c := k1c1) (by decide +kernel) rfl rfl rfl (by decide +kernel)
set_option maxRecDepth 65536 in
theorem w_c1 : (Jvm.Cond.code ({ cls := "com/example/lattice_traffic/latticetraffic/SplitMix64", name := "<init>", desc := "(J)V" } : Jvm.MethodName) prog_7_method_1_code (3 : Nat) (Option.none : Option Jvm.ClassFile.FieldType)).before args0 about1 = true := code_word (m := ⟨2, 0⟩) (meth := k2m0) (c := k2c0) (by decide +kernel) rfl rfl rfl (by decide +kernel)
set_option maxRecDepth 65536 in
theorem w_c2 : (Jvm.Cond.code ({ cls := "java/lang/Object", name := "<init>", desc := "()V" } : Jvm.MethodName) object_method_1_code (1 : Nat) (Option.none : Option Jvm.ClassFile.FieldType)).before args0 about1 = true := code_word (m := ⟨0, 0⟩) (meth := k0m0) (c := k0c0) (by decide +kernel) rfl rfl rfl (by decide +kernel)
set_option maxRecDepth 65536 in
theorem w_c3 : (Jvm.Cond.code ({ cls := "com/example/lattice_traffic/latticetraffic/SplitMix64", name := "nextLong", desc := "()J" } : Jvm.MethodName) prog_7_method_2_code (3 : Nat) (Option.some Jvm.ClassFile.FieldType.long)).before args0 about1 = true := code_word (m := ⟨2, 1⟩) (meth := k2m1) (c := k2c1) (by decide +kernel) rfl rfl rfl (by decide +kernel)
def codes1 : List Jvm.Cond := [Jvm.Cond.code x code maxLocals ret, Jvm.Cond.code ({ cls := "com/example/lattice_traffic/latticetraffic/SplitMix64", name := "<init>", desc := "(J)V" } : Jvm.MethodName) prog_7_method_1_code (3 : Nat) (Option.none : Option Jvm.ClassFile.FieldType), Jvm.Cond.code ({ cls := "java/lang/Object", name := "<init>", desc := "()V" } : Jvm.MethodName) object_method_1_code (1 : Nat) (Option.none : Option Jvm.ClassFile.FieldType), Jvm.Cond.code ({ cls := "com/example/lattice_traffic/latticetraffic/SplitMix64", name := "nextLong", desc := "()J" } : Jvm.MethodName) prog_7_method_2_code (3 : Nat) (Option.some Jvm.ClassFile.FieldType.long)]
set_option maxRecDepth 65536 in
theorem codes_eq : words1.filter isCode = codes1 := rfl
theorem w_codes : ∀ c ∈ words1.filter isCode, c.before args0 about1 = true := by
  rw [codes_eq]
  intro c hc
  simp only [codes1, List.mem_cons, List.not_mem_nil, or_false] at hc
  rcases hc with rfl | rfl | rfl | rfl
  · exact w_c0
  · exact w_c1
  · exact w_c2
  · exact w_c3
set_option maxRecDepth 65536 in
theorem w_t1 : words1.all (fun c => isCode c || c.before args0 about1) = true := by decide +kernel
theorem w_tables : (allAtoms (Jvm.Cond.code x code maxLocals ret :: tables_1)).before args0 about1 = true := by
  rw [allAtoms_all]
  show words1.all (fun c => c.before args0 about1) = true
  refine all_split ?_ w_codes
  rw [w_t1]
set_option maxRecDepth 65536 in
theorem w_case : (Jvm.Cond.and given_1 narrow_1).before args0 about1 = true := by decide +kernel
theorem w_applies : (headSpec (Jvm.Cond.code x code maxLocals ret :: tables_1) room_1).applies x e0.platform about1 = true :=
  (Spec.applies_iff w_frames).mpr ⟨w_running, w_runnable, w_alone, w_named, w_hears, w_ripe, w_room, w_tables⟩
theorem atStart : AtStart classFile x code maxLocals ret World_1 tables_1 room_1 Calls_1 rest_1 Pre_1 launch0 p0 e0 about1 theMethod args0 below0 :=
  ⟨lists_1, trivial, launch0.admits_env _ _ _, launch0.least_env, fairChoices_fair.cas, fairChoices_fair.clock, w_frames, w_args, w_heap, w_applies, trivial, trivial, w_case⟩
end start1
theorem witness_1 : WitnessClaimed_1 := ⟨start1.p0, start1.e0, start1.about1, start1.theMethod, start1.args0, start1.below0, start1.atStart⟩
end Jvm.Pilot.@@N@@
