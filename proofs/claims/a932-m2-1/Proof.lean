import JvmDerived
import JvmDerived.Pilot.@@N@@Statement
import JvmDerived.Pilot.@@N@@Code
set_option linter.unusedVariables false
set_option linter.unusedSimpArgs false
namespace Jvm.RoadKit
open Sem ClassFile Op Lib Jvm.Stand Jvm.Free Jvm.LawKit
section New
variable {p : Program} {l : Launch} {e : Env} {R : Room} {s : State} {m : MethodId} {args : Array Value} {below : List Frame} {meth : Method} {c : Code} {T : State} {locs : List Loc} {cells slots : Nat}
theorem retI (X : Stand p l e R s m args below meth c T locs cells slots) (hx : p.tables.exec = Jvm.exec) {pc : Nat} {Ls : Array Slot} {z : Int32} {rest : List Value} (hret : meth.sig.returnType = some .int) (hd : decode c.code pc = .ok (.ireturn, 1)) {fs : List Frame}
    (hl : ∀ (f : JFrame) (acts : List Action), f.method = m → f.locked = none → f.entered = [] → (doReturn e (T.setTop f) acts (some (.int z))).1 = T.setFrames fs) : Steps p.tables e below (T.setTop (mkF m pc Ls (.int z :: rest))) (T.setFrames fs) := by
  have hm' : T.vm.method? m = some meth := X.method'
  have hn : narrow .int (.int z) = .int z := rfl
  show Steps p.tables e below (T.setTop { method := m, pc := pc, locals := Ls, stack := _ :: rest, locked := none }) _
  jvm_step X.here [X.here.top, hx, hd, hm', hret, hn]
  first | (intro acts; rw [hl _ acts rfl rfl rfl]) | rw [hl _ _ rfl rfl rfl]
  exact Steps.refl _
theorem own_lremM {g : JFrame} {target : State} (X : Stand p l e R s m args below meth c T locs cells slots) (hx : p.tables.exec = Jvm.exec) (hg : g.method = m) {x y : Int64} {rest : List Value} (hd : decode c.code g.pc = .ok (.lrem, 1)) (hs : g.stack = .long y :: .long x :: rest) (hy : y ≠ 0)
    (hr : Steps p.tables e below (T.setTop { g with pc := g.pc + 1, stack := .long (x % y) :: rest }) target) : Steps p.tables e below (T.setTop g) target := by
  have q : x - x / y * y = x % y := lrem_mod x y
  exact XS.lrem X.here hx hg hd hs hy (by rw [q]; exact hr)
theorem own_getD_int (L : List Int32) (n : Nat) (d : Int32) : (L.map Value.int).getD n (.int d) = .int (L.getD n d) := by simp [List.getD_eq_getElem?_getD, List.getElem?_map]
theorem own_getD_long (L : List Int64) (n : Nat) (d : Int64) : (L.map Value.long).getD n (.long d) = .long (L.getD n d) := by simp [List.getD_eq_getElem?_getD, List.getElem?_map]
theorem own_lt_nat {j z : Int32} (h : ¬ j < 0) (q : j < z) : j.toNatClampNeg < z.toNatClampNeg := by
  rw [Int32.lt_iff_toInt_lt] at h q; have : (0 : Int32).toInt = 0 := rfl
  simp only [Int32.toNatClampNeg]; omega
theorem own_eq_int {t : Term} {v : Int32} {args : Array Value} {s : State} (h : (Cond.eq t (.int v)).value args s none s [] = some true) : t.eval args s none [] s = some (.int v) := by
  simp only [Cond.value, Term.eval] at h
  cases ht : t.eval args s none [] s with
  | none => simp [ht] at h
  | some x => cases x <;> simp [ht] at h ⊢; exact h
theorem own_eq_long {t : Term} {v : Int64} {args : Array Value} {s : State} (h : (Cond.eq t (.long v)).value args s none s [] = some true) : t.eval args s none [] s = some (.long v) := by
  simp only [Cond.value, Term.eval] at h
  cases ht : t.eval args s none [] s with
  | none => simp [ht] at h
  | some x => cases x <;> simp [ht] at h ⊢; exact h
theorem own_selpriv {s : State} {args : Array Value} {y : MethodName} {n : Nat} (wi : (Cond.instantiable y.cls n).before args s = true) (hpriv : s.PrivateAt y) (hinst : (Cond.instanceMethod y).before args s = true) (hy : y.cls ≠ "java/lang/invoke/MethodHandle" ∧ y.cls ≠ "java/lang/invoke/VarHandle") : (Cond.selects y.cls y y).before args s = true := by
  obtain ⟨c, k, h1, h2, -, h4, -⟩ := Cond.instantiable_spec wi
  exact Jvm.Stand.selects_self_of_private h1 h2 (Bool.or_eq_false_iff.mp h4).1 hpriv hinst hy
theorem own_len {t : Term} {x : Addr} {z : Int32} {cl : Cell} {args : Array Value} {s : State} (ht : t.eval args s none [] s = some (.ref x)) (h : (Term.length t).eval args s none [] s = some (.int z)) (ha : s.arrayAt? x = some cl) : cl.slots.size < 2 ^ 31 ∧ cl.slots.size.toInt32 = z := by
  by_cases q : cl.slots.size < 2 ^ 31
  · refine ⟨q, ?_⟩
    rw [len_f ht ha q] at h
    simpa using h
  · exfalso
    simp [Term.eval, ht, ha, q] at h
theorem own_narb (P : Prop) [Decidable P] : nar .boolean (if P then (1 : Int32) else (0 : Int32)) = if P then (1 : Int32) else (0 : Int32) := by by_cases h : P <;> simp only [h, if_true, if_false] <;> rfl
end New
end Jvm.RoadKit
namespace Jvm.Pilot.@@N@@
open Jvm Jvm.ClassFile Sem Op Lib Jvm.Free Jvm.Stand Jvm.LawKit Jvm.RoadKit Bundle Jvm.Pilot.@@N@@.Jvm.D
theorem d2_0 : decode jdk_30_method_1_code 0 = .ok (.aload_n 0, 1) := by decide +kernel
theorem d2_1 : decode jdk_30_method_1_code 1 = .ok (.invokespecial 1, 3) := by decide +kernel
theorem d2_4 : decode jdk_30_method_1_code 4 = .ok (.return_, 1) := by decide +kernel
theorem pn_4 : plainName "java/lang/Record" = true := by first | (simp [plainName, overriddenIn]; done) | decide +kernel
theorem ef_rm2 (m : MethodId) (ra0 : Addr) : entryFrame m #[(.ref ra0)] 1 = mkF m 0 #[.val (.ref ra0)] [] := by first | (simp [entryFrame, mkF, argsToLocals, Value.category]; done) | rfl
def Q2 (Z : State) (ra0 : Addr) (h0 : Heap) (n0 : Nat) (v : Option Value) (h : Heap) (L : List Loc) : Prop := v = none ∧ Fr n0 L ∧ h = h0
set_option maxRecDepth 65536 in
set_option maxHeartbeats 40000000 in
theorem rm2 (l : Launch) (Z : State) (a0 : Array Value) (hw : ∀ d ∈ tables_1, d.before a0 Z = true) (ws : List Jvm.Cond) (ra0 : Addr) (h0 : Heap) (n0 : Nat) (Z0 : n0 ≤ h0.size) :
    MetFree l (⟨"java/lang/Record", "<init>", "()V"⟩ : MethodName) (head1 (Jvm.Cond.code (⟨"java/lang/Record", "<init>", "()V"⟩ : MethodName) jdk_30_method_1_code 1 none :: ws) ({ frames := 1, cells := 0, slots := 0, locals := 12 } : Room)) (fun a U => a = #[(.ref ra0)] ∧ Z.Warmed39 U.vm ∧ U.heap = h0) (fun _ _ _ _ _ => True) (fun _ U o U' => ∃ v L, o = .returned v ∧ Q2 Z ra0 h0 n0 v U'.heap L ∧ FrameEnd U o U' L ({ frames := 1, cells := 0, slots := 0, locals := 12 } : Room).cells ({ frames := 1, cells := 0, slots := 0, locals := 12 } : Room).slots) := by
  refine MetFree.of_bodySF (plainFor_of_name pn_4) hisR ?_
  intro p e s m args below meth c s₁ Bd hml0 hP hK
  obtain ⟨rfl, hZ, hh⟩ := hP
  have hx := Bd.exec
  have hby := Bd.bytes
  have hml : c.maxLocals = 1 := hml0
  have hown : s.vm.findClass "java/lang/Record" = some m.cls := findClass_of_methodNamed Bd.named
  have hnm := (name_of_methodNamed Bd.named Bd.method).1
  have X0 : Stand p l e ({ frames := 1, cells := 0, slots := 0, locals := 12 } : Room) s m #[(.ref ra0)] below meth c s₁ [] 0 0 := Stand.of_body Bd
  have e0 : s₁.heap = h0 := by rw [← hh, Bd.state]; rfl
  have N0 := Fr.nil n0
  have KC0 := Keep.refl h0 ([] : List Addr)
  have pre0 : ∀ t, Steps p.tables e below (s₁.setTop (mkF m 0 #[.val (.ref ra0)] [])) t → Steps p.tables e below (s₁.setTop (entryFrame m #[(.ref ra0)] 1)) t := fun t k => castTop (ef_rm2 m ra0) k
  have k1 := fun (t : State) (kk : Steps p.tables e below (s₁.setTop (mkF m 1 #[.val (.ref ra0)] [(.ref ra0)])) t) => pre0 t (by
    show Steps p.tables e below (s₁.setTop (mkF m 0 #[.val (.ref ra0)] [])) _
    refine XS.aloadN X0.here hx rfl (hb hby d2_0) rfl rfl ?_
    exact kk)
  obtain ⟨T2, X2, e2, st2⟩ := initO X0 hx hZ hown (hw _ (List.mem_of_getElem? (i := 19) rfl)) (hw _ (List.mem_of_getElem? (i := 20) rfl)) (hw _ (List.mem_of_getElem? (i := 21) rfl)) e0 (g := (mkF m 1 #[.val (.ref ra0)] [(.ref ra0)])) rfl (by rw [hml]; rfl) rfl (hb hby d2_1) (by decide) (W := 0) (by show 2 * 0 + _ ≤ _; exact Nat.le_of_eq rfl) (by decide)
  have k3 := fun (t : State) (kk : Steps p.tables e below (T2.setTop (mkF m 4 #[.val (.ref ra0)] [])) t) => k1 t (st2 _ kk)
  obtain ⟨fs, hr, hrun, hended, hW, hsame⟩ := X2.leave (v := none) (fun _ => rfl)
  refine ⟨_, _, k3 _ ?_, hrun, hended, _, _, rfl, ?_, ⟨_, rfl⟩, hW, hsame.mono (by decide) (by decide)⟩
  · show Steps p.tables e below (T2.setTop (mkF m 4 #[.val (.ref ra0)] [])) _
    exact X2.returnOut hx Bd.returns (hb hby d2_4) hr
  · show Q2 Z ra0 h0 n0 _ T2.heap _
    rw [e2]
    exact ⟨rfl, N0, rfl⟩
theorem pd_0 : parseMethodDescriptor "()V" = some ⟨[], none⟩ := by decide +kernel
theorem d1_0 : decode prog_95_method_1_code 0 = .ok (.aload_n 0, 1) := by decide +kernel
theorem d1_1 : decode prog_95_method_1_code 1 = .ok (.invokespecial 1, 3) := by decide +kernel
theorem d1_4 : decode prog_95_method_1_code 4 = .ok (.aload_n 0, 1) := by decide +kernel
theorem d1_5 : decode prog_95_method_1_code 5 = .ok (.iload_n 1, 1) := by decide +kernel
theorem d1_6 : decode prog_95_method_1_code 6 = .ok (.putfield 7, 3) := by decide +kernel
theorem d1_9 : decode prog_95_method_1_code 9 = .ok (.aload_n 0, 1) := by decide +kernel
theorem d1_10 : decode prog_95_method_1_code 10 = .ok (.aload_n 2, 1) := by decide +kernel
theorem d1_11 : decode prog_95_method_1_code 11 = .ok (.putfield 13, 3) := by decide +kernel
theorem d1_14 : decode prog_95_method_1_code 14 = .ok (.aload_n 0, 1) := by decide +kernel
theorem d1_15 : decode prog_95_method_1_code 15 = .ok (.iload_n 3, 1) := by decide +kernel
theorem d1_16 : decode prog_95_method_1_code 16 = .ok (.putfield 17, 3) := by decide +kernel
theorem d1_19 : decode prog_95_method_1_code 19 = .ok (.aload_n 0, 1) := by decide +kernel
theorem d1_20 : decode prog_95_method_1_code 20 = .ok (.iload 4, 2) := by decide +kernel
theorem d1_22 : decode prog_95_method_1_code 22 = .ok (.putfield 20, 3) := by decide +kernel
theorem d1_25 : decode prog_95_method_1_code 25 = .ok (.return_, 1) := by decide +kernel
theorem pn_22 : plainName "com/example/protoscope/protoscope/source/SourcePosition" = true := by first | (simp [plainName, overriddenIn]; done) | decide +kernel
theorem ef_rm1 (m : MethodId) (ra0 : Addr) (p1 : Int32) (ra2 : Addr) (p3 : Int32) (p4 : Int32) : entryFrame m #[(.ref ra0), (.int p1), (.ref ra2), (.int p3), (.int p4)] 5 = mkF m 0 #[.val (.ref ra0), .val (.int p1), .val (.ref ra2), .val (.int p3), .val (.int p4)] [] := by first | (simp [entryFrame, mkF, argsToLocals, Value.category]; done) | rfl
def Q1 (Z : State) (ra0 : Addr) (p1 : Int32) (ra2 : Addr) (p3 : Int32) (p4 : Int32) (w_fileIndex_ra0 : Int32) (u_path_ra0 : Value) (w_line_ra0 : Int32) (w_column_ra0 : Int32) (h0 : Heap) (n0 : Nat) (v : Option Value) (h : Heap) (L : List Loc) : Prop := v = none ∧ Fr n0 L ∧ Keep h0 h [ra0] ∧ Exa Z h ra0 "com/example/protoscope/protoscope/source/SourcePosition" ∧ Fld Z h ra0 "com/example/protoscope/protoscope/source/SourcePosition" "fileIndex" "I" (.int p1) ∧ Fld Z h ra0 "com/example/protoscope/protoscope/source/SourcePosition" "path" "Ljava/lang/String;" (.ref ra2) ∧ Fld Z h ra0 "com/example/protoscope/protoscope/source/SourcePosition" "line" "I" (.int p3) ∧ Fld Z h ra0 "com/example/protoscope/protoscope/source/SourcePosition" "column" "I" (.int p4)
set_option maxRecDepth 65536 in
set_option maxHeartbeats 40000000 in
theorem rm1 (l : Launch) (Z : State) (a0 : Array Value) (hw : ∀ d ∈ tables_1, d.before a0 Z = true) (ws : List Jvm.Cond) (ra0 : Addr) (p1 : Int32) (ra2 : Addr) (p3 : Int32) (p4 : Int32) (w_fileIndex_ra0 : Int32) (u_path_ra0 : Value) (w_line_ra0 : Int32) (w_column_ra0 : Int32) (h0 : Heap) (n0 : Nat) (Z0 : n0 ≤ h0.size) (E_ra0 : Exa Z h0 ra0 "com/example/protoscope/protoscope/source/SourcePosition") (F_fileIndex_ra0 : Fld Z h0 ra0 "com/example/protoscope/protoscope/source/SourcePosition" "fileIndex" "I" (.int w_fileIndex_ra0)) (g_ra0 : n0 ≤ ra0) (F_path_ra0 : Fld Z h0 ra0 "com/example/protoscope/protoscope/source/SourcePosition" "path" "Ljava/lang/String;" u_path_ra0) (F_line_ra0 : Fld Z h0 ra0 "com/example/protoscope/protoscope/source/SourcePosition" "line" "I" (.int w_line_ra0)) (F_column_ra0 : Fld Z h0 ra0 "com/example/protoscope/protoscope/source/SourcePosition" "column" "I" (.int w_column_ra0)) :
    MetFree l (⟨"com/example/protoscope/protoscope/source/SourcePosition", "<init>", "(ILjava/lang/String;II)V"⟩ : MethodName) (head1 (Jvm.Cond.code (⟨"com/example/protoscope/protoscope/source/SourcePosition", "<init>", "(ILjava/lang/String;II)V"⟩ : MethodName) prog_95_method_1_code 5 none :: ws) ({ frames := 2, cells := 0, slots := 0, locals := 24 } : Room)) (fun a U => a = #[(.ref ra0), (.int p1), (.ref ra2), (.int p3), (.int p4)] ∧ Z.Warmed39 U.vm ∧ U.heap = h0) (fun _ _ _ _ _ => True) (fun _ U o U' => ∃ v L, o = .returned v ∧ Q1 Z ra0 p1 ra2 p3 p4 w_fileIndex_ra0 u_path_ra0 w_line_ra0 w_column_ra0 h0 n0 v U'.heap L ∧ FrameEnd U o U' L ({ frames := 2, cells := 0, slots := 0, locals := 24 } : Room).cells ({ frames := 2, cells := 0, slots := 0, locals := 24 } : Room).slots) := by
  refine MetFree.of_bodySF (plainFor_of_name pn_22) hisR ?_
  intro p e s m args below meth c s₁ Bd hml0 hP hK
  obtain ⟨rfl, hZ, hh⟩ := hP
  have hx := Bd.exec
  have hby := Bd.bytes
  have hml : c.maxLocals = 5 := hml0
  have hown : s.vm.findClass "com/example/protoscope/protoscope/source/SourcePosition" = some m.cls := findClass_of_methodNamed Bd.named
  have hnm := (name_of_methodNamed Bd.named Bd.method).1
  have X0 : Stand p l e ({ frames := 2, cells := 0, slots := 0, locals := 24 } : Room) s m #[(.ref ra0), (.int p1), (.ref ra2), (.int p3), (.int p4)] below meth c s₁ [] 0 0 := Stand.of_body Bd
  have e0 : s₁.heap = h0 := by rw [← hh, Bd.state]; rfl
  have N0 := Fr.nil n0
  have KC0 := Keep.refl h0 [ra0]
  have pre0 : ∀ t, Steps p.tables e below (s₁.setTop (mkF m 0 #[.val (.ref ra0), .val (.int p1), .val (.ref ra2), .val (.int p3), .val (.int p4)] [])) t → Steps p.tables e below (s₁.setTop (entryFrame m #[(.ref ra0), (.int p1), (.ref ra2), (.int p3), (.int p4)] 5)) t := fun t k => castTop (ef_rm1 m ra0 p1 ra2 p3 p4) k
  have k4 := fun (t : State) (kk : Steps p.tables e below (s₁.setTop (mkF m 1 #[.val (.ref ra0), .val (.int p1), .val (.ref ra2), .val (.int p3), .val (.int p4)] [(.ref ra0)])) t) => pre0 t (by
    show Steps p.tables e below (s₁.setTop (mkF m 0 #[.val (.ref ra0), .val (.int p1), .val (.ref ra2), .val (.int p3), .val (.int p4)] [])) _
    refine XS.aloadN X0.here hx rfl (hb hby d1_0) rfl rfl ?_
    exact kk)
  have Zz5 : n0 ≤ h0.size := (Nat.le_trans Z0 KC0.1)
  obtain ⟨_, _, ⟨T5, L5, k5, n5⟩, -, X5, ⟨Lc5, hQ5, l5, y5, z5⟩, st5⟩ := X0.specialBack hx (y := (⟨"java/lang/Record", "<init>", "()V"⟩ : MethodName)) rfl hown (mvT hZ (hw _ (List.mem_of_getElem? (i := 14) rfl))) (mvT hZ (hw _ (List.mem_of_getElem? (i := 15) rfl))) (mvT hZ (hw _ (List.mem_of_getElem? (i := 18) rfl))) (by decide) (backOf (W := 0) (rm2 l Z a0 hw [] ra0 h0 n0 Zz5) hZ (hw _ (List.mem_of_getElem? (i := 18) rfl)) (hw _ (List.mem_of_getElem? (i := 17) rfl)) (by decide) (by decide)) (g := (mkF m 1 #[.val (.ref ra0), .val (.int p1), .val (.ref ra2), .val (.int p3), .val (.int p4)] [(.ref ra0)])) rfl (by rw [hml]; rfl) (Steps.refl _) (a := ra0) (argsL := []) (rest := []) (lenOf pd_0 rfl) rfl (by show 2 * 0 + _ ≤ _; exact Nat.le_of_eq rfl) (hb hby d1_1) (fun _ _ => ⟨rfl, e0, (by decide : 0 + 0 ≤ _), (by decide : 0 + 0 ≤ _)⟩)
  dsimp only [Pt.U, Pt.locs, Pt.cells, Pt.slots] at X5 l5 y5 z5 st5 hQ5
  subst l5 y5 z5
  obtain ⟨rfl, N5q, e5⟩ := hQ5
  have N5 := Fr.app N0 N5q
  have k6 := fun (t : State) (kk : Steps p.tables e below (T5.setTop (mkF m 4 #[.val (.ref ra0), .val (.int p1), .val (.ref ra2), .val (.int p3), .val (.int p4)] [])) t) => k4 t (st5.trans kk)
  have k7 := fun (t : State) (kk : Steps p.tables e below (T5.setTop (mkF m 6 #[.val (.ref ra0), .val (.int p1), .val (.ref ra2), .val (.int p3), .val (.int p4)] [(.int p1), (.ref ra0)])) t) => k6 t (by
    show Steps p.tables e below (T5.setTop (mkF m 4 #[.val (.ref ra0), .val (.int p1), .val (.ref ra2), .val (.int p3), .val (.int p4)] [])) _
    refine XS.aloadN X5.here hx rfl (hb hby d1_4) rfl rfl ?_
    show Steps p.tables e below (T5.setTop (mkF m 5 #[.val (.ref ra0), .val (.int p1), .val (.ref ra2), .val (.int p3), .val (.int p4)] [(.ref ra0)])) _
    refine XS.iloadN X5.here hx rfl (hb hby d1_5) rfl ?_
    exact kk)
  obtain ⟨T8, h8, X8, e8, W8, st8⟩ := putF X5 hx hZ hown (host := "") (Or.inl (hw _ (List.mem_of_getElem? (i := 22) rfl))) Via.refl e5 F_fileIndex_ra0 E_ra0 (Or.inr ⟨(hw _ (List.mem_of_getElem? (i := 23) rfl)), rfl, hnm⟩) (hw _ (List.mem_of_getElem? (i := 1) rfl)) (ty := .int) (by decide) rfl rfl (g := (mkF m 6 #[.val (.ref ra0), .val (.int p1), .val (.ref ra2), .val (.int p3), .val (.int p4)] [(.int p1), (.ref ra0)])) rfl rfl (hb hby d1_6)
  have Fw8 := F_fileIndex_ra0.same W8
  have K8 : Keep h0 h8 [ra0] := KC0.wr W8 (Or.inl (List.mem_of_getElem? (i := 0) rfl))
  have N8 := Fr.snoc X8 N5 g_ra0
  have k9 := fun (t : State) (kk : Steps p.tables e below (T8.setTop (mkF m 9 #[.val (.ref ra0), .val (.int p1), .val (.ref ra2), .val (.int p3), .val (.int p4)] [])) t) => k7 t (st8 _ kk)
  have k10 := fun (t : State) (kk : Steps p.tables e below (T8.setTop (mkF m 11 #[.val (.ref ra0), .val (.int p1), .val (.ref ra2), .val (.int p3), .val (.int p4)] [(.ref ra2), (.ref ra0)])) t) => k9 t (by
    show Steps p.tables e below (T8.setTop (mkF m 9 #[.val (.ref ra0), .val (.int p1), .val (.ref ra2), .val (.int p3), .val (.int p4)] [])) _
    refine XS.aloadN X8.here hx rfl (hb hby d1_9) rfl rfl ?_
    show Steps p.tables e below (T8.setTop (mkF m 10 #[.val (.ref ra0), .val (.int p1), .val (.ref ra2), .val (.int p3), .val (.int p4)] [(.ref ra0)])) _
    refine XS.aloadN X8.here hx rfl (hb hby d1_10) rfl rfl ?_
    exact kk)
  have f11 := (E_ra0.wr W8)
  have f12 := (F_path_ra0.other W8 (Or.inr (slot_ne (Or.inr (hw _ (List.mem_of_getElem? (i := 25) rfl))) (Or.inr (hw _ (List.mem_of_getElem? (i := 23) rfl))) (by decide) (t := (.object "java/lang/String")) (t' := .int) (by decide) (by decide))))
  obtain ⟨T13, h13, X13, e13, W13, st13⟩ := putF X8 hx hZ hown (host := "") (Or.inl (hw _ (List.mem_of_getElem? (i := 24) rfl))) Via.refl e8 f12 f11 (Or.inr ⟨(hw _ (List.mem_of_getElem? (i := 25) rfl)), rfl, hnm⟩) (hw _ (List.mem_of_getElem? (i := 1) rfl)) (ty := (.object "java/lang/String")) (by decide) rfl rfl (g := (mkF m 11 #[.val (.ref ra0), .val (.int p1), .val (.ref ra2), .val (.int p3), .val (.int p4)] [(.ref ra2), (.ref ra0)])) rfl rfl (hb hby d1_11)
  have Fw13 := f12.same W13
  have K13 : Keep h0 h13 [ra0] := K8.wr W13 (Or.inl (List.mem_of_getElem? (i := 0) rfl))
  have N13 := Fr.snoc X13 N8 g_ra0
  have k14 := fun (t : State) (kk : Steps p.tables e below (T13.setTop (mkF m 14 #[.val (.ref ra0), .val (.int p1), .val (.ref ra2), .val (.int p3), .val (.int p4)] [])) t) => k10 t (st13 _ kk)
  have k15 := fun (t : State) (kk : Steps p.tables e below (T13.setTop (mkF m 16 #[.val (.ref ra0), .val (.int p1), .val (.ref ra2), .val (.int p3), .val (.int p4)] [(.int p3), (.ref ra0)])) t) => k14 t (by
    show Steps p.tables e below (T13.setTop (mkF m 14 #[.val (.ref ra0), .val (.int p1), .val (.ref ra2), .val (.int p3), .val (.int p4)] [])) _
    refine XS.aloadN X13.here hx rfl (hb hby d1_14) rfl rfl ?_
    show Steps p.tables e below (T13.setTop (mkF m 15 #[.val (.ref ra0), .val (.int p1), .val (.ref ra2), .val (.int p3), .val (.int p4)] [(.ref ra0)])) _
    refine XS.iloadN X13.here hx rfl (hb hby d1_15) rfl ?_
    exact kk)
  have f16 := (f11.wr W13)
  have f17 := ((F_line_ra0.other W8 (Or.inr (slot_ne (Or.inr (hw _ (List.mem_of_getElem? (i := 27) rfl))) (Or.inr (hw _ (List.mem_of_getElem? (i := 23) rfl))) (by decide) (t := .int) (t' := .int) (by decide) (by decide)))).other W13 (Or.inr (slot_ne (Or.inr (hw _ (List.mem_of_getElem? (i := 27) rfl))) (Or.inr (hw _ (List.mem_of_getElem? (i := 25) rfl))) (by decide) (t := .int) (t' := (.object "java/lang/String")) (by decide) (by decide))))
  obtain ⟨T18, h18, X18, e18, W18, st18⟩ := putF X13 hx hZ hown (host := "") (Or.inl (hw _ (List.mem_of_getElem? (i := 26) rfl))) Via.refl e13 f17 f16 (Or.inr ⟨(hw _ (List.mem_of_getElem? (i := 27) rfl)), rfl, hnm⟩) (hw _ (List.mem_of_getElem? (i := 1) rfl)) (ty := .int) (by decide) rfl rfl (g := (mkF m 16 #[.val (.ref ra0), .val (.int p1), .val (.ref ra2), .val (.int p3), .val (.int p4)] [(.int p3), (.ref ra0)])) rfl rfl (hb hby d1_16)
  have Fw18 := f17.same W18
  have K18 : Keep h0 h18 [ra0] := K13.wr W18 (Or.inl (List.mem_of_getElem? (i := 0) rfl))
  have N18 := Fr.snoc X18 N13 g_ra0
  have k19 := fun (t : State) (kk : Steps p.tables e below (T18.setTop (mkF m 19 #[.val (.ref ra0), .val (.int p1), .val (.ref ra2), .val (.int p3), .val (.int p4)] [])) t) => k15 t (st18 _ kk)
  have k20 := fun (t : State) (kk : Steps p.tables e below (T18.setTop (mkF m 22 #[.val (.ref ra0), .val (.int p1), .val (.ref ra2), .val (.int p3), .val (.int p4)] [(.int p4), (.ref ra0)])) t) => k19 t (by
    show Steps p.tables e below (T18.setTop (mkF m 19 #[.val (.ref ra0), .val (.int p1), .val (.ref ra2), .val (.int p3), .val (.int p4)] [])) _
    refine XS.aloadN X18.here hx rfl (hb hby d1_19) rfl rfl ?_
    show Steps p.tables e below (T18.setTop (mkF m 20 #[.val (.ref ra0), .val (.int p1), .val (.ref ra2), .val (.int p3), .val (.int p4)] [(.ref ra0)])) _
    refine XS.iload X18.here hx rfl (hb hby d1_20) rfl ?_
    exact kk)
  have f21 := (f16.wr W18)
  have f22 := (((F_column_ra0.other W8 (Or.inr (slot_ne (Or.inr (hw _ (List.mem_of_getElem? (i := 29) rfl))) (Or.inr (hw _ (List.mem_of_getElem? (i := 23) rfl))) (by decide) (t := .int) (t' := .int) (by decide) (by decide)))).other W13 (Or.inr (slot_ne (Or.inr (hw _ (List.mem_of_getElem? (i := 29) rfl))) (Or.inr (hw _ (List.mem_of_getElem? (i := 25) rfl))) (by decide) (t := .int) (t' := (.object "java/lang/String")) (by decide) (by decide)))).other W18 (Or.inr (slot_ne (Or.inr (hw _ (List.mem_of_getElem? (i := 29) rfl))) (Or.inr (hw _ (List.mem_of_getElem? (i := 27) rfl))) (by decide) (t := .int) (t' := .int) (by decide) (by decide))))
  obtain ⟨T23, h23, X23, e23, W23, st23⟩ := putF X18 hx hZ hown (host := "") (Or.inl (hw _ (List.mem_of_getElem? (i := 28) rfl))) Via.refl e18 f22 f21 (Or.inr ⟨(hw _ (List.mem_of_getElem? (i := 29) rfl)), rfl, hnm⟩) (hw _ (List.mem_of_getElem? (i := 1) rfl)) (ty := .int) (by decide) rfl rfl (g := (mkF m 22 #[.val (.ref ra0), .val (.int p1), .val (.ref ra2), .val (.int p3), .val (.int p4)] [(.int p4), (.ref ra0)])) rfl rfl (hb hby d1_22)
  have Fw23 := f22.same W23
  have K23 : Keep h0 h23 [ra0] := K18.wr W23 (Or.inl (List.mem_of_getElem? (i := 0) rfl))
  have N23 := Fr.snoc X23 N18 g_ra0
  have k24 := fun (t : State) (kk : Steps p.tables e below (T23.setTop (mkF m 25 #[.val (.ref ra0), .val (.int p1), .val (.ref ra2), .val (.int p3), .val (.int p4)] [])) t) => k20 t (st23 _ kk)
  obtain ⟨fs, hr, hrun, hended, hW, hsame⟩ := X23.leave (v := none) (fun _ => rfl)
  have f25 := (f21.wr W23)
  have f26 := (((Fw8.other W13 (Or.inr (slot_ne (Or.inr (hw _ (List.mem_of_getElem? (i := 23) rfl))) (Or.inr (hw _ (List.mem_of_getElem? (i := 25) rfl))) (by decide) (t := .int) (t' := (.object "java/lang/String")) (by decide) (by decide)))).other W18 (Or.inr (slot_ne (Or.inr (hw _ (List.mem_of_getElem? (i := 23) rfl))) (Or.inr (hw _ (List.mem_of_getElem? (i := 27) rfl))) (by decide) (t := .int) (t' := .int) (by decide) (by decide)))).other W23 (Or.inr (slot_ne (Or.inr (hw _ (List.mem_of_getElem? (i := 23) rfl))) (Or.inr (hw _ (List.mem_of_getElem? (i := 29) rfl))) (by decide) (t := .int) (t' := .int) (by decide) (by decide))))
  have f27 := ((Fw13.other W18 (Or.inr (slot_ne (Or.inr (hw _ (List.mem_of_getElem? (i := 25) rfl))) (Or.inr (hw _ (List.mem_of_getElem? (i := 27) rfl))) (by decide) (t := (.object "java/lang/String")) (t' := .int) (by decide) (by decide)))).other W23 (Or.inr (slot_ne (Or.inr (hw _ (List.mem_of_getElem? (i := 25) rfl))) (Or.inr (hw _ (List.mem_of_getElem? (i := 29) rfl))) (by decide) (t := (.object "java/lang/String")) (t' := .int) (by decide) (by decide))))
  have f28 := (Fw18.other W23 (Or.inr (slot_ne (Or.inr (hw _ (List.mem_of_getElem? (i := 27) rfl))) (Or.inr (hw _ (List.mem_of_getElem? (i := 29) rfl))) (by decide) (t := .int) (t' := .int) (by decide) (by decide))))
  refine ⟨_, _, k24 _ ?_, hrun, hended, _, _, rfl, ?_, ⟨_, rfl⟩, hW, hsame.mono (by decide) (by decide)⟩
  · show Steps p.tables e below (T23.setTop (mkF m 25 #[.val (.ref ra0), .val (.int p1), .val (.ref ra2), .val (.int p3), .val (.int p4)] [])) _
    exact X23.returnOut hx Bd.returns (hb hby d1_25) hr
  · show Q1 Z ra0 p1 ra2 p3 p4 w_fileIndex_ra0 u_path_ra0 w_line_ra0 w_column_ra0 h0 n0 _ T23.heap _
    rw [e23]
    exact ⟨rfl, N23, K23, f25, f26, f27, f28, Fw23⟩
theorem d5_0 : decode jdk_33_method_40_code 0 = .ok (.iload_n 0, 1) := by decide +kernel
theorem d5_1 : decode jdk_33_method_40_code 1 = .ok (.iload_n 1, 1) := by decide +kernel
theorem d5_2 : decode jdk_33_method_40_code 2 = .ok (.if_icmp .ge 7, 3) := by decide +kernel
theorem d5_5 : decode jdk_33_method_40_code 5 = .ok (.iconst (-1), 1) := by decide +kernel
theorem d5_6 : decode jdk_33_method_40_code 6 = .ok (.goto 13, 3) := by decide +kernel
theorem d5_9 : decode jdk_33_method_40_code 9 = .ok (.iload_n 0, 1) := by decide +kernel
theorem d5_10 : decode jdk_33_method_40_code 10 = .ok (.iload_n 1, 1) := by decide +kernel
theorem d5_11 : decode jdk_33_method_40_code 11 = .ok (.if_icmp .ne 7, 3) := by decide +kernel
theorem d5_14 : decode jdk_33_method_40_code 14 = .ok (.iconst 0, 1) := by decide +kernel
theorem d5_15 : decode jdk_33_method_40_code 15 = .ok (.goto 4, 3) := by decide +kernel
theorem d5_18 : decode jdk_33_method_40_code 18 = .ok (.iconst 1, 1) := by decide +kernel
theorem d5_19 : decode jdk_33_method_40_code 19 = .ok (.ireturn, 1) := by decide +kernel
theorem pn_36 : plainName "java/lang/Integer" = true := by first | (simp [plainName, overriddenIn]; done) | decide +kernel
def v5_11_s0 (p0 : Int32) (p1 : Int32) : Int32 := if p0 = p1 then (0 : Int32) else (1 : Int32)
def v5_2_s0 (p0 : Int32) (p1 : Int32) : Int32 := if p0 < p1 then (-1 : Int32) else (v5_11_s0 p0 p1)
theorem ef_rm5 (m : MethodId) (p0 : Int32) (p1 : Int32) : entryFrame m #[(.int p0), (.int p1)] 2 = mkF m 0 #[.val (.int p0), .val (.int p1)] [] := by first | (simp [entryFrame, mkF, argsToLocals, Value.category]; done) | rfl
def Q5 (Z : State) (p0 : Int32) (p1 : Int32) (h0 : Heap) (n0 : Nat) (v : Option Value) (h : Heap) (L : List Loc) : Prop := v = some (.int (v5_2_s0 p0 p1)) ∧ Fr n0 L ∧ h = h0
set_option maxRecDepth 65536 in
set_option maxHeartbeats 40000000 in
theorem rm5 (l : Launch) (Z : State) (a0 : Array Value) (hw : ∀ d ∈ tables_1, d.before a0 Z = true) (ws : List Jvm.Cond) (p0 : Int32) (p1 : Int32) (h0 : Heap) (n0 : Nat) (Z0 : n0 ≤ h0.size) :
    MetFree l (⟨"java/lang/Integer", "compare", "(II)I"⟩ : MethodName) (head1 (Jvm.Cond.code (⟨"java/lang/Integer", "compare", "(II)I"⟩ : MethodName) jdk_33_method_40_code 2 (some .int) :: ws) ({ frames := 0, cells := 0, slots := 0, locals := 0 } : Room)) (fun a U => a = #[(.int p0), (.int p1)] ∧ Z.Warmed39 U.vm ∧ U.heap = h0) (fun _ _ _ _ _ => True) (fun _ U o U' => ∃ v L, o = .returned v ∧ Q5 Z p0 p1 h0 n0 v U'.heap L ∧ FrameEnd U o U' L ({ frames := 0, cells := 0, slots := 0, locals := 0 } : Room).cells ({ frames := 0, cells := 0, slots := 0, locals := 0 } : Room).slots) := by
  refine MetFree.of_bodySF (plainFor_of_name pn_36) hisR ?_
  intro p e s m args below meth c s₁ Bd hml0 hP hK
  obtain ⟨rfl, hZ, hh⟩ := hP
  have hx := Bd.exec
  have hby := Bd.bytes
  have hml : c.maxLocals = 2 := hml0
  have hown : s.vm.findClass "java/lang/Integer" = some m.cls := findClass_of_methodNamed Bd.named
  have hnm := (name_of_methodNamed Bd.named Bd.method).1
  have X0 : Stand p l e ({ frames := 0, cells := 0, slots := 0, locals := 0 } : Room) s m #[(.int p0), (.int p1)] below meth c s₁ [] 0 0 := Stand.of_body Bd
  have e0 : s₁.heap = h0 := by rw [← hh, Bd.state]; rfl
  have N0 := Fr.nil n0
  have KC0 := Keep.refl h0 ([] : List Addr)
  have pre0 : ∀ t, Steps p.tables e below (s₁.setTop (mkF m 0 #[.val (.int p0), .val (.int p1)] [])) t → Steps p.tables e below (s₁.setTop (entryFrame m #[(.int p0), (.int p1)] 2)) t := fun t k => castTop (ef_rm5 m p0 p1) k
  have k33 := fun (t : State) (kk : Steps p.tables e below (s₁.setTop (mkF m 19 #[.val (.int p0), .val (.int p1)] [(.int (v5_2_s0 p0 p1))])) t) => pre0 t (by
    show Steps p.tables e below (s₁.setTop (mkF m 0 #[.val (.int p0), .val (.int p1)] [])) _
    refine XS.iloadN X0.here hx rfl (hb hby d5_0) rfl ?_
    show Steps p.tables e below (s₁.setTop (mkF m 1 #[.val (.int p0), .val (.int p1)] [(.int p0)])) _
    refine XS.iloadN X0.here hx rfl (hb hby d5_1) rfl ?_
    suffices k32 : Steps p.tables e below (s₁.setTop (mkF m 19 #[.val (.int p0), .val (.int p1)] [(.int (v5_2_s0 p0 p1))])) t by
      by_cases hc2_29 : p0 < p1
      · rw [(show (v5_2_s0 p0 p1) = (-1 : Int32) from if_pos hc2_29)] at k32
        show Steps p.tables e below (s₁.setTop (mkF m 2 #[.val (.int p0), .val (.int p1)] [(.int p1), (.int p0)])) _
        refine XS.icmpNo X0.here hx rfl (hb hby d5_2) rfl (tlt hc2_29).2.1 ?_
        show Steps p.tables e below (s₁.setTop (mkF m 5 #[.val (.int p0), .val (.int p1)] [])) _
        refine XS.iconst X0.here hx rfl (hb hby d5_5) ?_
        show Steps p.tables e below (s₁.setTop (mkF m 6 #[.val (.int p0), .val (.int p1)] [(.int (-1 : Int32))])) _
        refine XS.goto X0.here hx rfl (pc0 := 6) (pc' := 19) rfl (hb hby d5_6) (by decide) (by decide) ?_
        exact k32
      · rw [(show (v5_2_s0 p0 p1) = (v5_11_s0 p0 p1) from if_neg hc2_29)] at k32
        show Steps p.tables e below (s₁.setTop (mkF m 2 #[.val (.int p0), .val (.int p1)] [(.int p1), (.int p0)])) _
        refine XS.icmpYes X0.here hx rfl (pc0 := 2) (pc' := 9) rfl (hb hby d5_2) rfl (flt hc2_29).2.1 (by decide) (by decide) ?_
        show Steps p.tables e below (s₁.setTop (mkF m 9 #[.val (.int p0), .val (.int p1)] [])) _
        refine XS.iloadN X0.here hx rfl (hb hby d5_9) rfl ?_
        show Steps p.tables e below (s₁.setTop (mkF m 10 #[.val (.int p0), .val (.int p1)] [(.int p0)])) _
        refine XS.iloadN X0.here hx rfl (hb hby d5_10) rfl ?_
        suffices k31 : Steps p.tables e below (s₁.setTop (mkF m 19 #[.val (.int p0), .val (.int p1)] [(.int (v5_11_s0 p0 p1))])) t by
          by_cases hc11_30 : p0 = p1
          · rw [(show (v5_11_s0 p0 p1) = (0 : Int32) from if_pos hc11_30)] at k31
            show Steps p.tables e below (s₁.setTop (mkF m 11 #[.val (.int p0), .val (.int p1)] [(.int p1), (.int p0)])) _
            refine XS.icmpNo X0.here hx rfl (hb hby d5_11) rfl (teq hc11_30).2 ?_
            show Steps p.tables e below (s₁.setTop (mkF m 14 #[.val (.int p0), .val (.int p1)] [])) _
            refine XS.iconst X0.here hx rfl (hb hby d5_14) ?_
            show Steps p.tables e below (s₁.setTop (mkF m 15 #[.val (.int p0), .val (.int p1)] [(.int (0 : Int32))])) _
            refine XS.goto X0.here hx rfl (pc0 := 15) (pc' := 19) rfl (hb hby d5_15) (by decide) (by decide) ?_
            exact k31
          · rw [(show (v5_11_s0 p0 p1) = (1 : Int32) from if_neg hc11_30)] at k31
            show Steps p.tables e below (s₁.setTop (mkF m 11 #[.val (.int p0), .val (.int p1)] [(.int p1), (.int p0)])) _
            refine XS.icmpYes X0.here hx rfl (pc0 := 11) (pc' := 18) rfl (hb hby d5_11) rfl (feq hc11_30).2 (by decide) (by decide) ?_
            show Steps p.tables e below (s₁.setTop (mkF m 18 #[.val (.int p0), .val (.int p1)] [])) _
            refine XS.iconst X0.here hx rfl (hb hby d5_18) ?_
            exact k31
        exact k32
    exact kk)
  obtain ⟨fs, hr, hrun, hended, hW, hsame⟩ := X0.leave (v := some (.int (v5_2_s0 p0 p1))) (fun h => by rw [Bd.returns] at h; cases h)
  refine ⟨_, _, k33 _ ?_, hrun, hended, _, _, rfl, ?_, ⟨_, rfl⟩, hW, hsame.mono (by decide) (by decide)⟩
  · show Steps p.tables e below (s₁.setTop (mkF m 19 #[.val (.int p0), .val (.int p1)] [(.int (v5_2_s0 p0 p1))])) _
    exact retI X0 hx Bd.returns (hb hby d5_19) hr
  · show Q5 Z p0 p1 h0 n0 _ s₁.heap _
    rw [e0]
    exact ⟨rfl, N0, rfl⟩
theorem pd_1 : parseMethodDescriptor "(II)I" = some ⟨[.int, .int], some .int⟩ := by decide +kernel
theorem d4_0 : decode prog_95_method_2_code 0 = .ok (.aload_n 0, 1) := by decide +kernel
theorem d4_1 : decode prog_95_method_2_code 1 = .ok (.getfield 7, 3) := by decide +kernel
theorem d4_4 : decode prog_95_method_2_code 4 = .ok (.aload_n 1, 1) := by decide +kernel
theorem d4_5 : decode prog_95_method_2_code 5 = .ok (.getfield 7, 3) := by decide +kernel
theorem d4_8 : decode prog_95_method_2_code 8 = .ok (.if_icmp .eq 15, 3) := by decide +kernel
theorem d4_11 : decode prog_95_method_2_code 11 = .ok (.aload_n 0, 1) := by decide +kernel
theorem d4_12 : decode prog_95_method_2_code 12 = .ok (.getfield 7, 3) := by decide +kernel
theorem d4_15 : decode prog_95_method_2_code 15 = .ok (.aload_n 1, 1) := by decide +kernel
theorem d4_16 : decode prog_95_method_2_code 16 = .ok (.getfield 7, 3) := by decide +kernel
theorem d4_19 : decode prog_95_method_2_code 19 = .ok (.invokestatic 23, 3) := by decide +kernel
theorem d4_22 : decode prog_95_method_2_code 22 = .ok (.ireturn, 1) := by decide +kernel
theorem d4_23 : decode prog_95_method_2_code 23 = .ok (.aload_n 0, 1) := by decide +kernel
theorem d4_24 : decode prog_95_method_2_code 24 = .ok (.getfield 17, 3) := by decide +kernel
theorem d4_27 : decode prog_95_method_2_code 27 = .ok (.aload_n 1, 1) := by decide +kernel
theorem d4_28 : decode prog_95_method_2_code 28 = .ok (.getfield 17, 3) := by decide +kernel
theorem d4_31 : decode prog_95_method_2_code 31 = .ok (.if_icmp .eq 15, 3) := by decide +kernel
theorem d4_34 : decode prog_95_method_2_code 34 = .ok (.aload_n 0, 1) := by decide +kernel
theorem d4_35 : decode prog_95_method_2_code 35 = .ok (.getfield 17, 3) := by decide +kernel
theorem d4_38 : decode prog_95_method_2_code 38 = .ok (.aload_n 1, 1) := by decide +kernel
theorem d4_39 : decode prog_95_method_2_code 39 = .ok (.getfield 17, 3) := by decide +kernel
theorem d4_42 : decode prog_95_method_2_code 42 = .ok (.invokestatic 23, 3) := by decide +kernel
theorem d4_45 : decode prog_95_method_2_code 45 = .ok (.ireturn, 1) := by decide +kernel
theorem d4_46 : decode prog_95_method_2_code 46 = .ok (.aload_n 0, 1) := by decide +kernel
theorem d4_47 : decode prog_95_method_2_code 47 = .ok (.getfield 20, 3) := by decide +kernel
theorem d4_50 : decode prog_95_method_2_code 50 = .ok (.aload_n 1, 1) := by decide +kernel
theorem d4_51 : decode prog_95_method_2_code 51 = .ok (.getfield 20, 3) := by decide +kernel
theorem d4_54 : decode prog_95_method_2_code 54 = .ok (.invokestatic 23, 3) := by decide +kernel
theorem d4_57 : decode prog_95_method_2_code 57 = .ok (.ireturn, 1) := by decide +kernel
def v4_ret (w_fileIndex_ra0 : Int32) (w_fileIndex_ra1 : Int32) (w_line_ra0 : Int32) (w_line_ra1 : Int32) (w_column_ra0 : Int32) (w_column_ra1 : Int32) : Int32 := (if w_fileIndex_ra0 = w_fileIndex_ra1 then (if w_line_ra0 = w_line_ra1 then (v5_2_s0 w_column_ra0 w_column_ra1) else (v5_2_s0 w_line_ra0 w_line_ra1)) else (v5_2_s0 w_fileIndex_ra0 w_fileIndex_ra1))
theorem ef_rm4 (m : MethodId) (ra0 : Addr) (ra1 : Addr) : entryFrame m #[(.ref ra0), (.ref ra1)] 2 = mkF m 0 #[.val (.ref ra0), .val (.ref ra1)] [] := by first | (simp [entryFrame, mkF, argsToLocals, Value.category]; done) | rfl
def Q4 (Z : State) (ra0 : Addr) (ra1 : Addr) (w_fileIndex_ra0 : Int32) (w_fileIndex_ra1 : Int32) (w_line_ra0 : Int32) (w_line_ra1 : Int32) (w_column_ra0 : Int32) (w_column_ra1 : Int32) (h0 : Heap) (n0 : Nat) (v : Option Value) (h : Heap) (L : List Loc) : Prop := v = some (.int (v4_ret w_fileIndex_ra0 w_fileIndex_ra1 w_line_ra0 w_line_ra1 w_column_ra0 w_column_ra1)) ∧ Fr n0 L ∧ h = h0
set_option maxRecDepth 65536 in
set_option maxHeartbeats 40000000 in
theorem rm4 (l : Launch) (Z : State) (a0 : Array Value) (hw : ∀ d ∈ tables_1, d.before a0 Z = true) (ws : List Jvm.Cond) (ra0 : Addr) (ra1 : Addr) (w_fileIndex_ra0 : Int32) (w_fileIndex_ra1 : Int32) (w_line_ra0 : Int32) (w_line_ra1 : Int32) (w_column_ra0 : Int32) (w_column_ra1 : Int32) (h0 : Heap) (n0 : Nat) (Z0 : n0 ≤ h0.size) (F_fileIndex_ra0 : Fld Z h0 ra0 "com/example/protoscope/protoscope/source/SourcePosition" "fileIndex" "I" (.int w_fileIndex_ra0)) (F_fileIndex_ra1 : Fld Z h0 ra1 "com/example/protoscope/protoscope/source/SourcePosition" "fileIndex" "I" (.int w_fileIndex_ra1)) (F_line_ra0 : Fld Z h0 ra0 "com/example/protoscope/protoscope/source/SourcePosition" "line" "I" (.int w_line_ra0)) (F_line_ra1 : Fld Z h0 ra1 "com/example/protoscope/protoscope/source/SourcePosition" "line" "I" (.int w_line_ra1)) (F_column_ra0 : Fld Z h0 ra0 "com/example/protoscope/protoscope/source/SourcePosition" "column" "I" (.int w_column_ra0)) (F_column_ra1 : Fld Z h0 ra1 "com/example/protoscope/protoscope/source/SourcePosition" "column" "I" (.int w_column_ra1)) :
    MetFree l (⟨"com/example/protoscope/protoscope/source/SourcePosition", "compareTo", "(Lcom/example/protoscope/protoscope/source/SourcePosition;)I"⟩ : MethodName) (head1 (Jvm.Cond.code (⟨"com/example/protoscope/protoscope/source/SourcePosition", "compareTo", "(Lcom/example/protoscope/protoscope/source/SourcePosition;)I"⟩ : MethodName) prog_95_method_2_code 2 (some .int) :: ws) ({ frames := 1, cells := 0, slots := 0, locals := 13 } : Room)) (fun a U => a = #[(.ref ra0), (.ref ra1)] ∧ Z.Warmed39 U.vm ∧ U.heap = h0) (fun _ _ _ _ _ => True) (fun _ U o U' => ∃ v L, o = .returned v ∧ Q4 Z ra0 ra1 w_fileIndex_ra0 w_fileIndex_ra1 w_line_ra0 w_line_ra1 w_column_ra0 w_column_ra1 h0 n0 v U'.heap L ∧ FrameEnd U o U' L ({ frames := 1, cells := 0, slots := 0, locals := 13 } : Room).cells ({ frames := 1, cells := 0, slots := 0, locals := 13 } : Room).slots) := by
  refine MetFree.of_bodySF (plainFor_of_name pn_22) hisR ?_
  intro p e s m args below meth c s₁ Bd hml0 hP hK
  obtain ⟨rfl, hZ, hh⟩ := hP
  have hx := Bd.exec
  have hby := Bd.bytes
  have hml : c.maxLocals = 2 := hml0
  have hown : s.vm.findClass "com/example/protoscope/protoscope/source/SourcePosition" = some m.cls := findClass_of_methodNamed Bd.named
  have hnm := (name_of_methodNamed Bd.named Bd.method).1
  have X0 : Stand p l e ({ frames := 1, cells := 0, slots := 0, locals := 13 } : Room) s m #[(.ref ra0), (.ref ra1)] below meth c s₁ [] 0 0 := Stand.of_body Bd
  have e0 : s₁.heap = h0 := by rw [← hh, Bd.state]; rfl
  have N0 := Fr.nil n0
  have KC0 := Keep.refl h0 ([] : List Addr)
  have pre0 : ∀ t, Steps p.tables e below (s₁.setTop (mkF m 0 #[.val (.ref ra0), .val (.ref ra1)] [])) t → Steps p.tables e below (s₁.setTop (entryFrame m #[(.ref ra0), (.ref ra1)] 2)) t := fun t k => castTop (ef_rm4 m ra0 ra1) k
  have k34 := fun (t : State) (kk : Steps p.tables e below (s₁.setTop (mkF m 1 #[.val (.ref ra0), .val (.ref ra1)] [(.ref ra0)])) t) => pre0 t (by
    show Steps p.tables e below (s₁.setTop (mkF m 0 #[.val (.ref ra0), .val (.ref ra1)] [])) _
    refine XS.aloadN X0.here hx rfl (hb hby d4_0) rfl rfl ?_
    exact kk)
  obtain ⟨T35, X35, e35, st35⟩ := getF X0 hx hZ hown (host := "") (Or.inl (hw _ (List.mem_of_getElem? (i := 22) rfl))) Via.refl e0 F_fileIndex_ra0 (g := (mkF m 1 #[.val (.ref ra0), .val (.ref ra1)] [(.ref ra0)])) rfl rfl (hb hby d4_1)
  have k36 := fun (t : State) (kk : Steps p.tables e below (T35.setTop (mkF m 4 #[.val (.ref ra0), .val (.ref ra1)] [(.int w_fileIndex_ra0)])) t) => k34 t (st35 _ kk)
  have k37 := fun (t : State) (kk : Steps p.tables e below (T35.setTop (mkF m 5 #[.val (.ref ra0), .val (.ref ra1)] [(.ref ra1), (.int w_fileIndex_ra0)])) t) => k36 t (by
    show Steps p.tables e below (T35.setTop (mkF m 4 #[.val (.ref ra0), .val (.ref ra1)] [(.int w_fileIndex_ra0)])) _
    refine XS.aloadN X35.here hx rfl (hb hby d4_4) rfl rfl ?_
    exact kk)
  obtain ⟨T38, X38, e38, st38⟩ := getF X35 hx hZ hown (host := "") (Or.inl (hw _ (List.mem_of_getElem? (i := 22) rfl))) Via.refl e35 F_fileIndex_ra1 (g := (mkF m 5 #[.val (.ref ra0), .val (.ref ra1)] [(.ref ra1), (.int w_fileIndex_ra0)])) rfl rfl (hb hby d4_5)
  have k39 := fun (t : State) (kk : Steps p.tables e below (T38.setTop (mkF m 8 #[.val (.ref ra0), .val (.ref ra1)] [(.int w_fileIndex_ra1), (.int w_fileIndex_ra0)])) t) => k37 t (st38 _ kk)
  by_cases hc8_40 : w_fileIndex_ra0 = w_fileIndex_ra1
  · have k41 := fun (t : State) (kk : Steps p.tables e below (T38.setTop (mkF m 24 #[.val (.ref ra0), .val (.ref ra1)] [(.ref ra0)])) t) => k39 t (by
      show Steps p.tables e below (T38.setTop (mkF m 8 #[.val (.ref ra0), .val (.ref ra1)] [(.int w_fileIndex_ra1), (.int w_fileIndex_ra0)])) _
      refine XS.icmpYes X38.here hx rfl (pc0 := 8) (pc' := 23) rfl (hb hby d4_8) rfl (teq hc8_40).1 (by decide) (by decide) ?_
      show Steps p.tables e below (T38.setTop (mkF m 23 #[.val (.ref ra0), .val (.ref ra1)] [])) _
      refine XS.aloadN X38.here hx rfl (hb hby d4_23) rfl rfl ?_
      exact kk)
    obtain ⟨T42, X42, e42, st42⟩ := getF X38 hx hZ hown (host := "") (Or.inl (hw _ (List.mem_of_getElem? (i := 26) rfl))) Via.refl e38 F_line_ra0 (g := (mkF m 24 #[.val (.ref ra0), .val (.ref ra1)] [(.ref ra0)])) rfl rfl (hb hby d4_24)
    have k43 := fun (t : State) (kk : Steps p.tables e below (T42.setTop (mkF m 27 #[.val (.ref ra0), .val (.ref ra1)] [(.int w_line_ra0)])) t) => k41 t (st42 _ kk)
    have k44 := fun (t : State) (kk : Steps p.tables e below (T42.setTop (mkF m 28 #[.val (.ref ra0), .val (.ref ra1)] [(.ref ra1), (.int w_line_ra0)])) t) => k43 t (by
      show Steps p.tables e below (T42.setTop (mkF m 27 #[.val (.ref ra0), .val (.ref ra1)] [(.int w_line_ra0)])) _
      refine XS.aloadN X42.here hx rfl (hb hby d4_27) rfl rfl ?_
      exact kk)
    obtain ⟨T45, X45, e45, st45⟩ := getF X42 hx hZ hown (host := "") (Or.inl (hw _ (List.mem_of_getElem? (i := 26) rfl))) Via.refl e42 F_line_ra1 (g := (mkF m 28 #[.val (.ref ra0), .val (.ref ra1)] [(.ref ra1), (.int w_line_ra0)])) rfl rfl (hb hby d4_28)
    have k46 := fun (t : State) (kk : Steps p.tables e below (T45.setTop (mkF m 31 #[.val (.ref ra0), .val (.ref ra1)] [(.int w_line_ra1), (.int w_line_ra0)])) t) => k44 t (st45 _ kk)
    by_cases hc31_47 : w_line_ra0 = w_line_ra1
    · have k48 := fun (t : State) (kk : Steps p.tables e below (T45.setTop (mkF m 47 #[.val (.ref ra0), .val (.ref ra1)] [(.ref ra0)])) t) => k46 t (by
        show Steps p.tables e below (T45.setTop (mkF m 31 #[.val (.ref ra0), .val (.ref ra1)] [(.int w_line_ra1), (.int w_line_ra0)])) _
        refine XS.icmpYes X45.here hx rfl (pc0 := 31) (pc' := 46) rfl (hb hby d4_31) rfl (teq hc31_47).1 (by decide) (by decide) ?_
        show Steps p.tables e below (T45.setTop (mkF m 46 #[.val (.ref ra0), .val (.ref ra1)] [])) _
        refine XS.aloadN X45.here hx rfl (hb hby d4_46) rfl rfl ?_
        exact kk)
      obtain ⟨T49, X49, e49, st49⟩ := getF X45 hx hZ hown (host := "") (Or.inl (hw _ (List.mem_of_getElem? (i := 28) rfl))) Via.refl e45 F_column_ra0 (g := (mkF m 47 #[.val (.ref ra0), .val (.ref ra1)] [(.ref ra0)])) rfl rfl (hb hby d4_47)
      have k50 := fun (t : State) (kk : Steps p.tables e below (T49.setTop (mkF m 50 #[.val (.ref ra0), .val (.ref ra1)] [(.int w_column_ra0)])) t) => k48 t (st49 _ kk)
      have k51 := fun (t : State) (kk : Steps p.tables e below (T49.setTop (mkF m 51 #[.val (.ref ra0), .val (.ref ra1)] [(.ref ra1), (.int w_column_ra0)])) t) => k50 t (by
        show Steps p.tables e below (T49.setTop (mkF m 50 #[.val (.ref ra0), .val (.ref ra1)] [(.int w_column_ra0)])) _
        refine XS.aloadN X49.here hx rfl (hb hby d4_50) rfl rfl ?_
        exact kk)
      obtain ⟨T52, X52, e52, st52⟩ := getF X49 hx hZ hown (host := "") (Or.inl (hw _ (List.mem_of_getElem? (i := 28) rfl))) Via.refl e49 F_column_ra1 (g := (mkF m 51 #[.val (.ref ra0), .val (.ref ra1)] [(.ref ra1), (.int w_column_ra0)])) rfl rfl (hb hby d4_51)
      have k53 := fun (t : State) (kk : Steps p.tables e below (T52.setTop (mkF m 54 #[.val (.ref ra0), .val (.ref ra1)] [(.int w_column_ra1), (.int w_column_ra0)])) t) => k51 t (st52 _ kk)
      have Zz54 : n0 ≤ h0.size := (Nat.le_trans Z0 KC0.1)
      obtain ⟨_, _, ⟨T54, L54, k54, n54⟩, -, X54, ⟨Lc54, hQ54, l54, y54, z54⟩, st54⟩ := Jvm.LawKit.callS X52 hx (y := (⟨"java/lang/Integer", "compare", "(II)I"⟩ : MethodName)) hown (mvT hZ (hw _ (List.mem_of_getElem? (i := 36) rfl))) (mvT hZ (hw _ (List.mem_of_getElem? (i := 37) rfl))) (mvT hZ (hw _ (List.mem_of_getElem? (i := 38) rfl))) (mvT hZ (hw _ (List.mem_of_getElem? (i := 39) rfl))) (by decide) (backOf (W := 0) (rm5 l Z a0 hw [] w_column_ra0 w_column_ra1 h0 n0 Zz54) hZ (hw _ (List.mem_of_getElem? (i := 39) rfl)) (hw _ (List.mem_of_getElem? (i := 38) rfl)) (by decide) (by decide)) (g := (mkF m 54 #[.val (.ref ra0), .val (.ref ra1)] [(.int w_column_ra1), (.int w_column_ra0)])) rfl (by rw [hml]; rfl) (argsL := [(.int w_column_ra0), (.int w_column_ra1)]) (rest := []) (lenOf pd_1 rfl) rfl (by show 2 * 0 + _ ≤ _; exact Nat.le_of_eq rfl) (hb hby d4_54) (fun _ _ => ⟨rfl, e52, (by decide : 0 + 0 ≤ _), (by decide : 0 + 0 ≤ _)⟩)
      dsimp only [Pt.U, Pt.locs, Pt.cells, Pt.slots] at X54 l54 y54 z54 st54 hQ54
      subst l54 y54 z54
      obtain ⟨rfl, N54q, e54⟩ := hQ54
      have N54 := Fr.app N0 N54q
      have k55 := fun (t : State) (kk : Steps p.tables e below (T54.setTop (mkF m 57 #[.val (.ref ra0), .val (.ref ra1)] [(.int (v5_2_s0 w_column_ra0 w_column_ra1))])) t) => k53 t (st54 _ kk)
      obtain ⟨fs, hr, hrun, hended, hW, hsame⟩ := X54.leave (v := some (.int (v5_2_s0 w_column_ra0 w_column_ra1))) (fun h => by rw [Bd.returns] at h; cases h)
      have hv : (v4_ret w_fileIndex_ra0 w_fileIndex_ra1 w_line_ra0 w_line_ra1 w_column_ra0 w_column_ra1) = (v5_2_s0 w_column_ra0 w_column_ra1) := ((if_pos hc8_40).trans (if_pos hc31_47))
      refine ⟨_, _, k55 _ ?_, hrun, hended, _, _, rfl, ?_, ⟨_, rfl⟩, hW, hsame.mono (by decide) (by decide)⟩
      · show Steps p.tables e below (T54.setTop (mkF m 57 #[.val (.ref ra0), .val (.ref ra1)] [(.int (v5_2_s0 w_column_ra0 w_column_ra1))])) _
        exact retI X54 hx Bd.returns (hb hby d4_57) hr
      · show Q4 Z ra0 ra1 w_fileIndex_ra0 w_fileIndex_ra1 w_line_ra0 w_line_ra1 w_column_ra0 w_column_ra1 h0 n0 _ T54.heap _
        rw [e54]
        exact ⟨(congrArg (fun z => some (Value.int z)) hv).symm, N54, rfl⟩
    · have k56 := fun (t : State) (kk : Steps p.tables e below (T45.setTop (mkF m 35 #[.val (.ref ra0), .val (.ref ra1)] [(.ref ra0)])) t) => k46 t (by
        show Steps p.tables e below (T45.setTop (mkF m 31 #[.val (.ref ra0), .val (.ref ra1)] [(.int w_line_ra1), (.int w_line_ra0)])) _
        refine XS.icmpNo X45.here hx rfl (hb hby d4_31) rfl (feq hc31_47).1 ?_
        show Steps p.tables e below (T45.setTop (mkF m 34 #[.val (.ref ra0), .val (.ref ra1)] [])) _
        refine XS.aloadN X45.here hx rfl (hb hby d4_34) rfl rfl ?_
        exact kk)
      obtain ⟨T57, X57, e57, st57⟩ := getF X45 hx hZ hown (host := "") (Or.inl (hw _ (List.mem_of_getElem? (i := 26) rfl))) Via.refl e45 F_line_ra0 (g := (mkF m 35 #[.val (.ref ra0), .val (.ref ra1)] [(.ref ra0)])) rfl rfl (hb hby d4_35)
      have k58 := fun (t : State) (kk : Steps p.tables e below (T57.setTop (mkF m 38 #[.val (.ref ra0), .val (.ref ra1)] [(.int w_line_ra0)])) t) => k56 t (st57 _ kk)
      have k59 := fun (t : State) (kk : Steps p.tables e below (T57.setTop (mkF m 39 #[.val (.ref ra0), .val (.ref ra1)] [(.ref ra1), (.int w_line_ra0)])) t) => k58 t (by
        show Steps p.tables e below (T57.setTop (mkF m 38 #[.val (.ref ra0), .val (.ref ra1)] [(.int w_line_ra0)])) _
        refine XS.aloadN X57.here hx rfl (hb hby d4_38) rfl rfl ?_
        exact kk)
      obtain ⟨T60, X60, e60, st60⟩ := getF X57 hx hZ hown (host := "") (Or.inl (hw _ (List.mem_of_getElem? (i := 26) rfl))) Via.refl e57 F_line_ra1 (g := (mkF m 39 #[.val (.ref ra0), .val (.ref ra1)] [(.ref ra1), (.int w_line_ra0)])) rfl rfl (hb hby d4_39)
      have k61 := fun (t : State) (kk : Steps p.tables e below (T60.setTop (mkF m 42 #[.val (.ref ra0), .val (.ref ra1)] [(.int w_line_ra1), (.int w_line_ra0)])) t) => k59 t (st60 _ kk)
      have Zz62 : n0 ≤ h0.size := (Nat.le_trans Z0 KC0.1)
      obtain ⟨_, _, ⟨T62, L62, k62, n62⟩, -, X62, ⟨Lc62, hQ62, l62, y62, z62⟩, st62⟩ := Jvm.LawKit.callS X60 hx (y := (⟨"java/lang/Integer", "compare", "(II)I"⟩ : MethodName)) hown (mvT hZ (hw _ (List.mem_of_getElem? (i := 36) rfl))) (mvT hZ (hw _ (List.mem_of_getElem? (i := 37) rfl))) (mvT hZ (hw _ (List.mem_of_getElem? (i := 38) rfl))) (mvT hZ (hw _ (List.mem_of_getElem? (i := 39) rfl))) (by decide) (backOf (W := 0) (rm5 l Z a0 hw [] w_line_ra0 w_line_ra1 h0 n0 Zz62) hZ (hw _ (List.mem_of_getElem? (i := 39) rfl)) (hw _ (List.mem_of_getElem? (i := 38) rfl)) (by decide) (by decide)) (g := (mkF m 42 #[.val (.ref ra0), .val (.ref ra1)] [(.int w_line_ra1), (.int w_line_ra0)])) rfl (by rw [hml]; rfl) (argsL := [(.int w_line_ra0), (.int w_line_ra1)]) (rest := []) (lenOf pd_1 rfl) rfl (by show 2 * 0 + _ ≤ _; exact Nat.le_of_eq rfl) (hb hby d4_42) (fun _ _ => ⟨rfl, e60, (by decide : 0 + 0 ≤ _), (by decide : 0 + 0 ≤ _)⟩)
      dsimp only [Pt.U, Pt.locs, Pt.cells, Pt.slots] at X62 l62 y62 z62 st62 hQ62
      subst l62 y62 z62
      obtain ⟨rfl, N62q, e62⟩ := hQ62
      have N62 := Fr.app N0 N62q
      have k63 := fun (t : State) (kk : Steps p.tables e below (T62.setTop (mkF m 45 #[.val (.ref ra0), .val (.ref ra1)] [(.int (v5_2_s0 w_line_ra0 w_line_ra1))])) t) => k61 t (st62 _ kk)
      obtain ⟨fs, hr, hrun, hended, hW, hsame⟩ := X62.leave (v := some (.int (v5_2_s0 w_line_ra0 w_line_ra1))) (fun h => by rw [Bd.returns] at h; cases h)
      have hv : (v4_ret w_fileIndex_ra0 w_fileIndex_ra1 w_line_ra0 w_line_ra1 w_column_ra0 w_column_ra1) = (v5_2_s0 w_line_ra0 w_line_ra1) := ((if_pos hc8_40).trans (if_neg hc31_47))
      refine ⟨_, _, k63 _ ?_, hrun, hended, _, _, rfl, ?_, ⟨_, rfl⟩, hW, hsame.mono (by decide) (by decide)⟩
      · show Steps p.tables e below (T62.setTop (mkF m 45 #[.val (.ref ra0), .val (.ref ra1)] [(.int (v5_2_s0 w_line_ra0 w_line_ra1))])) _
        exact retI X62 hx Bd.returns (hb hby d4_45) hr
      · show Q4 Z ra0 ra1 w_fileIndex_ra0 w_fileIndex_ra1 w_line_ra0 w_line_ra1 w_column_ra0 w_column_ra1 h0 n0 _ T62.heap _
        rw [e62]
        exact ⟨(congrArg (fun z => some (Value.int z)) hv).symm, N62, rfl⟩
  · have k64 := fun (t : State) (kk : Steps p.tables e below (T38.setTop (mkF m 12 #[.val (.ref ra0), .val (.ref ra1)] [(.ref ra0)])) t) => k39 t (by
      show Steps p.tables e below (T38.setTop (mkF m 8 #[.val (.ref ra0), .val (.ref ra1)] [(.int w_fileIndex_ra1), (.int w_fileIndex_ra0)])) _
      refine XS.icmpNo X38.here hx rfl (hb hby d4_8) rfl (feq hc8_40).1 ?_
      show Steps p.tables e below (T38.setTop (mkF m 11 #[.val (.ref ra0), .val (.ref ra1)] [])) _
      refine XS.aloadN X38.here hx rfl (hb hby d4_11) rfl rfl ?_
      exact kk)
    obtain ⟨T65, X65, e65, st65⟩ := getF X38 hx hZ hown (host := "") (Or.inl (hw _ (List.mem_of_getElem? (i := 22) rfl))) Via.refl e38 F_fileIndex_ra0 (g := (mkF m 12 #[.val (.ref ra0), .val (.ref ra1)] [(.ref ra0)])) rfl rfl (hb hby d4_12)
    have k66 := fun (t : State) (kk : Steps p.tables e below (T65.setTop (mkF m 15 #[.val (.ref ra0), .val (.ref ra1)] [(.int w_fileIndex_ra0)])) t) => k64 t (st65 _ kk)
    have k67 := fun (t : State) (kk : Steps p.tables e below (T65.setTop (mkF m 16 #[.val (.ref ra0), .val (.ref ra1)] [(.ref ra1), (.int w_fileIndex_ra0)])) t) => k66 t (by
      show Steps p.tables e below (T65.setTop (mkF m 15 #[.val (.ref ra0), .val (.ref ra1)] [(.int w_fileIndex_ra0)])) _
      refine XS.aloadN X65.here hx rfl (hb hby d4_15) rfl rfl ?_
      exact kk)
    obtain ⟨T68, X68, e68, st68⟩ := getF X65 hx hZ hown (host := "") (Or.inl (hw _ (List.mem_of_getElem? (i := 22) rfl))) Via.refl e65 F_fileIndex_ra1 (g := (mkF m 16 #[.val (.ref ra0), .val (.ref ra1)] [(.ref ra1), (.int w_fileIndex_ra0)])) rfl rfl (hb hby d4_16)
    have k69 := fun (t : State) (kk : Steps p.tables e below (T68.setTop (mkF m 19 #[.val (.ref ra0), .val (.ref ra1)] [(.int w_fileIndex_ra1), (.int w_fileIndex_ra0)])) t) => k67 t (st68 _ kk)
    have Zz70 : n0 ≤ h0.size := (Nat.le_trans Z0 KC0.1)
    obtain ⟨_, _, ⟨T70, L70, k70, n70⟩, -, X70, ⟨Lc70, hQ70, l70, y70, z70⟩, st70⟩ := Jvm.LawKit.callS X68 hx (y := (⟨"java/lang/Integer", "compare", "(II)I"⟩ : MethodName)) hown (mvT hZ (hw _ (List.mem_of_getElem? (i := 36) rfl))) (mvT hZ (hw _ (List.mem_of_getElem? (i := 37) rfl))) (mvT hZ (hw _ (List.mem_of_getElem? (i := 38) rfl))) (mvT hZ (hw _ (List.mem_of_getElem? (i := 39) rfl))) (by decide) (backOf (W := 0) (rm5 l Z a0 hw [] w_fileIndex_ra0 w_fileIndex_ra1 h0 n0 Zz70) hZ (hw _ (List.mem_of_getElem? (i := 39) rfl)) (hw _ (List.mem_of_getElem? (i := 38) rfl)) (by decide) (by decide)) (g := (mkF m 19 #[.val (.ref ra0), .val (.ref ra1)] [(.int w_fileIndex_ra1), (.int w_fileIndex_ra0)])) rfl (by rw [hml]; rfl) (argsL := [(.int w_fileIndex_ra0), (.int w_fileIndex_ra1)]) (rest := []) (lenOf pd_1 rfl) rfl (by show 2 * 0 + _ ≤ _; exact Nat.le_of_eq rfl) (hb hby d4_19) (fun _ _ => ⟨rfl, e68, (by decide : 0 + 0 ≤ _), (by decide : 0 + 0 ≤ _)⟩)
    dsimp only [Pt.U, Pt.locs, Pt.cells, Pt.slots] at X70 l70 y70 z70 st70 hQ70
    subst l70 y70 z70
    obtain ⟨rfl, N70q, e70⟩ := hQ70
    have N70 := Fr.app N0 N70q
    have k71 := fun (t : State) (kk : Steps p.tables e below (T70.setTop (mkF m 22 #[.val (.ref ra0), .val (.ref ra1)] [(.int (v5_2_s0 w_fileIndex_ra0 w_fileIndex_ra1))])) t) => k69 t (st70 _ kk)
    obtain ⟨fs, hr, hrun, hended, hW, hsame⟩ := X70.leave (v := some (.int (v5_2_s0 w_fileIndex_ra0 w_fileIndex_ra1))) (fun h => by rw [Bd.returns] at h; cases h)
    have hv : (v4_ret w_fileIndex_ra0 w_fileIndex_ra1 w_line_ra0 w_line_ra1 w_column_ra0 w_column_ra1) = (v5_2_s0 w_fileIndex_ra0 w_fileIndex_ra1) := (if_neg hc8_40)
    refine ⟨_, _, k71 _ ?_, hrun, hended, _, _, rfl, ?_, ⟨_, rfl⟩, hW, hsame.mono (by decide) (by decide)⟩
    · show Steps p.tables e below (T70.setTop (mkF m 22 #[.val (.ref ra0), .val (.ref ra1)] [(.int (v5_2_s0 w_fileIndex_ra0 w_fileIndex_ra1))])) _
      exact retI X70 hx Bd.returns (hb hby d4_22) hr
    · show Q4 Z ra0 ra1 w_fileIndex_ra0 w_fileIndex_ra1 w_line_ra0 w_line_ra1 w_column_ra0 w_column_ra1 h0 n0 _ T70.heap _
      rw [e70]
      exact ⟨(congrArg (fun z => some (Value.int z)) hv).symm, N70, rfl⟩
theorem d6_0 : decode method_2_code 0 = .ok (.iload_n 0, 1) := by decide +kernel
theorem d6_1 : decode method_2_code 1 = .ok (.ifCond .ge 5, 3) := by decide +kernel
theorem d6_4 : decode method_2_code 4 = .ok (.iconst (-1), 1) := by decide +kernel
theorem d6_5 : decode method_2_code 5 = .ok (.ireturn, 1) := by decide +kernel
theorem d6_6 : decode method_2_code 6 = .ok (.iload_n 0, 1) := by decide +kernel
theorem d6_7 : decode method_2_code 7 = .ok (.ifCond .le 5, 3) := by decide +kernel
theorem d6_10 : decode method_2_code 10 = .ok (.iconst 1, 1) := by decide +kernel
theorem d6_11 : decode method_2_code 11 = .ok (.ireturn, 1) := by decide +kernel
theorem d6_12 : decode method_2_code 12 = .ok (.iconst 0, 1) := by decide +kernel
theorem d6_13 : decode method_2_code 13 = .ok (.ireturn, 1) := by decide +kernel
theorem pn_81 : plainName "com/example/protoscope/protoscope/source/SourcePositionCompareToPinLaw" = true := by first | (simp [plainName, overriddenIn]; done) | decide +kernel
def v6_ret (p0 : Int32) : Int32 := (if p0 < (0 : Int32) then (-1 : Int32) else (if (0 : Int32) < p0 then (1 : Int32) else (0 : Int32)))
theorem ef_rm6 (m : MethodId) (p0 : Int32) : entryFrame m #[(.int p0)] 1 = mkF m 0 #[.val (.int p0)] [] := by first | (simp [entryFrame, mkF, argsToLocals, Value.category]; done) | rfl
def Q6 (Z : State) (p0 : Int32) (h0 : Heap) (n0 : Nat) (v : Option Value) (h : Heap) (L : List Loc) : Prop := v = some (.int (v6_ret p0)) ∧ Fr n0 L ∧ h = h0
set_option maxRecDepth 65536 in
set_option maxHeartbeats 40000000 in
theorem rm6 (l : Launch) (Z : State) (a0 : Array Value) (hw : ∀ d ∈ tables_1, d.before a0 Z = true) (ws : List Jvm.Cond) (p0 : Int32) (h0 : Heap) (n0 : Nat) (Z0 : n0 ≤ h0.size) :
    MetFree l (⟨"com/example/protoscope/protoscope/source/SourcePositionCompareToPinLaw", "sign", "(I)I"⟩ : MethodName) (head1 (Jvm.Cond.code (⟨"com/example/protoscope/protoscope/source/SourcePositionCompareToPinLaw", "sign", "(I)I"⟩ : MethodName) method_2_code 1 (some .int) :: ws) ({ frames := 0, cells := 0, slots := 0, locals := 0 } : Room)) (fun a U => a = #[(.int p0)] ∧ Z.Warmed39 U.vm ∧ U.heap = h0) (fun _ _ _ _ _ => True) (fun _ U o U' => ∃ v L, o = .returned v ∧ Q6 Z p0 h0 n0 v U'.heap L ∧ FrameEnd U o U' L ({ frames := 0, cells := 0, slots := 0, locals := 0 } : Room).cells ({ frames := 0, cells := 0, slots := 0, locals := 0 } : Room).slots) := by
  refine MetFree.of_bodySF (plainFor_of_name pn_81) hisR ?_
  intro p e s m args below meth c s₁ Bd hml0 hP hK
  obtain ⟨rfl, hZ, hh⟩ := hP
  have hx := Bd.exec
  have hby := Bd.bytes
  have hml : c.maxLocals = 1 := hml0
  have hown : s.vm.findClass "com/example/protoscope/protoscope/source/SourcePositionCompareToPinLaw" = some m.cls := findClass_of_methodNamed Bd.named
  have hnm := (name_of_methodNamed Bd.named Bd.method).1
  have X0 : Stand p l e ({ frames := 0, cells := 0, slots := 0, locals := 0 } : Room) s m #[(.int p0)] below meth c s₁ [] 0 0 := Stand.of_body Bd
  have e0 : s₁.heap = h0 := by rw [← hh, Bd.state]; rfl
  have N0 := Fr.nil n0
  have KC0 := Keep.refl h0 ([] : List Addr)
  have pre0 : ∀ t, Steps p.tables e below (s₁.setTop (mkF m 0 #[.val (.int p0)] [])) t → Steps p.tables e below (s₁.setTop (entryFrame m #[(.int p0)] 1)) t := fun t k => castTop (ef_rm6 m p0) k
  have k72 := fun (t : State) (kk : Steps p.tables e below (s₁.setTop (mkF m 1 #[.val (.int p0)] [(.int p0)])) t) => pre0 t (by
    show Steps p.tables e below (s₁.setTop (mkF m 0 #[.val (.int p0)] [])) _
    refine XS.iloadN X0.here hx rfl (hb hby d6_0) rfl ?_
    exact kk)
  by_cases hc1_73 : p0 < (0 : Int32)
  · have k74 := fun (t : State) (kk : Steps p.tables e below (s₁.setTop (mkF m 5 #[.val (.int p0)] [(.int (-1 : Int32))])) t) => k72 t (by
      show Steps p.tables e below (s₁.setTop (mkF m 1 #[.val (.int p0)] [(.int p0)])) _
      refine XS.ifNo X0.here hx rfl (hb hby d6_1) rfl ((if0 _ _).trans (tlt hc1_73).2.1) ?_
      show Steps p.tables e below (s₁.setTop (mkF m 4 #[.val (.int p0)] [])) _
      refine XS.iconst X0.here hx rfl (hb hby d6_4) ?_
      exact kk)
    obtain ⟨fs, hr, hrun, hended, hW, hsame⟩ := X0.leave (v := some (.int (-1 : Int32))) (fun h => by rw [Bd.returns] at h; cases h)
    have hv : (v6_ret p0) = (-1 : Int32) := (if_pos hc1_73)
    refine ⟨_, _, k74 _ ?_, hrun, hended, _, _, rfl, ?_, ⟨_, rfl⟩, hW, hsame.mono (by decide) (by decide)⟩
    · show Steps p.tables e below (s₁.setTop (mkF m 5 #[.val (.int p0)] [(.int (-1 : Int32))])) _
      exact retI X0 hx Bd.returns (hb hby d6_5) hr
    · show Q6 Z p0 h0 n0 _ s₁.heap _
      rw [e0]
      exact ⟨(congrArg (fun z => some (Value.int z)) hv).symm, N0, rfl⟩
  · have k75 := fun (t : State) (kk : Steps p.tables e below (s₁.setTop (mkF m 7 #[.val (.int p0)] [(.int p0)])) t) => k72 t (by
      show Steps p.tables e below (s₁.setTop (mkF m 1 #[.val (.int p0)] [(.int p0)])) _
      refine XS.ifYes X0.here hx rfl (pc0 := 1) (pc' := 6) rfl (hb hby d6_1) rfl ((if0 _ _).trans (flt hc1_73).2.1) (by decide) (by decide) ?_
      show Steps p.tables e below (s₁.setTop (mkF m 6 #[.val (.int p0)] [])) _
      refine XS.iloadN X0.here hx rfl (hb hby d6_6) rfl ?_
      exact kk)
    by_cases hc7_76 : (0 : Int32) < p0
    · have k77 := fun (t : State) (kk : Steps p.tables e below (s₁.setTop (mkF m 11 #[.val (.int p0)] [(.int (1 : Int32))])) t) => k75 t (by
        show Steps p.tables e below (s₁.setTop (mkF m 7 #[.val (.int p0)] [(.int p0)])) _
        refine XS.ifNo X0.here hx rfl (hb hby d6_7) rfl ((if0 _ _).trans (tlt hc7_76).2.2.2) ?_
        show Steps p.tables e below (s₁.setTop (mkF m 10 #[.val (.int p0)] [])) _
        refine XS.iconst X0.here hx rfl (hb hby d6_10) ?_
        exact kk)
      obtain ⟨fs, hr, hrun, hended, hW, hsame⟩ := X0.leave (v := some (.int (1 : Int32))) (fun h => by rw [Bd.returns] at h; cases h)
      have hv : (v6_ret p0) = (1 : Int32) := ((if_neg hc1_73).trans (if_pos hc7_76))
      refine ⟨_, _, k77 _ ?_, hrun, hended, _, _, rfl, ?_, ⟨_, rfl⟩, hW, hsame.mono (by decide) (by decide)⟩
      · show Steps p.tables e below (s₁.setTop (mkF m 11 #[.val (.int p0)] [(.int (1 : Int32))])) _
        exact retI X0 hx Bd.returns (hb hby d6_11) hr
      · show Q6 Z p0 h0 n0 _ s₁.heap _
        rw [e0]
        exact ⟨(congrArg (fun z => some (Value.int z)) hv).symm, N0, rfl⟩
    · have k78 := fun (t : State) (kk : Steps p.tables e below (s₁.setTop (mkF m 13 #[.val (.int p0)] [(.int (0 : Int32))])) t) => k75 t (by
        show Steps p.tables e below (s₁.setTop (mkF m 7 #[.val (.int p0)] [(.int p0)])) _
        refine XS.ifYes X0.here hx rfl (pc0 := 7) (pc' := 12) rfl (hb hby d6_7) rfl ((if0 _ _).trans (flt hc7_76).2.2.2) (by decide) (by decide) ?_
        show Steps p.tables e below (s₁.setTop (mkF m 12 #[.val (.int p0)] [])) _
        refine XS.iconst X0.here hx rfl (hb hby d6_12) ?_
        exact kk)
      obtain ⟨fs, hr, hrun, hended, hW, hsame⟩ := X0.leave (v := some (.int (0 : Int32))) (fun h => by rw [Bd.returns] at h; cases h)
      have hv : (v6_ret p0) = (0 : Int32) := ((if_neg hc1_73).trans (if_neg hc7_76))
      refine ⟨_, _, k78 _ ?_, hrun, hended, _, _, rfl, ?_, ⟨_, rfl⟩, hW, hsame.mono (by decide) (by decide)⟩
      · show Steps p.tables e below (s₁.setTop (mkF m 13 #[.val (.int p0)] [(.int (0 : Int32))])) _
        exact retI X0 hx Bd.returns (hb hby d6_13) hr
      · show Q6 Z p0 h0 n0 _ s₁.heap _
        rw [e0]
        exact ⟨(congrArg (fun z => some (Value.int z)) hv).symm, N0, rfl⟩
theorem d7_0 : decode method_3_code 0 = .ok (.iload_n 0, 1) := by decide +kernel
theorem d7_1 : decode method_3_code 1 = .ok (.iload_n 3, 1) := by decide +kernel
theorem d7_2 : decode method_3_code 2 = .ok (.if_icmp .ge 5, 3) := by decide +kernel
theorem d7_5 : decode method_3_code 5 = .ok (.iconst (-1), 1) := by decide +kernel
theorem d7_6 : decode method_3_code 6 = .ok (.ireturn, 1) := by decide +kernel
theorem d7_7 : decode method_3_code 7 = .ok (.iload_n 0, 1) := by decide +kernel
theorem d7_8 : decode method_3_code 8 = .ok (.iload_n 3, 1) := by decide +kernel
theorem d7_9 : decode method_3_code 9 = .ok (.if_icmp .le 5, 3) := by decide +kernel
theorem d7_12 : decode method_3_code 12 = .ok (.iconst 1, 1) := by decide +kernel
theorem d7_13 : decode method_3_code 13 = .ok (.ireturn, 1) := by decide +kernel
theorem d7_14 : decode method_3_code 14 = .ok (.iload_n 1, 1) := by decide +kernel
theorem d7_15 : decode method_3_code 15 = .ok (.iload 4, 2) := by decide +kernel
theorem d7_17 : decode method_3_code 17 = .ok (.if_icmp .ge 5, 3) := by decide +kernel
theorem d7_20 : decode method_3_code 20 = .ok (.iconst (-1), 1) := by decide +kernel
theorem d7_21 : decode method_3_code 21 = .ok (.ireturn, 1) := by decide +kernel
theorem d7_22 : decode method_3_code 22 = .ok (.iload_n 1, 1) := by decide +kernel
theorem d7_23 : decode method_3_code 23 = .ok (.iload 4, 2) := by decide +kernel
theorem d7_25 : decode method_3_code 25 = .ok (.if_icmp .le 5, 3) := by decide +kernel
theorem d7_28 : decode method_3_code 28 = .ok (.iconst 1, 1) := by decide +kernel
theorem d7_29 : decode method_3_code 29 = .ok (.ireturn, 1) := by decide +kernel
theorem d7_30 : decode method_3_code 30 = .ok (.iload_n 2, 1) := by decide +kernel
theorem d7_31 : decode method_3_code 31 = .ok (.iload 5, 2) := by decide +kernel
theorem d7_33 : decode method_3_code 33 = .ok (.if_icmp .ge 5, 3) := by decide +kernel
theorem d7_36 : decode method_3_code 36 = .ok (.iconst (-1), 1) := by decide +kernel
theorem d7_37 : decode method_3_code 37 = .ok (.ireturn, 1) := by decide +kernel
theorem d7_38 : decode method_3_code 38 = .ok (.iload_n 2, 1) := by decide +kernel
theorem d7_39 : decode method_3_code 39 = .ok (.iload 5, 2) := by decide +kernel
theorem d7_41 : decode method_3_code 41 = .ok (.if_icmp .le 5, 3) := by decide +kernel
theorem d7_44 : decode method_3_code 44 = .ok (.iconst 1, 1) := by decide +kernel
theorem d7_45 : decode method_3_code 45 = .ok (.ireturn, 1) := by decide +kernel
theorem d7_46 : decode method_3_code 46 = .ok (.iconst 0, 1) := by decide +kernel
theorem d7_47 : decode method_3_code 47 = .ok (.ireturn, 1) := by decide +kernel
def v7_ret (p0 : Int32) (p1 : Int32) (p2 : Int32) (p3 : Int32) (p4 : Int32) (p5 : Int32) : Int32 := (if p0 < p3 then (-1 : Int32) else (if p3 < p0 then (1 : Int32) else (if p1 < p4 then (-1 : Int32) else (if p4 < p1 then (1 : Int32) else (if p2 < p5 then (-1 : Int32) else (if p5 < p2 then (1 : Int32) else (0 : Int32)))))))
theorem ef_rm7 (m : MethodId) (p0 : Int32) (p1 : Int32) (p2 : Int32) (p3 : Int32) (p4 : Int32) (p5 : Int32) : entryFrame m #[(.int p0), (.int p1), (.int p2), (.int p3), (.int p4), (.int p5)] 6 = mkF m 0 #[.val (.int p0), .val (.int p1), .val (.int p2), .val (.int p3), .val (.int p4), .val (.int p5)] [] := by first | (simp [entryFrame, mkF, argsToLocals, Value.category]; done) | rfl
def Q7 (Z : State) (p0 : Int32) (p1 : Int32) (p2 : Int32) (p3 : Int32) (p4 : Int32) (p5 : Int32) (h0 : Heap) (n0 : Nat) (v : Option Value) (h : Heap) (L : List Loc) : Prop := v = some (.int (v7_ret p0 p1 p2 p3 p4 p5)) ∧ Fr n0 L ∧ h = h0
set_option maxRecDepth 65536 in
set_option maxHeartbeats 40000000 in
theorem rm7 (l : Launch) (Z : State) (a0 : Array Value) (hw : ∀ d ∈ tables_1, d.before a0 Z = true) (ws : List Jvm.Cond) (p0 : Int32) (p1 : Int32) (p2 : Int32) (p3 : Int32) (p4 : Int32) (p5 : Int32) (h0 : Heap) (n0 : Nat) (Z0 : n0 ≤ h0.size) :
    MetFree l (⟨"com/example/protoscope/protoscope/source/SourcePositionCompareToPinLaw", "expected", "(IIIIII)I"⟩ : MethodName) (head1 (Jvm.Cond.code (⟨"com/example/protoscope/protoscope/source/SourcePositionCompareToPinLaw", "expected", "(IIIIII)I"⟩ : MethodName) method_3_code 6 (some .int) :: ws) ({ frames := 0, cells := 0, slots := 0, locals := 0 } : Room)) (fun a U => a = #[(.int p0), (.int p1), (.int p2), (.int p3), (.int p4), (.int p5)] ∧ Z.Warmed39 U.vm ∧ U.heap = h0) (fun _ _ _ _ _ => True) (fun _ U o U' => ∃ v L, o = .returned v ∧ Q7 Z p0 p1 p2 p3 p4 p5 h0 n0 v U'.heap L ∧ FrameEnd U o U' L ({ frames := 0, cells := 0, slots := 0, locals := 0 } : Room).cells ({ frames := 0, cells := 0, slots := 0, locals := 0 } : Room).slots) := by
  refine MetFree.of_bodySF (plainFor_of_name pn_81) hisR ?_
  intro p e s m args below meth c s₁ Bd hml0 hP hK
  obtain ⟨rfl, hZ, hh⟩ := hP
  have hx := Bd.exec
  have hby := Bd.bytes
  have hml : c.maxLocals = 6 := hml0
  have hown : s.vm.findClass "com/example/protoscope/protoscope/source/SourcePositionCompareToPinLaw" = some m.cls := findClass_of_methodNamed Bd.named
  have hnm := (name_of_methodNamed Bd.named Bd.method).1
  have X0 : Stand p l e ({ frames := 0, cells := 0, slots := 0, locals := 0 } : Room) s m #[(.int p0), (.int p1), (.int p2), (.int p3), (.int p4), (.int p5)] below meth c s₁ [] 0 0 := Stand.of_body Bd
  have e0 : s₁.heap = h0 := by rw [← hh, Bd.state]; rfl
  have N0 := Fr.nil n0
  have KC0 := Keep.refl h0 ([] : List Addr)
  have pre0 : ∀ t, Steps p.tables e below (s₁.setTop (mkF m 0 #[.val (.int p0), .val (.int p1), .val (.int p2), .val (.int p3), .val (.int p4), .val (.int p5)] [])) t → Steps p.tables e below (s₁.setTop (entryFrame m #[(.int p0), (.int p1), (.int p2), (.int p3), (.int p4), (.int p5)] 6)) t := fun t k => castTop (ef_rm7 m p0 p1 p2 p3 p4 p5) k
  have k79 := fun (t : State) (kk : Steps p.tables e below (s₁.setTop (mkF m 2 #[.val (.int p0), .val (.int p1), .val (.int p2), .val (.int p3), .val (.int p4), .val (.int p5)] [(.int p3), (.int p0)])) t) => pre0 t (by
    show Steps p.tables e below (s₁.setTop (mkF m 0 #[.val (.int p0), .val (.int p1), .val (.int p2), .val (.int p3), .val (.int p4), .val (.int p5)] [])) _
    refine XS.iloadN X0.here hx rfl (hb hby d7_0) rfl ?_
    show Steps p.tables e below (s₁.setTop (mkF m 1 #[.val (.int p0), .val (.int p1), .val (.int p2), .val (.int p3), .val (.int p4), .val (.int p5)] [(.int p0)])) _
    refine XS.iloadN X0.here hx rfl (hb hby d7_1) rfl ?_
    exact kk)
  by_cases hc2_80 : p0 < p3
  · have k81 := fun (t : State) (kk : Steps p.tables e below (s₁.setTop (mkF m 6 #[.val (.int p0), .val (.int p1), .val (.int p2), .val (.int p3), .val (.int p4), .val (.int p5)] [(.int (-1 : Int32))])) t) => k79 t (by
      show Steps p.tables e below (s₁.setTop (mkF m 2 #[.val (.int p0), .val (.int p1), .val (.int p2), .val (.int p3), .val (.int p4), .val (.int p5)] [(.int p3), (.int p0)])) _
      refine XS.icmpNo X0.here hx rfl (hb hby d7_2) rfl (tlt hc2_80).2.1 ?_
      show Steps p.tables e below (s₁.setTop (mkF m 5 #[.val (.int p0), .val (.int p1), .val (.int p2), .val (.int p3), .val (.int p4), .val (.int p5)] [])) _
      refine XS.iconst X0.here hx rfl (hb hby d7_5) ?_
      exact kk)
    obtain ⟨fs, hr, hrun, hended, hW, hsame⟩ := X0.leave (v := some (.int (-1 : Int32))) (fun h => by rw [Bd.returns] at h; cases h)
    have hv : (v7_ret p0 p1 p2 p3 p4 p5) = (-1 : Int32) := (if_pos hc2_80)
    refine ⟨_, _, k81 _ ?_, hrun, hended, _, _, rfl, ?_, ⟨_, rfl⟩, hW, hsame.mono (by decide) (by decide)⟩
    · show Steps p.tables e below (s₁.setTop (mkF m 6 #[.val (.int p0), .val (.int p1), .val (.int p2), .val (.int p3), .val (.int p4), .val (.int p5)] [(.int (-1 : Int32))])) _
      exact retI X0 hx Bd.returns (hb hby d7_6) hr
    · show Q7 Z p0 p1 p2 p3 p4 p5 h0 n0 _ s₁.heap _
      rw [e0]
      exact ⟨(congrArg (fun z => some (Value.int z)) hv).symm, N0, rfl⟩
  · have k82 := fun (t : State) (kk : Steps p.tables e below (s₁.setTop (mkF m 9 #[.val (.int p0), .val (.int p1), .val (.int p2), .val (.int p3), .val (.int p4), .val (.int p5)] [(.int p3), (.int p0)])) t) => k79 t (by
      show Steps p.tables e below (s₁.setTop (mkF m 2 #[.val (.int p0), .val (.int p1), .val (.int p2), .val (.int p3), .val (.int p4), .val (.int p5)] [(.int p3), (.int p0)])) _
      refine XS.icmpYes X0.here hx rfl (pc0 := 2) (pc' := 7) rfl (hb hby d7_2) rfl (flt hc2_80).2.1 (by decide) (by decide) ?_
      show Steps p.tables e below (s₁.setTop (mkF m 7 #[.val (.int p0), .val (.int p1), .val (.int p2), .val (.int p3), .val (.int p4), .val (.int p5)] [])) _
      refine XS.iloadN X0.here hx rfl (hb hby d7_7) rfl ?_
      show Steps p.tables e below (s₁.setTop (mkF m 8 #[.val (.int p0), .val (.int p1), .val (.int p2), .val (.int p3), .val (.int p4), .val (.int p5)] [(.int p0)])) _
      refine XS.iloadN X0.here hx rfl (hb hby d7_8) rfl ?_
      exact kk)
    by_cases hc9_83 : p3 < p0
    · have k84 := fun (t : State) (kk : Steps p.tables e below (s₁.setTop (mkF m 13 #[.val (.int p0), .val (.int p1), .val (.int p2), .val (.int p3), .val (.int p4), .val (.int p5)] [(.int (1 : Int32))])) t) => k82 t (by
        show Steps p.tables e below (s₁.setTop (mkF m 9 #[.val (.int p0), .val (.int p1), .val (.int p2), .val (.int p3), .val (.int p4), .val (.int p5)] [(.int p3), (.int p0)])) _
        refine XS.icmpNo X0.here hx rfl (hb hby d7_9) rfl (tlt hc9_83).2.2.2 ?_
        show Steps p.tables e below (s₁.setTop (mkF m 12 #[.val (.int p0), .val (.int p1), .val (.int p2), .val (.int p3), .val (.int p4), .val (.int p5)] [])) _
        refine XS.iconst X0.here hx rfl (hb hby d7_12) ?_
        exact kk)
      obtain ⟨fs, hr, hrun, hended, hW, hsame⟩ := X0.leave (v := some (.int (1 : Int32))) (fun h => by rw [Bd.returns] at h; cases h)
      have hv : (v7_ret p0 p1 p2 p3 p4 p5) = (1 : Int32) := ((if_neg hc2_80).trans (if_pos hc9_83))
      refine ⟨_, _, k84 _ ?_, hrun, hended, _, _, rfl, ?_, ⟨_, rfl⟩, hW, hsame.mono (by decide) (by decide)⟩
      · show Steps p.tables e below (s₁.setTop (mkF m 13 #[.val (.int p0), .val (.int p1), .val (.int p2), .val (.int p3), .val (.int p4), .val (.int p5)] [(.int (1 : Int32))])) _
        exact retI X0 hx Bd.returns (hb hby d7_13) hr
      · show Q7 Z p0 p1 p2 p3 p4 p5 h0 n0 _ s₁.heap _
        rw [e0]
        exact ⟨(congrArg (fun z => some (Value.int z)) hv).symm, N0, rfl⟩
    · have k85 := fun (t : State) (kk : Steps p.tables e below (s₁.setTop (mkF m 17 #[.val (.int p0), .val (.int p1), .val (.int p2), .val (.int p3), .val (.int p4), .val (.int p5)] [(.int p4), (.int p1)])) t) => k82 t (by
        show Steps p.tables e below (s₁.setTop (mkF m 9 #[.val (.int p0), .val (.int p1), .val (.int p2), .val (.int p3), .val (.int p4), .val (.int p5)] [(.int p3), (.int p0)])) _
        refine XS.icmpYes X0.here hx rfl (pc0 := 9) (pc' := 14) rfl (hb hby d7_9) rfl (flt hc9_83).2.2.2 (by decide) (by decide) ?_
        show Steps p.tables e below (s₁.setTop (mkF m 14 #[.val (.int p0), .val (.int p1), .val (.int p2), .val (.int p3), .val (.int p4), .val (.int p5)] [])) _
        refine XS.iloadN X0.here hx rfl (hb hby d7_14) rfl ?_
        show Steps p.tables e below (s₁.setTop (mkF m 15 #[.val (.int p0), .val (.int p1), .val (.int p2), .val (.int p3), .val (.int p4), .val (.int p5)] [(.int p1)])) _
        refine XS.iload X0.here hx rfl (hb hby d7_15) rfl ?_
        exact kk)
      by_cases hc17_86 : p1 < p4
      · have k87 := fun (t : State) (kk : Steps p.tables e below (s₁.setTop (mkF m 21 #[.val (.int p0), .val (.int p1), .val (.int p2), .val (.int p3), .val (.int p4), .val (.int p5)] [(.int (-1 : Int32))])) t) => k85 t (by
          show Steps p.tables e below (s₁.setTop (mkF m 17 #[.val (.int p0), .val (.int p1), .val (.int p2), .val (.int p3), .val (.int p4), .val (.int p5)] [(.int p4), (.int p1)])) _
          refine XS.icmpNo X0.here hx rfl (hb hby d7_17) rfl (tlt hc17_86).2.1 ?_
          show Steps p.tables e below (s₁.setTop (mkF m 20 #[.val (.int p0), .val (.int p1), .val (.int p2), .val (.int p3), .val (.int p4), .val (.int p5)] [])) _
          refine XS.iconst X0.here hx rfl (hb hby d7_20) ?_
          exact kk)
        obtain ⟨fs, hr, hrun, hended, hW, hsame⟩ := X0.leave (v := some (.int (-1 : Int32))) (fun h => by rw [Bd.returns] at h; cases h)
        have hv : (v7_ret p0 p1 p2 p3 p4 p5) = (-1 : Int32) := ((if_neg hc2_80).trans ((if_neg hc9_83).trans (if_pos hc17_86)))
        refine ⟨_, _, k87 _ ?_, hrun, hended, _, _, rfl, ?_, ⟨_, rfl⟩, hW, hsame.mono (by decide) (by decide)⟩
        · show Steps p.tables e below (s₁.setTop (mkF m 21 #[.val (.int p0), .val (.int p1), .val (.int p2), .val (.int p3), .val (.int p4), .val (.int p5)] [(.int (-1 : Int32))])) _
          exact retI X0 hx Bd.returns (hb hby d7_21) hr
        · show Q7 Z p0 p1 p2 p3 p4 p5 h0 n0 _ s₁.heap _
          rw [e0]
          exact ⟨(congrArg (fun z => some (Value.int z)) hv).symm, N0, rfl⟩
      · have k88 := fun (t : State) (kk : Steps p.tables e below (s₁.setTop (mkF m 25 #[.val (.int p0), .val (.int p1), .val (.int p2), .val (.int p3), .val (.int p4), .val (.int p5)] [(.int p4), (.int p1)])) t) => k85 t (by
          show Steps p.tables e below (s₁.setTop (mkF m 17 #[.val (.int p0), .val (.int p1), .val (.int p2), .val (.int p3), .val (.int p4), .val (.int p5)] [(.int p4), (.int p1)])) _
          refine XS.icmpYes X0.here hx rfl (pc0 := 17) (pc' := 22) rfl (hb hby d7_17) rfl (flt hc17_86).2.1 (by decide) (by decide) ?_
          show Steps p.tables e below (s₁.setTop (mkF m 22 #[.val (.int p0), .val (.int p1), .val (.int p2), .val (.int p3), .val (.int p4), .val (.int p5)] [])) _
          refine XS.iloadN X0.here hx rfl (hb hby d7_22) rfl ?_
          show Steps p.tables e below (s₁.setTop (mkF m 23 #[.val (.int p0), .val (.int p1), .val (.int p2), .val (.int p3), .val (.int p4), .val (.int p5)] [(.int p1)])) _
          refine XS.iload X0.here hx rfl (hb hby d7_23) rfl ?_
          exact kk)
        by_cases hc25_89 : p4 < p1
        · have k90 := fun (t : State) (kk : Steps p.tables e below (s₁.setTop (mkF m 29 #[.val (.int p0), .val (.int p1), .val (.int p2), .val (.int p3), .val (.int p4), .val (.int p5)] [(.int (1 : Int32))])) t) => k88 t (by
            show Steps p.tables e below (s₁.setTop (mkF m 25 #[.val (.int p0), .val (.int p1), .val (.int p2), .val (.int p3), .val (.int p4), .val (.int p5)] [(.int p4), (.int p1)])) _
            refine XS.icmpNo X0.here hx rfl (hb hby d7_25) rfl (tlt hc25_89).2.2.2 ?_
            show Steps p.tables e below (s₁.setTop (mkF m 28 #[.val (.int p0), .val (.int p1), .val (.int p2), .val (.int p3), .val (.int p4), .val (.int p5)] [])) _
            refine XS.iconst X0.here hx rfl (hb hby d7_28) ?_
            exact kk)
          obtain ⟨fs, hr, hrun, hended, hW, hsame⟩ := X0.leave (v := some (.int (1 : Int32))) (fun h => by rw [Bd.returns] at h; cases h)
          have hv : (v7_ret p0 p1 p2 p3 p4 p5) = (1 : Int32) := ((if_neg hc2_80).trans ((if_neg hc9_83).trans ((if_neg hc17_86).trans (if_pos hc25_89))))
          refine ⟨_, _, k90 _ ?_, hrun, hended, _, _, rfl, ?_, ⟨_, rfl⟩, hW, hsame.mono (by decide) (by decide)⟩
          · show Steps p.tables e below (s₁.setTop (mkF m 29 #[.val (.int p0), .val (.int p1), .val (.int p2), .val (.int p3), .val (.int p4), .val (.int p5)] [(.int (1 : Int32))])) _
            exact retI X0 hx Bd.returns (hb hby d7_29) hr
          · show Q7 Z p0 p1 p2 p3 p4 p5 h0 n0 _ s₁.heap _
            rw [e0]
            exact ⟨(congrArg (fun z => some (Value.int z)) hv).symm, N0, rfl⟩
        · have k91 := fun (t : State) (kk : Steps p.tables e below (s₁.setTop (mkF m 33 #[.val (.int p0), .val (.int p1), .val (.int p2), .val (.int p3), .val (.int p4), .val (.int p5)] [(.int p5), (.int p2)])) t) => k88 t (by
            show Steps p.tables e below (s₁.setTop (mkF m 25 #[.val (.int p0), .val (.int p1), .val (.int p2), .val (.int p3), .val (.int p4), .val (.int p5)] [(.int p4), (.int p1)])) _
            refine XS.icmpYes X0.here hx rfl (pc0 := 25) (pc' := 30) rfl (hb hby d7_25) rfl (flt hc25_89).2.2.2 (by decide) (by decide) ?_
            show Steps p.tables e below (s₁.setTop (mkF m 30 #[.val (.int p0), .val (.int p1), .val (.int p2), .val (.int p3), .val (.int p4), .val (.int p5)] [])) _
            refine XS.iloadN X0.here hx rfl (hb hby d7_30) rfl ?_
            show Steps p.tables e below (s₁.setTop (mkF m 31 #[.val (.int p0), .val (.int p1), .val (.int p2), .val (.int p3), .val (.int p4), .val (.int p5)] [(.int p2)])) _
            refine XS.iload X0.here hx rfl (hb hby d7_31) rfl ?_
            exact kk)
          by_cases hc33_92 : p2 < p5
          · have k93 := fun (t : State) (kk : Steps p.tables e below (s₁.setTop (mkF m 37 #[.val (.int p0), .val (.int p1), .val (.int p2), .val (.int p3), .val (.int p4), .val (.int p5)] [(.int (-1 : Int32))])) t) => k91 t (by
              show Steps p.tables e below (s₁.setTop (mkF m 33 #[.val (.int p0), .val (.int p1), .val (.int p2), .val (.int p3), .val (.int p4), .val (.int p5)] [(.int p5), (.int p2)])) _
              refine XS.icmpNo X0.here hx rfl (hb hby d7_33) rfl (tlt hc33_92).2.1 ?_
              show Steps p.tables e below (s₁.setTop (mkF m 36 #[.val (.int p0), .val (.int p1), .val (.int p2), .val (.int p3), .val (.int p4), .val (.int p5)] [])) _
              refine XS.iconst X0.here hx rfl (hb hby d7_36) ?_
              exact kk)
            obtain ⟨fs, hr, hrun, hended, hW, hsame⟩ := X0.leave (v := some (.int (-1 : Int32))) (fun h => by rw [Bd.returns] at h; cases h)
            have hv : (v7_ret p0 p1 p2 p3 p4 p5) = (-1 : Int32) := ((if_neg hc2_80).trans ((if_neg hc9_83).trans ((if_neg hc17_86).trans ((if_neg hc25_89).trans (if_pos hc33_92)))))
            refine ⟨_, _, k93 _ ?_, hrun, hended, _, _, rfl, ?_, ⟨_, rfl⟩, hW, hsame.mono (by decide) (by decide)⟩
            · show Steps p.tables e below (s₁.setTop (mkF m 37 #[.val (.int p0), .val (.int p1), .val (.int p2), .val (.int p3), .val (.int p4), .val (.int p5)] [(.int (-1 : Int32))])) _
              exact retI X0 hx Bd.returns (hb hby d7_37) hr
            · show Q7 Z p0 p1 p2 p3 p4 p5 h0 n0 _ s₁.heap _
              rw [e0]
              exact ⟨(congrArg (fun z => some (Value.int z)) hv).symm, N0, rfl⟩
          · have k94 := fun (t : State) (kk : Steps p.tables e below (s₁.setTop (mkF m 41 #[.val (.int p0), .val (.int p1), .val (.int p2), .val (.int p3), .val (.int p4), .val (.int p5)] [(.int p5), (.int p2)])) t) => k91 t (by
              show Steps p.tables e below (s₁.setTop (mkF m 33 #[.val (.int p0), .val (.int p1), .val (.int p2), .val (.int p3), .val (.int p4), .val (.int p5)] [(.int p5), (.int p2)])) _
              refine XS.icmpYes X0.here hx rfl (pc0 := 33) (pc' := 38) rfl (hb hby d7_33) rfl (flt hc33_92).2.1 (by decide) (by decide) ?_
              show Steps p.tables e below (s₁.setTop (mkF m 38 #[.val (.int p0), .val (.int p1), .val (.int p2), .val (.int p3), .val (.int p4), .val (.int p5)] [])) _
              refine XS.iloadN X0.here hx rfl (hb hby d7_38) rfl ?_
              show Steps p.tables e below (s₁.setTop (mkF m 39 #[.val (.int p0), .val (.int p1), .val (.int p2), .val (.int p3), .val (.int p4), .val (.int p5)] [(.int p2)])) _
              refine XS.iload X0.here hx rfl (hb hby d7_39) rfl ?_
              exact kk)
            by_cases hc41_95 : p5 < p2
            · have k96 := fun (t : State) (kk : Steps p.tables e below (s₁.setTop (mkF m 45 #[.val (.int p0), .val (.int p1), .val (.int p2), .val (.int p3), .val (.int p4), .val (.int p5)] [(.int (1 : Int32))])) t) => k94 t (by
                show Steps p.tables e below (s₁.setTop (mkF m 41 #[.val (.int p0), .val (.int p1), .val (.int p2), .val (.int p3), .val (.int p4), .val (.int p5)] [(.int p5), (.int p2)])) _
                refine XS.icmpNo X0.here hx rfl (hb hby d7_41) rfl (tlt hc41_95).2.2.2 ?_
                show Steps p.tables e below (s₁.setTop (mkF m 44 #[.val (.int p0), .val (.int p1), .val (.int p2), .val (.int p3), .val (.int p4), .val (.int p5)] [])) _
                refine XS.iconst X0.here hx rfl (hb hby d7_44) ?_
                exact kk)
              obtain ⟨fs, hr, hrun, hended, hW, hsame⟩ := X0.leave (v := some (.int (1 : Int32))) (fun h => by rw [Bd.returns] at h; cases h)
              have hv : (v7_ret p0 p1 p2 p3 p4 p5) = (1 : Int32) := ((if_neg hc2_80).trans ((if_neg hc9_83).trans ((if_neg hc17_86).trans ((if_neg hc25_89).trans ((if_neg hc33_92).trans (if_pos hc41_95))))))
              refine ⟨_, _, k96 _ ?_, hrun, hended, _, _, rfl, ?_, ⟨_, rfl⟩, hW, hsame.mono (by decide) (by decide)⟩
              · show Steps p.tables e below (s₁.setTop (mkF m 45 #[.val (.int p0), .val (.int p1), .val (.int p2), .val (.int p3), .val (.int p4), .val (.int p5)] [(.int (1 : Int32))])) _
                exact retI X0 hx Bd.returns (hb hby d7_45) hr
              · show Q7 Z p0 p1 p2 p3 p4 p5 h0 n0 _ s₁.heap _
                rw [e0]
                exact ⟨(congrArg (fun z => some (Value.int z)) hv).symm, N0, rfl⟩
            · have k97 := fun (t : State) (kk : Steps p.tables e below (s₁.setTop (mkF m 47 #[.val (.int p0), .val (.int p1), .val (.int p2), .val (.int p3), .val (.int p4), .val (.int p5)] [(.int (0 : Int32))])) t) => k94 t (by
                show Steps p.tables e below (s₁.setTop (mkF m 41 #[.val (.int p0), .val (.int p1), .val (.int p2), .val (.int p3), .val (.int p4), .val (.int p5)] [(.int p5), (.int p2)])) _
                refine XS.icmpYes X0.here hx rfl (pc0 := 41) (pc' := 46) rfl (hb hby d7_41) rfl (flt hc41_95).2.2.2 (by decide) (by decide) ?_
                show Steps p.tables e below (s₁.setTop (mkF m 46 #[.val (.int p0), .val (.int p1), .val (.int p2), .val (.int p3), .val (.int p4), .val (.int p5)] [])) _
                refine XS.iconst X0.here hx rfl (hb hby d7_46) ?_
                exact kk)
              obtain ⟨fs, hr, hrun, hended, hW, hsame⟩ := X0.leave (v := some (.int (0 : Int32))) (fun h => by rw [Bd.returns] at h; cases h)
              have hv : (v7_ret p0 p1 p2 p3 p4 p5) = (0 : Int32) := ((if_neg hc2_80).trans ((if_neg hc9_83).trans ((if_neg hc17_86).trans ((if_neg hc25_89).trans ((if_neg hc33_92).trans (if_neg hc41_95))))))
              refine ⟨_, _, k97 _ ?_, hrun, hended, _, _, rfl, ?_, ⟨_, rfl⟩, hW, hsame.mono (by decide) (by decide)⟩
              · show Steps p.tables e below (s₁.setTop (mkF m 47 #[.val (.int p0), .val (.int p1), .val (.int p2), .val (.int p3), .val (.int p4), .val (.int p5)] [(.int (0 : Int32))])) _
                exact retI X0 hx Bd.returns (hb hby d7_47) hr
              · show Q7 Z p0 p1 p2 p3 p4 p5 h0 n0 _ s₁.heap _
                rw [e0]
                exact ⟨(congrArg (fun z => some (Value.int z)) hv).symm, N0, rfl⟩
theorem pd_2 : parseMethodDescriptor "(ILjava/lang/String;II)V" = some ⟨[.int, (.object "java/lang/String"), .int, .int], none⟩ := by decide +kernel
theorem pd_3 : parseMethodDescriptor "(Lcom/example/protoscope/protoscope/source/SourcePosition;)I" = some ⟨[(.object "com/example/protoscope/protoscope/source/SourcePosition")], some .int⟩ := by decide +kernel
theorem pd_4 : parseMethodDescriptor "(I)I" = some ⟨[.int], some .int⟩ := by decide +kernel
theorem pd_5 : parseMethodDescriptor "(IIIIII)I" = some ⟨[.int, .int, .int, .int, .int, .int], some .int⟩ := by decide +kernel
def v0_55_s0 (p0 : Int32) (p1 : Int32) (p2 : Int32) (p3 : Int32) (p4 : Int32) (p5 : Int32) : Int32 := if (v6_ret (v4_ret p0 p3 p1 p4 p2 p5)) = (v7_ret p0 p1 p2 p3 p4 p5) then (1 : Int32) else (0 : Int32)
theorem own_cmp (a b : Int32) (h : ¬ a = b) : v6_ret (v5_2_s0 a b) = if a < b then -1 else 1 := by
  unfold v5_2_s0 v5_11_s0
  by_cases h1 : a < b
  · rw [if_pos h1, if_pos h1]; rfl
  · rw [if_neg h1, if_neg h, if_neg h1]; rfl
theorem own_gt (a b : Int32) (h : ¬ a = b) (h1 : ¬ a < b) : b < a := by
  rw [← Int32.toInt_inj] at h; rw [Int32.lt_iff_toInt_lt] at *; omega
theorem own_irr (a : Int32) : ¬ a < a := by rw [Int32.lt_iff_toInt_lt]; omega
theorem own_law (p0 p1 p2 p3 p4 p5 : Int32) : (nar .boolean (v0_55_s0 p0 p1 p2 p3 p4 p5)) = 1 := by
  have key : v6_ret (v4_ret p0 p3 p1 p4 p2 p5) = v7_ret p0 p1 p2 p3 p4 p5 := by
    unfold v4_ret v7_ret
    by_cases h1 : p0 = p3
    · subst h1
      rw [if_pos rfl, if_neg (own_irr _), if_neg (own_irr _)]
      by_cases h2 : p1 = p4
      · subst h2
        rw [if_pos rfl, if_neg (own_irr _), if_neg (own_irr _)]
        by_cases h3 : p2 = p5
        · subst h3
          rw [if_neg (own_irr _), if_neg (own_irr _)]
          unfold v5_2_s0 v5_11_s0
          rw [if_neg (own_irr _), if_pos rfl]; rfl
        · rw [own_cmp _ _ h3]
          by_cases h4 : p2 < p5
          · rw [if_pos h4, if_pos h4]
          · rw [if_neg h4, if_neg h4, if_pos (own_gt _ _ h3 h4)]
      · rw [if_neg h2, own_cmp _ _ h2]
        by_cases h4 : p1 < p4
        · rw [if_pos h4, if_pos h4]
        · rw [if_neg h4, if_neg h4, if_pos (own_gt _ _ h2 h4)]
    · rw [if_neg h1, own_cmp _ _ h1]
      by_cases h4 : p0 < p3
      · rw [if_pos h4, if_pos h4]
      · rw [if_neg h4, if_neg h4, if_pos (own_gt _ _ h1 h4)]
  have e : v0_55_s0 p0 p1 p2 p3 p4 p5 = 1 := by unfold v0_55_s0; exact if_pos key
  rw [e]; rfl

theorem ef_rm0 (m : MethodId) (p0 : Int32) (p1 : Int32) (p2 : Int32) (p3 : Int32) (p4 : Int32) (p5 : Int32) : entryFrame m #[(.int p0), (.int p1), (.int p2), (.int p3), (.int p4), (.int p5)] maxLocals = mkF m 0 #[.val (.int p0), .val (.int p1), .val (.int p2), .val (.int p3), .val (.int p4), .val (.int p5), .unset, .unset, .unset] [] := by first | (simp [entryFrame, mkF, argsToLocals, Value.category, maxLocals]; done) | rfl
def Q0 (Z : State) (p0 : Int32) (p1 : Int32) (p2 : Int32) (p3 : Int32) (p4 : Int32) (p5 : Int32) (h0 : Heap) (n0 : Nat) (v : Option Value) (h : Heap) (L : List Loc) : Prop := v = some (.int 1) ∧ Fr n0 L
set_option maxRecDepth 65536 in
set_option maxHeartbeats 40000000 in
theorem rm0 (l : Launch) (Z : State) (a0 : Array Value) (hw : ∀ d ∈ tables_1, d.before a0 Z = true) (ws : List Jvm.Cond) (p0 : Int32) (p1 : Int32) (p2 : Int32) (p3 : Int32) (p4 : Int32) (p5 : Int32) (h0 : Heap) (n0 : Nat) (Z0 : n0 ≤ h0.size) :
    MetFree l x (head1 (Jvm.Cond.code x code maxLocals ret :: ws) room_1) (fun a U => a = #[(.int p0), (.int p1), (.int p2), (.int p3), (.int p4), (.int p5)] ∧ Z.Warmed39 U.vm ∧ U.heap = h0) (fun _ _ _ _ _ => True) (fun _ U o U' => ∃ v L, o = .returned v ∧ Q0 Z p0 p1 p2 p3 p4 p5 h0 n0 v U'.heap L ∧ ReturnedEndW U o U' L room_1.cells room_1.slots) := by
  refine MetFree.of_bodySF (plainFor_of_name pn_81) hisR ?_
  intro p e s m args below meth c s₁ Bd hml0 hP hK
  obtain ⟨rfl, hZ, hh⟩ := hP
  have hx := Bd.exec
  have hby := Bd.bytes
  have hml : c.maxLocals = 9 := hml0
  have hown : s.vm.findClass "com/example/protoscope/protoscope/source/SourcePositionCompareToPinLaw" = some m.cls := findClass_of_methodNamed Bd.named
  have hnm := (name_of_methodNamed Bd.named Bd.method).1
  have X0 : Stand p l e room_1 s m #[(.int p0), (.int p1), (.int p2), (.int p3), (.int p4), (.int p5)] below meth c s₁ [] 0 0 := Stand.of_body Bd
  have e0 : s₁.heap = h0 := by rw [← hh, Bd.state]; rfl
  have N0 := Fr.nil n0
  have KC0 := Keep.refl h0 ([] : List Addr)
  have pre0 : ∀ t, Steps p.tables e below (s₁.setTop (mkF m 0 #[.val (.int p0), .val (.int p1), .val (.int p2), .val (.int p3), .val (.int p4), .val (.int p5), .unset, .unset, .unset] [])) t → Steps p.tables e below (s₁.setTop (entryFrame m #[(.int p0), (.int p1), (.int p2), (.int p3), (.int p4), (.int p5)] maxLocals)) t := fun t k => castTop (ef_rm0 m p0 p1 p2 p3 p4 p5) k
  have hS0 : s.Since s.vm 0 := (State.WarmedH.refl s).since 0
  have own_wS : ∀ a ∈ Bundle.stringAtoms, a.before a0 Z = true := by
    intro a ha
    simp only [Bundle.stringAtoms, List.mem_cons, List.not_mem_nil, or_false] at ha
    rcases ha with rfl | rfl | rfl | rfl | rfl | rfl | rfl
    all_goals first | exact (hw _ (List.mem_of_getElem? (i := 4) rfl)) | exact (hw _ (List.mem_of_getElem? (i := 5) rfl)) | exact (hw _ (List.mem_of_getElem? (i := 6) rfl)) | exact (hw _ (List.mem_of_getElem? (i := 7) rfl)) | exact (hw _ (List.mem_of_getElem? (i := 8) rfl)) | exact (hw _ (List.mem_of_getElem? (i := 9) rfl)) | exact (hw _ (List.mem_of_getElem? (i := 10) rfl))
  obtain ⟨T98, h98, X98, e98, E98, A98, D98, -, st98⟩ := newO X0 hx hZ hown (hw _ (List.mem_of_getElem? (i := 0) rfl)) (hw _ (List.mem_of_getElem? (i := 1) rfl)) (hw _ (List.mem_of_getElem? (i := 2) rfl)) e0 (g := (mkF m 0 #[.val (.int p0), .val (.int p1), .val (.int p2), .val (.int p3), .val (.int p4), .val (.int p5), .unset, .unset, .unset] [])) rfl (hb hby at_0) (by decide) (by decide)
  obtain ⟨b98, g98⟩ : ∃ z, z = h0.size := ⟨_, rfl⟩
  rw [← g98] at A98 D98 st98
  have g_b98 : n0 ≤ b98 := Nat.le_trans (Nat.le_trans Z0 KC0.1) (Nat.le_of_eq g98.symm)
  have sz_b98 : h0.size ≤ b98 := Nat.le_trans KC0.1 (Nat.le_of_eq g98.symm)
  have K98 : Keep h0 h98 [] := KC0.ext E98
  have F_fileIndex_b98 : Fld Z h98 b98 "com/example/protoscope/protoscope/source/SourcePosition" "fileIndex" "I" (.int (0 : Int32)) := D98 (Or.inr (hw _ (List.mem_of_getElem? (i := 23) rfl))) (ty := .int) (by decide)
  have F_path_b98 : Fld Z h98 b98 "com/example/protoscope/protoscope/source/SourcePosition" "path" "Ljava/lang/String;" .null := D98 (Or.inr (hw _ (List.mem_of_getElem? (i := 25) rfl))) (ty := (.object "java/lang/String")) (by decide)
  have F_line_b98 : Fld Z h98 b98 "com/example/protoscope/protoscope/source/SourcePosition" "line" "I" (.int (0 : Int32)) := D98 (Or.inr (hw _ (List.mem_of_getElem? (i := 27) rfl))) (ty := .int) (by decide)
  have F_column_b98 : Fld Z h98 b98 "com/example/protoscope/protoscope/source/SourcePosition" "column" "I" (.int (0 : Int32)) := D98 (Or.inr (hw _ (List.mem_of_getElem? (i := 29) rfl))) (ty := .int) (by decide)
  have k99 := fun (t : State) (kk : Steps p.tables e below (T98.setTop (mkF m 3 #[.val (.int p0), .val (.int p1), .val (.int p2), .val (.int p3), .val (.int p4), .val (.int p5), .unset, .unset, .unset] [(.ref b98)])) t) => pre0 t (st98 _ kk)
  have k100 := fun (t : State) (kk : Steps p.tables e below (T98.setTop (mkF m 5 #[.val (.int p0), .val (.int p1), .val (.int p2), .val (.int p3), .val (.int p4), .val (.int p5), .unset, .unset, .unset] [(.int p0), (.ref b98), (.ref b98)])) t) => k99 t (by
    show Steps p.tables e below (T98.setTop (mkF m 3 #[.val (.int p0), .val (.int p1), .val (.int p2), .val (.int p3), .val (.int p4), .val (.int p5), .unset, .unset, .unset] [(.ref b98)])) _
    refine XS.dup X98.here hx rfl (hb hby at_3) rfl rfl ?_
    show Steps p.tables e below (T98.setTop (mkF m 4 #[.val (.int p0), .val (.int p1), .val (.int p2), .val (.int p3), .val (.int p4), .val (.int p5), .unset, .unset, .unset] [(.ref b98), (.ref b98)])) _
    refine XS.iloadN X98.here hx rfl (hb hby at_4) rfl ?_
    exact kk)
  obtain ⟨a101, T101, h101, kk101, X101, e101, E101, hS101, hk101, hZ101, hown101, st101⟩ := ldcS (s := s) (vm0 := s.vm) X98 hx hZ hown (hw _ (List.mem_of_getElem? (i := 3) rfl)) own_wS e98 hS0 (Nat.zero_le _) (g := (mkF m 5 #[.val (.int p0), .val (.int p1), .val (.int p2), .val (.int p3), .val (.int p4), .val (.int p5), .unset, .unset, .unset] [(.int p0), (.ref b98), (.ref b98)])) rfl (hb hby at_5) (n := 4) (by decide) (by decide) (by decide) (by decide)
  have hZ := hZ101
  have hown := hown101
  have K101 : Keep h0 h101 [] := K98.ext E101
  have k102 := fun (t : State) (kk : Steps p.tables e below (T101.setTop (mkF m 7 #[.val (.int p0), .val (.int p1), .val (.int p2), .val (.int p3), .val (.int p4), .val (.int p5), .unset, .unset, .unset] [(.ref a101), (.int p0), (.ref b98), (.ref b98)])) t) => k100 t (st101 _ kk)
  have k103 := fun (t : State) (kk : Steps p.tables e below (T101.setTop (mkF m 9 #[.val (.int p0), .val (.int p1), .val (.int p2), .val (.int p3), .val (.int p4), .val (.int p5), .unset, .unset, .unset] [(.int p2), (.int p1), (.ref a101), (.int p0), (.ref b98), (.ref b98)])) t) => k102 t (by
    show Steps p.tables e below (T101.setTop (mkF m 7 #[.val (.int p0), .val (.int p1), .val (.int p2), .val (.int p3), .val (.int p4), .val (.int p5), .unset, .unset, .unset] [(.ref a101), (.int p0), (.ref b98), (.ref b98)])) _
    refine XS.iloadN X101.here hx rfl (hb hby at_7) rfl ?_
    show Steps p.tables e below (T101.setTop (mkF m 8 #[.val (.int p0), .val (.int p1), .val (.int p2), .val (.int p3), .val (.int p4), .val (.int p5), .unset, .unset, .unset] [(.int p1), (.ref a101), (.int p0), (.ref b98), (.ref b98)])) _
    refine XS.iloadN X101.here hx rfl (hb hby at_8) rfl ?_
    exact kk)
  have f104 := (F_fileIndex_b98.ext E101)
  have f105 := (F_path_b98.ext E101)
  have f106 := (F_line_b98.ext E101)
  have f107 := (F_column_b98.ext E101)
  have f108 := (A98.ext E101)
  have Zz109 : n0 ≤ h101.size := (Nat.le_trans Z0 K101.1)
  obtain ⟨_, _, ⟨T109, L109, k109, n109⟩, -, X109, ⟨Lc109, hQ109, l109, y109, z109⟩, st109⟩ := X101.specialBack hx (y := (⟨"com/example/protoscope/protoscope/source/SourcePosition", "<init>", "(ILjava/lang/String;II)V"⟩ : MethodName)) rfl hown (mvT hZ (hw _ (List.mem_of_getElem? (i := 11) rfl))) (mvT hZ (hw _ (List.mem_of_getElem? (i := 12) rfl))) (mvT hZ (hw _ (List.mem_of_getElem? (i := 13) rfl))) (by decide) (backOf (W := 1) (rm1 l Z a0 hw [] b98 p0 a101 p1 p2 (0 : Int32) .null (0 : Int32) (0 : Int32) h101 n0 Zz109 f108 f104 g_b98 f105 f106 f107) hZ (hw _ (List.mem_of_getElem? (i := 13) rfl)) (hw _ (List.mem_of_getElem? (i := 2) rfl)) (by decide) (by decide)) (g := (mkF m 9 #[.val (.int p0), .val (.int p1), .val (.int p2), .val (.int p3), .val (.int p4), .val (.int p5), .unset, .unset, .unset] [(.int p2), (.int p1), (.ref a101), (.int p0), (.ref b98), (.ref b98)])) rfl (by rw [hml]; rfl) (Steps.refl _) (a := b98) (argsL := [(.int p0), (.ref a101), (.int p1), (.int p2)]) (rest := [(.ref b98)]) (lenOf pd_2 rfl) rfl (by show 2 * 0 + _ ≤ _; exact Nat.le_of_eq rfl) (hb hby at_9) (fun _ _ => ⟨rfl, e101, (by decide : 3 + 0 ≤ _), (by decide : 12 + 0 ≤ _)⟩)
  dsimp only [Pt.U, Pt.locs, Pt.cells, Pt.slots] at X109 l109 y109 z109 st109 hQ109
  subst l109 y109 z109
  obtain ⟨rfl, N109q, Kq109, Eq109_0, Fq109_0, Fq109_1, Fq109_2, Fq109_3⟩ := hQ109
  have K109 : Keep h0 T109.heap [] := K101.trans Kq109 (allS (Or.inr sz_b98) all0)
  have N109 := Fr.app N0 N109q
  have k110 := fun (t : State) (kk : Steps p.tables e below (T109.setTop (mkF m 12 #[.val (.int p0), .val (.int p1), .val (.int p2), .val (.int p3), .val (.int p4), .val (.int p5), .unset, .unset, .unset] [(.ref b98)])) t) => k103 t (st109.trans kk)
  have k111 := fun (t : State) (kk : Steps p.tables e below (T109.setTop (mkF m 14 #[.val (.int p0), .val (.int p1), .val (.int p2), .val (.int p3), .val (.int p4), .val (.int p5), .val (.ref b98), .unset, .unset] [])) t) => k110 t (by
    show Steps p.tables e below (T109.setTop (mkF m 12 #[.val (.int p0), .val (.int p1), .val (.int p2), .val (.int p3), .val (.int p4), .val (.int p5), .unset, .unset, .unset] [(.ref b98)])) _
    refine XS.astore X109.here hx rfl (hb hby at_12) rfl rfl (l' := #[.val (.int p0), .val (.int p1), .val (.int p2), .val (.int p3), .val (.int p4), .val (.int p5), .val (.ref b98), .unset, .unset]) rfl ?_
    exact kk)
  obtain ⟨T112, h112, X112, e112, E112, A112, D112, -, st112⟩ := newO X109 hx hZ hown (hw _ (List.mem_of_getElem? (i := 0) rfl)) (hw _ (List.mem_of_getElem? (i := 1) rfl)) (hw _ (List.mem_of_getElem? (i := 2) rfl)) rfl (g := (mkF m 14 #[.val (.int p0), .val (.int p1), .val (.int p2), .val (.int p3), .val (.int p4), .val (.int p5), .val (.ref b98), .unset, .unset] [])) rfl (hb hby at_14) (by decide) (by decide)
  obtain ⟨b112, g112⟩ : ∃ z, z = T109.heap.size := ⟨_, rfl⟩
  rw [← g112] at A112 D112 st112
  have ne_b98_b112 : b98 ≠ b112 := Nat.ne_of_lt (Nat.lt_of_lt_of_le Eq109_0.lt (Nat.le_of_eq g112.symm))
  have g_b112 : n0 ≤ b112 := Nat.le_trans (Nat.le_trans Z0 K109.1) (Nat.le_of_eq g112.symm)
  have sz_b112 : h0.size ≤ b112 := Nat.le_trans K109.1 (Nat.le_of_eq g112.symm)
  have K112 : Keep h0 h112 [] := K109.ext E112
  have F_fileIndex_b112 : Fld Z h112 b112 "com/example/protoscope/protoscope/source/SourcePosition" "fileIndex" "I" (.int (0 : Int32)) := D112 (Or.inr (hw _ (List.mem_of_getElem? (i := 23) rfl))) (ty := .int) (by decide)
  have F_path_b112 : Fld Z h112 b112 "com/example/protoscope/protoscope/source/SourcePosition" "path" "Ljava/lang/String;" .null := D112 (Or.inr (hw _ (List.mem_of_getElem? (i := 25) rfl))) (ty := (.object "java/lang/String")) (by decide)
  have F_line_b112 : Fld Z h112 b112 "com/example/protoscope/protoscope/source/SourcePosition" "line" "I" (.int (0 : Int32)) := D112 (Or.inr (hw _ (List.mem_of_getElem? (i := 27) rfl))) (ty := .int) (by decide)
  have F_column_b112 : Fld Z h112 b112 "com/example/protoscope/protoscope/source/SourcePosition" "column" "I" (.int (0 : Int32)) := D112 (Or.inr (hw _ (List.mem_of_getElem? (i := 29) rfl))) (ty := .int) (by decide)
  have k113 := fun (t : State) (kk : Steps p.tables e below (T112.setTop (mkF m 17 #[.val (.int p0), .val (.int p1), .val (.int p2), .val (.int p3), .val (.int p4), .val (.int p5), .val (.ref b98), .unset, .unset] [(.ref b112)])) t) => k111 t (st112 _ kk)
  have k114 := fun (t : State) (kk : Steps p.tables e below (T112.setTop (mkF m 19 #[.val (.int p0), .val (.int p1), .val (.int p2), .val (.int p3), .val (.int p4), .val (.int p5), .val (.ref b98), .unset, .unset] [(.int p3), (.ref b112), (.ref b112)])) t) => k113 t (by
    show Steps p.tables e below (T112.setTop (mkF m 17 #[.val (.int p0), .val (.int p1), .val (.int p2), .val (.int p3), .val (.int p4), .val (.int p5), .val (.ref b98), .unset, .unset] [(.ref b112)])) _
    refine XS.dup X112.here hx rfl (hb hby at_17) rfl rfl ?_
    show Steps p.tables e below (T112.setTop (mkF m 18 #[.val (.int p0), .val (.int p1), .val (.int p2), .val (.int p3), .val (.int p4), .val (.int p5), .val (.ref b98), .unset, .unset] [(.ref b112), (.ref b112)])) _
    refine XS.iloadN X112.here hx rfl (hb hby at_18) rfl ?_
    exact kk)
  obtain ⟨a115, T115, h115, kk115, X115, e115, E115, hS115, hk115, hZ115, hown115, st115⟩ := ldcS (s := s) (vm0 := T101.vm) X112 hx hZ hown (hw _ (List.mem_of_getElem? (i := 30) rfl)) own_wS e112 hS101 (Nat.le_trans hk101 (Nat.le_trans (Nat.le_trans (Nat.le_refl _) Kq109.1) E112.1)) (g := (mkF m 19 #[.val (.int p0), .val (.int p1), .val (.int p2), .val (.int p3), .val (.int p4), .val (.int p5), .val (.ref b98), .unset, .unset] [(.int p3), (.ref b112), (.ref b112)])) rfl (hb hby at_19) (n := 4) (by decide) (by decide) (by decide) (by decide)
  have hZ := hZ115
  have hown := hown115
  have K115 : Keep h0 h115 [] := K112.ext E115
  have k116 := fun (t : State) (kk : Steps p.tables e below (T115.setTop (mkF m 21 #[.val (.int p0), .val (.int p1), .val (.int p2), .val (.int p3), .val (.int p4), .val (.int p5), .val (.ref b98), .unset, .unset] [(.ref a115), (.int p3), (.ref b112), (.ref b112)])) t) => k114 t (st115 _ kk)
  have k117 := fun (t : State) (kk : Steps p.tables e below (T115.setTop (mkF m 25 #[.val (.int p0), .val (.int p1), .val (.int p2), .val (.int p3), .val (.int p4), .val (.int p5), .val (.ref b98), .unset, .unset] [(.int p5), (.int p4), (.ref a115), (.int p3), (.ref b112), (.ref b112)])) t) => k116 t (by
    show Steps p.tables e below (T115.setTop (mkF m 21 #[.val (.int p0), .val (.int p1), .val (.int p2), .val (.int p3), .val (.int p4), .val (.int p5), .val (.ref b98), .unset, .unset] [(.ref a115), (.int p3), (.ref b112), (.ref b112)])) _
    refine XS.iload X115.here hx rfl (hb hby at_21) rfl ?_
    show Steps p.tables e below (T115.setTop (mkF m 23 #[.val (.int p0), .val (.int p1), .val (.int p2), .val (.int p3), .val (.int p4), .val (.int p5), .val (.ref b98), .unset, .unset] [(.int p4), (.ref a115), (.int p3), (.ref b112), (.ref b112)])) _
    refine XS.iload X115.here hx rfl (hb hby at_23) rfl ?_
    exact kk)
  have f118 := (F_fileIndex_b112.ext E115)
  have f119 := (F_path_b112.ext E115)
  have f120 := (F_line_b112.ext E115)
  have f121 := (F_column_b112.ext E115)
  have f122 := (A112.ext E115)
  have Zz123 : n0 ≤ h115.size := (Nat.le_trans Z0 K115.1)
  obtain ⟨_, _, ⟨T123, L123, k123, n123⟩, -, X123, ⟨Lc123, hQ123, l123, y123, z123⟩, st123⟩ := X115.specialBack hx (y := (⟨"com/example/protoscope/protoscope/source/SourcePosition", "<init>", "(ILjava/lang/String;II)V"⟩ : MethodName)) rfl hown (mvT hZ (hw _ (List.mem_of_getElem? (i := 11) rfl))) (mvT hZ (hw _ (List.mem_of_getElem? (i := 12) rfl))) (mvT hZ (hw _ (List.mem_of_getElem? (i := 13) rfl))) (by decide) (backOf (W := 1) (rm1 l Z a0 hw [] b112 p3 a115 p4 p5 (0 : Int32) .null (0 : Int32) (0 : Int32) h115 n0 Zz123 f122 f118 g_b112 f119 f120 f121) hZ (hw _ (List.mem_of_getElem? (i := 13) rfl)) (hw _ (List.mem_of_getElem? (i := 2) rfl)) (by decide) (by decide)) (g := (mkF m 25 #[.val (.int p0), .val (.int p1), .val (.int p2), .val (.int p3), .val (.int p4), .val (.int p5), .val (.ref b98), .unset, .unset] [(.int p5), (.int p4), (.ref a115), (.int p3), (.ref b112), (.ref b112)])) rfl (by rw [hml]; rfl) (Steps.refl _) (a := b112) (argsL := [(.int p3), (.ref a115), (.int p4), (.int p5)]) (rest := [(.ref b112)]) (lenOf pd_2 rfl) rfl (by show 2 * 0 + _ ≤ _; exact Nat.le_of_eq rfl) (hb hby at_25) (fun _ _ => ⟨rfl, e115, (by decide : 6 + 0 ≤ _), (by decide : 24 + 0 ≤ _)⟩)
  dsimp only [Pt.U, Pt.locs, Pt.cells, Pt.slots] at X123 l123 y123 z123 st123 hQ123
  subst l123 y123 z123
  obtain ⟨rfl, N123q, Kq123, Eq123_0, Fq123_0, Fq123_1, Fq123_2, Fq123_3⟩ := hQ123
  have K123 : Keep h0 T123.heap [] := K115.trans Kq123 (allS (Or.inr sz_b112) all0)
  have N123 := Fr.app N109 N123q
  have k124 := fun (t : State) (kk : Steps p.tables e below (T123.setTop (mkF m 28 #[.val (.int p0), .val (.int p1), .val (.int p2), .val (.int p3), .val (.int p4), .val (.int p5), .val (.ref b98), .unset, .unset] [(.ref b112)])) t) => k117 t (st123.trans kk)
  have k125 := fun (t : State) (kk : Steps p.tables e below (T123.setTop (mkF m 34 #[.val (.int p0), .val (.int p1), .val (.int p2), .val (.int p3), .val (.int p4), .val (.int p5), .val (.ref b98), .val (.ref b112), .unset] [(.ref b112), (.ref b98)])) t) => k124 t (by
    show Steps p.tables e below (T123.setTop (mkF m 28 #[.val (.int p0), .val (.int p1), .val (.int p2), .val (.int p3), .val (.int p4), .val (.int p5), .val (.ref b98), .unset, .unset] [(.ref b112)])) _
    refine XS.astore X123.here hx rfl (hb hby at_28) rfl rfl (l' := #[.val (.int p0), .val (.int p1), .val (.int p2), .val (.int p3), .val (.int p4), .val (.int p5), .val (.ref b98), .val (.ref b112), .unset]) rfl ?_
    show Steps p.tables e below (T123.setTop (mkF m 30 #[.val (.int p0), .val (.int p1), .val (.int p2), .val (.int p3), .val (.int p4), .val (.int p5), .val (.ref b98), .val (.ref b112), .unset] [])) _
    refine XS.aload X123.here hx rfl (hb hby at_30) rfl rfl ?_
    show Steps p.tables e below (T123.setTop (mkF m 32 #[.val (.int p0), .val (.int p1), .val (.int p2), .val (.int p3), .val (.int p4), .val (.int p5), .val (.ref b98), .val (.ref b112), .unset] [(.ref b98)])) _
    refine XS.aload X123.here hx rfl (hb hby at_32) rfl rfl ?_
    exact kk)
  have f126 := (((Fq109_0.ext E112).ext E115).keep Kq123 (ninS ne_b98_b112 nin0))
  have f127 := (((Fq109_2.ext E112).ext E115).keep Kq123 (ninS ne_b98_b112 nin0))
  have f128 := (((Fq109_3.ext E112).ext E115).keep Kq123 (ninS ne_b98_b112 nin0))
  have Zz129 : n0 ≤ T123.heap.size := (Nat.le_trans Z0 K123.1)
  have f130 := (((Eq109_0.ext E112).ext E115).keep Kq123)
  obtain ⟨cq129, kq129, q129a, q129b, q129c⟩ := isOf hZ rfl f130
  obtain ⟨_, _, ⟨T129, L129, k129, n129⟩, -, X129, ⟨Lc129, hQ129, l129, y129, z129⟩, st129⟩ := X123.virtualBack hx (y := (⟨"com/example/protoscope/protoscope/source/SourcePosition", "compareTo", "(Lcom/example/protoscope/protoscope/source/SourcePosition;)I"⟩ : MethodName)) (z := (⟨"com/example/protoscope/protoscope/source/SourcePosition", "compareTo", "(Lcom/example/protoscope/protoscope/source/SourcePosition;)I"⟩ : MethodName)) hown (mvT hZ (hw _ (List.mem_of_getElem? (i := 31) rfl))) (mvT hZ (hw _ (List.mem_of_getElem? (i := 32) rfl))) (notFace_of_selects (args := #[]) (mvT hZ (hw _ (List.mem_of_getElem? (i := 34) rfl)))) (mvT hZ (hw _ (List.mem_of_getElem? (i := 34) rfl))) (mvT hZ (hw _ (List.mem_of_getElem? (i := 33) rfl))) (by decide) (backOf (W := 0) (rm4 l Z a0 hw [] b98 b112 p0 p3 p1 p4 p2 p5 T123.heap n0 Zz129 f126 Fq123_0 f127 Fq123_2 f128 Fq123_3) hZ (hw _ (List.mem_of_getElem? (i := 35) rfl)) (hw _ (List.mem_of_getElem? (i := 2) rfl)) (by decide) (by decide)) q129a q129c (g := (mkF m 34 #[.val (.int p0), .val (.int p1), .val (.int p2), .val (.int p3), .val (.int p4), .val (.int p5), .val (.ref b98), .val (.ref b112), .unset] [(.ref b112), (.ref b98)])) rfl (by rw [hml]; rfl) (Steps.refl _) (argsL := [(.ref b112)]) (rest := []) (lenOf pd_3 rfl) rfl (by show 2 * 0 + _ ≤ _; exact Nat.le_of_eq rfl) (hb hby at_34) (fun _ _ => ⟨rfl, rfl, (by decide : 6 + 0 ≤ _), (by decide : 24 + 0 ≤ _)⟩)
  dsimp only [Pt.U, Pt.locs, Pt.cells, Pt.slots] at X129 l129 y129 z129 st129 hQ129
  subst l129 y129 z129
  obtain ⟨rfl, N129q, e129⟩ := hQ129
  have N129 := Fr.app N123 N129q
  have k131 := fun (t : State) (kk : Steps p.tables e below (T129.setTop (mkF m 37 #[.val (.int p0), .val (.int p1), .val (.int p2), .val (.int p3), .val (.int p4), .val (.int p5), .val (.ref b98), .val (.ref b112), .unset] [(.int (v4_ret p0 p3 p1 p4 p2 p5))])) t) => k125 t (st129.trans kk)
  have k132 := fun (t : State) (kk : Steps p.tables e below (T129.setTop (mkF m 41 #[.val (.int p0), .val (.int p1), .val (.int p2), .val (.int p3), .val (.int p4), .val (.int p5), .val (.ref b98), .val (.ref b112), .val (.int (v4_ret p0 p3 p1 p4 p2 p5))] [(.int (v4_ret p0 p3 p1 p4 p2 p5))])) t) => k131 t (by
    show Steps p.tables e below (T129.setTop (mkF m 37 #[.val (.int p0), .val (.int p1), .val (.int p2), .val (.int p3), .val (.int p4), .val (.int p5), .val (.ref b98), .val (.ref b112), .unset] [(.int (v4_ret p0 p3 p1 p4 p2 p5))])) _
    refine XS.istore X129.here hx rfl (hb hby at_37) rfl (l' := #[.val (.int p0), .val (.int p1), .val (.int p2), .val (.int p3), .val (.int p4), .val (.int p5), .val (.ref b98), .val (.ref b112), .val (.int (v4_ret p0 p3 p1 p4 p2 p5))]) rfl ?_
    show Steps p.tables e below (T129.setTop (mkF m 39 #[.val (.int p0), .val (.int p1), .val (.int p2), .val (.int p3), .val (.int p4), .val (.int p5), .val (.ref b98), .val (.ref b112), .val (.int (v4_ret p0 p3 p1 p4 p2 p5))] [])) _
    refine XS.iload X129.here hx rfl (hb hby at_39) rfl ?_
    exact kk)
  have Zz133 : n0 ≤ T123.heap.size := (Nat.le_trans Z0 K123.1)
  obtain ⟨_, _, ⟨T133, L133, k133, n133⟩, -, X133, ⟨Lc133, hQ133, l133, y133, z133⟩, st133⟩ := Jvm.LawKit.callS X129 hx (y := (⟨"com/example/protoscope/protoscope/source/SourcePositionCompareToPinLaw", "sign", "(I)I"⟩ : MethodName)) hown (mvT hZ (hw _ (List.mem_of_getElem? (i := 40) rfl))) (mvT hZ (hw _ (List.mem_of_getElem? (i := 41) rfl))) (mvT hZ (hw _ (List.mem_of_getElem? (i := 42) rfl))) (mvT hZ (hw _ (List.mem_of_getElem? (i := 43) rfl))) (by decide) (backOf (W := 0) (rm6 l Z a0 hw [] (v4_ret p0 p3 p1 p4 p2 p5) T123.heap n0 Zz133) hZ (hw _ (List.mem_of_getElem? (i := 43) rfl)) (hw _ (List.mem_of_getElem? (i := 42) rfl)) (by decide) (by decide)) (g := (mkF m 41 #[.val (.int p0), .val (.int p1), .val (.int p2), .val (.int p3), .val (.int p4), .val (.int p5), .val (.ref b98), .val (.ref b112), .val (.int (v4_ret p0 p3 p1 p4 p2 p5))] [(.int (v4_ret p0 p3 p1 p4 p2 p5))])) rfl (by rw [hml]; rfl) (argsL := [(.int (v4_ret p0 p3 p1 p4 p2 p5))]) (rest := []) (lenOf pd_4 rfl) rfl (by show 2 * 0 + _ ≤ _; exact Nat.le_of_eq rfl) (hb hby at_41) (fun _ _ => ⟨rfl, e129, (by decide : 6 + 0 ≤ _), (by decide : 24 + 0 ≤ _)⟩)
  dsimp only [Pt.U, Pt.locs, Pt.cells, Pt.slots] at X133 l133 y133 z133 st133 hQ133
  subst l133 y133 z133
  obtain ⟨rfl, N133q, e133⟩ := hQ133
  have N133 := Fr.app N129 N133q
  have k134 := fun (t : State) (kk : Steps p.tables e below (T133.setTop (mkF m 44 #[.val (.int p0), .val (.int p1), .val (.int p2), .val (.int p3), .val (.int p4), .val (.int p5), .val (.ref b98), .val (.ref b112), .val (.int (v4_ret p0 p3 p1 p4 p2 p5))] [(.int (v6_ret (v4_ret p0 p3 p1 p4 p2 p5)))])) t) => k132 t (st133 _ kk)
  have k135 := fun (t : State) (kk : Steps p.tables e below (T133.setTop (mkF m 52 #[.val (.int p0), .val (.int p1), .val (.int p2), .val (.int p3), .val (.int p4), .val (.int p5), .val (.ref b98), .val (.ref b112), .val (.int (v4_ret p0 p3 p1 p4 p2 p5))] [(.int p5), (.int p4), (.int p3), (.int p2), (.int p1), (.int p0), (.int (v6_ret (v4_ret p0 p3 p1 p4 p2 p5)))])) t) => k134 t (by
    show Steps p.tables e below (T133.setTop (mkF m 44 #[.val (.int p0), .val (.int p1), .val (.int p2), .val (.int p3), .val (.int p4), .val (.int p5), .val (.ref b98), .val (.ref b112), .val (.int (v4_ret p0 p3 p1 p4 p2 p5))] [(.int (v6_ret (v4_ret p0 p3 p1 p4 p2 p5)))])) _
    refine XS.iloadN X133.here hx rfl (hb hby at_44) rfl ?_
    show Steps p.tables e below (T133.setTop (mkF m 45 #[.val (.int p0), .val (.int p1), .val (.int p2), .val (.int p3), .val (.int p4), .val (.int p5), .val (.ref b98), .val (.ref b112), .val (.int (v4_ret p0 p3 p1 p4 p2 p5))] [(.int p0), (.int (v6_ret (v4_ret p0 p3 p1 p4 p2 p5)))])) _
    refine XS.iloadN X133.here hx rfl (hb hby at_45) rfl ?_
    show Steps p.tables e below (T133.setTop (mkF m 46 #[.val (.int p0), .val (.int p1), .val (.int p2), .val (.int p3), .val (.int p4), .val (.int p5), .val (.ref b98), .val (.ref b112), .val (.int (v4_ret p0 p3 p1 p4 p2 p5))] [(.int p1), (.int p0), (.int (v6_ret (v4_ret p0 p3 p1 p4 p2 p5)))])) _
    refine XS.iloadN X133.here hx rfl (hb hby at_46) rfl ?_
    show Steps p.tables e below (T133.setTop (mkF m 47 #[.val (.int p0), .val (.int p1), .val (.int p2), .val (.int p3), .val (.int p4), .val (.int p5), .val (.ref b98), .val (.ref b112), .val (.int (v4_ret p0 p3 p1 p4 p2 p5))] [(.int p2), (.int p1), (.int p0), (.int (v6_ret (v4_ret p0 p3 p1 p4 p2 p5)))])) _
    refine XS.iloadN X133.here hx rfl (hb hby at_47) rfl ?_
    show Steps p.tables e below (T133.setTop (mkF m 48 #[.val (.int p0), .val (.int p1), .val (.int p2), .val (.int p3), .val (.int p4), .val (.int p5), .val (.ref b98), .val (.ref b112), .val (.int (v4_ret p0 p3 p1 p4 p2 p5))] [(.int p3), (.int p2), (.int p1), (.int p0), (.int (v6_ret (v4_ret p0 p3 p1 p4 p2 p5)))])) _
    refine XS.iload X133.here hx rfl (hb hby at_48) rfl ?_
    show Steps p.tables e below (T133.setTop (mkF m 50 #[.val (.int p0), .val (.int p1), .val (.int p2), .val (.int p3), .val (.int p4), .val (.int p5), .val (.ref b98), .val (.ref b112), .val (.int (v4_ret p0 p3 p1 p4 p2 p5))] [(.int p4), (.int p3), (.int p2), (.int p1), (.int p0), (.int (v6_ret (v4_ret p0 p3 p1 p4 p2 p5)))])) _
    refine XS.iload X133.here hx rfl (hb hby at_50) rfl ?_
    exact kk)
  have Zz136 : n0 ≤ T123.heap.size := (Nat.le_trans Z0 K123.1)
  obtain ⟨_, _, ⟨T136, L136, k136, n136⟩, -, X136, ⟨Lc136, hQ136, l136, y136, z136⟩, st136⟩ := Jvm.LawKit.callS X133 hx (y := (⟨"com/example/protoscope/protoscope/source/SourcePositionCompareToPinLaw", "expected", "(IIIIII)I"⟩ : MethodName)) hown (mvT hZ (hw _ (List.mem_of_getElem? (i := 44) rfl))) (mvT hZ (hw _ (List.mem_of_getElem? (i := 45) rfl))) (mvT hZ (hw _ (List.mem_of_getElem? (i := 42) rfl))) (mvT hZ (hw _ (List.mem_of_getElem? (i := 46) rfl))) (by decide) (backOf (W := 1) (rm7 l Z a0 hw [] p0 p1 p2 p3 p4 p5 T123.heap n0 Zz136) hZ (hw _ (List.mem_of_getElem? (i := 46) rfl)) (hw _ (List.mem_of_getElem? (i := 42) rfl)) (by decide) (by decide)) (g := (mkF m 52 #[.val (.int p0), .val (.int p1), .val (.int p2), .val (.int p3), .val (.int p4), .val (.int p5), .val (.ref b98), .val (.ref b112), .val (.int (v4_ret p0 p3 p1 p4 p2 p5))] [(.int p5), (.int p4), (.int p3), (.int p2), (.int p1), (.int p0), (.int (v6_ret (v4_ret p0 p3 p1 p4 p2 p5)))])) rfl (by rw [hml]; rfl) (argsL := [(.int p0), (.int p1), (.int p2), (.int p3), (.int p4), (.int p5)]) (rest := [(.int (v6_ret (v4_ret p0 p3 p1 p4 p2 p5)))]) (lenOf pd_5 rfl) rfl (by show 2 * 0 + _ ≤ _; exact Nat.le_of_eq rfl) (hb hby at_52) (fun _ _ => ⟨rfl, e133, (by decide : 6 + 0 ≤ _), (by decide : 24 + 0 ≤ _)⟩)
  dsimp only [Pt.U, Pt.locs, Pt.cells, Pt.slots] at X136 l136 y136 z136 st136 hQ136
  subst l136 y136 z136
  obtain ⟨rfl, N136q, e136⟩ := hQ136
  have N136 := Fr.app N133 N136q
  have k137 := fun (t : State) (kk : Steps p.tables e below (T136.setTop (mkF m 55 #[.val (.int p0), .val (.int p1), .val (.int p2), .val (.int p3), .val (.int p4), .val (.int p5), .val (.ref b98), .val (.ref b112), .val (.int (v4_ret p0 p3 p1 p4 p2 p5))] [(.int (v7_ret p0 p1 p2 p3 p4 p5)), (.int (v6_ret (v4_ret p0 p3 p1 p4 p2 p5)))])) t) => k135 t (st136 _ kk)
  have k140 := fun (t : State) (kk : Steps p.tables e below (T136.setTop (mkF m 63 #[.val (.int p0), .val (.int p1), .val (.int p2), .val (.int p3), .val (.int p4), .val (.int p5), .val (.ref b98), .val (.ref b112), .val (.int (v4_ret p0 p3 p1 p4 p2 p5))] [(.int (v0_55_s0 p0 p1 p2 p3 p4 p5))])) t) => k137 t (by
    suffices k139 : Steps p.tables e below (T136.setTop (mkF m 63 #[.val (.int p0), .val (.int p1), .val (.int p2), .val (.int p3), .val (.int p4), .val (.int p5), .val (.ref b98), .val (.ref b112), .val (.int (v4_ret p0 p3 p1 p4 p2 p5))] [(.int (v0_55_s0 p0 p1 p2 p3 p4 p5))])) t by
      by_cases hc55_138 : (v6_ret (v4_ret p0 p3 p1 p4 p2 p5)) = (v7_ret p0 p1 p2 p3 p4 p5)
      · rw [(show (v0_55_s0 p0 p1 p2 p3 p4 p5) = (1 : Int32) from if_pos hc55_138)] at k139
        show Steps p.tables e below (T136.setTop (mkF m 55 #[.val (.int p0), .val (.int p1), .val (.int p2), .val (.int p3), .val (.int p4), .val (.int p5), .val (.ref b98), .val (.ref b112), .val (.int (v4_ret p0 p3 p1 p4 p2 p5))] [(.int (v7_ret p0 p1 p2 p3 p4 p5)), (.int (v6_ret (v4_ret p0 p3 p1 p4 p2 p5)))])) _
        refine XS.icmpNo X136.here hx rfl (hb hby at_55) rfl (teq hc55_138).2 ?_
        show Steps p.tables e below (T136.setTop (mkF m 58 #[.val (.int p0), .val (.int p1), .val (.int p2), .val (.int p3), .val (.int p4), .val (.int p5), .val (.ref b98), .val (.ref b112), .val (.int (v4_ret p0 p3 p1 p4 p2 p5))] [])) _
        refine XS.iconst X136.here hx rfl (hb hby at_58) ?_
        show Steps p.tables e below (T136.setTop (mkF m 59 #[.val (.int p0), .val (.int p1), .val (.int p2), .val (.int p3), .val (.int p4), .val (.int p5), .val (.ref b98), .val (.ref b112), .val (.int (v4_ret p0 p3 p1 p4 p2 p5))] [(.int (1 : Int32))])) _
        refine XS.goto X136.here hx rfl (pc0 := 59) (pc' := 63) rfl (hb hby at_59) (by decide) (by decide) ?_
        exact k139
      · rw [(show (v0_55_s0 p0 p1 p2 p3 p4 p5) = (0 : Int32) from if_neg hc55_138)] at k139
        show Steps p.tables e below (T136.setTop (mkF m 55 #[.val (.int p0), .val (.int p1), .val (.int p2), .val (.int p3), .val (.int p4), .val (.int p5), .val (.ref b98), .val (.ref b112), .val (.int (v4_ret p0 p3 p1 p4 p2 p5))] [(.int (v7_ret p0 p1 p2 p3 p4 p5)), (.int (v6_ret (v4_ret p0 p3 p1 p4 p2 p5)))])) _
        refine XS.icmpYes X136.here hx rfl (pc0 := 55) (pc' := 62) rfl (hb hby at_55) rfl (feq hc55_138).2 (by decide) (by decide) ?_
        show Steps p.tables e below (T136.setTop (mkF m 62 #[.val (.int p0), .val (.int p1), .val (.int p2), .val (.int p3), .val (.int p4), .val (.int p5), .val (.ref b98), .val (.ref b112), .val (.int (v4_ret p0 p3 p1 p4 p2 p5))] [])) _
        refine XS.iconst X136.here hx rfl (hb hby at_62) ?_
        exact k139
    exact kk)
  have hkk : kk115 ≤ T136.heap.size := Nat.le_trans hk115 (by rw [e136]; exact Nat.le_trans (Nat.le_refl _) Kq123.1)
  obtain ⟨fs, hr, hrun, hended, -, hW, hB, hsame⟩ := X136.leaveW hS115 hkk (v := some (.int (nar .boolean (v0_55_s0 p0 p1 p2 p3 p4 p5)))) (fun h => by rw [Bd.returns] at h; cases h)
  have hv : (nar .boolean (v0_55_s0 p0 p1 p2 p3 p4 p5)) = (nar .boolean (v0_55_s0 p0 p1 p2 p3 p4 p5)) := rfl
  have hone : (nar .boolean (v0_55_s0 p0 p1 p2 p3 p4 p5)) = 1 := hv.symm.trans (own_law p0 p1 p2 p3 p4 p5)
  refine ⟨_, _, k140 _ ?_, hrun, hended, _, _, rfl, ?_, ⟨_, rfl⟩, hW, hB, hsame.mono (by decide) (by decide)⟩
  · show Steps p.tables e below (T136.setTop (mkF m 63 #[.val (.int p0), .val (.int p1), .val (.int p2), .val (.int p3), .val (.int p4), .val (.int p5), .val (.ref b98), .val (.ref b112), .val (.int (v4_ret p0 p3 p1 p4 p2 p5))] [(.int (v0_55_s0 p0 p1 p2 p3 p4 p5))])) _
    exact retN X136 hx (t := .boolean) Bd.returns (by simp) (hb hby at_63) hr
  · show Q0 Z p0 p1 p2 p3 p4 p5 h0 n0 _ T136.heap _
    rw [e136]
    exact ⟨congrArg (fun z => some (Value.int z)) hone, N136⟩
set_option maxRecDepth 65536 in
set_option maxHeartbeats 40000000 in
theorem comes_1 {Post : Tables → Env → Array Value → State → Outcome → State → Prop} (hpost : ∀ tb e args s v u, (limb_1_1.after args s (.returned v) u = true ∧ limb_1_2.after args s (.returned v) u = true ∧ True) → ReturnedEndW s (.returned v) u (Jvm.fieldLocs frame_1_writes args s ++ Jvm.arrayLocs frame_1_arrays args s ++ Jvm.staticLocs frame_1_statics s) 16 2176 → Post tb e args s (.returned v) u) :
    ArmFor flags0 classFile x code maxLocals ret World_1 tables_1 room_1 Calls_1 rest_1 Pre_1 Post := by
  intro l hfl _ _ p e ha hc hk s m args below hf hA hF happ hP
  obtain ⟨hcalls, hrest, hpre⟩ := hP
  obtain ⟨-, -, -, hnamed, -, -, -, hat⟩ := (Spec.applies_iff hf).mp happ
  obtain ⟨hg, hn⟩ := and_e (Cond.before_iff.mp (show (Jvm.Cond.and given_1 narrow_1).before args s = true from hpre))
  obtain ⟨hcnt, hg0⟩ := and_e hg
  obtain ⟨ha0, hg1⟩ := and_e hg0
  obtain ⟨ha1, hg2⟩ := and_e hg1
  obtain ⟨ha2, hg3⟩ := and_e hg2
  obtain ⟨ha3, hg4⟩ := and_e hg3
  obtain ⟨ha4, hg5⟩ := and_e hg4
  have ha5 := hg5
  obtain ⟨w0, w1, w2, w3, w4, w5, rfl⟩ : ∃ w0 w1 w2 w3 w4 w5 : Value, args = #[w0, w1, w2, w3, w4, w5] := by
    have hs : args.size = 6 := by simpa [Cond.value, given_1] using hcnt
    obtain ⟨L⟩ := args
    match L, hs with
    | [w0, w1, w2, w3, w4, w5], _ => exact ⟨w0, w1, w2, w3, w4, w5, rfl⟩
  have hw := fun d (hd : d ∈ tables_1) => atoms_spec (ws := Jvm.Cond.code x code maxLocals ret :: tables_1) hat d (List.mem_cons_of_mem _ hd)
  have hfit : Fit s := fun {y c} hc i hi => by
    obtain ⟨ha, rfl⟩ := Array.getElem?_eq_some_iff.mp hc
    have q := List.all_eq_true.mp ((Array.all_eq_true_iff_forall_mem.mp hF) _ (Array.getElem_mem ha)) i (List.mem_range.mpr hi)
    simpa [Array.getElem?_eq_getElem hi] using q
  obtain ⟨p0, ea0⟩ := is_v ha0
  obtain rfl : w0 = (.int p0) := Option.some.inj ea0
  obtain ⟨p1, ea1⟩ := is_v ha1
  obtain rfl : w1 = (.int p1) := Option.some.inj ea1
  obtain ⟨p2, ea2⟩ := is_v ha2
  obtain rfl : w2 = (.int p2) := Option.some.inj ea2
  obtain ⟨p3, ea3⟩ := is_v ha3
  obtain rfl : w3 = (.int p3) := Option.some.inj ea3
  obtain ⟨p4, ea4⟩ := is_v ha4
  obtain rfl : w4 = (.int p4) := Option.some.inj ea4
  obtain ⟨p5, ea5⟩ := is_v ha5
  obtain rfl : w5 = (.int p5) := Option.some.inj ea5
  obtain ⟨n, o, h1, h2, h3, _, L, rfl, ⟨rfl, N⟩, hq⟩ := rm0 l s _ hw tables_1 p0 p1 p2 p3 p4 p5 s.heap s.heap.size (Nat.le_refl _)  p e ha hc hk s m _ below hf ((Spec.applies_iff_loose hf).mp happ).1 ⟨rfl, State.Warmed39.refl s, rfl⟩ trivial
  refine ⟨n, _, h1, h2, h3, hpost _ _ _ _ _ _ ⟨Cond.after_iff.mpr rfl, Cond.after_iff.mpr (eq_i res_at (Term.int_eval (1)) rfl), trivial⟩ ⟨hq.1, hq.2.1, hq.2.2.1, (hq.2.2.2.sift fun y hy => Or.inr (N y hy)).mono (by decide) (by decide)⟩⟩
theorem main_1_1 : Claimed_1_1 := comes_1 fun _ _ _ _ _ _ h hF => ⟨h.1, hF⟩
theorem main_1_2 : Claimed_1_2 := comes_1 fun _ _ _ _ _ _ h hF => ⟨h.2.1, hF⟩
end Jvm.Pilot.@@N@@
namespace Jvm.Pilot.@@N@@
open Jvm Jvm.ClassFile Sem Op Lib Jvm.Free Jvm.Stand Jvm.Pilot.@@N@@.Jvm.D
/-! MADE BY PROGRAM (witnessworld.py) out of the Statement's table words and the real class files: 17 classes; the members and pool entries that the words name. The judged class is class 1, her method 3. -/
namespace start1
open Jvm.ClassFile
def u (s : String) : CpInfo := .utf8 (stringToUtf16 s)
/-- a pool by its gaps: so many unusable entries, then the entry; so many at the end -/
def gap : Nat → List CpInfo → List CpInfo
  | 0, r => r
  | n + 1, r => .unusable :: gap n r
def poolList (es : List (Nat × CpInfo)) (last : Nat) : List CpInfo := es.foldr (fun e r => gap e.1 (e.2 :: r)) (gap last [])
def pool (es : List (Nat × CpInfo)) (last : Nat) : Array CpInfo := ⟨poolList es last⟩
def fileOf (pool : Array CpInfo) (this : Nat) (attrs : Array Attribute := #[]) (ms : Array MethodInfo := #[]) (fl : Nat := 33) (sup : Nat := 0) (ifs : Array Nat := #[]) (fds : Array FieldInfo := #[]) : ClassFile where
  minorVersion := 0
  majorVersion := 65
  constantPool := pool
  accessFlags := fl
  thisClass := this
  superClass := sup
  interfaces := ifs
  fields := fds
  methods := ms
  attributes := attrs
def plain (name : String) (sup : Option ClassId) : Class where
  name := name
  kind := .ordinary
  loader := none
  accessFlags := 33
  super := sup
  interfaces := #[]
  cf := none
  fields := #[]
  methods := #[]
  instanceTypes := #[]
  staticTypes := #[]
  resolved := #[]
  callSites := []
  init := .initialized
  statics := none
  mirror := none

def pool0 : Array CpInfo := pool [(5, u "<init>"), (0, u "()V"), (1, .class_ 10), (1, u "java/lang/Object")] 113

def k0c0 : Code := { maxStack := 0, maxLocals := 1, code := object_method_1_code, exceptionTable := #[], attributes := #[] }
def k0m0 : Method := { name := "<init>", desc := "()V", sig := { parameters := [], returnType := none }, accessFlags := 1, code := some k0c0 }
/-- java/lang/Object -/
def k0 : Class := { plain "java/lang/Object" none with
  accessFlags := 33
  interfaces := #[]
  cf := some (fileOf pool0 8 #[] #[{ accessFlags := 1, nameIndex := 5, descriptorIndex := 6, attributes := #[] }] 33 0 #[] #[])
  fields := #[]
  methods := #[k0m0]
  instanceTypes := #[]
  staticTypes := #[]
  resolved := Array.replicate 124 none
  statics := none }

def pool1 : Array CpInfo := pool [(2, .class_ 4), (1, u "java/lang/Object"), (0, u "<init>"), (0, u "()V"), (0, .class_ 8), (0, u "com/example/protoscope/protoscope/source/SourcePosition"), (0, .string 10), (0, u "a"), (0, .methodref 7 12), (0, .nameAndType 5 13), (0, u "(ILjava/lang/String;II)V"), (0, .string 15), (0, u "b"), (0, .methodref 7 17), (0, .nameAndType 18 19), (0, u "compareTo"), (0, u "(Lcom/example/protoscope/protoscope/source/SourcePosition;)I"), (0, .methodref 21 22), (0, .class_ 23), (0, .nameAndType 24 25), (0, u "com/example/protoscope/protoscope/source/SourcePositionCompareToPinLaw"), (0, u "sign"), (0, u "(I)I"), (0, .methodref 21 27), (0, .nameAndType 28 29), (0, u "expected"), (0, u "(IIIIII)I"), (3, u "law"), (0, u "(IIIIII)Z")] 2

def k1m0 : Method := { name := "<init>", desc := "()V", sig := { parameters := [], returnType := none }, accessFlags := 1, code := none }
def k1c1 : Code := { maxStack := 1, maxLocals := 1, code := method_2_code, exceptionTable := #[], attributes := #[] }
def k1m1 : Method := { name := "sign", desc := "(I)I", sig := { parameters := [.int], returnType := some .int }, accessFlags := 10, code := some k1c1 }
def k1c2 : Code := { maxStack := 2, maxLocals := 6, code := method_3_code, exceptionTable := #[], attributes := #[] }
def k1m2 : Method := { name := "expected", desc := "(IIIIII)I", sig := { parameters := [.int, .int, .int, .int, .int, .int], returnType := some .int }, accessFlags := 10, code := some k1c2 }
def k1c3 : Code := { maxStack := 7, maxLocals := 9, code := code, exceptionTable := #[], attributes := #[] }
def k1m3 : Method := { name := "law", desc := "(IIIIII)Z", sig := { parameters := [.int, .int, .int, .int, .int, .int], returnType := some .boolean }, accessFlags := 9, code := some k1c3 }
/-- com/example/protoscope/protoscope/source/SourcePositionCompareToPinLaw -/
def k1 : Class := { plain "com/example/protoscope/protoscope/source/SourcePositionCompareToPinLaw" (some 0) with
  accessFlags := 49
  interfaces := #[]
  cf := some (fileOf pool1 21 #[] #[{ accessFlags := 1, nameIndex := 5, descriptorIndex := 6, attributes := #[] }, { accessFlags := 10, nameIndex := 24, descriptorIndex := 25, attributes := #[] }, { accessFlags := 10, nameIndex := 28, descriptorIndex := 29, attributes := #[] }, { accessFlags := 9, nameIndex := 33, descriptorIndex := 34, attributes := #[] }] 49 2 #[] #[])
  fields := #[]
  methods := #[k1m0, k1m1, k1m2, k1m3]
  instanceTypes := #[]
  staticTypes := #[]
  resolved := Array.replicate 37 none
  statics := none }

def pool2 : Array CpInfo := pool [(1, .methodref 2 3), (0, .class_ 4), (0, .nameAndType 5 6), (0, u "java/lang/Object"), (0, u "<init>"), (0, u "()V"), (0, .class_ 8), (0, u "java/lang/Record")] 13

def k2c0 : Code := { maxStack := 1, maxLocals := 1, code := jdk_30_method_1_code, exceptionTable := #[], attributes := #[] }
def k2m0 : Method := { name := "<init>", desc := "()V", sig := { parameters := [], returnType := none }, accessFlags := 4, code := some k2c0 }
/-- java/lang/Record -/
def k2 : Class := { plain "java/lang/Record" (some 0) with
  accessFlags := 1057
  interfaces := #[]
  cf := some (fileOf pool2 7 #[] #[{ accessFlags := 4, nameIndex := 5, descriptorIndex := 6, attributes := #[] }] 1057 2 #[] #[])
  fields := #[]
  methods := #[k2m0]
  instanceTypes := #[]
  staticTypes := #[]
  resolved := Array.replicate 22 none
  statics := none }

def pool3 : Array CpInfo := pool [(1, .class_ 2), (0, u "java/lang/Comparable"), (0, .class_ 4), (0, u "java/lang/Object")] 7

/-- java/lang/Comparable -/
def k3 : Class := { plain "java/lang/Comparable" (some 0) with
  accessFlags := 1537
  interfaces := #[]
  cf := some (fileOf pool3 1 #[] #[] 1537 3 #[] #[])
  fields := #[]
  methods := #[]
  instanceTypes := #[]
  staticTypes := #[]
  resolved := Array.replicate 12 none
  statics := none }

def pool4 : Array CpInfo := pool [(1, .methodref 2 3), (0, .class_ 4), (0, .nameAndType 5 6), (0, u "java/lang/Record"), (0, u "<init>"), (0, u "()V"), (0, .fieldref 8 9), (0, .class_ 10), (0, .nameAndType 11 12), (0, u "com/example/protoscope/protoscope/source/SourcePosition"), (0, u "fileIndex"), (0, u "I"), (0, .fieldref 8 14), (0, .nameAndType 15 16), (0, u "path"), (0, u "Ljava/lang/String;"), (0, .fieldref 8 18), (0, .nameAndType 19 12), (0, u "line"), (0, .fieldref 8 21), (0, .nameAndType 22 12), (0, u "column"), (0, .methodref 24 25), (0, .class_ 26), (0, .nameAndType 27 28), (0, u "java/lang/Integer"), (0, u "compare"), (0, u "(II)I"), (6, u "compareTo"), (0, u "(Lcom/example/protoscope/protoscope/source/SourcePosition;)I"), (7, .class_ 45), (0, u "java/lang/Comparable"), (0, u "(ILjava/lang/String;II)V")] 42

def k4c0 : Code := { maxStack := 2, maxLocals := 5, code := prog_95_method_1_code, exceptionTable := #[], attributes := #[] }
def k4m0 : Method := { name := "<init>", desc := "(ILjava/lang/String;II)V", sig := { parameters := [.int, (.object "java/lang/String"), .int, .int], returnType := none }, accessFlags := 1, code := some k4c0 }
def k4c1 : Code := { maxStack := 2, maxLocals := 2, code := prog_95_method_2_code, exceptionTable := #[], attributes := #[] }
def k4m1 : Method := { name := "compareTo", desc := "(Lcom/example/protoscope/protoscope/source/SourcePosition;)I", sig := { parameters := [(.object "com/example/protoscope/protoscope/source/SourcePosition")], returnType := some .int }, accessFlags := 1, code := some k4c1 }
/-- com/example/protoscope/protoscope/source/SourcePosition -/
def k4 : Class := { plain "com/example/protoscope/protoscope/source/SourcePosition" (some 2) with
  accessFlags := 49
  interfaces := #[3]
  cf := some (fileOf pool4 8 #[] #[{ accessFlags := 1, nameIndex := 5, descriptorIndex := 46, attributes := #[] }, { accessFlags := 1, nameIndex := 35, descriptorIndex := 36, attributes := #[] }] 49 2 #[44] #[{ accessFlags := 18, nameIndex := 11, descriptorIndex := 12, attributes := #[] }, { accessFlags := 18, nameIndex := 15, descriptorIndex := 16, attributes := #[] }, { accessFlags := 18, nameIndex := 19, descriptorIndex := 12, attributes := #[] }, { accessFlags := 18, nameIndex := 22, descriptorIndex := 12, attributes := #[] }])
  fields := #[{ name := "fileIndex", type := .int, accessFlags := 18, slot := 0, constantValue := 0 }, { name := "path", type := (.object "java/lang/String"), accessFlags := 18, slot := 1, constantValue := 0 }, { name := "line", type := .int, accessFlags := 18, slot := 2, constantValue := 0 }, { name := "column", type := .int, accessFlags := 18, slot := 3, constantValue := 0 }]
  methods := #[k4m0, k4m1]
  instanceTypes := #[.int, (.object "java/lang/String"), .int, .int]
  staticTypes := #[]
  resolved := Array.replicate 89 none
  statics := none }

def pool5 : Array CpInfo := pool [(1, .class_ 2), (0, u "java/io/Serializable"), (0, .class_ 4), (0, u "java/lang/Object")] 2

/-- java/io/Serializable -/
def k5 : Class := { plain "java/io/Serializable" (some 0) with
  accessFlags := 1537
  interfaces := #[]
  cf := some (fileOf pool5 1 #[] #[] 1537 3 #[] #[])
  fields := #[]
  methods := #[]
  instanceTypes := #[]
  staticTypes := #[]
  resolved := Array.replicate 7 none
  statics := none }

def pool6 : Array CpInfo := pool [(2, .class_ 4), (1, u "java/lang/CharSequence"), (42, .class_ 48), (0, u "java/lang/CharSequence$1CodePointIterator"), (10, .class_ 60), (0, u "java/lang/CharSequence$1CharIterator"), (5, .class_ 67), (0, u "java/lang/Object")] 63

/-- java/lang/CharSequence -/
def k6 : Class := { plain "java/lang/CharSequence" (some 0) with
  accessFlags := 1537
  interfaces := #[]
  cf := some (fileOf pool6 2 #[.nestMembers #[47, 59]] #[] 1537 66 #[] #[])
  fields := #[]
  methods := #[]
  instanceTypes := #[]
  staticTypes := #[]
  resolved := Array.replicate 131 none
  statics := none }

def pool7 : Array CpInfo := pool [(1, .class_ 2), (0, u "java/lang/constant/Constable"), (0, .class_ 4), (0, u "java/lang/Object")] 6

/-- java/lang/constant/Constable -/
def k7 : Class := { plain "java/lang/constant/Constable" (some 0) with
  accessFlags := 1537
  interfaces := #[]
  cf := some (fileOf pool7 1 #[] #[] 1537 3 #[] #[])
  fields := #[]
  methods := #[]
  instanceTypes := #[]
  staticTypes := #[]
  resolved := Array.replicate 11 none
  statics := none }

def pool8 : Array CpInfo := pool [(1, .class_ 2), (0, u "java/lang/constant/ConstantDesc"), (0, .class_ 4), (0, u "java/lang/Object")] 32

/-- java/lang/constant/ConstantDesc -/
def k8 : Class := { plain "java/lang/constant/ConstantDesc" (some 0) with
  accessFlags := 1537
  interfaces := #[]
  cf := some (fileOf pool8 1 #[] #[] 1537 3 #[] #[])
  fields := #[]
  methods := #[]
  instanceTypes := #[]
  staticTypes := #[]
  resolved := Array.replicate 37 none
  statics := none }

def pool9 : Array CpInfo := pool [(2, .class_ 4), (1, u "java/lang/Object"), (0, u "<init>"), (0, u "()V"), (3, .class_ 12), (1, u "java/lang/String"), (0, u "value"), (0, u "[B"), (2, u "coder"), (0, u "B"), (2, u "hash"), (0, u "I"), (2, u "hashIsZero"), (0, u "Z"), (13, u "COMPACT_STRINGS"), (534, .class_ 576), (0, u "java/lang/CharSequence"), (22, u "CASE_INSENSITIVE_ORDER"), (0, u "Ljava/util/Comparator;"), (500, u "serialPersistentFields"), (0, u "[Ljava/io/ObjectStreamField;"), (0, .class_ 1104), (0, u "java/lang/String$CaseInsensitiveComparator"), (1, .class_ 1107), (0, u "java/io/Serializable"), (0, .class_ 1109), (0, u "java/lang/Comparable"), (0, .class_ 1111), (0, u "java/lang/constant/Constable"), (0, .class_ 1113), (0, u "java/lang/constant/ConstantDesc"), (2, u "serialVersionUID"), (0, u "J"), (3, u "REPL"), (0, u "C"), (2, u "LATIN1"), (1, u "UTF16")] 323

def k9m0 : Method := { name := "<init>", desc := "()V", sig := { parameters := [], returnType := none }, accessFlags := 1, code := none }
/-- java/lang/String -/
def k9 : Class := { plain "java/lang/String" (some 0) with
  accessFlags := 49
  interfaces := #[5, 3, 6, 7, 8]
  cf := some (fileOf pool9 10 #[.nestMembers #[1103]] #[{ accessFlags := 1, nameIndex := 5, descriptorIndex := 6, attributes := #[] }] 49 2 #[1106, 1108, 575, 1110, 1112] #[{ accessFlags := 18, nameIndex := 13, descriptorIndex := 14, attributes := #[] }, { accessFlags := 18, nameIndex := 17, descriptorIndex := 18, attributes := #[] }, { accessFlags := 2, nameIndex := 21, descriptorIndex := 22, attributes := #[] }, { accessFlags := 2, nameIndex := 25, descriptorIndex := 26, attributes := #[] }, { accessFlags := 26, nameIndex := 1116, descriptorIndex := 1117, attributes := #[] }, { accessFlags := 24, nameIndex := 40, descriptorIndex := 26, attributes := #[] }, { accessFlags := 26, nameIndex := 1101, descriptorIndex := 1102, attributes := #[] }, { accessFlags := 26, nameIndex := 1121, descriptorIndex := 1122, attributes := #[] }, { accessFlags := 25, nameIndex := 599, descriptorIndex := 600, attributes := #[] }, { accessFlags := 24, nameIndex := 1125, descriptorIndex := 18, attributes := #[] }, { accessFlags := 24, nameIndex := 1127, descriptorIndex := 18, attributes := #[] }])
  fields := #[{ name := "value", type := (.array .byte), accessFlags := 18, slot := 0, constantValue := 0 }, { name := "coder", type := .byte, accessFlags := 18, slot := 1, constantValue := 0 }, { name := "hash", type := .int, accessFlags := 2, slot := 2, constantValue := 0 }, { name := "hashIsZero", type := .boolean, accessFlags := 2, slot := 3, constantValue := 0 }, { name := "serialVersionUID", type := .long, accessFlags := 26, slot := 0, constantValue := 0 }, { name := "COMPACT_STRINGS", type := .boolean, accessFlags := 24, slot := 1, constantValue := 0 }, { name := "serialPersistentFields", type := (.array (.object "java/io/ObjectStreamField")), accessFlags := 26, slot := 2, constantValue := 0 }, { name := "REPL", type := .char, accessFlags := 26, slot := 3, constantValue := 0 }, { name := "CASE_INSENSITIVE_ORDER", type := (.object "java/util/Comparator"), accessFlags := 25, slot := 4, constantValue := 0 }, { name := "LATIN1", type := .byte, accessFlags := 24, slot := 5, constantValue := 0 }, { name := "UTF16", type := .byte, accessFlags := 24, slot := 6, constantValue := 0 }]
  methods := #[k9m0]
  instanceTypes := #[(.array .byte), .byte, .int, .boolean]
  staticTypes := #[.long, .boolean, (.array (.object "java/io/ObjectStreamField")), .char, (.object "java/util/Comparator"), .byte, .byte]
  resolved := Array.replicate 1451 none
  statics := none }

def pool10 : Array CpInfo := pool [(2, .class_ 4), (1, u "java/lang/Object"), (0, u "<init>"), (0, u "()V"), (1, .class_ 10), (1, u "java/lang/Number"), (2, .class_ 14), (0, u "java/io/Serializable"), (0, u "serialVersionUID"), (0, u "J")] 20

def k10m0 : Method := { name := "<init>", desc := "()V", sig := { parameters := [], returnType := none }, accessFlags := 1, code := none }
/-- java/lang/Number -/
def k10 : Class := { plain "java/lang/Number" (some 0) with
  accessFlags := 1057
  interfaces := #[5]
  cf := some (fileOf pool10 8 #[] #[{ accessFlags := 1, nameIndex := 5, descriptorIndex := 6, attributes := #[] }] 1057 2 #[13] #[{ accessFlags := 26, nameIndex := 15, descriptorIndex := 16, attributes := #[] }])
  fields := #[{ name := "serialVersionUID", type := .long, accessFlags := 26, slot := 0, constantValue := 0 }]
  methods := #[k10m0]
  instanceTypes := #[]
  staticTypes := #[.long]
  resolved := Array.replicate 37 none
  statics := none }

def pool11 : Array CpInfo := pool [(1, .class_ 2), (0, u "java/lang/Integer"), (16, u "digits"), (0, u "[C"), (39, u "(II)I"), (24, u "DigitOnes"), (0, u "[B"), (2, u "DigitTens"), (99, .class_ 190), (0, u "java/lang/Integer$IntegerCache"), (3, u "I"), (8, .class_ 204), (0, u "java/lang/Number"), (2, u "value"), (53, u "compare"), (40, u "TYPE"), (0, u "Ljava/lang/Class;"), (0, .class_ 305), (0, u "java/lang/Comparable"), (0, .class_ 307), (0, u "java/lang/constant/Constable"), (0, .class_ 309), (0, u "java/lang/constant/ConstantDesc"), (0, u "MIN_VALUE"), (1, u "MAX_VALUE"), (3, u "SIZE"), (1, u "BYTES"), (1, u "serialVersionUID"), (0, u "J")] 131

def k11c0 : Code := { maxStack := 2, maxLocals := 2, code := jdk_33_method_40_code, exceptionTable := #[], attributes := #[] }
def k11m0 : Method := { name := "compare", desc := "(II)I", sig := { parameters := [.int, .int], returnType := some .int }, accessFlags := 9, code := some k11c0 }
/-- java/lang/Integer -/
def k11 : Class := { plain "java/lang/Integer" (some 10) with
  accessFlags := 49
  interfaces := #[3, 7, 8]
  cf := some (fileOf pool11 1 #[.nestMembers #[189]] #[{ accessFlags := 9, nameIndex := 261, descriptorIndex := 60, attributes := #[] }] 49 203 #[304, 306, 308] #[{ accessFlags := 25, nameIndex := 310, descriptorIndex := 194, attributes := #[] }, { accessFlags := 25, nameIndex := 312, descriptorIndex := 194, attributes := #[] }, { accessFlags := 25, nameIndex := 302, descriptorIndex := 303, attributes := #[] }, { accessFlags := 24, nameIndex := 19, descriptorIndex := 20, attributes := #[] }, { accessFlags := 24, nameIndex := 89, descriptorIndex := 86, attributes := #[] }, { accessFlags := 24, nameIndex := 85, descriptorIndex := 86, attributes := #[] }, { accessFlags := 18, nameIndex := 207, descriptorIndex := 194, attributes := #[] }, { accessFlags := 25, nameIndex := 316, descriptorIndex := 194, attributes := #[] }, { accessFlags := 25, nameIndex := 318, descriptorIndex := 194, attributes := #[] }, { accessFlags := 26, nameIndex := 320, descriptorIndex := 321, attributes := #[] }])
  fields := #[{ name := "MIN_VALUE", type := .int, accessFlags := 25, slot := 0, constantValue := 0 }, { name := "MAX_VALUE", type := .int, accessFlags := 25, slot := 1, constantValue := 0 }, { name := "TYPE", type := (.object "java/lang/Class"), accessFlags := 25, slot := 2, constantValue := 0 }, { name := "digits", type := (.array .char), accessFlags := 24, slot := 3, constantValue := 0 }, { name := "DigitTens", type := (.array .byte), accessFlags := 24, slot := 4, constantValue := 0 }, { name := "DigitOnes", type := (.array .byte), accessFlags := 24, slot := 5, constantValue := 0 }, { name := "value", type := .int, accessFlags := 18, slot := 0, constantValue := 0 }, { name := "SIZE", type := .int, accessFlags := 25, slot := 6, constantValue := 0 }, { name := "BYTES", type := .int, accessFlags := 25, slot := 7, constantValue := 0 }, { name := "serialVersionUID", type := .long, accessFlags := 26, slot := 8, constantValue := 0 }]
  methods := #[k11m0]
  instanceTypes := #[.int]
  staticTypes := #[.int, .int, (.object "java/lang/Class"), (.array .char), (.array .byte), (.array .byte), .int, .int, .long]
  resolved := Array.replicate 453 none
  statics := none }

def pool12 : Array CpInfo := pool [(1, u "java/lang/Cloneable"), (0, .class_ 1), (0, u "java/lang/Object"), (0, .class_ 3)] 3

/-- java/lang/Cloneable -/
def k12 : Class := { plain "java/lang/Cloneable" (some 0) with
  accessFlags := 1537
  interfaces := #[]
  cf := some (fileOf pool12 2 #[] #[] 1537 4 #[] #[])
  fields := #[]
  methods := #[]
  instanceTypes := #[]
  staticTypes := #[]
  resolved := Array.replicate 8 none
  statics := none }

/-- the primitive byte -/
def k13 : Class := { plain "byte" none with kind := .primitive 'B', accessFlags := 0x411 }
/-- [B -/
def k14 : Class := { plain "[B" (some 0) with kind := .array 13 .byte, interfaces := #[12, 5], accessFlags := 1041 }

/-- the primitive int -/
def k15 : Class := { plain "int" none with kind := .primitive 'I', accessFlags := 0x411 }
/-- [I -/
def k16 : Class := { plain "[I" (some 0) with kind := .array 15 .int, interfaces := #[12, 5], accessFlags := 1041 }

def heap : Heap := #[]
def classes : Array Class := #[k0, k1, k2, k3, k4, k5, k6, k7, k8, k9, k10, k11, k12, k13, k14, k15, k16]
def interned : List (Array UInt16 × Addr) := []
def slotsUsed : Nat := 0
def theMethod : MethodId := ⟨1, 3⟩
def args0 : Array Value := #[.int 1, .int 2, .int 3, .int 4, .int 5, .int 6]
def aboutOver (below : List Frame) : State where
  vm := { classes := classes, interned := interned.toArray }
  heap := heap
  slotsUsed := slotsUsed
  threads := #[{ frames := .invoking theMethod args0 :: below }]
def below0 : List Frame := [.native { method := ⟨0, 0⟩, args := #[] }]
def about1 : State := aboutOver below0
def p0 : Program := .bare "" "" ""
def e0 : Env := launch0.env 0 0 0
theorem w_frames : about1.frames = Frame.invoking theMethod args0 :: below0 := rfl
set_option maxRecDepth 65536 in
theorem w_args : argsFit about1.vm theMethod args0 = true := by decide +kernel
set_option maxRecDepth 65536 in
theorem w_heap : heapFits about1 = true := by decide +kernel
set_option maxRecDepth 65536 in
theorem w_runnable : about1.curStatus? = some .runnable := by decide +kernel
set_option maxRecDepth 65536 in
theorem w_alone : about1.alone = true := by decide +kernel
set_option maxRecDepth 65536 in
theorem w_named : about1.methodNamed? x = some theMethod := by decide +kernel
set_option maxRecDepth 65536 in
theorem w_hears : about1.hears theMethod below0 = true := by decide +kernel
set_option maxRecDepth 65536 in
theorem w_ripe : about1.ripe theMethod args0 below0 = true := by decide +kernel
theorem w_running : about1.status = .running := rfl
set_option maxRecDepth 65536 in
theorem w_room : about1.hasRoom e0.platform room_1 = true :=
  launch0.hasRoom_least _ room_1 (by decide +kernel) (by decide +kernel) (by decide +kernel) (by decide +kernel) (by decide +kernel) (by decide +kernel)
theorem allAtoms_all (ts : List Jvm.Cond) (a : Array Jvm.Value) (st : Jvm.State) : (allAtoms ts).before a st = ts.all (fun c => c.before a st) := by
  induction ts with
  | nil => rfl
  | cons c t ih =>
    show (Jvm.Cond.and c (allAtoms t)).before a st = _
    rw [Jvm.Cond.before_and, ih, List.all_cons]
def words1 : List Jvm.Cond := Jvm.Cond.code x code maxLocals ret :: tables_1
/-- a 'code' word, met by the world's own term for the bytes: nothing is compared byte by byte -/
theorem code_word {y : MethodName} {bytes : ByteArray} {mx : Nat} {rt : Option FieldType} {a : Array Value} {s : State} {m : MethodId} {meth : Method} {c : Code} (h1 : s.methodNamed? y = some m) (h2 : s.vm.method? m = some meth) (h3 : meth.code = some c) (h4 : c.code = bytes)
    (h5 : (c.maxLocals == mx && c.exceptionTable.isEmpty && decide (c.maxStack ≤ mostOperands) && decide (meth.sig.returnType = rt) && !meth.locks && decide (parseMethodDescriptor y.desc = some meth.sig)) = true) : (Jvm.Cond.code y bytes mx rt).before a s = true := by
  simp only [Bool.and_eq_true, beq_iff_eq, Bool.not_eq_true', decide_eq_true_eq] at h5
  obtain ⟨⟨⟨⟨⟨g1, g2⟩, g3⟩, g4⟩, g5⟩, g6⟩ := h5
  simp [Cond.before, Cond.holds, Cond.value, h1, h2, h3, h4, g1, g2, g3, g4, g5, g6]
def isCode : Jvm.Cond → Bool
  | .code _ _ _ _ => true
  | _ => false
theorem all_split {L : List Jvm.Cond} {P : Jvm.Cond → Bool} (h1 : L.all (fun c => isCode c || P c) = true) (h2 : ∀ c ∈ L.filter isCode, P c = true) : L.all P = true := by
  refine List.all_eq_true.mpr fun c hc => ?_
  have h := List.all_eq_true.mp h1 c hc
  rcases Bool.eq_false_or_eq_true (isCode c) with hi | hi
  · exact h2 c (List.mem_filter.mpr ⟨hc, hi⟩)
  · simpa [hi] using h
set_option maxRecDepth 65536 in
theorem w_c0 : (Jvm.Cond.code x code maxLocals ret).before args0 about1 = true := code_word (m := ⟨1, 3⟩) (meth := k1m3) (c := k1c3) (by decide +kernel) rfl rfl rfl (by decide +kernel)
set_option maxRecDepth 65536 in
theorem w_c1 : (Jvm.Cond.code ({ cls := "com/example/protoscope/protoscope/source/SourcePosition", name := "<init>", desc := "(ILjava/lang/String;II)V" } : Jvm.MethodName) prog_95_method_1_code (5 : Nat) (Option.none : Option Jvm.ClassFile.FieldType)).before args0 about1 = true := code_word (m := ⟨4, 0⟩) (meth := k4m0) (c := k4c0) (by decide +kernel) rfl rfl rfl (by decide +kernel)
set_option maxRecDepth 65536 in
theorem w_c2 : (Jvm.Cond.code ({ cls := "java/lang/Record", name := "<init>", desc := "()V" } : Jvm.MethodName) jdk_30_method_1_code (1 : Nat) (Option.none : Option Jvm.ClassFile.FieldType)).before args0 about1 = true := code_word (m := ⟨2, 0⟩) (meth := k2m0) (c := k2c0) (by decide +kernel) rfl rfl rfl (by decide +kernel)
set_option maxRecDepth 65536 in
theorem w_c3 : (Jvm.Cond.code ({ cls := "java/lang/Object", name := "<init>", desc := "()V" } : Jvm.MethodName) object_method_1_code (1 : Nat) (Option.none : Option Jvm.ClassFile.FieldType)).before args0 about1 = true := code_word (m := ⟨0, 0⟩) (meth := k0m0) (c := k0c0) (by decide +kernel) rfl rfl rfl (by decide +kernel)
set_option maxRecDepth 65536 in
theorem w_c4 : (Jvm.Cond.code ({ cls := "com/example/protoscope/protoscope/source/SourcePosition", name := "compareTo", desc := "(Lcom/example/protoscope/protoscope/source/SourcePosition;)I" } : Jvm.MethodName) prog_95_method_2_code (2 : Nat) (Option.some Jvm.ClassFile.FieldType.int)).before args0 about1 = true := code_word (m := ⟨4, 1⟩) (meth := k4m1) (c := k4c1) (by decide +kernel) rfl rfl rfl (by decide +kernel)
set_option maxRecDepth 65536 in
theorem w_c5 : (Jvm.Cond.code ({ cls := "java/lang/Integer", name := "compare", desc := "(II)I" } : Jvm.MethodName) jdk_33_method_40_code (2 : Nat) (Option.some Jvm.ClassFile.FieldType.int)).before args0 about1 = true := code_word (m := ⟨11, 0⟩) (meth := k11m0) (c := k11c0) (by decide +kernel) rfl rfl rfl (by decide +kernel)
set_option maxRecDepth 65536 in
theorem w_c6 : (Jvm.Cond.code ({ cls := "com/example/protoscope/protoscope/source/SourcePositionCompareToPinLaw", name := "sign", desc := "(I)I" } : Jvm.MethodName) method_2_code (1 : Nat) (Option.some Jvm.ClassFile.FieldType.int)).before args0 about1 = true := code_word (m := ⟨1, 1⟩) (meth := k1m1) (c := k1c1) (by decide +kernel) rfl rfl rfl (by decide +kernel)
set_option maxRecDepth 65536 in
theorem w_c7 : (Jvm.Cond.code ({ cls := "com/example/protoscope/protoscope/source/SourcePositionCompareToPinLaw", name := "expected", desc := "(IIIIII)I" } : Jvm.MethodName) method_3_code (6 : Nat) (Option.some Jvm.ClassFile.FieldType.int)).before args0 about1 = true := code_word (m := ⟨1, 2⟩) (meth := k1m2) (c := k1c2) (by decide +kernel) rfl rfl rfl (by decide +kernel)
def codes1 : List Jvm.Cond := [Jvm.Cond.code x code maxLocals ret, Jvm.Cond.code ({ cls := "com/example/protoscope/protoscope/source/SourcePosition", name := "<init>", desc := "(ILjava/lang/String;II)V" } : Jvm.MethodName) prog_95_method_1_code (5 : Nat) (Option.none : Option Jvm.ClassFile.FieldType), Jvm.Cond.code ({ cls := "java/lang/Record", name := "<init>", desc := "()V" } : Jvm.MethodName) jdk_30_method_1_code (1 : Nat) (Option.none : Option Jvm.ClassFile.FieldType), Jvm.Cond.code ({ cls := "java/lang/Object", name := "<init>", desc := "()V" } : Jvm.MethodName) object_method_1_code (1 : Nat) (Option.none : Option Jvm.ClassFile.FieldType), Jvm.Cond.code ({ cls := "com/example/protoscope/protoscope/source/SourcePosition", name := "compareTo", desc := "(Lcom/example/protoscope/protoscope/source/SourcePosition;)I" } : Jvm.MethodName) prog_95_method_2_code (2 : Nat) (Option.some Jvm.ClassFile.FieldType.int), Jvm.Cond.code ({ cls := "java/lang/Integer", name := "compare", desc := "(II)I" } : Jvm.MethodName) jdk_33_method_40_code (2 : Nat) (Option.some Jvm.ClassFile.FieldType.int), Jvm.Cond.code ({ cls := "com/example/protoscope/protoscope/source/SourcePositionCompareToPinLaw", name := "sign", desc := "(I)I" } : Jvm.MethodName) method_2_code (1 : Nat) (Option.some Jvm.ClassFile.FieldType.int), Jvm.Cond.code ({ cls := "com/example/protoscope/protoscope/source/SourcePositionCompareToPinLaw", name := "expected", desc := "(IIIIII)I" } : Jvm.MethodName) method_3_code (6 : Nat) (Option.some Jvm.ClassFile.FieldType.int)]
set_option maxRecDepth 65536 in
theorem codes_eq : words1.filter isCode = codes1 := rfl
theorem w_codes : ∀ c ∈ words1.filter isCode, c.before args0 about1 = true := by
  rw [codes_eq]
  intro c hc
  simp only [codes1, List.mem_cons, List.not_mem_nil, or_false] at hc
  rcases hc with rfl | rfl | rfl | rfl | rfl | rfl | rfl | rfl
  · exact w_c0
  · exact w_c1
  · exact w_c2
  · exact w_c3
  · exact w_c4
  · exact w_c5
  · exact w_c6
  · exact w_c7
set_option maxRecDepth 65536 in
theorem w_t1 : (words1.take 24).all (fun c => isCode c || c.before args0 about1) = true := by decide +kernel
set_option maxRecDepth 65536 in
theorem w_t2 : (words1.drop 24).all (fun c => isCode c || c.before args0 about1) = true := by decide +kernel
theorem w_tables : (allAtoms (Jvm.Cond.code x code maxLocals ret :: tables_1)).before args0 about1 = true := by
  rw [allAtoms_all]
  show words1.all (fun c => c.before args0 about1) = true
  refine all_split ?_ w_codes
  rw [← List.take_append_drop 24 words1, List.all_append, w_t1, w_t2]
  rfl
set_option maxRecDepth 65536 in
theorem w_case : (Jvm.Cond.and given_1 narrow_1).before args0 about1 = true := by decide +kernel
theorem w_applies : (headSpec (Jvm.Cond.code x code maxLocals ret :: tables_1) room_1).applies x e0.platform about1 = true :=
  (Spec.applies_iff w_frames).mpr ⟨w_running, w_runnable, w_alone, w_named, w_hears, w_ripe, w_room, w_tables⟩
theorem atStart : AtStart classFile x code maxLocals ret World_1 tables_1 room_1 Calls_1 rest_1 Pre_1 launch0 p0 e0 about1 theMethod args0 below0 :=
  ⟨lists_1, trivial, launch0.admits_env _ _ _, launch0.least_env, fairChoices_fair.cas, fairChoices_fair.clock, w_frames, w_args, w_heap, w_applies, trivial, trivial, w_case⟩
end start1
theorem witness_1 : WitnessClaimed_1 := ⟨start1.p0, start1.e0, start1.about1, start1.theMethod, start1.args0, start1.below0, start1.atStart⟩
end Jvm.Pilot.@@N@@
