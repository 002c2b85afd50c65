import JvmDerived
import JvmDerived.Pilot.@@N@@Statement
import JvmDerived.Pilot.@@N@@Code
set_option linter.unusedVariables false
set_option linter.unusedSimpArgs false
namespace Jvm.RoadKit
open Sem ClassFile Op Lib Jvm.Stand Jvm.Free Jvm.LawKit
section New
variable {p : Program} {l : Launch} {e : Env} {R : Room} {s : State} {m : MethodId} {args : Array Value} {below : List Frame} {meth : Method} {c : Code} {T : State} {locs : List Loc} {cells slots : Nat}
theorem retI (X : Stand p l e R s m args below meth c T locs cells slots) (hx : p.tables.exec = Jvm.exec) {pc : Nat} {Ls : Array Slot} {z : Int32} {rest : List Value} (hret : meth.sig.returnType = some .int) (hd : decode c.code pc = .ok (.ireturn, 1)) {fs : List Frame}
    (hl : ∀ (f : JFrame) (acts : List Action), f.method = m → f.locked = none → f.entered = [] → (doReturn e (T.setTop f) acts (some (.int z))).1 = T.setFrames fs) : Steps p.tables e below (T.setTop (mkF m pc Ls (.int z :: rest))) (T.setFrames fs) := by
  have hm' : T.vm.method? m = some meth := X.method'
  have hn : narrow .int (.int z) = .int z := rfl
  show Steps p.tables e below (T.setTop { method := m, pc := pc, locals := Ls, stack := _ :: rest, locked := none }) _
  jvm_step X.here [X.here.top, hx, hd, hm', hret, hn]
  first | (intro acts; rw [hl _ acts rfl rfl rfl]) | rw [hl _ _ rfl rfl rfl]
  exact Steps.refl _
theorem own_lremM {g : JFrame} {target : State} (X : Stand p l e R s m args below meth c T locs cells slots) (hx : p.tables.exec = Jvm.exec) (hg : g.method = m) {x y : Int64} {rest : List Value} (hd : decode c.code g.pc = .ok (.lrem, 1)) (hs : g.stack = .long y :: .long x :: rest) (hy : y ≠ 0)
    (hr : Steps p.tables e below (T.setTop { g with pc := g.pc + 1, stack := .long (x % y) :: rest }) target) : Steps p.tables e below (T.setTop g) target := by
  have q : x - x / y * y = x % y := lrem_mod x y
  exact XS.lrem X.here hx hg hd hs hy (by rw [q]; exact hr)
theorem own_getD_int (L : List Int32) (n : Nat) (d : Int32) : (L.map Value.int).getD n (.int d) = .int (L.getD n d) := by simp [List.getD_eq_getElem?_getD, List.getElem?_map]
theorem own_getD_long (L : List Int64) (n : Nat) (d : Int64) : (L.map Value.long).getD n (.long d) = .long (L.getD n d) := by simp [List.getD_eq_getElem?_getD, List.getElem?_map]
theorem own_lt_nat {j z : Int32} (h : ¬ j < 0) (q : j < z) : j.toNatClampNeg < z.toNatClampNeg := by
  rw [Int32.lt_iff_toInt_lt] at h q; have : (0 : Int32).toInt = 0 := rfl
  simp only [Int32.toNatClampNeg]; omega
theorem own_eq_int {t : Term} {v : Int32} {args : Array Value} {s : State} (h : (Cond.eq t (.int v)).value args s none s [] = some true) : t.eval args s none [] s = some (.int v) := by
  simp only [Cond.value, Term.eval] at h
  cases ht : t.eval args s none [] s with
  | none => simp [ht] at h
  | some x => cases x <;> simp [ht] at h ⊢; exact h
theorem own_eq_long {t : Term} {v : Int64} {args : Array Value} {s : State} (h : (Cond.eq t (.long v)).value args s none s [] = some true) : t.eval args s none [] s = some (.long v) := by
  simp only [Cond.value, Term.eval] at h
  cases ht : t.eval args s none [] s with
  | none => simp [ht] at h
  | some x => cases x <;> simp [ht] at h ⊢; exact h
theorem own_selpriv {s : State} {args : Array Value} {y : MethodName} {n : Nat} (wi : (Cond.instantiable y.cls n).before args s = true) (hpriv : s.PrivateAt y) (hinst : (Cond.instanceMethod y).before args s = true) (hy : y.cls ≠ "java/lang/invoke/MethodHandle" ∧ y.cls ≠ "java/lang/invoke/VarHandle") : (Cond.selects y.cls y y).before args s = true := by
  obtain ⟨c, k, h1, h2, -, h4, -⟩ := Cond.instantiable_spec wi
  exact Jvm.Stand.selects_self_of_private h1 h2 (Bool.or_eq_false_iff.mp h4).1 hpriv hinst hy
theorem own_narb (P : Prop) [Decidable P] : nar .boolean (if P then (1 : Int32) else (0 : Int32)) = if P then (1 : Int32) else (0 : Int32) := by by_cases h : P <;> simp only [h, if_true, if_false] <;> rfl
end New
end Jvm.RoadKit
namespace Jvm.Pilot.@@N@@
open Jvm Jvm.ClassFile Sem Op Lib Jvm.Free Jvm.Stand Jvm.LawKit Jvm.RoadKit Bundle Jvm.Pilot.@@N@@.Jvm.D
theorem d3_0 : decode prog_49_method_2_code 0 = .ok (.aload_n 0, 1) := by decide +kernel
theorem d3_1 : decode prog_49_method_2_code 1 = .ok (.bipush 9, 2) := by decide +kernel
theorem d3_3 : decode prog_49_method_2_code 3 = .ok (.putfield 18, 3) := by decide +kernel
theorem d3_6 : decode prog_49_method_2_code 6 = .ok (.aload_n 0, 1) := by decide +kernel
theorem d3_7 : decode prog_49_method_2_code 7 = .ok (.iconst 0, 1) := by decide +kernel
theorem d3_8 : decode prog_49_method_2_code 8 = .ok (.putfield 21, 3) := by decide +kernel
theorem d3_11 : decode prog_49_method_2_code 11 = .ok (.aload_n 0, 1) := by decide +kernel
theorem d3_12 : decode prog_49_method_2_code 12 = .ok (.iconst 0, 1) := by decide +kernel
theorem d3_13 : decode prog_49_method_2_code 13 = .ok (.putfield 24, 3) := by decide +kernel
theorem d3_16 : decode prog_49_method_2_code 16 = .ok (.return_, 1) := by decide +kernel
theorem pn_11 : plainName "phrasebook/ZFormat$Layout" = true := by first | (simp [plainName, overriddenIn]; done) | decide +kernel
theorem ef_rm3 (m : MethodId) (ra0 : Addr) : entryFrame m #[(.ref ra0)] 1 = mkF m 0 #[.val (.ref ra0)] [] := by first | (simp [entryFrame, mkF, argsToLocals, Value.category]; done) | rfl
def Q3 (Z : State) (ra0 : Addr) (w_width_ra0 : Int32) (w_codesInGroup_ra0 : Int32) (w_groupEnded_ra0 : Int32) (w_maxBits_ra0 : Int32) (h0 : Heap) (n0 : Nat) (v : Option Value) (h : Heap) (L : List Loc) : Prop := v = none ∧ Fr n0 L ∧ Keep h0 h [ra0] ∧ Exa Z h ra0 "phrasebook/ZFormat$Layout" ∧ Fld Z h ra0 "phrasebook/ZFormat$Layout" "maxBits" "I" (.int w_maxBits_ra0) ∧ Fld Z h ra0 "phrasebook/ZFormat$Layout" "width" "I" (.int (9 : Int32)) ∧ Fld Z h ra0 "phrasebook/ZFormat$Layout" "codesInGroup" "I" (.int (0 : Int32)) ∧ Fld Z h ra0 "phrasebook/ZFormat$Layout" "groupEnded" "Z" (.int (0 : Int32))
set_option maxRecDepth 65536 in
set_option maxHeartbeats 40000000 in
theorem rm3 (l : Launch) (Z : State) (a0 : Array Value) (hw : ∀ d ∈ tables_1, d.before a0 Z = true) (ws : List Jvm.Cond) (ra0 : Addr) (w_width_ra0 : Int32) (w_codesInGroup_ra0 : Int32) (w_groupEnded_ra0 : Int32) (w_maxBits_ra0 : Int32) (h0 : Heap) (n0 : Nat) (Z0 : n0 ≤ h0.size) (E_ra0 : Exa Z h0 ra0 "phrasebook/ZFormat$Layout") (F_width_ra0 : Fld Z h0 ra0 "phrasebook/ZFormat$Layout" "width" "I" (.int w_width_ra0)) (g_ra0 : n0 ≤ ra0) (F_codesInGroup_ra0 : Fld Z h0 ra0 "phrasebook/ZFormat$Layout" "codesInGroup" "I" (.int w_codesInGroup_ra0)) (F_groupEnded_ra0 : Fld Z h0 ra0 "phrasebook/ZFormat$Layout" "groupEnded" "Z" (.int w_groupEnded_ra0)) (F_maxBits_ra0 : Fld Z h0 ra0 "phrasebook/ZFormat$Layout" "maxBits" "I" (.int w_maxBits_ra0)) :
    MetFree l (⟨"phrasebook/ZFormat$Layout", "restart", "()V"⟩ : MethodName) (head1 (Jvm.Cond.code (⟨"phrasebook/ZFormat$Layout", "restart", "()V"⟩ : MethodName) prog_49_method_2_code 1 none :: ws) ({ frames := 0, cells := 0, slots := 0, locals := 0 } : Room)) (fun a U => a = #[(.ref ra0)] ∧ Z.Warmed39 U.vm ∧ U.heap = h0) (fun _ _ _ _ _ => True) (fun _ U o U' => ∃ v L, o = .returned v ∧ Q3 Z ra0 w_width_ra0 w_codesInGroup_ra0 w_groupEnded_ra0 w_maxBits_ra0 h0 n0 v U'.heap L ∧ FrameEnd U o U' L ({ frames := 0, cells := 0, slots := 0, locals := 0 } : Room).cells ({ frames := 0, cells := 0, slots := 0, locals := 0 } : Room).slots) := by
  refine MetFree.of_bodySF (plainFor_of_name pn_11) hisR ?_
  intro p e s m args below meth c s₁ Bd hml0 hP hK
  obtain ⟨rfl, hZ, hh⟩ := hP
  have hx := Bd.exec
  have hby := Bd.bytes
  have hml : c.maxLocals = 1 := hml0
  have hown : s.vm.findClass "phrasebook/ZFormat$Layout" = some m.cls := findClass_of_methodNamed Bd.named
  have hnm := (name_of_methodNamed Bd.named Bd.method).1
  have X0 : Stand p l e ({ frames := 0, cells := 0, slots := 0, locals := 0 } : Room) s m #[(.ref ra0)] below meth c s₁ [] 0 0 := Stand.of_body Bd
  have e0 : s₁.heap = h0 := by rw [← hh, Bd.state]; rfl
  have N0 := Fr.nil n0
  have KC0 := Keep.refl h0 [ra0]
  have pre0 : ∀ t, Steps p.tables e below (s₁.setTop (mkF m 0 #[.val (.ref ra0)] [])) t → Steps p.tables e below (s₁.setTop (entryFrame m #[(.ref ra0)] 1)) t := fun t k => castTop (ef_rm3 m ra0) k
  have k1 := fun (t : State) (kk : Steps p.tables e below (s₁.setTop (mkF m 3 #[.val (.ref ra0)] [(.int (9 : Int32)), (.ref ra0)])) t) => pre0 t (by
    show Steps p.tables e below (s₁.setTop (mkF m 0 #[.val (.ref ra0)] [])) _
    refine XS.aloadN X0.here hx rfl (hb hby d3_0) rfl rfl ?_
    show Steps p.tables e below (s₁.setTop (mkF m 1 #[.val (.ref ra0)] [(.ref ra0)])) _
    refine XS.bipush X0.here hx rfl (hb hby d3_1) ?_
    exact kk)
  obtain ⟨T2, h2, X2, e2, W2, st2⟩ := putF X0 hx hZ hown (host := "") (Or.inl (hw _ (List.mem_of_getElem? (i := 17) rfl))) Via.refl e0 F_width_ra0 E_ra0 (Or.inl (hw _ (List.mem_of_getElem? (i := 18) rfl))) (hw _ (List.mem_of_getElem? (i := 2) rfl)) (ty := .int) (by decide) rfl rfl (g := (mkF m 3 #[.val (.ref ra0)] [(.int (9 : Int32)), (.ref ra0)])) rfl rfl (hb hby d3_3)
  have Fw2 := F_width_ra0.same W2
  have K2 : Keep h0 h2 [ra0] := KC0.wr W2 (Or.inl (List.mem_of_getElem? (i := 0) rfl))
  have N2 := Fr.snoc X2 N0 g_ra0
  have k3 := fun (t : State) (kk : Steps p.tables e below (T2.setTop (mkF m 6 #[.val (.ref ra0)] [])) t) => k1 t (st2 _ kk)
  have k4 := fun (t : State) (kk : Steps p.tables e below (T2.setTop (mkF m 8 #[.val (.ref ra0)] [(.int (0 : Int32)), (.ref ra0)])) t) => k3 t (by
    show Steps p.tables e below (T2.setTop (mkF m 6 #[.val (.ref ra0)] [])) _
    refine XS.aloadN X2.here hx rfl (hb hby d3_6) rfl rfl ?_
    show Steps p.tables e below (T2.setTop (mkF m 7 #[.val (.ref ra0)] [(.ref ra0)])) _
    refine XS.iconst X2.here hx rfl (hb hby d3_7) ?_
    exact kk)
  have f5 := (E_ra0.wr W2)
  have f6 := (F_codesInGroup_ra0.other W2 (Or.inr (slot_ne (Or.inl (hw _ (List.mem_of_getElem? (i := 20) rfl))) (Or.inl (hw _ (List.mem_of_getElem? (i := 18) rfl))) (by decide) (t := .int) (t' := .int) (by decide) (by decide))))
  obtain ⟨T7, h7, X7, e7, W7, st7⟩ := putF X2 hx hZ hown (host := "") (Or.inl (hw _ (List.mem_of_getElem? (i := 19) rfl))) Via.refl e2 f6 f5 (Or.inl (hw _ (List.mem_of_getElem? (i := 20) rfl))) (hw _ (List.mem_of_getElem? (i := 2) rfl)) (ty := .int) (by decide) rfl rfl (g := (mkF m 8 #[.val (.ref ra0)] [(.int (0 : Int32)), (.ref ra0)])) rfl rfl (hb hby d3_8)
  have Fw7 := f6.same W7
  have K7 : Keep h0 h7 [ra0] := K2.wr W7 (Or.inl (List.mem_of_getElem? (i := 0) rfl))
  have N7 := Fr.snoc X7 N2 g_ra0
  have k8 := fun (t : State) (kk : Steps p.tables e below (T7.setTop (mkF m 11 #[.val (.ref ra0)] [])) t) => k4 t (st7 _ kk)
  have k9 := fun (t : State) (kk : Steps p.tables e below (T7.setTop (mkF m 13 #[.val (.ref ra0)] [(.int (0 : Int32)), (.ref ra0)])) t) => k8 t (by
    show Steps p.tables e below (T7.setTop (mkF m 11 #[.val (.ref ra0)] [])) _
    refine XS.aloadN X7.here hx rfl (hb hby d3_11) rfl rfl ?_
    show Steps p.tables e below (T7.setTop (mkF m 12 #[.val (.ref ra0)] [(.ref ra0)])) _
    refine XS.iconst X7.here hx rfl (hb hby d3_12) ?_
    exact kk)
  have f10 := (f5.wr W7)
  have f11 := ((F_groupEnded_ra0.other W2 (Or.inr (slot_ne (Or.inl (hw _ (List.mem_of_getElem? (i := 22) rfl))) (Or.inl (hw _ (List.mem_of_getElem? (i := 18) rfl))) (by decide) (t := .boolean) (t' := .int) (by decide) (by decide)))).other W7 (Or.inr (slot_ne (Or.inl (hw _ (List.mem_of_getElem? (i := 22) rfl))) (Or.inl (hw _ (List.mem_of_getElem? (i := 20) rfl))) (by decide) (t := .boolean) (t' := .int) (by decide) (by decide))))
  obtain ⟨T12, h12, X12, e12, W12, st12⟩ := putFN X7 hx hZ hown (hw _ (List.mem_of_getElem? (i := 21) rfl)) Via.refl e7 f11 f10 (Or.inl (hw _ (List.mem_of_getElem? (i := 22) rfl))) (hw _ (List.mem_of_getElem? (i := 2) rfl)) (ty := .boolean) (v' := (.int (0 : Int32))) (by decide) rfl rfl (g := (mkF m 13 #[.val (.ref ra0)] [(.int (0 : Int32)), (.ref ra0)])) rfl rfl (hb hby d3_13)
  have Fw12 := f11.same W12
  have K12 : Keep h0 h12 [ra0] := K7.wr W12 (Or.inl (List.mem_of_getElem? (i := 0) rfl))
  have N12 := Fr.snoc X12 N7 g_ra0
  have k13 := fun (t : State) (kk : Steps p.tables e below (T12.setTop (mkF m 16 #[.val (.ref ra0)] [])) t) => k9 t (st12 _ kk)
  obtain ⟨fs, hr, hrun, hended, hW, hsame⟩ := X12.leave (v := none) (fun _ => rfl)
  have f14 := (f10.wr W12)
  have f15 := (((F_maxBits_ra0.other W2 (Or.inr (slot_ne (Or.inr (hw _ (List.mem_of_getElem? (i := 11) rfl))) (Or.inl (hw _ (List.mem_of_getElem? (i := 18) rfl))) (by decide) (t := .int) (t' := .int) (by decide) (by decide)))).other W7 (Or.inr (slot_ne (Or.inr (hw _ (List.mem_of_getElem? (i := 11) rfl))) (Or.inl (hw _ (List.mem_of_getElem? (i := 20) rfl))) (by decide) (t := .int) (t' := .int) (by decide) (by decide)))).other W12 (Or.inr (slot_ne (Or.inr (hw _ (List.mem_of_getElem? (i := 11) rfl))) (Or.inl (hw _ (List.mem_of_getElem? (i := 22) rfl))) (by decide) (t := .int) (t' := .boolean) (by decide) (by decide))))
  have f16 := ((Fw2.other W7 (Or.inr (slot_ne (Or.inl (hw _ (List.mem_of_getElem? (i := 18) rfl))) (Or.inl (hw _ (List.mem_of_getElem? (i := 20) rfl))) (by decide) (t := .int) (t' := .int) (by decide) (by decide)))).other W12 (Or.inr (slot_ne (Or.inl (hw _ (List.mem_of_getElem? (i := 18) rfl))) (Or.inl (hw _ (List.mem_of_getElem? (i := 22) rfl))) (by decide) (t := .int) (t' := .boolean) (by decide) (by decide))))
  have f17 := (Fw7.other W12 (Or.inr (slot_ne (Or.inl (hw _ (List.mem_of_getElem? (i := 20) rfl))) (Or.inl (hw _ (List.mem_of_getElem? (i := 22) rfl))) (by decide) (t := .int) (t' := .boolean) (by decide) (by decide))))
  refine ⟨_, _, k13 _ ?_, hrun, hended, _, _, rfl, ?_, ⟨_, rfl⟩, hW, hsame.mono (by decide) (by decide)⟩
  · show Steps p.tables e below (T12.setTop (mkF m 16 #[.val (.ref ra0)] [])) _
    exact X12.returnOut hx Bd.returns (hb hby d3_16) hr
  · show Q3 Z ra0 w_width_ra0 w_codesInGroup_ra0 w_groupEnded_ra0 w_maxBits_ra0 h0 n0 _ T12.heap _
    rw [e12]
    exact ⟨rfl, N12, K12, f14, f15, f16, f17, Fw12⟩
theorem pd_0 : parseMethodDescriptor "()V" = some ⟨[], none⟩ := by decide +kernel
theorem d1_0 : decode prog_49_method_1_code 0 = .ok (.aload_n 0, 1) := by decide +kernel
theorem d1_1 : decode prog_49_method_1_code 1 = .ok (.invokespecial 3, 3) := by decide +kernel
theorem d1_4 : decode prog_49_method_1_code 4 = .ok (.aload_n 0, 1) := by decide +kernel
theorem d1_5 : decode prog_49_method_1_code 5 = .ok (.iload_n 1, 1) := by decide +kernel
theorem d1_6 : decode prog_49_method_1_code 6 = .ok (.putfield 9, 3) := by decide +kernel
theorem d1_9 : decode prog_49_method_1_code 9 = .ok (.aload_n 0, 1) := by decide +kernel
theorem d1_10 : decode prog_49_method_1_code 10 = .ok (.invokevirtual 15, 3) := by decide +kernel
theorem d1_13 : decode prog_49_method_1_code 13 = .ok (.return_, 1) := by decide +kernel
theorem ef_rm1 (m : MethodId) (ra0 : Addr) (p1 : Int32) : entryFrame m #[(.ref ra0), (.int p1)] 2 = mkF m 0 #[.val (.ref ra0), .val (.int p1)] [] := by first | (simp [entryFrame, mkF, argsToLocals, Value.category]; done) | rfl
def Q1 (Z : State) (ra0 : Addr) (p1 : Int32) (w_maxBits_ra0 : Int32) (w_width_ra0 : Int32) (w_codesInGroup_ra0 : Int32) (w_groupEnded_ra0 : Int32) (h0 : Heap) (n0 : Nat) (v : Option Value) (h : Heap) (L : List Loc) : Prop := v = none ∧ Fr n0 L ∧ Keep h0 h [ra0] ∧ Exa Z h ra0 "phrasebook/ZFormat$Layout" ∧ Fld Z h ra0 "phrasebook/ZFormat$Layout" "maxBits" "I" (.int p1) ∧ Fld Z h ra0 "phrasebook/ZFormat$Layout" "width" "I" (.int (9 : Int32)) ∧ Fld Z h ra0 "phrasebook/ZFormat$Layout" "codesInGroup" "I" (.int (0 : Int32)) ∧ Fld Z h ra0 "phrasebook/ZFormat$Layout" "groupEnded" "Z" (.int (0 : Int32))
set_option maxRecDepth 65536 in
set_option maxHeartbeats 40000000 in
theorem rm1 (l : Launch) (Z : State) (a0 : Array Value) (hw : ∀ d ∈ tables_1, d.before a0 Z = true) (ws : List Jvm.Cond) (ra0 : Addr) (p1 : Int32) (w_maxBits_ra0 : Int32) (w_width_ra0 : Int32) (w_codesInGroup_ra0 : Int32) (w_groupEnded_ra0 : Int32) (h0 : Heap) (n0 : Nat) (Z0 : n0 ≤ h0.size) (E_ra0 : Exa Z h0 ra0 "phrasebook/ZFormat$Layout") (F_maxBits_ra0 : Fld Z h0 ra0 "phrasebook/ZFormat$Layout" "maxBits" "I" (.int w_maxBits_ra0)) (g_ra0 : n0 ≤ ra0) (F_width_ra0 : Fld Z h0 ra0 "phrasebook/ZFormat$Layout" "width" "I" (.int w_width_ra0)) (F_codesInGroup_ra0 : Fld Z h0 ra0 "phrasebook/ZFormat$Layout" "codesInGroup" "I" (.int w_codesInGroup_ra0)) (F_groupEnded_ra0 : Fld Z h0 ra0 "phrasebook/ZFormat$Layout" "groupEnded" "Z" (.int w_groupEnded_ra0)) :
    MetFree l (⟨"phrasebook/ZFormat$Layout", "<init>", "(I)V"⟩ : MethodName) (head1 (Jvm.Cond.code (⟨"phrasebook/ZFormat$Layout", "<init>", "(I)V"⟩ : MethodName) prog_49_method_1_code 2 none :: ws) ({ frames := 1, cells := 0, slots := 0, locals := 12 } : Room)) (fun a U => a = #[(.ref ra0), (.int p1)] ∧ Z.Warmed39 U.vm ∧ U.heap = h0) (fun _ _ _ _ _ => True) (fun _ U o U' => ∃ v L, o = .returned v ∧ Q1 Z ra0 p1 w_maxBits_ra0 w_width_ra0 w_codesInGroup_ra0 w_groupEnded_ra0 h0 n0 v U'.heap L ∧ FrameEnd U o U' L ({ frames := 1, cells := 0, slots := 0, locals := 12 } : Room).cells ({ frames := 1, cells := 0, slots := 0, locals := 12 } : Room).slots) := by
  refine MetFree.of_bodySF (plainFor_of_name pn_11) hisR ?_
  intro p e s m args below meth c s₁ Bd hml0 hP hK
  obtain ⟨rfl, hZ, hh⟩ := hP
  have hx := Bd.exec
  have hby := Bd.bytes
  have hml : c.maxLocals = 2 := hml0
  have hown : s.vm.findClass "phrasebook/ZFormat$Layout" = some m.cls := findClass_of_methodNamed Bd.named
  have hnm := (name_of_methodNamed Bd.named Bd.method).1
  have X0 : Stand p l e ({ frames := 1, cells := 0, slots := 0, locals := 12 } : Room) s m #[(.ref ra0), (.int p1)] below meth c s₁ [] 0 0 := Stand.of_body Bd
  have e0 : s₁.heap = h0 := by rw [← hh, Bd.state]; rfl
  have N0 := Fr.nil n0
  have KC0 := Keep.refl h0 [ra0]
  have pre0 : ∀ t, Steps p.tables e below (s₁.setTop (mkF m 0 #[.val (.ref ra0), .val (.int p1)] [])) t → Steps p.tables e below (s₁.setTop (entryFrame m #[(.ref ra0), (.int p1)] 2)) t := fun t k => castTop (ef_rm1 m ra0 p1) k
  have k18 := fun (t : State) (kk : Steps p.tables e below (s₁.setTop (mkF m 1 #[.val (.ref ra0), .val (.int p1)] [(.ref ra0)])) t) => pre0 t (by
    show Steps p.tables e below (s₁.setTop (mkF m 0 #[.val (.ref ra0), .val (.int p1)] [])) _
    refine XS.aloadN X0.here hx rfl (hb hby d1_0) rfl rfl ?_
    exact kk)
  obtain ⟨T19, X19, e19, st19⟩ := initO X0 hx hZ hown (hw _ (List.mem_of_getElem? (i := 7) rfl)) (hw _ (List.mem_of_getElem? (i := 8) rfl)) (hw _ (List.mem_of_getElem? (i := 9) rfl)) e0 (g := (mkF m 1 #[.val (.ref ra0), .val (.int p1)] [(.ref ra0)])) rfl (by rw [hml]; rfl) rfl (hb hby d1_1) (by decide) (W := 0) (by show 2 * 0 + _ ≤ _; exact Nat.le_of_eq rfl) (by decide)
  have k20 := fun (t : State) (kk : Steps p.tables e below (T19.setTop (mkF m 4 #[.val (.ref ra0), .val (.int p1)] [])) t) => k18 t (st19 _ kk)
  have k21 := fun (t : State) (kk : Steps p.tables e below (T19.setTop (mkF m 6 #[.val (.ref ra0), .val (.int p1)] [(.int p1), (.ref ra0)])) t) => k20 t (by
    show Steps p.tables e below (T19.setTop (mkF m 4 #[.val (.ref ra0), .val (.int p1)] [])) _
    refine XS.aloadN X19.here hx rfl (hb hby d1_4) rfl rfl ?_
    show Steps p.tables e below (T19.setTop (mkF m 5 #[.val (.ref ra0), .val (.int p1)] [(.ref ra0)])) _
    refine XS.iloadN X19.here hx rfl (hb hby d1_5) rfl ?_
    exact kk)
  obtain ⟨T22, h22, X22, e22, W22, st22⟩ := putF X19 hx hZ hown (host := "") (Or.inl (hw _ (List.mem_of_getElem? (i := 10) rfl))) Via.refl e19 F_maxBits_ra0 E_ra0 (Or.inr ⟨(hw _ (List.mem_of_getElem? (i := 11) rfl)), rfl, hnm⟩) (hw _ (List.mem_of_getElem? (i := 2) rfl)) (ty := .int) (by decide) rfl rfl (g := (mkF m 6 #[.val (.ref ra0), .val (.int p1)] [(.int p1), (.ref ra0)])) rfl rfl (hb hby d1_6)
  have Fw22 := F_maxBits_ra0.same W22
  have K22 : Keep h0 h22 [ra0] := KC0.wr W22 (Or.inl (List.mem_of_getElem? (i := 0) rfl))
  have N22 := Fr.snoc X22 N0 g_ra0
  have k23 := fun (t : State) (kk : Steps p.tables e below (T22.setTop (mkF m 9 #[.val (.ref ra0), .val (.int p1)] [])) t) => k21 t (st22 _ kk)
  have k24 := fun (t : State) (kk : Steps p.tables e below (T22.setTop (mkF m 10 #[.val (.ref ra0), .val (.int p1)] [(.ref ra0)])) t) => k23 t (by
    show Steps p.tables e below (T22.setTop (mkF m 9 #[.val (.ref ra0), .val (.int p1)] [])) _
    refine XS.aloadN X22.here hx rfl (hb hby d1_9) rfl rfl ?_
    exact kk)
  have f25 := (F_width_ra0.other W22 (Or.inr (slot_ne (Or.inl (hw _ (List.mem_of_getElem? (i := 18) rfl))) (Or.inr (hw _ (List.mem_of_getElem? (i := 11) rfl))) (by decide) (t := .int) (t' := .int) (by decide) (by decide))))
  have f26 := (F_codesInGroup_ra0.other W22 (Or.inr (slot_ne (Or.inl (hw _ (List.mem_of_getElem? (i := 20) rfl))) (Or.inr (hw _ (List.mem_of_getElem? (i := 11) rfl))) (by decide) (t := .int) (t' := .int) (by decide) (by decide))))
  have f27 := (F_groupEnded_ra0.other W22 (Or.inr (slot_ne (Or.inl (hw _ (List.mem_of_getElem? (i := 22) rfl))) (Or.inr (hw _ (List.mem_of_getElem? (i := 11) rfl))) (by decide) (t := .boolean) (t' := .int) (by decide) (by decide))))
  have f28 := (E_ra0.wr W22)
  have Zz29 : n0 ≤ h22.size := (Nat.le_trans Z0 K22.1)
  obtain ⟨cq29, kq29, q29a, q29b, q29c⟩ := isOf hZ e22 f28
  obtain ⟨_, _, ⟨T29, L29, k29, n29⟩, -, X29, ⟨Lc29, hQ29, l29, y29, z29⟩, st29⟩ := X22.virtualBack hx (y := (⟨"phrasebook/ZFormat$Layout", "restart", "()V"⟩ : MethodName)) (z := (⟨"phrasebook/ZFormat$Layout", "restart", "()V"⟩ : MethodName)) hown (mvT hZ (hw _ (List.mem_of_getElem? (i := 12) rfl))) (mvT hZ (hw _ (List.mem_of_getElem? (i := 13) rfl))) (notFace_of_selects (args := #[]) (mvT hZ (hw _ (List.mem_of_getElem? (i := 15) rfl)))) (mvT hZ (hw _ (List.mem_of_getElem? (i := 15) rfl))) (mvT hZ (hw _ (List.mem_of_getElem? (i := 14) rfl))) (by decide) (backOf (W := 0) (rm3 l Z a0 hw [] ra0 w_width_ra0 w_codesInGroup_ra0 w_groupEnded_ra0 p1 h22 n0 Zz29 f28 f25 g_ra0 f26 f27 Fw22) hZ (hw _ (List.mem_of_getElem? (i := 16) rfl)) (hw _ (List.mem_of_getElem? (i := 3) rfl)) (by decide) (by decide)) q29a q29c (g := (mkF m 10 #[.val (.ref ra0), .val (.int p1)] [(.ref ra0)])) rfl (by rw [hml]; rfl) (Steps.refl _) (argsL := []) (rest := []) (lenOf pd_0 rfl) rfl (by show 2 * 0 + _ ≤ _; exact Nat.le_of_eq rfl) (hb hby d1_10) (fun _ _ => ⟨rfl, e22, (by decide : 0 + 0 ≤ _), (by decide : 0 + 0 ≤ _)⟩)
  dsimp only [Pt.U, Pt.locs, Pt.cells, Pt.slots] at X29 l29 y29 z29 st29 hQ29
  subst l29 y29 z29
  obtain ⟨rfl, N29q, Kq29, Eq29_0, Fq29_0, Fq29_1, Fq29_2, Fq29_3⟩ := hQ29
  have K29 : Keep h0 T29.heap [ra0] := K22.trans Kq29 (allS (Or.inl (List.mem_of_getElem? (i := 0) rfl)) all0)
  have N29 := Fr.app N22 N29q
  have k30 := fun (t : State) (kk : Steps p.tables e below (T29.setTop (mkF m 13 #[.val (.ref ra0), .val (.int p1)] [])) t) => k24 t (st29.trans kk)
  obtain ⟨fs, hr, hrun, hended, hW, hsame⟩ := X29.leave (v := none) (fun _ => rfl)
  refine ⟨_, _, k30 _ ?_, hrun, hended, _, _, rfl, ?_, ⟨_, rfl⟩, hW, hsame.mono (by decide) (by decide)⟩
  · show Steps p.tables e below (T29.setTop (mkF m 13 #[.val (.ref ra0), .val (.int p1)] [])) _
    exact X29.returnOut hx Bd.returns (hb hby d1_13) hr
  · show Q1 Z ra0 p1 w_maxBits_ra0 w_width_ra0 w_codesInGroup_ra0 w_groupEnded_ra0 h0 n0 _ T29.heap _
    exact ⟨rfl, N29, K29, Eq29_0, Fq29_0, Fq29_1, Fq29_2, Fq29_3⟩
theorem d6_0 : decode jdk_33_method_47_code 0 = .ok (.iload_n 0, 1) := by decide +kernel
theorem d6_1 : decode jdk_33_method_47_code 1 = .ok (.ifCond .gt 14, 3) := by decide +kernel
theorem d6_4 : decode jdk_33_method_47_code 4 = .ok (.iload_n 0, 1) := by decide +kernel
theorem d6_5 : decode jdk_33_method_47_code 5 = .ok (.ifCond .ne 8, 3) := by decide +kernel
theorem d6_8 : decode jdk_33_method_47_code 8 = .ok (.bipush 32, 2) := by decide +kernel
theorem d6_10 : decode jdk_33_method_47_code 10 = .ok (.goto 4, 3) := by decide +kernel
theorem d6_13 : decode jdk_33_method_47_code 13 = .ok (.iconst 0, 1) := by decide +kernel
theorem d6_14 : decode jdk_33_method_47_code 14 = .ok (.ireturn, 1) := by decide +kernel
theorem d6_15 : decode jdk_33_method_47_code 15 = .ok (.bipush 31, 2) := by decide +kernel
theorem d6_17 : decode jdk_33_method_47_code 17 = .ok (.istore_n 1, 1) := by decide +kernel
theorem d6_18 : decode jdk_33_method_47_code 18 = .ok (.iload_n 0, 1) := by decide +kernel
theorem d6_19 : decode jdk_33_method_47_code 19 = .ok (.ldc_w 264, 3) := by decide +kernel
theorem d6_22 : decode jdk_33_method_47_code 22 = .ok (.if_icmp .lt 11, 3) := by decide +kernel
theorem d6_25 : decode jdk_33_method_47_code 25 = .ok (.iinc 1 (-16), 3) := by decide +kernel
theorem d6_28 : decode jdk_33_method_47_code 28 = .ok (.iload_n 0, 1) := by decide +kernel
theorem d6_29 : decode jdk_33_method_47_code 29 = .ok (.bipush 16, 2) := by decide +kernel
theorem d6_31 : decode jdk_33_method_47_code 31 = .ok (.iushr, 1) := by decide +kernel
theorem d6_32 : decode jdk_33_method_47_code 32 = .ok (.istore_n 0, 1) := by decide +kernel
theorem d6_33 : decode jdk_33_method_47_code 33 = .ok (.iload_n 0, 1) := by decide +kernel
theorem d6_34 : decode jdk_33_method_47_code 34 = .ok (.sipush 256, 3) := by decide +kernel
theorem d6_37 : decode jdk_33_method_47_code 37 = .ok (.if_icmp .lt 11, 3) := by decide +kernel
theorem d6_40 : decode jdk_33_method_47_code 40 = .ok (.iinc 1 (-8), 3) := by decide +kernel
theorem d6_43 : decode jdk_33_method_47_code 43 = .ok (.iload_n 0, 1) := by decide +kernel
theorem d6_44 : decode jdk_33_method_47_code 44 = .ok (.bipush 8, 2) := by decide +kernel
theorem d6_46 : decode jdk_33_method_47_code 46 = .ok (.iushr, 1) := by decide +kernel
theorem d6_47 : decode jdk_33_method_47_code 47 = .ok (.istore_n 0, 1) := by decide +kernel
theorem d6_48 : decode jdk_33_method_47_code 48 = .ok (.iload_n 0, 1) := by decide +kernel
theorem d6_49 : decode jdk_33_method_47_code 49 = .ok (.bipush 16, 2) := by decide +kernel
theorem d6_51 : decode jdk_33_method_47_code 51 = .ok (.if_icmp .lt 10, 3) := by decide +kernel
theorem d6_54 : decode jdk_33_method_47_code 54 = .ok (.iinc 1 (-4), 3) := by decide +kernel
theorem d6_57 : decode jdk_33_method_47_code 57 = .ok (.iload_n 0, 1) := by decide +kernel
theorem d6_58 : decode jdk_33_method_47_code 58 = .ok (.iconst 4, 1) := by decide +kernel
theorem d6_59 : decode jdk_33_method_47_code 59 = .ok (.iushr, 1) := by decide +kernel
theorem d6_60 : decode jdk_33_method_47_code 60 = .ok (.istore_n 0, 1) := by decide +kernel
theorem d6_61 : decode jdk_33_method_47_code 61 = .ok (.iload_n 0, 1) := by decide +kernel
theorem d6_62 : decode jdk_33_method_47_code 62 = .ok (.iconst 4, 1) := by decide +kernel
theorem d6_63 : decode jdk_33_method_47_code 63 = .ok (.if_icmp .lt 10, 3) := by decide +kernel
theorem d6_66 : decode jdk_33_method_47_code 66 = .ok (.iinc 1 (-2), 3) := by decide +kernel
theorem d6_69 : decode jdk_33_method_47_code 69 = .ok (.iload_n 0, 1) := by decide +kernel
theorem d6_70 : decode jdk_33_method_47_code 70 = .ok (.iconst 2, 1) := by decide +kernel
theorem d6_71 : decode jdk_33_method_47_code 71 = .ok (.iushr, 1) := by decide +kernel
theorem d6_72 : decode jdk_33_method_47_code 72 = .ok (.istore_n 0, 1) := by decide +kernel
theorem d6_73 : decode jdk_33_method_47_code 73 = .ok (.iload_n 1, 1) := by decide +kernel
theorem d6_74 : decode jdk_33_method_47_code 74 = .ok (.iload_n 0, 1) := by decide +kernel
theorem d6_75 : decode jdk_33_method_47_code 75 = .ok (.iconst 1, 1) := by decide +kernel
theorem d6_76 : decode jdk_33_method_47_code 76 = .ok (.iushr, 1) := by decide +kernel
theorem d6_77 : decode jdk_33_method_47_code 77 = .ok (.isub, 1) := by decide +kernel
theorem d6_78 : decode jdk_33_method_47_code 78 = .ok (.ireturn, 1) := by decide +kernel
theorem pn_71 : plainName "java/lang/Integer" = true := by first | (simp [plainName, overriddenIn]; done) | decide +kernel
def v6_32_l0 (p0 : Int32) : Int32 := ((p0.toUInt32 >>> ((16 : Int32) &&& 31).toUInt32).toInt32)
def v6_22_l0 (p0 : Int32) : Int32 := if p0 < (65536 : Int32) then p0 else (v6_32_l0 p0)
def v6_22_l1 (p0 : Int32) : Int32 := if p0 < (65536 : Int32) then (31 : Int32) else ((31 : Int32) + (-16 : Int32))
def v6_47_l0 (p0 : Int32) : Int32 := (((v6_22_l0 p0).toUInt32 >>> ((8 : Int32) &&& 31).toUInt32).toInt32)
def v6_37_l0 (p0 : Int32) : Int32 := if (v6_22_l0 p0) < (256 : Int32) then (v6_22_l0 p0) else (v6_47_l0 p0)
def v6_37_l1 (p0 : Int32) : Int32 := if (v6_22_l0 p0) < (256 : Int32) then (v6_22_l1 p0) else ((v6_22_l1 p0) + (-8 : Int32))
def v6_60_l0 (p0 : Int32) : Int32 := (((v6_37_l0 p0).toUInt32 >>> ((4 : Int32) &&& 31).toUInt32).toInt32)
def v6_51_l0 (p0 : Int32) : Int32 := if (v6_37_l0 p0) < (16 : Int32) then (v6_37_l0 p0) else (v6_60_l0 p0)
def v6_51_l1 (p0 : Int32) : Int32 := if (v6_37_l0 p0) < (16 : Int32) then (v6_37_l1 p0) else ((v6_37_l1 p0) + (-4 : Int32))
def v6_72_l0 (p0 : Int32) : Int32 := (((v6_51_l0 p0).toUInt32 >>> ((2 : Int32) &&& 31).toUInt32).toInt32)
def v6_63_l0 (p0 : Int32) : Int32 := if (v6_51_l0 p0) < (4 : Int32) then (v6_51_l0 p0) else (v6_72_l0 p0)
def v6_63_l1 (p0 : Int32) : Int32 := if (v6_51_l0 p0) < (4 : Int32) then (v6_51_l1 p0) else ((v6_51_l1 p0) + (-2 : Int32))
def v6_5_s0 (p0 : Int32) : Int32 := if p0 = (0 : Int32) then (32 : Int32) else (0 : Int32)
def v6_ret (p0 : Int32) : Int32 := (if (0 : Int32) < p0 then ((v6_63_l1 p0) - (((v6_63_l0 p0).toUInt32 >>> ((1 : Int32) &&& 31).toUInt32).toInt32)) else (v6_5_s0 p0))
theorem ef_rm6 (m : MethodId) (p0 : Int32) : entryFrame m #[(.int p0)] 2 = mkF m 0 #[.val (.int p0), .unset] [] := by first | (simp [entryFrame, mkF, argsToLocals, Value.category]; done) | rfl
def Q6 (Z : State) (p0 : Int32) (h0 : Heap) (n0 : Nat) (v : Option Value) (h : Heap) (L : List Loc) : Prop := v = some (.int (v6_ret p0)) ∧ Fr n0 L ∧ h = h0
set_option maxRecDepth 65536 in
set_option maxHeartbeats 40000000 in
theorem rm6 (l : Launch) (Z : State) (a0 : Array Value) (hw : ∀ d ∈ tables_1, d.before a0 Z = true) (ws : List Jvm.Cond) (p0 : Int32) (h0 : Heap) (n0 : Nat) (Z0 : n0 ≤ h0.size) :
    MetFree l (⟨"java/lang/Integer", "numberOfLeadingZeros", "(I)I"⟩ : MethodName) (head1 (Jvm.Cond.code (⟨"java/lang/Integer", "numberOfLeadingZeros", "(I)I"⟩ : MethodName) jdk_33_method_47_code 2 (some .int) :: ws) ({ frames := 0, cells := 0, slots := 0, locals := 0 } : Room)) (fun a U => a = #[(.int p0)] ∧ Z.Warmed39 U.vm ∧ U.heap = h0) (fun _ _ _ _ _ => True) (fun _ U o U' => ∃ v L, o = .returned v ∧ Q6 Z p0 h0 n0 v U'.heap L ∧ FrameEnd U o U' L ({ frames := 0, cells := 0, slots := 0, locals := 0 } : Room).cells ({ frames := 0, cells := 0, slots := 0, locals := 0 } : Room).slots) := by
  refine MetFree.of_bodySF (plainFor_of_name pn_71) hisR ?_
  intro p e s m args below meth c s₁ Bd hml0 hP hK
  obtain ⟨rfl, hZ, hh⟩ := hP
  have hx := Bd.exec
  have hby := Bd.bytes
  have hml : c.maxLocals = 2 := hml0
  have hown : s.vm.findClass "java/lang/Integer" = some m.cls := findClass_of_methodNamed Bd.named
  have hnm := (name_of_methodNamed Bd.named Bd.method).1
  have X0 : Stand p l e ({ frames := 0, cells := 0, slots := 0, locals := 0 } : Room) s m #[(.int p0)] below meth c s₁ [] 0 0 := Stand.of_body Bd
  have e0 : s₁.heap = h0 := by rw [← hh, Bd.state]; rfl
  have N0 := Fr.nil n0
  have KC0 := Keep.refl h0 ([] : List Addr)
  have pre0 : ∀ t, Steps p.tables e below (s₁.setTop (mkF m 0 #[.val (.int p0), .unset] [])) t → Steps p.tables e below (s₁.setTop (entryFrame m #[(.int p0)] 2)) t := fun t k => castTop (ef_rm6 m p0) k
  have k31 := fun (t : State) (kk : Steps p.tables e below (s₁.setTop (mkF m 1 #[.val (.int p0), .unset] [(.int p0)])) t) => pre0 t (by
    show Steps p.tables e below (s₁.setTop (mkF m 0 #[.val (.int p0), .unset] [])) _
    refine XS.iloadN X0.here hx rfl (hb hby d6_0) rfl ?_
    exact kk)
  by_cases hc1_32 : (0 : Int32) < p0
  · have k41 := fun (t : State) (kk : Steps p.tables e below (s₁.setTop (mkF m 78 #[.val (.int (v6_63_l0 p0)), .val (.int (v6_63_l1 p0))] [(.int ((v6_63_l1 p0) - (((v6_63_l0 p0).toUInt32 >>> ((1 : Int32) &&& 31).toUInt32).toInt32)))])) t) => k31 t (by
      show Steps p.tables e below (s₁.setTop (mkF m 1 #[.val (.int p0), .unset] [(.int p0)])) _
      refine XS.ifYes X0.here hx rfl (pc0 := 1) (pc' := 15) rfl (hb hby d6_1) rfl ((if0 _ _).trans (tlt hc1_32).2.2.1) (by decide) (by decide) ?_
      show Steps p.tables e below (s₁.setTop (mkF m 15 #[.val (.int p0), .unset] [])) _
      refine XS.bipush X0.here hx rfl (hb hby d6_15) ?_
      show Steps p.tables e below (s₁.setTop (mkF m 17 #[.val (.int p0), .unset] [(.int (31 : Int32))])) _
      refine XS.istoreN X0.here hx rfl (hb hby d6_17) rfl (l' := #[.val (.int p0), .val (.int (31 : Int32))]) rfl ?_
      show Steps p.tables e below (s₁.setTop (mkF m 18 #[.val (.int p0), .val (.int (31 : Int32))] [])) _
      refine XS.iloadN X0.here hx rfl (hb hby d6_18) rfl ?_
      show Steps p.tables e below (s₁.setTop (mkF m 19 #[.val (.int p0), .val (.int (31 : Int32))] [(.int p0)])) _
      refine X0.ldcwInt hx hown (mvT hZ (hw _ (List.mem_of_getElem? (i := 36) rfl))) (g := (mkF m 19 #[.val (.int p0), .val (.int (31 : Int32))] [(.int p0)])) rfl (hb hby d6_19) _ ?_
      suffices k34 : Steps p.tables e below (s₁.setTop (mkF m 33 #[.val (.int (v6_22_l0 p0)), .val (.int (v6_22_l1 p0))] [])) t by
        by_cases hc22_33 : p0 < (65536 : Int32)
        · rw [(show (v6_22_l0 p0) = p0 from if_pos hc22_33)] at k34
          rw [(show (v6_22_l1 p0) = (31 : Int32) from if_pos hc22_33)] at k34
          show Steps p.tables e below (s₁.setTop (mkF m 22 #[.val (.int p0), .val (.int (31 : Int32))] [(.int (65536 : Int32)), (.int p0)])) _
          refine XS.icmpYes X0.here hx rfl (pc0 := 22) (pc' := 33) rfl (hb hby d6_22) rfl (tlt hc22_33).1 (by decide) (by decide) ?_
          exact k34
        · rw [(show (v6_22_l0 p0) = (v6_32_l0 p0) from if_neg hc22_33)] at k34
          rw [(show (v6_22_l1 p0) = ((31 : Int32) + (-16 : Int32)) from if_neg hc22_33)] at k34
          show Steps p.tables e below (s₁.setTop (mkF m 22 #[.val (.int p0), .val (.int (31 : Int32))] [(.int (65536 : Int32)), (.int p0)])) _
          refine XS.icmpNo X0.here hx rfl (hb hby d6_22) rfl (flt hc22_33).1 ?_
          show Steps p.tables e below (s₁.setTop (mkF m 25 #[.val (.int p0), .val (.int (31 : Int32))] [])) _
          refine XS.iinc X0.here hx rfl (hb hby d6_25) rfl (l' := #[.val (.int p0), .val (.int ((31 : Int32) + (-16 : Int32)))]) rfl ?_
          show Steps p.tables e below (s₁.setTop (mkF m 28 #[.val (.int p0), .val (.int ((31 : Int32) + (-16 : Int32)))] [])) _
          refine XS.iloadN X0.here hx rfl (hb hby d6_28) rfl ?_
          show Steps p.tables e below (s₁.setTop (mkF m 29 #[.val (.int p0), .val (.int ((31 : Int32) + (-16 : Int32)))] [(.int p0)])) _
          refine XS.bipush X0.here hx rfl (hb hby d6_29) ?_
          show Steps p.tables e below (s₁.setTop (mkF m 31 #[.val (.int p0), .val (.int ((31 : Int32) + (-16 : Int32)))] [(.int (16 : Int32)), (.int p0)])) _
          refine XS.iushr X0.here hx rfl (hb hby d6_31) rfl ?_
          show Steps p.tables e below (s₁.setTop (mkF m 32 #[.val (.int p0), .val (.int ((31 : Int32) + (-16 : Int32)))] [(.int ((p0.toUInt32 >>> ((16 : Int32) &&& 31).toUInt32).toInt32))])) _
          refine XS.istoreN X0.here hx rfl (hb hby d6_32) rfl (l' := #[.val (.int (v6_32_l0 p0)), .val (.int ((31 : Int32) + (-16 : Int32)))]) rfl ?_
          exact k34
      show Steps p.tables e below (s₁.setTop (mkF m 33 #[.val (.int (v6_22_l0 p0)), .val (.int (v6_22_l1 p0))] [])) _
      refine XS.iloadN X0.here hx rfl (hb hby d6_33) rfl ?_
      show Steps p.tables e below (s₁.setTop (mkF m 34 #[.val (.int (v6_22_l0 p0)), .val (.int (v6_22_l1 p0))] [(.int (v6_22_l0 p0))])) _
      refine XS.sipush X0.here hx rfl (hb hby d6_34) ?_
      suffices k36 : Steps p.tables e below (s₁.setTop (mkF m 48 #[.val (.int (v6_37_l0 p0)), .val (.int (v6_37_l1 p0))] [])) t by
        by_cases hc37_35 : (v6_22_l0 p0) < (256 : Int32)
        · rw [(show (v6_37_l0 p0) = (v6_22_l0 p0) from if_pos hc37_35)] at k36
          rw [(show (v6_37_l1 p0) = (v6_22_l1 p0) from if_pos hc37_35)] at k36
          show Steps p.tables e below (s₁.setTop (mkF m 37 #[.val (.int (v6_22_l0 p0)), .val (.int (v6_22_l1 p0))] [(.int (256 : Int32)), (.int (v6_22_l0 p0))])) _
          refine XS.icmpYes X0.here hx rfl (pc0 := 37) (pc' := 48) rfl (hb hby d6_37) rfl (tlt hc37_35).1 (by decide) (by decide) ?_
          exact k36
        · rw [(show (v6_37_l0 p0) = (v6_47_l0 p0) from if_neg hc37_35)] at k36
          rw [(show (v6_37_l1 p0) = ((v6_22_l1 p0) + (-8 : Int32)) from if_neg hc37_35)] at k36
          show Steps p.tables e below (s₁.setTop (mkF m 37 #[.val (.int (v6_22_l0 p0)), .val (.int (v6_22_l1 p0))] [(.int (256 : Int32)), (.int (v6_22_l0 p0))])) _
          refine XS.icmpNo X0.here hx rfl (hb hby d6_37) rfl (flt hc37_35).1 ?_
          show Steps p.tables e below (s₁.setTop (mkF m 40 #[.val (.int (v6_22_l0 p0)), .val (.int (v6_22_l1 p0))] [])) _
          refine XS.iinc X0.here hx rfl (hb hby d6_40) rfl (l' := #[.val (.int (v6_22_l0 p0)), .val (.int ((v6_22_l1 p0) + (-8 : Int32)))]) rfl ?_
          show Steps p.tables e below (s₁.setTop (mkF m 43 #[.val (.int (v6_22_l0 p0)), .val (.int ((v6_22_l1 p0) + (-8 : Int32)))] [])) _
          refine XS.iloadN X0.here hx rfl (hb hby d6_43) rfl ?_
          show Steps p.tables e below (s₁.setTop (mkF m 44 #[.val (.int (v6_22_l0 p0)), .val (.int ((v6_22_l1 p0) + (-8 : Int32)))] [(.int (v6_22_l0 p0))])) _
          refine XS.bipush X0.here hx rfl (hb hby d6_44) ?_
          show Steps p.tables e below (s₁.setTop (mkF m 46 #[.val (.int (v6_22_l0 p0)), .val (.int ((v6_22_l1 p0) + (-8 : Int32)))] [(.int (8 : Int32)), (.int (v6_22_l0 p0))])) _
          refine XS.iushr X0.here hx rfl (hb hby d6_46) rfl ?_
          show Steps p.tables e below (s₁.setTop (mkF m 47 #[.val (.int (v6_22_l0 p0)), .val (.int ((v6_22_l1 p0) + (-8 : Int32)))] [(.int (((v6_22_l0 p0).toUInt32 >>> ((8 : Int32) &&& 31).toUInt32).toInt32))])) _
          refine XS.istoreN X0.here hx rfl (hb hby d6_47) rfl (l' := #[.val (.int (v6_47_l0 p0)), .val (.int ((v6_22_l1 p0) + (-8 : Int32)))]) rfl ?_
          exact k36
      show Steps p.tables e below (s₁.setTop (mkF m 48 #[.val (.int (v6_37_l0 p0)), .val (.int (v6_37_l1 p0))] [])) _
      refine XS.iloadN X0.here hx rfl (hb hby d6_48) rfl ?_
      show Steps p.tables e below (s₁.setTop (mkF m 49 #[.val (.int (v6_37_l0 p0)), .val (.int (v6_37_l1 p0))] [(.int (v6_37_l0 p0))])) _
      refine XS.bipush X0.here hx rfl (hb hby d6_49) ?_
      suffices k38 : Steps p.tables e below (s₁.setTop (mkF m 61 #[.val (.int (v6_51_l0 p0)), .val (.int (v6_51_l1 p0))] [])) t by
        by_cases hc51_37 : (v6_37_l0 p0) < (16 : Int32)
        · rw [(show (v6_51_l0 p0) = (v6_37_l0 p0) from if_pos hc51_37)] at k38
          rw [(show (v6_51_l1 p0) = (v6_37_l1 p0) from if_pos hc51_37)] at k38
          show Steps p.tables e below (s₁.setTop (mkF m 51 #[.val (.int (v6_37_l0 p0)), .val (.int (v6_37_l1 p0))] [(.int (16 : Int32)), (.int (v6_37_l0 p0))])) _
          refine XS.icmpYes X0.here hx rfl (pc0 := 51) (pc' := 61) rfl (hb hby d6_51) rfl (tlt hc51_37).1 (by decide) (by decide) ?_
          exact k38
        · rw [(show (v6_51_l0 p0) = (v6_60_l0 p0) from if_neg hc51_37)] at k38
          rw [(show (v6_51_l1 p0) = ((v6_37_l1 p0) + (-4 : Int32)) from if_neg hc51_37)] at k38
          show Steps p.tables e below (s₁.setTop (mkF m 51 #[.val (.int (v6_37_l0 p0)), .val (.int (v6_37_l1 p0))] [(.int (16 : Int32)), (.int (v6_37_l0 p0))])) _
          refine XS.icmpNo X0.here hx rfl (hb hby d6_51) rfl (flt hc51_37).1 ?_
          show Steps p.tables e below (s₁.setTop (mkF m 54 #[.val (.int (v6_37_l0 p0)), .val (.int (v6_37_l1 p0))] [])) _
          refine XS.iinc X0.here hx rfl (hb hby d6_54) rfl (l' := #[.val (.int (v6_37_l0 p0)), .val (.int ((v6_37_l1 p0) + (-4 : Int32)))]) rfl ?_
          show Steps p.tables e below (s₁.setTop (mkF m 57 #[.val (.int (v6_37_l0 p0)), .val (.int ((v6_37_l1 p0) + (-4 : Int32)))] [])) _
          refine XS.iloadN X0.here hx rfl (hb hby d6_57) rfl ?_
          show Steps p.tables e below (s₁.setTop (mkF m 58 #[.val (.int (v6_37_l0 p0)), .val (.int ((v6_37_l1 p0) + (-4 : Int32)))] [(.int (v6_37_l0 p0))])) _
          refine XS.iconst X0.here hx rfl (hb hby d6_58) ?_
          show Steps p.tables e below (s₁.setTop (mkF m 59 #[.val (.int (v6_37_l0 p0)), .val (.int ((v6_37_l1 p0) + (-4 : Int32)))] [(.int (4 : Int32)), (.int (v6_37_l0 p0))])) _
          refine XS.iushr X0.here hx rfl (hb hby d6_59) rfl ?_
          show Steps p.tables e below (s₁.setTop (mkF m 60 #[.val (.int (v6_37_l0 p0)), .val (.int ((v6_37_l1 p0) + (-4 : Int32)))] [(.int (((v6_37_l0 p0).toUInt32 >>> ((4 : Int32) &&& 31).toUInt32).toInt32))])) _
          refine XS.istoreN X0.here hx rfl (hb hby d6_60) rfl (l' := #[.val (.int (v6_60_l0 p0)), .val (.int ((v6_37_l1 p0) + (-4 : Int32)))]) rfl ?_
          exact k38
      show Steps p.tables e below (s₁.setTop (mkF m 61 #[.val (.int (v6_51_l0 p0)), .val (.int (v6_51_l1 p0))] [])) _
      refine XS.iloadN X0.here hx rfl (hb hby d6_61) rfl ?_
      show Steps p.tables e below (s₁.setTop (mkF m 62 #[.val (.int (v6_51_l0 p0)), .val (.int (v6_51_l1 p0))] [(.int (v6_51_l0 p0))])) _
      refine XS.iconst X0.here hx rfl (hb hby d6_62) ?_
      suffices k40 : Steps p.tables e below (s₁.setTop (mkF m 73 #[.val (.int (v6_63_l0 p0)), .val (.int (v6_63_l1 p0))] [])) t by
        by_cases hc63_39 : (v6_51_l0 p0) < (4 : Int32)
        · rw [(show (v6_63_l0 p0) = (v6_51_l0 p0) from if_pos hc63_39)] at k40
          rw [(show (v6_63_l1 p0) = (v6_51_l1 p0) from if_pos hc63_39)] at k40
          show Steps p.tables e below (s₁.setTop (mkF m 63 #[.val (.int (v6_51_l0 p0)), .val (.int (v6_51_l1 p0))] [(.int (4 : Int32)), (.int (v6_51_l0 p0))])) _
          refine XS.icmpYes X0.here hx rfl (pc0 := 63) (pc' := 73) rfl (hb hby d6_63) rfl (tlt hc63_39).1 (by decide) (by decide) ?_
          exact k40
        · rw [(show (v6_63_l0 p0) = (v6_72_l0 p0) from if_neg hc63_39)] at k40
          rw [(show (v6_63_l1 p0) = ((v6_51_l1 p0) + (-2 : Int32)) from if_neg hc63_39)] at k40
          show Steps p.tables e below (s₁.setTop (mkF m 63 #[.val (.int (v6_51_l0 p0)), .val (.int (v6_51_l1 p0))] [(.int (4 : Int32)), (.int (v6_51_l0 p0))])) _
          refine XS.icmpNo X0.here hx rfl (hb hby d6_63) rfl (flt hc63_39).1 ?_
          show Steps p.tables e below (s₁.setTop (mkF m 66 #[.val (.int (v6_51_l0 p0)), .val (.int (v6_51_l1 p0))] [])) _
          refine XS.iinc X0.here hx rfl (hb hby d6_66) rfl (l' := #[.val (.int (v6_51_l0 p0)), .val (.int ((v6_51_l1 p0) + (-2 : Int32)))]) rfl ?_
          show Steps p.tables e below (s₁.setTop (mkF m 69 #[.val (.int (v6_51_l0 p0)), .val (.int ((v6_51_l1 p0) + (-2 : Int32)))] [])) _
          refine XS.iloadN X0.here hx rfl (hb hby d6_69) rfl ?_
          show Steps p.tables e below (s₁.setTop (mkF m 70 #[.val (.int (v6_51_l0 p0)), .val (.int ((v6_51_l1 p0) + (-2 : Int32)))] [(.int (v6_51_l0 p0))])) _
          refine XS.iconst X0.here hx rfl (hb hby d6_70) ?_
          show Steps p.tables e below (s₁.setTop (mkF m 71 #[.val (.int (v6_51_l0 p0)), .val (.int ((v6_51_l1 p0) + (-2 : Int32)))] [(.int (2 : Int32)), (.int (v6_51_l0 p0))])) _
          refine XS.iushr X0.here hx rfl (hb hby d6_71) rfl ?_
          show Steps p.tables e below (s₁.setTop (mkF m 72 #[.val (.int (v6_51_l0 p0)), .val (.int ((v6_51_l1 p0) + (-2 : Int32)))] [(.int (((v6_51_l0 p0).toUInt32 >>> ((2 : Int32) &&& 31).toUInt32).toInt32))])) _
          refine XS.istoreN X0.here hx rfl (hb hby d6_72) rfl (l' := #[.val (.int (v6_72_l0 p0)), .val (.int ((v6_51_l1 p0) + (-2 : Int32)))]) rfl ?_
          exact k40
      show Steps p.tables e below (s₁.setTop (mkF m 73 #[.val (.int (v6_63_l0 p0)), .val (.int (v6_63_l1 p0))] [])) _
      refine XS.iloadN X0.here hx rfl (hb hby d6_73) rfl ?_
      show Steps p.tables e below (s₁.setTop (mkF m 74 #[.val (.int (v6_63_l0 p0)), .val (.int (v6_63_l1 p0))] [(.int (v6_63_l1 p0))])) _
      refine XS.iloadN X0.here hx rfl (hb hby d6_74) rfl ?_
      show Steps p.tables e below (s₁.setTop (mkF m 75 #[.val (.int (v6_63_l0 p0)), .val (.int (v6_63_l1 p0))] [(.int (v6_63_l0 p0)), (.int (v6_63_l1 p0))])) _
      refine XS.iconst X0.here hx rfl (hb hby d6_75) ?_
      show Steps p.tables e below (s₁.setTop (mkF m 76 #[.val (.int (v6_63_l0 p0)), .val (.int (v6_63_l1 p0))] [(.int (1 : Int32)), (.int (v6_63_l0 p0)), (.int (v6_63_l1 p0))])) _
      refine XS.iushr X0.here hx rfl (hb hby d6_76) rfl ?_
      show Steps p.tables e below (s₁.setTop (mkF m 77 #[.val (.int (v6_63_l0 p0)), .val (.int (v6_63_l1 p0))] [(.int (((v6_63_l0 p0).toUInt32 >>> ((1 : Int32) &&& 31).toUInt32).toInt32)), (.int (v6_63_l1 p0))])) _
      refine XS.isub X0.here hx rfl (hb hby d6_77) rfl ?_
      exact kk)
    obtain ⟨fs, hr, hrun, hended, hW, hsame⟩ := X0.leave (v := some (.int ((v6_63_l1 p0) - (((v6_63_l0 p0).toUInt32 >>> ((1 : Int32) &&& 31).toUInt32).toInt32)))) (fun h => by rw [Bd.returns] at h; cases h)
    have hv : (v6_ret p0) = ((v6_63_l1 p0) - (((v6_63_l0 p0).toUInt32 >>> ((1 : Int32) &&& 31).toUInt32).toInt32)) := (if_pos hc1_32)
    refine ⟨_, _, k41 _ ?_, hrun, hended, _, _, rfl, ?_, ⟨_, rfl⟩, hW, hsame.mono (by decide) (by decide)⟩
    · show Steps p.tables e below (s₁.setTop (mkF m 78 #[.val (.int (v6_63_l0 p0)), .val (.int (v6_63_l1 p0))] [(.int ((v6_63_l1 p0) - (((v6_63_l0 p0).toUInt32 >>> ((1 : Int32) &&& 31).toUInt32).toInt32)))])) _
      exact retI X0 hx Bd.returns (hb hby d6_78) hr
    · show Q6 Z p0 h0 n0 _ s₁.heap _
      rw [e0]
      exact ⟨(congrArg (fun z => some (Value.int z)) hv).symm, N0, rfl⟩
  · have k44 := fun (t : State) (kk : Steps p.tables e below (s₁.setTop (mkF m 14 #[.val (.int p0), .unset] [(.int (v6_5_s0 p0))])) t) => k31 t (by
      show Steps p.tables e below (s₁.setTop (mkF m 1 #[.val (.int p0), .unset] [(.int p0)])) _
      refine XS.ifNo X0.here hx rfl (hb hby d6_1) rfl ((if0 _ _).trans (flt hc1_32).2.2.1) ?_
      show Steps p.tables e below (s₁.setTop (mkF m 4 #[.val (.int p0), .unset] [])) _
      refine XS.iloadN X0.here hx rfl (hb hby d6_4) rfl ?_
      suffices k43 : Steps p.tables e below (s₁.setTop (mkF m 14 #[.val (.int p0), .unset] [(.int (v6_5_s0 p0))])) t by
        by_cases hc5_42 : p0 = (0 : Int32)
        · rw [(show (v6_5_s0 p0) = (32 : Int32) from if_pos hc5_42)] at k43
          show Steps p.tables e below (s₁.setTop (mkF m 5 #[.val (.int p0), .unset] [(.int p0)])) _
          refine XS.ifNo X0.here hx rfl (hb hby d6_5) rfl ((if0 _ _).trans (teq hc5_42).2) ?_
          show Steps p.tables e below (s₁.setTop (mkF m 8 #[.val (.int p0), .unset] [])) _
          refine XS.bipush X0.here hx rfl (hb hby d6_8) ?_
          show Steps p.tables e below (s₁.setTop (mkF m 10 #[.val (.int p0), .unset] [(.int (32 : Int32))])) _
          refine XS.goto X0.here hx rfl (pc0 := 10) (pc' := 14) rfl (hb hby d6_10) (by decide) (by decide) ?_
          exact k43
        · rw [(show (v6_5_s0 p0) = (0 : Int32) from if_neg hc5_42)] at k43
          show Steps p.tables e below (s₁.setTop (mkF m 5 #[.val (.int p0), .unset] [(.int p0)])) _
          refine XS.ifYes X0.here hx rfl (pc0 := 5) (pc' := 13) rfl (hb hby d6_5) rfl ((if0 _ _).trans (feq hc5_42).2) (by decide) (by decide) ?_
          show Steps p.tables e below (s₁.setTop (mkF m 13 #[.val (.int p0), .unset] [])) _
          refine XS.iconst X0.here hx rfl (hb hby d6_13) ?_
          exact k43
      exact kk)
    obtain ⟨fs, hr, hrun, hended, hW, hsame⟩ := X0.leave (v := some (.int (v6_5_s0 p0))) (fun h => by rw [Bd.returns] at h; cases h)
    have hv : (v6_ret p0) = (v6_5_s0 p0) := (if_neg hc1_32)
    refine ⟨_, _, k44 _ ?_, hrun, hended, _, _, rfl, ?_, ⟨_, rfl⟩, hW, hsame.mono (by decide) (by decide)⟩
    · show Steps p.tables e below (s₁.setTop (mkF m 14 #[.val (.int p0), .unset] [(.int (v6_5_s0 p0))])) _
      exact retI X0 hx Bd.returns (hb hby d6_14) hr
    · show Q6 Z p0 h0 n0 _ s₁.heap _
      rw [e0]
      exact ⟨(congrArg (fun z => some (Value.int z)) hv).symm, N0, rfl⟩
theorem d13_0 : decode jdk_29_method_69_code 0 = .ok (.iload_n 0, 1) := by decide +kernel
theorem d13_1 : decode jdk_29_method_69_code 1 = .ok (.iload_n 1, 1) := by decide +kernel
theorem d13_2 : decode jdk_29_method_69_code 2 = .ok (.if_icmp .gt 7, 3) := by decide +kernel
theorem d13_5 : decode jdk_29_method_69_code 5 = .ok (.iload_n 0, 1) := by decide +kernel
theorem d13_6 : decode jdk_29_method_69_code 6 = .ok (.goto 4, 3) := by decide +kernel
theorem d13_9 : decode jdk_29_method_69_code 9 = .ok (.iload_n 1, 1) := by decide +kernel
theorem d13_10 : decode jdk_29_method_69_code 10 = .ok (.ireturn, 1) := by decide +kernel
def v13_2_s0 (p0 : Int32) (p1 : Int32) : Int32 := if p1 < p0 then p1 else p0
theorem ef_rm13 (m : MethodId) (p0 : Int32) (p1 : Int32) : entryFrame m #[(.int p0), (.int p1)] 2 = mkF m 0 #[.val (.int p0), .val (.int p1)] [] := by first | (simp [entryFrame, mkF, argsToLocals, Value.category]; done) | rfl
def Q13 (Z : State) (p0 : Int32) (p1 : Int32) (h0 : Heap) (n0 : Nat) (v : Option Value) (h : Heap) (L : List Loc) : Prop := v = some (.int (v13_2_s0 p0 p1)) ∧ Fr n0 L ∧ h = h0
set_option maxRecDepth 65536 in
set_option maxHeartbeats 40000000 in
theorem rm13 (l : Launch) (Z : State) (a0 : Array Value) (hw : ∀ d ∈ tables_1, d.before a0 Z = true) (ws : List Jvm.Cond) (p0 : Int32) (p1 : Int32) (h0 : Heap) (n0 : Nat) (Z0 : n0 ≤ h0.size) :
    MetFree l (⟨"java/lang/Math", "min", "(II)I"⟩ : MethodName) (head1 (Jvm.Cond.code (⟨"java/lang/Math", "min", "(II)I"⟩ : MethodName) jdk_29_method_69_code 2 (some .int) :: ws) ({ frames := 0, cells := 0, slots := 0, locals := 0 } : Room)) (fun a U => a = #[(.int p0), (.int p1)] ∧ Z.Warmed39 U.vm ∧ U.heap = h0) (fun _ _ _ _ _ => True) (fun _ U o U' => ∃ v L, o = .returned v ∧ Q13 Z p0 p1 h0 n0 v U'.heap L ∧ FrameEnd U o U' L ({ frames := 0, cells := 0, slots := 0, locals := 0 } : Room).cells ({ frames := 0, cells := 0, slots := 0, locals := 0 } : Room).slots) := by
  refine MetFree.of_bodySF (Jvm.Free.JP.mathPlain rfl (by decide +kernel)) hisR ?_
  intro p e s m args below meth c s₁ Bd hml0 hP hK
  obtain ⟨rfl, hZ, hh⟩ := hP
  have hx := Bd.exec
  have hby := Bd.bytes
  have hml : c.maxLocals = 2 := hml0
  have hown : s.vm.findClass "java/lang/Math" = some m.cls := findClass_of_methodNamed Bd.named
  have hnm := (name_of_methodNamed Bd.named Bd.method).1
  have X0 : Stand p l e ({ frames := 0, cells := 0, slots := 0, locals := 0 } : Room) s m #[(.int p0), (.int p1)] below meth c s₁ [] 0 0 := Stand.of_body Bd
  have e0 : s₁.heap = h0 := by rw [← hh, Bd.state]; rfl
  have N0 := Fr.nil n0
  have KC0 := Keep.refl h0 ([] : List Addr)
  have pre0 : ∀ t, Steps p.tables e below (s₁.setTop (mkF m 0 #[.val (.int p0), .val (.int p1)] [])) t → Steps p.tables e below (s₁.setTop (entryFrame m #[(.int p0), (.int p1)] 2)) t := fun t k => castTop (ef_rm13 m p0 p1) k
  have k47 := fun (t : State) (kk : Steps p.tables e below (s₁.setTop (mkF m 10 #[.val (.int p0), .val (.int p1)] [(.int (v13_2_s0 p0 p1))])) t) => pre0 t (by
    show Steps p.tables e below (s₁.setTop (mkF m 0 #[.val (.int p0), .val (.int p1)] [])) _
    refine XS.iloadN X0.here hx rfl (hb hby d13_0) rfl ?_
    show Steps p.tables e below (s₁.setTop (mkF m 1 #[.val (.int p0), .val (.int p1)] [(.int p0)])) _
    refine XS.iloadN X0.here hx rfl (hb hby d13_1) rfl ?_
    suffices k46 : Steps p.tables e below (s₁.setTop (mkF m 10 #[.val (.int p0), .val (.int p1)] [(.int (v13_2_s0 p0 p1))])) t by
      by_cases hc2_45 : p1 < p0
      · rw [(show (v13_2_s0 p0 p1) = p1 from if_pos hc2_45)] at k46
        show Steps p.tables e below (s₁.setTop (mkF m 2 #[.val (.int p0), .val (.int p1)] [(.int p1), (.int p0)])) _
        refine XS.icmpYes X0.here hx rfl (pc0 := 2) (pc' := 9) rfl (hb hby d13_2) rfl (tlt hc2_45).2.2.1 (by decide) (by decide) ?_
        show Steps p.tables e below (s₁.setTop (mkF m 9 #[.val (.int p0), .val (.int p1)] [])) _
        refine XS.iloadN X0.here hx rfl (hb hby d13_9) rfl ?_
        exact k46
      · rw [(show (v13_2_s0 p0 p1) = p0 from if_neg hc2_45)] at k46
        show Steps p.tables e below (s₁.setTop (mkF m 2 #[.val (.int p0), .val (.int p1)] [(.int p1), (.int p0)])) _
        refine XS.icmpNo X0.here hx rfl (hb hby d13_2) rfl (flt hc2_45).2.2.1 ?_
        show Steps p.tables e below (s₁.setTop (mkF m 5 #[.val (.int p0), .val (.int p1)] [])) _
        refine XS.iloadN X0.here hx rfl (hb hby d13_5) rfl ?_
        show Steps p.tables e below (s₁.setTop (mkF m 6 #[.val (.int p0), .val (.int p1)] [(.int p0)])) _
        refine XS.goto X0.here hx rfl (pc0 := 6) (pc' := 10) rfl (hb hby d13_6) (by decide) (by decide) ?_
        exact k46
    exact kk)
  obtain ⟨fs, hr, hrun, hended, hW, hsame⟩ := X0.leave (v := some (.int (v13_2_s0 p0 p1))) (fun h => by rw [Bd.returns] at h; cases h)
  refine ⟨_, _, k47 _ ?_, hrun, hended, _, _, rfl, ?_, ⟨_, rfl⟩, hW, hsame.mono (by decide) (by decide)⟩
  · show Steps p.tables e below (s₁.setTop (mkF m 10 #[.val (.int p0), .val (.int p1)] [(.int (v13_2_s0 p0 p1))])) _
    exact retI X0 hx Bd.returns (hb hby d13_10) hr
  · show Q13 Z p0 p1 h0 n0 _ s₁.heap _
    rw [e0]
    exact ⟨rfl, N0, rfl⟩
theorem pd_1 : parseMethodDescriptor "(I)I" = some ⟨[.int], some .int⟩ := by decide +kernel
theorem pd_2 : parseMethodDescriptor "(II)I" = some ⟨[.int, .int], some .int⟩ := by decide +kernel
theorem d5_0 : decode prog_49_method_10_code 0 = .ok (.bipush 32, 2) := by decide +kernel
theorem d5_2 : decode prog_49_method_10_code 2 = .ok (.iload_n 1, 1) := by decide +kernel
theorem d5_3 : decode prog_49_method_10_code 3 = .ok (.invokestatic 42, 3) := by decide +kernel
theorem d5_6 : decode prog_49_method_10_code 6 = .ok (.isub, 1) := by decide +kernel
theorem d5_7 : decode prog_49_method_10_code 7 = .ok (.istore_n 2, 1) := by decide +kernel
theorem d5_8 : decode prog_49_method_10_code 8 = .ok (.aload_n 0, 1) := by decide +kernel
theorem d5_9 : decode prog_49_method_10_code 9 = .ok (.getfield 9, 3) := by decide +kernel
theorem d5_12 : decode prog_49_method_10_code 12 = .ok (.bipush 9, 2) := by decide +kernel
theorem d5_14 : decode prog_49_method_10_code 14 = .ok (.if_icmp .ne 7, 3) := by decide +kernel
theorem d5_17 : decode prog_49_method_10_code 17 = .ok (.iload_n 2, 1) := by decide +kernel
theorem d5_18 : decode prog_49_method_10_code 18 = .ok (.goto 11, 3) := by decide +kernel
theorem d5_21 : decode prog_49_method_10_code 21 = .ok (.iload_n 2, 1) := by decide +kernel
theorem d5_22 : decode prog_49_method_10_code 22 = .ok (.aload_n 0, 1) := by decide +kernel
theorem d5_23 : decode prog_49_method_10_code 23 = .ok (.getfield 9, 3) := by decide +kernel
theorem d5_26 : decode prog_49_method_10_code 26 = .ok (.invokestatic 45, 3) := by decide +kernel
theorem d5_29 : decode prog_49_method_10_code 29 = .ok (.ireturn, 1) := by decide +kernel
def v5_ret (p1 : Int32) (w_maxBits_ra0 : Int32) : Int32 := (if w_maxBits_ra0 = (9 : Int32) then ((32 : Int32) - (v6_ret p1)) else (v13_2_s0 ((32 : Int32) - (v6_ret p1)) w_maxBits_ra0))
theorem ef_rm5 (m : MethodId) (ra0 : Addr) (p1 : Int32) : entryFrame m #[(.ref ra0), (.int p1)] 3 = mkF m 0 #[.val (.ref ra0), .val (.int p1), .unset] [] := by first | (simp [entryFrame, mkF, argsToLocals, Value.category]; done) | rfl
def Q5 (Z : State) (ra0 : Addr) (p1 : Int32) (w_maxBits_ra0 : Int32) (h0 : Heap) (n0 : Nat) (v : Option Value) (h : Heap) (L : List Loc) : Prop := v = some (.int (v5_ret p1 w_maxBits_ra0)) ∧ Fr n0 L ∧ h = h0
set_option maxRecDepth 65536 in
set_option maxHeartbeats 40000000 in
theorem rm5 (l : Launch) (Z : State) (a0 : Array Value) (hw : ∀ d ∈ tables_1, d.before a0 Z = true) (ws : List Jvm.Cond) (ra0 : Addr) (p1 : Int32) (w_maxBits_ra0 : Int32) (h0 : Heap) (n0 : Nat) (Z0 : n0 ≤ h0.size) (F_maxBits_ra0 : Fld Z h0 ra0 "phrasebook/ZFormat$Layout" "maxBits" "I" (.int w_maxBits_ra0)) :
    MetFree l (⟨"phrasebook/ZFormat$Layout", "widthFor", "(I)I"⟩ : MethodName) (head1 (Jvm.Cond.code (⟨"phrasebook/ZFormat$Layout", "widthFor", "(I)I"⟩ : MethodName) prog_49_method_10_code 3 (some .int) :: ws) ({ frames := 1, cells := 0, slots := 0, locals := 14 } : Room)) (fun a U => a = #[(.ref ra0), (.int p1)] ∧ Z.Warmed39 U.vm ∧ U.heap = h0) (fun _ _ _ _ _ => True) (fun _ U o U' => ∃ v L, o = .returned v ∧ Q5 Z ra0 p1 w_maxBits_ra0 h0 n0 v U'.heap L ∧ FrameEnd U o U' L ({ frames := 1, cells := 0, slots := 0, locals := 14 } : Room).cells ({ frames := 1, cells := 0, slots := 0, locals := 14 } : Room).slots) := by
  refine MetFree.of_bodySF (plainFor_of_name pn_11) hisR ?_
  intro p e s m args below meth c s₁ Bd hml0 hP hK
  obtain ⟨rfl, hZ, hh⟩ := hP
  have hx := Bd.exec
  have hby := Bd.bytes
  have hml : c.maxLocals = 3 := hml0
  have hown : s.vm.findClass "phrasebook/ZFormat$Layout" = some m.cls := findClass_of_methodNamed Bd.named
  have hnm := (name_of_methodNamed Bd.named Bd.method).1
  have X0 : Stand p l e ({ frames := 1, cells := 0, slots := 0, locals := 14 } : Room) s m #[(.ref ra0), (.int p1)] below meth c s₁ [] 0 0 := Stand.of_body Bd
  have e0 : s₁.heap = h0 := by rw [← hh, Bd.state]; rfl
  have N0 := Fr.nil n0
  have KC0 := Keep.refl h0 ([] : List Addr)
  have pre0 : ∀ t, Steps p.tables e below (s₁.setTop (mkF m 0 #[.val (.ref ra0), .val (.int p1), .unset] [])) t → Steps p.tables e below (s₁.setTop (entryFrame m #[(.ref ra0), (.int p1)] 3)) t := fun t k => castTop (ef_rm5 m ra0 p1) k
  have k48 := fun (t : State) (kk : Steps p.tables e below (s₁.setTop (mkF m 3 #[.val (.ref ra0), .val (.int p1), .unset] [(.int p1), (.int (32 : Int32))])) t) => pre0 t (by
    show Steps p.tables e below (s₁.setTop (mkF m 0 #[.val (.ref ra0), .val (.int p1), .unset] [])) _
    refine XS.bipush X0.here hx rfl (hb hby d5_0) ?_
    show Steps p.tables e below (s₁.setTop (mkF m 2 #[.val (.ref ra0), .val (.int p1), .unset] [(.int (32 : Int32))])) _
    refine XS.iloadN X0.here hx rfl (hb hby d5_2) rfl ?_
    exact kk)
  have Zz49 : n0 ≤ h0.size := (Nat.le_trans Z0 KC0.1)
  obtain ⟨_, _, ⟨T49, L49, k49, n49⟩, -, X49, ⟨Lc49, hQ49, l49, y49, z49⟩, st49⟩ := Jvm.LawKit.callS X0 hx (y := (⟨"java/lang/Integer", "numberOfLeadingZeros", "(I)I"⟩ : MethodName)) hown (mvT hZ (hw _ (List.mem_of_getElem? (i := 32) rfl))) (mvT hZ (hw _ (List.mem_of_getElem? (i := 33) rfl))) (mvT hZ (hw _ (List.mem_of_getElem? (i := 34) rfl))) (mvT hZ (hw _ (List.mem_of_getElem? (i := 35) rfl))) (by decide) (backOf (W := 1) (rm6 l Z a0 hw [] p1 h0 n0 Zz49) hZ (hw _ (List.mem_of_getElem? (i := 35) rfl)) (hw _ (List.mem_of_getElem? (i := 34) rfl)) (by decide) (by decide)) (g := (mkF m 3 #[.val (.ref ra0), .val (.int p1), .unset] [(.int p1), (.int (32 : Int32))])) rfl (by rw [hml]; rfl) (argsL := [(.int p1)]) (rest := [(.int (32 : Int32))]) (lenOf pd_1 rfl) rfl (by show 2 * 0 + _ ≤ _; exact Nat.le_of_eq rfl) (hb hby d5_3) (fun _ _ => ⟨rfl, e0, (by decide : 0 + 0 ≤ _), (by decide : 0 + 0 ≤ _)⟩)
  dsimp only [Pt.U, Pt.locs, Pt.cells, Pt.slots] at X49 l49 y49 z49 st49 hQ49
  subst l49 y49 z49
  obtain ⟨rfl, N49q, e49⟩ := hQ49
  have N49 := Fr.app N0 N49q
  have k50 := fun (t : State) (kk : Steps p.tables e below (T49.setTop (mkF m 6 #[.val (.ref ra0), .val (.int p1), .unset] [(.int (v6_ret p1)), (.int (32 : Int32))])) t) => k48 t (st49 _ kk)
  have k51 := fun (t : State) (kk : Steps p.tables e below (T49.setTop (mkF m 9 #[.val (.ref ra0), .val (.int p1), .val (.int ((32 : Int32) - (v6_ret p1)))] [(.ref ra0)])) t) => k50 t (by
    show Steps p.tables e below (T49.setTop (mkF m 6 #[.val (.ref ra0), .val (.int p1), .unset] [(.int (v6_ret p1)), (.int (32 : Int32))])) _
    refine XS.isub X49.here hx rfl (hb hby d5_6) rfl ?_
    show Steps p.tables e below (T49.setTop (mkF m 7 #[.val (.ref ra0), .val (.int p1), .unset] [(.int ((32 : Int32) - (v6_ret p1)))])) _
    refine XS.istoreN X49.here hx rfl (hb hby d5_7) rfl (l' := #[.val (.ref ra0), .val (.int p1), .val (.int ((32 : Int32) - (v6_ret p1)))]) rfl ?_
    show Steps p.tables e below (T49.setTop (mkF m 8 #[.val (.ref ra0), .val (.int p1), .val (.int ((32 : Int32) - (v6_ret p1)))] [])) _
    refine XS.aloadN X49.here hx rfl (hb hby d5_8) rfl rfl ?_
    exact kk)
  obtain ⟨T52, X52, e52, st52⟩ := getF X49 hx hZ hown (host := "") (Or.inl (hw _ (List.mem_of_getElem? (i := 10) rfl))) Via.refl e49 F_maxBits_ra0 (g := (mkF m 9 #[.val (.ref ra0), .val (.int p1), .val (.int ((32 : Int32) - (v6_ret p1)))] [(.ref ra0)])) rfl rfl (hb hby d5_9)
  have k53 := fun (t : State) (kk : Steps p.tables e below (T52.setTop (mkF m 12 #[.val (.ref ra0), .val (.int p1), .val (.int ((32 : Int32) - (v6_ret p1)))] [(.int w_maxBits_ra0)])) t) => k51 t (st52 _ kk)
  have k54 := fun (t : State) (kk : Steps p.tables e below (T52.setTop (mkF m 14 #[.val (.ref ra0), .val (.int p1), .val (.int ((32 : Int32) - (v6_ret p1)))] [(.int (9 : Int32)), (.int w_maxBits_ra0)])) t) => k53 t (by
    show Steps p.tables e below (T52.setTop (mkF m 12 #[.val (.ref ra0), .val (.int p1), .val (.int ((32 : Int32) - (v6_ret p1)))] [(.int w_maxBits_ra0)])) _
    refine XS.bipush X52.here hx rfl (hb hby d5_12) ?_
    exact kk)
  by_cases hc14_55 : w_maxBits_ra0 = (9 : Int32)
  · have k56 := fun (t : State) (kk : Steps p.tables e below (T52.setTop (mkF m 29 #[.val (.ref ra0), .val (.int p1), .val (.int ((32 : Int32) - (v6_ret p1)))] [(.int ((32 : Int32) - (v6_ret p1)))])) t) => k54 t (by
      show Steps p.tables e below (T52.setTop (mkF m 14 #[.val (.ref ra0), .val (.int p1), .val (.int ((32 : Int32) - (v6_ret p1)))] [(.int (9 : Int32)), (.int w_maxBits_ra0)])) _
      refine XS.icmpNo X52.here hx rfl (hb hby d5_14) rfl (teq hc14_55).2 ?_
      show Steps p.tables e below (T52.setTop (mkF m 17 #[.val (.ref ra0), .val (.int p1), .val (.int ((32 : Int32) - (v6_ret p1)))] [])) _
      refine XS.iloadN X52.here hx rfl (hb hby d5_17) rfl ?_
      show Steps p.tables e below (T52.setTop (mkF m 18 #[.val (.ref ra0), .val (.int p1), .val (.int ((32 : Int32) - (v6_ret p1)))] [(.int ((32 : Int32) - (v6_ret p1)))])) _
      refine XS.goto X52.here hx rfl (pc0 := 18) (pc' := 29) rfl (hb hby d5_18) (by decide) (by decide) ?_
      exact kk)
    obtain ⟨fs, hr, hrun, hended, hW, hsame⟩ := X52.leave (v := some (.int ((32 : Int32) - (v6_ret p1)))) (fun h => by rw [Bd.returns] at h; cases h)
    have hv : (v5_ret p1 w_maxBits_ra0) = ((32 : Int32) - (v6_ret p1)) := (if_pos hc14_55)
    refine ⟨_, _, k56 _ ?_, hrun, hended, _, _, rfl, ?_, ⟨_, rfl⟩, hW, hsame.mono (by decide) (by decide)⟩
    · show Steps p.tables e below (T52.setTop (mkF m 29 #[.val (.ref ra0), .val (.int p1), .val (.int ((32 : Int32) - (v6_ret p1)))] [(.int ((32 : Int32) - (v6_ret p1)))])) _
      exact retI X52 hx Bd.returns (hb hby d5_29) hr
    · show Q5 Z ra0 p1 w_maxBits_ra0 h0 n0 _ T52.heap _
      rw [e52]
      exact ⟨(congrArg (fun z => some (Value.int z)) hv).symm, N49, rfl⟩
  · have k57 := fun (t : State) (kk : Steps p.tables e below (T52.setTop (mkF m 23 #[.val (.ref ra0), .val (.int p1), .val (.int ((32 : Int32) - (v6_ret p1)))] [(.ref ra0), (.int ((32 : Int32) - (v6_ret p1)))])) t) => k54 t (by
      show Steps p.tables e below (T52.setTop (mkF m 14 #[.val (.ref ra0), .val (.int p1), .val (.int ((32 : Int32) - (v6_ret p1)))] [(.int (9 : Int32)), (.int w_maxBits_ra0)])) _
      refine XS.icmpYes X52.here hx rfl (pc0 := 14) (pc' := 21) rfl (hb hby d5_14) rfl (feq hc14_55).2 (by decide) (by decide) ?_
      show Steps p.tables e below (T52.setTop (mkF m 21 #[.val (.ref ra0), .val (.int p1), .val (.int ((32 : Int32) - (v6_ret p1)))] [])) _
      refine XS.iloadN X52.here hx rfl (hb hby d5_21) rfl ?_
      show Steps p.tables e below (T52.setTop (mkF m 22 #[.val (.ref ra0), .val (.int p1), .val (.int ((32 : Int32) - (v6_ret p1)))] [(.int ((32 : Int32) - (v6_ret p1)))])) _
      refine XS.aloadN X52.here hx rfl (hb hby d5_22) rfl rfl ?_
      exact kk)
    obtain ⟨T58, X58, e58, st58⟩ := getF X52 hx hZ hown (host := "") (Or.inl (hw _ (List.mem_of_getElem? (i := 10) rfl))) Via.refl e52 F_maxBits_ra0 (g := (mkF m 23 #[.val (.ref ra0), .val (.int p1), .val (.int ((32 : Int32) - (v6_ret p1)))] [(.ref ra0), (.int ((32 : Int32) - (v6_ret p1)))])) rfl rfl (hb hby d5_23)
    have k59 := fun (t : State) (kk : Steps p.tables e below (T58.setTop (mkF m 26 #[.val (.ref ra0), .val (.int p1), .val (.int ((32 : Int32) - (v6_ret p1)))] [(.int w_maxBits_ra0), (.int ((32 : Int32) - (v6_ret p1)))])) t) => k57 t (st58 _ kk)
    have Zz60 : n0 ≤ h0.size := (Nat.le_trans Z0 KC0.1)
    obtain ⟨_, _, ⟨T60, L60, k60, n60⟩, -, X60, ⟨Lc60, hQ60, l60, y60, z60⟩, st60⟩ := Jvm.LawKit.callS X58 hx (y := (⟨"java/lang/Math", "min", "(II)I"⟩ : MethodName)) hown (mvT hZ (hw _ (List.mem_of_getElem? (i := 66) rfl))) (mvT hZ (hw _ (List.mem_of_getElem? (i := 67) rfl))) (mvT hZ (hw _ (List.mem_of_getElem? (i := 68) rfl))) (mvT hZ (hw _ (List.mem_of_getElem? (i := 69) rfl))) (by decide) (backOf (W := 0) (rm13 l Z a0 hw [] ((32 : Int32) - (v6_ret p1)) w_maxBits_ra0 h0 n0 Zz60) hZ (hw _ (List.mem_of_getElem? (i := 69) rfl)) (hw _ (List.mem_of_getElem? (i := 68) rfl)) (by decide) (by decide)) (g := (mkF m 26 #[.val (.ref ra0), .val (.int p1), .val (.int ((32 : Int32) - (v6_ret p1)))] [(.int w_maxBits_ra0), (.int ((32 : Int32) - (v6_ret p1)))])) rfl (by rw [hml]; rfl) (argsL := [(.int ((32 : Int32) - (v6_ret p1))), (.int w_maxBits_ra0)]) (rest := []) (lenOf pd_2 rfl) rfl (by show 2 * 0 + _ ≤ _; exact Nat.le_of_eq rfl) (hb hby d5_26) (fun _ _ => ⟨rfl, e58, (by decide : 0 + 0 ≤ _), (by decide : 0 + 0 ≤ _)⟩)
    dsimp only [Pt.U, Pt.locs, Pt.cells, Pt.slots] at X60 l60 y60 z60 st60 hQ60
    subst l60 y60 z60
    obtain ⟨rfl, N60q, e60⟩ := hQ60
    have N60 := Fr.app N49 N60q
    have k61 := fun (t : State) (kk : Steps p.tables e below (T60.setTop (mkF m 29 #[.val (.ref ra0), .val (.int p1), .val (.int ((32 : Int32) - (v6_ret p1)))] [(.int (v13_2_s0 ((32 : Int32) - (v6_ret p1)) w_maxBits_ra0))])) t) => k59 t (st60 _ kk)
    obtain ⟨fs, hr, hrun, hended, hW, hsame⟩ := X60.leave (v := some (.int (v13_2_s0 ((32 : Int32) - (v6_ret p1)) w_maxBits_ra0))) (fun h => by rw [Bd.returns] at h; cases h)
    have hv : (v5_ret p1 w_maxBits_ra0) = (v13_2_s0 ((32 : Int32) - (v6_ret p1)) w_maxBits_ra0) := (if_neg hc14_55)
    refine ⟨_, _, k61 _ ?_, hrun, hended, _, _, rfl, ?_, ⟨_, rfl⟩, hW, hsame.mono (by decide) (by decide)⟩
    · show Steps p.tables e below (T60.setTop (mkF m 29 #[.val (.ref ra0), .val (.int p1), .val (.int ((32 : Int32) - (v6_ret p1)))] [(.int (v13_2_s0 ((32 : Int32) - (v6_ret p1)) w_maxBits_ra0))])) _
      exact retI X60 hx Bd.returns (hb hby d5_29) hr
    · show Q5 Z ra0 p1 w_maxBits_ra0 h0 n0 _ T60.heap _
      rw [e60]
      exact ⟨(congrArg (fun z => some (Value.int z)) hv).symm, N60, rfl⟩
theorem d7_0 : decode prog_49_method_8_code 0 = .ok (.iload_n 1, 1) := by decide +kernel
theorem d7_1 : decode prog_49_method_8_code 1 = .ok (.aload_n 0, 1) := by decide +kernel
theorem d7_2 : decode prog_49_method_8_code 2 = .ok (.getfield 18, 3) := by decide +kernel
theorem d7_5 : decode prog_49_method_8_code 5 = .ok (.if_icmp .ne 10, 3) := by decide +kernel
theorem d7_8 : decode prog_49_method_8_code 8 = .ok (.aload_n 0, 1) := by decide +kernel
theorem d7_9 : decode prog_49_method_8_code 9 = .ok (.getfield 24, 3) := by decide +kernel
theorem d7_12 : decode prog_49_method_8_code 12 = .ok (.ifCond .eq 7, 3) := by decide +kernel
theorem d7_15 : decode prog_49_method_8_code 15 = .ok (.iconst 1, 1) := by decide +kernel
theorem d7_16 : decode prog_49_method_8_code 16 = .ok (.goto 4, 3) := by decide +kernel
theorem d7_19 : decode prog_49_method_8_code 19 = .ok (.iconst 0, 1) := by decide +kernel
theorem d7_20 : decode prog_49_method_8_code 20 = .ok (.ireturn, 1) := by decide +kernel
def v7_12_s0 (w_groupEnded_ra0 : Int32) : Int32 := if w_groupEnded_ra0 = (0 : Int32) then (0 : Int32) else (1 : Int32)
def v7_ret (p1 : Int32) (w_width_ra0 : Int32) (w_groupEnded_ra0 : Int32) : Int32 := (if p1 = w_width_ra0 then (nar .boolean (v7_12_s0 w_groupEnded_ra0)) else (1 : Int32))
theorem ef_rm7 (m : MethodId) (ra0 : Addr) (p1 : Int32) : entryFrame m #[(.ref ra0), (.int p1)] 2 = mkF m 0 #[.val (.ref ra0), .val (.int p1)] [] := by first | (simp [entryFrame, mkF, argsToLocals, Value.category]; done) | rfl
def Q7 (Z : State) (ra0 : Addr) (p1 : Int32) (w_width_ra0 : Int32) (w_groupEnded_ra0 : Int32) (h0 : Heap) (n0 : Nat) (v : Option Value) (h : Heap) (L : List Loc) : Prop := v = some (.int (v7_ret p1 w_width_ra0 w_groupEnded_ra0)) ∧ Fr n0 L ∧ h = h0
set_option maxRecDepth 65536 in
set_option maxHeartbeats 40000000 in
theorem rm7 (l : Launch) (Z : State) (a0 : Array Value) (hw : ∀ d ∈ tables_1, d.before a0 Z = true) (ws : List Jvm.Cond) (ra0 : Addr) (p1 : Int32) (w_width_ra0 : Int32) (w_groupEnded_ra0 : Int32) (h0 : Heap) (n0 : Nat) (Z0 : n0 ≤ h0.size) (F_width_ra0 : Fld Z h0 ra0 "phrasebook/ZFormat$Layout" "width" "I" (.int w_width_ra0)) (F_groupEnded_ra0 : Fld Z h0 ra0 "phrasebook/ZFormat$Layout" "groupEnded" "Z" (.int w_groupEnded_ra0)) :
    MetFree l (⟨"phrasebook/ZFormat$Layout", "startsGroup", "(I)Z"⟩ : MethodName) (head1 (Jvm.Cond.code (⟨"phrasebook/ZFormat$Layout", "startsGroup", "(I)Z"⟩ : MethodName) prog_49_method_8_code 2 (some .boolean) :: ws) ({ frames := 0, cells := 0, slots := 0, locals := 0 } : Room)) (fun a U => a = #[(.ref ra0), (.int p1)] ∧ Z.Warmed39 U.vm ∧ U.heap = h0) (fun _ _ _ _ _ => True) (fun _ U o U' => ∃ v L, o = .returned v ∧ Q7 Z ra0 p1 w_width_ra0 w_groupEnded_ra0 h0 n0 v U'.heap L ∧ FrameEnd U o U' L ({ frames := 0, cells := 0, slots := 0, locals := 0 } : Room).cells ({ frames := 0, cells := 0, slots := 0, locals := 0 } : Room).slots) := by
  refine MetFree.of_bodySF (plainFor_of_name pn_11) hisR ?_
  intro p e s m args below meth c s₁ Bd hml0 hP hK
  obtain ⟨rfl, hZ, hh⟩ := hP
  have hx := Bd.exec
  have hby := Bd.bytes
  have hml : c.maxLocals = 2 := hml0
  have hown : s.vm.findClass "phrasebook/ZFormat$Layout" = some m.cls := findClass_of_methodNamed Bd.named
  have hnm := (name_of_methodNamed Bd.named Bd.method).1
  have X0 : Stand p l e ({ frames := 0, cells := 0, slots := 0, locals := 0 } : Room) s m #[(.ref ra0), (.int p1)] below meth c s₁ [] 0 0 := Stand.of_body Bd
  have e0 : s₁.heap = h0 := by rw [← hh, Bd.state]; rfl
  have N0 := Fr.nil n0
  have KC0 := Keep.refl h0 ([] : List Addr)
  have pre0 : ∀ t, Steps p.tables e below (s₁.setTop (mkF m 0 #[.val (.ref ra0), .val (.int p1)] [])) t → Steps p.tables e below (s₁.setTop (entryFrame m #[(.ref ra0), (.int p1)] 2)) t := fun t k => castTop (ef_rm7 m ra0 p1) k
  have k62 := fun (t : State) (kk : Steps p.tables e below (s₁.setTop (mkF m 2 #[.val (.ref ra0), .val (.int p1)] [(.ref ra0), (.int p1)])) t) => pre0 t (by
    show Steps p.tables e below (s₁.setTop (mkF m 0 #[.val (.ref ra0), .val (.int p1)] [])) _
    refine XS.iloadN X0.here hx rfl (hb hby d7_0) rfl ?_
    show Steps p.tables e below (s₁.setTop (mkF m 1 #[.val (.ref ra0), .val (.int p1)] [(.int p1)])) _
    refine XS.aloadN X0.here hx rfl (hb hby d7_1) rfl rfl ?_
    exact kk)
  obtain ⟨T63, X63, e63, st63⟩ := getF X0 hx hZ hown (host := "") (Or.inl (hw _ (List.mem_of_getElem? (i := 17) rfl))) Via.refl e0 F_width_ra0 (g := (mkF m 2 #[.val (.ref ra0), .val (.int p1)] [(.ref ra0), (.int p1)])) rfl rfl (hb hby d7_2)
  have k64 := fun (t : State) (kk : Steps p.tables e below (T63.setTop (mkF m 5 #[.val (.ref ra0), .val (.int p1)] [(.int w_width_ra0), (.int p1)])) t) => k62 t (st63 _ kk)
  by_cases hc5_65 : p1 = w_width_ra0
  · have k66 := fun (t : State) (kk : Steps p.tables e below (T63.setTop (mkF m 9 #[.val (.ref ra0), .val (.int p1)] [(.ref ra0)])) t) => k64 t (by
      show Steps p.tables e below (T63.setTop (mkF m 5 #[.val (.ref ra0), .val (.int p1)] [(.int w_width_ra0), (.int p1)])) _
      refine XS.icmpNo X63.here hx rfl (hb hby d7_5) rfl (teq hc5_65).2 ?_
      show Steps p.tables e below (T63.setTop (mkF m 8 #[.val (.ref ra0), .val (.int p1)] [])) _
      refine XS.aloadN X63.here hx rfl (hb hby d7_8) rfl rfl ?_
      exact kk)
    obtain ⟨T67, X67, e67, st67⟩ := getF X63 hx hZ hown (host := "") (Or.inl (hw _ (List.mem_of_getElem? (i := 21) rfl))) Via.refl e63 F_groupEnded_ra0 (g := (mkF m 9 #[.val (.ref ra0), .val (.int p1)] [(.ref ra0)])) rfl rfl (hb hby d7_9)
    have k68 := fun (t : State) (kk : Steps p.tables e below (T67.setTop (mkF m 12 #[.val (.ref ra0), .val (.int p1)] [(.int w_groupEnded_ra0)])) t) => k66 t (st67 _ kk)
    have k71 := fun (t : State) (kk : Steps p.tables e below (T67.setTop (mkF m 20 #[.val (.ref ra0), .val (.int p1)] [(.int (v7_12_s0 w_groupEnded_ra0))])) t) => k68 t (by
      suffices k70 : Steps p.tables e below (T67.setTop (mkF m 20 #[.val (.ref ra0), .val (.int p1)] [(.int (v7_12_s0 w_groupEnded_ra0))])) t by
        by_cases hc12_69 : w_groupEnded_ra0 = (0 : Int32)
        · rw [(show (v7_12_s0 w_groupEnded_ra0) = (0 : Int32) from if_pos hc12_69)] at k70
          show Steps p.tables e below (T67.setTop (mkF m 12 #[.val (.ref ra0), .val (.int p1)] [(.int w_groupEnded_ra0)])) _
          refine XS.ifYes X67.here hx rfl (pc0 := 12) (pc' := 19) rfl (hb hby d7_12) rfl ((if0 _ _).trans (teq hc12_69).1) (by decide) (by decide) ?_
          show Steps p.tables e below (T67.setTop (mkF m 19 #[.val (.ref ra0), .val (.int p1)] [])) _
          refine XS.iconst X67.here hx rfl (hb hby d7_19) ?_
          exact k70
        · rw [(show (v7_12_s0 w_groupEnded_ra0) = (1 : Int32) from if_neg hc12_69)] at k70
          show Steps p.tables e below (T67.setTop (mkF m 12 #[.val (.ref ra0), .val (.int p1)] [(.int w_groupEnded_ra0)])) _
          refine XS.ifNo X67.here hx rfl (hb hby d7_12) rfl ((if0 _ _).trans (feq hc12_69).1) ?_
          show Steps p.tables e below (T67.setTop (mkF m 15 #[.val (.ref ra0), .val (.int p1)] [])) _
          refine XS.iconst X67.here hx rfl (hb hby d7_15) ?_
          show Steps p.tables e below (T67.setTop (mkF m 16 #[.val (.ref ra0), .val (.int p1)] [(.int (1 : Int32))])) _
          refine XS.goto X67.here hx rfl (pc0 := 16) (pc' := 20) rfl (hb hby d7_16) (by decide) (by decide) ?_
          exact k70
      exact kk)
    obtain ⟨fs, hr, hrun, hended, hW, hsame⟩ := X67.leave (v := some (.int (nar .boolean (v7_12_s0 w_groupEnded_ra0)))) (fun h => by rw [Bd.returns] at h; cases h)
    have hv : (v7_ret p1 w_width_ra0 w_groupEnded_ra0) = (nar .boolean (v7_12_s0 w_groupEnded_ra0)) := (if_pos hc5_65)
    refine ⟨_, _, k71 _ ?_, hrun, hended, _, _, rfl, ?_, ⟨_, rfl⟩, hW, hsame.mono (by decide) (by decide)⟩
    · show Steps p.tables e below (T67.setTop (mkF m 20 #[.val (.ref ra0), .val (.int p1)] [(.int (v7_12_s0 w_groupEnded_ra0))])) _
      exact retN X67 hx (t := .boolean) Bd.returns (by simp) (hb hby d7_20) hr
    · show Q7 Z ra0 p1 w_width_ra0 w_groupEnded_ra0 h0 n0 _ T67.heap _
      rw [e67]
      exact ⟨(congrArg (fun z => some (Value.int z)) hv).symm, N0, rfl⟩
  · have k72 := fun (t : State) (kk : Steps p.tables e below (T63.setTop (mkF m 20 #[.val (.ref ra0), .val (.int p1)] [(.int (1 : Int32))])) t) => k64 t (by
      show Steps p.tables e below (T63.setTop (mkF m 5 #[.val (.ref ra0), .val (.int p1)] [(.int w_width_ra0), (.int p1)])) _
      refine XS.icmpYes X63.here hx rfl (pc0 := 5) (pc' := 15) rfl (hb hby d7_5) rfl (feq hc5_65).2 (by decide) (by decide) ?_
      show Steps p.tables e below (T63.setTop (mkF m 15 #[.val (.ref ra0), .val (.int p1)] [])) _
      refine XS.iconst X63.here hx rfl (hb hby d7_15) ?_
      show Steps p.tables e below (T63.setTop (mkF m 16 #[.val (.ref ra0), .val (.int p1)] [(.int (1 : Int32))])) _
      refine XS.goto X63.here hx rfl (pc0 := 16) (pc' := 20) rfl (hb hby d7_16) (by decide) (by decide) ?_
      exact kk)
    obtain ⟨fs, hr, hrun, hended, hW, hsame⟩ := X63.leave (v := some (.int (1 : Int32))) (fun h => by rw [Bd.returns] at h; cases h)
    have hv : (v7_ret p1 w_width_ra0 w_groupEnded_ra0) = (1 : Int32) := (if_neg hc5_65)
    refine ⟨_, _, k72 _ ?_, hrun, hended, _, _, rfl, ?_, ⟨_, rfl⟩, hW, hsame.mono (by decide) (by decide)⟩
    · show Steps p.tables e below (T63.setTop (mkF m 20 #[.val (.ref ra0), .val (.int p1)] [(.int (1 : Int32))])) _
      exact retN X63 hx (t := .boolean) Bd.returns (by simp) (hb hby d7_20) hr
    · show Q7 Z ra0 p1 w_width_ra0 w_groupEnded_ra0 h0 n0 _ T63.heap _
      rw [e63]
      exact ⟨(congrArg (fun z => some (Value.int z)) hv).symm, N0, rfl⟩
theorem d14_0 : decode prog_49_method_9_code 0 = .ok (.aload_n 0, 1) := by decide +kernel
theorem d14_1 : decode prog_49_method_9_code 1 = .ok (.getfield 21, 3) := by decide +kernel
theorem d14_4 : decode prog_49_method_9_code 4 = .ok (.ifCond .ne 7, 3) := by decide +kernel
theorem d14_7 : decode prog_49_method_9_code 7 = .ok (.iconst 0, 1) := by decide +kernel
theorem d14_8 : decode prog_49_method_9_code 8 = .ok (.goto 15, 3) := by decide +kernel
theorem d14_11 : decode prog_49_method_9_code 11 = .ok (.bipush 8, 2) := by decide +kernel
theorem d14_13 : decode prog_49_method_9_code 13 = .ok (.aload_n 0, 1) := by decide +kernel
theorem d14_14 : decode prog_49_method_9_code 14 = .ok (.getfield 21, 3) := by decide +kernel
theorem d14_17 : decode prog_49_method_9_code 17 = .ok (.isub, 1) := by decide +kernel
theorem d14_18 : decode prog_49_method_9_code 18 = .ok (.aload_n 0, 1) := by decide +kernel
theorem d14_19 : decode prog_49_method_9_code 19 = .ok (.getfield 18, 3) := by decide +kernel
theorem d14_22 : decode prog_49_method_9_code 22 = .ok (.imul, 1) := by decide +kernel
theorem d14_23 : decode prog_49_method_9_code 23 = .ok (.ireturn, 1) := by decide +kernel
def v14_ret (w_codesInGroup_ra0 : Int32) (w_width_ra0 : Int32) : Int32 := (if w_codesInGroup_ra0 = (0 : Int32) then (0 : Int32) else (((8 : Int32) - w_codesInGroup_ra0) * w_width_ra0))
theorem ef_rm14 (m : MethodId) (ra0 : Addr) : entryFrame m #[(.ref ra0)] 1 = mkF m 0 #[.val (.ref ra0)] [] := by first | (simp [entryFrame, mkF, argsToLocals, Value.category]; done) | rfl
def Q14 (Z : State) (ra0 : Addr) (w_codesInGroup_ra0 : Int32) (w_width_ra0 : Int32) (h0 : Heap) (n0 : Nat) (v : Option Value) (h : Heap) (L : List Loc) : Prop := v = some (.int (v14_ret w_codesInGroup_ra0 w_width_ra0)) ∧ Fr n0 L ∧ h = h0
set_option maxRecDepth 65536 in
set_option maxHeartbeats 40000000 in
theorem rm14 (l : Launch) (Z : State) (a0 : Array Value) (hw : ∀ d ∈ tables_1, d.before a0 Z = true) (ws : List Jvm.Cond) (ra0 : Addr) (w_codesInGroup_ra0 : Int32) (w_width_ra0 : Int32) (h0 : Heap) (n0 : Nat) (Z0 : n0 ≤ h0.size) (F_codesInGroup_ra0 : Fld Z h0 ra0 "phrasebook/ZFormat$Layout" "codesInGroup" "I" (.int w_codesInGroup_ra0)) (F_width_ra0 : Fld Z h0 ra0 "phrasebook/ZFormat$Layout" "width" "I" (.int w_width_ra0)) :
    MetFree l (⟨"phrasebook/ZFormat$Layout", "restOfGroup", "()I"⟩ : MethodName) (head1 (Jvm.Cond.code (⟨"phrasebook/ZFormat$Layout", "restOfGroup", "()I"⟩ : MethodName) prog_49_method_9_code 1 (some .int) :: ws) ({ frames := 0, cells := 0, slots := 0, locals := 0 } : Room)) (fun a U => a = #[(.ref ra0)] ∧ Z.Warmed39 U.vm ∧ U.heap = h0) (fun _ _ _ _ _ => True) (fun _ U o U' => ∃ v L, o = .returned v ∧ Q14 Z ra0 w_codesInGroup_ra0 w_width_ra0 h0 n0 v U'.heap L ∧ FrameEnd U o U' L ({ frames := 0, cells := 0, slots := 0, locals := 0 } : Room).cells ({ frames := 0, cells := 0, slots := 0, locals := 0 } : Room).slots) := by
  refine MetFree.of_bodySF (plainFor_of_name pn_11) hisR ?_
  intro p e s m args below meth c s₁ Bd hml0 hP hK
  obtain ⟨rfl, hZ, hh⟩ := hP
  have hx := Bd.exec
  have hby := Bd.bytes
  have hml : c.maxLocals = 1 := hml0
  have hown : s.vm.findClass "phrasebook/ZFormat$Layout" = some m.cls := findClass_of_methodNamed Bd.named
  have hnm := (name_of_methodNamed Bd.named Bd.method).1
  have X0 : Stand p l e ({ frames := 0, cells := 0, slots := 0, locals := 0 } : Room) s m #[(.ref ra0)] below meth c s₁ [] 0 0 := Stand.of_body Bd
  have e0 : s₁.heap = h0 := by rw [← hh, Bd.state]; rfl
  have N0 := Fr.nil n0
  have KC0 := Keep.refl h0 ([] : List Addr)
  have pre0 : ∀ t, Steps p.tables e below (s₁.setTop (mkF m 0 #[.val (.ref ra0)] [])) t → Steps p.tables e below (s₁.setTop (entryFrame m #[(.ref ra0)] 1)) t := fun t k => castTop (ef_rm14 m ra0) k
  have k73 := fun (t : State) (kk : Steps p.tables e below (s₁.setTop (mkF m 1 #[.val (.ref ra0)] [(.ref ra0)])) t) => pre0 t (by
    show Steps p.tables e below (s₁.setTop (mkF m 0 #[.val (.ref ra0)] [])) _
    refine XS.aloadN X0.here hx rfl (hb hby d14_0) rfl rfl ?_
    exact kk)
  obtain ⟨T74, X74, e74, st74⟩ := getF X0 hx hZ hown (host := "") (Or.inl (hw _ (List.mem_of_getElem? (i := 19) rfl))) Via.refl e0 F_codesInGroup_ra0 (g := (mkF m 1 #[.val (.ref ra0)] [(.ref ra0)])) rfl rfl (hb hby d14_1)
  have k75 := fun (t : State) (kk : Steps p.tables e below (T74.setTop (mkF m 4 #[.val (.ref ra0)] [(.int w_codesInGroup_ra0)])) t) => k73 t (st74 _ kk)
  by_cases hc4_76 : w_codesInGroup_ra0 = (0 : Int32)
  · have k77 := fun (t : State) (kk : Steps p.tables e below (T74.setTop (mkF m 23 #[.val (.ref ra0)] [(.int (0 : Int32))])) t) => k75 t (by
      show Steps p.tables e below (T74.setTop (mkF m 4 #[.val (.ref ra0)] [(.int w_codesInGroup_ra0)])) _
      refine XS.ifNo X74.here hx rfl (hb hby d14_4) rfl ((if0 _ _).trans (teq hc4_76).2) ?_
      show Steps p.tables e below (T74.setTop (mkF m 7 #[.val (.ref ra0)] [])) _
      refine XS.iconst X74.here hx rfl (hb hby d14_7) ?_
      show Steps p.tables e below (T74.setTop (mkF m 8 #[.val (.ref ra0)] [(.int (0 : Int32))])) _
      refine XS.goto X74.here hx rfl (pc0 := 8) (pc' := 23) rfl (hb hby d14_8) (by decide) (by decide) ?_
      exact kk)
    obtain ⟨fs, hr, hrun, hended, hW, hsame⟩ := X74.leave (v := some (.int (0 : Int32))) (fun h => by rw [Bd.returns] at h; cases h)
    have hv : (v14_ret w_codesInGroup_ra0 w_width_ra0) = (0 : Int32) := (if_pos hc4_76)
    refine ⟨_, _, k77 _ ?_, hrun, hended, _, _, rfl, ?_, ⟨_, rfl⟩, hW, hsame.mono (by decide) (by decide)⟩
    · show Steps p.tables e below (T74.setTop (mkF m 23 #[.val (.ref ra0)] [(.int (0 : Int32))])) _
      exact retI X74 hx Bd.returns (hb hby d14_23) hr
    · show Q14 Z ra0 w_codesInGroup_ra0 w_width_ra0 h0 n0 _ T74.heap _
      rw [e74]
      exact ⟨(congrArg (fun z => some (Value.int z)) hv).symm, N0, rfl⟩
  · have k78 := fun (t : State) (kk : Steps p.tables e below (T74.setTop (mkF m 14 #[.val (.ref ra0)] [(.ref ra0), (.int (8 : Int32))])) t) => k75 t (by
      show Steps p.tables e below (T74.setTop (mkF m 4 #[.val (.ref ra0)] [(.int w_codesInGroup_ra0)])) _
      refine XS.ifYes X74.here hx rfl (pc0 := 4) (pc' := 11) rfl (hb hby d14_4) rfl ((if0 _ _).trans (feq hc4_76).2) (by decide) (by decide) ?_
      show Steps p.tables e below (T74.setTop (mkF m 11 #[.val (.ref ra0)] [])) _
      refine XS.bipush X74.here hx rfl (hb hby d14_11) ?_
      show Steps p.tables e below (T74.setTop (mkF m 13 #[.val (.ref ra0)] [(.int (8 : Int32))])) _
      refine XS.aloadN X74.here hx rfl (hb hby d14_13) rfl rfl ?_
      exact kk)
    obtain ⟨T79, X79, e79, st79⟩ := getF X74 hx hZ hown (host := "") (Or.inl (hw _ (List.mem_of_getElem? (i := 19) rfl))) Via.refl e74 F_codesInGroup_ra0 (g := (mkF m 14 #[.val (.ref ra0)] [(.ref ra0), (.int (8 : Int32))])) rfl rfl (hb hby d14_14)
    have k80 := fun (t : State) (kk : Steps p.tables e below (T79.setTop (mkF m 17 #[.val (.ref ra0)] [(.int w_codesInGroup_ra0), (.int (8 : Int32))])) t) => k78 t (st79 _ kk)
    have k81 := fun (t : State) (kk : Steps p.tables e below (T79.setTop (mkF m 19 #[.val (.ref ra0)] [(.ref ra0), (.int ((8 : Int32) - w_codesInGroup_ra0))])) t) => k80 t (by
      show Steps p.tables e below (T79.setTop (mkF m 17 #[.val (.ref ra0)] [(.int w_codesInGroup_ra0), (.int (8 : Int32))])) _
      refine XS.isub X79.here hx rfl (hb hby d14_17) rfl ?_
      show Steps p.tables e below (T79.setTop (mkF m 18 #[.val (.ref ra0)] [(.int ((8 : Int32) - w_codesInGroup_ra0))])) _
      refine XS.aloadN X79.here hx rfl (hb hby d14_18) rfl rfl ?_
      exact kk)
    obtain ⟨T82, X82, e82, st82⟩ := getF X79 hx hZ hown (host := "") (Or.inl (hw _ (List.mem_of_getElem? (i := 17) rfl))) Via.refl e79 F_width_ra0 (g := (mkF m 19 #[.val (.ref ra0)] [(.ref ra0), (.int ((8 : Int32) - w_codesInGroup_ra0))])) rfl rfl (hb hby d14_19)
    have k83 := fun (t : State) (kk : Steps p.tables e below (T82.setTop (mkF m 22 #[.val (.ref ra0)] [(.int w_width_ra0), (.int ((8 : Int32) - w_codesInGroup_ra0))])) t) => k81 t (st82 _ kk)
    have k84 := fun (t : State) (kk : Steps p.tables e below (T82.setTop (mkF m 23 #[.val (.ref ra0)] [(.int (((8 : Int32) - w_codesInGroup_ra0) * w_width_ra0))])) t) => k83 t (by
      show Steps p.tables e below (T82.setTop (mkF m 22 #[.val (.ref ra0)] [(.int w_width_ra0), (.int ((8 : Int32) - w_codesInGroup_ra0))])) _
      refine XS.imul X82.here hx rfl (hb hby d14_22) rfl ?_
      exact kk)
    obtain ⟨fs, hr, hrun, hended, hW, hsame⟩ := X82.leave (v := some (.int (((8 : Int32) - w_codesInGroup_ra0) * w_width_ra0))) (fun h => by rw [Bd.returns] at h; cases h)
    have hv : (v14_ret w_codesInGroup_ra0 w_width_ra0) = (((8 : Int32) - w_codesInGroup_ra0) * w_width_ra0) := (if_neg hc4_76)
    refine ⟨_, _, k84 _ ?_, hrun, hended, _, _, rfl, ?_, ⟨_, rfl⟩, hW, hsame.mono (by decide) (by decide)⟩
    · show Steps p.tables e below (T82.setTop (mkF m 23 #[.val (.ref ra0)] [(.int (((8 : Int32) - w_codesInGroup_ra0) * w_width_ra0))])) _
      exact retI X82 hx Bd.returns (hb hby d14_23) hr
    · show Q14 Z ra0 w_codesInGroup_ra0 w_width_ra0 h0 n0 _ T82.heap _
      rw [e82]
      exact ⟨(congrArg (fun z => some (Value.int z)) hv).symm, N0, rfl⟩
theorem pd_3 : parseMethodDescriptor "(I)Z" = some ⟨[.int], some .boolean⟩ := by decide +kernel
theorem pd_4 : parseMethodDescriptor "()I" = some ⟨[], some .int⟩ := by decide +kernel
theorem d4_0 : decode prog_49_method_3_code 0 = .ok (.aload_n 0, 1) := by decide +kernel
theorem d4_1 : decode prog_49_method_3_code 1 = .ok (.iload_n 1, 1) := by decide +kernel
theorem d4_2 : decode prog_49_method_3_code 2 = .ok (.invokevirtual 28, 3) := by decide +kernel
theorem d4_5 : decode prog_49_method_3_code 5 = .ok (.istore_n 2, 1) := by decide +kernel
theorem d4_6 : decode prog_49_method_3_code 6 = .ok (.iconst 0, 1) := by decide +kernel
theorem d4_7 : decode prog_49_method_3_code 7 = .ok (.istore_n 3, 1) := by decide +kernel
theorem d4_8 : decode prog_49_method_3_code 8 = .ok (.aload_n 0, 1) := by decide +kernel
theorem d4_9 : decode prog_49_method_3_code 9 = .ok (.iload_n 2, 1) := by decide +kernel
theorem d4_10 : decode prog_49_method_3_code 10 = .ok (.invokevirtual 32, 3) := by decide +kernel
theorem d4_13 : decode prog_49_method_3_code 13 = .ok (.ifCond .eq 18, 3) := by decide +kernel
theorem d4_16 : decode prog_49_method_3_code 16 = .ok (.aload_n 0, 1) := by decide +kernel
theorem d4_17 : decode prog_49_method_3_code 17 = .ok (.invokevirtual 36, 3) := by decide +kernel
theorem d4_20 : decode prog_49_method_3_code 20 = .ok (.istore_n 3, 1) := by decide +kernel
theorem d4_21 : decode prog_49_method_3_code 21 = .ok (.aload_n 0, 1) := by decide +kernel
theorem d4_22 : decode prog_49_method_3_code 22 = .ok (.iconst 0, 1) := by decide +kernel
theorem d4_23 : decode prog_49_method_3_code 23 = .ok (.putfield 21, 3) := by decide +kernel
theorem d4_26 : decode prog_49_method_3_code 26 = .ok (.aload_n 0, 1) := by decide +kernel
theorem d4_27 : decode prog_49_method_3_code 27 = .ok (.iconst 0, 1) := by decide +kernel
theorem d4_28 : decode prog_49_method_3_code 28 = .ok (.putfield 24, 3) := by decide +kernel
theorem d4_31 : decode prog_49_method_3_code 31 = .ok (.aload_n 0, 1) := by decide +kernel
theorem d4_32 : decode prog_49_method_3_code 32 = .ok (.iload_n 2, 1) := by decide +kernel
theorem d4_33 : decode prog_49_method_3_code 33 = .ok (.putfield 18, 3) := by decide +kernel
theorem d4_36 : decode prog_49_method_3_code 36 = .ok (.aload_n 0, 1) := by decide +kernel
theorem d4_37 : decode prog_49_method_3_code 37 = .ok (.aload_n 0, 1) := by decide +kernel
theorem d4_38 : decode prog_49_method_3_code 38 = .ok (.getfield 21, 3) := by decide +kernel
theorem d4_41 : decode prog_49_method_3_code 41 = .ok (.iconst 1, 1) := by decide +kernel
theorem d4_42 : decode prog_49_method_3_code 42 = .ok (.iadd, 1) := by decide +kernel
theorem d4_43 : decode prog_49_method_3_code 43 = .ok (.bipush 8, 2) := by decide +kernel
theorem d4_45 : decode prog_49_method_3_code 45 = .ok (.irem, 1) := by decide +kernel
theorem d4_46 : decode prog_49_method_3_code 46 = .ok (.putfield 21, 3) := by decide +kernel
theorem d4_49 : decode prog_49_method_3_code 49 = .ok (.iload_n 3, 1) := by decide +kernel
theorem d4_50 : decode prog_49_method_3_code 50 = .ok (.ireturn, 1) := by decide +kernel
def v4_f_codesInGroup_ra0 (p1 : Int32) (w_maxBits_ra0 : Int32) (w_width_ra0 : Int32) (w_groupEnded_ra0 : Int32) (w_codesInGroup_ra0 : Int32) : Int32 := (if (v7_ret (v5_ret p1 w_maxBits_ra0) w_width_ra0 w_groupEnded_ra0) = (0 : Int32) then ((w_codesInGroup_ra0 + (1 : Int32)) % (8 : Int32)) else (((0 : Int32) + (1 : Int32)) % (8 : Int32)))
def v4_f_groupEnded_ra0 (p1 : Int32) (w_maxBits_ra0 : Int32) (w_width_ra0 : Int32) (w_groupEnded_ra0 : Int32) : Int32 := (if (v7_ret (v5_ret p1 w_maxBits_ra0) w_width_ra0 w_groupEnded_ra0) = (0 : Int32) then w_groupEnded_ra0 else (0 : Int32))
def v4_ret (p1 : Int32) (w_maxBits_ra0 : Int32) (w_width_ra0 : Int32) (w_groupEnded_ra0 : Int32) (w_codesInGroup_ra0 : Int32) : Int32 := (if (v7_ret (v5_ret p1 w_maxBits_ra0) w_width_ra0 w_groupEnded_ra0) = (0 : Int32) then (0 : Int32) else (v14_ret w_codesInGroup_ra0 w_width_ra0))
theorem ef_rm4 (m : MethodId) (ra0 : Addr) (p1 : Int32) : entryFrame m #[(.ref ra0), (.int p1)] 4 = mkF m 0 #[.val (.ref ra0), .val (.int p1), .unset, .unset] [] := by first | (simp [entryFrame, mkF, argsToLocals, Value.category]; done) | rfl
def Q4 (Z : State) (ra0 : Addr) (p1 : Int32) (w_maxBits_ra0 : Int32) (w_width_ra0 : Int32) (w_groupEnded_ra0 : Int32) (w_codesInGroup_ra0 : Int32) (h0 : Heap) (n0 : Nat) (v : Option Value) (h : Heap) (L : List Loc) : Prop := v = some (.int (v4_ret p1 w_maxBits_ra0 w_width_ra0 w_groupEnded_ra0 w_codesInGroup_ra0)) ∧ Fr n0 L ∧ Keep h0 h [ra0] ∧ Exa Z h ra0 "phrasebook/ZFormat$Layout" ∧ Fld Z h ra0 "phrasebook/ZFormat$Layout" "maxBits" "I" (.int w_maxBits_ra0) ∧ Fld Z h ra0 "phrasebook/ZFormat$Layout" "width" "I" (.int (v5_ret p1 w_maxBits_ra0)) ∧ Fld Z h ra0 "phrasebook/ZFormat$Layout" "codesInGroup" "I" (.int (v4_f_codesInGroup_ra0 p1 w_maxBits_ra0 w_width_ra0 w_groupEnded_ra0 w_codesInGroup_ra0)) ∧ Fld Z h ra0 "phrasebook/ZFormat$Layout" "groupEnded" "Z" (.int (v4_f_groupEnded_ra0 p1 w_maxBits_ra0 w_width_ra0 w_groupEnded_ra0))
set_option maxRecDepth 65536 in
set_option maxHeartbeats 40000000 in
theorem rm4 (l : Launch) (Z : State) (a0 : Array Value) (hw : ∀ d ∈ tables_1, d.before a0 Z = true) (ws : List Jvm.Cond) (ra0 : Addr) (p1 : Int32) (w_maxBits_ra0 : Int32) (w_width_ra0 : Int32) (w_groupEnded_ra0 : Int32) (w_codesInGroup_ra0 : Int32) (h0 : Heap) (n0 : Nat) (Z0 : n0 ≤ h0.size) (F_maxBits_ra0 : Fld Z h0 ra0 "phrasebook/ZFormat$Layout" "maxBits" "I" (.int w_maxBits_ra0)) (E_ra0 : Exa Z h0 ra0 "phrasebook/ZFormat$Layout") (F_width_ra0 : Fld Z h0 ra0 "phrasebook/ZFormat$Layout" "width" "I" (.int w_width_ra0)) (F_groupEnded_ra0 : Fld Z h0 ra0 "phrasebook/ZFormat$Layout" "groupEnded" "Z" (.int w_groupEnded_ra0)) (g_ra0 : n0 ≤ ra0) (F_codesInGroup_ra0 : Fld Z h0 ra0 "phrasebook/ZFormat$Layout" "codesInGroup" "I" (.int w_codesInGroup_ra0)) :
    MetFree l (⟨"phrasebook/ZFormat$Layout", "place", "(I)I"⟩ : MethodName) (head1 (Jvm.Cond.code (⟨"phrasebook/ZFormat$Layout", "place", "(I)I"⟩ : MethodName) prog_49_method_3_code 4 (some .int) :: ws) ({ frames := 2, cells := 0, slots := 0, locals := 28 } : Room)) (fun a U => a = #[(.ref ra0), (.int p1)] ∧ Z.Warmed39 U.vm ∧ U.heap = h0) (fun _ _ _ _ _ => True) (fun _ U o U' => ∃ v L, o = .returned v ∧ Q4 Z ra0 p1 w_maxBits_ra0 w_width_ra0 w_groupEnded_ra0 w_codesInGroup_ra0 h0 n0 v U'.heap L ∧ FrameEnd U o U' L ({ frames := 2, cells := 0, slots := 0, locals := 28 } : Room).cells ({ frames := 2, cells := 0, slots := 0, locals := 28 } : Room).slots) := by
  refine MetFree.of_bodySF (plainFor_of_name pn_11) hisR ?_
  intro p e s m args below meth c s₁ Bd hml0 hP hK
  obtain ⟨rfl, hZ, hh⟩ := hP
  have hx := Bd.exec
  have hby := Bd.bytes
  have hml : c.maxLocals = 4 := hml0
  have hown : s.vm.findClass "phrasebook/ZFormat$Layout" = some m.cls := findClass_of_methodNamed Bd.named
  have hnm := (name_of_methodNamed Bd.named Bd.method).1
  have X0 : Stand p l e ({ frames := 2, cells := 0, slots := 0, locals := 28 } : Room) s m #[(.ref ra0), (.int p1)] below meth c s₁ [] 0 0 := Stand.of_body Bd
  have e0 : s₁.heap = h0 := by rw [← hh, Bd.state]; rfl
  have N0 := Fr.nil n0
  have KC0 := Keep.refl h0 [ra0]
  have pre0 : ∀ t, Steps p.tables e below (s₁.setTop (mkF m 0 #[.val (.ref ra0), .val (.int p1), .unset, .unset] [])) t → Steps p.tables e below (s₁.setTop (entryFrame m #[(.ref ra0), (.int p1)] 4)) t := fun t k => castTop (ef_rm4 m ra0 p1) k
  have k85 := fun (t : State) (kk : Steps p.tables e below (s₁.setTop (mkF m 2 #[.val (.ref ra0), .val (.int p1), .unset, .unset] [(.int p1), (.ref ra0)])) t) => pre0 t (by
    show Steps p.tables e below (s₁.setTop (mkF m 0 #[.val (.ref ra0), .val (.int p1), .unset, .unset] [])) _
    refine XS.aloadN X0.here hx rfl (hb hby d4_0) rfl rfl ?_
    show Steps p.tables e below (s₁.setTop (mkF m 1 #[.val (.ref ra0), .val (.int p1), .unset, .unset] [(.ref ra0)])) _
    refine XS.iloadN X0.here hx rfl (hb hby d4_1) rfl ?_
    exact kk)
  have Zz86 : n0 ≤ h0.size := (Nat.le_trans Z0 KC0.1)
  obtain ⟨cq86, q86, q86'⟩ := E_ra0.cell
  obtain ⟨_, _, ⟨T86, L86, k86, n86⟩, -, X86, ⟨Lc86, hQ86, l86, y86, z86⟩, st86⟩ := X0.privateBack hx (y := (⟨"phrasebook/ZFormat$Layout", "widthFor", "(I)I"⟩ : MethodName)) hown (mvT hZ (hw _ (List.mem_of_getElem? (i := 28) rfl))) (mvT hZ (hw _ (List.mem_of_getElem? (i := 29) rfl))) (own_selpriv (y := (⟨"phrasebook/ZFormat$Layout", "widthFor", "(I)I"⟩ : MethodName)) (mvT hZ (hw _ (List.mem_of_getElem? (i := 2) rfl))) (Cond.privateMethod_at (mvP hZ (hw _ (List.mem_of_getElem? (i := 30) rfl)) (args := #[]))) (mvT hZ (hw _ (List.mem_of_getElem? (i := 29) rfl))) (by decide)) (Cond.privateMethod_at (mvP hZ (hw _ (List.mem_of_getElem? (i := 30) rfl)) (args := #[]))) (mvT hZ (hw _ (List.mem_of_getElem? (i := 31) rfl))) (by decide) (backOf (W := 0) (rm5 l Z a0 hw [] ra0 p1 w_maxBits_ra0 h0 n0 Zz86 F_maxBits_ra0) hZ (hw _ (List.mem_of_getElem? (i := 31) rfl)) (hw _ (List.mem_of_getElem? (i := 3) rfl)) (by decide) (by decide)) (g := (mkF m 2 #[.val (.ref ra0), .val (.int p1), .unset, .unset] [(.int p1), (.ref ra0)])) rfl (by rw [hml]; rfl) (Steps.refl _) (a := ra0) (by rw [e0]; exact q86) q86' (argsL := [(.int p1)]) (rest := []) (lenOf pd_1 rfl) rfl (by show 2 * 0 + _ ≤ _; exact Nat.le_of_eq rfl) (hb hby d4_2) (fun _ _ => ⟨rfl, e0, (by decide : 0 + 0 ≤ _), (by decide : 0 + 0 ≤ _)⟩)
  dsimp only [Pt.U, Pt.locs, Pt.cells, Pt.slots] at X86 l86 y86 z86 st86 hQ86
  subst l86 y86 z86
  obtain ⟨rfl, N86q, e86⟩ := hQ86
  have N86 := Fr.app N0 N86q
  have k87 := fun (t : State) (kk : Steps p.tables e below (T86.setTop (mkF m 5 #[.val (.ref ra0), .val (.int p1), .unset, .unset] [(.int (v5_ret p1 w_maxBits_ra0))])) t) => k85 t (st86.trans kk)
  have k88 := fun (t : State) (kk : Steps p.tables e below (T86.setTop (mkF m 10 #[.val (.ref ra0), .val (.int p1), .val (.int (v5_ret p1 w_maxBits_ra0)), .val (.int (0 : Int32))] [(.int (v5_ret p1 w_maxBits_ra0)), (.ref ra0)])) t) => k87 t (by
    show Steps p.tables e below (T86.setTop (mkF m 5 #[.val (.ref ra0), .val (.int p1), .unset, .unset] [(.int (v5_ret p1 w_maxBits_ra0))])) _
    refine XS.istoreN X86.here hx rfl (hb hby d4_5) rfl (l' := #[.val (.ref ra0), .val (.int p1), .val (.int (v5_ret p1 w_maxBits_ra0)), .unset]) rfl ?_
    show Steps p.tables e below (T86.setTop (mkF m 6 #[.val (.ref ra0), .val (.int p1), .val (.int (v5_ret p1 w_maxBits_ra0)), .unset] [])) _
    refine XS.iconst X86.here hx rfl (hb hby d4_6) ?_
    show Steps p.tables e below (T86.setTop (mkF m 7 #[.val (.ref ra0), .val (.int p1), .val (.int (v5_ret p1 w_maxBits_ra0)), .unset] [(.int (0 : Int32))])) _
    refine XS.istoreN X86.here hx rfl (hb hby d4_7) rfl (l' := #[.val (.ref ra0), .val (.int p1), .val (.int (v5_ret p1 w_maxBits_ra0)), .val (.int (0 : Int32))]) rfl ?_
    show Steps p.tables e below (T86.setTop (mkF m 8 #[.val (.ref ra0), .val (.int p1), .val (.int (v5_ret p1 w_maxBits_ra0)), .val (.int (0 : Int32))] [])) _
    refine XS.aloadN X86.here hx rfl (hb hby d4_8) rfl rfl ?_
    show Steps p.tables e below (T86.setTop (mkF m 9 #[.val (.ref ra0), .val (.int p1), .val (.int (v5_ret p1 w_maxBits_ra0)), .val (.int (0 : Int32))] [(.ref ra0)])) _
    refine XS.iloadN X86.here hx rfl (hb hby d4_9) rfl ?_
    exact kk)
  have Zz89 : n0 ≤ h0.size := (Nat.le_trans Z0 KC0.1)
  obtain ⟨cq89, q89, q89'⟩ := E_ra0.cell
  obtain ⟨_, _, ⟨T89, L89, k89, n89⟩, -, X89, ⟨Lc89, hQ89, l89, y89, z89⟩, st89⟩ := X86.privateBack hx (y := (⟨"phrasebook/ZFormat$Layout", "startsGroup", "(I)Z"⟩ : MethodName)) hown (mvT hZ (hw _ (List.mem_of_getElem? (i := 37) rfl))) (mvT hZ (hw _ (List.mem_of_getElem? (i := 38) rfl))) (own_selpriv (y := (⟨"phrasebook/ZFormat$Layout", "startsGroup", "(I)Z"⟩ : MethodName)) (mvT hZ (hw _ (List.mem_of_getElem? (i := 2) rfl))) (Cond.privateMethod_at (mvP hZ (hw _ (List.mem_of_getElem? (i := 39) rfl)) (args := #[]))) (mvT hZ (hw _ (List.mem_of_getElem? (i := 38) rfl))) (by decide)) (Cond.privateMethod_at (mvP hZ (hw _ (List.mem_of_getElem? (i := 39) rfl)) (args := #[]))) (mvT hZ (hw _ (List.mem_of_getElem? (i := 40) rfl))) (by decide) (backOf (W := 0) (rm7 l Z a0 hw [] ra0 (v5_ret p1 w_maxBits_ra0) w_width_ra0 w_groupEnded_ra0 h0 n0 Zz89 F_width_ra0 F_groupEnded_ra0) hZ (hw _ (List.mem_of_getElem? (i := 40) rfl)) (hw _ (List.mem_of_getElem? (i := 3) rfl)) (by decide) (by decide)) (g := (mkF m 10 #[.val (.ref ra0), .val (.int p1), .val (.int (v5_ret p1 w_maxBits_ra0)), .val (.int (0 : Int32))] [(.int (v5_ret p1 w_maxBits_ra0)), (.ref ra0)])) rfl (by rw [hml]; rfl) (Steps.refl _) (a := ra0) (by rw [e86]; exact q89) q89' (argsL := [(.int (v5_ret p1 w_maxBits_ra0))]) (rest := []) (lenOf pd_3 rfl) rfl (by show 2 * 0 + _ ≤ _; exact Nat.le_of_eq rfl) (hb hby d4_10) (fun _ _ => ⟨rfl, e86, (by decide : 0 + 0 ≤ _), (by decide : 0 + 0 ≤ _)⟩)
  dsimp only [Pt.U, Pt.locs, Pt.cells, Pt.slots] at X89 l89 y89 z89 st89 hQ89
  subst l89 y89 z89
  obtain ⟨rfl, N89q, e89⟩ := hQ89
  have N89 := Fr.app N86 N89q
  have k90 := fun (t : State) (kk : Steps p.tables e below (T89.setTop (mkF m 13 #[.val (.ref ra0), .val (.int p1), .val (.int (v5_ret p1 w_maxBits_ra0)), .val (.int (0 : Int32))] [(.int (v7_ret (v5_ret p1 w_maxBits_ra0) w_width_ra0 w_groupEnded_ra0))])) t) => k88 t (st89.trans kk)
  by_cases hc13_91 : (v7_ret (v5_ret p1 w_maxBits_ra0) w_width_ra0 w_groupEnded_ra0) = (0 : Int32)
  · have k92 := fun (t : State) (kk : Steps p.tables e below (T89.setTop (mkF m 33 #[.val (.ref ra0), .val (.int p1), .val (.int (v5_ret p1 w_maxBits_ra0)), .val (.int (0 : Int32))] [(.int (v5_ret p1 w_maxBits_ra0)), (.ref ra0)])) t) => k90 t (by
      show Steps p.tables e below (T89.setTop (mkF m 13 #[.val (.ref ra0), .val (.int p1), .val (.int (v5_ret p1 w_maxBits_ra0)), .val (.int (0 : Int32))] [(.int (v7_ret (v5_ret p1 w_maxBits_ra0) w_width_ra0 w_groupEnded_ra0))])) _
      refine XS.ifYes X89.here hx rfl (pc0 := 13) (pc' := 31) rfl (hb hby d4_13) rfl ((if0 _ _).trans (teq hc13_91).1) (by decide) (by decide) ?_
      show Steps p.tables e below (T89.setTop (mkF m 31 #[.val (.ref ra0), .val (.int p1), .val (.int (v5_ret p1 w_maxBits_ra0)), .val (.int (0 : Int32))] [])) _
      refine XS.aloadN X89.here hx rfl (hb hby d4_31) rfl rfl ?_
      show Steps p.tables e below (T89.setTop (mkF m 32 #[.val (.ref ra0), .val (.int p1), .val (.int (v5_ret p1 w_maxBits_ra0)), .val (.int (0 : Int32))] [(.ref ra0)])) _
      refine XS.iloadN X89.here hx rfl (hb hby d4_32) rfl ?_
      exact kk)
    obtain ⟨T93, h93, X93, e93, W93, st93⟩ := putF X89 hx hZ hown (host := "") (Or.inl (hw _ (List.mem_of_getElem? (i := 17) rfl))) Via.refl e89 F_width_ra0 E_ra0 (Or.inl (hw _ (List.mem_of_getElem? (i := 18) rfl))) (hw _ (List.mem_of_getElem? (i := 2) rfl)) (ty := .int) (by decide) rfl rfl (g := (mkF m 33 #[.val (.ref ra0), .val (.int p1), .val (.int (v5_ret p1 w_maxBits_ra0)), .val (.int (0 : Int32))] [(.int (v5_ret p1 w_maxBits_ra0)), (.ref ra0)])) rfl rfl (hb hby d4_33)
    have Fw93 := F_width_ra0.same W93
    have K93 : Keep h0 h93 [ra0] := KC0.wr W93 (Or.inl (List.mem_of_getElem? (i := 0) rfl))
    have N93 := Fr.snoc X93 N89 g_ra0
    have k94 := fun (t : State) (kk : Steps p.tables e below (T93.setTop (mkF m 36 #[.val (.ref ra0), .val (.int p1), .val (.int (v5_ret p1 w_maxBits_ra0)), .val (.int (0 : Int32))] [])) t) => k92 t (st93 _ kk)
    have k95 := fun (t : State) (kk : Steps p.tables e below (T93.setTop (mkF m 38 #[.val (.ref ra0), .val (.int p1), .val (.int (v5_ret p1 w_maxBits_ra0)), .val (.int (0 : Int32))] [(.ref ra0), (.ref ra0)])) t) => k94 t (by
      show Steps p.tables e below (T93.setTop (mkF m 36 #[.val (.ref ra0), .val (.int p1), .val (.int (v5_ret p1 w_maxBits_ra0)), .val (.int (0 : Int32))] [])) _
      refine XS.aloadN X93.here hx rfl (hb hby d4_36) rfl rfl ?_
      show Steps p.tables e below (T93.setTop (mkF m 37 #[.val (.ref ra0), .val (.int p1), .val (.int (v5_ret p1 w_maxBits_ra0)), .val (.int (0 : Int32))] [(.ref ra0)])) _
      refine XS.aloadN X93.here hx rfl (hb hby d4_37) rfl rfl ?_
      exact kk)
    have f96 := (F_codesInGroup_ra0.other W93 (Or.inr (slot_ne (Or.inl (hw _ (List.mem_of_getElem? (i := 20) rfl))) (Or.inl (hw _ (List.mem_of_getElem? (i := 18) rfl))) (by decide) (t := .int) (t' := .int) (by decide) (by decide))))
    obtain ⟨T97, X97, e97, st97⟩ := getF X93 hx hZ hown (host := "") (Or.inl (hw _ (List.mem_of_getElem? (i := 19) rfl))) Via.refl e93 f96 (g := (mkF m 38 #[.val (.ref ra0), .val (.int p1), .val (.int (v5_ret p1 w_maxBits_ra0)), .val (.int (0 : Int32))] [(.ref ra0), (.ref ra0)])) rfl rfl (hb hby d4_38)
    have k98 := fun (t : State) (kk : Steps p.tables e below (T97.setTop (mkF m 41 #[.val (.ref ra0), .val (.int p1), .val (.int (v5_ret p1 w_maxBits_ra0)), .val (.int (0 : Int32))] [(.int w_codesInGroup_ra0), (.ref ra0)])) t) => k95 t (st97 _ kk)
    have k99 := fun (t : State) (kk : Steps p.tables e below (T97.setTop (mkF m 46 #[.val (.ref ra0), .val (.int p1), .val (.int (v5_ret p1 w_maxBits_ra0)), .val (.int (0 : Int32))] [(.int ((w_codesInGroup_ra0 + (1 : Int32)) % (8 : Int32))), (.ref ra0)])) t) => k98 t (by
      show Steps p.tables e below (T97.setTop (mkF m 41 #[.val (.ref ra0), .val (.int p1), .val (.int (v5_ret p1 w_maxBits_ra0)), .val (.int (0 : Int32))] [(.int w_codesInGroup_ra0), (.ref ra0)])) _
      refine XS.iconst X97.here hx rfl (hb hby d4_41) ?_
      show Steps p.tables e below (T97.setTop (mkF m 42 #[.val (.ref ra0), .val (.int p1), .val (.int (v5_ret p1 w_maxBits_ra0)), .val (.int (0 : Int32))] [(.int (1 : Int32)), (.int w_codesInGroup_ra0), (.ref ra0)])) _
      refine XS.iadd X97.here hx rfl (hb hby d4_42) rfl ?_
      show Steps p.tables e below (T97.setTop (mkF m 43 #[.val (.ref ra0), .val (.int p1), .val (.int (v5_ret p1 w_maxBits_ra0)), .val (.int (0 : Int32))] [(.int (w_codesInGroup_ra0 + (1 : Int32))), (.ref ra0)])) _
      refine XS.bipush X97.here hx rfl (hb hby d4_43) ?_
      show Steps p.tables e below (T97.setTop (mkF m 45 #[.val (.ref ra0), .val (.int p1), .val (.int (v5_ret p1 w_maxBits_ra0)), .val (.int (0 : Int32))] [(.int (8 : Int32)), (.int (w_codesInGroup_ra0 + (1 : Int32))), (.ref ra0)])) _
      refine iremM X97 hx rfl (hb hby d4_45) rfl (by decide) ?_
      exact kk)
    have f100 := (E_ra0.wr W93)
    obtain ⟨T101, h101, X101, e101, W101, st101⟩ := putF X97 hx hZ hown (host := "") (Or.inl (hw _ (List.mem_of_getElem? (i := 19) rfl))) Via.refl e97 f96 f100 (Or.inl (hw _ (List.mem_of_getElem? (i := 20) rfl))) (hw _ (List.mem_of_getElem? (i := 2) rfl)) (ty := .int) (by decide) rfl rfl (g := (mkF m 46 #[.val (.ref ra0), .val (.int p1), .val (.int (v5_ret p1 w_maxBits_ra0)), .val (.int (0 : Int32))] [(.int ((w_codesInGroup_ra0 + (1 : Int32)) % (8 : Int32))), (.ref ra0)])) rfl rfl (hb hby d4_46)
    have Fw101 := f96.same W101
    have K101 : Keep h0 h101 [ra0] := K93.wr W101 (Or.inl (List.mem_of_getElem? (i := 0) rfl))
    have N101 := Fr.snoc X101 N93 g_ra0
    have k102 := fun (t : State) (kk : Steps p.tables e below (T101.setTop (mkF m 49 #[.val (.ref ra0), .val (.int p1), .val (.int (v5_ret p1 w_maxBits_ra0)), .val (.int (0 : Int32))] [])) t) => k99 t (st101 _ kk)
    have k103 := fun (t : State) (kk : Steps p.tables e below (T101.setTop (mkF m 50 #[.val (.ref ra0), .val (.int p1), .val (.int (v5_ret p1 w_maxBits_ra0)), .val (.int (0 : Int32))] [(.int (0 : Int32))])) t) => k102 t (by
      show Steps p.tables e below (T101.setTop (mkF m 49 #[.val (.ref ra0), .val (.int p1), .val (.int (v5_ret p1 w_maxBits_ra0)), .val (.int (0 : Int32))] [])) _
      refine XS.iloadN X101.here hx rfl (hb hby d4_49) rfl ?_
      exact kk)
    obtain ⟨fs, hr, hrun, hended, hW, hsame⟩ := X101.leave (v := some (.int (0 : Int32))) (fun h => by rw [Bd.returns] at h; cases h)
    have hv : (v4_ret p1 w_maxBits_ra0 w_width_ra0 w_groupEnded_ra0 w_codesInGroup_ra0) = (0 : Int32) := (if_pos hc13_91)
    have f104 := (f100.wr W101)
    have f105 := ((F_maxBits_ra0.other W93 (Or.inr (slot_ne (Or.inr (hw _ (List.mem_of_getElem? (i := 11) rfl))) (Or.inl (hw _ (List.mem_of_getElem? (i := 18) rfl))) (by decide) (t := .int) (t' := .int) (by decide) (by decide)))).other W101 (Or.inr (slot_ne (Or.inr (hw _ (List.mem_of_getElem? (i := 11) rfl))) (Or.inl (hw _ (List.mem_of_getElem? (i := 20) rfl))) (by decide) (t := .int) (t' := .int) (by decide) (by decide))))
    have f106 := (Fw93.other W101 (Or.inr (slot_ne (Or.inl (hw _ (List.mem_of_getElem? (i := 18) rfl))) (Or.inl (hw _ (List.mem_of_getElem? (i := 20) rfl))) (by decide) (t := .int) (t' := .int) (by decide) (by decide))))
    have hf107 : (v4_f_codesInGroup_ra0 p1 w_maxBits_ra0 w_width_ra0 w_groupEnded_ra0 w_codesInGroup_ra0) = ((w_codesInGroup_ra0 + (1 : Int32)) % (8 : Int32)) := (if_pos hc13_91)
    have f108 := ((F_groupEnded_ra0.other W93 (Or.inr (slot_ne (Or.inl (hw _ (List.mem_of_getElem? (i := 22) rfl))) (Or.inl (hw _ (List.mem_of_getElem? (i := 18) rfl))) (by decide) (t := .boolean) (t' := .int) (by decide) (by decide)))).other W101 (Or.inr (slot_ne (Or.inl (hw _ (List.mem_of_getElem? (i := 22) rfl))) (Or.inl (hw _ (List.mem_of_getElem? (i := 20) rfl))) (by decide) (t := .boolean) (t' := .int) (by decide) (by decide))))
    have hf109 : (v4_f_groupEnded_ra0 p1 w_maxBits_ra0 w_width_ra0 w_groupEnded_ra0) = w_groupEnded_ra0 := (if_pos hc13_91)
    refine ⟨_, _, k103 _ ?_, hrun, hended, _, _, rfl, ?_, ⟨_, rfl⟩, hW, hsame.mono (by decide) (by decide)⟩
    · show Steps p.tables e below (T101.setTop (mkF m 50 #[.val (.ref ra0), .val (.int p1), .val (.int (v5_ret p1 w_maxBits_ra0)), .val (.int (0 : Int32))] [(.int (0 : Int32))])) _
      exact retI X101 hx Bd.returns (hb hby d4_50) hr
    · show Q4 Z ra0 p1 w_maxBits_ra0 w_width_ra0 w_groupEnded_ra0 w_codesInGroup_ra0 h0 n0 _ T101.heap _
      rw [e101]
      exact ⟨(congrArg (fun z => some (Value.int z)) hv).symm, N101, K101, f104, f105, f106, (by rw [hf107]; exact Fw101), (by rw [hf109]; exact f108)⟩
  · have k110 := fun (t : State) (kk : Steps p.tables e below (T89.setTop (mkF m 17 #[.val (.ref ra0), .val (.int p1), .val (.int (v5_ret p1 w_maxBits_ra0)), .val (.int (0 : Int32))] [(.ref ra0)])) t) => k90 t (by
      show Steps p.tables e below (T89.setTop (mkF m 13 #[.val (.ref ra0), .val (.int p1), .val (.int (v5_ret p1 w_maxBits_ra0)), .val (.int (0 : Int32))] [(.int (v7_ret (v5_ret p1 w_maxBits_ra0) w_width_ra0 w_groupEnded_ra0))])) _
      refine XS.ifNo X89.here hx rfl (hb hby d4_13) rfl ((if0 _ _).trans (feq hc13_91).1) ?_
      show Steps p.tables e below (T89.setTop (mkF m 16 #[.val (.ref ra0), .val (.int p1), .val (.int (v5_ret p1 w_maxBits_ra0)), .val (.int (0 : Int32))] [])) _
      refine XS.aloadN X89.here hx rfl (hb hby d4_16) rfl rfl ?_
      exact kk)
    have Zz111 : n0 ≤ h0.size := (Nat.le_trans Z0 KC0.1)
    obtain ⟨cq111, q111, q111'⟩ := E_ra0.cell
    obtain ⟨_, _, ⟨T111, L111, k111, n111⟩, -, X111, ⟨Lc111, hQ111, l111, y111, z111⟩, st111⟩ := X89.privateBack hx (y := (⟨"phrasebook/ZFormat$Layout", "restOfGroup", "()I"⟩ : MethodName)) hown (mvT hZ (hw _ (List.mem_of_getElem? (i := 73) rfl))) (mvT hZ (hw _ (List.mem_of_getElem? (i := 74) rfl))) (own_selpriv (y := (⟨"phrasebook/ZFormat$Layout", "restOfGroup", "()I"⟩ : MethodName)) (mvT hZ (hw _ (List.mem_of_getElem? (i := 2) rfl))) (Cond.privateMethod_at (mvP hZ (hw _ (List.mem_of_getElem? (i := 75) rfl)) (args := #[]))) (mvT hZ (hw _ (List.mem_of_getElem? (i := 74) rfl))) (by decide)) (Cond.privateMethod_at (mvP hZ (hw _ (List.mem_of_getElem? (i := 75) rfl)) (args := #[]))) (mvT hZ (hw _ (List.mem_of_getElem? (i := 76) rfl))) (by decide) (backOf (W := 0) (rm14 l Z a0 hw [] ra0 w_codesInGroup_ra0 w_width_ra0 h0 n0 Zz111 F_codesInGroup_ra0 F_width_ra0) hZ (hw _ (List.mem_of_getElem? (i := 76) rfl)) (hw _ (List.mem_of_getElem? (i := 3) rfl)) (by decide) (by decide)) (g := (mkF m 17 #[.val (.ref ra0), .val (.int p1), .val (.int (v5_ret p1 w_maxBits_ra0)), .val (.int (0 : Int32))] [(.ref ra0)])) rfl (by rw [hml]; rfl) (Steps.refl _) (a := ra0) (by rw [e89]; exact q111) q111' (argsL := []) (rest := []) (lenOf pd_4 rfl) rfl (by show 2 * 0 + _ ≤ _; exact Nat.le_of_eq rfl) (hb hby d4_17) (fun _ _ => ⟨rfl, e89, (by decide : 0 + 0 ≤ _), (by decide : 0 + 0 ≤ _)⟩)
    dsimp only [Pt.U, Pt.locs, Pt.cells, Pt.slots] at X111 l111 y111 z111 st111 hQ111
    subst l111 y111 z111
    obtain ⟨rfl, N111q, e111⟩ := hQ111
    have N111 := Fr.app N89 N111q
    have k112 := fun (t : State) (kk : Steps p.tables e below (T111.setTop (mkF m 20 #[.val (.ref ra0), .val (.int p1), .val (.int (v5_ret p1 w_maxBits_ra0)), .val (.int (0 : Int32))] [(.int (v14_ret w_codesInGroup_ra0 w_width_ra0))])) t) => k110 t (st111.trans kk)
    have k113 := fun (t : State) (kk : Steps p.tables e below (T111.setTop (mkF m 23 #[.val (.ref ra0), .val (.int p1), .val (.int (v5_ret p1 w_maxBits_ra0)), .val (.int (v14_ret w_codesInGroup_ra0 w_width_ra0))] [(.int (0 : Int32)), (.ref ra0)])) t) => k112 t (by
      show Steps p.tables e below (T111.setTop (mkF m 20 #[.val (.ref ra0), .val (.int p1), .val (.int (v5_ret p1 w_maxBits_ra0)), .val (.int (0 : Int32))] [(.int (v14_ret w_codesInGroup_ra0 w_width_ra0))])) _
      refine XS.istoreN X111.here hx rfl (hb hby d4_20) rfl (l' := #[.val (.ref ra0), .val (.int p1), .val (.int (v5_ret p1 w_maxBits_ra0)), .val (.int (v14_ret w_codesInGroup_ra0 w_width_ra0))]) rfl ?_
      show Steps p.tables e below (T111.setTop (mkF m 21 #[.val (.ref ra0), .val (.int p1), .val (.int (v5_ret p1 w_maxBits_ra0)), .val (.int (v14_ret w_codesInGroup_ra0 w_width_ra0))] [])) _
      refine XS.aloadN X111.here hx rfl (hb hby d4_21) rfl rfl ?_
      show Steps p.tables e below (T111.setTop (mkF m 22 #[.val (.ref ra0), .val (.int p1), .val (.int (v5_ret p1 w_maxBits_ra0)), .val (.int (v14_ret w_codesInGroup_ra0 w_width_ra0))] [(.ref ra0)])) _
      refine XS.iconst X111.here hx rfl (hb hby d4_22) ?_
      exact kk)
    obtain ⟨T114, h114, X114, e114, W114, st114⟩ := putF X111 hx hZ hown (host := "") (Or.inl (hw _ (List.mem_of_getElem? (i := 19) rfl))) Via.refl e111 F_codesInGroup_ra0 E_ra0 (Or.inl (hw _ (List.mem_of_getElem? (i := 20) rfl))) (hw _ (List.mem_of_getElem? (i := 2) rfl)) (ty := .int) (by decide) rfl rfl (g := (mkF m 23 #[.val (.ref ra0), .val (.int p1), .val (.int (v5_ret p1 w_maxBits_ra0)), .val (.int (v14_ret w_codesInGroup_ra0 w_width_ra0))] [(.int (0 : Int32)), (.ref ra0)])) rfl rfl (hb hby d4_23)
    have Fw114 := F_codesInGroup_ra0.same W114
    have K114 : Keep h0 h114 [ra0] := KC0.wr W114 (Or.inl (List.mem_of_getElem? (i := 0) rfl))
    have N114 := Fr.snoc X114 N111 g_ra0
    have k115 := fun (t : State) (kk : Steps p.tables e below (T114.setTop (mkF m 26 #[.val (.ref ra0), .val (.int p1), .val (.int (v5_ret p1 w_maxBits_ra0)), .val (.int (v14_ret w_codesInGroup_ra0 w_width_ra0))] [])) t) => k113 t (st114 _ kk)
    have k116 := fun (t : State) (kk : Steps p.tables e below (T114.setTop (mkF m 28 #[.val (.ref ra0), .val (.int p1), .val (.int (v5_ret p1 w_maxBits_ra0)), .val (.int (v14_ret w_codesInGroup_ra0 w_width_ra0))] [(.int (0 : Int32)), (.ref ra0)])) t) => k115 t (by
      show Steps p.tables e below (T114.setTop (mkF m 26 #[.val (.ref ra0), .val (.int p1), .val (.int (v5_ret p1 w_maxBits_ra0)), .val (.int (v14_ret w_codesInGroup_ra0 w_width_ra0))] [])) _
      refine XS.aloadN X114.here hx rfl (hb hby d4_26) rfl rfl ?_
      show Steps p.tables e below (T114.setTop (mkF m 27 #[.val (.ref ra0), .val (.int p1), .val (.int (v5_ret p1 w_maxBits_ra0)), .val (.int (v14_ret w_codesInGroup_ra0 w_width_ra0))] [(.ref ra0)])) _
      refine XS.iconst X114.here hx rfl (hb hby d4_27) ?_
      exact kk)
    have f117 := (E_ra0.wr W114)
    have f118 := (F_groupEnded_ra0.other W114 (Or.inr (slot_ne (Or.inl (hw _ (List.mem_of_getElem? (i := 22) rfl))) (Or.inl (hw _ (List.mem_of_getElem? (i := 20) rfl))) (by decide) (t := .boolean) (t' := .int) (by decide) (by decide))))
    obtain ⟨T119, h119, X119, e119, W119, st119⟩ := putFN X114 hx hZ hown (hw _ (List.mem_of_getElem? (i := 21) rfl)) Via.refl e114 f118 f117 (Or.inl (hw _ (List.mem_of_getElem? (i := 22) rfl))) (hw _ (List.mem_of_getElem? (i := 2) rfl)) (ty := .boolean) (v' := (.int (0 : Int32))) (by decide) rfl rfl (g := (mkF m 28 #[.val (.ref ra0), .val (.int p1), .val (.int (v5_ret p1 w_maxBits_ra0)), .val (.int (v14_ret w_codesInGroup_ra0 w_width_ra0))] [(.int (0 : Int32)), (.ref ra0)])) rfl rfl (hb hby d4_28)
    have Fw119 := f118.same W119
    have K119 : Keep h0 h119 [ra0] := K114.wr W119 (Or.inl (List.mem_of_getElem? (i := 0) rfl))
    have N119 := Fr.snoc X119 N114 g_ra0
    have k120 := fun (t : State) (kk : Steps p.tables e below (T119.setTop (mkF m 31 #[.val (.ref ra0), .val (.int p1), .val (.int (v5_ret p1 w_maxBits_ra0)), .val (.int (v14_ret w_codesInGroup_ra0 w_width_ra0))] [])) t) => k116 t (st119 _ kk)
    have k121 := fun (t : State) (kk : Steps p.tables e below (T119.setTop (mkF m 33 #[.val (.ref ra0), .val (.int p1), .val (.int (v5_ret p1 w_maxBits_ra0)), .val (.int (v14_ret w_codesInGroup_ra0 w_width_ra0))] [(.int (v5_ret p1 w_maxBits_ra0)), (.ref ra0)])) t) => k120 t (by
      show Steps p.tables e below (T119.setTop (mkF m 31 #[.val (.ref ra0), .val (.int p1), .val (.int (v5_ret p1 w_maxBits_ra0)), .val (.int (v14_ret w_codesInGroup_ra0 w_width_ra0))] [])) _
      refine XS.aloadN X119.here hx rfl (hb hby d4_31) rfl rfl ?_
      show Steps p.tables e below (T119.setTop (mkF m 32 #[.val (.ref ra0), .val (.int p1), .val (.int (v5_ret p1 w_maxBits_ra0)), .val (.int (v14_ret w_codesInGroup_ra0 w_width_ra0))] [(.ref ra0)])) _
      refine XS.iloadN X119.here hx rfl (hb hby d4_32) rfl ?_
      exact kk)
    have f122 := (f117.wr W119)
    have f123 := ((F_width_ra0.other W114 (Or.inr (slot_ne (Or.inl (hw _ (List.mem_of_getElem? (i := 18) rfl))) (Or.inl (hw _ (List.mem_of_getElem? (i := 20) rfl))) (by decide) (t := .int) (t' := .int) (by decide) (by decide)))).other W119 (Or.inr (slot_ne (Or.inl (hw _ (List.mem_of_getElem? (i := 18) rfl))) (Or.inl (hw _ (List.mem_of_getElem? (i := 22) rfl))) (by decide) (t := .int) (t' := .boolean) (by decide) (by decide))))
    obtain ⟨T124, h124, X124, e124, W124, st124⟩ := putF X119 hx hZ hown (host := "") (Or.inl (hw _ (List.mem_of_getElem? (i := 17) rfl))) Via.refl e119 f123 f122 (Or.inl (hw _ (List.mem_of_getElem? (i := 18) rfl))) (hw _ (List.mem_of_getElem? (i := 2) rfl)) (ty := .int) (by decide) rfl rfl (g := (mkF m 33 #[.val (.ref ra0), .val (.int p1), .val (.int (v5_ret p1 w_maxBits_ra0)), .val (.int (v14_ret w_codesInGroup_ra0 w_width_ra0))] [(.int (v5_ret p1 w_maxBits_ra0)), (.ref ra0)])) rfl rfl (hb hby d4_33)
    have Fw124 := f123.same W124
    have K124 : Keep h0 h124 [ra0] := K119.wr W124 (Or.inl (List.mem_of_getElem? (i := 0) rfl))
    have N124 := Fr.snoc X124 N119 g_ra0
    have k125 := fun (t : State) (kk : Steps p.tables e below (T124.setTop (mkF m 36 #[.val (.ref ra0), .val (.int p1), .val (.int (v5_ret p1 w_maxBits_ra0)), .val (.int (v14_ret w_codesInGroup_ra0 w_width_ra0))] [])) t) => k121 t (st124 _ kk)
    have k126 := fun (t : State) (kk : Steps p.tables e below (T124.setTop (mkF m 38 #[.val (.ref ra0), .val (.int p1), .val (.int (v5_ret p1 w_maxBits_ra0)), .val (.int (v14_ret w_codesInGroup_ra0 w_width_ra0))] [(.ref ra0), (.ref ra0)])) t) => k125 t (by
      show Steps p.tables e below (T124.setTop (mkF m 36 #[.val (.ref ra0), .val (.int p1), .val (.int (v5_ret p1 w_maxBits_ra0)), .val (.int (v14_ret w_codesInGroup_ra0 w_width_ra0))] [])) _
      refine XS.aloadN X124.here hx rfl (hb hby d4_36) rfl rfl ?_
      show Steps p.tables e below (T124.setTop (mkF m 37 #[.val (.ref ra0), .val (.int p1), .val (.int (v5_ret p1 w_maxBits_ra0)), .val (.int (v14_ret w_codesInGroup_ra0 w_width_ra0))] [(.ref ra0)])) _
      refine XS.aloadN X124.here hx rfl (hb hby d4_37) rfl rfl ?_
      exact kk)
    have f127 := ((Fw114.other W119 (Or.inr (slot_ne (Or.inl (hw _ (List.mem_of_getElem? (i := 20) rfl))) (Or.inl (hw _ (List.mem_of_getElem? (i := 22) rfl))) (by decide) (t := .int) (t' := .boolean) (by decide) (by decide)))).other W124 (Or.inr (slot_ne (Or.inl (hw _ (List.mem_of_getElem? (i := 20) rfl))) (Or.inl (hw _ (List.mem_of_getElem? (i := 18) rfl))) (by decide) (t := .int) (t' := .int) (by decide) (by decide))))
    obtain ⟨T128, X128, e128, st128⟩ := getF X124 hx hZ hown (host := "") (Or.inl (hw _ (List.mem_of_getElem? (i := 19) rfl))) Via.refl e124 f127 (g := (mkF m 38 #[.val (.ref ra0), .val (.int p1), .val (.int (v5_ret p1 w_maxBits_ra0)), .val (.int (v14_ret w_codesInGroup_ra0 w_width_ra0))] [(.ref ra0), (.ref ra0)])) rfl rfl (hb hby d4_38)
    have k129 := fun (t : State) (kk : Steps p.tables e below (T128.setTop (mkF m 41 #[.val (.ref ra0), .val (.int p1), .val (.int (v5_ret p1 w_maxBits_ra0)), .val (.int (v14_ret w_codesInGroup_ra0 w_width_ra0))] [(.int (0 : Int32)), (.ref ra0)])) t) => k126 t (st128 _ kk)
    have k130 := fun (t : State) (kk : Steps p.tables e below (T128.setTop (mkF m 46 #[.val (.ref ra0), .val (.int p1), .val (.int (v5_ret p1 w_maxBits_ra0)), .val (.int (v14_ret w_codesInGroup_ra0 w_width_ra0))] [(.int (((0 : Int32) + (1 : Int32)) % (8 : Int32))), (.ref ra0)])) t) => k129 t (by
      show Steps p.tables e below (T128.setTop (mkF m 41 #[.val (.ref ra0), .val (.int p1), .val (.int (v5_ret p1 w_maxBits_ra0)), .val (.int (v14_ret w_codesInGroup_ra0 w_width_ra0))] [(.int (0 : Int32)), (.ref ra0)])) _
      refine XS.iconst X128.here hx rfl (hb hby d4_41) ?_
      show Steps p.tables e below (T128.setTop (mkF m 42 #[.val (.ref ra0), .val (.int p1), .val (.int (v5_ret p1 w_maxBits_ra0)), .val (.int (v14_ret w_codesInGroup_ra0 w_width_ra0))] [(.int (1 : Int32)), (.int (0 : Int32)), (.ref ra0)])) _
      refine XS.iadd X128.here hx rfl (hb hby d4_42) rfl ?_
      show Steps p.tables e below (T128.setTop (mkF m 43 #[.val (.ref ra0), .val (.int p1), .val (.int (v5_ret p1 w_maxBits_ra0)), .val (.int (v14_ret w_codesInGroup_ra0 w_width_ra0))] [(.int ((0 : Int32) + (1 : Int32))), (.ref ra0)])) _
      refine XS.bipush X128.here hx rfl (hb hby d4_43) ?_
      show Steps p.tables e below (T128.setTop (mkF m 45 #[.val (.ref ra0), .val (.int p1), .val (.int (v5_ret p1 w_maxBits_ra0)), .val (.int (v14_ret w_codesInGroup_ra0 w_width_ra0))] [(.int (8 : Int32)), (.int ((0 : Int32) + (1 : Int32))), (.ref ra0)])) _
      refine iremM X128 hx rfl (hb hby d4_45) rfl (by decide) ?_
      exact kk)
    have f131 := (f122.wr W124)
    obtain ⟨T132, h132, X132, e132, W132, st132⟩ := putF X128 hx hZ hown (host := "") (Or.inl (hw _ (List.mem_of_getElem? (i := 19) rfl))) Via.refl e128 f127 f131 (Or.inl (hw _ (List.mem_of_getElem? (i := 20) rfl))) (hw _ (List.mem_of_getElem? (i := 2) rfl)) (ty := .int) (by decide) rfl rfl (g := (mkF m 46 #[.val (.ref ra0), .val (.int p1), .val (.int (v5_ret p1 w_maxBits_ra0)), .val (.int (v14_ret w_codesInGroup_ra0 w_width_ra0))] [(.int (((0 : Int32) + (1 : Int32)) % (8 : Int32))), (.ref ra0)])) rfl rfl (hb hby d4_46)
    have Fw132 := f127.same W132
    have K132 : Keep h0 h132 [ra0] := K124.wr W132 (Or.inl (List.mem_of_getElem? (i := 0) rfl))
    have N132 := Fr.snoc X132 N124 g_ra0
    have k133 := fun (t : State) (kk : Steps p.tables e below (T132.setTop (mkF m 49 #[.val (.ref ra0), .val (.int p1), .val (.int (v5_ret p1 w_maxBits_ra0)), .val (.int (v14_ret w_codesInGroup_ra0 w_width_ra0))] [])) t) => k130 t (st132 _ kk)
    have k134 := fun (t : State) (kk : Steps p.tables e below (T132.setTop (mkF m 50 #[.val (.ref ra0), .val (.int p1), .val (.int (v5_ret p1 w_maxBits_ra0)), .val (.int (v14_ret w_codesInGroup_ra0 w_width_ra0))] [(.int (v14_ret w_codesInGroup_ra0 w_width_ra0))])) t) => k133 t (by
      show Steps p.tables e below (T132.setTop (mkF m 49 #[.val (.ref ra0), .val (.int p1), .val (.int (v5_ret p1 w_maxBits_ra0)), .val (.int (v14_ret w_codesInGroup_ra0 w_width_ra0))] [])) _
      refine XS.iloadN X132.here hx rfl (hb hby d4_49) rfl ?_
      exact kk)
    obtain ⟨fs, hr, hrun, hended, hW, hsame⟩ := X132.leave (v := some (.int (v14_ret w_codesInGroup_ra0 w_width_ra0))) (fun h => by rw [Bd.returns] at h; cases h)
    have hv : (v4_ret p1 w_maxBits_ra0 w_width_ra0 w_groupEnded_ra0 w_codesInGroup_ra0) = (v14_ret w_codesInGroup_ra0 w_width_ra0) := (if_neg hc13_91)
    have f135 := (f131.wr W132)
    have f136 := ((((F_maxBits_ra0.other W114 (Or.inr (slot_ne (Or.inr (hw _ (List.mem_of_getElem? (i := 11) rfl))) (Or.inl (hw _ (List.mem_of_getElem? (i := 20) rfl))) (by decide) (t := .int) (t' := .int) (by decide) (by decide)))).other W119 (Or.inr (slot_ne (Or.inr (hw _ (List.mem_of_getElem? (i := 11) rfl))) (Or.inl (hw _ (List.mem_of_getElem? (i := 22) rfl))) (by decide) (t := .int) (t' := .boolean) (by decide) (by decide)))).other W124 (Or.inr (slot_ne (Or.inr (hw _ (List.mem_of_getElem? (i := 11) rfl))) (Or.inl (hw _ (List.mem_of_getElem? (i := 18) rfl))) (by decide) (t := .int) (t' := .int) (by decide) (by decide)))).other W132 (Or.inr (slot_ne (Or.inr (hw _ (List.mem_of_getElem? (i := 11) rfl))) (Or.inl (hw _ (List.mem_of_getElem? (i := 20) rfl))) (by decide) (t := .int) (t' := .int) (by decide) (by decide))))
    have f137 := (Fw124.other W132 (Or.inr (slot_ne (Or.inl (hw _ (List.mem_of_getElem? (i := 18) rfl))) (Or.inl (hw _ (List.mem_of_getElem? (i := 20) rfl))) (by decide) (t := .int) (t' := .int) (by decide) (by decide))))
    have hf138 : (v4_f_codesInGroup_ra0 p1 w_maxBits_ra0 w_width_ra0 w_groupEnded_ra0 w_codesInGroup_ra0) = (((0 : Int32) + (1 : Int32)) % (8 : Int32)) := (if_neg hc13_91)
    have f139 := ((Fw119.other W124 (Or.inr (slot_ne (Or.inl (hw _ (List.mem_of_getElem? (i := 22) rfl))) (Or.inl (hw _ (List.mem_of_getElem? (i := 18) rfl))) (by decide) (t := .boolean) (t' := .int) (by decide) (by decide)))).other W132 (Or.inr (slot_ne (Or.inl (hw _ (List.mem_of_getElem? (i := 22) rfl))) (Or.inl (hw _ (List.mem_of_getElem? (i := 20) rfl))) (by decide) (t := .boolean) (t' := .int) (by decide) (by decide))))
    have hf140 : (v4_f_groupEnded_ra0 p1 w_maxBits_ra0 w_width_ra0 w_groupEnded_ra0) = (0 : Int32) := (if_neg hc13_91)
    refine ⟨_, _, k134 _ ?_, hrun, hended, _, _, rfl, ?_, ⟨_, rfl⟩, hW, hsame.mono (by decide) (by decide)⟩
    · show Steps p.tables e below (T132.setTop (mkF m 50 #[.val (.ref ra0), .val (.int p1), .val (.int (v5_ret p1 w_maxBits_ra0)), .val (.int (v14_ret w_codesInGroup_ra0 w_width_ra0))] [(.int (v14_ret w_codesInGroup_ra0 w_width_ra0))])) _
      exact retI X132 hx Bd.returns (hb hby d4_50) hr
    · show Q4 Z ra0 p1 w_maxBits_ra0 w_width_ra0 w_groupEnded_ra0 w_codesInGroup_ra0 h0 n0 _ T132.heap _
      rw [e132]
      exact ⟨(congrArg (fun z => some (Value.int z)) hv).symm, N132, K132, f135, f136, f137, (by rw [hf138]; exact Fw132), (by rw [hf140]; exact f139)⟩
theorem d8_0 : decode prog_49_method_5_code 0 = .ok (.aload_n 0, 1) := by decide +kernel
theorem d8_1 : decode prog_49_method_5_code 1 = .ok (.aload_n 0, 1) := by decide +kernel
theorem d8_2 : decode prog_49_method_5_code 2 = .ok (.getfield 21, 3) := by decide +kernel
theorem d8_5 : decode prog_49_method_5_code 5 = .ok (.iload_n 1, 1) := by decide +kernel
theorem d8_6 : decode prog_49_method_5_code 6 = .ok (.iadd, 1) := by decide +kernel
theorem d8_7 : decode prog_49_method_5_code 7 = .ok (.bipush 8, 2) := by decide +kernel
theorem d8_9 : decode prog_49_method_5_code 9 = .ok (.irem, 1) := by decide +kernel
theorem d8_10 : decode prog_49_method_5_code 10 = .ok (.putfield 21, 3) := by decide +kernel
theorem d8_13 : decode prog_49_method_5_code 13 = .ok (.return_, 1) := by decide +kernel
theorem ef_rm8 (m : MethodId) (ra0 : Addr) (p1 : Int32) : entryFrame m #[(.ref ra0), (.int p1)] 2 = mkF m 0 #[.val (.ref ra0), .val (.int p1)] [] := by first | (simp [entryFrame, mkF, argsToLocals, Value.category]; done) | rfl
def Q8 (Z : State) (ra0 : Addr) (p1 : Int32) (w_codesInGroup_ra0 : Int32) (w_maxBits_ra0 : Int32) (w_width_ra0 : Int32) (w_groupEnded_ra0 : Int32) (h0 : Heap) (n0 : Nat) (v : Option Value) (h : Heap) (L : List Loc) : Prop := v = none ∧ Fr n0 L ∧ Keep h0 h [ra0] ∧ Exa Z h ra0 "phrasebook/ZFormat$Layout" ∧ Fld Z h ra0 "phrasebook/ZFormat$Layout" "maxBits" "I" (.int w_maxBits_ra0) ∧ Fld Z h ra0 "phrasebook/ZFormat$Layout" "width" "I" (.int w_width_ra0) ∧ Fld Z h ra0 "phrasebook/ZFormat$Layout" "codesInGroup" "I" (.int ((w_codesInGroup_ra0 + p1) % (8 : Int32))) ∧ Fld Z h ra0 "phrasebook/ZFormat$Layout" "groupEnded" "Z" (.int w_groupEnded_ra0)
set_option maxRecDepth 65536 in
set_option maxHeartbeats 40000000 in
theorem rm8 (l : Launch) (Z : State) (a0 : Array Value) (hw : ∀ d ∈ tables_1, d.before a0 Z = true) (ws : List Jvm.Cond) (ra0 : Addr) (p1 : Int32) (w_codesInGroup_ra0 : Int32) (w_maxBits_ra0 : Int32) (w_width_ra0 : Int32) (w_groupEnded_ra0 : Int32) (h0 : Heap) (n0 : Nat) (Z0 : n0 ≤ h0.size) (F_codesInGroup_ra0 : Fld Z h0 ra0 "phrasebook/ZFormat$Layout" "codesInGroup" "I" (.int w_codesInGroup_ra0)) (E_ra0 : Exa Z h0 ra0 "phrasebook/ZFormat$Layout") (g_ra0 : n0 ≤ ra0) (F_maxBits_ra0 : Fld Z h0 ra0 "phrasebook/ZFormat$Layout" "maxBits" "I" (.int w_maxBits_ra0)) (F_width_ra0 : Fld Z h0 ra0 "phrasebook/ZFormat$Layout" "width" "I" (.int w_width_ra0)) (F_groupEnded_ra0 : Fld Z h0 ra0 "phrasebook/ZFormat$Layout" "groupEnded" "Z" (.int w_groupEnded_ra0)) :
    MetFree l (⟨"phrasebook/ZFormat$Layout", "placeMore", "(I)V"⟩ : MethodName) (head1 (Jvm.Cond.code (⟨"phrasebook/ZFormat$Layout", "placeMore", "(I)V"⟩ : MethodName) prog_49_method_5_code 2 none :: ws) ({ frames := 0, cells := 0, slots := 0, locals := 0 } : Room)) (fun a U => a = #[(.ref ra0), (.int p1)] ∧ Z.Warmed39 U.vm ∧ U.heap = h0) (fun _ _ _ _ _ => True) (fun _ U o U' => ∃ v L, o = .returned v ∧ Q8 Z ra0 p1 w_codesInGroup_ra0 w_maxBits_ra0 w_width_ra0 w_groupEnded_ra0 h0 n0 v U'.heap L ∧ FrameEnd U o U' L ({ frames := 0, cells := 0, slots := 0, locals := 0 } : Room).cells ({ frames := 0, cells := 0, slots := 0, locals := 0 } : Room).slots) := by
  refine MetFree.of_bodySF (plainFor_of_name pn_11) hisR ?_
  intro p e s m args below meth c s₁ Bd hml0 hP hK
  obtain ⟨rfl, hZ, hh⟩ := hP
  have hx := Bd.exec
  have hby := Bd.bytes
  have hml : c.maxLocals = 2 := hml0
  have hown : s.vm.findClass "phrasebook/ZFormat$Layout" = some m.cls := findClass_of_methodNamed Bd.named
  have hnm := (name_of_methodNamed Bd.named Bd.method).1
  have X0 : Stand p l e ({ frames := 0, cells := 0, slots := 0, locals := 0 } : Room) s m #[(.ref ra0), (.int p1)] below meth c s₁ [] 0 0 := Stand.of_body Bd
  have e0 : s₁.heap = h0 := by rw [← hh, Bd.state]; rfl
  have N0 := Fr.nil n0
  have KC0 := Keep.refl h0 [ra0]
  have pre0 : ∀ t, Steps p.tables e below (s₁.setTop (mkF m 0 #[.val (.ref ra0), .val (.int p1)] [])) t → Steps p.tables e below (s₁.setTop (entryFrame m #[(.ref ra0), (.int p1)] 2)) t := fun t k => castTop (ef_rm8 m ra0 p1) k
  have k141 := fun (t : State) (kk : Steps p.tables e below (s₁.setTop (mkF m 2 #[.val (.ref ra0), .val (.int p1)] [(.ref ra0), (.ref ra0)])) t) => pre0 t (by
    show Steps p.tables e below (s₁.setTop (mkF m 0 #[.val (.ref ra0), .val (.int p1)] [])) _
    refine XS.aloadN X0.here hx rfl (hb hby d8_0) rfl rfl ?_
    show Steps p.tables e below (s₁.setTop (mkF m 1 #[.val (.ref ra0), .val (.int p1)] [(.ref ra0)])) _
    refine XS.aloadN X0.here hx rfl (hb hby d8_1) rfl rfl ?_
    exact kk)
  obtain ⟨T142, X142, e142, st142⟩ := getF X0 hx hZ hown (host := "") (Or.inl (hw _ (List.mem_of_getElem? (i := 19) rfl))) Via.refl e0 F_codesInGroup_ra0 (g := (mkF m 2 #[.val (.ref ra0), .val (.int p1)] [(.ref ra0), (.ref ra0)])) rfl rfl (hb hby d8_2)
  have k143 := fun (t : State) (kk : Steps p.tables e below (T142.setTop (mkF m 5 #[.val (.ref ra0), .val (.int p1)] [(.int w_codesInGroup_ra0), (.ref ra0)])) t) => k141 t (st142 _ kk)
  have k144 := fun (t : State) (kk : Steps p.tables e below (T142.setTop (mkF m 10 #[.val (.ref ra0), .val (.int p1)] [(.int ((w_codesInGroup_ra0 + p1) % (8 : Int32))), (.ref ra0)])) t) => k143 t (by
    show Steps p.tables e below (T142.setTop (mkF m 5 #[.val (.ref ra0), .val (.int p1)] [(.int w_codesInGroup_ra0), (.ref ra0)])) _
    refine XS.iloadN X142.here hx rfl (hb hby d8_5) rfl ?_
    show Steps p.tables e below (T142.setTop (mkF m 6 #[.val (.ref ra0), .val (.int p1)] [(.int p1), (.int w_codesInGroup_ra0), (.ref ra0)])) _
    refine XS.iadd X142.here hx rfl (hb hby d8_6) rfl ?_
    show Steps p.tables e below (T142.setTop (mkF m 7 #[.val (.ref ra0), .val (.int p1)] [(.int (w_codesInGroup_ra0 + p1)), (.ref ra0)])) _
    refine XS.bipush X142.here hx rfl (hb hby d8_7) ?_
    show Steps p.tables e below (T142.setTop (mkF m 9 #[.val (.ref ra0), .val (.int p1)] [(.int (8 : Int32)), (.int (w_codesInGroup_ra0 + p1)), (.ref ra0)])) _
    refine iremM X142 hx rfl (hb hby d8_9) rfl (by decide) ?_
    exact kk)
  obtain ⟨T145, h145, X145, e145, W145, st145⟩ := putF X142 hx hZ hown (host := "") (Or.inl (hw _ (List.mem_of_getElem? (i := 19) rfl))) Via.refl e142 F_codesInGroup_ra0 E_ra0 (Or.inl (hw _ (List.mem_of_getElem? (i := 20) rfl))) (hw _ (List.mem_of_getElem? (i := 2) rfl)) (ty := .int) (by decide) rfl rfl (g := (mkF m 10 #[.val (.ref ra0), .val (.int p1)] [(.int ((w_codesInGroup_ra0 + p1) % (8 : Int32))), (.ref ra0)])) rfl rfl (hb hby d8_10)
  have Fw145 := F_codesInGroup_ra0.same W145
  have K145 : Keep h0 h145 [ra0] := KC0.wr W145 (Or.inl (List.mem_of_getElem? (i := 0) rfl))
  have N145 := Fr.snoc X145 N0 g_ra0
  have k146 := fun (t : State) (kk : Steps p.tables e below (T145.setTop (mkF m 13 #[.val (.ref ra0), .val (.int p1)] [])) t) => k144 t (st145 _ kk)
  obtain ⟨fs, hr, hrun, hended, hW, hsame⟩ := X145.leave (v := none) (fun _ => rfl)
  have f147 := (E_ra0.wr W145)
  have f148 := (F_maxBits_ra0.other W145 (Or.inr (slot_ne (Or.inr (hw _ (List.mem_of_getElem? (i := 11) rfl))) (Or.inl (hw _ (List.mem_of_getElem? (i := 20) rfl))) (by decide) (t := .int) (t' := .int) (by decide) (by decide))))
  have f149 := (F_width_ra0.other W145 (Or.inr (slot_ne (Or.inl (hw _ (List.mem_of_getElem? (i := 18) rfl))) (Or.inl (hw _ (List.mem_of_getElem? (i := 20) rfl))) (by decide) (t := .int) (t' := .int) (by decide) (by decide))))
  have f150 := (F_groupEnded_ra0.other W145 (Or.inr (slot_ne (Or.inl (hw _ (List.mem_of_getElem? (i := 22) rfl))) (Or.inl (hw _ (List.mem_of_getElem? (i := 20) rfl))) (by decide) (t := .boolean) (t' := .int) (by decide) (by decide))))
  refine ⟨_, _, k146 _ ?_, hrun, hended, _, _, rfl, ?_, ⟨_, rfl⟩, hW, hsame.mono (by decide) (by decide)⟩
  · show Steps p.tables e below (T145.setTop (mkF m 13 #[.val (.ref ra0), .val (.int p1)] [])) _
    exact X145.returnOut hx Bd.returns (hb hby d8_13) hr
  · show Q8 Z ra0 p1 w_codesInGroup_ra0 w_maxBits_ra0 w_width_ra0 w_groupEnded_ra0 h0 n0 _ T145.heap _
    rw [e145]
    exact ⟨rfl, N145, K145, f147, f148, f149, Fw145, f150⟩
theorem d9_0 : decode prog_49_method_7_code 0 = .ok (.aload_n 0, 1) := by decide +kernel
theorem d9_1 : decode prog_49_method_7_code 1 = .ok (.iconst 1, 1) := by decide +kernel
theorem d9_2 : decode prog_49_method_7_code 2 = .ok (.putfield 24, 3) := by decide +kernel
theorem d9_5 : decode prog_49_method_7_code 5 = .ok (.return_, 1) := by decide +kernel
theorem ef_rm9 (m : MethodId) (ra0 : Addr) : entryFrame m #[(.ref ra0)] 1 = mkF m 0 #[.val (.ref ra0)] [] := by first | (simp [entryFrame, mkF, argsToLocals, Value.category]; done) | rfl
def Q9 (Z : State) (ra0 : Addr) (w_groupEnded_ra0 : Int32) (w_maxBits_ra0 : Int32) (w_width_ra0 : Int32) (w_codesInGroup_ra0 : Int32) (h0 : Heap) (n0 : Nat) (v : Option Value) (h : Heap) (L : List Loc) : Prop := v = none ∧ Fr n0 L ∧ Keep h0 h [ra0] ∧ Exa Z h ra0 "phrasebook/ZFormat$Layout" ∧ Fld Z h ra0 "phrasebook/ZFormat$Layout" "maxBits" "I" (.int w_maxBits_ra0) ∧ Fld Z h ra0 "phrasebook/ZFormat$Layout" "width" "I" (.int w_width_ra0) ∧ Fld Z h ra0 "phrasebook/ZFormat$Layout" "codesInGroup" "I" (.int w_codesInGroup_ra0) ∧ Fld Z h ra0 "phrasebook/ZFormat$Layout" "groupEnded" "Z" (.int (1 : Int32))
set_option maxRecDepth 65536 in
set_option maxHeartbeats 40000000 in
theorem rm9 (l : Launch) (Z : State) (a0 : Array Value) (hw : ∀ d ∈ tables_1, d.before a0 Z = true) (ws : List Jvm.Cond) (ra0 : Addr) (w_groupEnded_ra0 : Int32) (w_maxBits_ra0 : Int32) (w_width_ra0 : Int32) (w_codesInGroup_ra0 : Int32) (h0 : Heap) (n0 : Nat) (Z0 : n0 ≤ h0.size) (E_ra0 : Exa Z h0 ra0 "phrasebook/ZFormat$Layout") (F_groupEnded_ra0 : Fld Z h0 ra0 "phrasebook/ZFormat$Layout" "groupEnded" "Z" (.int w_groupEnded_ra0)) (g_ra0 : n0 ≤ ra0) (F_maxBits_ra0 : Fld Z h0 ra0 "phrasebook/ZFormat$Layout" "maxBits" "I" (.int w_maxBits_ra0)) (F_width_ra0 : Fld Z h0 ra0 "phrasebook/ZFormat$Layout" "width" "I" (.int w_width_ra0)) (F_codesInGroup_ra0 : Fld Z h0 ra0 "phrasebook/ZFormat$Layout" "codesInGroup" "I" (.int w_codesInGroup_ra0)) :
    MetFree l (⟨"phrasebook/ZFormat$Layout", "endGroup", "()V"⟩ : MethodName) (head1 (Jvm.Cond.code (⟨"phrasebook/ZFormat$Layout", "endGroup", "()V"⟩ : MethodName) prog_49_method_7_code 1 none :: ws) ({ frames := 0, cells := 0, slots := 0, locals := 0 } : Room)) (fun a U => a = #[(.ref ra0)] ∧ Z.Warmed39 U.vm ∧ U.heap = h0) (fun _ _ _ _ _ => True) (fun _ U o U' => ∃ v L, o = .returned v ∧ Q9 Z ra0 w_groupEnded_ra0 w_maxBits_ra0 w_width_ra0 w_codesInGroup_ra0 h0 n0 v U'.heap L ∧ FrameEnd U o U' L ({ frames := 0, cells := 0, slots := 0, locals := 0 } : Room).cells ({ frames := 0, cells := 0, slots := 0, locals := 0 } : Room).slots) := by
  refine MetFree.of_bodySF (plainFor_of_name pn_11) hisR ?_
  intro p e s m args below meth c s₁ Bd hml0 hP hK
  obtain ⟨rfl, hZ, hh⟩ := hP
  have hx := Bd.exec
  have hby := Bd.bytes
  have hml : c.maxLocals = 1 := hml0
  have hown : s.vm.findClass "phrasebook/ZFormat$Layout" = some m.cls := findClass_of_methodNamed Bd.named
  have hnm := (name_of_methodNamed Bd.named Bd.method).1
  have X0 : Stand p l e ({ frames := 0, cells := 0, slots := 0, locals := 0 } : Room) s m #[(.ref ra0)] below meth c s₁ [] 0 0 := Stand.of_body Bd
  have e0 : s₁.heap = h0 := by rw [← hh, Bd.state]; rfl
  have N0 := Fr.nil n0
  have KC0 := Keep.refl h0 [ra0]
  have pre0 : ∀ t, Steps p.tables e below (s₁.setTop (mkF m 0 #[.val (.ref ra0)] [])) t → Steps p.tables e below (s₁.setTop (entryFrame m #[(.ref ra0)] 1)) t := fun t k => castTop (ef_rm9 m ra0) k
  have k151 := fun (t : State) (kk : Steps p.tables e below (s₁.setTop (mkF m 2 #[.val (.ref ra0)] [(.int (1 : Int32)), (.ref ra0)])) t) => pre0 t (by
    show Steps p.tables e below (s₁.setTop (mkF m 0 #[.val (.ref ra0)] [])) _
    refine XS.aloadN X0.here hx rfl (hb hby d9_0) rfl rfl ?_
    show Steps p.tables e below (s₁.setTop (mkF m 1 #[.val (.ref ra0)] [(.ref ra0)])) _
    refine XS.iconst X0.here hx rfl (hb hby d9_1) ?_
    exact kk)
  obtain ⟨T152, h152, X152, e152, W152, st152⟩ := putFN X0 hx hZ hown (hw _ (List.mem_of_getElem? (i := 21) rfl)) Via.refl e0 F_groupEnded_ra0 E_ra0 (Or.inl (hw _ (List.mem_of_getElem? (i := 22) rfl))) (hw _ (List.mem_of_getElem? (i := 2) rfl)) (ty := .boolean) (v' := (.int (1 : Int32))) (by decide) rfl rfl (g := (mkF m 2 #[.val (.ref ra0)] [(.int (1 : Int32)), (.ref ra0)])) rfl rfl (hb hby d9_2)
  have Fw152 := F_groupEnded_ra0.same W152
  have K152 : Keep h0 h152 [ra0] := KC0.wr W152 (Or.inl (List.mem_of_getElem? (i := 0) rfl))
  have N152 := Fr.snoc X152 N0 g_ra0
  have k153 := fun (t : State) (kk : Steps p.tables e below (T152.setTop (mkF m 5 #[.val (.ref ra0)] [])) t) => k151 t (st152 _ kk)
  obtain ⟨fs, hr, hrun, hended, hW, hsame⟩ := X152.leave (v := none) (fun _ => rfl)
  have f154 := (E_ra0.wr W152)
  have f155 := (F_maxBits_ra0.other W152 (Or.inr (slot_ne (Or.inr (hw _ (List.mem_of_getElem? (i := 11) rfl))) (Or.inl (hw _ (List.mem_of_getElem? (i := 22) rfl))) (by decide) (t := .int) (t' := .boolean) (by decide) (by decide))))
  have f156 := (F_width_ra0.other W152 (Or.inr (slot_ne (Or.inl (hw _ (List.mem_of_getElem? (i := 18) rfl))) (Or.inl (hw _ (List.mem_of_getElem? (i := 22) rfl))) (by decide) (t := .int) (t' := .boolean) (by decide) (by decide))))
  have f157 := (F_codesInGroup_ra0.other W152 (Or.inr (slot_ne (Or.inl (hw _ (List.mem_of_getElem? (i := 20) rfl))) (Or.inl (hw _ (List.mem_of_getElem? (i := 22) rfl))) (by decide) (t := .int) (t' := .boolean) (by decide) (by decide))))
  refine ⟨_, _, k153 _ ?_, hrun, hended, _, _, rfl, ?_, ⟨_, rfl⟩, hW, hsame.mono (by decide) (by decide)⟩
  · show Steps p.tables e below (T152.setTop (mkF m 5 #[.val (.ref ra0)] [])) _
    exact X152.returnOut hx Bd.returns (hb hby d9_5) hr
  · show Q9 Z ra0 w_groupEnded_ra0 w_maxBits_ra0 w_width_ra0 w_codesInGroup_ra0 h0 n0 _ T152.heap _
    rw [e152]
    exact ⟨rfl, N152, K152, f154, f155, f156, f157, Fw152⟩
theorem d10_0 : decode prog_49_method_6_code 0 = .ok (.aload_n 0, 1) := by decide +kernel
theorem d10_1 : decode prog_49_method_6_code 1 = .ok (.getfield 18, 3) := by decide +kernel
theorem d10_4 : decode prog_49_method_6_code 4 = .ok (.ireturn, 1) := by decide +kernel
theorem ef_rm10 (m : MethodId) (ra0 : Addr) : entryFrame m #[(.ref ra0)] 1 = mkF m 0 #[.val (.ref ra0)] [] := by first | (simp [entryFrame, mkF, argsToLocals, Value.category]; done) | rfl
def Q10 (Z : State) (ra0 : Addr) (w_width_ra0 : Int32) (h0 : Heap) (n0 : Nat) (v : Option Value) (h : Heap) (L : List Loc) : Prop := v = some (.int w_width_ra0) ∧ Fr n0 L ∧ h = h0
set_option maxRecDepth 65536 in
set_option maxHeartbeats 40000000 in
theorem rm10 (l : Launch) (Z : State) (a0 : Array Value) (hw : ∀ d ∈ tables_1, d.before a0 Z = true) (ws : List Jvm.Cond) (ra0 : Addr) (w_width_ra0 : Int32) (h0 : Heap) (n0 : Nat) (Z0 : n0 ≤ h0.size) (F_width_ra0 : Fld Z h0 ra0 "phrasebook/ZFormat$Layout" "width" "I" (.int w_width_ra0)) :
    MetFree l (⟨"phrasebook/ZFormat$Layout", "width", "()I"⟩ : MethodName) (head1 (Jvm.Cond.code (⟨"phrasebook/ZFormat$Layout", "width", "()I"⟩ : MethodName) prog_49_method_6_code 1 (some .int) :: ws) ({ frames := 0, cells := 0, slots := 0, locals := 0 } : Room)) (fun a U => a = #[(.ref ra0)] ∧ Z.Warmed39 U.vm ∧ U.heap = h0) (fun _ _ _ _ _ => True) (fun _ U o U' => ∃ v L, o = .returned v ∧ Q10 Z ra0 w_width_ra0 h0 n0 v U'.heap L ∧ FrameEnd U o U' L ({ frames := 0, cells := 0, slots := 0, locals := 0 } : Room).cells ({ frames := 0, cells := 0, slots := 0, locals := 0 } : Room).slots) := by
  refine MetFree.of_bodySF (plainFor_of_name pn_11) hisR ?_
  intro p e s m args below meth c s₁ Bd hml0 hP hK
  obtain ⟨rfl, hZ, hh⟩ := hP
  have hx := Bd.exec
  have hby := Bd.bytes
  have hml : c.maxLocals = 1 := hml0
  have hown : s.vm.findClass "phrasebook/ZFormat$Layout" = some m.cls := findClass_of_methodNamed Bd.named
  have hnm := (name_of_methodNamed Bd.named Bd.method).1
  have X0 : Stand p l e ({ frames := 0, cells := 0, slots := 0, locals := 0 } : Room) s m #[(.ref ra0)] below meth c s₁ [] 0 0 := Stand.of_body Bd
  have e0 : s₁.heap = h0 := by rw [← hh, Bd.state]; rfl
  have N0 := Fr.nil n0
  have KC0 := Keep.refl h0 ([] : List Addr)
  have pre0 : ∀ t, Steps p.tables e below (s₁.setTop (mkF m 0 #[.val (.ref ra0)] [])) t → Steps p.tables e below (s₁.setTop (entryFrame m #[(.ref ra0)] 1)) t := fun t k => castTop (ef_rm10 m ra0) k
  have k158 := fun (t : State) (kk : Steps p.tables e below (s₁.setTop (mkF m 1 #[.val (.ref ra0)] [(.ref ra0)])) t) => pre0 t (by
    show Steps p.tables e below (s₁.setTop (mkF m 0 #[.val (.ref ra0)] [])) _
    refine XS.aloadN X0.here hx rfl (hb hby d10_0) rfl rfl ?_
    exact kk)
  obtain ⟨T159, X159, e159, st159⟩ := getF X0 hx hZ hown (host := "") (Or.inl (hw _ (List.mem_of_getElem? (i := 17) rfl))) Via.refl e0 F_width_ra0 (g := (mkF m 1 #[.val (.ref ra0)] [(.ref ra0)])) rfl rfl (hb hby d10_1)
  have k160 := fun (t : State) (kk : Steps p.tables e below (T159.setTop (mkF m 4 #[.val (.ref ra0)] [(.int w_width_ra0)])) t) => k158 t (st159 _ kk)
  obtain ⟨fs, hr, hrun, hended, hW, hsame⟩ := X159.leave (v := some (.int w_width_ra0)) (fun h => by rw [Bd.returns] at h; cases h)
  refine ⟨_, _, k160 _ ?_, hrun, hended, _, _, rfl, ?_, ⟨_, rfl⟩, hW, hsame.mono (by decide) (by decide)⟩
  · show Steps p.tables e below (T159.setTop (mkF m 4 #[.val (.ref ra0)] [(.int w_width_ra0)])) _
    exact retI X159 hx Bd.returns (hb hby d10_4) hr
  · show Q10 Z ra0 w_width_ra0 h0 n0 _ T159.heap _
    rw [e159]
    exact ⟨rfl, N0, rfl⟩
theorem d11_0 : decode method_2_code 0 = .ok (.iload_n 0, 1) := by decide +kernel
theorem d11_1 : decode method_2_code 1 = .ok (.sipush 512, 3) := by decide +kernel
theorem d11_4 : decode method_2_code 4 = .ok (.if_icmp .ge 9, 3) := by decide +kernel
theorem d11_7 : decode method_2_code 7 = .ok (.bipush 9, 2) := by decide +kernel
theorem d11_9 : decode method_2_code 9 = .ok (.istore_n 2, 1) := by decide +kernel
theorem d11_10 : decode method_2_code 10 = .ok (.goto 95, 3) := by decide +kernel
theorem d11_13 : decode method_2_code 13 = .ok (.iload_n 0, 1) := by decide +kernel
theorem d11_14 : decode method_2_code 14 = .ok (.sipush 1024, 3) := by decide +kernel
theorem d11_17 : decode method_2_code 17 = .ok (.if_icmp .ge 9, 3) := by decide +kernel
theorem d11_20 : decode method_2_code 20 = .ok (.bipush 10, 2) := by decide +kernel
theorem d11_22 : decode method_2_code 22 = .ok (.istore_n 2, 1) := by decide +kernel
theorem d11_23 : decode method_2_code 23 = .ok (.goto 82, 3) := by decide +kernel
theorem d11_26 : decode method_2_code 26 = .ok (.iload_n 0, 1) := by decide +kernel
theorem d11_27 : decode method_2_code 27 = .ok (.sipush 2048, 3) := by decide +kernel
theorem d11_30 : decode method_2_code 30 = .ok (.if_icmp .ge 9, 3) := by decide +kernel
theorem d11_33 : decode method_2_code 33 = .ok (.bipush 11, 2) := by decide +kernel
theorem d11_35 : decode method_2_code 35 = .ok (.istore_n 2, 1) := by decide +kernel
theorem d11_36 : decode method_2_code 36 = .ok (.goto 69, 3) := by decide +kernel
theorem d11_39 : decode method_2_code 39 = .ok (.iload_n 0, 1) := by decide +kernel
theorem d11_40 : decode method_2_code 40 = .ok (.sipush 4096, 3) := by decide +kernel
theorem d11_43 : decode method_2_code 43 = .ok (.if_icmp .ge 9, 3) := by decide +kernel
theorem d11_46 : decode method_2_code 46 = .ok (.bipush 12, 2) := by decide +kernel
theorem d11_48 : decode method_2_code 48 = .ok (.istore_n 2, 1) := by decide +kernel
theorem d11_49 : decode method_2_code 49 = .ok (.goto 56, 3) := by decide +kernel
theorem d11_52 : decode method_2_code 52 = .ok (.iload_n 0, 1) := by decide +kernel
theorem d11_53 : decode method_2_code 53 = .ok (.sipush 8192, 3) := by decide +kernel
theorem d11_56 : decode method_2_code 56 = .ok (.if_icmp .ge 9, 3) := by decide +kernel
theorem d11_59 : decode method_2_code 59 = .ok (.bipush 13, 2) := by decide +kernel
theorem d11_61 : decode method_2_code 61 = .ok (.istore_n 2, 1) := by decide +kernel
theorem d11_62 : decode method_2_code 62 = .ok (.goto 43, 3) := by decide +kernel
theorem d11_65 : decode method_2_code 65 = .ok (.iload_n 0, 1) := by decide +kernel
theorem d11_66 : decode method_2_code 66 = .ok (.sipush 16384, 3) := by decide +kernel
theorem d11_69 : decode method_2_code 69 = .ok (.if_icmp .ge 9, 3) := by decide +kernel
theorem d11_72 : decode method_2_code 72 = .ok (.bipush 14, 2) := by decide +kernel
theorem d11_74 : decode method_2_code 74 = .ok (.istore_n 2, 1) := by decide +kernel
theorem d11_75 : decode method_2_code 75 = .ok (.goto 30, 3) := by decide +kernel
theorem d11_78 : decode method_2_code 78 = .ok (.iload_n 0, 1) := by decide +kernel
theorem d11_79 : decode method_2_code 79 = .ok (.ldc 7, 2) := by decide +kernel
theorem d11_81 : decode method_2_code 81 = .ok (.if_icmp .ge 9, 3) := by decide +kernel
theorem d11_84 : decode method_2_code 84 = .ok (.bipush 15, 2) := by decide +kernel
theorem d11_86 : decode method_2_code 86 = .ok (.istore_n 2, 1) := by decide +kernel
theorem d11_87 : decode method_2_code 87 = .ok (.goto 18, 3) := by decide +kernel
theorem d11_90 : decode method_2_code 90 = .ok (.iload_n 0, 1) := by decide +kernel
theorem d11_91 : decode method_2_code 91 = .ok (.ldc 8, 2) := by decide +kernel
theorem d11_93 : decode method_2_code 93 = .ok (.if_icmp .ge 9, 3) := by decide +kernel
theorem d11_96 : decode method_2_code 96 = .ok (.bipush 16, 2) := by decide +kernel
theorem d11_98 : decode method_2_code 98 = .ok (.istore_n 2, 1) := by decide +kernel
theorem d11_99 : decode method_2_code 99 = .ok (.goto 6, 3) := by decide +kernel
theorem d11_102 : decode method_2_code 102 = .ok (.bipush 17, 2) := by decide +kernel
theorem d11_104 : decode method_2_code 104 = .ok (.istore_n 2, 1) := by decide +kernel
theorem d11_105 : decode method_2_code 105 = .ok (.iload_n 1, 1) := by decide +kernel
theorem d11_106 : decode method_2_code 106 = .ok (.bipush 9, 2) := by decide +kernel
theorem d11_108 : decode method_2_code 108 = .ok (.if_icmp .ne 7, 3) := by decide +kernel
theorem d11_111 : decode method_2_code 111 = .ok (.iload_n 2, 1) := by decide +kernel
theorem d11_112 : decode method_2_code 112 = .ok (.goto 8, 3) := by decide +kernel
theorem d11_115 : decode method_2_code 115 = .ok (.iload_n 2, 1) := by decide +kernel
theorem d11_116 : decode method_2_code 116 = .ok (.iload_n 1, 1) := by decide +kernel
theorem d11_117 : decode method_2_code 117 = .ok (.invokestatic 9, 3) := by decide +kernel
theorem d11_120 : decode method_2_code 120 = .ok (.ireturn, 1) := by decide +kernel
theorem pn_261 : plainName "phrasebook/LayoutRestartPinLaw" = true := by first | (simp [plainName, overriddenIn]; done) | decide +kernel
def v11_93_l2 (p0 : Int32) : Int32 := if p0 < (65536 : Int32) then (16 : Int32) else (17 : Int32)
def v11_81_l2 (p0 : Int32) : Int32 := if p0 < (32768 : Int32) then (15 : Int32) else (v11_93_l2 p0)
def v11_69_l2 (p0 : Int32) : Int32 := if p0 < (16384 : Int32) then (14 : Int32) else (v11_81_l2 p0)
def v11_56_l2 (p0 : Int32) : Int32 := if p0 < (8192 : Int32) then (13 : Int32) else (v11_69_l2 p0)
def v11_43_l2 (p0 : Int32) : Int32 := if p0 < (4096 : Int32) then (12 : Int32) else (v11_56_l2 p0)
def v11_30_l2 (p0 : Int32) : Int32 := if p0 < (2048 : Int32) then (11 : Int32) else (v11_43_l2 p0)
def v11_17_l2 (p0 : Int32) : Int32 := if p0 < (1024 : Int32) then (10 : Int32) else (v11_30_l2 p0)
def v11_4_l2 (p0 : Int32) : Int32 := if p0 < (512 : Int32) then (9 : Int32) else (v11_17_l2 p0)
def v11_ret (p0 : Int32) (p1 : Int32) : Int32 := (if p1 = (9 : Int32) then (v11_4_l2 p0) else (v13_2_s0 (v11_4_l2 p0) p1))
theorem ef_rm11 (m : MethodId) (p0 : Int32) (p1 : Int32) : entryFrame m #[(.int p0), (.int p1)] 3 = mkF m 0 #[.val (.int p0), .val (.int p1), .unset] [] := by first | (simp [entryFrame, mkF, argsToLocals, Value.category]; done) | rfl
def Q11 (Z : State) (p0 : Int32) (p1 : Int32) (h0 : Heap) (n0 : Nat) (v : Option Value) (h : Heap) (L : List Loc) : Prop := v = some (.int (v11_ret p0 p1)) ∧ Fr n0 L ∧ h = h0
set_option maxRecDepth 65536 in
set_option maxHeartbeats 40000000 in
theorem rm11 (l : Launch) (Z : State) (a0 : Array Value) (hw : ∀ d ∈ tables_1, d.before a0 Z = true) (ws : List Jvm.Cond) (p0 : Int32) (p1 : Int32) (h0 : Heap) (n0 : Nat) (Z0 : n0 ≤ h0.size) :
    MetFree l (⟨"phrasebook/LayoutRestartPinLaw", "widthOf", "(II)I"⟩ : MethodName) (head1 (Jvm.Cond.code (⟨"phrasebook/LayoutRestartPinLaw", "widthOf", "(II)I"⟩ : MethodName) method_2_code 3 (some .int) :: ws) ({ frames := 1, cells := 0, slots := 0, locals := 13 } : Room)) (fun a U => a = #[(.int p0), (.int p1)] ∧ Z.Warmed39 U.vm ∧ U.heap = h0) (fun _ _ _ _ _ => True) (fun _ U o U' => ∃ v L, o = .returned v ∧ Q11 Z p0 p1 h0 n0 v U'.heap L ∧ FrameEnd U o U' L ({ frames := 1, cells := 0, slots := 0, locals := 13 } : Room).cells ({ frames := 1, cells := 0, slots := 0, locals := 13 } : Room).slots) := by
  refine MetFree.of_bodySF (plainFor_of_name pn_261) hisR ?_
  intro p e s m args below meth c s₁ Bd hml0 hP hK
  obtain ⟨rfl, hZ, hh⟩ := hP
  have hx := Bd.exec
  have hby := Bd.bytes
  have hml : c.maxLocals = 3 := hml0
  have hown : s.vm.findClass "phrasebook/LayoutRestartPinLaw" = some m.cls := findClass_of_methodNamed Bd.named
  have hnm := (name_of_methodNamed Bd.named Bd.method).1
  have X0 : Stand p l e ({ frames := 1, cells := 0, slots := 0, locals := 13 } : Room) s m #[(.int p0), (.int p1)] below meth c s₁ [] 0 0 := Stand.of_body Bd
  have e0 : s₁.heap = h0 := by rw [← hh, Bd.state]; rfl
  have N0 := Fr.nil n0
  have KC0 := Keep.refl h0 ([] : List Addr)
  have pre0 : ∀ t, Steps p.tables e below (s₁.setTop (mkF m 0 #[.val (.int p0), .val (.int p1), .unset] [])) t → Steps p.tables e below (s₁.setTop (entryFrame m #[(.int p0), (.int p1)] 3)) t := fun t k => castTop (ef_rm11 m p0 p1) k
  have k177 := fun (t : State) (kk : Steps p.tables e below (s₁.setTop (mkF m 108 #[.val (.int p0), .val (.int p1), .val (.int (v11_4_l2 p0))] [(.int (9 : Int32)), (.int p1)])) t) => pre0 t (by
    show Steps p.tables e below (s₁.setTop (mkF m 0 #[.val (.int p0), .val (.int p1), .unset] [])) _
    refine XS.iloadN X0.here hx rfl (hb hby d11_0) rfl ?_
    show Steps p.tables e below (s₁.setTop (mkF m 1 #[.val (.int p0), .val (.int p1), .unset] [(.int p0)])) _
    refine XS.sipush X0.here hx rfl (hb hby d11_1) ?_
    suffices k176 : Steps p.tables e below (s₁.setTop (mkF m 105 #[.val (.int p0), .val (.int p1), .val (.int (v11_4_l2 p0))] [])) t by
      by_cases hc4_161 : p0 < (512 : Int32)
      · rw [(show (v11_4_l2 p0) = (9 : Int32) from if_pos hc4_161)] at k176
        show Steps p.tables e below (s₁.setTop (mkF m 4 #[.val (.int p0), .val (.int p1), .unset] [(.int (512 : Int32)), (.int p0)])) _
        refine XS.icmpNo X0.here hx rfl (hb hby d11_4) rfl (tlt hc4_161).2.1 ?_
        show Steps p.tables e below (s₁.setTop (mkF m 7 #[.val (.int p0), .val (.int p1), .unset] [])) _
        refine XS.bipush X0.here hx rfl (hb hby d11_7) ?_
        show Steps p.tables e below (s₁.setTop (mkF m 9 #[.val (.int p0), .val (.int p1), .unset] [(.int (9 : Int32))])) _
        refine XS.istoreN X0.here hx rfl (hb hby d11_9) rfl (l' := #[.val (.int p0), .val (.int p1), .val (.int (9 : Int32))]) rfl ?_
        show Steps p.tables e below (s₁.setTop (mkF m 10 #[.val (.int p0), .val (.int p1), .val (.int (9 : Int32))] [])) _
        refine XS.goto X0.here hx rfl (pc0 := 10) (pc' := 105) rfl (hb hby d11_10) (by decide) (by decide) ?_
        exact k176
      · rw [(show (v11_4_l2 p0) = (v11_17_l2 p0) from if_neg hc4_161)] at k176
        show Steps p.tables e below (s₁.setTop (mkF m 4 #[.val (.int p0), .val (.int p1), .unset] [(.int (512 : Int32)), (.int p0)])) _
        refine XS.icmpYes X0.here hx rfl (pc0 := 4) (pc' := 13) rfl (hb hby d11_4) rfl (flt hc4_161).2.1 (by decide) (by decide) ?_
        show Steps p.tables e below (s₁.setTop (mkF m 13 #[.val (.int p0), .val (.int p1), .unset] [])) _
        refine XS.iloadN X0.here hx rfl (hb hby d11_13) rfl ?_
        show Steps p.tables e below (s₁.setTop (mkF m 14 #[.val (.int p0), .val (.int p1), .unset] [(.int p0)])) _
        refine XS.sipush X0.here hx rfl (hb hby d11_14) ?_
        suffices k175 : Steps p.tables e below (s₁.setTop (mkF m 105 #[.val (.int p0), .val (.int p1), .val (.int (v11_17_l2 p0))] [])) t by
          by_cases hc17_162 : p0 < (1024 : Int32)
          · rw [(show (v11_17_l2 p0) = (10 : Int32) from if_pos hc17_162)] at k175
            show Steps p.tables e below (s₁.setTop (mkF m 17 #[.val (.int p0), .val (.int p1), .unset] [(.int (1024 : Int32)), (.int p0)])) _
            refine XS.icmpNo X0.here hx rfl (hb hby d11_17) rfl (tlt hc17_162).2.1 ?_
            show Steps p.tables e below (s₁.setTop (mkF m 20 #[.val (.int p0), .val (.int p1), .unset] [])) _
            refine XS.bipush X0.here hx rfl (hb hby d11_20) ?_
            show Steps p.tables e below (s₁.setTop (mkF m 22 #[.val (.int p0), .val (.int p1), .unset] [(.int (10 : Int32))])) _
            refine XS.istoreN X0.here hx rfl (hb hby d11_22) rfl (l' := #[.val (.int p0), .val (.int p1), .val (.int (10 : Int32))]) rfl ?_
            show Steps p.tables e below (s₁.setTop (mkF m 23 #[.val (.int p0), .val (.int p1), .val (.int (10 : Int32))] [])) _
            refine XS.goto X0.here hx rfl (pc0 := 23) (pc' := 105) rfl (hb hby d11_23) (by decide) (by decide) ?_
            exact k175
          · rw [(show (v11_17_l2 p0) = (v11_30_l2 p0) from if_neg hc17_162)] at k175
            show Steps p.tables e below (s₁.setTop (mkF m 17 #[.val (.int p0), .val (.int p1), .unset] [(.int (1024 : Int32)), (.int p0)])) _
            refine XS.icmpYes X0.here hx rfl (pc0 := 17) (pc' := 26) rfl (hb hby d11_17) rfl (flt hc17_162).2.1 (by decide) (by decide) ?_
            show Steps p.tables e below (s₁.setTop (mkF m 26 #[.val (.int p0), .val (.int p1), .unset] [])) _
            refine XS.iloadN X0.here hx rfl (hb hby d11_26) rfl ?_
            show Steps p.tables e below (s₁.setTop (mkF m 27 #[.val (.int p0), .val (.int p1), .unset] [(.int p0)])) _
            refine XS.sipush X0.here hx rfl (hb hby d11_27) ?_
            suffices k174 : Steps p.tables e below (s₁.setTop (mkF m 105 #[.val (.int p0), .val (.int p1), .val (.int (v11_30_l2 p0))] [])) t by
              by_cases hc30_163 : p0 < (2048 : Int32)
              · rw [(show (v11_30_l2 p0) = (11 : Int32) from if_pos hc30_163)] at k174
                show Steps p.tables e below (s₁.setTop (mkF m 30 #[.val (.int p0), .val (.int p1), .unset] [(.int (2048 : Int32)), (.int p0)])) _
                refine XS.icmpNo X0.here hx rfl (hb hby d11_30) rfl (tlt hc30_163).2.1 ?_
                show Steps p.tables e below (s₁.setTop (mkF m 33 #[.val (.int p0), .val (.int p1), .unset] [])) _
                refine XS.bipush X0.here hx rfl (hb hby d11_33) ?_
                show Steps p.tables e below (s₁.setTop (mkF m 35 #[.val (.int p0), .val (.int p1), .unset] [(.int (11 : Int32))])) _
                refine XS.istoreN X0.here hx rfl (hb hby d11_35) rfl (l' := #[.val (.int p0), .val (.int p1), .val (.int (11 : Int32))]) rfl ?_
                show Steps p.tables e below (s₁.setTop (mkF m 36 #[.val (.int p0), .val (.int p1), .val (.int (11 : Int32))] [])) _
                refine XS.goto X0.here hx rfl (pc0 := 36) (pc' := 105) rfl (hb hby d11_36) (by decide) (by decide) ?_
                exact k174
              · rw [(show (v11_30_l2 p0) = (v11_43_l2 p0) from if_neg hc30_163)] at k174
                show Steps p.tables e below (s₁.setTop (mkF m 30 #[.val (.int p0), .val (.int p1), .unset] [(.int (2048 : Int32)), (.int p0)])) _
                refine XS.icmpYes X0.here hx rfl (pc0 := 30) (pc' := 39) rfl (hb hby d11_30) rfl (flt hc30_163).2.1 (by decide) (by decide) ?_
                show Steps p.tables e below (s₁.setTop (mkF m 39 #[.val (.int p0), .val (.int p1), .unset] [])) _
                refine XS.iloadN X0.here hx rfl (hb hby d11_39) rfl ?_
                show Steps p.tables e below (s₁.setTop (mkF m 40 #[.val (.int p0), .val (.int p1), .unset] [(.int p0)])) _
                refine XS.sipush X0.here hx rfl (hb hby d11_40) ?_
                suffices k173 : Steps p.tables e below (s₁.setTop (mkF m 105 #[.val (.int p0), .val (.int p1), .val (.int (v11_43_l2 p0))] [])) t by
                  by_cases hc43_164 : p0 < (4096 : Int32)
                  · rw [(show (v11_43_l2 p0) = (12 : Int32) from if_pos hc43_164)] at k173
                    show Steps p.tables e below (s₁.setTop (mkF m 43 #[.val (.int p0), .val (.int p1), .unset] [(.int (4096 : Int32)), (.int p0)])) _
                    refine XS.icmpNo X0.here hx rfl (hb hby d11_43) rfl (tlt hc43_164).2.1 ?_
                    show Steps p.tables e below (s₁.setTop (mkF m 46 #[.val (.int p0), .val (.int p1), .unset] [])) _
                    refine XS.bipush X0.here hx rfl (hb hby d11_46) ?_
                    show Steps p.tables e below (s₁.setTop (mkF m 48 #[.val (.int p0), .val (.int p1), .unset] [(.int (12 : Int32))])) _
                    refine XS.istoreN X0.here hx rfl (hb hby d11_48) rfl (l' := #[.val (.int p0), .val (.int p1), .val (.int (12 : Int32))]) rfl ?_
                    show Steps p.tables e below (s₁.setTop (mkF m 49 #[.val (.int p0), .val (.int p1), .val (.int (12 : Int32))] [])) _
                    refine XS.goto X0.here hx rfl (pc0 := 49) (pc' := 105) rfl (hb hby d11_49) (by decide) (by decide) ?_
                    exact k173
                  · rw [(show (v11_43_l2 p0) = (v11_56_l2 p0) from if_neg hc43_164)] at k173
                    show Steps p.tables e below (s₁.setTop (mkF m 43 #[.val (.int p0), .val (.int p1), .unset] [(.int (4096 : Int32)), (.int p0)])) _
                    refine XS.icmpYes X0.here hx rfl (pc0 := 43) (pc' := 52) rfl (hb hby d11_43) rfl (flt hc43_164).2.1 (by decide) (by decide) ?_
                    show Steps p.tables e below (s₁.setTop (mkF m 52 #[.val (.int p0), .val (.int p1), .unset] [])) _
                    refine XS.iloadN X0.here hx rfl (hb hby d11_52) rfl ?_
                    show Steps p.tables e below (s₁.setTop (mkF m 53 #[.val (.int p0), .val (.int p1), .unset] [(.int p0)])) _
                    refine XS.sipush X0.here hx rfl (hb hby d11_53) ?_
                    suffices k172 : Steps p.tables e below (s₁.setTop (mkF m 105 #[.val (.int p0), .val (.int p1), .val (.int (v11_56_l2 p0))] [])) t by
                      by_cases hc56_165 : p0 < (8192 : Int32)
                      · rw [(show (v11_56_l2 p0) = (13 : Int32) from if_pos hc56_165)] at k172
                        show Steps p.tables e below (s₁.setTop (mkF m 56 #[.val (.int p0), .val (.int p1), .unset] [(.int (8192 : Int32)), (.int p0)])) _
                        refine XS.icmpNo X0.here hx rfl (hb hby d11_56) rfl (tlt hc56_165).2.1 ?_
                        show Steps p.tables e below (s₁.setTop (mkF m 59 #[.val (.int p0), .val (.int p1), .unset] [])) _
                        refine XS.bipush X0.here hx rfl (hb hby d11_59) ?_
                        show Steps p.tables e below (s₁.setTop (mkF m 61 #[.val (.int p0), .val (.int p1), .unset] [(.int (13 : Int32))])) _
                        refine XS.istoreN X0.here hx rfl (hb hby d11_61) rfl (l' := #[.val (.int p0), .val (.int p1), .val (.int (13 : Int32))]) rfl ?_
                        show Steps p.tables e below (s₁.setTop (mkF m 62 #[.val (.int p0), .val (.int p1), .val (.int (13 : Int32))] [])) _
                        refine XS.goto X0.here hx rfl (pc0 := 62) (pc' := 105) rfl (hb hby d11_62) (by decide) (by decide) ?_
                        exact k172
                      · rw [(show (v11_56_l2 p0) = (v11_69_l2 p0) from if_neg hc56_165)] at k172
                        show Steps p.tables e below (s₁.setTop (mkF m 56 #[.val (.int p0), .val (.int p1), .unset] [(.int (8192 : Int32)), (.int p0)])) _
                        refine XS.icmpYes X0.here hx rfl (pc0 := 56) (pc' := 65) rfl (hb hby d11_56) rfl (flt hc56_165).2.1 (by decide) (by decide) ?_
                        show Steps p.tables e below (s₁.setTop (mkF m 65 #[.val (.int p0), .val (.int p1), .unset] [])) _
                        refine XS.iloadN X0.here hx rfl (hb hby d11_65) rfl ?_
                        show Steps p.tables e below (s₁.setTop (mkF m 66 #[.val (.int p0), .val (.int p1), .unset] [(.int p0)])) _
                        refine XS.sipush X0.here hx rfl (hb hby d11_66) ?_
                        suffices k171 : Steps p.tables e below (s₁.setTop (mkF m 105 #[.val (.int p0), .val (.int p1), .val (.int (v11_69_l2 p0))] [])) t by
                          by_cases hc69_166 : p0 < (16384 : Int32)
                          · rw [(show (v11_69_l2 p0) = (14 : Int32) from if_pos hc69_166)] at k171
                            show Steps p.tables e below (s₁.setTop (mkF m 69 #[.val (.int p0), .val (.int p1), .unset] [(.int (16384 : Int32)), (.int p0)])) _
                            refine XS.icmpNo X0.here hx rfl (hb hby d11_69) rfl (tlt hc69_166).2.1 ?_
                            show Steps p.tables e below (s₁.setTop (mkF m 72 #[.val (.int p0), .val (.int p1), .unset] [])) _
                            refine XS.bipush X0.here hx rfl (hb hby d11_72) ?_
                            show Steps p.tables e below (s₁.setTop (mkF m 74 #[.val (.int p0), .val (.int p1), .unset] [(.int (14 : Int32))])) _
                            refine XS.istoreN X0.here hx rfl (hb hby d11_74) rfl (l' := #[.val (.int p0), .val (.int p1), .val (.int (14 : Int32))]) rfl ?_
                            show Steps p.tables e below (s₁.setTop (mkF m 75 #[.val (.int p0), .val (.int p1), .val (.int (14 : Int32))] [])) _
                            refine XS.goto X0.here hx rfl (pc0 := 75) (pc' := 105) rfl (hb hby d11_75) (by decide) (by decide) ?_
                            exact k171
                          · rw [(show (v11_69_l2 p0) = (v11_81_l2 p0) from if_neg hc69_166)] at k171
                            show Steps p.tables e below (s₁.setTop (mkF m 69 #[.val (.int p0), .val (.int p1), .unset] [(.int (16384 : Int32)), (.int p0)])) _
                            refine XS.icmpYes X0.here hx rfl (pc0 := 69) (pc' := 78) rfl (hb hby d11_69) rfl (flt hc69_166).2.1 (by decide) (by decide) ?_
                            show Steps p.tables e below (s₁.setTop (mkF m 78 #[.val (.int p0), .val (.int p1), .unset] [])) _
                            refine XS.iloadN X0.here hx rfl (hb hby d11_78) rfl ?_
                            show Steps p.tables e below (s₁.setTop (mkF m 79 #[.val (.int p0), .val (.int p1), .unset] [(.int p0)])) _
                            refine X0.ldcInt hx hown (mvT hZ (hw _ (List.mem_of_getElem? (i := 71) rfl))) (g := (mkF m 79 #[.val (.int p0), .val (.int p1), .unset] [(.int p0)])) rfl (hb hby d11_79) _ ?_
                            suffices k170 : Steps p.tables e below (s₁.setTop (mkF m 105 #[.val (.int p0), .val (.int p1), .val (.int (v11_81_l2 p0))] [])) t by
                              by_cases hc81_167 : p0 < (32768 : Int32)
                              · rw [(show (v11_81_l2 p0) = (15 : Int32) from if_pos hc81_167)] at k170
                                show Steps p.tables e below (s₁.setTop (mkF m 81 #[.val (.int p0), .val (.int p1), .unset] [(.int (32768 : Int32)), (.int p0)])) _
                                refine XS.icmpNo X0.here hx rfl (hb hby d11_81) rfl (tlt hc81_167).2.1 ?_
                                show Steps p.tables e below (s₁.setTop (mkF m 84 #[.val (.int p0), .val (.int p1), .unset] [])) _
                                refine XS.bipush X0.here hx rfl (hb hby d11_84) ?_
                                show Steps p.tables e below (s₁.setTop (mkF m 86 #[.val (.int p0), .val (.int p1), .unset] [(.int (15 : Int32))])) _
                                refine XS.istoreN X0.here hx rfl (hb hby d11_86) rfl (l' := #[.val (.int p0), .val (.int p1), .val (.int (15 : Int32))]) rfl ?_
                                show Steps p.tables e below (s₁.setTop (mkF m 87 #[.val (.int p0), .val (.int p1), .val (.int (15 : Int32))] [])) _
                                refine XS.goto X0.here hx rfl (pc0 := 87) (pc' := 105) rfl (hb hby d11_87) (by decide) (by decide) ?_
                                exact k170
                              · rw [(show (v11_81_l2 p0) = (v11_93_l2 p0) from if_neg hc81_167)] at k170
                                show Steps p.tables e below (s₁.setTop (mkF m 81 #[.val (.int p0), .val (.int p1), .unset] [(.int (32768 : Int32)), (.int p0)])) _
                                refine XS.icmpYes X0.here hx rfl (pc0 := 81) (pc' := 90) rfl (hb hby d11_81) rfl (flt hc81_167).2.1 (by decide) (by decide) ?_
                                show Steps p.tables e below (s₁.setTop (mkF m 90 #[.val (.int p0), .val (.int p1), .unset] [])) _
                                refine XS.iloadN X0.here hx rfl (hb hby d11_90) rfl ?_
                                show Steps p.tables e below (s₁.setTop (mkF m 91 #[.val (.int p0), .val (.int p1), .unset] [(.int p0)])) _
                                refine X0.ldcInt hx hown (mvT hZ (hw _ (List.mem_of_getElem? (i := 72) rfl))) (g := (mkF m 91 #[.val (.int p0), .val (.int p1), .unset] [(.int p0)])) rfl (hb hby d11_91) _ ?_
                                suffices k169 : Steps p.tables e below (s₁.setTop (mkF m 105 #[.val (.int p0), .val (.int p1), .val (.int (v11_93_l2 p0))] [])) t by
                                  by_cases hc93_168 : p0 < (65536 : Int32)
                                  · rw [(show (v11_93_l2 p0) = (16 : Int32) from if_pos hc93_168)] at k169
                                    show Steps p.tables e below (s₁.setTop (mkF m 93 #[.val (.int p0), .val (.int p1), .unset] [(.int (65536 : Int32)), (.int p0)])) _
                                    refine XS.icmpNo X0.here hx rfl (hb hby d11_93) rfl (tlt hc93_168).2.1 ?_
                                    show Steps p.tables e below (s₁.setTop (mkF m 96 #[.val (.int p0), .val (.int p1), .unset] [])) _
                                    refine XS.bipush X0.here hx rfl (hb hby d11_96) ?_
                                    show Steps p.tables e below (s₁.setTop (mkF m 98 #[.val (.int p0), .val (.int p1), .unset] [(.int (16 : Int32))])) _
                                    refine XS.istoreN X0.here hx rfl (hb hby d11_98) rfl (l' := #[.val (.int p0), .val (.int p1), .val (.int (16 : Int32))]) rfl ?_
                                    show Steps p.tables e below (s₁.setTop (mkF m 99 #[.val (.int p0), .val (.int p1), .val (.int (16 : Int32))] [])) _
                                    refine XS.goto X0.here hx rfl (pc0 := 99) (pc' := 105) rfl (hb hby d11_99) (by decide) (by decide) ?_
                                    exact k169
                                  · rw [(show (v11_93_l2 p0) = (17 : Int32) from if_neg hc93_168)] at k169
                                    show Steps p.tables e below (s₁.setTop (mkF m 93 #[.val (.int p0), .val (.int p1), .unset] [(.int (65536 : Int32)), (.int p0)])) _
                                    refine XS.icmpYes X0.here hx rfl (pc0 := 93) (pc' := 102) rfl (hb hby d11_93) rfl (flt hc93_168).2.1 (by decide) (by decide) ?_
                                    show Steps p.tables e below (s₁.setTop (mkF m 102 #[.val (.int p0), .val (.int p1), .unset] [])) _
                                    refine XS.bipush X0.here hx rfl (hb hby d11_102) ?_
                                    show Steps p.tables e below (s₁.setTop (mkF m 104 #[.val (.int p0), .val (.int p1), .unset] [(.int (17 : Int32))])) _
                                    refine XS.istoreN X0.here hx rfl (hb hby d11_104) rfl (l' := #[.val (.int p0), .val (.int p1), .val (.int (17 : Int32))]) rfl ?_
                                    exact k169
                                exact k170
                            exact k171
                        exact k172
                    exact k173
                exact k174
            exact k175
        exact k176
    show Steps p.tables e below (s₁.setTop (mkF m 105 #[.val (.int p0), .val (.int p1), .val (.int (v11_4_l2 p0))] [])) _
    refine XS.iloadN X0.here hx rfl (hb hby d11_105) rfl ?_
    show Steps p.tables e below (s₁.setTop (mkF m 106 #[.val (.int p0), .val (.int p1), .val (.int (v11_4_l2 p0))] [(.int p1)])) _
    refine XS.bipush X0.here hx rfl (hb hby d11_106) ?_
    exact kk)
  by_cases hc108_178 : p1 = (9 : Int32)
  · have k179 := fun (t : State) (kk : Steps p.tables e below (s₁.setTop (mkF m 120 #[.val (.int p0), .val (.int p1), .val (.int (v11_4_l2 p0))] [(.int (v11_4_l2 p0))])) t) => k177 t (by
      show Steps p.tables e below (s₁.setTop (mkF m 108 #[.val (.int p0), .val (.int p1), .val (.int (v11_4_l2 p0))] [(.int (9 : Int32)), (.int p1)])) _
      refine XS.icmpNo X0.here hx rfl (hb hby d11_108) rfl (teq hc108_178).2 ?_
      show Steps p.tables e below (s₁.setTop (mkF m 111 #[.val (.int p0), .val (.int p1), .val (.int (v11_4_l2 p0))] [])) _
      refine XS.iloadN X0.here hx rfl (hb hby d11_111) rfl ?_
      show Steps p.tables e below (s₁.setTop (mkF m 112 #[.val (.int p0), .val (.int p1), .val (.int (v11_4_l2 p0))] [(.int (v11_4_l2 p0))])) _
      refine XS.goto X0.here hx rfl (pc0 := 112) (pc' := 120) rfl (hb hby d11_112) (by decide) (by decide) ?_
      exact kk)
    obtain ⟨fs, hr, hrun, hended, hW, hsame⟩ := X0.leave (v := some (.int (v11_4_l2 p0))) (fun h => by rw [Bd.returns] at h; cases h)
    have hv : (v11_ret p0 p1) = (v11_4_l2 p0) := (if_pos hc108_178)
    refine ⟨_, _, k179 _ ?_, hrun, hended, _, _, rfl, ?_, ⟨_, rfl⟩, hW, hsame.mono (by decide) (by decide)⟩
    · show Steps p.tables e below (s₁.setTop (mkF m 120 #[.val (.int p0), .val (.int p1), .val (.int (v11_4_l2 p0))] [(.int (v11_4_l2 p0))])) _
      exact retI X0 hx Bd.returns (hb hby d11_120) hr
    · show Q11 Z p0 p1 h0 n0 _ s₁.heap _
      rw [e0]
      exact ⟨(congrArg (fun z => some (Value.int z)) hv).symm, N0, rfl⟩
  · have k180 := fun (t : State) (kk : Steps p.tables e below (s₁.setTop (mkF m 117 #[.val (.int p0), .val (.int p1), .val (.int (v11_4_l2 p0))] [(.int p1), (.int (v11_4_l2 p0))])) t) => k177 t (by
      show Steps p.tables e below (s₁.setTop (mkF m 108 #[.val (.int p0), .val (.int p1), .val (.int (v11_4_l2 p0))] [(.int (9 : Int32)), (.int p1)])) _
      refine XS.icmpYes X0.here hx rfl (pc0 := 108) (pc' := 115) rfl (hb hby d11_108) rfl (feq hc108_178).2 (by decide) (by decide) ?_
      show Steps p.tables e below (s₁.setTop (mkF m 115 #[.val (.int p0), .val (.int p1), .val (.int (v11_4_l2 p0))] [])) _
      refine XS.iloadN X0.here hx rfl (hb hby d11_115) rfl ?_
      show Steps p.tables e below (s₁.setTop (mkF m 116 #[.val (.int p0), .val (.int p1), .val (.int (v11_4_l2 p0))] [(.int (v11_4_l2 p0))])) _
      refine XS.iloadN X0.here hx rfl (hb hby d11_116) rfl ?_
      exact kk)
    have Zz181 : n0 ≤ h0.size := (Nat.le_trans Z0 KC0.1)
    obtain ⟨_, _, ⟨T181, L181, k181, n181⟩, -, X181, ⟨Lc181, hQ181, l181, y181, z181⟩, st181⟩ := Jvm.LawKit.callS X0 hx (y := (⟨"java/lang/Math", "min", "(II)I"⟩ : MethodName)) hown (mvT hZ (hw _ (List.mem_of_getElem? (i := 70) rfl))) (mvT hZ (hw _ (List.mem_of_getElem? (i := 67) rfl))) (mvT hZ (hw _ (List.mem_of_getElem? (i := 68) rfl))) (mvT hZ (hw _ (List.mem_of_getElem? (i := 69) rfl))) (by decide) (backOf (W := 0) (rm13 l Z a0 hw [] (v11_4_l2 p0) p1 h0 n0 Zz181) hZ (hw _ (List.mem_of_getElem? (i := 69) rfl)) (hw _ (List.mem_of_getElem? (i := 68) rfl)) (by decide) (by decide)) (g := (mkF m 117 #[.val (.int p0), .val (.int p1), .val (.int (v11_4_l2 p0))] [(.int p1), (.int (v11_4_l2 p0))])) rfl (by rw [hml]; rfl) (argsL := [(.int (v11_4_l2 p0)), (.int p1)]) (rest := []) (lenOf pd_2 rfl) rfl (by show 2 * 0 + _ ≤ _; exact Nat.le_of_eq rfl) (hb hby d11_117) (fun _ _ => ⟨rfl, e0, (by decide : 0 + 0 ≤ _), (by decide : 0 + 0 ≤ _)⟩)
    dsimp only [Pt.U, Pt.locs, Pt.cells, Pt.slots] at X181 l181 y181 z181 st181 hQ181
    subst l181 y181 z181
    obtain ⟨rfl, N181q, e181⟩ := hQ181
    have N181 := Fr.app N0 N181q
    have k182 := fun (t : State) (kk : Steps p.tables e below (T181.setTop (mkF m 120 #[.val (.int p0), .val (.int p1), .val (.int (v11_4_l2 p0))] [(.int (v13_2_s0 (v11_4_l2 p0) p1))])) t) => k180 t (st181 _ kk)
    obtain ⟨fs, hr, hrun, hended, hW, hsame⟩ := X181.leave (v := some (.int (v13_2_s0 (v11_4_l2 p0) p1))) (fun h => by rw [Bd.returns] at h; cases h)
    have hv : (v11_ret p0 p1) = (v13_2_s0 (v11_4_l2 p0) p1) := (if_neg hc108_178)
    refine ⟨_, _, k182 _ ?_, hrun, hended, _, _, rfl, ?_, ⟨_, rfl⟩, hW, hsame.mono (by decide) (by decide)⟩
    · show Steps p.tables e below (T181.setTop (mkF m 120 #[.val (.int p0), .val (.int p1), .val (.int (v11_4_l2 p0))] [(.int (v13_2_s0 (v11_4_l2 p0) p1))])) _
      exact retI X181 hx Bd.returns (hb hby d11_120) hr
    · show Q11 Z p0 p1 h0 n0 _ T181.heap _
      rw [e181]
      exact ⟨(congrArg (fun z => some (Value.int z)) hv).symm, N181, rfl⟩
theorem d12_0 : decode prog_49_method_4_code 0 = .ok (.aload_n 0, 1) := by decide +kernel
theorem d12_1 : decode prog_49_method_4_code 1 = .ok (.iload_n 1, 1) := by decide +kernel
theorem d12_2 : decode prog_49_method_4_code 2 = .ok (.invokevirtual 28, 3) := by decide +kernel
theorem d12_5 : decode prog_49_method_4_code 5 = .ok (.istore_n 2, 1) := by decide +kernel
theorem d12_6 : decode prog_49_method_4_code 6 = .ok (.aload_n 0, 1) := by decide +kernel
theorem d12_7 : decode prog_49_method_4_code 7 = .ok (.iload_n 2, 1) := by decide +kernel
theorem d12_8 : decode prog_49_method_4_code 8 = .ok (.invokevirtual 32, 3) := by decide +kernel
theorem d12_11 : decode prog_49_method_4_code 11 = .ok (.ifCond .eq 10, 3) := by decide +kernel
theorem d12_14 : decode prog_49_method_4_code 14 = .ok (.aload_n 0, 1) := by decide +kernel
theorem d12_15 : decode prog_49_method_4_code 15 = .ok (.invokevirtual 36, 3) := by decide +kernel
theorem d12_18 : decode prog_49_method_4_code 18 = .ok (.goto 4, 3) := by decide +kernel
theorem d12_21 : decode prog_49_method_4_code 21 = .ok (.iconst 0, 1) := by decide +kernel
theorem d12_22 : decode prog_49_method_4_code 22 = .ok (.iload_n 2, 1) := by decide +kernel
theorem d12_23 : decode prog_49_method_4_code 23 = .ok (.iadd, 1) := by decide +kernel
theorem d12_24 : decode prog_49_method_4_code 24 = .ok (.ireturn, 1) := by decide +kernel
def v12_ret (p1 : Int32) (w_maxBits_ra0 : Int32) (w_width_ra0 : Int32) (w_groupEnded_ra0 : Int32) (w_codesInGroup_ra0 : Int32) : Int32 := (if (v7_ret (v5_ret p1 w_maxBits_ra0) w_width_ra0 w_groupEnded_ra0) = (0 : Int32) then ((0 : Int32) + (v5_ret p1 w_maxBits_ra0)) else ((v14_ret w_codesInGroup_ra0 w_width_ra0) + (v5_ret p1 w_maxBits_ra0)))
theorem ef_rm12 (m : MethodId) (ra0 : Addr) (p1 : Int32) : entryFrame m #[(.ref ra0), (.int p1)] 3 = mkF m 0 #[.val (.ref ra0), .val (.int p1), .unset] [] := by first | (simp [entryFrame, mkF, argsToLocals, Value.category]; done) | rfl
def Q12 (Z : State) (ra0 : Addr) (p1 : Int32) (w_maxBits_ra0 : Int32) (w_width_ra0 : Int32) (w_groupEnded_ra0 : Int32) (w_codesInGroup_ra0 : Int32) (h0 : Heap) (n0 : Nat) (v : Option Value) (h : Heap) (L : List Loc) : Prop := v = some (.int (v12_ret p1 w_maxBits_ra0 w_width_ra0 w_groupEnded_ra0 w_codesInGroup_ra0)) ∧ Fr n0 L ∧ h = h0
set_option maxRecDepth 65536 in
set_option maxHeartbeats 40000000 in
theorem rm12 (l : Launch) (Z : State) (a0 : Array Value) (hw : ∀ d ∈ tables_1, d.before a0 Z = true) (ws : List Jvm.Cond) (ra0 : Addr) (p1 : Int32) (w_maxBits_ra0 : Int32) (w_width_ra0 : Int32) (w_groupEnded_ra0 : Int32) (w_codesInGroup_ra0 : Int32) (h0 : Heap) (n0 : Nat) (Z0 : n0 ≤ h0.size) (F_maxBits_ra0 : Fld Z h0 ra0 "phrasebook/ZFormat$Layout" "maxBits" "I" (.int w_maxBits_ra0)) (E_ra0 : Exa Z h0 ra0 "phrasebook/ZFormat$Layout") (F_width_ra0 : Fld Z h0 ra0 "phrasebook/ZFormat$Layout" "width" "I" (.int w_width_ra0)) (F_groupEnded_ra0 : Fld Z h0 ra0 "phrasebook/ZFormat$Layout" "groupEnded" "Z" (.int w_groupEnded_ra0)) (F_codesInGroup_ra0 : Fld Z h0 ra0 "phrasebook/ZFormat$Layout" "codesInGroup" "I" (.int w_codesInGroup_ra0)) :
    MetFree l (⟨"phrasebook/ZFormat$Layout", "bitsFor", "(I)I"⟩ : MethodName) (head1 (Jvm.Cond.code (⟨"phrasebook/ZFormat$Layout", "bitsFor", "(I)I"⟩ : MethodName) prog_49_method_4_code 3 (some .int) :: ws) ({ frames := 2, cells := 0, slots := 0, locals := 28 } : Room)) (fun a U => a = #[(.ref ra0), (.int p1)] ∧ Z.Warmed39 U.vm ∧ U.heap = h0) (fun _ _ _ _ _ => True) (fun _ U o U' => ∃ v L, o = .returned v ∧ Q12 Z ra0 p1 w_maxBits_ra0 w_width_ra0 w_groupEnded_ra0 w_codesInGroup_ra0 h0 n0 v U'.heap L ∧ FrameEnd U o U' L ({ frames := 2, cells := 0, slots := 0, locals := 28 } : Room).cells ({ frames := 2, cells := 0, slots := 0, locals := 28 } : Room).slots) := by
  refine MetFree.of_bodySF (plainFor_of_name pn_11) hisR ?_
  intro p e s m args below meth c s₁ Bd hml0 hP hK
  obtain ⟨rfl, hZ, hh⟩ := hP
  have hx := Bd.exec
  have hby := Bd.bytes
  have hml : c.maxLocals = 3 := hml0
  have hown : s.vm.findClass "phrasebook/ZFormat$Layout" = some m.cls := findClass_of_methodNamed Bd.named
  have hnm := (name_of_methodNamed Bd.named Bd.method).1
  have X0 : Stand p l e ({ frames := 2, cells := 0, slots := 0, locals := 28 } : Room) s m #[(.ref ra0), (.int p1)] below meth c s₁ [] 0 0 := Stand.of_body Bd
  have e0 : s₁.heap = h0 := by rw [← hh, Bd.state]; rfl
  have N0 := Fr.nil n0
  have KC0 := Keep.refl h0 ([] : List Addr)
  have pre0 : ∀ t, Steps p.tables e below (s₁.setTop (mkF m 0 #[.val (.ref ra0), .val (.int p1), .unset] [])) t → Steps p.tables e below (s₁.setTop (entryFrame m #[(.ref ra0), (.int p1)] 3)) t := fun t k => castTop (ef_rm12 m ra0 p1) k
  have k183 := fun (t : State) (kk : Steps p.tables e below (s₁.setTop (mkF m 2 #[.val (.ref ra0), .val (.int p1), .unset] [(.int p1), (.ref ra0)])) t) => pre0 t (by
    show Steps p.tables e below (s₁.setTop (mkF m 0 #[.val (.ref ra0), .val (.int p1), .unset] [])) _
    refine XS.aloadN X0.here hx rfl (hb hby d12_0) rfl rfl ?_
    show Steps p.tables e below (s₁.setTop (mkF m 1 #[.val (.ref ra0), .val (.int p1), .unset] [(.ref ra0)])) _
    refine XS.iloadN X0.here hx rfl (hb hby d12_1) rfl ?_
    exact kk)
  have Zz184 : n0 ≤ h0.size := (Nat.le_trans Z0 KC0.1)
  obtain ⟨cq184, q184, q184'⟩ := E_ra0.cell
  obtain ⟨_, _, ⟨T184, L184, k184, n184⟩, -, X184, ⟨Lc184, hQ184, l184, y184, z184⟩, st184⟩ := X0.privateBack hx (y := (⟨"phrasebook/ZFormat$Layout", "widthFor", "(I)I"⟩ : MethodName)) hown (mvT hZ (hw _ (List.mem_of_getElem? (i := 28) rfl))) (mvT hZ (hw _ (List.mem_of_getElem? (i := 29) rfl))) (own_selpriv (y := (⟨"phrasebook/ZFormat$Layout", "widthFor", "(I)I"⟩ : MethodName)) (mvT hZ (hw _ (List.mem_of_getElem? (i := 2) rfl))) (Cond.privateMethod_at (mvP hZ (hw _ (List.mem_of_getElem? (i := 30) rfl)) (args := #[]))) (mvT hZ (hw _ (List.mem_of_getElem? (i := 29) rfl))) (by decide)) (Cond.privateMethod_at (mvP hZ (hw _ (List.mem_of_getElem? (i := 30) rfl)) (args := #[]))) (mvT hZ (hw _ (List.mem_of_getElem? (i := 31) rfl))) (by decide) (backOf (W := 0) (rm5 l Z a0 hw [] ra0 p1 w_maxBits_ra0 h0 n0 Zz184 F_maxBits_ra0) hZ (hw _ (List.mem_of_getElem? (i := 31) rfl)) (hw _ (List.mem_of_getElem? (i := 3) rfl)) (by decide) (by decide)) (g := (mkF m 2 #[.val (.ref ra0), .val (.int p1), .unset] [(.int p1), (.ref ra0)])) rfl (by rw [hml]; rfl) (Steps.refl _) (a := ra0) (by rw [e0]; exact q184) q184' (argsL := [(.int p1)]) (rest := []) (lenOf pd_1 rfl) rfl (by show 2 * 0 + _ ≤ _; exact Nat.le_of_eq rfl) (hb hby d12_2) (fun _ _ => ⟨rfl, e0, (by decide : 0 + 0 ≤ _), (by decide : 0 + 0 ≤ _)⟩)
  dsimp only [Pt.U, Pt.locs, Pt.cells, Pt.slots] at X184 l184 y184 z184 st184 hQ184
  subst l184 y184 z184
  obtain ⟨rfl, N184q, e184⟩ := hQ184
  have N184 := Fr.app N0 N184q
  have k185 := fun (t : State) (kk : Steps p.tables e below (T184.setTop (mkF m 5 #[.val (.ref ra0), .val (.int p1), .unset] [(.int (v5_ret p1 w_maxBits_ra0))])) t) => k183 t (st184.trans kk)
  have k186 := fun (t : State) (kk : Steps p.tables e below (T184.setTop (mkF m 8 #[.val (.ref ra0), .val (.int p1), .val (.int (v5_ret p1 w_maxBits_ra0))] [(.int (v5_ret p1 w_maxBits_ra0)), (.ref ra0)])) t) => k185 t (by
    show Steps p.tables e below (T184.setTop (mkF m 5 #[.val (.ref ra0), .val (.int p1), .unset] [(.int (v5_ret p1 w_maxBits_ra0))])) _
    refine XS.istoreN X184.here hx rfl (hb hby d12_5) rfl (l' := #[.val (.ref ra0), .val (.int p1), .val (.int (v5_ret p1 w_maxBits_ra0))]) rfl ?_
    show Steps p.tables e below (T184.setTop (mkF m 6 #[.val (.ref ra0), .val (.int p1), .val (.int (v5_ret p1 w_maxBits_ra0))] [])) _
    refine XS.aloadN X184.here hx rfl (hb hby d12_6) rfl rfl ?_
    show Steps p.tables e below (T184.setTop (mkF m 7 #[.val (.ref ra0), .val (.int p1), .val (.int (v5_ret p1 w_maxBits_ra0))] [(.ref ra0)])) _
    refine XS.iloadN X184.here hx rfl (hb hby d12_7) rfl ?_
    exact kk)
  have Zz187 : n0 ≤ h0.size := (Nat.le_trans Z0 KC0.1)
  obtain ⟨cq187, q187, q187'⟩ := E_ra0.cell
  obtain ⟨_, _, ⟨T187, L187, k187, n187⟩, -, X187, ⟨Lc187, hQ187, l187, y187, z187⟩, st187⟩ := X184.privateBack hx (y := (⟨"phrasebook/ZFormat$Layout", "startsGroup", "(I)Z"⟩ : MethodName)) hown (mvT hZ (hw _ (List.mem_of_getElem? (i := 37) rfl))) (mvT hZ (hw _ (List.mem_of_getElem? (i := 38) rfl))) (own_selpriv (y := (⟨"phrasebook/ZFormat$Layout", "startsGroup", "(I)Z"⟩ : MethodName)) (mvT hZ (hw _ (List.mem_of_getElem? (i := 2) rfl))) (Cond.privateMethod_at (mvP hZ (hw _ (List.mem_of_getElem? (i := 39) rfl)) (args := #[]))) (mvT hZ (hw _ (List.mem_of_getElem? (i := 38) rfl))) (by decide)) (Cond.privateMethod_at (mvP hZ (hw _ (List.mem_of_getElem? (i := 39) rfl)) (args := #[]))) (mvT hZ (hw _ (List.mem_of_getElem? (i := 40) rfl))) (by decide) (backOf (W := 0) (rm7 l Z a0 hw [] ra0 (v5_ret p1 w_maxBits_ra0) w_width_ra0 w_groupEnded_ra0 h0 n0 Zz187 F_width_ra0 F_groupEnded_ra0) hZ (hw _ (List.mem_of_getElem? (i := 40) rfl)) (hw _ (List.mem_of_getElem? (i := 3) rfl)) (by decide) (by decide)) (g := (mkF m 8 #[.val (.ref ra0), .val (.int p1), .val (.int (v5_ret p1 w_maxBits_ra0))] [(.int (v5_ret p1 w_maxBits_ra0)), (.ref ra0)])) rfl (by rw [hml]; rfl) (Steps.refl _) (a := ra0) (by rw [e184]; exact q187) q187' (argsL := [(.int (v5_ret p1 w_maxBits_ra0))]) (rest := []) (lenOf pd_3 rfl) rfl (by show 2 * 0 + _ ≤ _; exact Nat.le_of_eq rfl) (hb hby d12_8) (fun _ _ => ⟨rfl, e184, (by decide : 0 + 0 ≤ _), (by decide : 0 + 0 ≤ _)⟩)
  dsimp only [Pt.U, Pt.locs, Pt.cells, Pt.slots] at X187 l187 y187 z187 st187 hQ187
  subst l187 y187 z187
  obtain ⟨rfl, N187q, e187⟩ := hQ187
  have N187 := Fr.app N184 N187q
  have k188 := fun (t : State) (kk : Steps p.tables e below (T187.setTop (mkF m 11 #[.val (.ref ra0), .val (.int p1), .val (.int (v5_ret p1 w_maxBits_ra0))] [(.int (v7_ret (v5_ret p1 w_maxBits_ra0) w_width_ra0 w_groupEnded_ra0))])) t) => k186 t (st187.trans kk)
  by_cases hc11_189 : (v7_ret (v5_ret p1 w_maxBits_ra0) w_width_ra0 w_groupEnded_ra0) = (0 : Int32)
  · have k190 := fun (t : State) (kk : Steps p.tables e below (T187.setTop (mkF m 24 #[.val (.ref ra0), .val (.int p1), .val (.int (v5_ret p1 w_maxBits_ra0))] [(.int ((0 : Int32) + (v5_ret p1 w_maxBits_ra0)))])) t) => k188 t (by
      show Steps p.tables e below (T187.setTop (mkF m 11 #[.val (.ref ra0), .val (.int p1), .val (.int (v5_ret p1 w_maxBits_ra0))] [(.int (v7_ret (v5_ret p1 w_maxBits_ra0) w_width_ra0 w_groupEnded_ra0))])) _
      refine XS.ifYes X187.here hx rfl (pc0 := 11) (pc' := 21) rfl (hb hby d12_11) rfl ((if0 _ _).trans (teq hc11_189).1) (by decide) (by decide) ?_
      show Steps p.tables e below (T187.setTop (mkF m 21 #[.val (.ref ra0), .val (.int p1), .val (.int (v5_ret p1 w_maxBits_ra0))] [])) _
      refine XS.iconst X187.here hx rfl (hb hby d12_21) ?_
      show Steps p.tables e below (T187.setTop (mkF m 22 #[.val (.ref ra0), .val (.int p1), .val (.int (v5_ret p1 w_maxBits_ra0))] [(.int (0 : Int32))])) _
      refine XS.iloadN X187.here hx rfl (hb hby d12_22) rfl ?_
      show Steps p.tables e below (T187.setTop (mkF m 23 #[.val (.ref ra0), .val (.int p1), .val (.int (v5_ret p1 w_maxBits_ra0))] [(.int (v5_ret p1 w_maxBits_ra0)), (.int (0 : Int32))])) _
      refine XS.iadd X187.here hx rfl (hb hby d12_23) rfl ?_
      exact kk)
    obtain ⟨fs, hr, hrun, hended, hW, hsame⟩ := X187.leave (v := some (.int ((0 : Int32) + (v5_ret p1 w_maxBits_ra0)))) (fun h => by rw [Bd.returns] at h; cases h)
    have hv : (v12_ret p1 w_maxBits_ra0 w_width_ra0 w_groupEnded_ra0 w_codesInGroup_ra0) = ((0 : Int32) + (v5_ret p1 w_maxBits_ra0)) := (if_pos hc11_189)
    refine ⟨_, _, k190 _ ?_, hrun, hended, _, _, rfl, ?_, ⟨_, rfl⟩, hW, hsame.mono (by decide) (by decide)⟩
    · show Steps p.tables e below (T187.setTop (mkF m 24 #[.val (.ref ra0), .val (.int p1), .val (.int (v5_ret p1 w_maxBits_ra0))] [(.int ((0 : Int32) + (v5_ret p1 w_maxBits_ra0)))])) _
      exact retI X187 hx Bd.returns (hb hby d12_24) hr
    · show Q12 Z ra0 p1 w_maxBits_ra0 w_width_ra0 w_groupEnded_ra0 w_codesInGroup_ra0 h0 n0 _ T187.heap _
      rw [e187]
      exact ⟨(congrArg (fun z => some (Value.int z)) hv).symm, N187, rfl⟩
  · have k191 := fun (t : State) (kk : Steps p.tables e below (T187.setTop (mkF m 15 #[.val (.ref ra0), .val (.int p1), .val (.int (v5_ret p1 w_maxBits_ra0))] [(.ref ra0)])) t) => k188 t (by
      show Steps p.tables e below (T187.setTop (mkF m 11 #[.val (.ref ra0), .val (.int p1), .val (.int (v5_ret p1 w_maxBits_ra0))] [(.int (v7_ret (v5_ret p1 w_maxBits_ra0) w_width_ra0 w_groupEnded_ra0))])) _
      refine XS.ifNo X187.here hx rfl (hb hby d12_11) rfl ((if0 _ _).trans (feq hc11_189).1) ?_
      show Steps p.tables e below (T187.setTop (mkF m 14 #[.val (.ref ra0), .val (.int p1), .val (.int (v5_ret p1 w_maxBits_ra0))] [])) _
      refine XS.aloadN X187.here hx rfl (hb hby d12_14) rfl rfl ?_
      exact kk)
    have Zz192 : n0 ≤ h0.size := (Nat.le_trans Z0 KC0.1)
    obtain ⟨cq192, q192, q192'⟩ := E_ra0.cell
    obtain ⟨_, _, ⟨T192, L192, k192, n192⟩, -, X192, ⟨Lc192, hQ192, l192, y192, z192⟩, st192⟩ := X187.privateBack hx (y := (⟨"phrasebook/ZFormat$Layout", "restOfGroup", "()I"⟩ : MethodName)) hown (mvT hZ (hw _ (List.mem_of_getElem? (i := 73) rfl))) (mvT hZ (hw _ (List.mem_of_getElem? (i := 74) rfl))) (own_selpriv (y := (⟨"phrasebook/ZFormat$Layout", "restOfGroup", "()I"⟩ : MethodName)) (mvT hZ (hw _ (List.mem_of_getElem? (i := 2) rfl))) (Cond.privateMethod_at (mvP hZ (hw _ (List.mem_of_getElem? (i := 75) rfl)) (args := #[]))) (mvT hZ (hw _ (List.mem_of_getElem? (i := 74) rfl))) (by decide)) (Cond.privateMethod_at (mvP hZ (hw _ (List.mem_of_getElem? (i := 75) rfl)) (args := #[]))) (mvT hZ (hw _ (List.mem_of_getElem? (i := 76) rfl))) (by decide) (backOf (W := 0) (rm14 l Z a0 hw [] ra0 w_codesInGroup_ra0 w_width_ra0 h0 n0 Zz192 F_codesInGroup_ra0 F_width_ra0) hZ (hw _ (List.mem_of_getElem? (i := 76) rfl)) (hw _ (List.mem_of_getElem? (i := 3) rfl)) (by decide) (by decide)) (g := (mkF m 15 #[.val (.ref ra0), .val (.int p1), .val (.int (v5_ret p1 w_maxBits_ra0))] [(.ref ra0)])) rfl (by rw [hml]; rfl) (Steps.refl _) (a := ra0) (by rw [e187]; exact q192) q192' (argsL := []) (rest := []) (lenOf pd_4 rfl) rfl (by show 2 * 0 + _ ≤ _; exact Nat.le_of_eq rfl) (hb hby d12_15) (fun _ _ => ⟨rfl, e187, (by decide : 0 + 0 ≤ _), (by decide : 0 + 0 ≤ _)⟩)
    dsimp only [Pt.U, Pt.locs, Pt.cells, Pt.slots] at X192 l192 y192 z192 st192 hQ192
    subst l192 y192 z192
    obtain ⟨rfl, N192q, e192⟩ := hQ192
    have N192 := Fr.app N187 N192q
    have k193 := fun (t : State) (kk : Steps p.tables e below (T192.setTop (mkF m 18 #[.val (.ref ra0), .val (.int p1), .val (.int (v5_ret p1 w_maxBits_ra0))] [(.int (v14_ret w_codesInGroup_ra0 w_width_ra0))])) t) => k191 t (st192.trans kk)
    have k194 := fun (t : State) (kk : Steps p.tables e below (T192.setTop (mkF m 24 #[.val (.ref ra0), .val (.int p1), .val (.int (v5_ret p1 w_maxBits_ra0))] [(.int ((v14_ret w_codesInGroup_ra0 w_width_ra0) + (v5_ret p1 w_maxBits_ra0)))])) t) => k193 t (by
      show Steps p.tables e below (T192.setTop (mkF m 18 #[.val (.ref ra0), .val (.int p1), .val (.int (v5_ret p1 w_maxBits_ra0))] [(.int (v14_ret w_codesInGroup_ra0 w_width_ra0))])) _
      refine XS.goto X192.here hx rfl (pc0 := 18) (pc' := 22) rfl (hb hby d12_18) (by decide) (by decide) ?_
      show Steps p.tables e below (T192.setTop (mkF m 22 #[.val (.ref ra0), .val (.int p1), .val (.int (v5_ret p1 w_maxBits_ra0))] [(.int (v14_ret w_codesInGroup_ra0 w_width_ra0))])) _
      refine XS.iloadN X192.here hx rfl (hb hby d12_22) rfl ?_
      show Steps p.tables e below (T192.setTop (mkF m 23 #[.val (.ref ra0), .val (.int p1), .val (.int (v5_ret p1 w_maxBits_ra0))] [(.int (v5_ret p1 w_maxBits_ra0)), (.int (v14_ret w_codesInGroup_ra0 w_width_ra0))])) _
      refine XS.iadd X192.here hx rfl (hb hby d12_23) rfl ?_
      exact kk)
    obtain ⟨fs, hr, hrun, hended, hW, hsame⟩ := X192.leave (v := some (.int ((v14_ret w_codesInGroup_ra0 w_width_ra0) + (v5_ret p1 w_maxBits_ra0)))) (fun h => by rw [Bd.returns] at h; cases h)
    have hv : (v12_ret p1 w_maxBits_ra0 w_width_ra0 w_groupEnded_ra0 w_codesInGroup_ra0) = ((v14_ret w_codesInGroup_ra0 w_width_ra0) + (v5_ret p1 w_maxBits_ra0)) := (if_neg hc11_189)
    refine ⟨_, _, k194 _ ?_, hrun, hended, _, _, rfl, ?_, ⟨_, rfl⟩, hW, hsame.mono (by decide) (by decide)⟩
    · show Steps p.tables e below (T192.setTop (mkF m 24 #[.val (.ref ra0), .val (.int p1), .val (.int (v5_ret p1 w_maxBits_ra0))] [(.int ((v14_ret w_codesInGroup_ra0 w_width_ra0) + (v5_ret p1 w_maxBits_ra0)))])) _
      exact retI X192 hx Bd.returns (hb hby d12_24) hr
    · show Q12 Z ra0 p1 w_maxBits_ra0 w_width_ra0 w_groupEnded_ra0 w_codesInGroup_ra0 h0 n0 _ T192.heap _
      rw [e192]
      exact ⟨(congrArg (fun z => some (Value.int z)) hv).symm, N192, rfl⟩
theorem pd_5 : parseMethodDescriptor "(I)V" = some ⟨[.int], none⟩ := by decide +kernel
def v0_7_l6 (p0 : Int32) : Int32 := ((9 : Int32) + (p0 &&& (7 : Int32)))
def v0_17_l7 (p0 : Int32) : Int32 := (((1 : Int32) <<< ((v0_7_l6 p0) &&& 31)) - (255 : Int32))
def v0_30_l8 (p0 : Int32) (p1 : Int32) : Int32 := ((256 : Int32) + ((p1 &&& (2147483647 : Int32)) % (v0_17_l7 p0)))
def v0_37_s0 (p0 : Int32) (p3 : Int32) (p5 : Int32) : Int32 := if ((p3 >>> ((1 : Int32) &&& 31)) &&& (1 : Int32)) = (0 : Int32) then ((256 : Int32) + ((p5 &&& (2147483647 : Int32)) % (v0_17_l7 p0))) else ((256 : Int32) + (p5 &&& (255 : Int32)))
def v0_153_l14 (p0 : Int32) (p3 : Int32) (p5 : Int32) : Int32 := (v11_ret (v0_37_s0 p0 p3 p5) (v0_7_l6 p0))
def v0_160_l15 (p4 : Int32) : Int32 := ((p4 &&& (15 : Int32)) % (8 : Int32))
def v0_171_s0 (p4 : Int32) : Int32 := if (v0_160_l15 p4) = (0 : Int32) then (0 : Int32) else (((8 : Int32) - (v0_160_l15 p4)) * (9 : Int32))
def v0_166_s0 (p0 : Int32) (p3 : Int32) (p4 : Int32) (p5 : Int32) : Int32 := if (v0_153_l14 p0 p3 p5) = (9 : Int32) then (0 : Int32) else (v0_171_s0 p4)
def v0_205_s0 (p0 : Int32) (p3 : Int32) (p4 : Int32) (p5 : Int32) : Int32 := if (v12_ret (v0_37_s0 p0 p3 p5) (v0_7_l6 p0) (9 : Int32) (0 : Int32) (((0 : Int32) + (p4 &&& (15 : Int32))) % (8 : Int32))) = ((v0_166_s0 p0 p3 p4 p5) + (v0_153_l14 p0 p3 p5)) then (1 : Int32) else (0 : Int32)
def v0_222_l17 (p0 : Int32) (p3 : Int32) (p4 : Int32) (p5 : Int32) : Int32 := (v4_ret (v0_37_s0 p0 p3 p5) (v0_7_l6 p0) (9 : Int32) (0 : Int32) (((0 : Int32) + (p4 &&& (15 : Int32))) % (8 : Int32)))
def v0_243_s0 (p0 : Int32) (p3 : Int32) (p5 : Int32) : Int32 := if (v5_ret (v0_37_s0 p0 p3 p5) (v0_7_l6 p0)) = (v0_153_l14 p0 p3 p5) then (1 : Int32) else (0 : Int32)
def v0_ret (p0 : Int32) (p3 : Int32) (p4 : Int32) (p5 : Int32) : Int32 := (if (v0_205_s0 p0 p3 p4 p5) = (0 : Int32) then (0 : Int32) else (if (v0_222_l17 p0 p3 p4 p5) = (v0_166_s0 p0 p3 p4 p5) then (nar .boolean (v0_243_s0 p0 p3 p5)) else (0 : Int32)))
theorem own_p7 (p0 : Int32) : (p0 &&& (7 : Int32)) = 0 ∨ (p0 &&& (7 : Int32)) = 1 ∨ (p0 &&& (7 : Int32)) = 2 ∨ (p0 &&& (7 : Int32)) = 3 ∨ (p0 &&& (7 : Int32)) = 4 ∨ (p0 &&& (7 : Int32)) = 5 ∨ (p0 &&& (7 : Int32)) = 6 ∨ (p0 &&& (7 : Int32)) = 7 := by
  have b := c_and p0 (7 : Int32) (by decide)
  have n7 : (7 : Int32).toInt = 7 := rfl
  simp only [← Int32.toInt_inj]
  have n0 : (0 : Int32).toInt = 0 := rfl
  have n1 : (1 : Int32).toInt = 1 := rfl
  have n2 : (2 : Int32).toInt = 2 := rfl
  have n3 : (3 : Int32).toInt = 3 := rfl
  have n4 : (4 : Int32).toInt = 4 := rfl
  have n5 : (5 : Int32).toInt = 5 := rfl
  have n6 : (6 : Int32).toInt = 6 := rfl
  omega
theorem own_mb (p0 : Int32) : v0_7_l6 p0 = 9 ∨ v0_7_l6 p0 = 10 ∨ v0_7_l6 p0 = 11 ∨ v0_7_l6 p0 = 12 ∨ v0_7_l6 p0 = 13 ∨ v0_7_l6 p0 = 14 ∨ v0_7_l6 p0 = 15 ∨ v0_7_l6 p0 = 16 := by
  unfold v0_7_l6
  rcases own_p7 p0 with h | h | h | h | h | h | h | h <;> rw [h] <;> decide
theorem own_sp (p0 : Int32) : 1 ≤ (v0_17_l7 p0).toInt ∧ (v0_17_l7 p0).toInt ≤ 65281 := by
  unfold v0_17_l7
  rcases own_mb p0 with h | h | h | h | h | h | h | h <;> rw [h] <;> decide
theorem own_span (p0 : Int32) : v0_17_l7 p0 ≠ 0 := fun h => by
  have := own_sp p0; rw [h] at this; exact absurd this.1 (by decide)
theorem own_e2 (p0 p3 p5 : Int32) : 256 ≤ (v0_37_s0 p0 p3 p5).toInt ∧ (v0_37_s0 p0 p3 p5).toInt ≤ 65536 := by
  have hs := own_sp p0
  have n256 : (256 : Int32).toInt = 256 := rfl
  unfold v0_37_s0
  split
  · have h2 := (c_and p5 (2147483647 : Int32) (by decide)).1
    have h3 := (c_iremV (p5 &&& 2147483647) (v0_17_l7 p0)).1 h2 (by omega)
    have a := c_iadd (256 : Int32) ((p5 &&& 2147483647) % v0_17_l7 p0); have r := rng32 ((256 : Int32) + (p5 &&& 2147483647) % v0_17_l7 p0)
    omega
  · have h2 := c_and p5 (255 : Int32) (by decide)
    have n255 : (255 : Int32).toInt = 255 := rfl
    have a := c_iadd (256 : Int32) (p5 &&& 255); have r := rng32 ((256 : Int32) + (p5 &&& 255))
    omega
theorem own_bits (e : Int32) (h0 : 256 ≤ e.toInt) (h1 : e.toInt ≤ 65536) : (32 : Int32) - v6_ret e = v11_4_l2 e := by
  by_cases he : e = 65536
  · subst he; decide
  have he' : e.toInt < 65536 := by
    rw [← Int32.toInt_inj] at he; have : (65536 : Int32).toInt = 65536 := rfl; omega
  unfold v6_ret
  have p1 : (0 : Int32) < e := by rw [Int32.lt_iff_toInt_lt]; have : (0 : Int32).toInt = 0 := rfl; omega
  have p2 : e < (65536 : Int32) := by rw [Int32.lt_iff_toInt_lt]; have : (65536 : Int32).toInt = 65536 := rfl; omega
  have p3 : ¬ e < (256 : Int32) := by rw [Int32.lt_iff_toInt_lt]; have : (256 : Int32).toInt = 256 := rfl; omega
  rw [if_pos p1]
  have a0 : v6_22_l0 e = e := if_pos p2
  have a1 : v6_22_l1 e = 31 := if_pos p2
  have b0 : v6_37_l0 e = v6_47_l0 e := by unfold v6_37_l0; rw [a0]; exact if_neg p3
  have b1 : v6_37_l1 e = 23 := by unfold v6_37_l1; rw [a0, a1, if_neg p3]; rfl
  have c0 : (v6_47_l0 e).toInt = e.toInt / 256 := by
    unfold v6_47_l0; rw [a0, c_iushr e (8 : Int32) 8 (by decide) (by decide)]
    have : ((2 ^ 8 : Nat) : Int) = 256 := rfl
    omega
  unfold v6_63_l1 v6_63_l0 v6_72_l0 v6_51_l0 v6_51_l1 v6_60_l0
  rw [b0, b1]
  generalize v6_47_l0 e = x at *
  have s1 := c_iushr x (4 : Int32) 4 (by decide) (by decide)
  generalize (x.toUInt32 >>> ((4 : Int32) &&& 31).toUInt32).toInt32 = y at *
  have e4 : ((2 ^ 4 : Nat) : Int) = 16 := rfl
  rw [e4] at s1
  have nn : ∀ k : Int32, k.toInt = k.toInt := fun _ => rfl
  unfold v11_4_l2 v11_17_l2 v11_30_l2 v11_43_l2 v11_56_l2 v11_69_l2 v11_81_l2 v11_93_l2
  simp only [Int32.lt_iff_toInt_lt]
  have n4 : (4 : Int32).toInt = 4 := rfl
  have n16 : (16 : Int32).toInt = 16 := rfl
  have z1 : (512 : Int32).toInt = 512 := rfl
  have z2 : (1024 : Int32).toInt = 1024 := rfl
  have z3 : (2048 : Int32).toInt = 2048 := rfl
  have z4 : (4096 : Int32).toInt = 4096 := rfl
  have z5 : (8192 : Int32).toInt = 8192 := rfl
  have z6 : (16384 : Int32).toInt = 16384 := rfl
  have z7 : (32768 : Int32).toInt = 32768 := rfl
  have z8 : (65536 : Int32).toInt = 65536 := rfl
  rw [n4, n16, z1, z2, z3, z4, z5, z6, z7, z8]
  have key : ∀ (u l : Int32) (B : Int), 1 ≤ u.toInt → u.toInt < 4 → l.toInt = B → 15 ≤ B → B ≤ 23 → ((32 : Int32) - (l - (u.toUInt32 >>> ((1 : Int32) &&& 31).toUInt32).toInt32)).toInt = 32 - B + u.toInt / 2 := by
    intro u l B u0 u1 hl hB0 hB1
    have s := c_iushr u (1 : Int32) 1 (by decide) (by decide)
    have e1 : ((2 ^ 1 : Nat) : Int) = 2 := rfl
    rw [e1] at s
    generalize (u.toUInt32 >>> ((1 : Int32) &&& 31).toUInt32).toInt32 = w at *
    have g1 := c_isub l w; have r1 := rng32 (l - w)
    have g2 := c_isub (32 : Int32) (l - w); have r2 := rng32 ((32 : Int32) - (l - w))
    have n32 : (32 : Int32).toInt = 32 := rfl
    omega
  have q2 : ∀ u : Int32, 0 ≤ u.toInt → ((u.toUInt32 >>> ((2 : Int32) &&& 31).toUInt32).toInt32).toInt = u.toInt / 4 := by
    intro u hu
    have s := c_iushr u (2 : Int32) 2 (by decide) (by decide)
    have e1 : ((2 ^ 2 : Nat) : Int) = 4 := rfl
    have r := rng32 u
    rw [e1] at s; omega
  apply Int32.toInt_inj.mp
  have w9 : (9 : Int32).toInt = 9 := rfl
  have w10 : (10 : Int32).toInt = 10 := rfl
  have w11 : (11 : Int32).toInt = 11 := rfl
  have w12 : (12 : Int32).toInt = 12 := rfl
  have w13 : (13 : Int32).toInt = 13 := rfl
  have w14 : (14 : Int32).toInt = 14 := rfl
  have w15 : (15 : Int32).toInt = 15 := rfl
  have w16 : (16 : Int32).toInt = 16 := rfl
  have w17 : (17 : Int32).toInt = 17 := rfl
  by_cases h16 : x.toInt < 16
  · rw [if_pos h16, if_pos h16]
    by_cases h4 : x.toInt < 4
    · rw [if_pos h4, if_pos h4, key x 23 23 (by omega) h4 rfl (by decide) (by decide)]
      repeat' split
      all_goals omega
    · rw [if_neg h4, if_neg h4]
      have q := q2 x (by omega)
      rw [key _ _ 21 (by omega) (by omega) rfl (by decide) (by decide), q]
      repeat' split
      all_goals omega
  · rw [if_neg h16, if_neg h16]
    by_cases h4 : y.toInt < 4
    · rw [if_pos h4, if_pos h4, key y _ 19 (by omega) h4 rfl (by decide) (by decide)]
      repeat' split
      all_goals omega
    · rw [if_neg h4, if_neg h4]
      have q := q2 y (by omega)
      rw [key _ _ 17 (by omega) (by omega) rfl (by decide) (by decide), q]
      repeat' split
      all_goals omega
theorem own_wid (e mb : Int32) (h0 : 256 ≤ e.toInt) (h1 : e.toInt ≤ 65536) : v5_ret e mb = v11_ret e mb := by
  unfold v5_ret v11_ret; rw [own_bits e h0 h1]
theorem own_law (p0 p1 p2 p3 p4 p5 : Int32) : (v0_ret p0 p3 p4 p5) = 1 := by
  have he := own_e2 p0 p3 p5
  have hw := own_wid _ (v0_7_l6 p0) he.1 he.2
  have hx : (((0 : Int32) + (p4 &&& (15 : Int32))) % (8 : Int32)) = v0_160_l15 p4 := by unfold v0_160_l15; rw [Int32.zero_add]
  have e1 : v0_205_s0 p0 p3 p4 p5 = 1 := by
    unfold v0_205_s0
    refine if_pos ?_
    unfold v12_ret v0_166_s0 v0_153_l14 v0_171_s0
    rw [hw, hx]
    generalize v11_ret (v0_37_s0 p0 p3 p5) (v0_7_l6 p0) = W
    unfold v7_ret v14_ret v7_12_s0
    by_cases h : W = 9
    · rw [if_pos h, if_pos rfl, if_pos (show nar .boolean 0 = 0 from rfl), if_pos h]
    · rw [if_neg h, if_neg (by decide), if_neg h]
  have e2 : v0_222_l17 p0 p3 p4 p5 = v0_166_s0 p0 p3 p4 p5 := by
    unfold v0_222_l17 v4_ret v0_166_s0 v0_153_l14 v0_171_s0
    rw [hw, hx]
    generalize v11_ret (v0_37_s0 p0 p3 p5) (v0_7_l6 p0) = W
    unfold v7_ret v14_ret v7_12_s0
    by_cases h : W = 9
    · rw [if_pos h, if_pos rfl, if_pos (show nar .boolean 0 = 0 from rfl), if_pos h]
    · rw [if_neg h, if_neg (by decide), if_neg h]
  have e3 : v0_243_s0 p0 p3 p5 = 1 := by unfold v0_243_s0 v0_153_l14; exact if_pos hw
  unfold v0_ret
  rw [e1, if_neg (by decide), if_pos e2, e3]; rfl

theorem ef_rm0 (m : MethodId) (p0 : Int32) (p1 : Int32) (p2 : Int32) (p3 : Int32) (p4 : Int32) (p5 : Int32) : entryFrame m #[(.int p0), (.int p1), (.int p2), (.int p3), (.int p4), (.int p5)] maxLocals = mkF m 0 #[.val (.int p0), .val (.int p1), .val (.int p2), .val (.int p3), .val (.int p4), .val (.int p5), .unset, .unset, .unset, .unset, .unset, .unset, .unset, .unset, .unset, .unset, .unset, .unset] [] := by first | (simp [entryFrame, mkF, argsToLocals, Value.category, maxLocals]; done) | rfl
def Q0 (Z : State) (p0 : Int32) (p1 : Int32) (p2 : Int32) (p3 : Int32) (p4 : Int32) (p5 : Int32) (h0 : Heap) (n0 : Nat) (v : Option Value) (h : Heap) (L : List Loc) : Prop := v = some (.int 1) ∧ Fr n0 L
set_option maxRecDepth 65536 in
set_option maxHeartbeats 40000000 in
theorem rm0 (l : Launch) (Z : State) (a0 : Array Value) (hw : ∀ d ∈ tables_1, d.before a0 Z = true) (ws : List Jvm.Cond) (p0 : Int32) (p1 : Int32) (p2 : Int32) (p3 : Int32) (p4 : Int32) (p5 : Int32) (h0 : Heap) (n0 : Nat) (Z0 : n0 ≤ h0.size) :
    MetFree l x (head1 (Jvm.Cond.code x code maxLocals ret :: ws) room_1) (fun a U => a = #[(.int p0), (.int p1), (.int p2), (.int p3), (.int p4), (.int p5)] ∧ Z.Warmed39 U.vm ∧ U.heap = h0) (fun _ _ _ _ _ => True) (fun _ U o U' => ∃ v L, o = .returned v ∧ Q0 Z p0 p1 p2 p3 p4 p5 h0 n0 v U'.heap L ∧ FrameEnd U o U' L room_1.cells room_1.slots) := by
  refine MetFree.of_bodySF (plainFor_of_name pn_261) hisR ?_
  intro p e s m args below meth c s₁ Bd hml0 hP hK
  obtain ⟨rfl, hZ, hh⟩ := hP
  have hx := Bd.exec
  have hby := Bd.bytes
  have hml : c.maxLocals = 18 := hml0
  have hown : s.vm.findClass "phrasebook/LayoutRestartPinLaw" = some m.cls := findClass_of_methodNamed Bd.named
  have hnm := (name_of_methodNamed Bd.named Bd.method).1
  have X0 : Stand p l e room_1 s m #[(.int p0), (.int p1), (.int p2), (.int p3), (.int p4), (.int p5)] below meth c s₁ [] 0 0 := Stand.of_body Bd
  have e0 : s₁.heap = h0 := by rw [← hh, Bd.state]; rfl
  have N0 := Fr.nil n0
  have KC0 := Keep.refl h0 ([] : List Addr)
  have pre0 : ∀ t, Steps p.tables e below (s₁.setTop (mkF m 0 #[.val (.int p0), .val (.int p1), .val (.int p2), .val (.int p3), .val (.int p4), .val (.int p5), .unset, .unset, .unset, .unset, .unset, .unset, .unset, .unset, .unset, .unset, .unset, .unset] [])) t → Steps p.tables e below (s₁.setTop (entryFrame m #[(.int p0), (.int p1), (.int p2), (.int p3), (.int p4), (.int p5)] maxLocals)) t := fun t k => castTop (ef_rm0 m p0 p1 p2 p3 p4 p5) k
  have k197 := fun (t : State) (kk : Steps p.tables e below (s₁.setTop (mkF m 80 #[.val (.int p0), .val (.int p1), .val (.int p2), .val (.int p3), .val (.int p4), .val (.int p5), .val (.int (v0_7_l6 p0)), .val (.int (v0_17_l7 p0)), .val (.int (v0_30_l8 p0 p1)), .val (.int (v0_37_s0 p0 p3 p5)), .val (.int (p2 &&& (15 : Int32))), .val (.int (p4 &&& (15 : Int32))), .unset, .unset, .unset, .unset, .unset, .unset] [])) t) => pre0 t (by
    show Steps p.tables e below (s₁.setTop (mkF m 0 #[.val (.int p0), .val (.int p1), .val (.int p2), .val (.int p3), .val (.int p4), .val (.int p5), .unset, .unset, .unset, .unset, .unset, .unset, .unset, .unset, .unset, .unset, .unset, .unset] [])) _
    refine XS.bipush X0.here hx rfl (hb hby at_0) ?_
    show Steps p.tables e below (s₁.setTop (mkF m 2 #[.val (.int p0), .val (.int p1), .val (.int p2), .val (.int p3), .val (.int p4), .val (.int p5), .unset, .unset, .unset, .unset, .unset, .unset, .unset, .unset, .unset, .unset, .unset, .unset] [(.int (9 : Int32))])) _
    refine XS.iloadN X0.here hx rfl (hb hby at_2) rfl ?_
    show Steps p.tables e below (s₁.setTop (mkF m 3 #[.val (.int p0), .val (.int p1), .val (.int p2), .val (.int p3), .val (.int p4), .val (.int p5), .unset, .unset, .unset, .unset, .unset, .unset, .unset, .unset, .unset, .unset, .unset, .unset] [(.int p0), (.int (9 : Int32))])) _
    refine XS.bipush X0.here hx rfl (hb hby at_3) ?_
    show Steps p.tables e below (s₁.setTop (mkF m 5 #[.val (.int p0), .val (.int p1), .val (.int p2), .val (.int p3), .val (.int p4), .val (.int p5), .unset, .unset, .unset, .unset, .unset, .unset, .unset, .unset, .unset, .unset, .unset, .unset] [(.int (7 : Int32)), (.int p0), (.int (9 : Int32))])) _
    refine XS.iand X0.here hx rfl (hb hby at_5) rfl ?_
    show Steps p.tables e below (s₁.setTop (mkF m 6 #[.val (.int p0), .val (.int p1), .val (.int p2), .val (.int p3), .val (.int p4), .val (.int p5), .unset, .unset, .unset, .unset, .unset, .unset, .unset, .unset, .unset, .unset, .unset, .unset] [(.int (p0 &&& (7 : Int32))), (.int (9 : Int32))])) _
    refine XS.iadd X0.here hx rfl (hb hby at_6) rfl ?_
    show Steps p.tables e below (s₁.setTop (mkF m 7 #[.val (.int p0), .val (.int p1), .val (.int p2), .val (.int p3), .val (.int p4), .val (.int p5), .unset, .unset, .unset, .unset, .unset, .unset, .unset, .unset, .unset, .unset, .unset, .unset] [(.int ((9 : Int32) + (p0 &&& (7 : Int32))))])) _
    refine XS.istore X0.here hx rfl (hb hby at_7) rfl (l' := #[.val (.int p0), .val (.int p1), .val (.int p2), .val (.int p3), .val (.int p4), .val (.int p5), .val (.int (v0_7_l6 p0)), .unset, .unset, .unset, .unset, .unset, .unset, .unset, .unset, .unset, .unset, .unset]) rfl ?_
    show Steps p.tables e below (s₁.setTop (mkF m 9 #[.val (.int p0), .val (.int p1), .val (.int p2), .val (.int p3), .val (.int p4), .val (.int p5), .val (.int (v0_7_l6 p0)), .unset, .unset, .unset, .unset, .unset, .unset, .unset, .unset, .unset, .unset, .unset] [])) _
    refine XS.iconst X0.here hx rfl (hb hby at_9) ?_
    show Steps p.tables e below (s₁.setTop (mkF m 10 #[.val (.int p0), .val (.int p1), .val (.int p2), .val (.int p3), .val (.int p4), .val (.int p5), .val (.int (v0_7_l6 p0)), .unset, .unset, .unset, .unset, .unset, .unset, .unset, .unset, .unset, .unset, .unset] [(.int (1 : Int32))])) _
    refine XS.iload X0.here hx rfl (hb hby at_10) rfl ?_
    show Steps p.tables e below (s₁.setTop (mkF m 12 #[.val (.int p0), .val (.int p1), .val (.int p2), .val (.int p3), .val (.int p4), .val (.int p5), .val (.int (v0_7_l6 p0)), .unset, .unset, .unset, .unset, .unset, .unset, .unset, .unset, .unset, .unset, .unset] [(.int (v0_7_l6 p0)), (.int (1 : Int32))])) _
    refine XS.ishl X0.here hx rfl (hb hby at_12) rfl ?_
    show Steps p.tables e below (s₁.setTop (mkF m 13 #[.val (.int p0), .val (.int p1), .val (.int p2), .val (.int p3), .val (.int p4), .val (.int p5), .val (.int (v0_7_l6 p0)), .unset, .unset, .unset, .unset, .unset, .unset, .unset, .unset, .unset, .unset, .unset] [(.int ((1 : Int32) <<< ((v0_7_l6 p0) &&& 31)))])) _
    refine XS.sipush X0.here hx rfl (hb hby at_13) ?_
    show Steps p.tables e below (s₁.setTop (mkF m 16 #[.val (.int p0), .val (.int p1), .val (.int p2), .val (.int p3), .val (.int p4), .val (.int p5), .val (.int (v0_7_l6 p0)), .unset, .unset, .unset, .unset, .unset, .unset, .unset, .unset, .unset, .unset, .unset] [(.int (255 : Int32)), (.int ((1 : Int32) <<< ((v0_7_l6 p0) &&& 31)))])) _
    refine XS.isub X0.here hx rfl (hb hby at_16) rfl ?_
    show Steps p.tables e below (s₁.setTop (mkF m 17 #[.val (.int p0), .val (.int p1), .val (.int p2), .val (.int p3), .val (.int p4), .val (.int p5), .val (.int (v0_7_l6 p0)), .unset, .unset, .unset, .unset, .unset, .unset, .unset, .unset, .unset, .unset, .unset] [(.int (((1 : Int32) <<< ((v0_7_l6 p0) &&& 31)) - (255 : Int32)))])) _
    refine XS.istore X0.here hx rfl (hb hby at_17) rfl (l' := #[.val (.int p0), .val (.int p1), .val (.int p2), .val (.int p3), .val (.int p4), .val (.int p5), .val (.int (v0_7_l6 p0)), .val (.int (v0_17_l7 p0)), .unset, .unset, .unset, .unset, .unset, .unset, .unset, .unset, .unset, .unset]) rfl ?_
    show Steps p.tables e below (s₁.setTop (mkF m 19 #[.val (.int p0), .val (.int p1), .val (.int p2), .val (.int p3), .val (.int p4), .val (.int p5), .val (.int (v0_7_l6 p0)), .val (.int (v0_17_l7 p0)), .unset, .unset, .unset, .unset, .unset, .unset, .unset, .unset, .unset, .unset] [])) _
    refine XS.sipush X0.here hx rfl (hb hby at_19) ?_
    show Steps p.tables e below (s₁.setTop (mkF m 22 #[.val (.int p0), .val (.int p1), .val (.int p2), .val (.int p3), .val (.int p4), .val (.int p5), .val (.int (v0_7_l6 p0)), .val (.int (v0_17_l7 p0)), .unset, .unset, .unset, .unset, .unset, .unset, .unset, .unset, .unset, .unset] [(.int (256 : Int32))])) _
    refine XS.iloadN X0.here hx rfl (hb hby at_22) rfl ?_
    show Steps p.tables e below (s₁.setTop (mkF m 23 #[.val (.int p0), .val (.int p1), .val (.int p2), .val (.int p3), .val (.int p4), .val (.int p5), .val (.int (v0_7_l6 p0)), .val (.int (v0_17_l7 p0)), .unset, .unset, .unset, .unset, .unset, .unset, .unset, .unset, .unset, .unset] [(.int p1), (.int (256 : Int32))])) _
    refine X0.ldcInt hx hown (mvT hZ (hw _ (List.mem_of_getElem? (i := 0) rfl))) (g := (mkF m 23 #[.val (.int p0), .val (.int p1), .val (.int p2), .val (.int p3), .val (.int p4), .val (.int p5), .val (.int (v0_7_l6 p0)), .val (.int (v0_17_l7 p0)), .unset, .unset, .unset, .unset, .unset, .unset, .unset, .unset, .unset, .unset] [(.int p1), (.int (256 : Int32))])) rfl (hb hby at_23) _ ?_
    show Steps p.tables e below (s₁.setTop (mkF m 25 #[.val (.int p0), .val (.int p1), .val (.int p2), .val (.int p3), .val (.int p4), .val (.int p5), .val (.int (v0_7_l6 p0)), .val (.int (v0_17_l7 p0)), .unset, .unset, .unset, .unset, .unset, .unset, .unset, .unset, .unset, .unset] [(.int (2147483647 : Int32)), (.int p1), (.int (256 : Int32))])) _
    refine XS.iand X0.here hx rfl (hb hby at_25) rfl ?_
    show Steps p.tables e below (s₁.setTop (mkF m 26 #[.val (.int p0), .val (.int p1), .val (.int p2), .val (.int p3), .val (.int p4), .val (.int p5), .val (.int (v0_7_l6 p0)), .val (.int (v0_17_l7 p0)), .unset, .unset, .unset, .unset, .unset, .unset, .unset, .unset, .unset, .unset] [(.int (p1 &&& (2147483647 : Int32))), (.int (256 : Int32))])) _
    refine XS.iload X0.here hx rfl (hb hby at_26) rfl ?_
    show Steps p.tables e below (s₁.setTop (mkF m 28 #[.val (.int p0), .val (.int p1), .val (.int p2), .val (.int p3), .val (.int p4), .val (.int p5), .val (.int (v0_7_l6 p0)), .val (.int (v0_17_l7 p0)), .unset, .unset, .unset, .unset, .unset, .unset, .unset, .unset, .unset, .unset] [(.int (v0_17_l7 p0)), (.int (p1 &&& (2147483647 : Int32))), (.int (256 : Int32))])) _
    refine iremM X0 hx rfl (hb hby at_28) rfl (own_span p0) ?_
    show Steps p.tables e below (s₁.setTop (mkF m 29 #[.val (.int p0), .val (.int p1), .val (.int p2), .val (.int p3), .val (.int p4), .val (.int p5), .val (.int (v0_7_l6 p0)), .val (.int (v0_17_l7 p0)), .unset, .unset, .unset, .unset, .unset, .unset, .unset, .unset, .unset, .unset] [(.int ((p1 &&& (2147483647 : Int32)) % (v0_17_l7 p0))), (.int (256 : Int32))])) _
    refine XS.iadd X0.here hx rfl (hb hby at_29) rfl ?_
    show Steps p.tables e below (s₁.setTop (mkF m 30 #[.val (.int p0), .val (.int p1), .val (.int p2), .val (.int p3), .val (.int p4), .val (.int p5), .val (.int (v0_7_l6 p0)), .val (.int (v0_17_l7 p0)), .unset, .unset, .unset, .unset, .unset, .unset, .unset, .unset, .unset, .unset] [(.int ((256 : Int32) + ((p1 &&& (2147483647 : Int32)) % (v0_17_l7 p0))))])) _
    refine XS.istore X0.here hx rfl (hb hby at_30) rfl (l' := #[.val (.int p0), .val (.int p1), .val (.int p2), .val (.int p3), .val (.int p4), .val (.int p5), .val (.int (v0_7_l6 p0)), .val (.int (v0_17_l7 p0)), .val (.int (v0_30_l8 p0 p1)), .unset, .unset, .unset, .unset, .unset, .unset, .unset, .unset, .unset]) rfl ?_
    show Steps p.tables e below (s₁.setTop (mkF m 32 #[.val (.int p0), .val (.int p1), .val (.int p2), .val (.int p3), .val (.int p4), .val (.int p5), .val (.int (v0_7_l6 p0)), .val (.int (v0_17_l7 p0)), .val (.int (v0_30_l8 p0 p1)), .unset, .unset, .unset, .unset, .unset, .unset, .unset, .unset, .unset] [])) _
    refine XS.iloadN X0.here hx rfl (hb hby at_32) rfl ?_
    show Steps p.tables e below (s₁.setTop (mkF m 33 #[.val (.int p0), .val (.int p1), .val (.int p2), .val (.int p3), .val (.int p4), .val (.int p5), .val (.int (v0_7_l6 p0)), .val (.int (v0_17_l7 p0)), .val (.int (v0_30_l8 p0 p1)), .unset, .unset, .unset, .unset, .unset, .unset, .unset, .unset, .unset] [(.int p3)])) _
    refine XS.iconst X0.here hx rfl (hb hby at_33) ?_
    show Steps p.tables e below (s₁.setTop (mkF m 34 #[.val (.int p0), .val (.int p1), .val (.int p2), .val (.int p3), .val (.int p4), .val (.int p5), .val (.int (v0_7_l6 p0)), .val (.int (v0_17_l7 p0)), .val (.int (v0_30_l8 p0 p1)), .unset, .unset, .unset, .unset, .unset, .unset, .unset, .unset, .unset] [(.int (1 : Int32)), (.int p3)])) _
    refine XS.ishr X0.here hx rfl (hb hby at_34) rfl ?_
    show Steps p.tables e below (s₁.setTop (mkF m 35 #[.val (.int p0), .val (.int p1), .val (.int p2), .val (.int p3), .val (.int p4), .val (.int p5), .val (.int (v0_7_l6 p0)), .val (.int (v0_17_l7 p0)), .val (.int (v0_30_l8 p0 p1)), .unset, .unset, .unset, .unset, .unset, .unset, .unset, .unset, .unset] [(.int (p3 >>> ((1 : Int32) &&& 31)))])) _
    refine XS.iconst X0.here hx rfl (hb hby at_35) ?_
    show Steps p.tables e below (s₁.setTop (mkF m 36 #[.val (.int p0), .val (.int p1), .val (.int p2), .val (.int p3), .val (.int p4), .val (.int p5), .val (.int (v0_7_l6 p0)), .val (.int (v0_17_l7 p0)), .val (.int (v0_30_l8 p0 p1)), .unset, .unset, .unset, .unset, .unset, .unset, .unset, .unset, .unset] [(.int (1 : Int32)), (.int (p3 >>> ((1 : Int32) &&& 31)))])) _
    refine XS.iand X0.here hx rfl (hb hby at_36) rfl ?_
    suffices k196 : Steps p.tables e below (s₁.setTop (mkF m 65 #[.val (.int p0), .val (.int p1), .val (.int p2), .val (.int p3), .val (.int p4), .val (.int p5), .val (.int (v0_7_l6 p0)), .val (.int (v0_17_l7 p0)), .val (.int (v0_30_l8 p0 p1)), .unset, .unset, .unset, .unset, .unset, .unset, .unset, .unset, .unset] [(.int (v0_37_s0 p0 p3 p5))])) t by
      by_cases hc37_195 : ((p3 >>> ((1 : Int32) &&& 31)) &&& (1 : Int32)) = (0 : Int32)
      · rw [(show (v0_37_s0 p0 p3 p5) = ((256 : Int32) + ((p5 &&& (2147483647 : Int32)) % (v0_17_l7 p0))) from if_pos hc37_195)] at k196
        show Steps p.tables e below (s₁.setTop (mkF m 37 #[.val (.int p0), .val (.int p1), .val (.int p2), .val (.int p3), .val (.int p4), .val (.int p5), .val (.int (v0_7_l6 p0)), .val (.int (v0_17_l7 p0)), .val (.int (v0_30_l8 p0 p1)), .unset, .unset, .unset, .unset, .unset, .unset, .unset, .unset, .unset] [(.int ((p3 >>> ((1 : Int32) &&& 31)) &&& (1 : Int32)))])) _
        refine XS.ifYes X0.here hx rfl (pc0 := 37) (pc' := 53) rfl (hb hby at_37) rfl ((if0 _ _).trans (teq hc37_195).1) (by decide) (by decide) ?_
        show Steps p.tables e below (s₁.setTop (mkF m 53 #[.val (.int p0), .val (.int p1), .val (.int p2), .val (.int p3), .val (.int p4), .val (.int p5), .val (.int (v0_7_l6 p0)), .val (.int (v0_17_l7 p0)), .val (.int (v0_30_l8 p0 p1)), .unset, .unset, .unset, .unset, .unset, .unset, .unset, .unset, .unset] [])) _
        refine XS.sipush X0.here hx rfl (hb hby at_53) ?_
        show Steps p.tables e below (s₁.setTop (mkF m 56 #[.val (.int p0), .val (.int p1), .val (.int p2), .val (.int p3), .val (.int p4), .val (.int p5), .val (.int (v0_7_l6 p0)), .val (.int (v0_17_l7 p0)), .val (.int (v0_30_l8 p0 p1)), .unset, .unset, .unset, .unset, .unset, .unset, .unset, .unset, .unset] [(.int (256 : Int32))])) _
        refine XS.iload X0.here hx rfl (hb hby at_56) rfl ?_
        show Steps p.tables e below (s₁.setTop (mkF m 58 #[.val (.int p0), .val (.int p1), .val (.int p2), .val (.int p3), .val (.int p4), .val (.int p5), .val (.int (v0_7_l6 p0)), .val (.int (v0_17_l7 p0)), .val (.int (v0_30_l8 p0 p1)), .unset, .unset, .unset, .unset, .unset, .unset, .unset, .unset, .unset] [(.int p5), (.int (256 : Int32))])) _
        refine X0.ldcInt hx hown (mvT hZ (hw _ (List.mem_of_getElem? (i := 0) rfl))) (g := (mkF m 58 #[.val (.int p0), .val (.int p1), .val (.int p2), .val (.int p3), .val (.int p4), .val (.int p5), .val (.int (v0_7_l6 p0)), .val (.int (v0_17_l7 p0)), .val (.int (v0_30_l8 p0 p1)), .unset, .unset, .unset, .unset, .unset, .unset, .unset, .unset, .unset] [(.int p5), (.int (256 : Int32))])) rfl (hb hby at_58) _ ?_
        show Steps p.tables e below (s₁.setTop (mkF m 60 #[.val (.int p0), .val (.int p1), .val (.int p2), .val (.int p3), .val (.int p4), .val (.int p5), .val (.int (v0_7_l6 p0)), .val (.int (v0_17_l7 p0)), .val (.int (v0_30_l8 p0 p1)), .unset, .unset, .unset, .unset, .unset, .unset, .unset, .unset, .unset] [(.int (2147483647 : Int32)), (.int p5), (.int (256 : Int32))])) _
        refine XS.iand X0.here hx rfl (hb hby at_60) rfl ?_
        show Steps p.tables e below (s₁.setTop (mkF m 61 #[.val (.int p0), .val (.int p1), .val (.int p2), .val (.int p3), .val (.int p4), .val (.int p5), .val (.int (v0_7_l6 p0)), .val (.int (v0_17_l7 p0)), .val (.int (v0_30_l8 p0 p1)), .unset, .unset, .unset, .unset, .unset, .unset, .unset, .unset, .unset] [(.int (p5 &&& (2147483647 : Int32))), (.int (256 : Int32))])) _
        refine XS.iload X0.here hx rfl (hb hby at_61) rfl ?_
        show Steps p.tables e below (s₁.setTop (mkF m 63 #[.val (.int p0), .val (.int p1), .val (.int p2), .val (.int p3), .val (.int p4), .val (.int p5), .val (.int (v0_7_l6 p0)), .val (.int (v0_17_l7 p0)), .val (.int (v0_30_l8 p0 p1)), .unset, .unset, .unset, .unset, .unset, .unset, .unset, .unset, .unset] [(.int (v0_17_l7 p0)), (.int (p5 &&& (2147483647 : Int32))), (.int (256 : Int32))])) _
        refine iremM X0 hx rfl (hb hby at_63) rfl (own_span p0) ?_
        show Steps p.tables e below (s₁.setTop (mkF m 64 #[.val (.int p0), .val (.int p1), .val (.int p2), .val (.int p3), .val (.int p4), .val (.int p5), .val (.int (v0_7_l6 p0)), .val (.int (v0_17_l7 p0)), .val (.int (v0_30_l8 p0 p1)), .unset, .unset, .unset, .unset, .unset, .unset, .unset, .unset, .unset] [(.int ((p5 &&& (2147483647 : Int32)) % (v0_17_l7 p0))), (.int (256 : Int32))])) _
        refine XS.iadd X0.here hx rfl (hb hby at_64) rfl ?_
        exact k196
      · rw [(show (v0_37_s0 p0 p3 p5) = ((256 : Int32) + (p5 &&& (255 : Int32))) from if_neg hc37_195)] at k196
        show Steps p.tables e below (s₁.setTop (mkF m 37 #[.val (.int p0), .val (.int p1), .val (.int p2), .val (.int p3), .val (.int p4), .val (.int p5), .val (.int (v0_7_l6 p0)), .val (.int (v0_17_l7 p0)), .val (.int (v0_30_l8 p0 p1)), .unset, .unset, .unset, .unset, .unset, .unset, .unset, .unset, .unset] [(.int ((p3 >>> ((1 : Int32) &&& 31)) &&& (1 : Int32)))])) _
        refine XS.ifNo X0.here hx rfl (hb hby at_37) rfl ((if0 _ _).trans (feq hc37_195).1) ?_
        show Steps p.tables e below (s₁.setTop (mkF m 40 #[.val (.int p0), .val (.int p1), .val (.int p2), .val (.int p3), .val (.int p4), .val (.int p5), .val (.int (v0_7_l6 p0)), .val (.int (v0_17_l7 p0)), .val (.int (v0_30_l8 p0 p1)), .unset, .unset, .unset, .unset, .unset, .unset, .unset, .unset, .unset] [])) _
        refine XS.sipush X0.here hx rfl (hb hby at_40) ?_
        show Steps p.tables e below (s₁.setTop (mkF m 43 #[.val (.int p0), .val (.int p1), .val (.int p2), .val (.int p3), .val (.int p4), .val (.int p5), .val (.int (v0_7_l6 p0)), .val (.int (v0_17_l7 p0)), .val (.int (v0_30_l8 p0 p1)), .unset, .unset, .unset, .unset, .unset, .unset, .unset, .unset, .unset] [(.int (256 : Int32))])) _
        refine XS.iload X0.here hx rfl (hb hby at_43) rfl ?_
        show Steps p.tables e below (s₁.setTop (mkF m 45 #[.val (.int p0), .val (.int p1), .val (.int p2), .val (.int p3), .val (.int p4), .val (.int p5), .val (.int (v0_7_l6 p0)), .val (.int (v0_17_l7 p0)), .val (.int (v0_30_l8 p0 p1)), .unset, .unset, .unset, .unset, .unset, .unset, .unset, .unset, .unset] [(.int p5), (.int (256 : Int32))])) _
        refine XS.sipush X0.here hx rfl (hb hby at_45) ?_
        show Steps p.tables e below (s₁.setTop (mkF m 48 #[.val (.int p0), .val (.int p1), .val (.int p2), .val (.int p3), .val (.int p4), .val (.int p5), .val (.int (v0_7_l6 p0)), .val (.int (v0_17_l7 p0)), .val (.int (v0_30_l8 p0 p1)), .unset, .unset, .unset, .unset, .unset, .unset, .unset, .unset, .unset] [(.int (255 : Int32)), (.int p5), (.int (256 : Int32))])) _
        refine XS.iand X0.here hx rfl (hb hby at_48) rfl ?_
        show Steps p.tables e below (s₁.setTop (mkF m 49 #[.val (.int p0), .val (.int p1), .val (.int p2), .val (.int p3), .val (.int p4), .val (.int p5), .val (.int (v0_7_l6 p0)), .val (.int (v0_17_l7 p0)), .val (.int (v0_30_l8 p0 p1)), .unset, .unset, .unset, .unset, .unset, .unset, .unset, .unset, .unset] [(.int (p5 &&& (255 : Int32))), (.int (256 : Int32))])) _
        refine XS.iadd X0.here hx rfl (hb hby at_49) rfl ?_
        show Steps p.tables e below (s₁.setTop (mkF m 50 #[.val (.int p0), .val (.int p1), .val (.int p2), .val (.int p3), .val (.int p4), .val (.int p5), .val (.int (v0_7_l6 p0)), .val (.int (v0_17_l7 p0)), .val (.int (v0_30_l8 p0 p1)), .unset, .unset, .unset, .unset, .unset, .unset, .unset, .unset, .unset] [(.int ((256 : Int32) + (p5 &&& (255 : Int32))))])) _
        refine XS.goto X0.here hx rfl (pc0 := 50) (pc' := 65) rfl (hb hby at_50) (by decide) (by decide) ?_
        exact k196
    show Steps p.tables e below (s₁.setTop (mkF m 65 #[.val (.int p0), .val (.int p1), .val (.int p2), .val (.int p3), .val (.int p4), .val (.int p5), .val (.int (v0_7_l6 p0)), .val (.int (v0_17_l7 p0)), .val (.int (v0_30_l8 p0 p1)), .unset, .unset, .unset, .unset, .unset, .unset, .unset, .unset, .unset] [(.int (v0_37_s0 p0 p3 p5))])) _
    refine XS.istore X0.here hx rfl (hb hby at_65) rfl (l' := #[.val (.int p0), .val (.int p1), .val (.int p2), .val (.int p3), .val (.int p4), .val (.int p5), .val (.int (v0_7_l6 p0)), .val (.int (v0_17_l7 p0)), .val (.int (v0_30_l8 p0 p1)), .val (.int (v0_37_s0 p0 p3 p5)), .unset, .unset, .unset, .unset, .unset, .unset, .unset, .unset]) rfl ?_
    show Steps p.tables e below (s₁.setTop (mkF m 67 #[.val (.int p0), .val (.int p1), .val (.int p2), .val (.int p3), .val (.int p4), .val (.int p5), .val (.int (v0_7_l6 p0)), .val (.int (v0_17_l7 p0)), .val (.int (v0_30_l8 p0 p1)), .val (.int (v0_37_s0 p0 p3 p5)), .unset, .unset, .unset, .unset, .unset, .unset, .unset, .unset] [])) _
    refine XS.iloadN X0.here hx rfl (hb hby at_67) rfl ?_
    show Steps p.tables e below (s₁.setTop (mkF m 68 #[.val (.int p0), .val (.int p1), .val (.int p2), .val (.int p3), .val (.int p4), .val (.int p5), .val (.int (v0_7_l6 p0)), .val (.int (v0_17_l7 p0)), .val (.int (v0_30_l8 p0 p1)), .val (.int (v0_37_s0 p0 p3 p5)), .unset, .unset, .unset, .unset, .unset, .unset, .unset, .unset] [(.int p2)])) _
    refine XS.bipush X0.here hx rfl (hb hby at_68) ?_
    show Steps p.tables e below (s₁.setTop (mkF m 70 #[.val (.int p0), .val (.int p1), .val (.int p2), .val (.int p3), .val (.int p4), .val (.int p5), .val (.int (v0_7_l6 p0)), .val (.int (v0_17_l7 p0)), .val (.int (v0_30_l8 p0 p1)), .val (.int (v0_37_s0 p0 p3 p5)), .unset, .unset, .unset, .unset, .unset, .unset, .unset, .unset] [(.int (15 : Int32)), (.int p2)])) _
    refine XS.iand X0.here hx rfl (hb hby at_70) rfl ?_
    show Steps p.tables e below (s₁.setTop (mkF m 71 #[.val (.int p0), .val (.int p1), .val (.int p2), .val (.int p3), .val (.int p4), .val (.int p5), .val (.int (v0_7_l6 p0)), .val (.int (v0_17_l7 p0)), .val (.int (v0_30_l8 p0 p1)), .val (.int (v0_37_s0 p0 p3 p5)), .unset, .unset, .unset, .unset, .unset, .unset, .unset, .unset] [(.int (p2 &&& (15 : Int32)))])) _
    refine XS.istore X0.here hx rfl (hb hby at_71) rfl (l' := #[.val (.int p0), .val (.int p1), .val (.int p2), .val (.int p3), .val (.int p4), .val (.int p5), .val (.int (v0_7_l6 p0)), .val (.int (v0_17_l7 p0)), .val (.int (v0_30_l8 p0 p1)), .val (.int (v0_37_s0 p0 p3 p5)), .val (.int (p2 &&& (15 : Int32))), .unset, .unset, .unset, .unset, .unset, .unset, .unset]) rfl ?_
    show Steps p.tables e below (s₁.setTop (mkF m 73 #[.val (.int p0), .val (.int p1), .val (.int p2), .val (.int p3), .val (.int p4), .val (.int p5), .val (.int (v0_7_l6 p0)), .val (.int (v0_17_l7 p0)), .val (.int (v0_30_l8 p0 p1)), .val (.int (v0_37_s0 p0 p3 p5)), .val (.int (p2 &&& (15 : Int32))), .unset, .unset, .unset, .unset, .unset, .unset, .unset] [])) _
    refine XS.iload X0.here hx rfl (hb hby at_73) rfl ?_
    show Steps p.tables e below (s₁.setTop (mkF m 75 #[.val (.int p0), .val (.int p1), .val (.int p2), .val (.int p3), .val (.int p4), .val (.int p5), .val (.int (v0_7_l6 p0)), .val (.int (v0_17_l7 p0)), .val (.int (v0_30_l8 p0 p1)), .val (.int (v0_37_s0 p0 p3 p5)), .val (.int (p2 &&& (15 : Int32))), .unset, .unset, .unset, .unset, .unset, .unset, .unset] [(.int p4)])) _
    refine XS.bipush X0.here hx rfl (hb hby at_75) ?_
    show Steps p.tables e below (s₁.setTop (mkF m 77 #[.val (.int p0), .val (.int p1), .val (.int p2), .val (.int p3), .val (.int p4), .val (.int p5), .val (.int (v0_7_l6 p0)), .val (.int (v0_17_l7 p0)), .val (.int (v0_30_l8 p0 p1)), .val (.int (v0_37_s0 p0 p3 p5)), .val (.int (p2 &&& (15 : Int32))), .unset, .unset, .unset, .unset, .unset, .unset, .unset] [(.int (15 : Int32)), (.int p4)])) _
    refine XS.iand X0.here hx rfl (hb hby at_77) rfl ?_
    show Steps p.tables e below (s₁.setTop (mkF m 78 #[.val (.int p0), .val (.int p1), .val (.int p2), .val (.int p3), .val (.int p4), .val (.int p5), .val (.int (v0_7_l6 p0)), .val (.int (v0_17_l7 p0)), .val (.int (v0_30_l8 p0 p1)), .val (.int (v0_37_s0 p0 p3 p5)), .val (.int (p2 &&& (15 : Int32))), .unset, .unset, .unset, .unset, .unset, .unset, .unset] [(.int (p4 &&& (15 : Int32)))])) _
    refine XS.istore X0.here hx rfl (hb hby at_78) rfl (l' := #[.val (.int p0), .val (.int p1), .val (.int p2), .val (.int p3), .val (.int p4), .val (.int p5), .val (.int (v0_7_l6 p0)), .val (.int (v0_17_l7 p0)), .val (.int (v0_30_l8 p0 p1)), .val (.int (v0_37_s0 p0 p3 p5)), .val (.int (p2 &&& (15 : Int32))), .val (.int (p4 &&& (15 : Int32))), .unset, .unset, .unset, .unset, .unset, .unset]) rfl ?_
    exact kk)
  obtain ⟨T198, h198, X198, e198, E198, A198, D198, -, st198⟩ := newO X0 hx hZ hown (hw _ (List.mem_of_getElem? (i := 1) rfl)) (hw _ (List.mem_of_getElem? (i := 2) rfl)) (hw _ (List.mem_of_getElem? (i := 3) rfl)) e0 (g := (mkF m 80 #[.val (.int p0), .val (.int p1), .val (.int p2), .val (.int p3), .val (.int p4), .val (.int p5), .val (.int (v0_7_l6 p0)), .val (.int (v0_17_l7 p0)), .val (.int (v0_30_l8 p0 p1)), .val (.int (v0_37_s0 p0 p3 p5)), .val (.int (p2 &&& (15 : Int32))), .val (.int (p4 &&& (15 : Int32))), .unset, .unset, .unset, .unset, .unset, .unset] [])) rfl (hb hby at_80) (by decide) (by decide)
  obtain ⟨b198, g198⟩ : ∃ z, z = h0.size := ⟨_, rfl⟩
  rw [← g198] at A198 D198 st198
  have g_b198 : n0 ≤ b198 := Nat.le_trans (Nat.le_trans Z0 KC0.1) (Nat.le_of_eq g198.symm)
  have sz_b198 : h0.size ≤ b198 := Nat.le_trans KC0.1 (Nat.le_of_eq g198.symm)
  have K198 : Keep h0 h198 [] := KC0.ext E198
  have F_maxBits_b198 : Fld Z h198 b198 "phrasebook/ZFormat$Layout" "maxBits" "I" (.int (0 : Int32)) := D198 (Or.inr (hw _ (List.mem_of_getElem? (i := 11) rfl))) (ty := .int) (by decide)
  have F_width_b198 : Fld Z h198 b198 "phrasebook/ZFormat$Layout" "width" "I" (.int (0 : Int32)) := D198 (Or.inl (hw _ (List.mem_of_getElem? (i := 18) rfl))) (ty := .int) (by decide)
  have F_codesInGroup_b198 : Fld Z h198 b198 "phrasebook/ZFormat$Layout" "codesInGroup" "I" (.int (0 : Int32)) := D198 (Or.inl (hw _ (List.mem_of_getElem? (i := 20) rfl))) (ty := .int) (by decide)
  have F_groupEnded_b198 : Fld Z h198 b198 "phrasebook/ZFormat$Layout" "groupEnded" "Z" (.int (0 : Int32)) := D198 (Or.inl (hw _ (List.mem_of_getElem? (i := 22) rfl))) (ty := .boolean) (by decide)
  have k199 := fun (t : State) (kk : Steps p.tables e below (T198.setTop (mkF m 83 #[.val (.int p0), .val (.int p1), .val (.int p2), .val (.int p3), .val (.int p4), .val (.int p5), .val (.int (v0_7_l6 p0)), .val (.int (v0_17_l7 p0)), .val (.int (v0_30_l8 p0 p1)), .val (.int (v0_37_s0 p0 p3 p5)), .val (.int (p2 &&& (15 : Int32))), .val (.int (p4 &&& (15 : Int32))), .unset, .unset, .unset, .unset, .unset, .unset] [(.ref b198)])) t) => k197 t (st198 _ kk)
  have k200 := fun (t : State) (kk : Steps p.tables e below (T198.setTop (mkF m 86 #[.val (.int p0), .val (.int p1), .val (.int p2), .val (.int p3), .val (.int p4), .val (.int p5), .val (.int (v0_7_l6 p0)), .val (.int (v0_17_l7 p0)), .val (.int (v0_30_l8 p0 p1)), .val (.int (v0_37_s0 p0 p3 p5)), .val (.int (p2 &&& (15 : Int32))), .val (.int (p4 &&& (15 : Int32))), .unset, .unset, .unset, .unset, .unset, .unset] [(.int (v0_7_l6 p0)), (.ref b198), (.ref b198)])) t) => k199 t (by
    show Steps p.tables e below (T198.setTop (mkF m 83 #[.val (.int p0), .val (.int p1), .val (.int p2), .val (.int p3), .val (.int p4), .val (.int p5), .val (.int (v0_7_l6 p0)), .val (.int (v0_17_l7 p0)), .val (.int (v0_30_l8 p0 p1)), .val (.int (v0_37_s0 p0 p3 p5)), .val (.int (p2 &&& (15 : Int32))), .val (.int (p4 &&& (15 : Int32))), .unset, .unset, .unset, .unset, .unset, .unset] [(.ref b198)])) _
    refine XS.dup X198.here hx rfl (hb hby at_83) rfl rfl ?_
    show Steps p.tables e below (T198.setTop (mkF m 84 #[.val (.int p0), .val (.int p1), .val (.int p2), .val (.int p3), .val (.int p4), .val (.int p5), .val (.int (v0_7_l6 p0)), .val (.int (v0_17_l7 p0)), .val (.int (v0_30_l8 p0 p1)), .val (.int (v0_37_s0 p0 p3 p5)), .val (.int (p2 &&& (15 : Int32))), .val (.int (p4 &&& (15 : Int32))), .unset, .unset, .unset, .unset, .unset, .unset] [(.ref b198), (.ref b198)])) _
    refine XS.iload X198.here hx rfl (hb hby at_84) rfl ?_
    exact kk)
  have Zz201 : n0 ≤ h198.size := (Nat.le_trans Z0 K198.1)
  obtain ⟨_, _, ⟨T201, L201, k201, n201⟩, -, X201, ⟨Lc201, hQ201, l201, y201, z201⟩, st201⟩ := X198.specialBack hx (y := (⟨"phrasebook/ZFormat$Layout", "<init>", "(I)V"⟩ : MethodName)) rfl hown (mvT hZ (hw _ (List.mem_of_getElem? (i := 4) rfl))) (mvT hZ (hw _ (List.mem_of_getElem? (i := 5) rfl))) (mvT hZ (hw _ (List.mem_of_getElem? (i := 6) rfl))) (by decide) (backOf (W := 1) (rm1 l Z a0 hw [] b198 (v0_7_l6 p0) (0 : Int32) (0 : Int32) (0 : Int32) (0 : Int32) h198 n0 Zz201 A198 F_maxBits_b198 g_b198 F_width_b198 F_codesInGroup_b198 F_groupEnded_b198) hZ (hw _ (List.mem_of_getElem? (i := 6) rfl)) (hw _ (List.mem_of_getElem? (i := 3) rfl)) (by decide) (by decide)) (g := (mkF m 86 #[.val (.int p0), .val (.int p1), .val (.int p2), .val (.int p3), .val (.int p4), .val (.int p5), .val (.int (v0_7_l6 p0)), .val (.int (v0_17_l7 p0)), .val (.int (v0_30_l8 p0 p1)), .val (.int (v0_37_s0 p0 p3 p5)), .val (.int (p2 &&& (15 : Int32))), .val (.int (p4 &&& (15 : Int32))), .unset, .unset, .unset, .unset, .unset, .unset] [(.int (v0_7_l6 p0)), (.ref b198), (.ref b198)])) rfl (by rw [hml]; rfl) (Steps.refl _) (a := b198) (argsL := [(.int (v0_7_l6 p0))]) (rest := [(.ref b198)]) (lenOf pd_5 rfl) rfl (by show 2 * 0 + _ ≤ _; exact Nat.le_of_eq rfl) (hb hby at_86) (fun _ _ => ⟨rfl, e198, (by decide : 1 + 0 ≤ _), (by decide : 4 + 0 ≤ _)⟩)
  dsimp only [Pt.U, Pt.locs, Pt.cells, Pt.slots] at X201 l201 y201 z201 st201 hQ201
  subst l201 y201 z201
  obtain ⟨rfl, N201q, Kq201, Eq201_0, Fq201_0, Fq201_1, Fq201_2, Fq201_3⟩ := hQ201
  have K201 : Keep h0 T201.heap [] := K198.trans Kq201 (allS (Or.inr sz_b198) all0)
  have N201 := Fr.app N0 N201q
  have k202 := fun (t : State) (kk : Steps p.tables e below (T201.setTop (mkF m 89 #[.val (.int p0), .val (.int p1), .val (.int p2), .val (.int p3), .val (.int p4), .val (.int p5), .val (.int (v0_7_l6 p0)), .val (.int (v0_17_l7 p0)), .val (.int (v0_30_l8 p0 p1)), .val (.int (v0_37_s0 p0 p3 p5)), .val (.int (p2 &&& (15 : Int32))), .val (.int (p4 &&& (15 : Int32))), .unset, .unset, .unset, .unset, .unset, .unset] [(.ref b198)])) t) => k200 t (st201.trans kk)
  have k203 := fun (t : State) (kk : Steps p.tables e below (T201.setTop (mkF m 95 #[.val (.int p0), .val (.int p1), .val (.int p2), .val (.int p3), .val (.int p4), .val (.int p5), .val (.int (v0_7_l6 p0)), .val (.int (v0_17_l7 p0)), .val (.int (v0_30_l8 p0 p1)), .val (.int (v0_37_s0 p0 p3 p5)), .val (.int (p2 &&& (15 : Int32))), .val (.int (p4 &&& (15 : Int32))), .val (.ref b198), .unset, .unset, .unset, .unset, .unset] [(.int (v0_30_l8 p0 p1)), (.ref b198)])) t) => k202 t (by
    show Steps p.tables e below (T201.setTop (mkF m 89 #[.val (.int p0), .val (.int p1), .val (.int p2), .val (.int p3), .val (.int p4), .val (.int p5), .val (.int (v0_7_l6 p0)), .val (.int (v0_17_l7 p0)), .val (.int (v0_30_l8 p0 p1)), .val (.int (v0_37_s0 p0 p3 p5)), .val (.int (p2 &&& (15 : Int32))), .val (.int (p4 &&& (15 : Int32))), .unset, .unset, .unset, .unset, .unset, .unset] [(.ref b198)])) _
    refine XS.astore X201.here hx rfl (hb hby at_89) rfl rfl (l' := #[.val (.int p0), .val (.int p1), .val (.int p2), .val (.int p3), .val (.int p4), .val (.int p5), .val (.int (v0_7_l6 p0)), .val (.int (v0_17_l7 p0)), .val (.int (v0_30_l8 p0 p1)), .val (.int (v0_37_s0 p0 p3 p5)), .val (.int (p2 &&& (15 : Int32))), .val (.int (p4 &&& (15 : Int32))), .val (.ref b198), .unset, .unset, .unset, .unset, .unset]) rfl ?_
    show Steps p.tables e below (T201.setTop (mkF m 91 #[.val (.int p0), .val (.int p1), .val (.int p2), .val (.int p3), .val (.int p4), .val (.int p5), .val (.int (v0_7_l6 p0)), .val (.int (v0_17_l7 p0)), .val (.int (v0_30_l8 p0 p1)), .val (.int (v0_37_s0 p0 p3 p5)), .val (.int (p2 &&& (15 : Int32))), .val (.int (p4 &&& (15 : Int32))), .val (.ref b198), .unset, .unset, .unset, .unset, .unset] [])) _
    refine XS.aload X201.here hx rfl (hb hby at_91) rfl rfl ?_
    show Steps p.tables e below (T201.setTop (mkF m 93 #[.val (.int p0), .val (.int p1), .val (.int p2), .val (.int p3), .val (.int p4), .val (.int p5), .val (.int (v0_7_l6 p0)), .val (.int (v0_17_l7 p0)), .val (.int (v0_30_l8 p0 p1)), .val (.int (v0_37_s0 p0 p3 p5)), .val (.int (p2 &&& (15 : Int32))), .val (.int (p4 &&& (15 : Int32))), .val (.ref b198), .unset, .unset, .unset, .unset, .unset] [(.ref b198)])) _
    refine XS.iload X201.here hx rfl (hb hby at_93) rfl ?_
    exact kk)
  have Zz204 : n0 ≤ T201.heap.size := (Nat.le_trans Z0 K201.1)
  obtain ⟨cq204, kq204, q204a, q204b, q204c⟩ := isOf hZ rfl Eq201_0
  obtain ⟨_, _, ⟨T204, L204, k204, n204⟩, -, X204, ⟨Lc204, hQ204, l204, y204, z204⟩, st204⟩ := X201.virtualBack hx (y := (⟨"phrasebook/ZFormat$Layout", "place", "(I)I"⟩ : MethodName)) (z := (⟨"phrasebook/ZFormat$Layout", "place", "(I)I"⟩ : MethodName)) hown (mvT hZ (hw _ (List.mem_of_getElem? (i := 23) rfl))) (mvT hZ (hw _ (List.mem_of_getElem? (i := 24) rfl))) (notFace_of_selects (args := #[]) (mvT hZ (hw _ (List.mem_of_getElem? (i := 26) rfl)))) (mvT hZ (hw _ (List.mem_of_getElem? (i := 26) rfl))) (mvT hZ (hw _ (List.mem_of_getElem? (i := 25) rfl))) (by decide) (backOf (W := 0) (rm4 l Z a0 hw [] b198 (v0_30_l8 p0 p1) (v0_7_l6 p0) (9 : Int32) (0 : Int32) (0 : Int32) T201.heap n0 Zz204 Fq201_0 Eq201_0 Fq201_1 Fq201_3 g_b198 Fq201_2) hZ (hw _ (List.mem_of_getElem? (i := 27) rfl)) (hw _ (List.mem_of_getElem? (i := 3) rfl)) (by decide) (by decide)) q204a q204c (g := (mkF m 95 #[.val (.int p0), .val (.int p1), .val (.int p2), .val (.int p3), .val (.int p4), .val (.int p5), .val (.int (v0_7_l6 p0)), .val (.int (v0_17_l7 p0)), .val (.int (v0_30_l8 p0 p1)), .val (.int (v0_37_s0 p0 p3 p5)), .val (.int (p2 &&& (15 : Int32))), .val (.int (p4 &&& (15 : Int32))), .val (.ref b198), .unset, .unset, .unset, .unset, .unset] [(.int (v0_30_l8 p0 p1)), (.ref b198)])) rfl (by rw [hml]; rfl) (Steps.refl _) (argsL := [(.int (v0_30_l8 p0 p1))]) (rest := []) (lenOf pd_1 rfl) rfl (by show 2 * 0 + _ ≤ _; exact Nat.le_of_eq rfl) (hb hby at_95) (fun _ _ => ⟨rfl, rfl, (by decide : 1 + 0 ≤ _), (by decide : 4 + 0 ≤ _)⟩)
  dsimp only [Pt.U, Pt.locs, Pt.cells, Pt.slots] at X204 l204 y204 z204 st204 hQ204
  subst l204 y204 z204
  obtain ⟨rfl, N204q, Kq204, Eq204_0, Fq204_0, Fq204_1, Fq204_2, Fq204_3⟩ := hQ204
  have K204 : Keep h0 T204.heap [] := K201.trans Kq204 (allS (Or.inr sz_b198) all0)
  have N204 := Fr.app N201 N204q
  have k205 := fun (t : State) (kk : Steps p.tables e below (T204.setTop (mkF m 98 #[.val (.int p0), .val (.int p1), .val (.int p2), .val (.int p3), .val (.int p4), .val (.int p5), .val (.int (v0_7_l6 p0)), .val (.int (v0_17_l7 p0)), .val (.int (v0_30_l8 p0 p1)), .val (.int (v0_37_s0 p0 p3 p5)), .val (.int (p2 &&& (15 : Int32))), .val (.int (p4 &&& (15 : Int32))), .val (.ref b198), .unset, .unset, .unset, .unset, .unset] [(.int (v4_ret (v0_30_l8 p0 p1) (v0_7_l6 p0) (9 : Int32) (0 : Int32) (0 : Int32)))])) t) => k203 t (st204.trans kk)
  have k206 := fun (t : State) (kk : Steps p.tables e below (T204.setTop (mkF m 103 #[.val (.int p0), .val (.int p1), .val (.int p2), .val (.int p3), .val (.int p4), .val (.int p5), .val (.int (v0_7_l6 p0)), .val (.int (v0_17_l7 p0)), .val (.int (v0_30_l8 p0 p1)), .val (.int (v0_37_s0 p0 p3 p5)), .val (.int (p2 &&& (15 : Int32))), .val (.int (p4 &&& (15 : Int32))), .val (.ref b198), .unset, .unset, .unset, .unset, .unset] [(.int (p2 &&& (15 : Int32))), (.ref b198)])) t) => k205 t (by
    show Steps p.tables e below (T204.setTop (mkF m 98 #[.val (.int p0), .val (.int p1), .val (.int p2), .val (.int p3), .val (.int p4), .val (.int p5), .val (.int (v0_7_l6 p0)), .val (.int (v0_17_l7 p0)), .val (.int (v0_30_l8 p0 p1)), .val (.int (v0_37_s0 p0 p3 p5)), .val (.int (p2 &&& (15 : Int32))), .val (.int (p4 &&& (15 : Int32))), .val (.ref b198), .unset, .unset, .unset, .unset, .unset] [(.int (v4_ret (v0_30_l8 p0 p1) (v0_7_l6 p0) (9 : Int32) (0 : Int32) (0 : Int32)))])) _
    refine XS.pop X204.here hx rfl (hb hby at_98) rfl rfl ?_
    show Steps p.tables e below (T204.setTop (mkF m 99 #[.val (.int p0), .val (.int p1), .val (.int p2), .val (.int p3), .val (.int p4), .val (.int p5), .val (.int (v0_7_l6 p0)), .val (.int (v0_17_l7 p0)), .val (.int (v0_30_l8 p0 p1)), .val (.int (v0_37_s0 p0 p3 p5)), .val (.int (p2 &&& (15 : Int32))), .val (.int (p4 &&& (15 : Int32))), .val (.ref b198), .unset, .unset, .unset, .unset, .unset] [])) _
    refine XS.aload X204.here hx rfl (hb hby at_99) rfl rfl ?_
    show Steps p.tables e below (T204.setTop (mkF m 101 #[.val (.int p0), .val (.int p1), .val (.int p2), .val (.int p3), .val (.int p4), .val (.int p5), .val (.int (v0_7_l6 p0)), .val (.int (v0_17_l7 p0)), .val (.int (v0_30_l8 p0 p1)), .val (.int (v0_37_s0 p0 p3 p5)), .val (.int (p2 &&& (15 : Int32))), .val (.int (p4 &&& (15 : Int32))), .val (.ref b198), .unset, .unset, .unset, .unset, .unset] [(.ref b198)])) _
    refine XS.iload X204.here hx rfl (hb hby at_101) rfl ?_
    exact kk)
  have Zz207 : n0 ≤ T204.heap.size := (Nat.le_trans Z0 K204.1)
  obtain ⟨cq207, kq207, q207a, q207b, q207c⟩ := isOf hZ rfl Eq204_0
  obtain ⟨_, _, ⟨T207, L207, k207, n207⟩, -, X207, ⟨Lc207, hQ207, l207, y207, z207⟩, st207⟩ := X204.virtualBack hx (y := (⟨"phrasebook/ZFormat$Layout", "placeMore", "(I)V"⟩ : MethodName)) (z := (⟨"phrasebook/ZFormat$Layout", "placeMore", "(I)V"⟩ : MethodName)) hown (mvT hZ (hw _ (List.mem_of_getElem? (i := 41) rfl))) (mvT hZ (hw _ (List.mem_of_getElem? (i := 42) rfl))) (notFace_of_selects (args := #[]) (mvT hZ (hw _ (List.mem_of_getElem? (i := 44) rfl)))) (mvT hZ (hw _ (List.mem_of_getElem? (i := 44) rfl))) (mvT hZ (hw _ (List.mem_of_getElem? (i := 43) rfl))) (by decide) (backOf (W := 0) (rm8 l Z a0 hw [] b198 (p2 &&& (15 : Int32)) (v4_f_codesInGroup_ra0 (v0_30_l8 p0 p1) (v0_7_l6 p0) (9 : Int32) (0 : Int32) (0 : Int32)) (v0_7_l6 p0) (v5_ret (v0_30_l8 p0 p1) (v0_7_l6 p0)) (v4_f_groupEnded_ra0 (v0_30_l8 p0 p1) (v0_7_l6 p0) (9 : Int32) (0 : Int32)) T204.heap n0 Zz207 Fq204_2 Eq204_0 g_b198 Fq204_0 Fq204_1 Fq204_3) hZ (hw _ (List.mem_of_getElem? (i := 45) rfl)) (hw _ (List.mem_of_getElem? (i := 3) rfl)) (by decide) (by decide)) q207a q207c (g := (mkF m 103 #[.val (.int p0), .val (.int p1), .val (.int p2), .val (.int p3), .val (.int p4), .val (.int p5), .val (.int (v0_7_l6 p0)), .val (.int (v0_17_l7 p0)), .val (.int (v0_30_l8 p0 p1)), .val (.int (v0_37_s0 p0 p3 p5)), .val (.int (p2 &&& (15 : Int32))), .val (.int (p4 &&& (15 : Int32))), .val (.ref b198), .unset, .unset, .unset, .unset, .unset] [(.int (p2 &&& (15 : Int32))), (.ref b198)])) rfl (by rw [hml]; rfl) (Steps.refl _) (argsL := [(.int (p2 &&& (15 : Int32)))]) (rest := []) (lenOf pd_5 rfl) rfl (by show 2 * 0 + _ ≤ _; exact Nat.le_of_eq rfl) (hb hby at_103) (fun _ _ => ⟨rfl, rfl, (by decide : 1 + 0 ≤ _), (by decide : 4 + 0 ≤ _)⟩)
  dsimp only [Pt.U, Pt.locs, Pt.cells, Pt.slots] at X207 l207 y207 z207 st207 hQ207
  subst l207 y207 z207
  obtain ⟨rfl, N207q, Kq207, Eq207_0, Fq207_0, Fq207_1, Fq207_2, Fq207_3⟩ := hQ207
  have K207 : Keep h0 T207.heap [] := K204.trans Kq207 (allS (Or.inr sz_b198) all0)
  have N207 := Fr.app N204 N207q
  have k208 := fun (t : State) (kk : Steps p.tables e below (T207.setTop (mkF m 106 #[.val (.int p0), .val (.int p1), .val (.int p2), .val (.int p3), .val (.int p4), .val (.int p5), .val (.int (v0_7_l6 p0)), .val (.int (v0_17_l7 p0)), .val (.int (v0_30_l8 p0 p1)), .val (.int (v0_37_s0 p0 p3 p5)), .val (.int (p2 &&& (15 : Int32))), .val (.int (p4 &&& (15 : Int32))), .val (.ref b198), .unset, .unset, .unset, .unset, .unset] [])) t) => k206 t (st207.trans kk)
  have k209 := fun (t : State) (kk : Steps p.tables e below (T207.setTop (mkF m 109 #[.val (.int p0), .val (.int p1), .val (.int p2), .val (.int p3), .val (.int p4), .val (.int p5), .val (.int (v0_7_l6 p0)), .val (.int (v0_17_l7 p0)), .val (.int (v0_30_l8 p0 p1)), .val (.int (v0_37_s0 p0 p3 p5)), .val (.int (p2 &&& (15 : Int32))), .val (.int (p4 &&& (15 : Int32))), .val (.ref b198), .unset, .unset, .unset, .unset, .unset] [(.int (p3 &&& (1 : Int32)))])) t) => k208 t (by
    show Steps p.tables e below (T207.setTop (mkF m 106 #[.val (.int p0), .val (.int p1), .val (.int p2), .val (.int p3), .val (.int p4), .val (.int p5), .val (.int (v0_7_l6 p0)), .val (.int (v0_17_l7 p0)), .val (.int (v0_30_l8 p0 p1)), .val (.int (v0_37_s0 p0 p3 p5)), .val (.int (p2 &&& (15 : Int32))), .val (.int (p4 &&& (15 : Int32))), .val (.ref b198), .unset, .unset, .unset, .unset, .unset] [])) _
    refine XS.iloadN X207.here hx rfl (hb hby at_106) rfl ?_
    show Steps p.tables e below (T207.setTop (mkF m 107 #[.val (.int p0), .val (.int p1), .val (.int p2), .val (.int p3), .val (.int p4), .val (.int p5), .val (.int (v0_7_l6 p0)), .val (.int (v0_17_l7 p0)), .val (.int (v0_30_l8 p0 p1)), .val (.int (v0_37_s0 p0 p3 p5)), .val (.int (p2 &&& (15 : Int32))), .val (.int (p4 &&& (15 : Int32))), .val (.ref b198), .unset, .unset, .unset, .unset, .unset] [(.int p3)])) _
    refine XS.iconst X207.here hx rfl (hb hby at_107) ?_
    show Steps p.tables e below (T207.setTop (mkF m 108 #[.val (.int p0), .val (.int p1), .val (.int p2), .val (.int p3), .val (.int p4), .val (.int p5), .val (.int (v0_7_l6 p0)), .val (.int (v0_17_l7 p0)), .val (.int (v0_30_l8 p0 p1)), .val (.int (v0_37_s0 p0 p3 p5)), .val (.int (p2 &&& (15 : Int32))), .val (.int (p4 &&& (15 : Int32))), .val (.ref b198), .unset, .unset, .unset, .unset, .unset] [(.int (1 : Int32)), (.int p3)])) _
    refine XS.iand X207.here hx rfl (hb hby at_108) rfl ?_
    exact kk)
  by_cases hc109_210 : (p3 &&& (1 : Int32)) = (0 : Int32)
  · have k211 := fun (t : State) (kk : Steps p.tables e below (T207.setTop (mkF m 119 #[.val (.int p0), .val (.int p1), .val (.int p2), .val (.int p3), .val (.int p4), .val (.int p5), .val (.int (v0_7_l6 p0)), .val (.int (v0_17_l7 p0)), .val (.int (v0_30_l8 p0 p1)), .val (.int (v0_37_s0 p0 p3 p5)), .val (.int (p2 &&& (15 : Int32))), .val (.int (p4 &&& (15 : Int32))), .val (.ref b198), .unset, .unset, .unset, .unset, .unset] [(.ref b198)])) t) => k209 t (by
      show Steps p.tables e below (T207.setTop (mkF m 109 #[.val (.int p0), .val (.int p1), .val (.int p2), .val (.int p3), .val (.int p4), .val (.int p5), .val (.int (v0_7_l6 p0)), .val (.int (v0_17_l7 p0)), .val (.int (v0_30_l8 p0 p1)), .val (.int (v0_37_s0 p0 p3 p5)), .val (.int (p2 &&& (15 : Int32))), .val (.int (p4 &&& (15 : Int32))), .val (.ref b198), .unset, .unset, .unset, .unset, .unset] [(.int (p3 &&& (1 : Int32)))])) _
      refine XS.ifYes X207.here hx rfl (pc0 := 109) (pc' := 117) rfl (hb hby at_109) rfl ((if0 _ _).trans (teq hc109_210).1) (by decide) (by decide) ?_
      show Steps p.tables e below (T207.setTop (mkF m 117 #[.val (.int p0), .val (.int p1), .val (.int p2), .val (.int p3), .val (.int p4), .val (.int p5), .val (.int (v0_7_l6 p0)), .val (.int (v0_17_l7 p0)), .val (.int (v0_30_l8 p0 p1)), .val (.int (v0_37_s0 p0 p3 p5)), .val (.int (p2 &&& (15 : Int32))), .val (.int (p4 &&& (15 : Int32))), .val (.ref b198), .unset, .unset, .unset, .unset, .unset] [])) _
      refine XS.aload X207.here hx rfl (hb hby at_117) rfl rfl ?_
      exact kk)
    have Zz212 : n0 ≤ T207.heap.size := (Nat.le_trans Z0 K207.1)
    obtain ⟨cq212, kq212, q212a, q212b, q212c⟩ := isOf hZ rfl Eq207_0
    obtain ⟨_, _, ⟨T212, L212, k212, n212⟩, -, X212, ⟨Lc212, hQ212, l212, y212, z212⟩, st212⟩ := X207.virtualBack hx (y := (⟨"phrasebook/ZFormat$Layout", "restart", "()V"⟩ : MethodName)) (z := (⟨"phrasebook/ZFormat$Layout", "restart", "()V"⟩ : MethodName)) hown (mvT hZ (hw _ (List.mem_of_getElem? (i := 51) rfl))) (mvT hZ (hw _ (List.mem_of_getElem? (i := 13) rfl))) (notFace_of_selects (args := #[]) (mvT hZ (hw _ (List.mem_of_getElem? (i := 15) rfl)))) (mvT hZ (hw _ (List.mem_of_getElem? (i := 15) rfl))) (mvT hZ (hw _ (List.mem_of_getElem? (i := 14) rfl))) (by decide) (backOf (W := 0) (rm3 l Z a0 hw [] b198 (v5_ret (v0_30_l8 p0 p1) (v0_7_l6 p0)) (((v4_f_codesInGroup_ra0 (v0_30_l8 p0 p1) (v0_7_l6 p0) (9 : Int32) (0 : Int32) (0 : Int32)) + (p2 &&& (15 : Int32))) % (8 : Int32)) (v4_f_groupEnded_ra0 (v0_30_l8 p0 p1) (v0_7_l6 p0) (9 : Int32) (0 : Int32)) (v0_7_l6 p0) T207.heap n0 Zz212 Eq207_0 Fq207_1 g_b198 Fq207_2 Fq207_3 Fq207_0) hZ (hw _ (List.mem_of_getElem? (i := 16) rfl)) (hw _ (List.mem_of_getElem? (i := 3) rfl)) (by decide) (by decide)) q212a q212c (g := (mkF m 119 #[.val (.int p0), .val (.int p1), .val (.int p2), .val (.int p3), .val (.int p4), .val (.int p5), .val (.int (v0_7_l6 p0)), .val (.int (v0_17_l7 p0)), .val (.int (v0_30_l8 p0 p1)), .val (.int (v0_37_s0 p0 p3 p5)), .val (.int (p2 &&& (15 : Int32))), .val (.int (p4 &&& (15 : Int32))), .val (.ref b198), .unset, .unset, .unset, .unset, .unset] [(.ref b198)])) rfl (by rw [hml]; rfl) (Steps.refl _) (argsL := []) (rest := []) (lenOf pd_0 rfl) rfl (by show 2 * 0 + _ ≤ _; exact Nat.le_of_eq rfl) (hb hby at_119) (fun _ _ => ⟨rfl, rfl, (by decide : 1 + 0 ≤ _), (by decide : 4 + 0 ≤ _)⟩)
    dsimp only [Pt.U, Pt.locs, Pt.cells, Pt.slots] at X212 l212 y212 z212 st212 hQ212
    subst l212 y212 z212
    obtain ⟨rfl, N212q, Kq212, Eq212_0, Fq212_0, Fq212_1, Fq212_2, Fq212_3⟩ := hQ212
    have K212 : Keep h0 T212.heap [] := K207.trans Kq212 (allS (Or.inr sz_b198) all0)
    have N212 := Fr.app N207 N212q
    have k213 := fun (t : State) (kk : Steps p.tables e below (T212.setTop (mkF m 122 #[.val (.int p0), .val (.int p1), .val (.int p2), .val (.int p3), .val (.int p4), .val (.int p5), .val (.int (v0_7_l6 p0)), .val (.int (v0_17_l7 p0)), .val (.int (v0_30_l8 p0 p1)), .val (.int (v0_37_s0 p0 p3 p5)), .val (.int (p2 &&& (15 : Int32))), .val (.int (p4 &&& (15 : Int32))), .val (.ref b198), .unset, .unset, .unset, .unset, .unset] [])) t) => k211 t (st212.trans kk)
    have k214 := fun (t : State) (kk : Steps p.tables e below (T212.setTop (mkF m 124 #[.val (.int p0), .val (.int p1), .val (.int p2), .val (.int p3), .val (.int p4), .val (.int p5), .val (.int (v0_7_l6 p0)), .val (.int (v0_17_l7 p0)), .val (.int (v0_30_l8 p0 p1)), .val (.int (v0_37_s0 p0 p3 p5)), .val (.int (p2 &&& (15 : Int32))), .val (.int (p4 &&& (15 : Int32))), .val (.ref b198), .unset, .unset, .unset, .unset, .unset] [(.ref b198)])) t) => k213 t (by
      show Steps p.tables e below (T212.setTop (mkF m 122 #[.val (.int p0), .val (.int p1), .val (.int p2), .val (.int p3), .val (.int p4), .val (.int p5), .val (.int (v0_7_l6 p0)), .val (.int (v0_17_l7 p0)), .val (.int (v0_30_l8 p0 p1)), .val (.int (v0_37_s0 p0 p3 p5)), .val (.int (p2 &&& (15 : Int32))), .val (.int (p4 &&& (15 : Int32))), .val (.ref b198), .unset, .unset, .unset, .unset, .unset] [])) _
      refine XS.aload X212.here hx rfl (hb hby at_122) rfl rfl ?_
      exact kk)
    have Zz215 : n0 ≤ T212.heap.size := (Nat.le_trans Z0 K212.1)
    obtain ⟨cq215, kq215, q215a, q215b, q215c⟩ := isOf hZ rfl Eq212_0
    obtain ⟨_, _, ⟨T215, L215, k215, n215⟩, -, X215, ⟨Lc215, hQ215, l215, y215, z215⟩, st215⟩ := X212.virtualBack hx (y := (⟨"phrasebook/ZFormat$Layout", "width", "()I"⟩ : MethodName)) (z := (⟨"phrasebook/ZFormat$Layout", "width", "()I"⟩ : MethodName)) hown (mvT hZ (hw _ (List.mem_of_getElem? (i := 52) rfl))) (mvT hZ (hw _ (List.mem_of_getElem? (i := 53) rfl))) (notFace_of_selects (args := #[]) (mvT hZ (hw _ (List.mem_of_getElem? (i := 55) rfl)))) (mvT hZ (hw _ (List.mem_of_getElem? (i := 55) rfl))) (mvT hZ (hw _ (List.mem_of_getElem? (i := 54) rfl))) (by decide) (backOf (W := 0) (rm10 l Z a0 hw [] b198 (9 : Int32) T212.heap n0 Zz215 Fq212_1) hZ (hw _ (List.mem_of_getElem? (i := 56) rfl)) (hw _ (List.mem_of_getElem? (i := 3) rfl)) (by decide) (by decide)) q215a q215c (g := (mkF m 124 #[.val (.int p0), .val (.int p1), .val (.int p2), .val (.int p3), .val (.int p4), .val (.int p5), .val (.int (v0_7_l6 p0)), .val (.int (v0_17_l7 p0)), .val (.int (v0_30_l8 p0 p1)), .val (.int (v0_37_s0 p0 p3 p5)), .val (.int (p2 &&& (15 : Int32))), .val (.int (p4 &&& (15 : Int32))), .val (.ref b198), .unset, .unset, .unset, .unset, .unset] [(.ref b198)])) rfl (by rw [hml]; rfl) (Steps.refl _) (argsL := []) (rest := []) (lenOf pd_4 rfl) rfl (by show 2 * 0 + _ ≤ _; exact Nat.le_of_eq rfl) (hb hby at_124) (fun _ _ => ⟨rfl, rfl, (by decide : 1 + 0 ≤ _), (by decide : 4 + 0 ≤ _)⟩)
    dsimp only [Pt.U, Pt.locs, Pt.cells, Pt.slots] at X215 l215 y215 z215 st215 hQ215
    subst l215 y215 z215
    obtain ⟨rfl, N215q, e215⟩ := hQ215
    have N215 := Fr.app N212 N215q
    have k216 := fun (t : State) (kk : Steps p.tables e below (T215.setTop (mkF m 127 #[.val (.int p0), .val (.int p1), .val (.int p2), .val (.int p3), .val (.int p4), .val (.int p5), .val (.int (v0_7_l6 p0)), .val (.int (v0_17_l7 p0)), .val (.int (v0_30_l8 p0 p1)), .val (.int (v0_37_s0 p0 p3 p5)), .val (.int (p2 &&& (15 : Int32))), .val (.int (p4 &&& (15 : Int32))), .val (.ref b198), .unset, .unset, .unset, .unset, .unset] [(.int (9 : Int32))])) t) => k214 t (st215.trans kk)
    have k217 := fun (t : State) (kk : Steps p.tables e below (T215.setTop (mkF m 143 #[.val (.int p0), .val (.int p1), .val (.int p2), .val (.int p3), .val (.int p4), .val (.int p5), .val (.int (v0_7_l6 p0)), .val (.int (v0_17_l7 p0)), .val (.int (v0_30_l8 p0 p1)), .val (.int (v0_37_s0 p0 p3 p5)), .val (.int (p2 &&& (15 : Int32))), .val (.int (p4 &&& (15 : Int32))), .val (.ref b198), .val (.int (1 : Int32)), .unset, .unset, .unset, .unset] [(.int (p4 &&& (15 : Int32))), (.ref b198)])) t) => k216 t (by
      show Steps p.tables e below (T215.setTop (mkF m 127 #[.val (.int p0), .val (.int p1), .val (.int p2), .val (.int p3), .val (.int p4), .val (.int p5), .val (.int (v0_7_l6 p0)), .val (.int (v0_17_l7 p0)), .val (.int (v0_30_l8 p0 p1)), .val (.int (v0_37_s0 p0 p3 p5)), .val (.int (p2 &&& (15 : Int32))), .val (.int (p4 &&& (15 : Int32))), .val (.ref b198), .unset, .unset, .unset, .unset, .unset] [(.int (9 : Int32))])) _
      refine XS.bipush X215.here hx rfl (hb hby at_127) ?_
      show Steps p.tables e below (T215.setTop (mkF m 129 #[.val (.int p0), .val (.int p1), .val (.int p2), .val (.int p3), .val (.int p4), .val (.int p5), .val (.int (v0_7_l6 p0)), .val (.int (v0_17_l7 p0)), .val (.int (v0_30_l8 p0 p1)), .val (.int (v0_37_s0 p0 p3 p5)), .val (.int (p2 &&& (15 : Int32))), .val (.int (p4 &&& (15 : Int32))), .val (.ref b198), .unset, .unset, .unset, .unset, .unset] [(.int (9 : Int32)), (.int (9 : Int32))])) _
      refine XS.icmpNo X215.here hx rfl (hb hby at_129) rfl (teq (rfl : (9 : Int32) = (9 : Int32))).2 ?_
      show Steps p.tables e below (T215.setTop (mkF m 132 #[.val (.int p0), .val (.int p1), .val (.int p2), .val (.int p3), .val (.int p4), .val (.int p5), .val (.int (v0_7_l6 p0)), .val (.int (v0_17_l7 p0)), .val (.int (v0_30_l8 p0 p1)), .val (.int (v0_37_s0 p0 p3 p5)), .val (.int (p2 &&& (15 : Int32))), .val (.int (p4 &&& (15 : Int32))), .val (.ref b198), .unset, .unset, .unset, .unset, .unset] [])) _
      refine XS.iconst X215.here hx rfl (hb hby at_132) ?_
      show Steps p.tables e below (T215.setTop (mkF m 133 #[.val (.int p0), .val (.int p1), .val (.int p2), .val (.int p3), .val (.int p4), .val (.int p5), .val (.int (v0_7_l6 p0)), .val (.int (v0_17_l7 p0)), .val (.int (v0_30_l8 p0 p1)), .val (.int (v0_37_s0 p0 p3 p5)), .val (.int (p2 &&& (15 : Int32))), .val (.int (p4 &&& (15 : Int32))), .val (.ref b198), .unset, .unset, .unset, .unset, .unset] [(.int (1 : Int32))])) _
      refine XS.goto X215.here hx rfl (pc0 := 133) (pc' := 137) rfl (hb hby at_133) (by decide) (by decide) ?_
      show Steps p.tables e below (T215.setTop (mkF m 137 #[.val (.int p0), .val (.int p1), .val (.int p2), .val (.int p3), .val (.int p4), .val (.int p5), .val (.int (v0_7_l6 p0)), .val (.int (v0_17_l7 p0)), .val (.int (v0_30_l8 p0 p1)), .val (.int (v0_37_s0 p0 p3 p5)), .val (.int (p2 &&& (15 : Int32))), .val (.int (p4 &&& (15 : Int32))), .val (.ref b198), .unset, .unset, .unset, .unset, .unset] [(.int (1 : Int32))])) _
      refine XS.istore X215.here hx rfl (hb hby at_137) rfl (l' := #[.val (.int p0), .val (.int p1), .val (.int p2), .val (.int p3), .val (.int p4), .val (.int p5), .val (.int (v0_7_l6 p0)), .val (.int (v0_17_l7 p0)), .val (.int (v0_30_l8 p0 p1)), .val (.int (v0_37_s0 p0 p3 p5)), .val (.int (p2 &&& (15 : Int32))), .val (.int (p4 &&& (15 : Int32))), .val (.ref b198), .val (.int (1 : Int32)), .unset, .unset, .unset, .unset]) rfl ?_
      show Steps p.tables e below (T215.setTop (mkF m 139 #[.val (.int p0), .val (.int p1), .val (.int p2), .val (.int p3), .val (.int p4), .val (.int p5), .val (.int (v0_7_l6 p0)), .val (.int (v0_17_l7 p0)), .val (.int (v0_30_l8 p0 p1)), .val (.int (v0_37_s0 p0 p3 p5)), .val (.int (p2 &&& (15 : Int32))), .val (.int (p4 &&& (15 : Int32))), .val (.ref b198), .val (.int (1 : Int32)), .unset, .unset, .unset, .unset] [])) _
      refine XS.aload X215.here hx rfl (hb hby at_139) rfl rfl ?_
      show Steps p.tables e below (T215.setTop (mkF m 141 #[.val (.int p0), .val (.int p1), .val (.int p2), .val (.int p3), .val (.int p4), .val (.int p5), .val (.int (v0_7_l6 p0)), .val (.int (v0_17_l7 p0)), .val (.int (v0_30_l8 p0 p1)), .val (.int (v0_37_s0 p0 p3 p5)), .val (.int (p2 &&& (15 : Int32))), .val (.int (p4 &&& (15 : Int32))), .val (.ref b198), .val (.int (1 : Int32)), .unset, .unset, .unset, .unset] [(.ref b198)])) _
      refine XS.iload X215.here hx rfl (hb hby at_141) rfl ?_
      exact kk)
    have Zz218 : n0 ≤ T212.heap.size := (Nat.le_trans Z0 K212.1)
    obtain ⟨cq218, kq218, q218a, q218b, q218c⟩ := isOf hZ e215 Eq212_0
    obtain ⟨_, _, ⟨T218, L218, k218, n218⟩, -, X218, ⟨Lc218, hQ218, l218, y218, z218⟩, st218⟩ := X215.virtualBack hx (y := (⟨"phrasebook/ZFormat$Layout", "placeMore", "(I)V"⟩ : MethodName)) (z := (⟨"phrasebook/ZFormat$Layout", "placeMore", "(I)V"⟩ : MethodName)) hown (mvT hZ (hw _ (List.mem_of_getElem? (i := 41) rfl))) (mvT hZ (hw _ (List.mem_of_getElem? (i := 42) rfl))) (notFace_of_selects (args := #[]) (mvT hZ (hw _ (List.mem_of_getElem? (i := 44) rfl)))) (mvT hZ (hw _ (List.mem_of_getElem? (i := 44) rfl))) (mvT hZ (hw _ (List.mem_of_getElem? (i := 43) rfl))) (by decide) (backOf (W := 0) (rm8 l Z a0 hw [] b198 (p4 &&& (15 : Int32)) (0 : Int32) (v0_7_l6 p0) (9 : Int32) (0 : Int32) T212.heap n0 Zz218 Fq212_2 Eq212_0 g_b198 Fq212_0 Fq212_1 Fq212_3) hZ (hw _ (List.mem_of_getElem? (i := 45) rfl)) (hw _ (List.mem_of_getElem? (i := 3) rfl)) (by decide) (by decide)) q218a q218c (g := (mkF m 143 #[.val (.int p0), .val (.int p1), .val (.int p2), .val (.int p3), .val (.int p4), .val (.int p5), .val (.int (v0_7_l6 p0)), .val (.int (v0_17_l7 p0)), .val (.int (v0_30_l8 p0 p1)), .val (.int (v0_37_s0 p0 p3 p5)), .val (.int (p2 &&& (15 : Int32))), .val (.int (p4 &&& (15 : Int32))), .val (.ref b198), .val (.int (1 : Int32)), .unset, .unset, .unset, .unset] [(.int (p4 &&& (15 : Int32))), (.ref b198)])) rfl (by rw [hml]; rfl) (Steps.refl _) (argsL := [(.int (p4 &&& (15 : Int32)))]) (rest := []) (lenOf pd_5 rfl) rfl (by show 2 * 0 + _ ≤ _; exact Nat.le_of_eq rfl) (hb hby at_143) (fun _ _ => ⟨rfl, e215, (by decide : 1 + 0 ≤ _), (by decide : 4 + 0 ≤ _)⟩)
    dsimp only [Pt.U, Pt.locs, Pt.cells, Pt.slots] at X218 l218 y218 z218 st218 hQ218
    subst l218 y218 z218
    obtain ⟨rfl, N218q, Kq218, Eq218_0, Fq218_0, Fq218_1, Fq218_2, Fq218_3⟩ := hQ218
    have K218 : Keep h0 T218.heap [] := K212.trans Kq218 (allS (Or.inr sz_b198) all0)
    have N218 := Fr.app N215 N218q
    have k219 := fun (t : State) (kk : Steps p.tables e below (T218.setTop (mkF m 146 #[.val (.int p0), .val (.int p1), .val (.int p2), .val (.int p3), .val (.int p4), .val (.int p5), .val (.int (v0_7_l6 p0)), .val (.int (v0_17_l7 p0)), .val (.int (v0_30_l8 p0 p1)), .val (.int (v0_37_s0 p0 p3 p5)), .val (.int (p2 &&& (15 : Int32))), .val (.int (p4 &&& (15 : Int32))), .val (.ref b198), .val (.int (1 : Int32)), .unset, .unset, .unset, .unset] [])) t) => k217 t (st218.trans kk)
    have k220 := fun (t : State) (kk : Steps p.tables e below (T218.setTop (mkF m 150 #[.val (.int p0), .val (.int p1), .val (.int p2), .val (.int p3), .val (.int p4), .val (.int p5), .val (.int (v0_7_l6 p0)), .val (.int (v0_17_l7 p0)), .val (.int (v0_30_l8 p0 p1)), .val (.int (v0_37_s0 p0 p3 p5)), .val (.int (p2 &&& (15 : Int32))), .val (.int (p4 &&& (15 : Int32))), .val (.ref b198), .val (.int (1 : Int32)), .unset, .unset, .unset, .unset] [(.int (v0_7_l6 p0)), (.int (v0_37_s0 p0 p3 p5))])) t) => k219 t (by
      show Steps p.tables e below (T218.setTop (mkF m 146 #[.val (.int p0), .val (.int p1), .val (.int p2), .val (.int p3), .val (.int p4), .val (.int p5), .val (.int (v0_7_l6 p0)), .val (.int (v0_17_l7 p0)), .val (.int (v0_30_l8 p0 p1)), .val (.int (v0_37_s0 p0 p3 p5)), .val (.int (p2 &&& (15 : Int32))), .val (.int (p4 &&& (15 : Int32))), .val (.ref b198), .val (.int (1 : Int32)), .unset, .unset, .unset, .unset] [])) _
      refine XS.iload X218.here hx rfl (hb hby at_146) rfl ?_
      show Steps p.tables e below (T218.setTop (mkF m 148 #[.val (.int p0), .val (.int p1), .val (.int p2), .val (.int p3), .val (.int p4), .val (.int p5), .val (.int (v0_7_l6 p0)), .val (.int (v0_17_l7 p0)), .val (.int (v0_30_l8 p0 p1)), .val (.int (v0_37_s0 p0 p3 p5)), .val (.int (p2 &&& (15 : Int32))), .val (.int (p4 &&& (15 : Int32))), .val (.ref b198), .val (.int (1 : Int32)), .unset, .unset, .unset, .unset] [(.int (v0_37_s0 p0 p3 p5))])) _
      refine XS.iload X218.here hx rfl (hb hby at_148) rfl ?_
      exact kk)
    have Zz221 : n0 ≤ T218.heap.size := (Nat.le_trans Z0 K218.1)
    obtain ⟨_, _, ⟨T221, L221, k221, n221⟩, -, X221, ⟨Lc221, hQ221, l221, y221, z221⟩, st221⟩ := Jvm.LawKit.callS X218 hx (y := (⟨"phrasebook/LayoutRestartPinLaw", "widthOf", "(II)I"⟩ : MethodName)) hown (mvT hZ (hw _ (List.mem_of_getElem? (i := 57) rfl))) (mvT hZ (hw _ (List.mem_of_getElem? (i := 58) rfl))) (mvT hZ (hw _ (List.mem_of_getElem? (i := 59) rfl))) (mvT hZ (hw _ (List.mem_of_getElem? (i := 60) rfl))) (by decide) (backOf (W := 0) (rm11 l Z a0 hw [] (v0_37_s0 p0 p3 p5) (v0_7_l6 p0) T218.heap n0 Zz221) hZ (hw _ (List.mem_of_getElem? (i := 60) rfl)) (hw _ (List.mem_of_getElem? (i := 59) rfl)) (by decide) (by decide)) (g := (mkF m 150 #[.val (.int p0), .val (.int p1), .val (.int p2), .val (.int p3), .val (.int p4), .val (.int p5), .val (.int (v0_7_l6 p0)), .val (.int (v0_17_l7 p0)), .val (.int (v0_30_l8 p0 p1)), .val (.int (v0_37_s0 p0 p3 p5)), .val (.int (p2 &&& (15 : Int32))), .val (.int (p4 &&& (15 : Int32))), .val (.ref b198), .val (.int (1 : Int32)), .unset, .unset, .unset, .unset] [(.int (v0_7_l6 p0)), (.int (v0_37_s0 p0 p3 p5))])) rfl (by rw [hml]; rfl) (argsL := [(.int (v0_37_s0 p0 p3 p5)), (.int (v0_7_l6 p0))]) (rest := []) (lenOf pd_2 rfl) rfl (by show 2 * 0 + _ ≤ _; exact Nat.le_of_eq rfl) (hb hby at_150) (fun _ _ => ⟨rfl, rfl, (by decide : 1 + 0 ≤ _), (by decide : 4 + 0 ≤ _)⟩)
    dsimp only [Pt.U, Pt.locs, Pt.cells, Pt.slots] at X221 l221 y221 z221 st221 hQ221
    subst l221 y221 z221
    obtain ⟨rfl, N221q, e221⟩ := hQ221
    have N221 := Fr.app N218 N221q
    have k222 := fun (t : State) (kk : Steps p.tables e below (T221.setTop (mkF m 153 #[.val (.int p0), .val (.int p1), .val (.int p2), .val (.int p3), .val (.int p4), .val (.int p5), .val (.int (v0_7_l6 p0)), .val (.int (v0_17_l7 p0)), .val (.int (v0_30_l8 p0 p1)), .val (.int (v0_37_s0 p0 p3 p5)), .val (.int (p2 &&& (15 : Int32))), .val (.int (p4 &&& (15 : Int32))), .val (.ref b198), .val (.int (1 : Int32)), .unset, .unset, .unset, .unset] [(.int (v11_ret (v0_37_s0 p0 p3 p5) (v0_7_l6 p0)))])) t) => k220 t (st221 _ kk)
    have k227 := fun (t : State) (kk : Steps p.tables e below (T221.setTop (mkF m 197 #[.val (.int p0), .val (.int p1), .val (.int p2), .val (.int p3), .val (.int p4), .val (.int p5), .val (.int (v0_7_l6 p0)), .val (.int (v0_17_l7 p0)), .val (.int (v0_30_l8 p0 p1)), .val (.int (v0_37_s0 p0 p3 p5)), .val (.int (p2 &&& (15 : Int32))), .val (.int (p4 &&& (15 : Int32))), .val (.ref b198), .val (.int (1 : Int32)), .val (.int (v0_153_l14 p0 p3 p5)), .val (.int (v0_160_l15 p4)), .val (.int (v0_166_s0 p0 p3 p4 p5)), .unset] [(.int (v0_37_s0 p0 p3 p5)), (.ref b198)])) t) => k222 t (by
      show Steps p.tables e below (T221.setTop (mkF m 153 #[.val (.int p0), .val (.int p1), .val (.int p2), .val (.int p3), .val (.int p4), .val (.int p5), .val (.int (v0_7_l6 p0)), .val (.int (v0_17_l7 p0)), .val (.int (v0_30_l8 p0 p1)), .val (.int (v0_37_s0 p0 p3 p5)), .val (.int (p2 &&& (15 : Int32))), .val (.int (p4 &&& (15 : Int32))), .val (.ref b198), .val (.int (1 : Int32)), .unset, .unset, .unset, .unset] [(.int (v11_ret (v0_37_s0 p0 p3 p5) (v0_7_l6 p0)))])) _
      refine XS.istore X221.here hx rfl (hb hby at_153) rfl (l' := #[.val (.int p0), .val (.int p1), .val (.int p2), .val (.int p3), .val (.int p4), .val (.int p5), .val (.int (v0_7_l6 p0)), .val (.int (v0_17_l7 p0)), .val (.int (v0_30_l8 p0 p1)), .val (.int (v0_37_s0 p0 p3 p5)), .val (.int (p2 &&& (15 : Int32))), .val (.int (p4 &&& (15 : Int32))), .val (.ref b198), .val (.int (1 : Int32)), .val (.int (v0_153_l14 p0 p3 p5)), .unset, .unset, .unset]) rfl ?_
      show Steps p.tables e below (T221.setTop (mkF m 155 #[.val (.int p0), .val (.int p1), .val (.int p2), .val (.int p3), .val (.int p4), .val (.int p5), .val (.int (v0_7_l6 p0)), .val (.int (v0_17_l7 p0)), .val (.int (v0_30_l8 p0 p1)), .val (.int (v0_37_s0 p0 p3 p5)), .val (.int (p2 &&& (15 : Int32))), .val (.int (p4 &&& (15 : Int32))), .val (.ref b198), .val (.int (1 : Int32)), .val (.int (v0_153_l14 p0 p3 p5)), .unset, .unset, .unset] [])) _
      refine XS.iload X221.here hx rfl (hb hby at_155) rfl ?_
      show Steps p.tables e below (T221.setTop (mkF m 157 #[.val (.int p0), .val (.int p1), .val (.int p2), .val (.int p3), .val (.int p4), .val (.int p5), .val (.int (v0_7_l6 p0)), .val (.int (v0_17_l7 p0)), .val (.int (v0_30_l8 p0 p1)), .val (.int (v0_37_s0 p0 p3 p5)), .val (.int (p2 &&& (15 : Int32))), .val (.int (p4 &&& (15 : Int32))), .val (.ref b198), .val (.int (1 : Int32)), .val (.int (v0_153_l14 p0 p3 p5)), .unset, .unset, .unset] [(.int (p4 &&& (15 : Int32)))])) _
      refine XS.bipush X221.here hx rfl (hb hby at_157) ?_
      show Steps p.tables e below (T221.setTop (mkF m 159 #[.val (.int p0), .val (.int p1), .val (.int p2), .val (.int p3), .val (.int p4), .val (.int p5), .val (.int (v0_7_l6 p0)), .val (.int (v0_17_l7 p0)), .val (.int (v0_30_l8 p0 p1)), .val (.int (v0_37_s0 p0 p3 p5)), .val (.int (p2 &&& (15 : Int32))), .val (.int (p4 &&& (15 : Int32))), .val (.ref b198), .val (.int (1 : Int32)), .val (.int (v0_153_l14 p0 p3 p5)), .unset, .unset, .unset] [(.int (8 : Int32)), (.int (p4 &&& (15 : Int32)))])) _
      refine iremM X221 hx rfl (hb hby at_159) rfl (by decide) ?_
      show Steps p.tables e below (T221.setTop (mkF m 160 #[.val (.int p0), .val (.int p1), .val (.int p2), .val (.int p3), .val (.int p4), .val (.int p5), .val (.int (v0_7_l6 p0)), .val (.int (v0_17_l7 p0)), .val (.int (v0_30_l8 p0 p1)), .val (.int (v0_37_s0 p0 p3 p5)), .val (.int (p2 &&& (15 : Int32))), .val (.int (p4 &&& (15 : Int32))), .val (.ref b198), .val (.int (1 : Int32)), .val (.int (v0_153_l14 p0 p3 p5)), .unset, .unset, .unset] [(.int ((p4 &&& (15 : Int32)) % (8 : Int32)))])) _
      refine XS.istore X221.here hx rfl (hb hby at_160) rfl (l' := #[.val (.int p0), .val (.int p1), .val (.int p2), .val (.int p3), .val (.int p4), .val (.int p5), .val (.int (v0_7_l6 p0)), .val (.int (v0_17_l7 p0)), .val (.int (v0_30_l8 p0 p1)), .val (.int (v0_37_s0 p0 p3 p5)), .val (.int (p2 &&& (15 : Int32))), .val (.int (p4 &&& (15 : Int32))), .val (.ref b198), .val (.int (1 : Int32)), .val (.int (v0_153_l14 p0 p3 p5)), .val (.int (v0_160_l15 p4)), .unset, .unset]) rfl ?_
      show Steps p.tables e below (T221.setTop (mkF m 162 #[.val (.int p0), .val (.int p1), .val (.int p2), .val (.int p3), .val (.int p4), .val (.int p5), .val (.int (v0_7_l6 p0)), .val (.int (v0_17_l7 p0)), .val (.int (v0_30_l8 p0 p1)), .val (.int (v0_37_s0 p0 p3 p5)), .val (.int (p2 &&& (15 : Int32))), .val (.int (p4 &&& (15 : Int32))), .val (.ref b198), .val (.int (1 : Int32)), .val (.int (v0_153_l14 p0 p3 p5)), .val (.int (v0_160_l15 p4)), .unset, .unset] [])) _
      refine XS.iload X221.here hx rfl (hb hby at_162) rfl ?_
      show Steps p.tables e below (T221.setTop (mkF m 164 #[.val (.int p0), .val (.int p1), .val (.int p2), .val (.int p3), .val (.int p4), .val (.int p5), .val (.int (v0_7_l6 p0)), .val (.int (v0_17_l7 p0)), .val (.int (v0_30_l8 p0 p1)), .val (.int (v0_37_s0 p0 p3 p5)), .val (.int (p2 &&& (15 : Int32))), .val (.int (p4 &&& (15 : Int32))), .val (.ref b198), .val (.int (1 : Int32)), .val (.int (v0_153_l14 p0 p3 p5)), .val (.int (v0_160_l15 p4)), .unset, .unset] [(.int (v0_153_l14 p0 p3 p5))])) _
      refine XS.bipush X221.here hx rfl (hb hby at_164) ?_
      suffices k226 : Steps p.tables e below (T221.setTop (mkF m 186 #[.val (.int p0), .val (.int p1), .val (.int p2), .val (.int p3), .val (.int p4), .val (.int p5), .val (.int (v0_7_l6 p0)), .val (.int (v0_17_l7 p0)), .val (.int (v0_30_l8 p0 p1)), .val (.int (v0_37_s0 p0 p3 p5)), .val (.int (p2 &&& (15 : Int32))), .val (.int (p4 &&& (15 : Int32))), .val (.ref b198), .val (.int (1 : Int32)), .val (.int (v0_153_l14 p0 p3 p5)), .val (.int (v0_160_l15 p4)), .unset, .unset] [(.int (v0_166_s0 p0 p3 p4 p5))])) t by
        by_cases hc166_223 : (v0_153_l14 p0 p3 p5) = (9 : Int32)
        · rw [(show (v0_166_s0 p0 p3 p4 p5) = (0 : Int32) from if_pos hc166_223)] at k226
          show Steps p.tables e below (T221.setTop (mkF m 166 #[.val (.int p0), .val (.int p1), .val (.int p2), .val (.int p3), .val (.int p4), .val (.int p5), .val (.int (v0_7_l6 p0)), .val (.int (v0_17_l7 p0)), .val (.int (v0_30_l8 p0 p1)), .val (.int (v0_37_s0 p0 p3 p5)), .val (.int (p2 &&& (15 : Int32))), .val (.int (p4 &&& (15 : Int32))), .val (.ref b198), .val (.int (1 : Int32)), .val (.int (v0_153_l14 p0 p3 p5)), .val (.int (v0_160_l15 p4)), .unset, .unset] [(.int (9 : Int32)), (.int (v0_153_l14 p0 p3 p5))])) _
          refine XS.icmpYes X221.here hx rfl (pc0 := 166) (pc' := 185) rfl (hb hby at_166) rfl (teq hc166_223).1 (by decide) (by decide) ?_
          show Steps p.tables e below (T221.setTop (mkF m 185 #[.val (.int p0), .val (.int p1), .val (.int p2), .val (.int p3), .val (.int p4), .val (.int p5), .val (.int (v0_7_l6 p0)), .val (.int (v0_17_l7 p0)), .val (.int (v0_30_l8 p0 p1)), .val (.int (v0_37_s0 p0 p3 p5)), .val (.int (p2 &&& (15 : Int32))), .val (.int (p4 &&& (15 : Int32))), .val (.ref b198), .val (.int (1 : Int32)), .val (.int (v0_153_l14 p0 p3 p5)), .val (.int (v0_160_l15 p4)), .unset, .unset] [])) _
          refine XS.iconst X221.here hx rfl (hb hby at_185) ?_
          exact k226
        · rw [(show (v0_166_s0 p0 p3 p4 p5) = (v0_171_s0 p4) from if_neg hc166_223)] at k226
          show Steps p.tables e below (T221.setTop (mkF m 166 #[.val (.int p0), .val (.int p1), .val (.int p2), .val (.int p3), .val (.int p4), .val (.int p5), .val (.int (v0_7_l6 p0)), .val (.int (v0_17_l7 p0)), .val (.int (v0_30_l8 p0 p1)), .val (.int (v0_37_s0 p0 p3 p5)), .val (.int (p2 &&& (15 : Int32))), .val (.int (p4 &&& (15 : Int32))), .val (.ref b198), .val (.int (1 : Int32)), .val (.int (v0_153_l14 p0 p3 p5)), .val (.int (v0_160_l15 p4)), .unset, .unset] [(.int (9 : Int32)), (.int (v0_153_l14 p0 p3 p5))])) _
          refine XS.icmpNo X221.here hx rfl (hb hby at_166) rfl (feq hc166_223).1 ?_
          show Steps p.tables e below (T221.setTop (mkF m 169 #[.val (.int p0), .val (.int p1), .val (.int p2), .val (.int p3), .val (.int p4), .val (.int p5), .val (.int (v0_7_l6 p0)), .val (.int (v0_17_l7 p0)), .val (.int (v0_30_l8 p0 p1)), .val (.int (v0_37_s0 p0 p3 p5)), .val (.int (p2 &&& (15 : Int32))), .val (.int (p4 &&& (15 : Int32))), .val (.ref b198), .val (.int (1 : Int32)), .val (.int (v0_153_l14 p0 p3 p5)), .val (.int (v0_160_l15 p4)), .unset, .unset] [])) _
          refine XS.iload X221.here hx rfl (hb hby at_169) rfl ?_
          suffices k225 : Steps p.tables e below (T221.setTop (mkF m 186 #[.val (.int p0), .val (.int p1), .val (.int p2), .val (.int p3), .val (.int p4), .val (.int p5), .val (.int (v0_7_l6 p0)), .val (.int (v0_17_l7 p0)), .val (.int (v0_30_l8 p0 p1)), .val (.int (v0_37_s0 p0 p3 p5)), .val (.int (p2 &&& (15 : Int32))), .val (.int (p4 &&& (15 : Int32))), .val (.ref b198), .val (.int (1 : Int32)), .val (.int (v0_153_l14 p0 p3 p5)), .val (.int (v0_160_l15 p4)), .unset, .unset] [(.int (v0_171_s0 p4))])) t by
            by_cases hc171_224 : (v0_160_l15 p4) = (0 : Int32)
            · rw [(show (v0_171_s0 p4) = (0 : Int32) from if_pos hc171_224)] at k225
              show Steps p.tables e below (T221.setTop (mkF m 171 #[.val (.int p0), .val (.int p1), .val (.int p2), .val (.int p3), .val (.int p4), .val (.int p5), .val (.int (v0_7_l6 p0)), .val (.int (v0_17_l7 p0)), .val (.int (v0_30_l8 p0 p1)), .val (.int (v0_37_s0 p0 p3 p5)), .val (.int (p2 &&& (15 : Int32))), .val (.int (p4 &&& (15 : Int32))), .val (.ref b198), .val (.int (1 : Int32)), .val (.int (v0_153_l14 p0 p3 p5)), .val (.int (v0_160_l15 p4)), .unset, .unset] [(.int (v0_160_l15 p4))])) _
              refine XS.ifYes X221.here hx rfl (pc0 := 171) (pc' := 185) rfl (hb hby at_171) rfl ((if0 _ _).trans (teq hc171_224).1) (by decide) (by decide) ?_
              show Steps p.tables e below (T221.setTop (mkF m 185 #[.val (.int p0), .val (.int p1), .val (.int p2), .val (.int p3), .val (.int p4), .val (.int p5), .val (.int (v0_7_l6 p0)), .val (.int (v0_17_l7 p0)), .val (.int (v0_30_l8 p0 p1)), .val (.int (v0_37_s0 p0 p3 p5)), .val (.int (p2 &&& (15 : Int32))), .val (.int (p4 &&& (15 : Int32))), .val (.ref b198), .val (.int (1 : Int32)), .val (.int (v0_153_l14 p0 p3 p5)), .val (.int (v0_160_l15 p4)), .unset, .unset] [])) _
              refine XS.iconst X221.here hx rfl (hb hby at_185) ?_
              exact k225
            · rw [(show (v0_171_s0 p4) = (((8 : Int32) - (v0_160_l15 p4)) * (9 : Int32)) from if_neg hc171_224)] at k225
              show Steps p.tables e below (T221.setTop (mkF m 171 #[.val (.int p0), .val (.int p1), .val (.int p2), .val (.int p3), .val (.int p4), .val (.int p5), .val (.int (v0_7_l6 p0)), .val (.int (v0_17_l7 p0)), .val (.int (v0_30_l8 p0 p1)), .val (.int (v0_37_s0 p0 p3 p5)), .val (.int (p2 &&& (15 : Int32))), .val (.int (p4 &&& (15 : Int32))), .val (.ref b198), .val (.int (1 : Int32)), .val (.int (v0_153_l14 p0 p3 p5)), .val (.int (v0_160_l15 p4)), .unset, .unset] [(.int (v0_160_l15 p4))])) _
              refine XS.ifNo X221.here hx rfl (hb hby at_171) rfl ((if0 _ _).trans (feq hc171_224).1) ?_
              show Steps p.tables e below (T221.setTop (mkF m 174 #[.val (.int p0), .val (.int p1), .val (.int p2), .val (.int p3), .val (.int p4), .val (.int p5), .val (.int (v0_7_l6 p0)), .val (.int (v0_17_l7 p0)), .val (.int (v0_30_l8 p0 p1)), .val (.int (v0_37_s0 p0 p3 p5)), .val (.int (p2 &&& (15 : Int32))), .val (.int (p4 &&& (15 : Int32))), .val (.ref b198), .val (.int (1 : Int32)), .val (.int (v0_153_l14 p0 p3 p5)), .val (.int (v0_160_l15 p4)), .unset, .unset] [])) _
              refine XS.bipush X221.here hx rfl (hb hby at_174) ?_
              show Steps p.tables e below (T221.setTop (mkF m 176 #[.val (.int p0), .val (.int p1), .val (.int p2), .val (.int p3), .val (.int p4), .val (.int p5), .val (.int (v0_7_l6 p0)), .val (.int (v0_17_l7 p0)), .val (.int (v0_30_l8 p0 p1)), .val (.int (v0_37_s0 p0 p3 p5)), .val (.int (p2 &&& (15 : Int32))), .val (.int (p4 &&& (15 : Int32))), .val (.ref b198), .val (.int (1 : Int32)), .val (.int (v0_153_l14 p0 p3 p5)), .val (.int (v0_160_l15 p4)), .unset, .unset] [(.int (8 : Int32))])) _
              refine XS.iload X221.here hx rfl (hb hby at_176) rfl ?_
              show Steps p.tables e below (T221.setTop (mkF m 178 #[.val (.int p0), .val (.int p1), .val (.int p2), .val (.int p3), .val (.int p4), .val (.int p5), .val (.int (v0_7_l6 p0)), .val (.int (v0_17_l7 p0)), .val (.int (v0_30_l8 p0 p1)), .val (.int (v0_37_s0 p0 p3 p5)), .val (.int (p2 &&& (15 : Int32))), .val (.int (p4 &&& (15 : Int32))), .val (.ref b198), .val (.int (1 : Int32)), .val (.int (v0_153_l14 p0 p3 p5)), .val (.int (v0_160_l15 p4)), .unset, .unset] [(.int (v0_160_l15 p4)), (.int (8 : Int32))])) _
              refine XS.isub X221.here hx rfl (hb hby at_178) rfl ?_
              show Steps p.tables e below (T221.setTop (mkF m 179 #[.val (.int p0), .val (.int p1), .val (.int p2), .val (.int p3), .val (.int p4), .val (.int p5), .val (.int (v0_7_l6 p0)), .val (.int (v0_17_l7 p0)), .val (.int (v0_30_l8 p0 p1)), .val (.int (v0_37_s0 p0 p3 p5)), .val (.int (p2 &&& (15 : Int32))), .val (.int (p4 &&& (15 : Int32))), .val (.ref b198), .val (.int (1 : Int32)), .val (.int (v0_153_l14 p0 p3 p5)), .val (.int (v0_160_l15 p4)), .unset, .unset] [(.int ((8 : Int32) - (v0_160_l15 p4)))])) _
              refine XS.bipush X221.here hx rfl (hb hby at_179) ?_
              show Steps p.tables e below (T221.setTop (mkF m 181 #[.val (.int p0), .val (.int p1), .val (.int p2), .val (.int p3), .val (.int p4), .val (.int p5), .val (.int (v0_7_l6 p0)), .val (.int (v0_17_l7 p0)), .val (.int (v0_30_l8 p0 p1)), .val (.int (v0_37_s0 p0 p3 p5)), .val (.int (p2 &&& (15 : Int32))), .val (.int (p4 &&& (15 : Int32))), .val (.ref b198), .val (.int (1 : Int32)), .val (.int (v0_153_l14 p0 p3 p5)), .val (.int (v0_160_l15 p4)), .unset, .unset] [(.int (9 : Int32)), (.int ((8 : Int32) - (v0_160_l15 p4)))])) _
              refine XS.imul X221.here hx rfl (hb hby at_181) rfl ?_
              show Steps p.tables e below (T221.setTop (mkF m 182 #[.val (.int p0), .val (.int p1), .val (.int p2), .val (.int p3), .val (.int p4), .val (.int p5), .val (.int (v0_7_l6 p0)), .val (.int (v0_17_l7 p0)), .val (.int (v0_30_l8 p0 p1)), .val (.int (v0_37_s0 p0 p3 p5)), .val (.int (p2 &&& (15 : Int32))), .val (.int (p4 &&& (15 : Int32))), .val (.ref b198), .val (.int (1 : Int32)), .val (.int (v0_153_l14 p0 p3 p5)), .val (.int (v0_160_l15 p4)), .unset, .unset] [(.int (((8 : Int32) - (v0_160_l15 p4)) * (9 : Int32)))])) _
              refine XS.goto X221.here hx rfl (pc0 := 182) (pc' := 186) rfl (hb hby at_182) (by decide) (by decide) ?_
              exact k225
          exact k226
      show Steps p.tables e below (T221.setTop (mkF m 186 #[.val (.int p0), .val (.int p1), .val (.int p2), .val (.int p3), .val (.int p4), .val (.int p5), .val (.int (v0_7_l6 p0)), .val (.int (v0_17_l7 p0)), .val (.int (v0_30_l8 p0 p1)), .val (.int (v0_37_s0 p0 p3 p5)), .val (.int (p2 &&& (15 : Int32))), .val (.int (p4 &&& (15 : Int32))), .val (.ref b198), .val (.int (1 : Int32)), .val (.int (v0_153_l14 p0 p3 p5)), .val (.int (v0_160_l15 p4)), .unset, .unset] [(.int (v0_166_s0 p0 p3 p4 p5))])) _
      refine XS.istore X221.here hx rfl (hb hby at_186) rfl (l' := #[.val (.int p0), .val (.int p1), .val (.int p2), .val (.int p3), .val (.int p4), .val (.int p5), .val (.int (v0_7_l6 p0)), .val (.int (v0_17_l7 p0)), .val (.int (v0_30_l8 p0 p1)), .val (.int (v0_37_s0 p0 p3 p5)), .val (.int (p2 &&& (15 : Int32))), .val (.int (p4 &&& (15 : Int32))), .val (.ref b198), .val (.int (1 : Int32)), .val (.int (v0_153_l14 p0 p3 p5)), .val (.int (v0_160_l15 p4)), .val (.int (v0_166_s0 p0 p3 p4 p5)), .unset]) rfl ?_
      show Steps p.tables e below (T221.setTop (mkF m 188 #[.val (.int p0), .val (.int p1), .val (.int p2), .val (.int p3), .val (.int p4), .val (.int p5), .val (.int (v0_7_l6 p0)), .val (.int (v0_17_l7 p0)), .val (.int (v0_30_l8 p0 p1)), .val (.int (v0_37_s0 p0 p3 p5)), .val (.int (p2 &&& (15 : Int32))), .val (.int (p4 &&& (15 : Int32))), .val (.ref b198), .val (.int (1 : Int32)), .val (.int (v0_153_l14 p0 p3 p5)), .val (.int (v0_160_l15 p4)), .val (.int (v0_166_s0 p0 p3 p4 p5)), .unset] [])) _
      refine XS.iload X221.here hx rfl (hb hby at_188) rfl ?_
      show Steps p.tables e below (T221.setTop (mkF m 190 #[.val (.int p0), .val (.int p1), .val (.int p2), .val (.int p3), .val (.int p4), .val (.int p5), .val (.int (v0_7_l6 p0)), .val (.int (v0_17_l7 p0)), .val (.int (v0_30_l8 p0 p1)), .val (.int (v0_37_s0 p0 p3 p5)), .val (.int (p2 &&& (15 : Int32))), .val (.int (p4 &&& (15 : Int32))), .val (.ref b198), .val (.int (1 : Int32)), .val (.int (v0_153_l14 p0 p3 p5)), .val (.int (v0_160_l15 p4)), .val (.int (v0_166_s0 p0 p3 p4 p5)), .unset] [(.int (1 : Int32))])) _
      refine XS.ifNo X221.here hx rfl (hb hby at_190) rfl ((if0 _ _).trans (feq (by decide : ¬ ((1 : Int32) = (0 : Int32)))).1) ?_
      show Steps p.tables e below (T221.setTop (mkF m 193 #[.val (.int p0), .val (.int p1), .val (.int p2), .val (.int p3), .val (.int p4), .val (.int p5), .val (.int (v0_7_l6 p0)), .val (.int (v0_17_l7 p0)), .val (.int (v0_30_l8 p0 p1)), .val (.int (v0_37_s0 p0 p3 p5)), .val (.int (p2 &&& (15 : Int32))), .val (.int (p4 &&& (15 : Int32))), .val (.ref b198), .val (.int (1 : Int32)), .val (.int (v0_153_l14 p0 p3 p5)), .val (.int (v0_160_l15 p4)), .val (.int (v0_166_s0 p0 p3 p4 p5)), .unset] [])) _
      refine XS.aload X221.here hx rfl (hb hby at_193) rfl rfl ?_
      show Steps p.tables e below (T221.setTop (mkF m 195 #[.val (.int p0), .val (.int p1), .val (.int p2), .val (.int p3), .val (.int p4), .val (.int p5), .val (.int (v0_7_l6 p0)), .val (.int (v0_17_l7 p0)), .val (.int (v0_30_l8 p0 p1)), .val (.int (v0_37_s0 p0 p3 p5)), .val (.int (p2 &&& (15 : Int32))), .val (.int (p4 &&& (15 : Int32))), .val (.ref b198), .val (.int (1 : Int32)), .val (.int (v0_153_l14 p0 p3 p5)), .val (.int (v0_160_l15 p4)), .val (.int (v0_166_s0 p0 p3 p4 p5)), .unset] [(.ref b198)])) _
      refine XS.iload X221.here hx rfl (hb hby at_195) rfl ?_
      exact kk)
    have Zz228 : n0 ≤ T218.heap.size := (Nat.le_trans Z0 K218.1)
    obtain ⟨cq228, kq228, q228a, q228b, q228c⟩ := isOf hZ e221 Eq218_0
    obtain ⟨_, _, ⟨T228, L228, k228, n228⟩, -, X228, ⟨Lc228, hQ228, l228, y228, z228⟩, st228⟩ := X221.virtualBack hx (y := (⟨"phrasebook/ZFormat$Layout", "bitsFor", "(I)I"⟩ : MethodName)) (z := (⟨"phrasebook/ZFormat$Layout", "bitsFor", "(I)I"⟩ : MethodName)) hown (mvT hZ (hw _ (List.mem_of_getElem? (i := 61) rfl))) (mvT hZ (hw _ (List.mem_of_getElem? (i := 62) rfl))) (notFace_of_selects (args := #[]) (mvT hZ (hw _ (List.mem_of_getElem? (i := 64) rfl)))) (mvT hZ (hw _ (List.mem_of_getElem? (i := 64) rfl))) (mvT hZ (hw _ (List.mem_of_getElem? (i := 63) rfl))) (by decide) (backOf (W := 0) (rm12 l Z a0 hw [] b198 (v0_37_s0 p0 p3 p5) (v0_7_l6 p0) (9 : Int32) (0 : Int32) (((0 : Int32) + (p4 &&& (15 : Int32))) % (8 : Int32)) T218.heap n0 Zz228 Fq218_0 Eq218_0 Fq218_1 Fq218_3 Fq218_2) hZ (hw _ (List.mem_of_getElem? (i := 65) rfl)) (hw _ (List.mem_of_getElem? (i := 3) rfl)) (by decide) (by decide)) q228a q228c (g := (mkF m 197 #[.val (.int p0), .val (.int p1), .val (.int p2), .val (.int p3), .val (.int p4), .val (.int p5), .val (.int (v0_7_l6 p0)), .val (.int (v0_17_l7 p0)), .val (.int (v0_30_l8 p0 p1)), .val (.int (v0_37_s0 p0 p3 p5)), .val (.int (p2 &&& (15 : Int32))), .val (.int (p4 &&& (15 : Int32))), .val (.ref b198), .val (.int (1 : Int32)), .val (.int (v0_153_l14 p0 p3 p5)), .val (.int (v0_160_l15 p4)), .val (.int (v0_166_s0 p0 p3 p4 p5)), .unset] [(.int (v0_37_s0 p0 p3 p5)), (.ref b198)])) rfl (by rw [hml]; rfl) (Steps.refl _) (argsL := [(.int (v0_37_s0 p0 p3 p5))]) (rest := []) (lenOf pd_1 rfl) rfl (by show 2 * 0 + _ ≤ _; exact Nat.le_of_eq rfl) (hb hby at_197) (fun _ _ => ⟨rfl, e221, (by decide : 1 + 0 ≤ _), (by decide : 4 + 0 ≤ _)⟩)
    dsimp only [Pt.U, Pt.locs, Pt.cells, Pt.slots] at X228 l228 y228 z228 st228 hQ228
    subst l228 y228 z228
    obtain ⟨rfl, N228q, e228⟩ := hQ228
    have N228 := Fr.app N221 N228q
    have k229 := fun (t : State) (kk : Steps p.tables e below (T228.setTop (mkF m 200 #[.val (.int p0), .val (.int p1), .val (.int p2), .val (.int p3), .val (.int p4), .val (.int p5), .val (.int (v0_7_l6 p0)), .val (.int (v0_17_l7 p0)), .val (.int (v0_30_l8 p0 p1)), .val (.int (v0_37_s0 p0 p3 p5)), .val (.int (p2 &&& (15 : Int32))), .val (.int (p4 &&& (15 : Int32))), .val (.ref b198), .val (.int (1 : Int32)), .val (.int (v0_153_l14 p0 p3 p5)), .val (.int (v0_160_l15 p4)), .val (.int (v0_166_s0 p0 p3 p4 p5)), .unset] [(.int (v12_ret (v0_37_s0 p0 p3 p5) (v0_7_l6 p0) (9 : Int32) (0 : Int32) (((0 : Int32) + (p4 &&& (15 : Int32))) % (8 : Int32))))])) t) => k227 t (st228.trans kk)
    have k232 := fun (t : State) (kk : Steps p.tables e below (T228.setTop (mkF m 219 #[.val (.int p0), .val (.int p1), .val (.int p2), .val (.int p3), .val (.int p4), .val (.int p5), .val (.int (v0_7_l6 p0)), .val (.int (v0_17_l7 p0)), .val (.int (v0_30_l8 p0 p1)), .val (.int (v0_37_s0 p0 p3 p5)), .val (.int (p2 &&& (15 : Int32))), .val (.int (p4 &&& (15 : Int32))), .val (.ref b198), .val (.int (v0_205_s0 p0 p3 p4 p5)), .val (.int (v0_153_l14 p0 p3 p5)), .val (.int (v0_160_l15 p4)), .val (.int (v0_166_s0 p0 p3 p4 p5)), .unset] [(.int (v0_37_s0 p0 p3 p5)), (.ref b198)])) t) => k229 t (by
      show Steps p.tables e below (T228.setTop (mkF m 200 #[.val (.int p0), .val (.int p1), .val (.int p2), .val (.int p3), .val (.int p4), .val (.int p5), .val (.int (v0_7_l6 p0)), .val (.int (v0_17_l7 p0)), .val (.int (v0_30_l8 p0 p1)), .val (.int (v0_37_s0 p0 p3 p5)), .val (.int (p2 &&& (15 : Int32))), .val (.int (p4 &&& (15 : Int32))), .val (.ref b198), .val (.int (1 : Int32)), .val (.int (v0_153_l14 p0 p3 p5)), .val (.int (v0_160_l15 p4)), .val (.int (v0_166_s0 p0 p3 p4 p5)), .unset] [(.int (v12_ret (v0_37_s0 p0 p3 p5) (v0_7_l6 p0) (9 : Int32) (0 : Int32) (((0 : Int32) + (p4 &&& (15 : Int32))) % (8 : Int32))))])) _
      refine XS.iload X228.here hx rfl (hb hby at_200) rfl ?_
      show Steps p.tables e below (T228.setTop (mkF m 202 #[.val (.int p0), .val (.int p1), .val (.int p2), .val (.int p3), .val (.int p4), .val (.int p5), .val (.int (v0_7_l6 p0)), .val (.int (v0_17_l7 p0)), .val (.int (v0_30_l8 p0 p1)), .val (.int (v0_37_s0 p0 p3 p5)), .val (.int (p2 &&& (15 : Int32))), .val (.int (p4 &&& (15 : Int32))), .val (.ref b198), .val (.int (1 : Int32)), .val (.int (v0_153_l14 p0 p3 p5)), .val (.int (v0_160_l15 p4)), .val (.int (v0_166_s0 p0 p3 p4 p5)), .unset] [(.int (v0_166_s0 p0 p3 p4 p5)), (.int (v12_ret (v0_37_s0 p0 p3 p5) (v0_7_l6 p0) (9 : Int32) (0 : Int32) (((0 : Int32) + (p4 &&& (15 : Int32))) % (8 : Int32))))])) _
      refine XS.iload X228.here hx rfl (hb hby at_202) rfl ?_
      show Steps p.tables e below (T228.setTop (mkF m 204 #[.val (.int p0), .val (.int p1), .val (.int p2), .val (.int p3), .val (.int p4), .val (.int p5), .val (.int (v0_7_l6 p0)), .val (.int (v0_17_l7 p0)), .val (.int (v0_30_l8 p0 p1)), .val (.int (v0_37_s0 p0 p3 p5)), .val (.int (p2 &&& (15 : Int32))), .val (.int (p4 &&& (15 : Int32))), .val (.ref b198), .val (.int (1 : Int32)), .val (.int (v0_153_l14 p0 p3 p5)), .val (.int (v0_160_l15 p4)), .val (.int (v0_166_s0 p0 p3 p4 p5)), .unset] [(.int (v0_153_l14 p0 p3 p5)), (.int (v0_166_s0 p0 p3 p4 p5)), (.int (v12_ret (v0_37_s0 p0 p3 p5) (v0_7_l6 p0) (9 : Int32) (0 : Int32) (((0 : Int32) + (p4 &&& (15 : Int32))) % (8 : Int32))))])) _
      refine XS.iadd X228.here hx rfl (hb hby at_204) rfl ?_
      suffices k231 : Steps p.tables e below (T228.setTop (mkF m 213 #[.val (.int p0), .val (.int p1), .val (.int p2), .val (.int p3), .val (.int p4), .val (.int p5), .val (.int (v0_7_l6 p0)), .val (.int (v0_17_l7 p0)), .val (.int (v0_30_l8 p0 p1)), .val (.int (v0_37_s0 p0 p3 p5)), .val (.int (p2 &&& (15 : Int32))), .val (.int (p4 &&& (15 : Int32))), .val (.ref b198), .val (.int (1 : Int32)), .val (.int (v0_153_l14 p0 p3 p5)), .val (.int (v0_160_l15 p4)), .val (.int (v0_166_s0 p0 p3 p4 p5)), .unset] [(.int (v0_205_s0 p0 p3 p4 p5))])) t by
        by_cases hc205_230 : (v12_ret (v0_37_s0 p0 p3 p5) (v0_7_l6 p0) (9 : Int32) (0 : Int32) (((0 : Int32) + (p4 &&& (15 : Int32))) % (8 : Int32))) = ((v0_166_s0 p0 p3 p4 p5) + (v0_153_l14 p0 p3 p5))
        · rw [(show (v0_205_s0 p0 p3 p4 p5) = (1 : Int32) from if_pos hc205_230)] at k231
          show Steps p.tables e below (T228.setTop (mkF m 205 #[.val (.int p0), .val (.int p1), .val (.int p2), .val (.int p3), .val (.int p4), .val (.int p5), .val (.int (v0_7_l6 p0)), .val (.int (v0_17_l7 p0)), .val (.int (v0_30_l8 p0 p1)), .val (.int (v0_37_s0 p0 p3 p5)), .val (.int (p2 &&& (15 : Int32))), .val (.int (p4 &&& (15 : Int32))), .val (.ref b198), .val (.int (1 : Int32)), .val (.int (v0_153_l14 p0 p3 p5)), .val (.int (v0_160_l15 p4)), .val (.int (v0_166_s0 p0 p3 p4 p5)), .unset] [(.int ((v0_166_s0 p0 p3 p4 p5) + (v0_153_l14 p0 p3 p5))), (.int (v12_ret (v0_37_s0 p0 p3 p5) (v0_7_l6 p0) (9 : Int32) (0 : Int32) (((0 : Int32) + (p4 &&& (15 : Int32))) % (8 : Int32))))])) _
          refine XS.icmpNo X228.here hx rfl (hb hby at_205) rfl (teq hc205_230).2 ?_
          show Steps p.tables e below (T228.setTop (mkF m 208 #[.val (.int p0), .val (.int p1), .val (.int p2), .val (.int p3), .val (.int p4), .val (.int p5), .val (.int (v0_7_l6 p0)), .val (.int (v0_17_l7 p0)), .val (.int (v0_30_l8 p0 p1)), .val (.int (v0_37_s0 p0 p3 p5)), .val (.int (p2 &&& (15 : Int32))), .val (.int (p4 &&& (15 : Int32))), .val (.ref b198), .val (.int (1 : Int32)), .val (.int (v0_153_l14 p0 p3 p5)), .val (.int (v0_160_l15 p4)), .val (.int (v0_166_s0 p0 p3 p4 p5)), .unset] [])) _
          refine XS.iconst X228.here hx rfl (hb hby at_208) ?_
          show Steps p.tables e below (T228.setTop (mkF m 209 #[.val (.int p0), .val (.int p1), .val (.int p2), .val (.int p3), .val (.int p4), .val (.int p5), .val (.int (v0_7_l6 p0)), .val (.int (v0_17_l7 p0)), .val (.int (v0_30_l8 p0 p1)), .val (.int (v0_37_s0 p0 p3 p5)), .val (.int (p2 &&& (15 : Int32))), .val (.int (p4 &&& (15 : Int32))), .val (.ref b198), .val (.int (1 : Int32)), .val (.int (v0_153_l14 p0 p3 p5)), .val (.int (v0_160_l15 p4)), .val (.int (v0_166_s0 p0 p3 p4 p5)), .unset] [(.int (1 : Int32))])) _
          refine XS.goto X228.here hx rfl (pc0 := 209) (pc' := 213) rfl (hb hby at_209) (by decide) (by decide) ?_
          exact k231
        · rw [(show (v0_205_s0 p0 p3 p4 p5) = (0 : Int32) from if_neg hc205_230)] at k231
          show Steps p.tables e below (T228.setTop (mkF m 205 #[.val (.int p0), .val (.int p1), .val (.int p2), .val (.int p3), .val (.int p4), .val (.int p5), .val (.int (v0_7_l6 p0)), .val (.int (v0_17_l7 p0)), .val (.int (v0_30_l8 p0 p1)), .val (.int (v0_37_s0 p0 p3 p5)), .val (.int (p2 &&& (15 : Int32))), .val (.int (p4 &&& (15 : Int32))), .val (.ref b198), .val (.int (1 : Int32)), .val (.int (v0_153_l14 p0 p3 p5)), .val (.int (v0_160_l15 p4)), .val (.int (v0_166_s0 p0 p3 p4 p5)), .unset] [(.int ((v0_166_s0 p0 p3 p4 p5) + (v0_153_l14 p0 p3 p5))), (.int (v12_ret (v0_37_s0 p0 p3 p5) (v0_7_l6 p0) (9 : Int32) (0 : Int32) (((0 : Int32) + (p4 &&& (15 : Int32))) % (8 : Int32))))])) _
          refine XS.icmpYes X228.here hx rfl (pc0 := 205) (pc' := 212) rfl (hb hby at_205) rfl (feq hc205_230).2 (by decide) (by decide) ?_
          show Steps p.tables e below (T228.setTop (mkF m 212 #[.val (.int p0), .val (.int p1), .val (.int p2), .val (.int p3), .val (.int p4), .val (.int p5), .val (.int (v0_7_l6 p0)), .val (.int (v0_17_l7 p0)), .val (.int (v0_30_l8 p0 p1)), .val (.int (v0_37_s0 p0 p3 p5)), .val (.int (p2 &&& (15 : Int32))), .val (.int (p4 &&& (15 : Int32))), .val (.ref b198), .val (.int (1 : Int32)), .val (.int (v0_153_l14 p0 p3 p5)), .val (.int (v0_160_l15 p4)), .val (.int (v0_166_s0 p0 p3 p4 p5)), .unset] [])) _
          refine XS.iconst X228.here hx rfl (hb hby at_212) ?_
          exact k231
      show Steps p.tables e below (T228.setTop (mkF m 213 #[.val (.int p0), .val (.int p1), .val (.int p2), .val (.int p3), .val (.int p4), .val (.int p5), .val (.int (v0_7_l6 p0)), .val (.int (v0_17_l7 p0)), .val (.int (v0_30_l8 p0 p1)), .val (.int (v0_37_s0 p0 p3 p5)), .val (.int (p2 &&& (15 : Int32))), .val (.int (p4 &&& (15 : Int32))), .val (.ref b198), .val (.int (1 : Int32)), .val (.int (v0_153_l14 p0 p3 p5)), .val (.int (v0_160_l15 p4)), .val (.int (v0_166_s0 p0 p3 p4 p5)), .unset] [(.int (v0_205_s0 p0 p3 p4 p5))])) _
      refine XS.istore X228.here hx rfl (hb hby at_213) rfl (l' := #[.val (.int p0), .val (.int p1), .val (.int p2), .val (.int p3), .val (.int p4), .val (.int p5), .val (.int (v0_7_l6 p0)), .val (.int (v0_17_l7 p0)), .val (.int (v0_30_l8 p0 p1)), .val (.int (v0_37_s0 p0 p3 p5)), .val (.int (p2 &&& (15 : Int32))), .val (.int (p4 &&& (15 : Int32))), .val (.ref b198), .val (.int (v0_205_s0 p0 p3 p4 p5)), .val (.int (v0_153_l14 p0 p3 p5)), .val (.int (v0_160_l15 p4)), .val (.int (v0_166_s0 p0 p3 p4 p5)), .unset]) rfl ?_
      show Steps p.tables e below (T228.setTop (mkF m 215 #[.val (.int p0), .val (.int p1), .val (.int p2), .val (.int p3), .val (.int p4), .val (.int p5), .val (.int (v0_7_l6 p0)), .val (.int (v0_17_l7 p0)), .val (.int (v0_30_l8 p0 p1)), .val (.int (v0_37_s0 p0 p3 p5)), .val (.int (p2 &&& (15 : Int32))), .val (.int (p4 &&& (15 : Int32))), .val (.ref b198), .val (.int (v0_205_s0 p0 p3 p4 p5)), .val (.int (v0_153_l14 p0 p3 p5)), .val (.int (v0_160_l15 p4)), .val (.int (v0_166_s0 p0 p3 p4 p5)), .unset] [])) _
      refine XS.aload X228.here hx rfl (hb hby at_215) rfl rfl ?_
      show Steps p.tables e below (T228.setTop (mkF m 217 #[.val (.int p0), .val (.int p1), .val (.int p2), .val (.int p3), .val (.int p4), .val (.int p5), .val (.int (v0_7_l6 p0)), .val (.int (v0_17_l7 p0)), .val (.int (v0_30_l8 p0 p1)), .val (.int (v0_37_s0 p0 p3 p5)), .val (.int (p2 &&& (15 : Int32))), .val (.int (p4 &&& (15 : Int32))), .val (.ref b198), .val (.int (v0_205_s0 p0 p3 p4 p5)), .val (.int (v0_153_l14 p0 p3 p5)), .val (.int (v0_160_l15 p4)), .val (.int (v0_166_s0 p0 p3 p4 p5)), .unset] [(.ref b198)])) _
      refine XS.iload X228.here hx rfl (hb hby at_217) rfl ?_
      exact kk)
    have Zz233 : n0 ≤ T218.heap.size := (Nat.le_trans Z0 K218.1)
    obtain ⟨cq233, kq233, q233a, q233b, q233c⟩ := isOf hZ e228 Eq218_0
    obtain ⟨_, _, ⟨T233, L233, k233, n233⟩, -, X233, ⟨Lc233, hQ233, l233, y233, z233⟩, st233⟩ := X228.virtualBack hx (y := (⟨"phrasebook/ZFormat$Layout", "place", "(I)I"⟩ : MethodName)) (z := (⟨"phrasebook/ZFormat$Layout", "place", "(I)I"⟩ : MethodName)) hown (mvT hZ (hw _ (List.mem_of_getElem? (i := 23) rfl))) (mvT hZ (hw _ (List.mem_of_getElem? (i := 24) rfl))) (notFace_of_selects (args := #[]) (mvT hZ (hw _ (List.mem_of_getElem? (i := 26) rfl)))) (mvT hZ (hw _ (List.mem_of_getElem? (i := 26) rfl))) (mvT hZ (hw _ (List.mem_of_getElem? (i := 25) rfl))) (by decide) (backOf (W := 0) (rm4 l Z a0 hw [] b198 (v0_37_s0 p0 p3 p5) (v0_7_l6 p0) (9 : Int32) (0 : Int32) (((0 : Int32) + (p4 &&& (15 : Int32))) % (8 : Int32)) T218.heap n0 Zz233 Fq218_0 Eq218_0 Fq218_1 Fq218_3 g_b198 Fq218_2) hZ (hw _ (List.mem_of_getElem? (i := 27) rfl)) (hw _ (List.mem_of_getElem? (i := 3) rfl)) (by decide) (by decide)) q233a q233c (g := (mkF m 219 #[.val (.int p0), .val (.int p1), .val (.int p2), .val (.int p3), .val (.int p4), .val (.int p5), .val (.int (v0_7_l6 p0)), .val (.int (v0_17_l7 p0)), .val (.int (v0_30_l8 p0 p1)), .val (.int (v0_37_s0 p0 p3 p5)), .val (.int (p2 &&& (15 : Int32))), .val (.int (p4 &&& (15 : Int32))), .val (.ref b198), .val (.int (v0_205_s0 p0 p3 p4 p5)), .val (.int (v0_153_l14 p0 p3 p5)), .val (.int (v0_160_l15 p4)), .val (.int (v0_166_s0 p0 p3 p4 p5)), .unset] [(.int (v0_37_s0 p0 p3 p5)), (.ref b198)])) rfl (by rw [hml]; rfl) (Steps.refl _) (argsL := [(.int (v0_37_s0 p0 p3 p5))]) (rest := []) (lenOf pd_1 rfl) rfl (by show 2 * 0 + _ ≤ _; exact Nat.le_of_eq rfl) (hb hby at_219) (fun _ _ => ⟨rfl, e228, (by decide : 1 + 0 ≤ _), (by decide : 4 + 0 ≤ _)⟩)
    dsimp only [Pt.U, Pt.locs, Pt.cells, Pt.slots] at X233 l233 y233 z233 st233 hQ233
    subst l233 y233 z233
    obtain ⟨rfl, N233q, Kq233, Eq233_0, Fq233_0, Fq233_1, Fq233_2, Fq233_3⟩ := hQ233
    have K233 : Keep h0 T233.heap [] := K218.trans Kq233 (allS (Or.inr sz_b198) all0)
    have N233 := Fr.app N228 N233q
    have k234 := fun (t : State) (kk : Steps p.tables e below (T233.setTop (mkF m 222 #[.val (.int p0), .val (.int p1), .val (.int p2), .val (.int p3), .val (.int p4), .val (.int p5), .val (.int (v0_7_l6 p0)), .val (.int (v0_17_l7 p0)), .val (.int (v0_30_l8 p0 p1)), .val (.int (v0_37_s0 p0 p3 p5)), .val (.int (p2 &&& (15 : Int32))), .val (.int (p4 &&& (15 : Int32))), .val (.ref b198), .val (.int (v0_205_s0 p0 p3 p4 p5)), .val (.int (v0_153_l14 p0 p3 p5)), .val (.int (v0_160_l15 p4)), .val (.int (v0_166_s0 p0 p3 p4 p5)), .unset] [(.int (v4_ret (v0_37_s0 p0 p3 p5) (v0_7_l6 p0) (9 : Int32) (0 : Int32) (((0 : Int32) + (p4 &&& (15 : Int32))) % (8 : Int32))))])) t) => k232 t (st233.trans kk)
    have k235 := fun (t : State) (kk : Steps p.tables e below (T233.setTop (mkF m 226 #[.val (.int p0), .val (.int p1), .val (.int p2), .val (.int p3), .val (.int p4), .val (.int p5), .val (.int (v0_7_l6 p0)), .val (.int (v0_17_l7 p0)), .val (.int (v0_30_l8 p0 p1)), .val (.int (v0_37_s0 p0 p3 p5)), .val (.int (p2 &&& (15 : Int32))), .val (.int (p4 &&& (15 : Int32))), .val (.ref b198), .val (.int (v0_205_s0 p0 p3 p4 p5)), .val (.int (v0_153_l14 p0 p3 p5)), .val (.int (v0_160_l15 p4)), .val (.int (v0_166_s0 p0 p3 p4 p5)), .val (.int (v0_222_l17 p0 p3 p4 p5))] [(.int (v0_205_s0 p0 p3 p4 p5))])) t) => k234 t (by
      show Steps p.tables e below (T233.setTop (mkF m 222 #[.val (.int p0), .val (.int p1), .val (.int p2), .val (.int p3), .val (.int p4), .val (.int p5), .val (.int (v0_7_l6 p0)), .val (.int (v0_17_l7 p0)), .val (.int (v0_30_l8 p0 p1)), .val (.int (v0_37_s0 p0 p3 p5)), .val (.int (p2 &&& (15 : Int32))), .val (.int (p4 &&& (15 : Int32))), .val (.ref b198), .val (.int (v0_205_s0 p0 p3 p4 p5)), .val (.int (v0_153_l14 p0 p3 p5)), .val (.int (v0_160_l15 p4)), .val (.int (v0_166_s0 p0 p3 p4 p5)), .unset] [(.int (v4_ret (v0_37_s0 p0 p3 p5) (v0_7_l6 p0) (9 : Int32) (0 : Int32) (((0 : Int32) + (p4 &&& (15 : Int32))) % (8 : Int32))))])) _
      refine XS.istore X233.here hx rfl (hb hby at_222) rfl (l' := #[.val (.int p0), .val (.int p1), .val (.int p2), .val (.int p3), .val (.int p4), .val (.int p5), .val (.int (v0_7_l6 p0)), .val (.int (v0_17_l7 p0)), .val (.int (v0_30_l8 p0 p1)), .val (.int (v0_37_s0 p0 p3 p5)), .val (.int (p2 &&& (15 : Int32))), .val (.int (p4 &&& (15 : Int32))), .val (.ref b198), .val (.int (v0_205_s0 p0 p3 p4 p5)), .val (.int (v0_153_l14 p0 p3 p5)), .val (.int (v0_160_l15 p4)), .val (.int (v0_166_s0 p0 p3 p4 p5)), .val (.int (v0_222_l17 p0 p3 p4 p5))]) rfl ?_
      show Steps p.tables e below (T233.setTop (mkF m 224 #[.val (.int p0), .val (.int p1), .val (.int p2), .val (.int p3), .val (.int p4), .val (.int p5), .val (.int (v0_7_l6 p0)), .val (.int (v0_17_l7 p0)), .val (.int (v0_30_l8 p0 p1)), .val (.int (v0_37_s0 p0 p3 p5)), .val (.int (p2 &&& (15 : Int32))), .val (.int (p4 &&& (15 : Int32))), .val (.ref b198), .val (.int (v0_205_s0 p0 p3 p4 p5)), .val (.int (v0_153_l14 p0 p3 p5)), .val (.int (v0_160_l15 p4)), .val (.int (v0_166_s0 p0 p3 p4 p5)), .val (.int (v0_222_l17 p0 p3 p4 p5))] [])) _
      refine XS.iload X233.here hx rfl (hb hby at_224) rfl ?_
      exact kk)
    by_cases hc226_236 : (v0_205_s0 p0 p3 p4 p5) = (0 : Int32)
    · have k237 := fun (t : State) (kk : Steps p.tables e below (T233.setTop (mkF m 255 #[.val (.int p0), .val (.int p1), .val (.int p2), .val (.int p3), .val (.int p4), .val (.int p5), .val (.int (v0_7_l6 p0)), .val (.int (v0_17_l7 p0)), .val (.int (v0_30_l8 p0 p1)), .val (.int (v0_37_s0 p0 p3 p5)), .val (.int (p2 &&& (15 : Int32))), .val (.int (p4 &&& (15 : Int32))), .val (.ref b198), .val (.int (0 : Int32)), .val (.int (v0_153_l14 p0 p3 p5)), .val (.int (v0_160_l15 p4)), .val (.int (v0_166_s0 p0 p3 p4 p5)), .val (.int (v0_222_l17 p0 p3 p4 p5))] [(.int (0 : Int32))])) t) => k235 t (by
        show Steps p.tables e below (T233.setTop (mkF m 226 #[.val (.int p0), .val (.int p1), .val (.int p2), .val (.int p3), .val (.int p4), .val (.int p5), .val (.int (v0_7_l6 p0)), .val (.int (v0_17_l7 p0)), .val (.int (v0_30_l8 p0 p1)), .val (.int (v0_37_s0 p0 p3 p5)), .val (.int (p2 &&& (15 : Int32))), .val (.int (p4 &&& (15 : Int32))), .val (.ref b198), .val (.int (v0_205_s0 p0 p3 p4 p5)), .val (.int (v0_153_l14 p0 p3 p5)), .val (.int (v0_160_l15 p4)), .val (.int (v0_166_s0 p0 p3 p4 p5)), .val (.int (v0_222_l17 p0 p3 p4 p5))] [(.int (v0_205_s0 p0 p3 p4 p5))])) _
        refine XS.ifYes X233.here hx rfl (pc0 := 226) (pc' := 250) rfl (hb hby at_226) rfl ((if0 _ _).trans (teq hc226_236).1) (by decide) (by decide) ?_
        show Steps p.tables e below (T233.setTop (mkF m 250 #[.val (.int p0), .val (.int p1), .val (.int p2), .val (.int p3), .val (.int p4), .val (.int p5), .val (.int (v0_7_l6 p0)), .val (.int (v0_17_l7 p0)), .val (.int (v0_30_l8 p0 p1)), .val (.int (v0_37_s0 p0 p3 p5)), .val (.int (p2 &&& (15 : Int32))), .val (.int (p4 &&& (15 : Int32))), .val (.ref b198), .val (.int (v0_205_s0 p0 p3 p4 p5)), .val (.int (v0_153_l14 p0 p3 p5)), .val (.int (v0_160_l15 p4)), .val (.int (v0_166_s0 p0 p3 p4 p5)), .val (.int (v0_222_l17 p0 p3 p4 p5))] [])) _
        refine XS.iconst X233.here hx rfl (hb hby at_250) ?_
        show Steps p.tables e below (T233.setTop (mkF m 251 #[.val (.int p0), .val (.int p1), .val (.int p2), .val (.int p3), .val (.int p4), .val (.int p5), .val (.int (v0_7_l6 p0)), .val (.int (v0_17_l7 p0)), .val (.int (v0_30_l8 p0 p1)), .val (.int (v0_37_s0 p0 p3 p5)), .val (.int (p2 &&& (15 : Int32))), .val (.int (p4 &&& (15 : Int32))), .val (.ref b198), .val (.int (v0_205_s0 p0 p3 p4 p5)), .val (.int (v0_153_l14 p0 p3 p5)), .val (.int (v0_160_l15 p4)), .val (.int (v0_166_s0 p0 p3 p4 p5)), .val (.int (v0_222_l17 p0 p3 p4 p5))] [(.int (0 : Int32))])) _
        refine XS.istore X233.here hx rfl (hb hby at_251) rfl (l' := #[.val (.int p0), .val (.int p1), .val (.int p2), .val (.int p3), .val (.int p4), .val (.int p5), .val (.int (v0_7_l6 p0)), .val (.int (v0_17_l7 p0)), .val (.int (v0_30_l8 p0 p1)), .val (.int (v0_37_s0 p0 p3 p5)), .val (.int (p2 &&& (15 : Int32))), .val (.int (p4 &&& (15 : Int32))), .val (.ref b198), .val (.int (0 : Int32)), .val (.int (v0_153_l14 p0 p3 p5)), .val (.int (v0_160_l15 p4)), .val (.int (v0_166_s0 p0 p3 p4 p5)), .val (.int (v0_222_l17 p0 p3 p4 p5))]) rfl ?_
        show Steps p.tables e below (T233.setTop (mkF m 253 #[.val (.int p0), .val (.int p1), .val (.int p2), .val (.int p3), .val (.int p4), .val (.int p5), .val (.int (v0_7_l6 p0)), .val (.int (v0_17_l7 p0)), .val (.int (v0_30_l8 p0 p1)), .val (.int (v0_37_s0 p0 p3 p5)), .val (.int (p2 &&& (15 : Int32))), .val (.int (p4 &&& (15 : Int32))), .val (.ref b198), .val (.int (0 : Int32)), .val (.int (v0_153_l14 p0 p3 p5)), .val (.int (v0_160_l15 p4)), .val (.int (v0_166_s0 p0 p3 p4 p5)), .val (.int (v0_222_l17 p0 p3 p4 p5))] [])) _
        refine XS.iload X233.here hx rfl (hb hby at_253) rfl ?_
        exact kk)
      obtain ⟨fs, hr, hrun, hended, hW, hsame⟩ := X233.leave (v := some (.int (0 : Int32))) (fun h => by rw [Bd.returns] at h; cases h)
      have hv : (v0_ret p0 p3 p4 p5) = (0 : Int32) := (if_pos hc226_236)
      have hone : (0 : Int32) = 1 := hv.symm.trans (own_law p0 p1 p2 p3 p4 p5)
      exact absurd hone (by decide)
    · have k238 := fun (t : State) (kk : Steps p.tables e below (T233.setTop (mkF m 233 #[.val (.int p0), .val (.int p1), .val (.int p2), .val (.int p3), .val (.int p4), .val (.int p5), .val (.int (v0_7_l6 p0)), .val (.int (v0_17_l7 p0)), .val (.int (v0_30_l8 p0 p1)), .val (.int (v0_37_s0 p0 p3 p5)), .val (.int (p2 &&& (15 : Int32))), .val (.int (p4 &&& (15 : Int32))), .val (.ref b198), .val (.int (v0_205_s0 p0 p3 p4 p5)), .val (.int (v0_153_l14 p0 p3 p5)), .val (.int (v0_160_l15 p4)), .val (.int (v0_166_s0 p0 p3 p4 p5)), .val (.int (v0_222_l17 p0 p3 p4 p5))] [(.int (v0_166_s0 p0 p3 p4 p5)), (.int (v0_222_l17 p0 p3 p4 p5))])) t) => k235 t (by
        show Steps p.tables e below (T233.setTop (mkF m 226 #[.val (.int p0), .val (.int p1), .val (.int p2), .val (.int p3), .val (.int p4), .val (.int p5), .val (.int (v0_7_l6 p0)), .val (.int (v0_17_l7 p0)), .val (.int (v0_30_l8 p0 p1)), .val (.int (v0_37_s0 p0 p3 p5)), .val (.int (p2 &&& (15 : Int32))), .val (.int (p4 &&& (15 : Int32))), .val (.ref b198), .val (.int (v0_205_s0 p0 p3 p4 p5)), .val (.int (v0_153_l14 p0 p3 p5)), .val (.int (v0_160_l15 p4)), .val (.int (v0_166_s0 p0 p3 p4 p5)), .val (.int (v0_222_l17 p0 p3 p4 p5))] [(.int (v0_205_s0 p0 p3 p4 p5))])) _
        refine XS.ifNo X233.here hx rfl (hb hby at_226) rfl ((if0 _ _).trans (feq hc226_236).1) ?_
        show Steps p.tables e below (T233.setTop (mkF m 229 #[.val (.int p0), .val (.int p1), .val (.int p2), .val (.int p3), .val (.int p4), .val (.int p5), .val (.int (v0_7_l6 p0)), .val (.int (v0_17_l7 p0)), .val (.int (v0_30_l8 p0 p1)), .val (.int (v0_37_s0 p0 p3 p5)), .val (.int (p2 &&& (15 : Int32))), .val (.int (p4 &&& (15 : Int32))), .val (.ref b198), .val (.int (v0_205_s0 p0 p3 p4 p5)), .val (.int (v0_153_l14 p0 p3 p5)), .val (.int (v0_160_l15 p4)), .val (.int (v0_166_s0 p0 p3 p4 p5)), .val (.int (v0_222_l17 p0 p3 p4 p5))] [])) _
        refine XS.iload X233.here hx rfl (hb hby at_229) rfl ?_
        show Steps p.tables e below (T233.setTop (mkF m 231 #[.val (.int p0), .val (.int p1), .val (.int p2), .val (.int p3), .val (.int p4), .val (.int p5), .val (.int (v0_7_l6 p0)), .val (.int (v0_17_l7 p0)), .val (.int (v0_30_l8 p0 p1)), .val (.int (v0_37_s0 p0 p3 p5)), .val (.int (p2 &&& (15 : Int32))), .val (.int (p4 &&& (15 : Int32))), .val (.ref b198), .val (.int (v0_205_s0 p0 p3 p4 p5)), .val (.int (v0_153_l14 p0 p3 p5)), .val (.int (v0_160_l15 p4)), .val (.int (v0_166_s0 p0 p3 p4 p5)), .val (.int (v0_222_l17 p0 p3 p4 p5))] [(.int (v0_222_l17 p0 p3 p4 p5))])) _
        refine XS.iload X233.here hx rfl (hb hby at_231) rfl ?_
        exact kk)
      by_cases hc233_239 : (v0_222_l17 p0 p3 p4 p5) = (v0_166_s0 p0 p3 p4 p5)
      · have k240 := fun (t : State) (kk : Steps p.tables e below (T233.setTop (mkF m 238 #[.val (.int p0), .val (.int p1), .val (.int p2), .val (.int p3), .val (.int p4), .val (.int p5), .val (.int (v0_7_l6 p0)), .val (.int (v0_17_l7 p0)), .val (.int (v0_30_l8 p0 p1)), .val (.int (v0_37_s0 p0 p3 p5)), .val (.int (p2 &&& (15 : Int32))), .val (.int (p4 &&& (15 : Int32))), .val (.ref b198), .val (.int (v0_205_s0 p0 p3 p4 p5)), .val (.int (v0_153_l14 p0 p3 p5)), .val (.int (v0_160_l15 p4)), .val (.int (v0_166_s0 p0 p3 p4 p5)), .val (.int (v0_222_l17 p0 p3 p4 p5))] [(.ref b198)])) t) => k238 t (by
          show Steps p.tables e below (T233.setTop (mkF m 233 #[.val (.int p0), .val (.int p1), .val (.int p2), .val (.int p3), .val (.int p4), .val (.int p5), .val (.int (v0_7_l6 p0)), .val (.int (v0_17_l7 p0)), .val (.int (v0_30_l8 p0 p1)), .val (.int (v0_37_s0 p0 p3 p5)), .val (.int (p2 &&& (15 : Int32))), .val (.int (p4 &&& (15 : Int32))), .val (.ref b198), .val (.int (v0_205_s0 p0 p3 p4 p5)), .val (.int (v0_153_l14 p0 p3 p5)), .val (.int (v0_160_l15 p4)), .val (.int (v0_166_s0 p0 p3 p4 p5)), .val (.int (v0_222_l17 p0 p3 p4 p5))] [(.int (v0_166_s0 p0 p3 p4 p5)), (.int (v0_222_l17 p0 p3 p4 p5))])) _
          refine XS.icmpNo X233.here hx rfl (hb hby at_233) rfl (teq hc233_239).2 ?_
          show Steps p.tables e below (T233.setTop (mkF m 236 #[.val (.int p0), .val (.int p1), .val (.int p2), .val (.int p3), .val (.int p4), .val (.int p5), .val (.int (v0_7_l6 p0)), .val (.int (v0_17_l7 p0)), .val (.int (v0_30_l8 p0 p1)), .val (.int (v0_37_s0 p0 p3 p5)), .val (.int (p2 &&& (15 : Int32))), .val (.int (p4 &&& (15 : Int32))), .val (.ref b198), .val (.int (v0_205_s0 p0 p3 p4 p5)), .val (.int (v0_153_l14 p0 p3 p5)), .val (.int (v0_160_l15 p4)), .val (.int (v0_166_s0 p0 p3 p4 p5)), .val (.int (v0_222_l17 p0 p3 p4 p5))] [])) _
          refine XS.aload X233.here hx rfl (hb hby at_236) rfl rfl ?_
          exact kk)
        have Zz241 : n0 ≤ T233.heap.size := (Nat.le_trans Z0 K233.1)
        obtain ⟨cq241, kq241, q241a, q241b, q241c⟩ := isOf hZ rfl Eq233_0
        obtain ⟨_, _, ⟨T241, L241, k241, n241⟩, -, X241, ⟨Lc241, hQ241, l241, y241, z241⟩, st241⟩ := X233.virtualBack hx (y := (⟨"phrasebook/ZFormat$Layout", "width", "()I"⟩ : MethodName)) (z := (⟨"phrasebook/ZFormat$Layout", "width", "()I"⟩ : MethodName)) hown (mvT hZ (hw _ (List.mem_of_getElem? (i := 52) rfl))) (mvT hZ (hw _ (List.mem_of_getElem? (i := 53) rfl))) (notFace_of_selects (args := #[]) (mvT hZ (hw _ (List.mem_of_getElem? (i := 55) rfl)))) (mvT hZ (hw _ (List.mem_of_getElem? (i := 55) rfl))) (mvT hZ (hw _ (List.mem_of_getElem? (i := 54) rfl))) (by decide) (backOf (W := 0) (rm10 l Z a0 hw [] b198 (v5_ret (v0_37_s0 p0 p3 p5) (v0_7_l6 p0)) T233.heap n0 Zz241 Fq233_1) hZ (hw _ (List.mem_of_getElem? (i := 56) rfl)) (hw _ (List.mem_of_getElem? (i := 3) rfl)) (by decide) (by decide)) q241a q241c (g := (mkF m 238 #[.val (.int p0), .val (.int p1), .val (.int p2), .val (.int p3), .val (.int p4), .val (.int p5), .val (.int (v0_7_l6 p0)), .val (.int (v0_17_l7 p0)), .val (.int (v0_30_l8 p0 p1)), .val (.int (v0_37_s0 p0 p3 p5)), .val (.int (p2 &&& (15 : Int32))), .val (.int (p4 &&& (15 : Int32))), .val (.ref b198), .val (.int (v0_205_s0 p0 p3 p4 p5)), .val (.int (v0_153_l14 p0 p3 p5)), .val (.int (v0_160_l15 p4)), .val (.int (v0_166_s0 p0 p3 p4 p5)), .val (.int (v0_222_l17 p0 p3 p4 p5))] [(.ref b198)])) rfl (by rw [hml]; rfl) (Steps.refl _) (argsL := []) (rest := []) (lenOf pd_4 rfl) rfl (by show 2 * 0 + _ ≤ _; exact Nat.le_of_eq rfl) (hb hby at_238) (fun _ _ => ⟨rfl, rfl, (by decide : 1 + 0 ≤ _), (by decide : 4 + 0 ≤ _)⟩)
        dsimp only [Pt.U, Pt.locs, Pt.cells, Pt.slots] at X241 l241 y241 z241 st241 hQ241
        subst l241 y241 z241
        obtain ⟨rfl, N241q, e241⟩ := hQ241
        have N241 := Fr.app N233 N241q
        have k242 := fun (t : State) (kk : Steps p.tables e below (T241.setTop (mkF m 241 #[.val (.int p0), .val (.int p1), .val (.int p2), .val (.int p3), .val (.int p4), .val (.int p5), .val (.int (v0_7_l6 p0)), .val (.int (v0_17_l7 p0)), .val (.int (v0_30_l8 p0 p1)), .val (.int (v0_37_s0 p0 p3 p5)), .val (.int (p2 &&& (15 : Int32))), .val (.int (p4 &&& (15 : Int32))), .val (.ref b198), .val (.int (v0_205_s0 p0 p3 p4 p5)), .val (.int (v0_153_l14 p0 p3 p5)), .val (.int (v0_160_l15 p4)), .val (.int (v0_166_s0 p0 p3 p4 p5)), .val (.int (v0_222_l17 p0 p3 p4 p5))] [(.int (v5_ret (v0_37_s0 p0 p3 p5) (v0_7_l6 p0)))])) t) => k240 t (st241.trans kk)
        have k245 := fun (t : State) (kk : Steps p.tables e below (T241.setTop (mkF m 255 #[.val (.int p0), .val (.int p1), .val (.int p2), .val (.int p3), .val (.int p4), .val (.int p5), .val (.int (v0_7_l6 p0)), .val (.int (v0_17_l7 p0)), .val (.int (v0_30_l8 p0 p1)), .val (.int (v0_37_s0 p0 p3 p5)), .val (.int (p2 &&& (15 : Int32))), .val (.int (p4 &&& (15 : Int32))), .val (.ref b198), .val (.int (v0_243_s0 p0 p3 p5)), .val (.int (v0_153_l14 p0 p3 p5)), .val (.int (v0_160_l15 p4)), .val (.int (v0_166_s0 p0 p3 p4 p5)), .val (.int (v0_222_l17 p0 p3 p4 p5))] [(.int (v0_243_s0 p0 p3 p5))])) t) => k242 t (by
          show Steps p.tables e below (T241.setTop (mkF m 241 #[.val (.int p0), .val (.int p1), .val (.int p2), .val (.int p3), .val (.int p4), .val (.int p5), .val (.int (v0_7_l6 p0)), .val (.int (v0_17_l7 p0)), .val (.int (v0_30_l8 p0 p1)), .val (.int (v0_37_s0 p0 p3 p5)), .val (.int (p2 &&& (15 : Int32))), .val (.int (p4 &&& (15 : Int32))), .val (.ref b198), .val (.int (v0_205_s0 p0 p3 p4 p5)), .val (.int (v0_153_l14 p0 p3 p5)), .val (.int (v0_160_l15 p4)), .val (.int (v0_166_s0 p0 p3 p4 p5)), .val (.int (v0_222_l17 p0 p3 p4 p5))] [(.int (v5_ret (v0_37_s0 p0 p3 p5) (v0_7_l6 p0)))])) _
          refine XS.iload X241.here hx rfl (hb hby at_241) rfl ?_
          suffices k244 : Steps p.tables e below (T241.setTop (mkF m 251 #[.val (.int p0), .val (.int p1), .val (.int p2), .val (.int p3), .val (.int p4), .val (.int p5), .val (.int (v0_7_l6 p0)), .val (.int (v0_17_l7 p0)), .val (.int (v0_30_l8 p0 p1)), .val (.int (v0_37_s0 p0 p3 p5)), .val (.int (p2 &&& (15 : Int32))), .val (.int (p4 &&& (15 : Int32))), .val (.ref b198), .val (.int (v0_205_s0 p0 p3 p4 p5)), .val (.int (v0_153_l14 p0 p3 p5)), .val (.int (v0_160_l15 p4)), .val (.int (v0_166_s0 p0 p3 p4 p5)), .val (.int (v0_222_l17 p0 p3 p4 p5))] [(.int (v0_243_s0 p0 p3 p5))])) t by
            by_cases hc243_243 : (v5_ret (v0_37_s0 p0 p3 p5) (v0_7_l6 p0)) = (v0_153_l14 p0 p3 p5)
            · rw [(show (v0_243_s0 p0 p3 p5) = (1 : Int32) from if_pos hc243_243)] at k244
              show Steps p.tables e below (T241.setTop (mkF m 243 #[.val (.int p0), .val (.int p1), .val (.int p2), .val (.int p3), .val (.int p4), .val (.int p5), .val (.int (v0_7_l6 p0)), .val (.int (v0_17_l7 p0)), .val (.int (v0_30_l8 p0 p1)), .val (.int (v0_37_s0 p0 p3 p5)), .val (.int (p2 &&& (15 : Int32))), .val (.int (p4 &&& (15 : Int32))), .val (.ref b198), .val (.int (v0_205_s0 p0 p3 p4 p5)), .val (.int (v0_153_l14 p0 p3 p5)), .val (.int (v0_160_l15 p4)), .val (.int (v0_166_s0 p0 p3 p4 p5)), .val (.int (v0_222_l17 p0 p3 p4 p5))] [(.int (v0_153_l14 p0 p3 p5)), (.int (v5_ret (v0_37_s0 p0 p3 p5) (v0_7_l6 p0)))])) _
              refine XS.icmpNo X241.here hx rfl (hb hby at_243) rfl (teq hc243_243).2 ?_
              show Steps p.tables e below (T241.setTop (mkF m 246 #[.val (.int p0), .val (.int p1), .val (.int p2), .val (.int p3), .val (.int p4), .val (.int p5), .val (.int (v0_7_l6 p0)), .val (.int (v0_17_l7 p0)), .val (.int (v0_30_l8 p0 p1)), .val (.int (v0_37_s0 p0 p3 p5)), .val (.int (p2 &&& (15 : Int32))), .val (.int (p4 &&& (15 : Int32))), .val (.ref b198), .val (.int (v0_205_s0 p0 p3 p4 p5)), .val (.int (v0_153_l14 p0 p3 p5)), .val (.int (v0_160_l15 p4)), .val (.int (v0_166_s0 p0 p3 p4 p5)), .val (.int (v0_222_l17 p0 p3 p4 p5))] [])) _
              refine XS.iconst X241.here hx rfl (hb hby at_246) ?_
              show Steps p.tables e below (T241.setTop (mkF m 247 #[.val (.int p0), .val (.int p1), .val (.int p2), .val (.int p3), .val (.int p4), .val (.int p5), .val (.int (v0_7_l6 p0)), .val (.int (v0_17_l7 p0)), .val (.int (v0_30_l8 p0 p1)), .val (.int (v0_37_s0 p0 p3 p5)), .val (.int (p2 &&& (15 : Int32))), .val (.int (p4 &&& (15 : Int32))), .val (.ref b198), .val (.int (v0_205_s0 p0 p3 p4 p5)), .val (.int (v0_153_l14 p0 p3 p5)), .val (.int (v0_160_l15 p4)), .val (.int (v0_166_s0 p0 p3 p4 p5)), .val (.int (v0_222_l17 p0 p3 p4 p5))] [(.int (1 : Int32))])) _
              refine XS.goto X241.here hx rfl (pc0 := 247) (pc' := 251) rfl (hb hby at_247) (by decide) (by decide) ?_
              exact k244
            · rw [(show (v0_243_s0 p0 p3 p5) = (0 : Int32) from if_neg hc243_243)] at k244
              show Steps p.tables e below (T241.setTop (mkF m 243 #[.val (.int p0), .val (.int p1), .val (.int p2), .val (.int p3), .val (.int p4), .val (.int p5), .val (.int (v0_7_l6 p0)), .val (.int (v0_17_l7 p0)), .val (.int (v0_30_l8 p0 p1)), .val (.int (v0_37_s0 p0 p3 p5)), .val (.int (p2 &&& (15 : Int32))), .val (.int (p4 &&& (15 : Int32))), .val (.ref b198), .val (.int (v0_205_s0 p0 p3 p4 p5)), .val (.int (v0_153_l14 p0 p3 p5)), .val (.int (v0_160_l15 p4)), .val (.int (v0_166_s0 p0 p3 p4 p5)), .val (.int (v0_222_l17 p0 p3 p4 p5))] [(.int (v0_153_l14 p0 p3 p5)), (.int (v5_ret (v0_37_s0 p0 p3 p5) (v0_7_l6 p0)))])) _
              refine XS.icmpYes X241.here hx rfl (pc0 := 243) (pc' := 250) rfl (hb hby at_243) rfl (feq hc243_243).2 (by decide) (by decide) ?_
              show Steps p.tables e below (T241.setTop (mkF m 250 #[.val (.int p0), .val (.int p1), .val (.int p2), .val (.int p3), .val (.int p4), .val (.int p5), .val (.int (v0_7_l6 p0)), .val (.int (v0_17_l7 p0)), .val (.int (v0_30_l8 p0 p1)), .val (.int (v0_37_s0 p0 p3 p5)), .val (.int (p2 &&& (15 : Int32))), .val (.int (p4 &&& (15 : Int32))), .val (.ref b198), .val (.int (v0_205_s0 p0 p3 p4 p5)), .val (.int (v0_153_l14 p0 p3 p5)), .val (.int (v0_160_l15 p4)), .val (.int (v0_166_s0 p0 p3 p4 p5)), .val (.int (v0_222_l17 p0 p3 p4 p5))] [])) _
              refine XS.iconst X241.here hx rfl (hb hby at_250) ?_
              exact k244
          show Steps p.tables e below (T241.setTop (mkF m 251 #[.val (.int p0), .val (.int p1), .val (.int p2), .val (.int p3), .val (.int p4), .val (.int p5), .val (.int (v0_7_l6 p0)), .val (.int (v0_17_l7 p0)), .val (.int (v0_30_l8 p0 p1)), .val (.int (v0_37_s0 p0 p3 p5)), .val (.int (p2 &&& (15 : Int32))), .val (.int (p4 &&& (15 : Int32))), .val (.ref b198), .val (.int (v0_205_s0 p0 p3 p4 p5)), .val (.int (v0_153_l14 p0 p3 p5)), .val (.int (v0_160_l15 p4)), .val (.int (v0_166_s0 p0 p3 p4 p5)), .val (.int (v0_222_l17 p0 p3 p4 p5))] [(.int (v0_243_s0 p0 p3 p5))])) _
          refine XS.istore X241.here hx rfl (hb hby at_251) rfl (l' := #[.val (.int p0), .val (.int p1), .val (.int p2), .val (.int p3), .val (.int p4), .val (.int p5), .val (.int (v0_7_l6 p0)), .val (.int (v0_17_l7 p0)), .val (.int (v0_30_l8 p0 p1)), .val (.int (v0_37_s0 p0 p3 p5)), .val (.int (p2 &&& (15 : Int32))), .val (.int (p4 &&& (15 : Int32))), .val (.ref b198), .val (.int (v0_243_s0 p0 p3 p5)), .val (.int (v0_153_l14 p0 p3 p5)), .val (.int (v0_160_l15 p4)), .val (.int (v0_166_s0 p0 p3 p4 p5)), .val (.int (v0_222_l17 p0 p3 p4 p5))]) rfl ?_
          show Steps p.tables e below (T241.setTop (mkF m 253 #[.val (.int p0), .val (.int p1), .val (.int p2), .val (.int p3), .val (.int p4), .val (.int p5), .val (.int (v0_7_l6 p0)), .val (.int (v0_17_l7 p0)), .val (.int (v0_30_l8 p0 p1)), .val (.int (v0_37_s0 p0 p3 p5)), .val (.int (p2 &&& (15 : Int32))), .val (.int (p4 &&& (15 : Int32))), .val (.ref b198), .val (.int (v0_243_s0 p0 p3 p5)), .val (.int (v0_153_l14 p0 p3 p5)), .val (.int (v0_160_l15 p4)), .val (.int (v0_166_s0 p0 p3 p4 p5)), .val (.int (v0_222_l17 p0 p3 p4 p5))] [])) _
          refine XS.iload X241.here hx rfl (hb hby at_253) rfl ?_
          exact kk)
        obtain ⟨fs, hr, hrun, hended, hW, hsame⟩ := X241.leave (v := some (.int (nar .boolean (v0_243_s0 p0 p3 p5)))) (fun h => by rw [Bd.returns] at h; cases h)
        have hv : (v0_ret p0 p3 p4 p5) = (nar .boolean (v0_243_s0 p0 p3 p5)) := ((if_neg hc226_236).trans (if_pos hc233_239))
        have hone : (nar .boolean (v0_243_s0 p0 p3 p5)) = 1 := hv.symm.trans (own_law p0 p1 p2 p3 p4 p5)
        refine ⟨_, _, k245 _ ?_, hrun, hended, _, _, rfl, ?_, ⟨_, rfl⟩, hW, hsame.mono (by decide) (by decide)⟩
        · show Steps p.tables e below (T241.setTop (mkF m 255 #[.val (.int p0), .val (.int p1), .val (.int p2), .val (.int p3), .val (.int p4), .val (.int p5), .val (.int (v0_7_l6 p0)), .val (.int (v0_17_l7 p0)), .val (.int (v0_30_l8 p0 p1)), .val (.int (v0_37_s0 p0 p3 p5)), .val (.int (p2 &&& (15 : Int32))), .val (.int (p4 &&& (15 : Int32))), .val (.ref b198), .val (.int (v0_243_s0 p0 p3 p5)), .val (.int (v0_153_l14 p0 p3 p5)), .val (.int (v0_160_l15 p4)), .val (.int (v0_166_s0 p0 p3 p4 p5)), .val (.int (v0_222_l17 p0 p3 p4 p5))] [(.int (v0_243_s0 p0 p3 p5))])) _
          exact retN X241 hx (t := .boolean) Bd.returns (by simp) (hb hby at_255) hr
        · show Q0 Z p0 p1 p2 p3 p4 p5 h0 n0 _ T241.heap _
          rw [e241]
          exact ⟨congrArg (fun z => some (Value.int z)) hone, N241⟩
      · have k246 := fun (t : State) (kk : Steps p.tables e below (T233.setTop (mkF m 255 #[.val (.int p0), .val (.int p1), .val (.int p2), .val (.int p3), .val (.int p4), .val (.int p5), .val (.int (v0_7_l6 p0)), .val (.int (v0_17_l7 p0)), .val (.int (v0_30_l8 p0 p1)), .val (.int (v0_37_s0 p0 p3 p5)), .val (.int (p2 &&& (15 : Int32))), .val (.int (p4 &&& (15 : Int32))), .val (.ref b198), .val (.int (0 : Int32)), .val (.int (v0_153_l14 p0 p3 p5)), .val (.int (v0_160_l15 p4)), .val (.int (v0_166_s0 p0 p3 p4 p5)), .val (.int (v0_222_l17 p0 p3 p4 p5))] [(.int (0 : Int32))])) t) => k238 t (by
          show Steps p.tables e below (T233.setTop (mkF m 233 #[.val (.int p0), .val (.int p1), .val (.int p2), .val (.int p3), .val (.int p4), .val (.int p5), .val (.int (v0_7_l6 p0)), .val (.int (v0_17_l7 p0)), .val (.int (v0_30_l8 p0 p1)), .val (.int (v0_37_s0 p0 p3 p5)), .val (.int (p2 &&& (15 : Int32))), .val (.int (p4 &&& (15 : Int32))), .val (.ref b198), .val (.int (v0_205_s0 p0 p3 p4 p5)), .val (.int (v0_153_l14 p0 p3 p5)), .val (.int (v0_160_l15 p4)), .val (.int (v0_166_s0 p0 p3 p4 p5)), .val (.int (v0_222_l17 p0 p3 p4 p5))] [(.int (v0_166_s0 p0 p3 p4 p5)), (.int (v0_222_l17 p0 p3 p4 p5))])) _
          refine XS.icmpYes X233.here hx rfl (pc0 := 233) (pc' := 250) rfl (hb hby at_233) rfl (feq hc233_239).2 (by decide) (by decide) ?_
          show Steps p.tables e below (T233.setTop (mkF m 250 #[.val (.int p0), .val (.int p1), .val (.int p2), .val (.int p3), .val (.int p4), .val (.int p5), .val (.int (v0_7_l6 p0)), .val (.int (v0_17_l7 p0)), .val (.int (v0_30_l8 p0 p1)), .val (.int (v0_37_s0 p0 p3 p5)), .val (.int (p2 &&& (15 : Int32))), .val (.int (p4 &&& (15 : Int32))), .val (.ref b198), .val (.int (v0_205_s0 p0 p3 p4 p5)), .val (.int (v0_153_l14 p0 p3 p5)), .val (.int (v0_160_l15 p4)), .val (.int (v0_166_s0 p0 p3 p4 p5)), .val (.int (v0_222_l17 p0 p3 p4 p5))] [])) _
          refine XS.iconst X233.here hx rfl (hb hby at_250) ?_
          show Steps p.tables e below (T233.setTop (mkF m 251 #[.val (.int p0), .val (.int p1), .val (.int p2), .val (.int p3), .val (.int p4), .val (.int p5), .val (.int (v0_7_l6 p0)), .val (.int (v0_17_l7 p0)), .val (.int (v0_30_l8 p0 p1)), .val (.int (v0_37_s0 p0 p3 p5)), .val (.int (p2 &&& (15 : Int32))), .val (.int (p4 &&& (15 : Int32))), .val (.ref b198), .val (.int (v0_205_s0 p0 p3 p4 p5)), .val (.int (v0_153_l14 p0 p3 p5)), .val (.int (v0_160_l15 p4)), .val (.int (v0_166_s0 p0 p3 p4 p5)), .val (.int (v0_222_l17 p0 p3 p4 p5))] [(.int (0 : Int32))])) _
          refine XS.istore X233.here hx rfl (hb hby at_251) rfl (l' := #[.val (.int p0), .val (.int p1), .val (.int p2), .val (.int p3), .val (.int p4), .val (.int p5), .val (.int (v0_7_l6 p0)), .val (.int (v0_17_l7 p0)), .val (.int (v0_30_l8 p0 p1)), .val (.int (v0_37_s0 p0 p3 p5)), .val (.int (p2 &&& (15 : Int32))), .val (.int (p4 &&& (15 : Int32))), .val (.ref b198), .val (.int (0 : Int32)), .val (.int (v0_153_l14 p0 p3 p5)), .val (.int (v0_160_l15 p4)), .val (.int (v0_166_s0 p0 p3 p4 p5)), .val (.int (v0_222_l17 p0 p3 p4 p5))]) rfl ?_
          show Steps p.tables e below (T233.setTop (mkF m 253 #[.val (.int p0), .val (.int p1), .val (.int p2), .val (.int p3), .val (.int p4), .val (.int p5), .val (.int (v0_7_l6 p0)), .val (.int (v0_17_l7 p0)), .val (.int (v0_30_l8 p0 p1)), .val (.int (v0_37_s0 p0 p3 p5)), .val (.int (p2 &&& (15 : Int32))), .val (.int (p4 &&& (15 : Int32))), .val (.ref b198), .val (.int (0 : Int32)), .val (.int (v0_153_l14 p0 p3 p5)), .val (.int (v0_160_l15 p4)), .val (.int (v0_166_s0 p0 p3 p4 p5)), .val (.int (v0_222_l17 p0 p3 p4 p5))] [])) _
          refine XS.iload X233.here hx rfl (hb hby at_253) rfl ?_
          exact kk)
        obtain ⟨fs, hr, hrun, hended, hW, hsame⟩ := X233.leave (v := some (.int (0 : Int32))) (fun h => by rw [Bd.returns] at h; cases h)
        have hv : (v0_ret p0 p3 p4 p5) = (0 : Int32) := ((if_neg hc226_236).trans (if_neg hc233_239))
        have hone : (0 : Int32) = 1 := hv.symm.trans (own_law p0 p1 p2 p3 p4 p5)
        exact absurd hone (by decide)
  · have k247 := fun (t : State) (kk : Steps p.tables e below (T207.setTop (mkF m 114 #[.val (.int p0), .val (.int p1), .val (.int p2), .val (.int p3), .val (.int p4), .val (.int p5), .val (.int (v0_7_l6 p0)), .val (.int (v0_17_l7 p0)), .val (.int (v0_30_l8 p0 p1)), .val (.int (v0_37_s0 p0 p3 p5)), .val (.int (p2 &&& (15 : Int32))), .val (.int (p4 &&& (15 : Int32))), .val (.ref b198), .unset, .unset, .unset, .unset, .unset] [(.ref b198)])) t) => k209 t (by
      show Steps p.tables e below (T207.setTop (mkF m 109 #[.val (.int p0), .val (.int p1), .val (.int p2), .val (.int p3), .val (.int p4), .val (.int p5), .val (.int (v0_7_l6 p0)), .val (.int (v0_17_l7 p0)), .val (.int (v0_30_l8 p0 p1)), .val (.int (v0_37_s0 p0 p3 p5)), .val (.int (p2 &&& (15 : Int32))), .val (.int (p4 &&& (15 : Int32))), .val (.ref b198), .unset, .unset, .unset, .unset, .unset] [(.int (p3 &&& (1 : Int32)))])) _
      refine XS.ifNo X207.here hx rfl (hb hby at_109) rfl ((if0 _ _).trans (feq hc109_210).1) ?_
      show Steps p.tables e below (T207.setTop (mkF m 112 #[.val (.int p0), .val (.int p1), .val (.int p2), .val (.int p3), .val (.int p4), .val (.int p5), .val (.int (v0_7_l6 p0)), .val (.int (v0_17_l7 p0)), .val (.int (v0_30_l8 p0 p1)), .val (.int (v0_37_s0 p0 p3 p5)), .val (.int (p2 &&& (15 : Int32))), .val (.int (p4 &&& (15 : Int32))), .val (.ref b198), .unset, .unset, .unset, .unset, .unset] [])) _
      refine XS.aload X207.here hx rfl (hb hby at_112) rfl rfl ?_
      exact kk)
    have Zz248 : n0 ≤ T207.heap.size := (Nat.le_trans Z0 K207.1)
    obtain ⟨cq248, kq248, q248a, q248b, q248c⟩ := isOf hZ rfl Eq207_0
    obtain ⟨_, _, ⟨T248, L248, k248, n248⟩, -, X248, ⟨Lc248, hQ248, l248, y248, z248⟩, st248⟩ := X207.virtualBack hx (y := (⟨"phrasebook/ZFormat$Layout", "endGroup", "()V"⟩ : MethodName)) (z := (⟨"phrasebook/ZFormat$Layout", "endGroup", "()V"⟩ : MethodName)) hown (mvT hZ (hw _ (List.mem_of_getElem? (i := 46) rfl))) (mvT hZ (hw _ (List.mem_of_getElem? (i := 47) rfl))) (notFace_of_selects (args := #[]) (mvT hZ (hw _ (List.mem_of_getElem? (i := 49) rfl)))) (mvT hZ (hw _ (List.mem_of_getElem? (i := 49) rfl))) (mvT hZ (hw _ (List.mem_of_getElem? (i := 48) rfl))) (by decide) (backOf (W := 0) (rm9 l Z a0 hw [] b198 (v4_f_groupEnded_ra0 (v0_30_l8 p0 p1) (v0_7_l6 p0) (9 : Int32) (0 : Int32)) (v0_7_l6 p0) (v5_ret (v0_30_l8 p0 p1) (v0_7_l6 p0)) (((v4_f_codesInGroup_ra0 (v0_30_l8 p0 p1) (v0_7_l6 p0) (9 : Int32) (0 : Int32) (0 : Int32)) + (p2 &&& (15 : Int32))) % (8 : Int32)) T207.heap n0 Zz248 Eq207_0 Fq207_3 g_b198 Fq207_0 Fq207_1 Fq207_2) hZ (hw _ (List.mem_of_getElem? (i := 50) rfl)) (hw _ (List.mem_of_getElem? (i := 3) rfl)) (by decide) (by decide)) q248a q248c (g := (mkF m 114 #[.val (.int p0), .val (.int p1), .val (.int p2), .val (.int p3), .val (.int p4), .val (.int p5), .val (.int (v0_7_l6 p0)), .val (.int (v0_17_l7 p0)), .val (.int (v0_30_l8 p0 p1)), .val (.int (v0_37_s0 p0 p3 p5)), .val (.int (p2 &&& (15 : Int32))), .val (.int (p4 &&& (15 : Int32))), .val (.ref b198), .unset, .unset, .unset, .unset, .unset] [(.ref b198)])) rfl (by rw [hml]; rfl) (Steps.refl _) (argsL := []) (rest := []) (lenOf pd_0 rfl) rfl (by show 2 * 0 + _ ≤ _; exact Nat.le_of_eq rfl) (hb hby at_114) (fun _ _ => ⟨rfl, rfl, (by decide : 1 + 0 ≤ _), (by decide : 4 + 0 ≤ _)⟩)
    dsimp only [Pt.U, Pt.locs, Pt.cells, Pt.slots] at X248 l248 y248 z248 st248 hQ248
    subst l248 y248 z248
    obtain ⟨rfl, N248q, Kq248, Eq248_0, Fq248_0, Fq248_1, Fq248_2, Fq248_3⟩ := hQ248
    have K248 : Keep h0 T248.heap [] := K207.trans Kq248 (allS (Or.inr sz_b198) all0)
    have N248 := Fr.app N207 N248q
    have k249 := fun (t : State) (kk : Steps p.tables e below (T248.setTop (mkF m 117 #[.val (.int p0), .val (.int p1), .val (.int p2), .val (.int p3), .val (.int p4), .val (.int p5), .val (.int (v0_7_l6 p0)), .val (.int (v0_17_l7 p0)), .val (.int (v0_30_l8 p0 p1)), .val (.int (v0_37_s0 p0 p3 p5)), .val (.int (p2 &&& (15 : Int32))), .val (.int (p4 &&& (15 : Int32))), .val (.ref b198), .unset, .unset, .unset, .unset, .unset] [])) t) => k247 t (st248.trans kk)
    have k250 := fun (t : State) (kk : Steps p.tables e below (T248.setTop (mkF m 119 #[.val (.int p0), .val (.int p1), .val (.int p2), .val (.int p3), .val (.int p4), .val (.int p5), .val (.int (v0_7_l6 p0)), .val (.int (v0_17_l7 p0)), .val (.int (v0_30_l8 p0 p1)), .val (.int (v0_37_s0 p0 p3 p5)), .val (.int (p2 &&& (15 : Int32))), .val (.int (p4 &&& (15 : Int32))), .val (.ref b198), .unset, .unset, .unset, .unset, .unset] [(.ref b198)])) t) => k249 t (by
      show Steps p.tables e below (T248.setTop (mkF m 117 #[.val (.int p0), .val (.int p1), .val (.int p2), .val (.int p3), .val (.int p4), .val (.int p5), .val (.int (v0_7_l6 p0)), .val (.int (v0_17_l7 p0)), .val (.int (v0_30_l8 p0 p1)), .val (.int (v0_37_s0 p0 p3 p5)), .val (.int (p2 &&& (15 : Int32))), .val (.int (p4 &&& (15 : Int32))), .val (.ref b198), .unset, .unset, .unset, .unset, .unset] [])) _
      refine XS.aload X248.here hx rfl (hb hby at_117) rfl rfl ?_
      exact kk)
    have Zz251 : n0 ≤ T248.heap.size := (Nat.le_trans Z0 K248.1)
    obtain ⟨cq251, kq251, q251a, q251b, q251c⟩ := isOf hZ rfl Eq248_0
    obtain ⟨_, _, ⟨T251, L251, k251, n251⟩, -, X251, ⟨Lc251, hQ251, l251, y251, z251⟩, st251⟩ := X248.virtualBack hx (y := (⟨"phrasebook/ZFormat$Layout", "restart", "()V"⟩ : MethodName)) (z := (⟨"phrasebook/ZFormat$Layout", "restart", "()V"⟩ : MethodName)) hown (mvT hZ (hw _ (List.mem_of_getElem? (i := 51) rfl))) (mvT hZ (hw _ (List.mem_of_getElem? (i := 13) rfl))) (notFace_of_selects (args := #[]) (mvT hZ (hw _ (List.mem_of_getElem? (i := 15) rfl)))) (mvT hZ (hw _ (List.mem_of_getElem? (i := 15) rfl))) (mvT hZ (hw _ (List.mem_of_getElem? (i := 14) rfl))) (by decide) (backOf (W := 0) (rm3 l Z a0 hw [] b198 (v5_ret (v0_30_l8 p0 p1) (v0_7_l6 p0)) (((v4_f_codesInGroup_ra0 (v0_30_l8 p0 p1) (v0_7_l6 p0) (9 : Int32) (0 : Int32) (0 : Int32)) + (p2 &&& (15 : Int32))) % (8 : Int32)) (1 : Int32) (v0_7_l6 p0) T248.heap n0 Zz251 Eq248_0 Fq248_1 g_b198 Fq248_2 Fq248_3 Fq248_0) hZ (hw _ (List.mem_of_getElem? (i := 16) rfl)) (hw _ (List.mem_of_getElem? (i := 3) rfl)) (by decide) (by decide)) q251a q251c (g := (mkF m 119 #[.val (.int p0), .val (.int p1), .val (.int p2), .val (.int p3), .val (.int p4), .val (.int p5), .val (.int (v0_7_l6 p0)), .val (.int (v0_17_l7 p0)), .val (.int (v0_30_l8 p0 p1)), .val (.int (v0_37_s0 p0 p3 p5)), .val (.int (p2 &&& (15 : Int32))), .val (.int (p4 &&& (15 : Int32))), .val (.ref b198), .unset, .unset, .unset, .unset, .unset] [(.ref b198)])) rfl (by rw [hml]; rfl) (Steps.refl _) (argsL := []) (rest := []) (lenOf pd_0 rfl) rfl (by show 2 * 0 + _ ≤ _; exact Nat.le_of_eq rfl) (hb hby at_119) (fun _ _ => ⟨rfl, rfl, (by decide : 1 + 0 ≤ _), (by decide : 4 + 0 ≤ _)⟩)
    dsimp only [Pt.U, Pt.locs, Pt.cells, Pt.slots] at X251 l251 y251 z251 st251 hQ251
    subst l251 y251 z251
    obtain ⟨rfl, N251q, Kq251, Eq251_0, Fq251_0, Fq251_1, Fq251_2, Fq251_3⟩ := hQ251
    have K251 : Keep h0 T251.heap [] := K248.trans Kq251 (allS (Or.inr sz_b198) all0)
    have N251 := Fr.app N248 N251q
    have k252 := fun (t : State) (kk : Steps p.tables e below (T251.setTop (mkF m 122 #[.val (.int p0), .val (.int p1), .val (.int p2), .val (.int p3), .val (.int p4), .val (.int p5), .val (.int (v0_7_l6 p0)), .val (.int (v0_17_l7 p0)), .val (.int (v0_30_l8 p0 p1)), .val (.int (v0_37_s0 p0 p3 p5)), .val (.int (p2 &&& (15 : Int32))), .val (.int (p4 &&& (15 : Int32))), .val (.ref b198), .unset, .unset, .unset, .unset, .unset] [])) t) => k250 t (st251.trans kk)
    have k253 := fun (t : State) (kk : Steps p.tables e below (T251.setTop (mkF m 124 #[.val (.int p0), .val (.int p1), .val (.int p2), .val (.int p3), .val (.int p4), .val (.int p5), .val (.int (v0_7_l6 p0)), .val (.int (v0_17_l7 p0)), .val (.int (v0_30_l8 p0 p1)), .val (.int (v0_37_s0 p0 p3 p5)), .val (.int (p2 &&& (15 : Int32))), .val (.int (p4 &&& (15 : Int32))), .val (.ref b198), .unset, .unset, .unset, .unset, .unset] [(.ref b198)])) t) => k252 t (by
      show Steps p.tables e below (T251.setTop (mkF m 122 #[.val (.int p0), .val (.int p1), .val (.int p2), .val (.int p3), .val (.int p4), .val (.int p5), .val (.int (v0_7_l6 p0)), .val (.int (v0_17_l7 p0)), .val (.int (v0_30_l8 p0 p1)), .val (.int (v0_37_s0 p0 p3 p5)), .val (.int (p2 &&& (15 : Int32))), .val (.int (p4 &&& (15 : Int32))), .val (.ref b198), .unset, .unset, .unset, .unset, .unset] [])) _
      refine XS.aload X251.here hx rfl (hb hby at_122) rfl rfl ?_
      exact kk)
    have Zz254 : n0 ≤ T251.heap.size := (Nat.le_trans Z0 K251.1)
    obtain ⟨cq254, kq254, q254a, q254b, q254c⟩ := isOf hZ rfl Eq251_0
    obtain ⟨_, _, ⟨T254, L254, k254, n254⟩, -, X254, ⟨Lc254, hQ254, l254, y254, z254⟩, st254⟩ := X251.virtualBack hx (y := (⟨"phrasebook/ZFormat$Layout", "width", "()I"⟩ : MethodName)) (z := (⟨"phrasebook/ZFormat$Layout", "width", "()I"⟩ : MethodName)) hown (mvT hZ (hw _ (List.mem_of_getElem? (i := 52) rfl))) (mvT hZ (hw _ (List.mem_of_getElem? (i := 53) rfl))) (notFace_of_selects (args := #[]) (mvT hZ (hw _ (List.mem_of_getElem? (i := 55) rfl)))) (mvT hZ (hw _ (List.mem_of_getElem? (i := 55) rfl))) (mvT hZ (hw _ (List.mem_of_getElem? (i := 54) rfl))) (by decide) (backOf (W := 0) (rm10 l Z a0 hw [] b198 (9 : Int32) T251.heap n0 Zz254 Fq251_1) hZ (hw _ (List.mem_of_getElem? (i := 56) rfl)) (hw _ (List.mem_of_getElem? (i := 3) rfl)) (by decide) (by decide)) q254a q254c (g := (mkF m 124 #[.val (.int p0), .val (.int p1), .val (.int p2), .val (.int p3), .val (.int p4), .val (.int p5), .val (.int (v0_7_l6 p0)), .val (.int (v0_17_l7 p0)), .val (.int (v0_30_l8 p0 p1)), .val (.int (v0_37_s0 p0 p3 p5)), .val (.int (p2 &&& (15 : Int32))), .val (.int (p4 &&& (15 : Int32))), .val (.ref b198), .unset, .unset, .unset, .unset, .unset] [(.ref b198)])) rfl (by rw [hml]; rfl) (Steps.refl _) (argsL := []) (rest := []) (lenOf pd_4 rfl) rfl (by show 2 * 0 + _ ≤ _; exact Nat.le_of_eq rfl) (hb hby at_124) (fun _ _ => ⟨rfl, rfl, (by decide : 1 + 0 ≤ _), (by decide : 4 + 0 ≤ _)⟩)
    dsimp only [Pt.U, Pt.locs, Pt.cells, Pt.slots] at X254 l254 y254 z254 st254 hQ254
    subst l254 y254 z254
    obtain ⟨rfl, N254q, e254⟩ := hQ254
    have N254 := Fr.app N251 N254q
    have k255 := fun (t : State) (kk : Steps p.tables e below (T254.setTop (mkF m 127 #[.val (.int p0), .val (.int p1), .val (.int p2), .val (.int p3), .val (.int p4), .val (.int p5), .val (.int (v0_7_l6 p0)), .val (.int (v0_17_l7 p0)), .val (.int (v0_30_l8 p0 p1)), .val (.int (v0_37_s0 p0 p3 p5)), .val (.int (p2 &&& (15 : Int32))), .val (.int (p4 &&& (15 : Int32))), .val (.ref b198), .unset, .unset, .unset, .unset, .unset] [(.int (9 : Int32))])) t) => k253 t (st254.trans kk)
    have k256 := fun (t : State) (kk : Steps p.tables e below (T254.setTop (mkF m 143 #[.val (.int p0), .val (.int p1), .val (.int p2), .val (.int p3), .val (.int p4), .val (.int p5), .val (.int (v0_7_l6 p0)), .val (.int (v0_17_l7 p0)), .val (.int (v0_30_l8 p0 p1)), .val (.int (v0_37_s0 p0 p3 p5)), .val (.int (p2 &&& (15 : Int32))), .val (.int (p4 &&& (15 : Int32))), .val (.ref b198), .val (.int (1 : Int32)), .unset, .unset, .unset, .unset] [(.int (p4 &&& (15 : Int32))), (.ref b198)])) t) => k255 t (by
      show Steps p.tables e below (T254.setTop (mkF m 127 #[.val (.int p0), .val (.int p1), .val (.int p2), .val (.int p3), .val (.int p4), .val (.int p5), .val (.int (v0_7_l6 p0)), .val (.int (v0_17_l7 p0)), .val (.int (v0_30_l8 p0 p1)), .val (.int (v0_37_s0 p0 p3 p5)), .val (.int (p2 &&& (15 : Int32))), .val (.int (p4 &&& (15 : Int32))), .val (.ref b198), .unset, .unset, .unset, .unset, .unset] [(.int (9 : Int32))])) _
      refine XS.bipush X254.here hx rfl (hb hby at_127) ?_
      show Steps p.tables e below (T254.setTop (mkF m 129 #[.val (.int p0), .val (.int p1), .val (.int p2), .val (.int p3), .val (.int p4), .val (.int p5), .val (.int (v0_7_l6 p0)), .val (.int (v0_17_l7 p0)), .val (.int (v0_30_l8 p0 p1)), .val (.int (v0_37_s0 p0 p3 p5)), .val (.int (p2 &&& (15 : Int32))), .val (.int (p4 &&& (15 : Int32))), .val (.ref b198), .unset, .unset, .unset, .unset, .unset] [(.int (9 : Int32)), (.int (9 : Int32))])) _
      refine XS.icmpNo X254.here hx rfl (hb hby at_129) rfl (teq (rfl : (9 : Int32) = (9 : Int32))).2 ?_
      show Steps p.tables e below (T254.setTop (mkF m 132 #[.val (.int p0), .val (.int p1), .val (.int p2), .val (.int p3), .val (.int p4), .val (.int p5), .val (.int (v0_7_l6 p0)), .val (.int (v0_17_l7 p0)), .val (.int (v0_30_l8 p0 p1)), .val (.int (v0_37_s0 p0 p3 p5)), .val (.int (p2 &&& (15 : Int32))), .val (.int (p4 &&& (15 : Int32))), .val (.ref b198), .unset, .unset, .unset, .unset, .unset] [])) _
      refine XS.iconst X254.here hx rfl (hb hby at_132) ?_
      show Steps p.tables e below (T254.setTop (mkF m 133 #[.val (.int p0), .val (.int p1), .val (.int p2), .val (.int p3), .val (.int p4), .val (.int p5), .val (.int (v0_7_l6 p0)), .val (.int (v0_17_l7 p0)), .val (.int (v0_30_l8 p0 p1)), .val (.int (v0_37_s0 p0 p3 p5)), .val (.int (p2 &&& (15 : Int32))), .val (.int (p4 &&& (15 : Int32))), .val (.ref b198), .unset, .unset, .unset, .unset, .unset] [(.int (1 : Int32))])) _
      refine XS.goto X254.here hx rfl (pc0 := 133) (pc' := 137) rfl (hb hby at_133) (by decide) (by decide) ?_
      show Steps p.tables e below (T254.setTop (mkF m 137 #[.val (.int p0), .val (.int p1), .val (.int p2), .val (.int p3), .val (.int p4), .val (.int p5), .val (.int (v0_7_l6 p0)), .val (.int (v0_17_l7 p0)), .val (.int (v0_30_l8 p0 p1)), .val (.int (v0_37_s0 p0 p3 p5)), .val (.int (p2 &&& (15 : Int32))), .val (.int (p4 &&& (15 : Int32))), .val (.ref b198), .unset, .unset, .unset, .unset, .unset] [(.int (1 : Int32))])) _
      refine XS.istore X254.here hx rfl (hb hby at_137) rfl (l' := #[.val (.int p0), .val (.int p1), .val (.int p2), .val (.int p3), .val (.int p4), .val (.int p5), .val (.int (v0_7_l6 p0)), .val (.int (v0_17_l7 p0)), .val (.int (v0_30_l8 p0 p1)), .val (.int (v0_37_s0 p0 p3 p5)), .val (.int (p2 &&& (15 : Int32))), .val (.int (p4 &&& (15 : Int32))), .val (.ref b198), .val (.int (1 : Int32)), .unset, .unset, .unset, .unset]) rfl ?_
      show Steps p.tables e below (T254.setTop (mkF m 139 #[.val (.int p0), .val (.int p1), .val (.int p2), .val (.int p3), .val (.int p4), .val (.int p5), .val (.int (v0_7_l6 p0)), .val (.int (v0_17_l7 p0)), .val (.int (v0_30_l8 p0 p1)), .val (.int (v0_37_s0 p0 p3 p5)), .val (.int (p2 &&& (15 : Int32))), .val (.int (p4 &&& (15 : Int32))), .val (.ref b198), .val (.int (1 : Int32)), .unset, .unset, .unset, .unset] [])) _
      refine XS.aload X254.here hx rfl (hb hby at_139) rfl rfl ?_
      show Steps p.tables e below (T254.setTop (mkF m 141 #[.val (.int p0), .val (.int p1), .val (.int p2), .val (.int p3), .val (.int p4), .val (.int p5), .val (.int (v0_7_l6 p0)), .val (.int (v0_17_l7 p0)), .val (.int (v0_30_l8 p0 p1)), .val (.int (v0_37_s0 p0 p3 p5)), .val (.int (p2 &&& (15 : Int32))), .val (.int (p4 &&& (15 : Int32))), .val (.ref b198), .val (.int (1 : Int32)), .unset, .unset, .unset, .unset] [(.ref b198)])) _
      refine XS.iload X254.here hx rfl (hb hby at_141) rfl ?_
      exact kk)
    have Zz257 : n0 ≤ T251.heap.size := (Nat.le_trans Z0 K251.1)
    obtain ⟨cq257, kq257, q257a, q257b, q257c⟩ := isOf hZ e254 Eq251_0
    obtain ⟨_, _, ⟨T257, L257, k257, n257⟩, -, X257, ⟨Lc257, hQ257, l257, y257, z257⟩, st257⟩ := X254.virtualBack hx (y := (⟨"phrasebook/ZFormat$Layout", "placeMore", "(I)V"⟩ : MethodName)) (z := (⟨"phrasebook/ZFormat$Layout", "placeMore", "(I)V"⟩ : MethodName)) hown (mvT hZ (hw _ (List.mem_of_getElem? (i := 41) rfl))) (mvT hZ (hw _ (List.mem_of_getElem? (i := 42) rfl))) (notFace_of_selects (args := #[]) (mvT hZ (hw _ (List.mem_of_getElem? (i := 44) rfl)))) (mvT hZ (hw _ (List.mem_of_getElem? (i := 44) rfl))) (mvT hZ (hw _ (List.mem_of_getElem? (i := 43) rfl))) (by decide) (backOf (W := 0) (rm8 l Z a0 hw [] b198 (p4 &&& (15 : Int32)) (0 : Int32) (v0_7_l6 p0) (9 : Int32) (0 : Int32) T251.heap n0 Zz257 Fq251_2 Eq251_0 g_b198 Fq251_0 Fq251_1 Fq251_3) hZ (hw _ (List.mem_of_getElem? (i := 45) rfl)) (hw _ (List.mem_of_getElem? (i := 3) rfl)) (by decide) (by decide)) q257a q257c (g := (mkF m 143 #[.val (.int p0), .val (.int p1), .val (.int p2), .val (.int p3), .val (.int p4), .val (.int p5), .val (.int (v0_7_l6 p0)), .val (.int (v0_17_l7 p0)), .val (.int (v0_30_l8 p0 p1)), .val (.int (v0_37_s0 p0 p3 p5)), .val (.int (p2 &&& (15 : Int32))), .val (.int (p4 &&& (15 : Int32))), .val (.ref b198), .val (.int (1 : Int32)), .unset, .unset, .unset, .unset] [(.int (p4 &&& (15 : Int32))), (.ref b198)])) rfl (by rw [hml]; rfl) (Steps.refl _) (argsL := [(.int (p4 &&& (15 : Int32)))]) (rest := []) (lenOf pd_5 rfl) rfl (by show 2 * 0 + _ ≤ _; exact Nat.le_of_eq rfl) (hb hby at_143) (fun _ _ => ⟨rfl, e254, (by decide : 1 + 0 ≤ _), (by decide : 4 + 0 ≤ _)⟩)
    dsimp only [Pt.U, Pt.locs, Pt.cells, Pt.slots] at X257 l257 y257 z257 st257 hQ257
    subst l257 y257 z257
    obtain ⟨rfl, N257q, Kq257, Eq257_0, Fq257_0, Fq257_1, Fq257_2, Fq257_3⟩ := hQ257
    have K257 : Keep h0 T257.heap [] := K251.trans Kq257 (allS (Or.inr sz_b198) all0)
    have N257 := Fr.app N254 N257q
    have k258 := fun (t : State) (kk : Steps p.tables e below (T257.setTop (mkF m 146 #[.val (.int p0), .val (.int p1), .val (.int p2), .val (.int p3), .val (.int p4), .val (.int p5), .val (.int (v0_7_l6 p0)), .val (.int (v0_17_l7 p0)), .val (.int (v0_30_l8 p0 p1)), .val (.int (v0_37_s0 p0 p3 p5)), .val (.int (p2 &&& (15 : Int32))), .val (.int (p4 &&& (15 : Int32))), .val (.ref b198), .val (.int (1 : Int32)), .unset, .unset, .unset, .unset] [])) t) => k256 t (st257.trans kk)
    have k259 := fun (t : State) (kk : Steps p.tables e below (T257.setTop (mkF m 150 #[.val (.int p0), .val (.int p1), .val (.int p2), .val (.int p3), .val (.int p4), .val (.int p5), .val (.int (v0_7_l6 p0)), .val (.int (v0_17_l7 p0)), .val (.int (v0_30_l8 p0 p1)), .val (.int (v0_37_s0 p0 p3 p5)), .val (.int (p2 &&& (15 : Int32))), .val (.int (p4 &&& (15 : Int32))), .val (.ref b198), .val (.int (1 : Int32)), .unset, .unset, .unset, .unset] [(.int (v0_7_l6 p0)), (.int (v0_37_s0 p0 p3 p5))])) t) => k258 t (by
      show Steps p.tables e below (T257.setTop (mkF m 146 #[.val (.int p0), .val (.int p1), .val (.int p2), .val (.int p3), .val (.int p4), .val (.int p5), .val (.int (v0_7_l6 p0)), .val (.int (v0_17_l7 p0)), .val (.int (v0_30_l8 p0 p1)), .val (.int (v0_37_s0 p0 p3 p5)), .val (.int (p2 &&& (15 : Int32))), .val (.int (p4 &&& (15 : Int32))), .val (.ref b198), .val (.int (1 : Int32)), .unset, .unset, .unset, .unset] [])) _
      refine XS.iload X257.here hx rfl (hb hby at_146) rfl ?_
      show Steps p.tables e below (T257.setTop (mkF m 148 #[.val (.int p0), .val (.int p1), .val (.int p2), .val (.int p3), .val (.int p4), .val (.int p5), .val (.int (v0_7_l6 p0)), .val (.int (v0_17_l7 p0)), .val (.int (v0_30_l8 p0 p1)), .val (.int (v0_37_s0 p0 p3 p5)), .val (.int (p2 &&& (15 : Int32))), .val (.int (p4 &&& (15 : Int32))), .val (.ref b198), .val (.int (1 : Int32)), .unset, .unset, .unset, .unset] [(.int (v0_37_s0 p0 p3 p5))])) _
      refine XS.iload X257.here hx rfl (hb hby at_148) rfl ?_
      exact kk)
    have Zz260 : n0 ≤ T257.heap.size := (Nat.le_trans Z0 K257.1)
    obtain ⟨_, _, ⟨T260, L260, k260, n260⟩, -, X260, ⟨Lc260, hQ260, l260, y260, z260⟩, st260⟩ := Jvm.LawKit.callS X257 hx (y := (⟨"phrasebook/LayoutRestartPinLaw", "widthOf", "(II)I"⟩ : MethodName)) hown (mvT hZ (hw _ (List.mem_of_getElem? (i := 57) rfl))) (mvT hZ (hw _ (List.mem_of_getElem? (i := 58) rfl))) (mvT hZ (hw _ (List.mem_of_getElem? (i := 59) rfl))) (mvT hZ (hw _ (List.mem_of_getElem? (i := 60) rfl))) (by decide) (backOf (W := 0) (rm11 l Z a0 hw [] (v0_37_s0 p0 p3 p5) (v0_7_l6 p0) T257.heap n0 Zz260) hZ (hw _ (List.mem_of_getElem? (i := 60) rfl)) (hw _ (List.mem_of_getElem? (i := 59) rfl)) (by decide) (by decide)) (g := (mkF m 150 #[.val (.int p0), .val (.int p1), .val (.int p2), .val (.int p3), .val (.int p4), .val (.int p5), .val (.int (v0_7_l6 p0)), .val (.int (v0_17_l7 p0)), .val (.int (v0_30_l8 p0 p1)), .val (.int (v0_37_s0 p0 p3 p5)), .val (.int (p2 &&& (15 : Int32))), .val (.int (p4 &&& (15 : Int32))), .val (.ref b198), .val (.int (1 : Int32)), .unset, .unset, .unset, .unset] [(.int (v0_7_l6 p0)), (.int (v0_37_s0 p0 p3 p5))])) rfl (by rw [hml]; rfl) (argsL := [(.int (v0_37_s0 p0 p3 p5)), (.int (v0_7_l6 p0))]) (rest := []) (lenOf pd_2 rfl) rfl (by show 2 * 0 + _ ≤ _; exact Nat.le_of_eq rfl) (hb hby at_150) (fun _ _ => ⟨rfl, rfl, (by decide : 1 + 0 ≤ _), (by decide : 4 + 0 ≤ _)⟩)
    dsimp only [Pt.U, Pt.locs, Pt.cells, Pt.slots] at X260 l260 y260 z260 st260 hQ260
    subst l260 y260 z260
    obtain ⟨rfl, N260q, e260⟩ := hQ260
    have N260 := Fr.app N257 N260q
    have k261 := fun (t : State) (kk : Steps p.tables e below (T260.setTop (mkF m 153 #[.val (.int p0), .val (.int p1), .val (.int p2), .val (.int p3), .val (.int p4), .val (.int p5), .val (.int (v0_7_l6 p0)), .val (.int (v0_17_l7 p0)), .val (.int (v0_30_l8 p0 p1)), .val (.int (v0_37_s0 p0 p3 p5)), .val (.int (p2 &&& (15 : Int32))), .val (.int (p4 &&& (15 : Int32))), .val (.ref b198), .val (.int (1 : Int32)), .unset, .unset, .unset, .unset] [(.int (v11_ret (v0_37_s0 p0 p3 p5) (v0_7_l6 p0)))])) t) => k259 t (st260 _ kk)
    have k266 := fun (t : State) (kk : Steps p.tables e below (T260.setTop (mkF m 197 #[.val (.int p0), .val (.int p1), .val (.int p2), .val (.int p3), .val (.int p4), .val (.int p5), .val (.int (v0_7_l6 p0)), .val (.int (v0_17_l7 p0)), .val (.int (v0_30_l8 p0 p1)), .val (.int (v0_37_s0 p0 p3 p5)), .val (.int (p2 &&& (15 : Int32))), .val (.int (p4 &&& (15 : Int32))), .val (.ref b198), .val (.int (1 : Int32)), .val (.int (v0_153_l14 p0 p3 p5)), .val (.int (v0_160_l15 p4)), .val (.int (v0_166_s0 p0 p3 p4 p5)), .unset] [(.int (v0_37_s0 p0 p3 p5)), (.ref b198)])) t) => k261 t (by
      show Steps p.tables e below (T260.setTop (mkF m 153 #[.val (.int p0), .val (.int p1), .val (.int p2), .val (.int p3), .val (.int p4), .val (.int p5), .val (.int (v0_7_l6 p0)), .val (.int (v0_17_l7 p0)), .val (.int (v0_30_l8 p0 p1)), .val (.int (v0_37_s0 p0 p3 p5)), .val (.int (p2 &&& (15 : Int32))), .val (.int (p4 &&& (15 : Int32))), .val (.ref b198), .val (.int (1 : Int32)), .unset, .unset, .unset, .unset] [(.int (v11_ret (v0_37_s0 p0 p3 p5) (v0_7_l6 p0)))])) _
      refine XS.istore X260.here hx rfl (hb hby at_153) rfl (l' := #[.val (.int p0), .val (.int p1), .val (.int p2), .val (.int p3), .val (.int p4), .val (.int p5), .val (.int (v0_7_l6 p0)), .val (.int (v0_17_l7 p0)), .val (.int (v0_30_l8 p0 p1)), .val (.int (v0_37_s0 p0 p3 p5)), .val (.int (p2 &&& (15 : Int32))), .val (.int (p4 &&& (15 : Int32))), .val (.ref b198), .val (.int (1 : Int32)), .val (.int (v0_153_l14 p0 p3 p5)), .unset, .unset, .unset]) rfl ?_
      show Steps p.tables e below (T260.setTop (mkF m 155 #[.val (.int p0), .val (.int p1), .val (.int p2), .val (.int p3), .val (.int p4), .val (.int p5), .val (.int (v0_7_l6 p0)), .val (.int (v0_17_l7 p0)), .val (.int (v0_30_l8 p0 p1)), .val (.int (v0_37_s0 p0 p3 p5)), .val (.int (p2 &&& (15 : Int32))), .val (.int (p4 &&& (15 : Int32))), .val (.ref b198), .val (.int (1 : Int32)), .val (.int (v0_153_l14 p0 p3 p5)), .unset, .unset, .unset] [])) _
      refine XS.iload X260.here hx rfl (hb hby at_155) rfl ?_
      show Steps p.tables e below (T260.setTop (mkF m 157 #[.val (.int p0), .val (.int p1), .val (.int p2), .val (.int p3), .val (.int p4), .val (.int p5), .val (.int (v0_7_l6 p0)), .val (.int (v0_17_l7 p0)), .val (.int (v0_30_l8 p0 p1)), .val (.int (v0_37_s0 p0 p3 p5)), .val (.int (p2 &&& (15 : Int32))), .val (.int (p4 &&& (15 : Int32))), .val (.ref b198), .val (.int (1 : Int32)), .val (.int (v0_153_l14 p0 p3 p5)), .unset, .unset, .unset] [(.int (p4 &&& (15 : Int32)))])) _
      refine XS.bipush X260.here hx rfl (hb hby at_157) ?_
      show Steps p.tables e below (T260.setTop (mkF m 159 #[.val (.int p0), .val (.int p1), .val (.int p2), .val (.int p3), .val (.int p4), .val (.int p5), .val (.int (v0_7_l6 p0)), .val (.int (v0_17_l7 p0)), .val (.int (v0_30_l8 p0 p1)), .val (.int (v0_37_s0 p0 p3 p5)), .val (.int (p2 &&& (15 : Int32))), .val (.int (p4 &&& (15 : Int32))), .val (.ref b198), .val (.int (1 : Int32)), .val (.int (v0_153_l14 p0 p3 p5)), .unset, .unset, .unset] [(.int (8 : Int32)), (.int (p4 &&& (15 : Int32)))])) _
      refine iremM X260 hx rfl (hb hby at_159) rfl (by decide) ?_
      show Steps p.tables e below (T260.setTop (mkF m 160 #[.val (.int p0), .val (.int p1), .val (.int p2), .val (.int p3), .val (.int p4), .val (.int p5), .val (.int (v0_7_l6 p0)), .val (.int (v0_17_l7 p0)), .val (.int (v0_30_l8 p0 p1)), .val (.int (v0_37_s0 p0 p3 p5)), .val (.int (p2 &&& (15 : Int32))), .val (.int (p4 &&& (15 : Int32))), .val (.ref b198), .val (.int (1 : Int32)), .val (.int (v0_153_l14 p0 p3 p5)), .unset, .unset, .unset] [(.int ((p4 &&& (15 : Int32)) % (8 : Int32)))])) _
      refine XS.istore X260.here hx rfl (hb hby at_160) rfl (l' := #[.val (.int p0), .val (.int p1), .val (.int p2), .val (.int p3), .val (.int p4), .val (.int p5), .val (.int (v0_7_l6 p0)), .val (.int (v0_17_l7 p0)), .val (.int (v0_30_l8 p0 p1)), .val (.int (v0_37_s0 p0 p3 p5)), .val (.int (p2 &&& (15 : Int32))), .val (.int (p4 &&& (15 : Int32))), .val (.ref b198), .val (.int (1 : Int32)), .val (.int (v0_153_l14 p0 p3 p5)), .val (.int (v0_160_l15 p4)), .unset, .unset]) rfl ?_
      show Steps p.tables e below (T260.setTop (mkF m 162 #[.val (.int p0), .val (.int p1), .val (.int p2), .val (.int p3), .val (.int p4), .val (.int p5), .val (.int (v0_7_l6 p0)), .val (.int (v0_17_l7 p0)), .val (.int (v0_30_l8 p0 p1)), .val (.int (v0_37_s0 p0 p3 p5)), .val (.int (p2 &&& (15 : Int32))), .val (.int (p4 &&& (15 : Int32))), .val (.ref b198), .val (.int (1 : Int32)), .val (.int (v0_153_l14 p0 p3 p5)), .val (.int (v0_160_l15 p4)), .unset, .unset] [])) _
      refine XS.iload X260.here hx rfl (hb hby at_162) rfl ?_
      show Steps p.tables e below (T260.setTop (mkF m 164 #[.val (.int p0), .val (.int p1), .val (.int p2), .val (.int p3), .val (.int p4), .val (.int p5), .val (.int (v0_7_l6 p0)), .val (.int (v0_17_l7 p0)), .val (.int (v0_30_l8 p0 p1)), .val (.int (v0_37_s0 p0 p3 p5)), .val (.int (p2 &&& (15 : Int32))), .val (.int (p4 &&& (15 : Int32))), .val (.ref b198), .val (.int (1 : Int32)), .val (.int (v0_153_l14 p0 p3 p5)), .val (.int (v0_160_l15 p4)), .unset, .unset] [(.int (v0_153_l14 p0 p3 p5))])) _
      refine XS.bipush X260.here hx rfl (hb hby at_164) ?_
      suffices k265 : Steps p.tables e below (T260.setTop (mkF m 186 #[.val (.int p0), .val (.int p1), .val (.int p2), .val (.int p3), .val (.int p4), .val (.int p5), .val (.int (v0_7_l6 p0)), .val (.int (v0_17_l7 p0)), .val (.int (v0_30_l8 p0 p1)), .val (.int (v0_37_s0 p0 p3 p5)), .val (.int (p2 &&& (15 : Int32))), .val (.int (p4 &&& (15 : Int32))), .val (.ref b198), .val (.int (1 : Int32)), .val (.int (v0_153_l14 p0 p3 p5)), .val (.int (v0_160_l15 p4)), .unset, .unset] [(.int (v0_166_s0 p0 p3 p4 p5))])) t by
        by_cases hc166_262 : (v0_153_l14 p0 p3 p5) = (9 : Int32)
        · rw [(show (v0_166_s0 p0 p3 p4 p5) = (0 : Int32) from if_pos hc166_262)] at k265
          show Steps p.tables e below (T260.setTop (mkF m 166 #[.val (.int p0), .val (.int p1), .val (.int p2), .val (.int p3), .val (.int p4), .val (.int p5), .val (.int (v0_7_l6 p0)), .val (.int (v0_17_l7 p0)), .val (.int (v0_30_l8 p0 p1)), .val (.int (v0_37_s0 p0 p3 p5)), .val (.int (p2 &&& (15 : Int32))), .val (.int (p4 &&& (15 : Int32))), .val (.ref b198), .val (.int (1 : Int32)), .val (.int (v0_153_l14 p0 p3 p5)), .val (.int (v0_160_l15 p4)), .unset, .unset] [(.int (9 : Int32)), (.int (v0_153_l14 p0 p3 p5))])) _
          refine XS.icmpYes X260.here hx rfl (pc0 := 166) (pc' := 185) rfl (hb hby at_166) rfl (teq hc166_262).1 (by decide) (by decide) ?_
          show Steps p.tables e below (T260.setTop (mkF m 185 #[.val (.int p0), .val (.int p1), .val (.int p2), .val (.int p3), .val (.int p4), .val (.int p5), .val (.int (v0_7_l6 p0)), .val (.int (v0_17_l7 p0)), .val (.int (v0_30_l8 p0 p1)), .val (.int (v0_37_s0 p0 p3 p5)), .val (.int (p2 &&& (15 : Int32))), .val (.int (p4 &&& (15 : Int32))), .val (.ref b198), .val (.int (1 : Int32)), .val (.int (v0_153_l14 p0 p3 p5)), .val (.int (v0_160_l15 p4)), .unset, .unset] [])) _
          refine XS.iconst X260.here hx rfl (hb hby at_185) ?_
          exact k265
        · rw [(show (v0_166_s0 p0 p3 p4 p5) = (v0_171_s0 p4) from if_neg hc166_262)] at k265
          show Steps p.tables e below (T260.setTop (mkF m 166 #[.val (.int p0), .val (.int p1), .val (.int p2), .val (.int p3), .val (.int p4), .val (.int p5), .val (.int (v0_7_l6 p0)), .val (.int (v0_17_l7 p0)), .val (.int (v0_30_l8 p0 p1)), .val (.int (v0_37_s0 p0 p3 p5)), .val (.int (p2 &&& (15 : Int32))), .val (.int (p4 &&& (15 : Int32))), .val (.ref b198), .val (.int (1 : Int32)), .val (.int (v0_153_l14 p0 p3 p5)), .val (.int (v0_160_l15 p4)), .unset, .unset] [(.int (9 : Int32)), (.int (v0_153_l14 p0 p3 p5))])) _
          refine XS.icmpNo X260.here hx rfl (hb hby at_166) rfl (feq hc166_262).1 ?_
          show Steps p.tables e below (T260.setTop (mkF m 169 #[.val (.int p0), .val (.int p1), .val (.int p2), .val (.int p3), .val (.int p4), .val (.int p5), .val (.int (v0_7_l6 p0)), .val (.int (v0_17_l7 p0)), .val (.int (v0_30_l8 p0 p1)), .val (.int (v0_37_s0 p0 p3 p5)), .val (.int (p2 &&& (15 : Int32))), .val (.int (p4 &&& (15 : Int32))), .val (.ref b198), .val (.int (1 : Int32)), .val (.int (v0_153_l14 p0 p3 p5)), .val (.int (v0_160_l15 p4)), .unset, .unset] [])) _
          refine XS.iload X260.here hx rfl (hb hby at_169) rfl ?_
          suffices k264 : Steps p.tables e below (T260.setTop (mkF m 186 #[.val (.int p0), .val (.int p1), .val (.int p2), .val (.int p3), .val (.int p4), .val (.int p5), .val (.int (v0_7_l6 p0)), .val (.int (v0_17_l7 p0)), .val (.int (v0_30_l8 p0 p1)), .val (.int (v0_37_s0 p0 p3 p5)), .val (.int (p2 &&& (15 : Int32))), .val (.int (p4 &&& (15 : Int32))), .val (.ref b198), .val (.int (1 : Int32)), .val (.int (v0_153_l14 p0 p3 p5)), .val (.int (v0_160_l15 p4)), .unset, .unset] [(.int (v0_171_s0 p4))])) t by
            by_cases hc171_263 : (v0_160_l15 p4) = (0 : Int32)
            · rw [(show (v0_171_s0 p4) = (0 : Int32) from if_pos hc171_263)] at k264
              show Steps p.tables e below (T260.setTop (mkF m 171 #[.val (.int p0), .val (.int p1), .val (.int p2), .val (.int p3), .val (.int p4), .val (.int p5), .val (.int (v0_7_l6 p0)), .val (.int (v0_17_l7 p0)), .val (.int (v0_30_l8 p0 p1)), .val (.int (v0_37_s0 p0 p3 p5)), .val (.int (p2 &&& (15 : Int32))), .val (.int (p4 &&& (15 : Int32))), .val (.ref b198), .val (.int (1 : Int32)), .val (.int (v0_153_l14 p0 p3 p5)), .val (.int (v0_160_l15 p4)), .unset, .unset] [(.int (v0_160_l15 p4))])) _
              refine XS.ifYes X260.here hx rfl (pc0 := 171) (pc' := 185) rfl (hb hby at_171) rfl ((if0 _ _).trans (teq hc171_263).1) (by decide) (by decide) ?_
              show Steps p.tables e below (T260.setTop (mkF m 185 #[.val (.int p0), .val (.int p1), .val (.int p2), .val (.int p3), .val (.int p4), .val (.int p5), .val (.int (v0_7_l6 p0)), .val (.int (v0_17_l7 p0)), .val (.int (v0_30_l8 p0 p1)), .val (.int (v0_37_s0 p0 p3 p5)), .val (.int (p2 &&& (15 : Int32))), .val (.int (p4 &&& (15 : Int32))), .val (.ref b198), .val (.int (1 : Int32)), .val (.int (v0_153_l14 p0 p3 p5)), .val (.int (v0_160_l15 p4)), .unset, .unset] [])) _
              refine XS.iconst X260.here hx rfl (hb hby at_185) ?_
              exact k264
            · rw [(show (v0_171_s0 p4) = (((8 : Int32) - (v0_160_l15 p4)) * (9 : Int32)) from if_neg hc171_263)] at k264
              show Steps p.tables e below (T260.setTop (mkF m 171 #[.val (.int p0), .val (.int p1), .val (.int p2), .val (.int p3), .val (.int p4), .val (.int p5), .val (.int (v0_7_l6 p0)), .val (.int (v0_17_l7 p0)), .val (.int (v0_30_l8 p0 p1)), .val (.int (v0_37_s0 p0 p3 p5)), .val (.int (p2 &&& (15 : Int32))), .val (.int (p4 &&& (15 : Int32))), .val (.ref b198), .val (.int (1 : Int32)), .val (.int (v0_153_l14 p0 p3 p5)), .val (.int (v0_160_l15 p4)), .unset, .unset] [(.int (v0_160_l15 p4))])) _
              refine XS.ifNo X260.here hx rfl (hb hby at_171) rfl ((if0 _ _).trans (feq hc171_263).1) ?_
              show Steps p.tables e below (T260.setTop (mkF m 174 #[.val (.int p0), .val (.int p1), .val (.int p2), .val (.int p3), .val (.int p4), .val (.int p5), .val (.int (v0_7_l6 p0)), .val (.int (v0_17_l7 p0)), .val (.int (v0_30_l8 p0 p1)), .val (.int (v0_37_s0 p0 p3 p5)), .val (.int (p2 &&& (15 : Int32))), .val (.int (p4 &&& (15 : Int32))), .val (.ref b198), .val (.int (1 : Int32)), .val (.int (v0_153_l14 p0 p3 p5)), .val (.int (v0_160_l15 p4)), .unset, .unset] [])) _
              refine XS.bipush X260.here hx rfl (hb hby at_174) ?_
              show Steps p.tables e below (T260.setTop (mkF m 176 #[.val (.int p0), .val (.int p1), .val (.int p2), .val (.int p3), .val (.int p4), .val (.int p5), .val (.int (v0_7_l6 p0)), .val (.int (v0_17_l7 p0)), .val (.int (v0_30_l8 p0 p1)), .val (.int (v0_37_s0 p0 p3 p5)), .val (.int (p2 &&& (15 : Int32))), .val (.int (p4 &&& (15 : Int32))), .val (.ref b198), .val (.int (1 : Int32)), .val (.int (v0_153_l14 p0 p3 p5)), .val (.int (v0_160_l15 p4)), .unset, .unset] [(.int (8 : Int32))])) _
              refine XS.iload X260.here hx rfl (hb hby at_176) rfl ?_
              show Steps p.tables e below (T260.setTop (mkF m 178 #[.val (.int p0), .val (.int p1), .val (.int p2), .val (.int p3), .val (.int p4), .val (.int p5), .val (.int (v0_7_l6 p0)), .val (.int (v0_17_l7 p0)), .val (.int (v0_30_l8 p0 p1)), .val (.int (v0_37_s0 p0 p3 p5)), .val (.int (p2 &&& (15 : Int32))), .val (.int (p4 &&& (15 : Int32))), .val (.ref b198), .val (.int (1 : Int32)), .val (.int (v0_153_l14 p0 p3 p5)), .val (.int (v0_160_l15 p4)), .unset, .unset] [(.int (v0_160_l15 p4)), (.int (8 : Int32))])) _
              refine XS.isub X260.here hx rfl (hb hby at_178) rfl ?_
              show Steps p.tables e below (T260.setTop (mkF m 179 #[.val (.int p0), .val (.int p1), .val (.int p2), .val (.int p3), .val (.int p4), .val (.int p5), .val (.int (v0_7_l6 p0)), .val (.int (v0_17_l7 p0)), .val (.int (v0_30_l8 p0 p1)), .val (.int (v0_37_s0 p0 p3 p5)), .val (.int (p2 &&& (15 : Int32))), .val (.int (p4 &&& (15 : Int32))), .val (.ref b198), .val (.int (1 : Int32)), .val (.int (v0_153_l14 p0 p3 p5)), .val (.int (v0_160_l15 p4)), .unset, .unset] [(.int ((8 : Int32) - (v0_160_l15 p4)))])) _
              refine XS.bipush X260.here hx rfl (hb hby at_179) ?_
              show Steps p.tables e below (T260.setTop (mkF m 181 #[.val (.int p0), .val (.int p1), .val (.int p2), .val (.int p3), .val (.int p4), .val (.int p5), .val (.int (v0_7_l6 p0)), .val (.int (v0_17_l7 p0)), .val (.int (v0_30_l8 p0 p1)), .val (.int (v0_37_s0 p0 p3 p5)), .val (.int (p2 &&& (15 : Int32))), .val (.int (p4 &&& (15 : Int32))), .val (.ref b198), .val (.int (1 : Int32)), .val (.int (v0_153_l14 p0 p3 p5)), .val (.int (v0_160_l15 p4)), .unset, .unset] [(.int (9 : Int32)), (.int ((8 : Int32) - (v0_160_l15 p4)))])) _
              refine XS.imul X260.here hx rfl (hb hby at_181) rfl ?_
              show Steps p.tables e below (T260.setTop (mkF m 182 #[.val (.int p0), .val (.int p1), .val (.int p2), .val (.int p3), .val (.int p4), .val (.int p5), .val (.int (v0_7_l6 p0)), .val (.int (v0_17_l7 p0)), .val (.int (v0_30_l8 p0 p1)), .val (.int (v0_37_s0 p0 p3 p5)), .val (.int (p2 &&& (15 : Int32))), .val (.int (p4 &&& (15 : Int32))), .val (.ref b198), .val (.int (1 : Int32)), .val (.int (v0_153_l14 p0 p3 p5)), .val (.int (v0_160_l15 p4)), .unset, .unset] [(.int (((8 : Int32) - (v0_160_l15 p4)) * (9 : Int32)))])) _
              refine XS.goto X260.here hx rfl (pc0 := 182) (pc' := 186) rfl (hb hby at_182) (by decide) (by decide) ?_
              exact k264
          exact k265
      show Steps p.tables e below (T260.setTop (mkF m 186 #[.val (.int p0), .val (.int p1), .val (.int p2), .val (.int p3), .val (.int p4), .val (.int p5), .val (.int (v0_7_l6 p0)), .val (.int (v0_17_l7 p0)), .val (.int (v0_30_l8 p0 p1)), .val (.int (v0_37_s0 p0 p3 p5)), .val (.int (p2 &&& (15 : Int32))), .val (.int (p4 &&& (15 : Int32))), .val (.ref b198), .val (.int (1 : Int32)), .val (.int (v0_153_l14 p0 p3 p5)), .val (.int (v0_160_l15 p4)), .unset, .unset] [(.int (v0_166_s0 p0 p3 p4 p5))])) _
      refine XS.istore X260.here hx rfl (hb hby at_186) rfl (l' := #[.val (.int p0), .val (.int p1), .val (.int p2), .val (.int p3), .val (.int p4), .val (.int p5), .val (.int (v0_7_l6 p0)), .val (.int (v0_17_l7 p0)), .val (.int (v0_30_l8 p0 p1)), .val (.int (v0_37_s0 p0 p3 p5)), .val (.int (p2 &&& (15 : Int32))), .val (.int (p4 &&& (15 : Int32))), .val (.ref b198), .val (.int (1 : Int32)), .val (.int (v0_153_l14 p0 p3 p5)), .val (.int (v0_160_l15 p4)), .val (.int (v0_166_s0 p0 p3 p4 p5)), .unset]) rfl ?_
      show Steps p.tables e below (T260.setTop (mkF m 188 #[.val (.int p0), .val (.int p1), .val (.int p2), .val (.int p3), .val (.int p4), .val (.int p5), .val (.int (v0_7_l6 p0)), .val (.int (v0_17_l7 p0)), .val (.int (v0_30_l8 p0 p1)), .val (.int (v0_37_s0 p0 p3 p5)), .val (.int (p2 &&& (15 : Int32))), .val (.int (p4 &&& (15 : Int32))), .val (.ref b198), .val (.int (1 : Int32)), .val (.int (v0_153_l14 p0 p3 p5)), .val (.int (v0_160_l15 p4)), .val (.int (v0_166_s0 p0 p3 p4 p5)), .unset] [])) _
      refine XS.iload X260.here hx rfl (hb hby at_188) rfl ?_
      show Steps p.tables e below (T260.setTop (mkF m 190 #[.val (.int p0), .val (.int p1), .val (.int p2), .val (.int p3), .val (.int p4), .val (.int p5), .val (.int (v0_7_l6 p0)), .val (.int (v0_17_l7 p0)), .val (.int (v0_30_l8 p0 p1)), .val (.int (v0_37_s0 p0 p3 p5)), .val (.int (p2 &&& (15 : Int32))), .val (.int (p4 &&& (15 : Int32))), .val (.ref b198), .val (.int (1 : Int32)), .val (.int (v0_153_l14 p0 p3 p5)), .val (.int (v0_160_l15 p4)), .val (.int (v0_166_s0 p0 p3 p4 p5)), .unset] [(.int (1 : Int32))])) _
      refine XS.ifNo X260.here hx rfl (hb hby at_190) rfl ((if0 _ _).trans (feq (by decide : ¬ ((1 : Int32) = (0 : Int32)))).1) ?_
      show Steps p.tables e below (T260.setTop (mkF m 193 #[.val (.int p0), .val (.int p1), .val (.int p2), .val (.int p3), .val (.int p4), .val (.int p5), .val (.int (v0_7_l6 p0)), .val (.int (v0_17_l7 p0)), .val (.int (v0_30_l8 p0 p1)), .val (.int (v0_37_s0 p0 p3 p5)), .val (.int (p2 &&& (15 : Int32))), .val (.int (p4 &&& (15 : Int32))), .val (.ref b198), .val (.int (1 : Int32)), .val (.int (v0_153_l14 p0 p3 p5)), .val (.int (v0_160_l15 p4)), .val (.int (v0_166_s0 p0 p3 p4 p5)), .unset] [])) _
      refine XS.aload X260.here hx rfl (hb hby at_193) rfl rfl ?_
      show Steps p.tables e below (T260.setTop (mkF m 195 #[.val (.int p0), .val (.int p1), .val (.int p2), .val (.int p3), .val (.int p4), .val (.int p5), .val (.int (v0_7_l6 p0)), .val (.int (v0_17_l7 p0)), .val (.int (v0_30_l8 p0 p1)), .val (.int (v0_37_s0 p0 p3 p5)), .val (.int (p2 &&& (15 : Int32))), .val (.int (p4 &&& (15 : Int32))), .val (.ref b198), .val (.int (1 : Int32)), .val (.int (v0_153_l14 p0 p3 p5)), .val (.int (v0_160_l15 p4)), .val (.int (v0_166_s0 p0 p3 p4 p5)), .unset] [(.ref b198)])) _
      refine XS.iload X260.here hx rfl (hb hby at_195) rfl ?_
      exact kk)
    have Zz267 : n0 ≤ T257.heap.size := (Nat.le_trans Z0 K257.1)
    obtain ⟨cq267, kq267, q267a, q267b, q267c⟩ := isOf hZ e260 Eq257_0
    obtain ⟨_, _, ⟨T267, L267, k267, n267⟩, -, X267, ⟨Lc267, hQ267, l267, y267, z267⟩, st267⟩ := X260.virtualBack hx (y := (⟨"phrasebook/ZFormat$Layout", "bitsFor", "(I)I"⟩ : MethodName)) (z := (⟨"phrasebook/ZFormat$Layout", "bitsFor", "(I)I"⟩ : MethodName)) hown (mvT hZ (hw _ (List.mem_of_getElem? (i := 61) rfl))) (mvT hZ (hw _ (List.mem_of_getElem? (i := 62) rfl))) (notFace_of_selects (args := #[]) (mvT hZ (hw _ (List.mem_of_getElem? (i := 64) rfl)))) (mvT hZ (hw _ (List.mem_of_getElem? (i := 64) rfl))) (mvT hZ (hw _ (List.mem_of_getElem? (i := 63) rfl))) (by decide) (backOf (W := 0) (rm12 l Z a0 hw [] b198 (v0_37_s0 p0 p3 p5) (v0_7_l6 p0) (9 : Int32) (0 : Int32) (((0 : Int32) + (p4 &&& (15 : Int32))) % (8 : Int32)) T257.heap n0 Zz267 Fq257_0 Eq257_0 Fq257_1 Fq257_3 Fq257_2) hZ (hw _ (List.mem_of_getElem? (i := 65) rfl)) (hw _ (List.mem_of_getElem? (i := 3) rfl)) (by decide) (by decide)) q267a q267c (g := (mkF m 197 #[.val (.int p0), .val (.int p1), .val (.int p2), .val (.int p3), .val (.int p4), .val (.int p5), .val (.int (v0_7_l6 p0)), .val (.int (v0_17_l7 p0)), .val (.int (v0_30_l8 p0 p1)), .val (.int (v0_37_s0 p0 p3 p5)), .val (.int (p2 &&& (15 : Int32))), .val (.int (p4 &&& (15 : Int32))), .val (.ref b198), .val (.int (1 : Int32)), .val (.int (v0_153_l14 p0 p3 p5)), .val (.int (v0_160_l15 p4)), .val (.int (v0_166_s0 p0 p3 p4 p5)), .unset] [(.int (v0_37_s0 p0 p3 p5)), (.ref b198)])) rfl (by rw [hml]; rfl) (Steps.refl _) (argsL := [(.int (v0_37_s0 p0 p3 p5))]) (rest := []) (lenOf pd_1 rfl) rfl (by show 2 * 0 + _ ≤ _; exact Nat.le_of_eq rfl) (hb hby at_197) (fun _ _ => ⟨rfl, e260, (by decide : 1 + 0 ≤ _), (by decide : 4 + 0 ≤ _)⟩)
    dsimp only [Pt.U, Pt.locs, Pt.cells, Pt.slots] at X267 l267 y267 z267 st267 hQ267
    subst l267 y267 z267
    obtain ⟨rfl, N267q, e267⟩ := hQ267
    have N267 := Fr.app N260 N267q
    have k268 := fun (t : State) (kk : Steps p.tables e below (T267.setTop (mkF m 200 #[.val (.int p0), .val (.int p1), .val (.int p2), .val (.int p3), .val (.int p4), .val (.int p5), .val (.int (v0_7_l6 p0)), .val (.int (v0_17_l7 p0)), .val (.int (v0_30_l8 p0 p1)), .val (.int (v0_37_s0 p0 p3 p5)), .val (.int (p2 &&& (15 : Int32))), .val (.int (p4 &&& (15 : Int32))), .val (.ref b198), .val (.int (1 : Int32)), .val (.int (v0_153_l14 p0 p3 p5)), .val (.int (v0_160_l15 p4)), .val (.int (v0_166_s0 p0 p3 p4 p5)), .unset] [(.int (v12_ret (v0_37_s0 p0 p3 p5) (v0_7_l6 p0) (9 : Int32) (0 : Int32) (((0 : Int32) + (p4 &&& (15 : Int32))) % (8 : Int32))))])) t) => k266 t (st267.trans kk)
    have k271 := fun (t : State) (kk : Steps p.tables e below (T267.setTop (mkF m 219 #[.val (.int p0), .val (.int p1), .val (.int p2), .val (.int p3), .val (.int p4), .val (.int p5), .val (.int (v0_7_l6 p0)), .val (.int (v0_17_l7 p0)), .val (.int (v0_30_l8 p0 p1)), .val (.int (v0_37_s0 p0 p3 p5)), .val (.int (p2 &&& (15 : Int32))), .val (.int (p4 &&& (15 : Int32))), .val (.ref b198), .val (.int (v0_205_s0 p0 p3 p4 p5)), .val (.int (v0_153_l14 p0 p3 p5)), .val (.int (v0_160_l15 p4)), .val (.int (v0_166_s0 p0 p3 p4 p5)), .unset] [(.int (v0_37_s0 p0 p3 p5)), (.ref b198)])) t) => k268 t (by
      show Steps p.tables e below (T267.setTop (mkF m 200 #[.val (.int p0), .val (.int p1), .val (.int p2), .val (.int p3), .val (.int p4), .val (.int p5), .val (.int (v0_7_l6 p0)), .val (.int (v0_17_l7 p0)), .val (.int (v0_30_l8 p0 p1)), .val (.int (v0_37_s0 p0 p3 p5)), .val (.int (p2 &&& (15 : Int32))), .val (.int (p4 &&& (15 : Int32))), .val (.ref b198), .val (.int (1 : Int32)), .val (.int (v0_153_l14 p0 p3 p5)), .val (.int (v0_160_l15 p4)), .val (.int (v0_166_s0 p0 p3 p4 p5)), .unset] [(.int (v12_ret (v0_37_s0 p0 p3 p5) (v0_7_l6 p0) (9 : Int32) (0 : Int32) (((0 : Int32) + (p4 &&& (15 : Int32))) % (8 : Int32))))])) _
      refine XS.iload X267.here hx rfl (hb hby at_200) rfl ?_
      show Steps p.tables e below (T267.setTop (mkF m 202 #[.val (.int p0), .val (.int p1), .val (.int p2), .val (.int p3), .val (.int p4), .val (.int p5), .val (.int (v0_7_l6 p0)), .val (.int (v0_17_l7 p0)), .val (.int (v0_30_l8 p0 p1)), .val (.int (v0_37_s0 p0 p3 p5)), .val (.int (p2 &&& (15 : Int32))), .val (.int (p4 &&& (15 : Int32))), .val (.ref b198), .val (.int (1 : Int32)), .val (.int (v0_153_l14 p0 p3 p5)), .val (.int (v0_160_l15 p4)), .val (.int (v0_166_s0 p0 p3 p4 p5)), .unset] [(.int (v0_166_s0 p0 p3 p4 p5)), (.int (v12_ret (v0_37_s0 p0 p3 p5) (v0_7_l6 p0) (9 : Int32) (0 : Int32) (((0 : Int32) + (p4 &&& (15 : Int32))) % (8 : Int32))))])) _
      refine XS.iload X267.here hx rfl (hb hby at_202) rfl ?_
      show Steps p.tables e below (T267.setTop (mkF m 204 #[.val (.int p0), .val (.int p1), .val (.int p2), .val (.int p3), .val (.int p4), .val (.int p5), .val (.int (v0_7_l6 p0)), .val (.int (v0_17_l7 p0)), .val (.int (v0_30_l8 p0 p1)), .val (.int (v0_37_s0 p0 p3 p5)), .val (.int (p2 &&& (15 : Int32))), .val (.int (p4 &&& (15 : Int32))), .val (.ref b198), .val (.int (1 : Int32)), .val (.int (v0_153_l14 p0 p3 p5)), .val (.int (v0_160_l15 p4)), .val (.int (v0_166_s0 p0 p3 p4 p5)), .unset] [(.int (v0_153_l14 p0 p3 p5)), (.int (v0_166_s0 p0 p3 p4 p5)), (.int (v12_ret (v0_37_s0 p0 p3 p5) (v0_7_l6 p0) (9 : Int32) (0 : Int32) (((0 : Int32) + (p4 &&& (15 : Int32))) % (8 : Int32))))])) _
      refine XS.iadd X267.here hx rfl (hb hby at_204) rfl ?_
      suffices k270 : Steps p.tables e below (T267.setTop (mkF m 213 #[.val (.int p0), .val (.int p1), .val (.int p2), .val (.int p3), .val (.int p4), .val (.int p5), .val (.int (v0_7_l6 p0)), .val (.int (v0_17_l7 p0)), .val (.int (v0_30_l8 p0 p1)), .val (.int (v0_37_s0 p0 p3 p5)), .val (.int (p2 &&& (15 : Int32))), .val (.int (p4 &&& (15 : Int32))), .val (.ref b198), .val (.int (1 : Int32)), .val (.int (v0_153_l14 p0 p3 p5)), .val (.int (v0_160_l15 p4)), .val (.int (v0_166_s0 p0 p3 p4 p5)), .unset] [(.int (v0_205_s0 p0 p3 p4 p5))])) t by
        by_cases hc205_269 : (v12_ret (v0_37_s0 p0 p3 p5) (v0_7_l6 p0) (9 : Int32) (0 : Int32) (((0 : Int32) + (p4 &&& (15 : Int32))) % (8 : Int32))) = ((v0_166_s0 p0 p3 p4 p5) + (v0_153_l14 p0 p3 p5))
        · rw [(show (v0_205_s0 p0 p3 p4 p5) = (1 : Int32) from if_pos hc205_269)] at k270
          show Steps p.tables e below (T267.setTop (mkF m 205 #[.val (.int p0), .val (.int p1), .val (.int p2), .val (.int p3), .val (.int p4), .val (.int p5), .val (.int (v0_7_l6 p0)), .val (.int (v0_17_l7 p0)), .val (.int (v0_30_l8 p0 p1)), .val (.int (v0_37_s0 p0 p3 p5)), .val (.int (p2 &&& (15 : Int32))), .val (.int (p4 &&& (15 : Int32))), .val (.ref b198), .val (.int (1 : Int32)), .val (.int (v0_153_l14 p0 p3 p5)), .val (.int (v0_160_l15 p4)), .val (.int (v0_166_s0 p0 p3 p4 p5)), .unset] [(.int ((v0_166_s0 p0 p3 p4 p5) + (v0_153_l14 p0 p3 p5))), (.int (v12_ret (v0_37_s0 p0 p3 p5) (v0_7_l6 p0) (9 : Int32) (0 : Int32) (((0 : Int32) + (p4 &&& (15 : Int32))) % (8 : Int32))))])) _
          refine XS.icmpNo X267.here hx rfl (hb hby at_205) rfl (teq hc205_269).2 ?_
          show Steps p.tables e below (T267.setTop (mkF m 208 #[.val (.int p0), .val (.int p1), .val (.int p2), .val (.int p3), .val (.int p4), .val (.int p5), .val (.int (v0_7_l6 p0)), .val (.int (v0_17_l7 p0)), .val (.int (v0_30_l8 p0 p1)), .val (.int (v0_37_s0 p0 p3 p5)), .val (.int (p2 &&& (15 : Int32))), .val (.int (p4 &&& (15 : Int32))), .val (.ref b198), .val (.int (1 : Int32)), .val (.int (v0_153_l14 p0 p3 p5)), .val (.int (v0_160_l15 p4)), .val (.int (v0_166_s0 p0 p3 p4 p5)), .unset] [])) _
          refine XS.iconst X267.here hx rfl (hb hby at_208) ?_
          show Steps p.tables e below (T267.setTop (mkF m 209 #[.val (.int p0), .val (.int p1), .val (.int p2), .val (.int p3), .val (.int p4), .val (.int p5), .val (.int (v0_7_l6 p0)), .val (.int (v0_17_l7 p0)), .val (.int (v0_30_l8 p0 p1)), .val (.int (v0_37_s0 p0 p3 p5)), .val (.int (p2 &&& (15 : Int32))), .val (.int (p4 &&& (15 : Int32))), .val (.ref b198), .val (.int (1 : Int32)), .val (.int (v0_153_l14 p0 p3 p5)), .val (.int (v0_160_l15 p4)), .val (.int (v0_166_s0 p0 p3 p4 p5)), .unset] [(.int (1 : Int32))])) _
          refine XS.goto X267.here hx rfl (pc0 := 209) (pc' := 213) rfl (hb hby at_209) (by decide) (by decide) ?_
          exact k270
        · rw [(show (v0_205_s0 p0 p3 p4 p5) = (0 : Int32) from if_neg hc205_269)] at k270
          show Steps p.tables e below (T267.setTop (mkF m 205 #[.val (.int p0), .val (.int p1), .val (.int p2), .val (.int p3), .val (.int p4), .val (.int p5), .val (.int (v0_7_l6 p0)), .val (.int (v0_17_l7 p0)), .val (.int (v0_30_l8 p0 p1)), .val (.int (v0_37_s0 p0 p3 p5)), .val (.int (p2 &&& (15 : Int32))), .val (.int (p4 &&& (15 : Int32))), .val (.ref b198), .val (.int (1 : Int32)), .val (.int (v0_153_l14 p0 p3 p5)), .val (.int (v0_160_l15 p4)), .val (.int (v0_166_s0 p0 p3 p4 p5)), .unset] [(.int ((v0_166_s0 p0 p3 p4 p5) + (v0_153_l14 p0 p3 p5))), (.int (v12_ret (v0_37_s0 p0 p3 p5) (v0_7_l6 p0) (9 : Int32) (0 : Int32) (((0 : Int32) + (p4 &&& (15 : Int32))) % (8 : Int32))))])) _
          refine XS.icmpYes X267.here hx rfl (pc0 := 205) (pc' := 212) rfl (hb hby at_205) rfl (feq hc205_269).2 (by decide) (by decide) ?_
          show Steps p.tables e below (T267.setTop (mkF m 212 #[.val (.int p0), .val (.int p1), .val (.int p2), .val (.int p3), .val (.int p4), .val (.int p5), .val (.int (v0_7_l6 p0)), .val (.int (v0_17_l7 p0)), .val (.int (v0_30_l8 p0 p1)), .val (.int (v0_37_s0 p0 p3 p5)), .val (.int (p2 &&& (15 : Int32))), .val (.int (p4 &&& (15 : Int32))), .val (.ref b198), .val (.int (1 : Int32)), .val (.int (v0_153_l14 p0 p3 p5)), .val (.int (v0_160_l15 p4)), .val (.int (v0_166_s0 p0 p3 p4 p5)), .unset] [])) _
          refine XS.iconst X267.here hx rfl (hb hby at_212) ?_
          exact k270
      show Steps p.tables e below (T267.setTop (mkF m 213 #[.val (.int p0), .val (.int p1), .val (.int p2), .val (.int p3), .val (.int p4), .val (.int p5), .val (.int (v0_7_l6 p0)), .val (.int (v0_17_l7 p0)), .val (.int (v0_30_l8 p0 p1)), .val (.int (v0_37_s0 p0 p3 p5)), .val (.int (p2 &&& (15 : Int32))), .val (.int (p4 &&& (15 : Int32))), .val (.ref b198), .val (.int (1 : Int32)), .val (.int (v0_153_l14 p0 p3 p5)), .val (.int (v0_160_l15 p4)), .val (.int (v0_166_s0 p0 p3 p4 p5)), .unset] [(.int (v0_205_s0 p0 p3 p4 p5))])) _
      refine XS.istore X267.here hx rfl (hb hby at_213) rfl (l' := #[.val (.int p0), .val (.int p1), .val (.int p2), .val (.int p3), .val (.int p4), .val (.int p5), .val (.int (v0_7_l6 p0)), .val (.int (v0_17_l7 p0)), .val (.int (v0_30_l8 p0 p1)), .val (.int (v0_37_s0 p0 p3 p5)), .val (.int (p2 &&& (15 : Int32))), .val (.int (p4 &&& (15 : Int32))), .val (.ref b198), .val (.int (v0_205_s0 p0 p3 p4 p5)), .val (.int (v0_153_l14 p0 p3 p5)), .val (.int (v0_160_l15 p4)), .val (.int (v0_166_s0 p0 p3 p4 p5)), .unset]) rfl ?_
      show Steps p.tables e below (T267.setTop (mkF m 215 #[.val (.int p0), .val (.int p1), .val (.int p2), .val (.int p3), .val (.int p4), .val (.int p5), .val (.int (v0_7_l6 p0)), .val (.int (v0_17_l7 p0)), .val (.int (v0_30_l8 p0 p1)), .val (.int (v0_37_s0 p0 p3 p5)), .val (.int (p2 &&& (15 : Int32))), .val (.int (p4 &&& (15 : Int32))), .val (.ref b198), .val (.int (v0_205_s0 p0 p3 p4 p5)), .val (.int (v0_153_l14 p0 p3 p5)), .val (.int (v0_160_l15 p4)), .val (.int (v0_166_s0 p0 p3 p4 p5)), .unset] [])) _
      refine XS.aload X267.here hx rfl (hb hby at_215) rfl rfl ?_
      show Steps p.tables e below (T267.setTop (mkF m 217 #[.val (.int p0), .val (.int p1), .val (.int p2), .val (.int p3), .val (.int p4), .val (.int p5), .val (.int (v0_7_l6 p0)), .val (.int (v0_17_l7 p0)), .val (.int (v0_30_l8 p0 p1)), .val (.int (v0_37_s0 p0 p3 p5)), .val (.int (p2 &&& (15 : Int32))), .val (.int (p4 &&& (15 : Int32))), .val (.ref b198), .val (.int (v0_205_s0 p0 p3 p4 p5)), .val (.int (v0_153_l14 p0 p3 p5)), .val (.int (v0_160_l15 p4)), .val (.int (v0_166_s0 p0 p3 p4 p5)), .unset] [(.ref b198)])) _
      refine XS.iload X267.here hx rfl (hb hby at_217) rfl ?_
      exact kk)
    have Zz272 : n0 ≤ T257.heap.size := (Nat.le_trans Z0 K257.1)
    obtain ⟨cq272, kq272, q272a, q272b, q272c⟩ := isOf hZ e267 Eq257_0
    obtain ⟨_, _, ⟨T272, L272, k272, n272⟩, -, X272, ⟨Lc272, hQ272, l272, y272, z272⟩, st272⟩ := X267.virtualBack hx (y := (⟨"phrasebook/ZFormat$Layout", "place", "(I)I"⟩ : MethodName)) (z := (⟨"phrasebook/ZFormat$Layout", "place", "(I)I"⟩ : MethodName)) hown (mvT hZ (hw _ (List.mem_of_getElem? (i := 23) rfl))) (mvT hZ (hw _ (List.mem_of_getElem? (i := 24) rfl))) (notFace_of_selects (args := #[]) (mvT hZ (hw _ (List.mem_of_getElem? (i := 26) rfl)))) (mvT hZ (hw _ (List.mem_of_getElem? (i := 26) rfl))) (mvT hZ (hw _ (List.mem_of_getElem? (i := 25) rfl))) (by decide) (backOf (W := 0) (rm4 l Z a0 hw [] b198 (v0_37_s0 p0 p3 p5) (v0_7_l6 p0) (9 : Int32) (0 : Int32) (((0 : Int32) + (p4 &&& (15 : Int32))) % (8 : Int32)) T257.heap n0 Zz272 Fq257_0 Eq257_0 Fq257_1 Fq257_3 g_b198 Fq257_2) hZ (hw _ (List.mem_of_getElem? (i := 27) rfl)) (hw _ (List.mem_of_getElem? (i := 3) rfl)) (by decide) (by decide)) q272a q272c (g := (mkF m 219 #[.val (.int p0), .val (.int p1), .val (.int p2), .val (.int p3), .val (.int p4), .val (.int p5), .val (.int (v0_7_l6 p0)), .val (.int (v0_17_l7 p0)), .val (.int (v0_30_l8 p0 p1)), .val (.int (v0_37_s0 p0 p3 p5)), .val (.int (p2 &&& (15 : Int32))), .val (.int (p4 &&& (15 : Int32))), .val (.ref b198), .val (.int (v0_205_s0 p0 p3 p4 p5)), .val (.int (v0_153_l14 p0 p3 p5)), .val (.int (v0_160_l15 p4)), .val (.int (v0_166_s0 p0 p3 p4 p5)), .unset] [(.int (v0_37_s0 p0 p3 p5)), (.ref b198)])) rfl (by rw [hml]; rfl) (Steps.refl _) (argsL := [(.int (v0_37_s0 p0 p3 p5))]) (rest := []) (lenOf pd_1 rfl) rfl (by show 2 * 0 + _ ≤ _; exact Nat.le_of_eq rfl) (hb hby at_219) (fun _ _ => ⟨rfl, e267, (by decide : 1 + 0 ≤ _), (by decide : 4 + 0 ≤ _)⟩)
    dsimp only [Pt.U, Pt.locs, Pt.cells, Pt.slots] at X272 l272 y272 z272 st272 hQ272
    subst l272 y272 z272
    obtain ⟨rfl, N272q, Kq272, Eq272_0, Fq272_0, Fq272_1, Fq272_2, Fq272_3⟩ := hQ272
    have K272 : Keep h0 T272.heap [] := K257.trans Kq272 (allS (Or.inr sz_b198) all0)
    have N272 := Fr.app N267 N272q
    have k273 := fun (t : State) (kk : Steps p.tables e below (T272.setTop (mkF m 222 #[.val (.int p0), .val (.int p1), .val (.int p2), .val (.int p3), .val (.int p4), .val (.int p5), .val (.int (v0_7_l6 p0)), .val (.int (v0_17_l7 p0)), .val (.int (v0_30_l8 p0 p1)), .val (.int (v0_37_s0 p0 p3 p5)), .val (.int (p2 &&& (15 : Int32))), .val (.int (p4 &&& (15 : Int32))), .val (.ref b198), .val (.int (v0_205_s0 p0 p3 p4 p5)), .val (.int (v0_153_l14 p0 p3 p5)), .val (.int (v0_160_l15 p4)), .val (.int (v0_166_s0 p0 p3 p4 p5)), .unset] [(.int (v4_ret (v0_37_s0 p0 p3 p5) (v0_7_l6 p0) (9 : Int32) (0 : Int32) (((0 : Int32) + (p4 &&& (15 : Int32))) % (8 : Int32))))])) t) => k271 t (st272.trans kk)
    have k274 := fun (t : State) (kk : Steps p.tables e below (T272.setTop (mkF m 226 #[.val (.int p0), .val (.int p1), .val (.int p2), .val (.int p3), .val (.int p4), .val (.int p5), .val (.int (v0_7_l6 p0)), .val (.int (v0_17_l7 p0)), .val (.int (v0_30_l8 p0 p1)), .val (.int (v0_37_s0 p0 p3 p5)), .val (.int (p2 &&& (15 : Int32))), .val (.int (p4 &&& (15 : Int32))), .val (.ref b198), .val (.int (v0_205_s0 p0 p3 p4 p5)), .val (.int (v0_153_l14 p0 p3 p5)), .val (.int (v0_160_l15 p4)), .val (.int (v0_166_s0 p0 p3 p4 p5)), .val (.int (v0_222_l17 p0 p3 p4 p5))] [(.int (v0_205_s0 p0 p3 p4 p5))])) t) => k273 t (by
      show Steps p.tables e below (T272.setTop (mkF m 222 #[.val (.int p0), .val (.int p1), .val (.int p2), .val (.int p3), .val (.int p4), .val (.int p5), .val (.int (v0_7_l6 p0)), .val (.int (v0_17_l7 p0)), .val (.int (v0_30_l8 p0 p1)), .val (.int (v0_37_s0 p0 p3 p5)), .val (.int (p2 &&& (15 : Int32))), .val (.int (p4 &&& (15 : Int32))), .val (.ref b198), .val (.int (v0_205_s0 p0 p3 p4 p5)), .val (.int (v0_153_l14 p0 p3 p5)), .val (.int (v0_160_l15 p4)), .val (.int (v0_166_s0 p0 p3 p4 p5)), .unset] [(.int (v4_ret (v0_37_s0 p0 p3 p5) (v0_7_l6 p0) (9 : Int32) (0 : Int32) (((0 : Int32) + (p4 &&& (15 : Int32))) % (8 : Int32))))])) _
      refine XS.istore X272.here hx rfl (hb hby at_222) rfl (l' := #[.val (.int p0), .val (.int p1), .val (.int p2), .val (.int p3), .val (.int p4), .val (.int p5), .val (.int (v0_7_l6 p0)), .val (.int (v0_17_l7 p0)), .val (.int (v0_30_l8 p0 p1)), .val (.int (v0_37_s0 p0 p3 p5)), .val (.int (p2 &&& (15 : Int32))), .val (.int (p4 &&& (15 : Int32))), .val (.ref b198), .val (.int (v0_205_s0 p0 p3 p4 p5)), .val (.int (v0_153_l14 p0 p3 p5)), .val (.int (v0_160_l15 p4)), .val (.int (v0_166_s0 p0 p3 p4 p5)), .val (.int (v0_222_l17 p0 p3 p4 p5))]) rfl ?_
      show Steps p.tables e below (T272.setTop (mkF m 224 #[.val (.int p0), .val (.int p1), .val (.int p2), .val (.int p3), .val (.int p4), .val (.int p5), .val (.int (v0_7_l6 p0)), .val (.int (v0_17_l7 p0)), .val (.int (v0_30_l8 p0 p1)), .val (.int (v0_37_s0 p0 p3 p5)), .val (.int (p2 &&& (15 : Int32))), .val (.int (p4 &&& (15 : Int32))), .val (.ref b198), .val (.int (v0_205_s0 p0 p3 p4 p5)), .val (.int (v0_153_l14 p0 p3 p5)), .val (.int (v0_160_l15 p4)), .val (.int (v0_166_s0 p0 p3 p4 p5)), .val (.int (v0_222_l17 p0 p3 p4 p5))] [])) _
      refine XS.iload X272.here hx rfl (hb hby at_224) rfl ?_
      exact kk)
    by_cases hc226_275 : (v0_205_s0 p0 p3 p4 p5) = (0 : Int32)
    · have k276 := fun (t : State) (kk : Steps p.tables e below (T272.setTop (mkF m 255 #[.val (.int p0), .val (.int p1), .val (.int p2), .val (.int p3), .val (.int p4), .val (.int p5), .val (.int (v0_7_l6 p0)), .val (.int (v0_17_l7 p0)), .val (.int (v0_30_l8 p0 p1)), .val (.int (v0_37_s0 p0 p3 p5)), .val (.int (p2 &&& (15 : Int32))), .val (.int (p4 &&& (15 : Int32))), .val (.ref b198), .val (.int (0 : Int32)), .val (.int (v0_153_l14 p0 p3 p5)), .val (.int (v0_160_l15 p4)), .val (.int (v0_166_s0 p0 p3 p4 p5)), .val (.int (v0_222_l17 p0 p3 p4 p5))] [(.int (0 : Int32))])) t) => k274 t (by
        show Steps p.tables e below (T272.setTop (mkF m 226 #[.val (.int p0), .val (.int p1), .val (.int p2), .val (.int p3), .val (.int p4), .val (.int p5), .val (.int (v0_7_l6 p0)), .val (.int (v0_17_l7 p0)), .val (.int (v0_30_l8 p0 p1)), .val (.int (v0_37_s0 p0 p3 p5)), .val (.int (p2 &&& (15 : Int32))), .val (.int (p4 &&& (15 : Int32))), .val (.ref b198), .val (.int (v0_205_s0 p0 p3 p4 p5)), .val (.int (v0_153_l14 p0 p3 p5)), .val (.int (v0_160_l15 p4)), .val (.int (v0_166_s0 p0 p3 p4 p5)), .val (.int (v0_222_l17 p0 p3 p4 p5))] [(.int (v0_205_s0 p0 p3 p4 p5))])) _
        refine XS.ifYes X272.here hx rfl (pc0 := 226) (pc' := 250) rfl (hb hby at_226) rfl ((if0 _ _).trans (teq hc226_275).1) (by decide) (by decide) ?_
        show Steps p.tables e below (T272.setTop (mkF m 250 #[.val (.int p0), .val (.int p1), .val (.int p2), .val (.int p3), .val (.int p4), .val (.int p5), .val (.int (v0_7_l6 p0)), .val (.int (v0_17_l7 p0)), .val (.int (v0_30_l8 p0 p1)), .val (.int (v0_37_s0 p0 p3 p5)), .val (.int (p2 &&& (15 : Int32))), .val (.int (p4 &&& (15 : Int32))), .val (.ref b198), .val (.int (v0_205_s0 p0 p3 p4 p5)), .val (.int (v0_153_l14 p0 p3 p5)), .val (.int (v0_160_l15 p4)), .val (.int (v0_166_s0 p0 p3 p4 p5)), .val (.int (v0_222_l17 p0 p3 p4 p5))] [])) _
        refine XS.iconst X272.here hx rfl (hb hby at_250) ?_
        show Steps p.tables e below (T272.setTop (mkF m 251 #[.val (.int p0), .val (.int p1), .val (.int p2), .val (.int p3), .val (.int p4), .val (.int p5), .val (.int (v0_7_l6 p0)), .val (.int (v0_17_l7 p0)), .val (.int (v0_30_l8 p0 p1)), .val (.int (v0_37_s0 p0 p3 p5)), .val (.int (p2 &&& (15 : Int32))), .val (.int (p4 &&& (15 : Int32))), .val (.ref b198), .val (.int (v0_205_s0 p0 p3 p4 p5)), .val (.int (v0_153_l14 p0 p3 p5)), .val (.int (v0_160_l15 p4)), .val (.int (v0_166_s0 p0 p3 p4 p5)), .val (.int (v0_222_l17 p0 p3 p4 p5))] [(.int (0 : Int32))])) _
        refine XS.istore X272.here hx rfl (hb hby at_251) rfl (l' := #[.val (.int p0), .val (.int p1), .val (.int p2), .val (.int p3), .val (.int p4), .val (.int p5), .val (.int (v0_7_l6 p0)), .val (.int (v0_17_l7 p0)), .val (.int (v0_30_l8 p0 p1)), .val (.int (v0_37_s0 p0 p3 p5)), .val (.int (p2 &&& (15 : Int32))), .val (.int (p4 &&& (15 : Int32))), .val (.ref b198), .val (.int (0 : Int32)), .val (.int (v0_153_l14 p0 p3 p5)), .val (.int (v0_160_l15 p4)), .val (.int (v0_166_s0 p0 p3 p4 p5)), .val (.int (v0_222_l17 p0 p3 p4 p5))]) rfl ?_
        show Steps p.tables e below (T272.setTop (mkF m 253 #[.val (.int p0), .val (.int p1), .val (.int p2), .val (.int p3), .val (.int p4), .val (.int p5), .val (.int (v0_7_l6 p0)), .val (.int (v0_17_l7 p0)), .val (.int (v0_30_l8 p0 p1)), .val (.int (v0_37_s0 p0 p3 p5)), .val (.int (p2 &&& (15 : Int32))), .val (.int (p4 &&& (15 : Int32))), .val (.ref b198), .val (.int (0 : Int32)), .val (.int (v0_153_l14 p0 p3 p5)), .val (.int (v0_160_l15 p4)), .val (.int (v0_166_s0 p0 p3 p4 p5)), .val (.int (v0_222_l17 p0 p3 p4 p5))] [])) _
        refine XS.iload X272.here hx rfl (hb hby at_253) rfl ?_
        exact kk)
      obtain ⟨fs, hr, hrun, hended, hW, hsame⟩ := X272.leave (v := some (.int (0 : Int32))) (fun h => by rw [Bd.returns] at h; cases h)
      have hv : (v0_ret p0 p3 p4 p5) = (0 : Int32) := (if_pos hc226_275)
      have hone : (0 : Int32) = 1 := hv.symm.trans (own_law p0 p1 p2 p3 p4 p5)
      exact absurd hone (by decide)
    · have k277 := fun (t : State) (kk : Steps p.tables e below (T272.setTop (mkF m 233 #[.val (.int p0), .val (.int p1), .val (.int p2), .val (.int p3), .val (.int p4), .val (.int p5), .val (.int (v0_7_l6 p0)), .val (.int (v0_17_l7 p0)), .val (.int (v0_30_l8 p0 p1)), .val (.int (v0_37_s0 p0 p3 p5)), .val (.int (p2 &&& (15 : Int32))), .val (.int (p4 &&& (15 : Int32))), .val (.ref b198), .val (.int (v0_205_s0 p0 p3 p4 p5)), .val (.int (v0_153_l14 p0 p3 p5)), .val (.int (v0_160_l15 p4)), .val (.int (v0_166_s0 p0 p3 p4 p5)), .val (.int (v0_222_l17 p0 p3 p4 p5))] [(.int (v0_166_s0 p0 p3 p4 p5)), (.int (v0_222_l17 p0 p3 p4 p5))])) t) => k274 t (by
        show Steps p.tables e below (T272.setTop (mkF m 226 #[.val (.int p0), .val (.int p1), .val (.int p2), .val (.int p3), .val (.int p4), .val (.int p5), .val (.int (v0_7_l6 p0)), .val (.int (v0_17_l7 p0)), .val (.int (v0_30_l8 p0 p1)), .val (.int (v0_37_s0 p0 p3 p5)), .val (.int (p2 &&& (15 : Int32))), .val (.int (p4 &&& (15 : Int32))), .val (.ref b198), .val (.int (v0_205_s0 p0 p3 p4 p5)), .val (.int (v0_153_l14 p0 p3 p5)), .val (.int (v0_160_l15 p4)), .val (.int (v0_166_s0 p0 p3 p4 p5)), .val (.int (v0_222_l17 p0 p3 p4 p5))] [(.int (v0_205_s0 p0 p3 p4 p5))])) _
        refine XS.ifNo X272.here hx rfl (hb hby at_226) rfl ((if0 _ _).trans (feq hc226_275).1) ?_
        show Steps p.tables e below (T272.setTop (mkF m 229 #[.val (.int p0), .val (.int p1), .val (.int p2), .val (.int p3), .val (.int p4), .val (.int p5), .val (.int (v0_7_l6 p0)), .val (.int (v0_17_l7 p0)), .val (.int (v0_30_l8 p0 p1)), .val (.int (v0_37_s0 p0 p3 p5)), .val (.int (p2 &&& (15 : Int32))), .val (.int (p4 &&& (15 : Int32))), .val (.ref b198), .val (.int (v0_205_s0 p0 p3 p4 p5)), .val (.int (v0_153_l14 p0 p3 p5)), .val (.int (v0_160_l15 p4)), .val (.int (v0_166_s0 p0 p3 p4 p5)), .val (.int (v0_222_l17 p0 p3 p4 p5))] [])) _
        refine XS.iload X272.here hx rfl (hb hby at_229) rfl ?_
        show Steps p.tables e below (T272.setTop (mkF m 231 #[.val (.int p0), .val (.int p1), .val (.int p2), .val (.int p3), .val (.int p4), .val (.int p5), .val (.int (v0_7_l6 p0)), .val (.int (v0_17_l7 p0)), .val (.int (v0_30_l8 p0 p1)), .val (.int (v0_37_s0 p0 p3 p5)), .val (.int (p2 &&& (15 : Int32))), .val (.int (p4 &&& (15 : Int32))), .val (.ref b198), .val (.int (v0_205_s0 p0 p3 p4 p5)), .val (.int (v0_153_l14 p0 p3 p5)), .val (.int (v0_160_l15 p4)), .val (.int (v0_166_s0 p0 p3 p4 p5)), .val (.int (v0_222_l17 p0 p3 p4 p5))] [(.int (v0_222_l17 p0 p3 p4 p5))])) _
        refine XS.iload X272.here hx rfl (hb hby at_231) rfl ?_
        exact kk)
      by_cases hc233_278 : (v0_222_l17 p0 p3 p4 p5) = (v0_166_s0 p0 p3 p4 p5)
      · have k279 := fun (t : State) (kk : Steps p.tables e below (T272.setTop (mkF m 238 #[.val (.int p0), .val (.int p1), .val (.int p2), .val (.int p3), .val (.int p4), .val (.int p5), .val (.int (v0_7_l6 p0)), .val (.int (v0_17_l7 p0)), .val (.int (v0_30_l8 p0 p1)), .val (.int (v0_37_s0 p0 p3 p5)), .val (.int (p2 &&& (15 : Int32))), .val (.int (p4 &&& (15 : Int32))), .val (.ref b198), .val (.int (v0_205_s0 p0 p3 p4 p5)), .val (.int (v0_153_l14 p0 p3 p5)), .val (.int (v0_160_l15 p4)), .val (.int (v0_166_s0 p0 p3 p4 p5)), .val (.int (v0_222_l17 p0 p3 p4 p5))] [(.ref b198)])) t) => k277 t (by
          show Steps p.tables e below (T272.setTop (mkF m 233 #[.val (.int p0), .val (.int p1), .val (.int p2), .val (.int p3), .val (.int p4), .val (.int p5), .val (.int (v0_7_l6 p0)), .val (.int (v0_17_l7 p0)), .val (.int (v0_30_l8 p0 p1)), .val (.int (v0_37_s0 p0 p3 p5)), .val (.int (p2 &&& (15 : Int32))), .val (.int (p4 &&& (15 : Int32))), .val (.ref b198), .val (.int (v0_205_s0 p0 p3 p4 p5)), .val (.int (v0_153_l14 p0 p3 p5)), .val (.int (v0_160_l15 p4)), .val (.int (v0_166_s0 p0 p3 p4 p5)), .val (.int (v0_222_l17 p0 p3 p4 p5))] [(.int (v0_166_s0 p0 p3 p4 p5)), (.int (v0_222_l17 p0 p3 p4 p5))])) _
          refine XS.icmpNo X272.here hx rfl (hb hby at_233) rfl (teq hc233_278).2 ?_
          show Steps p.tables e below (T272.setTop (mkF m 236 #[.val (.int p0), .val (.int p1), .val (.int p2), .val (.int p3), .val (.int p4), .val (.int p5), .val (.int (v0_7_l6 p0)), .val (.int (v0_17_l7 p0)), .val (.int (v0_30_l8 p0 p1)), .val (.int (v0_37_s0 p0 p3 p5)), .val (.int (p2 &&& (15 : Int32))), .val (.int (p4 &&& (15 : Int32))), .val (.ref b198), .val (.int (v0_205_s0 p0 p3 p4 p5)), .val (.int (v0_153_l14 p0 p3 p5)), .val (.int (v0_160_l15 p4)), .val (.int (v0_166_s0 p0 p3 p4 p5)), .val (.int (v0_222_l17 p0 p3 p4 p5))] [])) _
          refine XS.aload X272.here hx rfl (hb hby at_236) rfl rfl ?_
          exact kk)
        have Zz280 : n0 ≤ T272.heap.size := (Nat.le_trans Z0 K272.1)
        obtain ⟨cq280, kq280, q280a, q280b, q280c⟩ := isOf hZ rfl Eq272_0
        obtain ⟨_, _, ⟨T280, L280, k280, n280⟩, -, X280, ⟨Lc280, hQ280, l280, y280, z280⟩, st280⟩ := X272.virtualBack hx (y := (⟨"phrasebook/ZFormat$Layout", "width", "()I"⟩ : MethodName)) (z := (⟨"phrasebook/ZFormat$Layout", "width", "()I"⟩ : MethodName)) hown (mvT hZ (hw _ (List.mem_of_getElem? (i := 52) rfl))) (mvT hZ (hw _ (List.mem_of_getElem? (i := 53) rfl))) (notFace_of_selects (args := #[]) (mvT hZ (hw _ (List.mem_of_getElem? (i := 55) rfl)))) (mvT hZ (hw _ (List.mem_of_getElem? (i := 55) rfl))) (mvT hZ (hw _ (List.mem_of_getElem? (i := 54) rfl))) (by decide) (backOf (W := 0) (rm10 l Z a0 hw [] b198 (v5_ret (v0_37_s0 p0 p3 p5) (v0_7_l6 p0)) T272.heap n0 Zz280 Fq272_1) hZ (hw _ (List.mem_of_getElem? (i := 56) rfl)) (hw _ (List.mem_of_getElem? (i := 3) rfl)) (by decide) (by decide)) q280a q280c (g := (mkF m 238 #[.val (.int p0), .val (.int p1), .val (.int p2), .val (.int p3), .val (.int p4), .val (.int p5), .val (.int (v0_7_l6 p0)), .val (.int (v0_17_l7 p0)), .val (.int (v0_30_l8 p0 p1)), .val (.int (v0_37_s0 p0 p3 p5)), .val (.int (p2 &&& (15 : Int32))), .val (.int (p4 &&& (15 : Int32))), .val (.ref b198), .val (.int (v0_205_s0 p0 p3 p4 p5)), .val (.int (v0_153_l14 p0 p3 p5)), .val (.int (v0_160_l15 p4)), .val (.int (v0_166_s0 p0 p3 p4 p5)), .val (.int (v0_222_l17 p0 p3 p4 p5))] [(.ref b198)])) rfl (by rw [hml]; rfl) (Steps.refl _) (argsL := []) (rest := []) (lenOf pd_4 rfl) rfl (by show 2 * 0 + _ ≤ _; exact Nat.le_of_eq rfl) (hb hby at_238) (fun _ _ => ⟨rfl, rfl, (by decide : 1 + 0 ≤ _), (by decide : 4 + 0 ≤ _)⟩)
        dsimp only [Pt.U, Pt.locs, Pt.cells, Pt.slots] at X280 l280 y280 z280 st280 hQ280
        subst l280 y280 z280
        obtain ⟨rfl, N280q, e280⟩ := hQ280
        have N280 := Fr.app N272 N280q
        have k281 := fun (t : State) (kk : Steps p.tables e below (T280.setTop (mkF m 241 #[.val (.int p0), .val (.int p1), .val (.int p2), .val (.int p3), .val (.int p4), .val (.int p5), .val (.int (v0_7_l6 p0)), .val (.int (v0_17_l7 p0)), .val (.int (v0_30_l8 p0 p1)), .val (.int (v0_37_s0 p0 p3 p5)), .val (.int (p2 &&& (15 : Int32))), .val (.int (p4 &&& (15 : Int32))), .val (.ref b198), .val (.int (v0_205_s0 p0 p3 p4 p5)), .val (.int (v0_153_l14 p0 p3 p5)), .val (.int (v0_160_l15 p4)), .val (.int (v0_166_s0 p0 p3 p4 p5)), .val (.int (v0_222_l17 p0 p3 p4 p5))] [(.int (v5_ret (v0_37_s0 p0 p3 p5) (v0_7_l6 p0)))])) t) => k279 t (st280.trans kk)
        have k284 := fun (t : State) (kk : Steps p.tables e below (T280.setTop (mkF m 255 #[.val (.int p0), .val (.int p1), .val (.int p2), .val (.int p3), .val (.int p4), .val (.int p5), .val (.int (v0_7_l6 p0)), .val (.int (v0_17_l7 p0)), .val (.int (v0_30_l8 p0 p1)), .val (.int (v0_37_s0 p0 p3 p5)), .val (.int (p2 &&& (15 : Int32))), .val (.int (p4 &&& (15 : Int32))), .val (.ref b198), .val (.int (v0_243_s0 p0 p3 p5)), .val (.int (v0_153_l14 p0 p3 p5)), .val (.int (v0_160_l15 p4)), .val (.int (v0_166_s0 p0 p3 p4 p5)), .val (.int (v0_222_l17 p0 p3 p4 p5))] [(.int (v0_243_s0 p0 p3 p5))])) t) => k281 t (by
          show Steps p.tables e below (T280.setTop (mkF m 241 #[.val (.int p0), .val (.int p1), .val (.int p2), .val (.int p3), .val (.int p4), .val (.int p5), .val (.int (v0_7_l6 p0)), .val (.int (v0_17_l7 p0)), .val (.int (v0_30_l8 p0 p1)), .val (.int (v0_37_s0 p0 p3 p5)), .val (.int (p2 &&& (15 : Int32))), .val (.int (p4 &&& (15 : Int32))), .val (.ref b198), .val (.int (v0_205_s0 p0 p3 p4 p5)), .val (.int (v0_153_l14 p0 p3 p5)), .val (.int (v0_160_l15 p4)), .val (.int (v0_166_s0 p0 p3 p4 p5)), .val (.int (v0_222_l17 p0 p3 p4 p5))] [(.int (v5_ret (v0_37_s0 p0 p3 p5) (v0_7_l6 p0)))])) _
          refine XS.iload X280.here hx rfl (hb hby at_241) rfl ?_
          suffices k283 : Steps p.tables e below (T280.setTop (mkF m 251 #[.val (.int p0), .val (.int p1), .val (.int p2), .val (.int p3), .val (.int p4), .val (.int p5), .val (.int (v0_7_l6 p0)), .val (.int (v0_17_l7 p0)), .val (.int (v0_30_l8 p0 p1)), .val (.int (v0_37_s0 p0 p3 p5)), .val (.int (p2 &&& (15 : Int32))), .val (.int (p4 &&& (15 : Int32))), .val (.ref b198), .val (.int (v0_205_s0 p0 p3 p4 p5)), .val (.int (v0_153_l14 p0 p3 p5)), .val (.int (v0_160_l15 p4)), .val (.int (v0_166_s0 p0 p3 p4 p5)), .val (.int (v0_222_l17 p0 p3 p4 p5))] [(.int (v0_243_s0 p0 p3 p5))])) t by
            by_cases hc243_282 : (v5_ret (v0_37_s0 p0 p3 p5) (v0_7_l6 p0)) = (v0_153_l14 p0 p3 p5)
            · rw [(show (v0_243_s0 p0 p3 p5) = (1 : Int32) from if_pos hc243_282)] at k283
              show Steps p.tables e below (T280.setTop (mkF m 243 #[.val (.int p0), .val (.int p1), .val (.int p2), .val (.int p3), .val (.int p4), .val (.int p5), .val (.int (v0_7_l6 p0)), .val (.int (v0_17_l7 p0)), .val (.int (v0_30_l8 p0 p1)), .val (.int (v0_37_s0 p0 p3 p5)), .val (.int (p2 &&& (15 : Int32))), .val (.int (p4 &&& (15 : Int32))), .val (.ref b198), .val (.int (v0_205_s0 p0 p3 p4 p5)), .val (.int (v0_153_l14 p0 p3 p5)), .val (.int (v0_160_l15 p4)), .val (.int (v0_166_s0 p0 p3 p4 p5)), .val (.int (v0_222_l17 p0 p3 p4 p5))] [(.int (v0_153_l14 p0 p3 p5)), (.int (v5_ret (v0_37_s0 p0 p3 p5) (v0_7_l6 p0)))])) _
              refine XS.icmpNo X280.here hx rfl (hb hby at_243) rfl (teq hc243_282).2 ?_
              show Steps p.tables e below (T280.setTop (mkF m 246 #[.val (.int p0), .val (.int p1), .val (.int p2), .val (.int p3), .val (.int p4), .val (.int p5), .val (.int (v0_7_l6 p0)), .val (.int (v0_17_l7 p0)), .val (.int (v0_30_l8 p0 p1)), .val (.int (v0_37_s0 p0 p3 p5)), .val (.int (p2 &&& (15 : Int32))), .val (.int (p4 &&& (15 : Int32))), .val (.ref b198), .val (.int (v0_205_s0 p0 p3 p4 p5)), .val (.int (v0_153_l14 p0 p3 p5)), .val (.int (v0_160_l15 p4)), .val (.int (v0_166_s0 p0 p3 p4 p5)), .val (.int (v0_222_l17 p0 p3 p4 p5))] [])) _
              refine XS.iconst X280.here hx rfl (hb hby at_246) ?_
              show Steps p.tables e below (T280.setTop (mkF m 247 #[.val (.int p0), .val (.int p1), .val (.int p2), .val (.int p3), .val (.int p4), .val (.int p5), .val (.int (v0_7_l6 p0)), .val (.int (v0_17_l7 p0)), .val (.int (v0_30_l8 p0 p1)), .val (.int (v0_37_s0 p0 p3 p5)), .val (.int (p2 &&& (15 : Int32))), .val (.int (p4 &&& (15 : Int32))), .val (.ref b198), .val (.int (v0_205_s0 p0 p3 p4 p5)), .val (.int (v0_153_l14 p0 p3 p5)), .val (.int (v0_160_l15 p4)), .val (.int (v0_166_s0 p0 p3 p4 p5)), .val (.int (v0_222_l17 p0 p3 p4 p5))] [(.int (1 : Int32))])) _
              refine XS.goto X280.here hx rfl (pc0 := 247) (pc' := 251) rfl (hb hby at_247) (by decide) (by decide) ?_
              exact k283
            · rw [(show (v0_243_s0 p0 p3 p5) = (0 : Int32) from if_neg hc243_282)] at k283
              show Steps p.tables e below (T280.setTop (mkF m 243 #[.val (.int p0), .val (.int p1), .val (.int p2), .val (.int p3), .val (.int p4), .val (.int p5), .val (.int (v0_7_l6 p0)), .val (.int (v0_17_l7 p0)), .val (.int (v0_30_l8 p0 p1)), .val (.int (v0_37_s0 p0 p3 p5)), .val (.int (p2 &&& (15 : Int32))), .val (.int (p4 &&& (15 : Int32))), .val (.ref b198), .val (.int (v0_205_s0 p0 p3 p4 p5)), .val (.int (v0_153_l14 p0 p3 p5)), .val (.int (v0_160_l15 p4)), .val (.int (v0_166_s0 p0 p3 p4 p5)), .val (.int (v0_222_l17 p0 p3 p4 p5))] [(.int (v0_153_l14 p0 p3 p5)), (.int (v5_ret (v0_37_s0 p0 p3 p5) (v0_7_l6 p0)))])) _
              refine XS.icmpYes X280.here hx rfl (pc0 := 243) (pc' := 250) rfl (hb hby at_243) rfl (feq hc243_282).2 (by decide) (by decide) ?_
              show Steps p.tables e below (T280.setTop (mkF m 250 #[.val (.int p0), .val (.int p1), .val (.int p2), .val (.int p3), .val (.int p4), .val (.int p5), .val (.int (v0_7_l6 p0)), .val (.int (v0_17_l7 p0)), .val (.int (v0_30_l8 p0 p1)), .val (.int (v0_37_s0 p0 p3 p5)), .val (.int (p2 &&& (15 : Int32))), .val (.int (p4 &&& (15 : Int32))), .val (.ref b198), .val (.int (v0_205_s0 p0 p3 p4 p5)), .val (.int (v0_153_l14 p0 p3 p5)), .val (.int (v0_160_l15 p4)), .val (.int (v0_166_s0 p0 p3 p4 p5)), .val (.int (v0_222_l17 p0 p3 p4 p5))] [])) _
              refine XS.iconst X280.here hx rfl (hb hby at_250) ?_
              exact k283
          show Steps p.tables e below (T280.setTop (mkF m 251 #[.val (.int p0), .val (.int p1), .val (.int p2), .val (.int p3), .val (.int p4), .val (.int p5), .val (.int (v0_7_l6 p0)), .val (.int (v0_17_l7 p0)), .val (.int (v0_30_l8 p0 p1)), .val (.int (v0_37_s0 p0 p3 p5)), .val (.int (p2 &&& (15 : Int32))), .val (.int (p4 &&& (15 : Int32))), .val (.ref b198), .val (.int (v0_205_s0 p0 p3 p4 p5)), .val (.int (v0_153_l14 p0 p3 p5)), .val (.int (v0_160_l15 p4)), .val (.int (v0_166_s0 p0 p3 p4 p5)), .val (.int (v0_222_l17 p0 p3 p4 p5))] [(.int (v0_243_s0 p0 p3 p5))])) _
          refine XS.istore X280.here hx rfl (hb hby at_251) rfl (l' := #[.val (.int p0), .val (.int p1), .val (.int p2), .val (.int p3), .val (.int p4), .val (.int p5), .val (.int (v0_7_l6 p0)), .val (.int (v0_17_l7 p0)), .val (.int (v0_30_l8 p0 p1)), .val (.int (v0_37_s0 p0 p3 p5)), .val (.int (p2 &&& (15 : Int32))), .val (.int (p4 &&& (15 : Int32))), .val (.ref b198), .val (.int (v0_243_s0 p0 p3 p5)), .val (.int (v0_153_l14 p0 p3 p5)), .val (.int (v0_160_l15 p4)), .val (.int (v0_166_s0 p0 p3 p4 p5)), .val (.int (v0_222_l17 p0 p3 p4 p5))]) rfl ?_
          show Steps p.tables e below (T280.setTop (mkF m 253 #[.val (.int p0), .val (.int p1), .val (.int p2), .val (.int p3), .val (.int p4), .val (.int p5), .val (.int (v0_7_l6 p0)), .val (.int (v0_17_l7 p0)), .val (.int (v0_30_l8 p0 p1)), .val (.int (v0_37_s0 p0 p3 p5)), .val (.int (p2 &&& (15 : Int32))), .val (.int (p4 &&& (15 : Int32))), .val (.ref b198), .val (.int (v0_243_s0 p0 p3 p5)), .val (.int (v0_153_l14 p0 p3 p5)), .val (.int (v0_160_l15 p4)), .val (.int (v0_166_s0 p0 p3 p4 p5)), .val (.int (v0_222_l17 p0 p3 p4 p5))] [])) _
          refine XS.iload X280.here hx rfl (hb hby at_253) rfl ?_
          exact kk)
        obtain ⟨fs, hr, hrun, hended, hW, hsame⟩ := X280.leave (v := some (.int (nar .boolean (v0_243_s0 p0 p3 p5)))) (fun h => by rw [Bd.returns] at h; cases h)
        have hv : (v0_ret p0 p3 p4 p5) = (nar .boolean (v0_243_s0 p0 p3 p5)) := ((if_neg hc226_275).trans (if_pos hc233_278))
        have hone : (nar .boolean (v0_243_s0 p0 p3 p5)) = 1 := hv.symm.trans (own_law p0 p1 p2 p3 p4 p5)
        refine ⟨_, _, k284 _ ?_, hrun, hended, _, _, rfl, ?_, ⟨_, rfl⟩, hW, hsame.mono (by decide) (by decide)⟩
        · show Steps p.tables e below (T280.setTop (mkF m 255 #[.val (.int p0), .val (.int p1), .val (.int p2), .val (.int p3), .val (.int p4), .val (.int p5), .val (.int (v0_7_l6 p0)), .val (.int (v0_17_l7 p0)), .val (.int (v0_30_l8 p0 p1)), .val (.int (v0_37_s0 p0 p3 p5)), .val (.int (p2 &&& (15 : Int32))), .val (.int (p4 &&& (15 : Int32))), .val (.ref b198), .val (.int (v0_243_s0 p0 p3 p5)), .val (.int (v0_153_l14 p0 p3 p5)), .val (.int (v0_160_l15 p4)), .val (.int (v0_166_s0 p0 p3 p4 p5)), .val (.int (v0_222_l17 p0 p3 p4 p5))] [(.int (v0_243_s0 p0 p3 p5))])) _
          exact retN X280 hx (t := .boolean) Bd.returns (by simp) (hb hby at_255) hr
        · show Q0 Z p0 p1 p2 p3 p4 p5 h0 n0 _ T280.heap _
          rw [e280]
          exact ⟨congrArg (fun z => some (Value.int z)) hone, N280⟩
      · have k285 := fun (t : State) (kk : Steps p.tables e below (T272.setTop (mkF m 255 #[.val (.int p0), .val (.int p1), .val (.int p2), .val (.int p3), .val (.int p4), .val (.int p5), .val (.int (v0_7_l6 p0)), .val (.int (v0_17_l7 p0)), .val (.int (v0_30_l8 p0 p1)), .val (.int (v0_37_s0 p0 p3 p5)), .val (.int (p2 &&& (15 : Int32))), .val (.int (p4 &&& (15 : Int32))), .val (.ref b198), .val (.int (0 : Int32)), .val (.int (v0_153_l14 p0 p3 p5)), .val (.int (v0_160_l15 p4)), .val (.int (v0_166_s0 p0 p3 p4 p5)), .val (.int (v0_222_l17 p0 p3 p4 p5))] [(.int (0 : Int32))])) t) => k277 t (by
          show Steps p.tables e below (T272.setTop (mkF m 233 #[.val (.int p0), .val (.int p1), .val (.int p2), .val (.int p3), .val (.int p4), .val (.int p5), .val (.int (v0_7_l6 p0)), .val (.int (v0_17_l7 p0)), .val (.int (v0_30_l8 p0 p1)), .val (.int (v0_37_s0 p0 p3 p5)), .val (.int (p2 &&& (15 : Int32))), .val (.int (p4 &&& (15 : Int32))), .val (.ref b198), .val (.int (v0_205_s0 p0 p3 p4 p5)), .val (.int (v0_153_l14 p0 p3 p5)), .val (.int (v0_160_l15 p4)), .val (.int (v0_166_s0 p0 p3 p4 p5)), .val (.int (v0_222_l17 p0 p3 p4 p5))] [(.int (v0_166_s0 p0 p3 p4 p5)), (.int (v0_222_l17 p0 p3 p4 p5))])) _
          refine XS.icmpYes X272.here hx rfl (pc0 := 233) (pc' := 250) rfl (hb hby at_233) rfl (feq hc233_278).2 (by decide) (by decide) ?_
          show Steps p.tables e below (T272.setTop (mkF m 250 #[.val (.int p0), .val (.int p1), .val (.int p2), .val (.int p3), .val (.int p4), .val (.int p5), .val (.int (v0_7_l6 p0)), .val (.int (v0_17_l7 p0)), .val (.int (v0_30_l8 p0 p1)), .val (.int (v0_37_s0 p0 p3 p5)), .val (.int (p2 &&& (15 : Int32))), .val (.int (p4 &&& (15 : Int32))), .val (.ref b198), .val (.int (v0_205_s0 p0 p3 p4 p5)), .val (.int (v0_153_l14 p0 p3 p5)), .val (.int (v0_160_l15 p4)), .val (.int (v0_166_s0 p0 p3 p4 p5)), .val (.int (v0_222_l17 p0 p3 p4 p5))] [])) _
          refine XS.iconst X272.here hx rfl (hb hby at_250) ?_
          show Steps p.tables e below (T272.setTop (mkF m 251 #[.val (.int p0), .val (.int p1), .val (.int p2), .val (.int p3), .val (.int p4), .val (.int p5), .val (.int (v0_7_l6 p0)), .val (.int (v0_17_l7 p0)), .val (.int (v0_30_l8 p0 p1)), .val (.int (v0_37_s0 p0 p3 p5)), .val (.int (p2 &&& (15 : Int32))), .val (.int (p4 &&& (15 : Int32))), .val (.ref b198), .val (.int (v0_205_s0 p0 p3 p4 p5)), .val (.int (v0_153_l14 p0 p3 p5)), .val (.int (v0_160_l15 p4)), .val (.int (v0_166_s0 p0 p3 p4 p5)), .val (.int (v0_222_l17 p0 p3 p4 p5))] [(.int (0 : Int32))])) _
          refine XS.istore X272.here hx rfl (hb hby at_251) rfl (l' := #[.val (.int p0), .val (.int p1), .val (.int p2), .val (.int p3), .val (.int p4), .val (.int p5), .val (.int (v0_7_l6 p0)), .val (.int (v0_17_l7 p0)), .val (.int (v0_30_l8 p0 p1)), .val (.int (v0_37_s0 p0 p3 p5)), .val (.int (p2 &&& (15 : Int32))), .val (.int (p4 &&& (15 : Int32))), .val (.ref b198), .val (.int (0 : Int32)), .val (.int (v0_153_l14 p0 p3 p5)), .val (.int (v0_160_l15 p4)), .val (.int (v0_166_s0 p0 p3 p4 p5)), .val (.int (v0_222_l17 p0 p3 p4 p5))]) rfl ?_
          show Steps p.tables e below (T272.setTop (mkF m 253 #[.val (.int p0), .val (.int p1), .val (.int p2), .val (.int p3), .val (.int p4), .val (.int p5), .val (.int (v0_7_l6 p0)), .val (.int (v0_17_l7 p0)), .val (.int (v0_30_l8 p0 p1)), .val (.int (v0_37_s0 p0 p3 p5)), .val (.int (p2 &&& (15 : Int32))), .val (.int (p4 &&& (15 : Int32))), .val (.ref b198), .val (.int (0 : Int32)), .val (.int (v0_153_l14 p0 p3 p5)), .val (.int (v0_160_l15 p4)), .val (.int (v0_166_s0 p0 p3 p4 p5)), .val (.int (v0_222_l17 p0 p3 p4 p5))] [])) _
          refine XS.iload X272.here hx rfl (hb hby at_253) rfl ?_
          exact kk)
        obtain ⟨fs, hr, hrun, hended, hW, hsame⟩ := X272.leave (v := some (.int (0 : Int32))) (fun h => by rw [Bd.returns] at h; cases h)
        have hv : (v0_ret p0 p3 p4 p5) = (0 : Int32) := ((if_neg hc226_275).trans (if_neg hc233_278))
        have hone : (0 : Int32) = 1 := hv.symm.trans (own_law p0 p1 p2 p3 p4 p5)
        exact absurd hone (by decide)
set_option maxRecDepth 65536 in
set_option maxHeartbeats 40000000 in
theorem comes_1 {Post : Tables → Env → Array Value → State → Outcome → State → Prop} (hpost : ∀ tb e args s v u, (limb_1_1.after args s (.returned v) u = true ∧ limb_1_2.after args s (.returned v) u = true ∧ True) → FrameEnd s (.returned v) u (Jvm.fieldLocs frame_1_writes args s ++ Jvm.arrayLocs frame_1_arrays args s ++ Jvm.staticLocs frame_1_statics s) 16 128 → Post tb e args s (.returned v) u) :
    ArmFor flags0 classFile x code maxLocals ret World_1 tables_1 room_1 Calls_1 rest_1 Pre_1 Post := by
  intro l hfl _ _ p e ha hc hk s m args below hf hA hF happ hP
  obtain ⟨hcalls, hrest, hpre⟩ := hP
  obtain ⟨-, -, -, hnamed, -, -, -, hat⟩ := (Spec.applies_iff hf).mp happ
  obtain ⟨hg, hn⟩ := and_e (Cond.before_iff.mp (show (Jvm.Cond.and given_1 narrow_1).before args s = true from hpre))
  obtain ⟨hcnt, hg0⟩ := and_e hg
  obtain ⟨ha0, hg1⟩ := and_e hg0
  obtain ⟨ha1, hg2⟩ := and_e hg1
  obtain ⟨ha2, hg3⟩ := and_e hg2
  obtain ⟨ha3, hg4⟩ := and_e hg3
  obtain ⟨ha4, hg5⟩ := and_e hg4
  have ha5 := hg5
  obtain ⟨w0, w1, w2, w3, w4, w5, rfl⟩ : ∃ w0 w1 w2 w3 w4 w5 : Value, args = #[w0, w1, w2, w3, w4, w5] := by
    have hs : args.size = 6 := by simpa [Cond.value, given_1] using hcnt
    obtain ⟨L⟩ := args
    match L, hs with
    | [w0, w1, w2, w3, w4, w5], _ => exact ⟨w0, w1, w2, w3, w4, w5, rfl⟩
  have hw := fun d (hd : d ∈ tables_1) => atoms_spec (ws := Jvm.Cond.code x code maxLocals ret :: tables_1) hat d (List.mem_cons_of_mem _ hd)
  have hfit : Fit s := fun {y c} hc i hi => by
    obtain ⟨ha, rfl⟩ := Array.getElem?_eq_some_iff.mp hc
    have q := List.all_eq_true.mp ((Array.all_eq_true_iff_forall_mem.mp hF) _ (Array.getElem_mem ha)) i (List.mem_range.mpr hi)
    simpa [Array.getElem?_eq_getElem hi] using q
  obtain ⟨p0, ea0⟩ := is_v ha0
  obtain rfl : w0 = (.int p0) := Option.some.inj ea0
  obtain ⟨p1, ea1⟩ := is_v ha1
  obtain rfl : w1 = (.int p1) := Option.some.inj ea1
  obtain ⟨p2, ea2⟩ := is_v ha2
  obtain rfl : w2 = (.int p2) := Option.some.inj ea2
  obtain ⟨p3, ea3⟩ := is_v ha3
  obtain rfl : w3 = (.int p3) := Option.some.inj ea3
  obtain ⟨p4, ea4⟩ := is_v ha4
  obtain rfl : w4 = (.int p4) := Option.some.inj ea4
  obtain ⟨p5, ea5⟩ := is_v ha5
  obtain rfl : w5 = (.int p5) := Option.some.inj ea5
  obtain ⟨n, o, h1, h2, h3, _, L, rfl, ⟨rfl, N⟩, hq⟩ := rm0 l s _ hw tables_1 p0 p1 p2 p3 p4 p5 s.heap s.heap.size (Nat.le_refl _)  p e ha hc hk s m _ below hf ((Spec.applies_iff_loose hf).mp happ).1 ⟨rfl, State.Warmed39.refl s, rfl⟩ trivial
  refine ⟨n, _, h1, h2, h3, hpost _ _ _ _ _ _ ⟨Cond.after_iff.mpr rfl, Cond.after_iff.mpr (eq_i res_at (Term.int_eval (1)) rfl), trivial⟩ ⟨hq.1, hq.2.1, (hq.2.2.sift fun y hy => Or.inr (N y hy)).mono (by decide) (by decide)⟩⟩
theorem main_1_1 : Claimed_1_1 := comes_1 fun _ _ _ _ _ _ h hF => ⟨h.1, hF⟩
theorem main_1_2 : Claimed_1_2 := comes_1 fun _ _ _ _ _ _ h hF => ⟨h.2.1, hF⟩
end Jvm.Pilot.@@N@@
namespace Jvm.Pilot.@@N@@
open Jvm Jvm.ClassFile Sem Op Lib Jvm.Free Jvm.Stand Jvm.Pilot.@@N@@.Jvm.D
/-! MADE BY PROGRAM (witnessworld.py) out of the Statement's table words and the real class files: 15 classes; the members and pool entries that the words name. The judged class is class 1, her method 2. -/
namespace start1
open Jvm.ClassFile
def u (s : String) : CpInfo := .utf8 (stringToUtf16 s)
/-- a pool by its gaps: so many unusable entries, then the entry; so many at the end -/
def gap : Nat → List CpInfo → List CpInfo
  | 0, r => r
  | n + 1, r => .unusable :: gap n r
def poolList (es : List (Nat × CpInfo)) (last : Nat) : List CpInfo := es.foldr (fun e r => gap e.1 (e.2 :: r)) (gap last [])
def pool (es : List (Nat × CpInfo)) (last : Nat) : Array CpInfo := ⟨poolList es last⟩
def fileOf (pool : Array CpInfo) (this : Nat) (attrs : Array Attribute := #[]) (ms : Array MethodInfo := #[]) (fl : Nat := 33) (sup : Nat := 0) (ifs : Array Nat := #[]) (fds : Array FieldInfo := #[]) : ClassFile where
  minorVersion := 0
  majorVersion := 65
  constantPool := pool
  accessFlags := fl
  thisClass := this
  superClass := sup
  interfaces := ifs
  fields := fds
  methods := ms
  attributes := attrs
def plain (name : String) (sup : Option ClassId) : Class where
  name := name
  kind := .ordinary
  loader := none
  accessFlags := 33
  super := sup
  interfaces := #[]
  cf := none
  fields := #[]
  methods := #[]
  instanceTypes := #[]
  staticTypes := #[]
  resolved := #[]
  callSites := []
  init := .initialized
  statics := none
  mirror := none

def pool0 : Array CpInfo := pool [(5, u "<init>"), (0, u "()V"), (1, .class_ 10), (1, u "java/lang/Object")] 113

def k0c0 : Code := { maxStack := 0, maxLocals := 1, code := object_method_1_code, exceptionTable := #[], attributes := #[] }
def k0m0 : Method := { name := "<init>", desc := "()V", sig := { parameters := [], returnType := none }, accessFlags := 1, code := some k0c0 }
/-- java/lang/Object -/
def k0 : Class := { plain "java/lang/Object" none with
  accessFlags := 33
  interfaces := #[]
  cf := some (fileOf pool0 8 #[] #[{ accessFlags := 1, nameIndex := 5, descriptorIndex := 6, attributes := #[] }] 33 0 #[] #[])
  fields := #[]
  methods := #[k0m0]
  instanceTypes := #[]
  staticTypes := #[]
  resolved := Array.replicate 124 none
  statics := none }

def pool1 : Array CpInfo := pool [(2, .class_ 4), (1, u "java/lang/Object"), (0, u "<init>"), (0, u "()V"), (0, .integer 32768), (0, .integer 65536), (0, .methodref 10 11), (0, .class_ 12), (0, .nameAndType 13 14), (0, u "java/lang/Math"), (0, u "min"), (0, u "(II)I"), (0, .integer 2147483647), (0, .class_ 17), (0, u "phrasebook/ZFormat$Layout"), (0, .methodref 16 19), (0, .nameAndType 5 20), (0, u "(I)V"), (0, .methodref 16 22), (0, .nameAndType 23 24), (0, u "place"), (0, u "(I)I"), (0, .methodref 16 26), (0, .nameAndType 27 20), (0, u "placeMore"), (0, .methodref 16 29), (0, .nameAndType 30 6), (0, u "endGroup"), (0, .methodref 16 32), (0, .nameAndType 33 6), (0, u "restart"), (0, .methodref 16 35), (0, .nameAndType 36 37), (0, u "width"), (0, u "()I"), (0, .methodref 39 40), (0, .class_ 41), (0, .nameAndType 42 14), (0, u "phrasebook/LayoutRestartPinLaw"), (0, u "widthOf"), (0, .methodref 16 44), (0, .nameAndType 45 24), (0, u "bitsFor"), (3, u "law"), (0, u "(IIIIII)Z")] 6

def k1m0 : Method := { name := "<init>", desc := "()V", sig := { parameters := [], returnType := none }, accessFlags := 1, code := none }
def k1c1 : Code := { maxStack := 2, maxLocals := 3, code := method_2_code, exceptionTable := #[], attributes := #[] }
def k1m1 : Method := { name := "widthOf", desc := "(II)I", sig := { parameters := [.int, .int], returnType := some .int }, accessFlags := 10, code := some k1c1 }
def k1c2 : Code := { maxStack := 3, maxLocals := 18, code := code, exceptionTable := #[], attributes := #[] }
def k1m2 : Method := { name := "law", desc := "(IIIIII)Z", sig := { parameters := [.int, .int, .int, .int, .int, .int], returnType := some .boolean }, accessFlags := 9, code := some k1c2 }
/-- phrasebook/LayoutRestartPinLaw -/
def k1 : Class := { plain "phrasebook/LayoutRestartPinLaw" (some 0) with
  accessFlags := 49
  interfaces := #[]
  cf := some (fileOf pool1 39 #[] #[{ accessFlags := 1, nameIndex := 5, descriptorIndex := 6, attributes := #[] }, { accessFlags := 10, nameIndex := 42, descriptorIndex := 14, attributes := #[] }, { accessFlags := 9, nameIndex := 49, descriptorIndex := 50, attributes := #[] }] 49 2 #[] #[])
  fields := #[]
  methods := #[k1m0, k1m1, k1m2]
  instanceTypes := #[]
  staticTypes := #[]
  resolved := Array.replicate 57 none
  statics := none }

def pool2 : Array CpInfo := pool [(1, .class_ 2), (0, u "phrasebook/ZFormat"), (0, .methodref 4 5), (0, .class_ 6), (0, .nameAndType 7 8), (0, u "java/lang/Object"), (0, u "<init>"), (0, u "()V"), (0, .fieldref 10 11), (0, .class_ 12), (0, .nameAndType 13 14), (0, u "phrasebook/ZFormat$Layout"), (0, u "maxBits"), (0, u "I"), (0, .methodref 10 16), (0, .nameAndType 17 8), (0, u "restart"), (0, .fieldref 10 19), (0, .nameAndType 20 14), (0, u "width"), (0, .fieldref 10 22), (0, .nameAndType 23 14), (0, u "codesInGroup"), (0, .fieldref 10 25), (0, .nameAndType 26 27), (0, u "groupEnded"), (0, u "Z"), (0, .methodref 10 29), (0, .nameAndType 30 31), (0, u "widthFor"), (0, u "(I)I"), (0, .methodref 10 33), (0, .nameAndType 34 35), (0, u "startsGroup"), (0, u "(I)Z"), (0, .methodref 10 37), (0, .nameAndType 38 39), (0, u "restOfGroup"), (0, u "()I"), (0, .class_ 41), (0, u "java/lang/Integer"), (0, .methodref 40 43), (0, .nameAndType 44 31), (0, u "numberOfLeadingZeros"), (0, .methodref 46 47), (0, .class_ 48), (0, .nameAndType 49 50), (0, u "java/lang/Math"), (0, u "min"), (0, u "(II)I"), (0, u "(I)V"), (2, u "place"), (1, u "bitsFor"), (0, u "placeMore"), (0, u "endGroup")] 5

def k2c0 : Code := { maxStack := 2, maxLocals := 2, code := prog_49_method_1_code, exceptionTable := #[], attributes := #[] }
def k2m0 : Method := { name := "<init>", desc := "(I)V", sig := { parameters := [.int], returnType := none }, accessFlags := 0, code := some k2c0 }
def k2c1 : Code := { maxStack := 2, maxLocals := 1, code := prog_49_method_2_code, exceptionTable := #[], attributes := #[] }
def k2m1 : Method := { name := "restart", desc := "()V", sig := { parameters := [], returnType := none }, accessFlags := 0, code := some k2c1 }
def k2c2 : Code := { maxStack := 3, maxLocals := 4, code := prog_49_method_3_code, exceptionTable := #[], attributes := #[] }
def k2m2 : Method := { name := "place", desc := "(I)I", sig := { parameters := [.int], returnType := some .int }, accessFlags := 0, code := some k2c2 }
def k2c3 : Code := { maxStack := 2, maxLocals := 3, code := prog_49_method_4_code, exceptionTable := #[], attributes := #[] }
def k2m3 : Method := { name := "bitsFor", desc := "(I)I", sig := { parameters := [.int], returnType := some .int }, accessFlags := 0, code := some k2c3 }
def k2c4 : Code := { maxStack := 3, maxLocals := 2, code := prog_49_method_5_code, exceptionTable := #[], attributes := #[] }
def k2m4 : Method := { name := "placeMore", desc := "(I)V", sig := { parameters := [.int], returnType := none }, accessFlags := 0, code := some k2c4 }
def k2c5 : Code := { maxStack := 1, maxLocals := 1, code := prog_49_method_6_code, exceptionTable := #[], attributes := #[] }
def k2m5 : Method := { name := "width", desc := "()I", sig := { parameters := [], returnType := some .int }, accessFlags := 0, code := some k2c5 }
def k2c6 : Code := { maxStack := 2, maxLocals := 1, code := prog_49_method_7_code, exceptionTable := #[], attributes := #[] }
def k2m6 : Method := { name := "endGroup", desc := "()V", sig := { parameters := [], returnType := none }, accessFlags := 0, code := some k2c6 }
def k2c7 : Code := { maxStack := 2, maxLocals := 2, code := prog_49_method_8_code, exceptionTable := #[], attributes := #[] }
def k2m7 : Method := { name := "startsGroup", desc := "(I)Z", sig := { parameters := [.int], returnType := some .boolean }, accessFlags := 2, code := some k2c7 }
def k2c8 : Code := { maxStack := 2, maxLocals := 1, code := prog_49_method_9_code, exceptionTable := #[], attributes := #[] }
def k2m8 : Method := { name := "restOfGroup", desc := "()I", sig := { parameters := [], returnType := some .int }, accessFlags := 2, code := some k2c8 }
def k2c9 : Code := { maxStack := 2, maxLocals := 3, code := prog_49_method_10_code, exceptionTable := #[], attributes := #[] }
def k2m9 : Method := { name := "widthFor", desc := "(I)I", sig := { parameters := [.int], returnType := some .int }, accessFlags := 2, code := some k2c9 }
/-- phrasebook/ZFormat$Layout -/
def k2 : Class := { plain "phrasebook/ZFormat$Layout" (some 0) with
  accessFlags := 48
  interfaces := #[]
  cf := some (fileOf pool2 10 #[.nestHost 1] #[{ accessFlags := 0, nameIndex := 7, descriptorIndex := 51, attributes := #[] }, { accessFlags := 0, nameIndex := 17, descriptorIndex := 8, attributes := #[] }, { accessFlags := 0, nameIndex := 54, descriptorIndex := 31, attributes := #[] }, { accessFlags := 0, nameIndex := 56, descriptorIndex := 31, attributes := #[] }, { accessFlags := 0, nameIndex := 57, descriptorIndex := 51, attributes := #[] }, { accessFlags := 0, nameIndex := 20, descriptorIndex := 39, attributes := #[] }, { accessFlags := 0, nameIndex := 58, descriptorIndex := 8, attributes := #[] }, { accessFlags := 2, nameIndex := 34, descriptorIndex := 35, attributes := #[] }, { accessFlags := 2, nameIndex := 38, descriptorIndex := 39, attributes := #[] }, { accessFlags := 2, nameIndex := 30, descriptorIndex := 31, attributes := #[] }] 48 4 #[] #[{ accessFlags := 18, nameIndex := 13, descriptorIndex := 14, attributes := #[] }, { accessFlags := 2, nameIndex := 20, descriptorIndex := 14, attributes := #[] }, { accessFlags := 2, nameIndex := 23, descriptorIndex := 14, attributes := #[] }, { accessFlags := 2, nameIndex := 26, descriptorIndex := 27, attributes := #[] }])
  fields := #[{ name := "maxBits", type := .int, accessFlags := 18, slot := 0, constantValue := 0 }, { name := "width", type := .int, accessFlags := 2, slot := 1, constantValue := 0 }, { name := "codesInGroup", type := .int, accessFlags := 2, slot := 2, constantValue := 0 }, { name := "groupEnded", type := .boolean, accessFlags := 2, slot := 3, constantValue := 0 }]
  methods := #[k2m0, k2m1, k2m2, k2m3, k2m4, k2m5, k2m6, k2m7, k2m8, k2m9]
  instanceTypes := #[.int, .int, .int, .boolean]
  staticTypes := #[]
  resolved := Array.replicate 64 none
  statics := none }

def pool3 : Array CpInfo := pool [(1, .class_ 2), (0, u "java/io/Serializable"), (0, .class_ 4), (0, u "java/lang/Object")] 2

/-- java/io/Serializable -/
def k3 : Class := { plain "java/io/Serializable" (some 0) with
  accessFlags := 1537
  interfaces := #[]
  cf := some (fileOf pool3 1 #[] #[] 1537 3 #[] #[])
  fields := #[]
  methods := #[]
  instanceTypes := #[]
  staticTypes := #[]
  resolved := Array.replicate 7 none
  statics := none }

def pool4 : Array CpInfo := pool [(2, .class_ 4), (1, u "java/lang/Object"), (0, u "<init>"), (0, u "()V"), (1, .class_ 10), (1, u "java/lang/Number"), (2, .class_ 14), (0, u "java/io/Serializable"), (0, u "serialVersionUID"), (0, u "J")] 20

def k4m0 : Method := { name := "<init>", desc := "()V", sig := { parameters := [], returnType := none }, accessFlags := 1, code := none }
/-- java/lang/Number -/
def k4 : Class := { plain "java/lang/Number" (some 0) with
  accessFlags := 1057
  interfaces := #[3]
  cf := some (fileOf pool4 8 #[] #[{ accessFlags := 1, nameIndex := 5, descriptorIndex := 6, attributes := #[] }] 1057 2 #[13] #[{ accessFlags := 26, nameIndex := 15, descriptorIndex := 16, attributes := #[] }])
  fields := #[{ name := "serialVersionUID", type := .long, accessFlags := 26, slot := 0, constantValue := 0 }]
  methods := #[k4m0]
  instanceTypes := #[]
  staticTypes := #[.long]
  resolved := Array.replicate 37 none
  statics := none }

def pool5 : Array CpInfo := pool [(1, .class_ 2), (0, u "java/lang/Comparable"), (0, .class_ 4), (0, u "java/lang/Object")] 7

/-- java/lang/Comparable -/
def k5 : Class := { plain "java/lang/Comparable" (some 0) with
  accessFlags := 1537
  interfaces := #[]
  cf := some (fileOf pool5 1 #[] #[] 1537 3 #[] #[])
  fields := #[]
  methods := #[]
  instanceTypes := #[]
  staticTypes := #[]
  resolved := Array.replicate 12 none
  statics := none }

def pool6 : Array CpInfo := pool [(1, .class_ 2), (0, u "java/lang/constant/Constable"), (0, .class_ 4), (0, u "java/lang/Object")] 6

/-- java/lang/constant/Constable -/
def k6 : Class := { plain "java/lang/constant/Constable" (some 0) with
  accessFlags := 1537
  interfaces := #[]
  cf := some (fileOf pool6 1 #[] #[] 1537 3 #[] #[])
  fields := #[]
  methods := #[]
  instanceTypes := #[]
  staticTypes := #[]
  resolved := Array.replicate 11 none
  statics := none }

def pool7 : Array CpInfo := pool [(1, .class_ 2), (0, u "java/lang/constant/ConstantDesc"), (0, .class_ 4), (0, u "java/lang/Object")] 32

/-- java/lang/constant/ConstantDesc -/
def k7 : Class := { plain "java/lang/constant/ConstantDesc" (some 0) with
  accessFlags := 1537
  interfaces := #[]
  cf := some (fileOf pool7 1 #[] #[] 1537 3 #[] #[])
  fields := #[]
  methods := #[]
  instanceTypes := #[]
  staticTypes := #[]
  resolved := Array.replicate 37 none
  statics := none }

def pool8 : Array CpInfo := pool [(1, .class_ 2), (0, u "java/lang/Integer"), (16, u "digits"), (0, u "[C"), (32, u "numberOfLeadingZeros"), (0, u "(I)I"), (30, u "DigitOnes"), (0, u "[B"), (2, u "DigitTens"), (99, .class_ 190), (0, u "java/lang/Integer$IntegerCache"), (3, u "I"), (8, .class_ 204), (0, u "java/lang/Number"), (2, u "value"), (56, .integer 65536), (37, u "TYPE"), (0, u "Ljava/lang/Class;"), (0, .class_ 305), (0, u "java/lang/Comparable"), (0, .class_ 307), (0, u "java/lang/constant/Constable"), (0, .class_ 309), (0, u "java/lang/constant/ConstantDesc"), (0, u "MIN_VALUE"), (1, u "MAX_VALUE"), (3, u "SIZE"), (1, u "BYTES"), (1, u "serialVersionUID"), (0, u "J")] 131

def k8c0 : Code := { maxStack := 3, maxLocals := 2, code := jdk_33_method_47_code, exceptionTable := #[], attributes := #[] }
def k8m0 : Method := { name := "numberOfLeadingZeros", desc := "(I)I", sig := { parameters := [.int], returnType := some .int }, accessFlags := 9, code := some k8c0 }
/-- java/lang/Integer -/
def k8 : Class := { plain "java/lang/Integer" (some 4) with
  accessFlags := 49
  interfaces := #[5, 6, 7]
  cf := some (fileOf pool8 1 #[.nestMembers #[189]] #[{ accessFlags := 9, nameIndex := 53, descriptorIndex := 54, attributes := #[] }] 49 203 #[304, 306, 308] #[{ accessFlags := 25, nameIndex := 310, descriptorIndex := 194, attributes := #[] }, { accessFlags := 25, nameIndex := 312, descriptorIndex := 194, attributes := #[] }, { accessFlags := 25, nameIndex := 302, descriptorIndex := 303, attributes := #[] }, { accessFlags := 24, nameIndex := 19, descriptorIndex := 20, attributes := #[] }, { accessFlags := 24, nameIndex := 89, descriptorIndex := 86, attributes := #[] }, { accessFlags := 24, nameIndex := 85, descriptorIndex := 86, attributes := #[] }, { accessFlags := 18, nameIndex := 207, descriptorIndex := 194, attributes := #[] }, { accessFlags := 25, nameIndex := 316, descriptorIndex := 194, attributes := #[] }, { accessFlags := 25, nameIndex := 318, descriptorIndex := 194, attributes := #[] }, { accessFlags := 26, nameIndex := 320, descriptorIndex := 321, attributes := #[] }])
  fields := #[{ name := "MIN_VALUE", type := .int, accessFlags := 25, slot := 0, constantValue := 0 }, { name := "MAX_VALUE", type := .int, accessFlags := 25, slot := 1, constantValue := 0 }, { name := "TYPE", type := (.object "java/lang/Class"), accessFlags := 25, slot := 2, constantValue := 0 }, { name := "digits", type := (.array .char), accessFlags := 24, slot := 3, constantValue := 0 }, { name := "DigitTens", type := (.array .byte), accessFlags := 24, slot := 4, constantValue := 0 }, { name := "DigitOnes", type := (.array .byte), accessFlags := 24, slot := 5, constantValue := 0 }, { name := "value", type := .int, accessFlags := 18, slot := 0, constantValue := 0 }, { name := "SIZE", type := .int, accessFlags := 25, slot := 6, constantValue := 0 }, { name := "BYTES", type := .int, accessFlags := 25, slot := 7, constantValue := 0 }, { name := "serialVersionUID", type := .long, accessFlags := 26, slot := 8, constantValue := 0 }]
  methods := #[k8m0]
  instanceTypes := #[.int]
  staticTypes := #[.int, .int, (.object "java/lang/Class"), (.array .char), (.array .byte), (.array .byte), .int, .int, .long]
  resolved := Array.replicate 453 none
  statics := none }

def pool9 : Array CpInfo := pool [(1, .class_ 2), (0, u "java/lang/Math"), (1, .class_ 6), (1, u "java/lang/Object"), (0, u "<init>"), (0, u "()V"), (89, .class_ 100), (1, u "java/lang/Math$RandomNumberGeneratorHolder"), (71, u "negativeZeroFloatBits"), (0, u "J"), (2, u "negativeZeroDoubleBits"), (24, u "min"), (43, u "$assertionsDisabled"), (0, u "Z"), (88, u "(II)I"), (2, u "twoToTheDoubleScaleDown"), (0, u "D"), (4, u "twoToTheDoubleScaleUp"), (9, u "E"), (3, u "PI"), (2, u "TAU"), (2, u "DEGREES_TO_RADIANS"), (0, u "RADIANS_TO_DEGREES")] 94

def k9m0 : Method := { name := "<init>", desc := "()V", sig := { parameters := [], returnType := none }, accessFlags := 2, code := none }
def k9c1 : Code := { maxStack := 2, maxLocals := 2, code := jdk_29_method_69_code, exceptionTable := #[], attributes := #[] }
def k9m1 : Method := { name := "min", desc := "(II)I", sig := { parameters := [.int, .int], returnType := some .int }, accessFlags := 9, code := some k9c1 }
/-- java/lang/Math -/
def k9 : Class := { plain "java/lang/Math" (some 0) with
  accessFlags := 49
  interfaces := #[]
  cf := some (fileOf pool9 1 #[.nestMembers #[98]] #[{ accessFlags := 2, nameIndex := 7, descriptorIndex := 8, attributes := #[] }, { accessFlags := 9, nameIndex := 201, descriptorIndex := 335, attributes := #[] }] 49 4 #[] #[{ accessFlags := 25, nameIndex := 354, descriptorIndex := 339, attributes := #[] }, { accessFlags := 25, nameIndex := 358, descriptorIndex := 339, attributes := #[] }, { accessFlags := 25, nameIndex := 361, descriptorIndex := 339, attributes := #[] }, { accessFlags := 26, nameIndex := 364, descriptorIndex := 339, attributes := #[] }, { accessFlags := 26, nameIndex := 365, descriptorIndex := 339, attributes := #[] }, { accessFlags := 26, nameIndex := 172, descriptorIndex := 173, attributes := #[] }, { accessFlags := 26, nameIndex := 176, descriptorIndex := 173, attributes := #[] }, { accessFlags := 8, nameIndex := 344, descriptorIndex := 339, attributes := #[] }, { accessFlags := 8, nameIndex := 338, descriptorIndex := 339, attributes := #[] }, { accessFlags := 4120, nameIndex := 245, descriptorIndex := 246, attributes := #[] }])
  fields := #[{ name := "E", type := .double, accessFlags := 25, slot := 0, constantValue := 0 }, { name := "PI", type := .double, accessFlags := 25, slot := 1, constantValue := 0 }, { name := "TAU", type := .double, accessFlags := 25, slot := 2, constantValue := 0 }, { name := "DEGREES_TO_RADIANS", type := .double, accessFlags := 26, slot := 3, constantValue := 0 }, { name := "RADIANS_TO_DEGREES", type := .double, accessFlags := 26, slot := 4, constantValue := 0 }, { name := "negativeZeroFloatBits", type := .long, accessFlags := 26, slot := 5, constantValue := 0 }, { name := "negativeZeroDoubleBits", type := .long, accessFlags := 26, slot := 6, constantValue := 0 }, { name := "twoToTheDoubleScaleUp", type := .double, accessFlags := 8, slot := 7, constantValue := 0 }, { name := "twoToTheDoubleScaleDown", type := .double, accessFlags := 8, slot := 8, constantValue := 0 }, { name := "$assertionsDisabled", type := .boolean, accessFlags := 4120, slot := 9, constantValue := 0 }]
  methods := #[k9m0, k9m1]
  instanceTypes := #[]
  staticTypes := #[.double, .double, .double, .double, .double, .long, .long, .double, .double, .boolean]
  resolved := Array.replicate 460 none
  statics := none }

def pool10 : Array CpInfo := pool [(1, u "java/lang/Cloneable"), (0, .class_ 1), (0, u "java/lang/Object"), (0, .class_ 3)] 3

/-- java/lang/Cloneable -/
def k10 : Class := { plain "java/lang/Cloneable" (some 0) with
  accessFlags := 1537
  interfaces := #[]
  cf := some (fileOf pool10 2 #[] #[] 1537 4 #[] #[])
  fields := #[]
  methods := #[]
  instanceTypes := #[]
  staticTypes := #[]
  resolved := Array.replicate 8 none
  statics := none }

/-- the primitive byte -/
def k11 : Class := { plain "byte" none with kind := .primitive 'B', accessFlags := 0x411 }
/-- [B -/
def k12 : Class := { plain "[B" (some 0) with kind := .array 11 .byte, interfaces := #[10, 3], accessFlags := 1041 }

/-- the primitive int -/
def k13 : Class := { plain "int" none with kind := .primitive 'I', accessFlags := 0x411 }
/-- [I -/
def k14 : Class := { plain "[I" (some 0) with kind := .array 13 .int, interfaces := #[10, 3], accessFlags := 1041 }

def heap : Heap := #[]
def classes : Array Class := #[k0, k1, k2, k3, k4, k5, k6, k7, k8, k9, k10, k11, k12, k13, k14]
def interned : List (Array UInt16 × Addr) := []
def slotsUsed : Nat := 0
def theMethod : MethodId := ⟨1, 2⟩
def args0 : Array Value := #[.int 1, .int 2, .int 3, .int 4, .int 5, .int 6]
def aboutOver (below : List Frame) : State where
  vm := { classes := classes, interned := interned.toArray }
  heap := heap
  slotsUsed := slotsUsed
  threads := #[{ frames := .invoking theMethod args0 :: below }]
def below0 : List Frame := [.native { method := ⟨0, 0⟩, args := #[] }]
def about1 : State := aboutOver below0
def p0 : Program := .bare "" "" ""
def e0 : Env := launch0.env 0 0 0
theorem w_frames : about1.frames = Frame.invoking theMethod args0 :: below0 := rfl
set_option maxRecDepth 65536 in
theorem w_args : argsFit about1.vm theMethod args0 = true := by decide +kernel
set_option maxRecDepth 65536 in
theorem w_heap : heapFits about1 = true := by decide +kernel
set_option maxRecDepth 65536 in
theorem w_runnable : about1.curStatus? = some .runnable := by decide +kernel
set_option maxRecDepth 65536 in
theorem w_alone : about1.alone = true := by decide +kernel
set_option maxRecDepth 65536 in
theorem w_named : about1.methodNamed? x = some theMethod := by decide +kernel
set_option maxRecDepth 65536 in
theorem w_hears : about1.hears theMethod below0 = true := by decide +kernel
set_option maxRecDepth 65536 in
theorem w_ripe : about1.ripe theMethod args0 below0 = true := by decide +kernel
theorem w_running : about1.status = .running := rfl
set_option maxRecDepth 65536 in
theorem w_room : about1.hasRoom e0.platform room_1 = true :=
  launch0.hasRoom_least _ room_1 (by decide +kernel) (by decide +kernel) (by decide +kernel) (by decide +kernel) (by decide +kernel) (by decide +kernel)
theorem allAtoms_all (ts : List Jvm.Cond) (a : Array Jvm.Value) (st : Jvm.State) : (allAtoms ts).before a st = ts.all (fun c => c.before a st) := by
  induction ts with
  | nil => rfl
  | cons c t ih =>
    show (Jvm.Cond.and c (allAtoms t)).before a st = _
    rw [Jvm.Cond.before_and, ih, List.all_cons]
def words1 : List Jvm.Cond := Jvm.Cond.code x code maxLocals ret :: tables_1
/-- a 'code' word, met by the world's own term for the bytes: nothing is compared byte by byte -/
theorem code_word {y : MethodName} {bytes : ByteArray} {mx : Nat} {rt : Option FieldType} {a : Array Value} {s : State} {m : MethodId} {meth : Method} {c : Code} (h1 : s.methodNamed? y = some m) (h2 : s.vm.method? m = some meth) (h3 : meth.code = some c) (h4 : c.code = bytes)
    (h5 : (c.maxLocals == mx && c.exceptionTable.isEmpty && decide (c.maxStack ≤ mostOperands) && decide (meth.sig.returnType = rt) && !meth.locks && decide (parseMethodDescriptor y.desc = some meth.sig)) = true) : (Jvm.Cond.code y bytes mx rt).before a s = true := by
  simp only [Bool.and_eq_true, beq_iff_eq, Bool.not_eq_true', decide_eq_true_eq] at h5
  obtain ⟨⟨⟨⟨⟨g1, g2⟩, g3⟩, g4⟩, g5⟩, g6⟩ := h5
  simp [Cond.before, Cond.holds, Cond.value, h1, h2, h3, h4, g1, g2, g3, g4, g5, g6]
def isCode : Jvm.Cond → Bool
  | .code _ _ _ _ => true
  | _ => false
theorem all_split {L : List Jvm.Cond} {P : Jvm.Cond → Bool} (h1 : L.all (fun c => isCode c || P c) = true) (h2 : ∀ c ∈ L.filter isCode, P c = true) : L.all P = true := by
  refine List.all_eq_true.mpr fun c hc => ?_
  have h := List.all_eq_true.mp h1 c hc
  rcases Bool.eq_false_or_eq_true (isCode c) with hi | hi
  · exact h2 c (List.mem_filter.mpr ⟨hc, hi⟩)
  · simpa [hi] using h
set_option maxRecDepth 65536 in
theorem w_c0 : (Jvm.Cond.code x code maxLocals ret).before args0 about1 = true := code_word (m := ⟨1, 2⟩) (meth := k1m2) (c := k1c2) (by decide +kernel) rfl rfl rfl (by decide +kernel)
set_option maxRecDepth 65536 in
theorem w_c1 : (Jvm.Cond.code ({ cls := "phrasebook/ZFormat$Layout", name := "<init>", desc := "(I)V" } : Jvm.MethodName) prog_49_method_1_code (2 : Nat) (Option.none : Option Jvm.ClassFile.FieldType)).before args0 about1 = true := code_word (m := ⟨2, 0⟩) (meth := k2m0) (c := k2c0) (by decide +kernel) rfl rfl rfl (by decide +kernel)
set_option maxRecDepth 65536 in
theorem w_c2 : (Jvm.Cond.code ({ cls := "java/lang/Object", name := "<init>", desc := "()V" } : Jvm.MethodName) object_method_1_code (1 : Nat) (Option.none : Option Jvm.ClassFile.FieldType)).before args0 about1 = true := code_word (m := ⟨0, 0⟩) (meth := k0m0) (c := k0c0) (by decide +kernel) rfl rfl rfl (by decide +kernel)
set_option maxRecDepth 65536 in
theorem w_c3 : (Jvm.Cond.code ({ cls := "phrasebook/ZFormat$Layout", name := "restart", desc := "()V" } : Jvm.MethodName) prog_49_method_2_code (1 : Nat) (Option.none : Option Jvm.ClassFile.FieldType)).before args0 about1 = true := code_word (m := ⟨2, 1⟩) (meth := k2m1) (c := k2c1) (by decide +kernel) rfl rfl rfl (by decide +kernel)
set_option maxRecDepth 65536 in
theorem w_c4 : (Jvm.Cond.code ({ cls := "phrasebook/ZFormat$Layout", name := "place", desc := "(I)I" } : Jvm.MethodName) prog_49_method_3_code (4 : Nat) (Option.some Jvm.ClassFile.FieldType.int)).before args0 about1 = true := code_word (m := ⟨2, 2⟩) (meth := k2m2) (c := k2c2) (by decide +kernel) rfl rfl rfl (by decide +kernel)
set_option maxRecDepth 65536 in
theorem w_c5 : (Jvm.Cond.code ({ cls := "phrasebook/ZFormat$Layout", name := "widthFor", desc := "(I)I" } : Jvm.MethodName) prog_49_method_10_code (3 : Nat) (Option.some Jvm.ClassFile.FieldType.int)).before args0 about1 = true := code_word (m := ⟨2, 9⟩) (meth := k2m9) (c := k2c9) (by decide +kernel) rfl rfl rfl (by decide +kernel)
set_option maxRecDepth 65536 in
theorem w_c6 : (Jvm.Cond.code ({ cls := "java/lang/Integer", name := "numberOfLeadingZeros", desc := "(I)I" } : Jvm.MethodName) jdk_33_method_47_code (2 : Nat) (Option.some Jvm.ClassFile.FieldType.int)).before args0 about1 = true := code_word (m := ⟨8, 0⟩) (meth := k8m0) (c := k8c0) (by decide +kernel) rfl rfl rfl (by decide +kernel)
set_option maxRecDepth 65536 in
theorem w_c7 : (Jvm.Cond.code ({ cls := "phrasebook/ZFormat$Layout", name := "startsGroup", desc := "(I)Z" } : Jvm.MethodName) prog_49_method_8_code (2 : Nat) (Option.some Jvm.ClassFile.FieldType.boolean)).before args0 about1 = true := code_word (m := ⟨2, 7⟩) (meth := k2m7) (c := k2c7) (by decide +kernel) rfl rfl rfl (by decide +kernel)
set_option maxRecDepth 65536 in
theorem w_c8 : (Jvm.Cond.code ({ cls := "phrasebook/ZFormat$Layout", name := "placeMore", desc := "(I)V" } : Jvm.MethodName) prog_49_method_5_code (2 : Nat) (Option.none : Option Jvm.ClassFile.FieldType)).before args0 about1 = true := code_word (m := ⟨2, 4⟩) (meth := k2m4) (c := k2c4) (by decide +kernel) rfl rfl rfl (by decide +kernel)
set_option maxRecDepth 65536 in
theorem w_c9 : (Jvm.Cond.code ({ cls := "phrasebook/ZFormat$Layout", name := "endGroup", desc := "()V" } : Jvm.MethodName) prog_49_method_7_code (1 : Nat) (Option.none : Option Jvm.ClassFile.FieldType)).before args0 about1 = true := code_word (m := ⟨2, 6⟩) (meth := k2m6) (c := k2c6) (by decide +kernel) rfl rfl rfl (by decide +kernel)
set_option maxRecDepth 65536 in
theorem w_c10 : (Jvm.Cond.code ({ cls := "phrasebook/ZFormat$Layout", name := "width", desc := "()I" } : Jvm.MethodName) prog_49_method_6_code (1 : Nat) (Option.some Jvm.ClassFile.FieldType.int)).before args0 about1 = true := code_word (m := ⟨2, 5⟩) (meth := k2m5) (c := k2c5) (by decide +kernel) rfl rfl rfl (by decide +kernel)
set_option maxRecDepth 65536 in
theorem w_c11 : (Jvm.Cond.code ({ cls := "phrasebook/LayoutRestartPinLaw", name := "widthOf", desc := "(II)I" } : Jvm.MethodName) method_2_code (3 : Nat) (Option.some Jvm.ClassFile.FieldType.int)).before args0 about1 = true := code_word (m := ⟨1, 1⟩) (meth := k1m1) (c := k1c1) (by decide +kernel) rfl rfl rfl (by decide +kernel)
set_option maxRecDepth 65536 in
theorem w_c12 : (Jvm.Cond.code ({ cls := "phrasebook/ZFormat$Layout", name := "bitsFor", desc := "(I)I" } : Jvm.MethodName) prog_49_method_4_code (3 : Nat) (Option.some Jvm.ClassFile.FieldType.int)).before args0 about1 = true := code_word (m := ⟨2, 3⟩) (meth := k2m3) (c := k2c3) (by decide +kernel) rfl rfl rfl (by decide +kernel)
set_option maxRecDepth 65536 in
theorem w_c13 : (Jvm.Cond.code ({ cls := "java/lang/Math", name := "min", desc := "(II)I" } : Jvm.MethodName) jdk_29_method_69_code (2 : Nat) (Option.some Jvm.ClassFile.FieldType.int)).before args0 about1 = true := code_word (m := ⟨9, 1⟩) (meth := k9m1) (c := k9c1) (by decide +kernel) rfl rfl rfl (by decide +kernel)
set_option maxRecDepth 65536 in
theorem w_c14 : (Jvm.Cond.code ({ cls := "phrasebook/ZFormat$Layout", name := "restOfGroup", desc := "()I" } : Jvm.MethodName) prog_49_method_9_code (1 : Nat) (Option.some Jvm.ClassFile.FieldType.int)).before args0 about1 = true := code_word (m := ⟨2, 8⟩) (meth := k2m8) (c := k2c8) (by decide +kernel) rfl rfl rfl (by decide +kernel)
def codes1 : List Jvm.Cond := [Jvm.Cond.code x code maxLocals ret, Jvm.Cond.code ({ cls := "phrasebook/ZFormat$Layout", name := "<init>", desc := "(I)V" } : Jvm.MethodName) prog_49_method_1_code (2 : Nat) (Option.none : Option Jvm.ClassFile.FieldType), Jvm.Cond.code ({ cls := "java/lang/Object", name := "<init>", desc := "()V" } : Jvm.MethodName) object_method_1_code (1 : Nat) (Option.none : Option Jvm.ClassFile.FieldType), Jvm.Cond.code ({ cls := "phrasebook/ZFormat$Layout", name := "restart", desc := "()V" } : Jvm.MethodName) prog_49_method_2_code (1 : Nat) (Option.none : Option Jvm.ClassFile.FieldType), Jvm.Cond.code ({ cls := "phrasebook/ZFormat$Layout", name := "place", desc := "(I)I" } : Jvm.MethodName) prog_49_method_3_code (4 : Nat) (Option.some Jvm.ClassFile.FieldType.int), Jvm.Cond.code ({ cls := "phrasebook/ZFormat$Layout", name := "widthFor", desc := "(I)I" } : Jvm.MethodName) prog_49_method_10_code (3 : Nat) (Option.some Jvm.ClassFile.FieldType.int), Jvm.Cond.code ({ cls := "java/lang/Integer", name := "numberOfLeadingZeros", desc := "(I)I" } : Jvm.MethodName) jdk_33_method_47_code (2 : Nat) (Option.some Jvm.ClassFile.FieldType.int), Jvm.Cond.code ({ cls := "phrasebook/ZFormat$Layout", name := "startsGroup", desc := "(I)Z" } : Jvm.MethodName) prog_49_method_8_code (2 : Nat) (Option.some Jvm.ClassFile.FieldType.boolean), Jvm.Cond.code ({ cls := "phrasebook/ZFormat$Layout", name := "placeMore", desc := "(I)V" } : Jvm.MethodName) prog_49_method_5_code (2 : Nat) (Option.none : Option Jvm.ClassFile.FieldType), Jvm.Cond.code ({ cls := "phrasebook/ZFormat$Layout", name := "endGroup", desc := "()V" } : Jvm.MethodName) prog_49_method_7_code (1 : Nat) (Option.none : Option Jvm.ClassFile.FieldType), Jvm.Cond.code ({ cls := "phrasebook/ZFormat$Layout", name := "width", desc := "()I" } : Jvm.MethodName) prog_49_method_6_code (1 : Nat) (Option.some Jvm.ClassFile.FieldType.int), Jvm.Cond.code ({ cls := "phrasebook/LayoutRestartPinLaw", name := "widthOf", desc := "(II)I" } : Jvm.MethodName) method_2_code (3 : Nat) (Option.some Jvm.ClassFile.FieldType.int), Jvm.Cond.code ({ cls := "phrasebook/ZFormat$Layout", name := "bitsFor", desc := "(I)I" } : Jvm.MethodName) prog_49_method_4_code (3 : Nat) (Option.some Jvm.ClassFile.FieldType.int), Jvm.Cond.code ({ cls := "java/lang/Math", name := "min", desc := "(II)I" } : Jvm.MethodName) jdk_29_method_69_code (2 : Nat) (Option.some Jvm.ClassFile.FieldType.int), Jvm.Cond.code ({ cls := "phrasebook/ZFormat$Layout", name := "restOfGroup", desc := "()I" } : Jvm.MethodName) prog_49_method_9_code (1 : Nat) (Option.some Jvm.ClassFile.FieldType.int)]
set_option maxRecDepth 65536 in
theorem codes_eq : words1.filter isCode = codes1 := rfl
theorem w_codes : ∀ c ∈ words1.filter isCode, c.before args0 about1 = true := by
  rw [codes_eq]
  intro c hc
  simp only [codes1, List.mem_cons, List.not_mem_nil, or_false] at hc
  rcases hc with rfl | rfl | rfl | rfl | rfl | rfl | rfl | rfl | rfl | rfl | rfl | rfl | rfl | rfl | rfl
  · exact w_c0
  · exact w_c1
  · exact w_c2
  · exact w_c3
  · exact w_c4
  · exact w_c5
  · exact w_c6
  · exact w_c7
  · exact w_c8
  · exact w_c9
  · exact w_c10
  · exact w_c11
  · exact w_c12
  · exact w_c13
  · exact w_c14
set_option maxRecDepth 65536 in
theorem w_t1 : (words1.take 24).all (fun c => isCode c || c.before args0 about1) = true := by decide +kernel
set_option maxRecDepth 65536 in
theorem w_t2 : ((words1.drop 24).take 24).all (fun c => isCode c || c.before args0 about1) = true := by decide +kernel
set_option maxRecDepth 65536 in
theorem w_t3 : (((words1.drop 24).drop 24).take 24).all (fun c => isCode c || c.before args0 about1) = true := by decide +kernel
set_option maxRecDepth 65536 in
theorem w_t4 : (((words1.drop 24).drop 24).drop 24).all (fun c => isCode c || c.before args0 about1) = true := by decide +kernel
theorem w_tables : (allAtoms (Jvm.Cond.code x code maxLocals ret :: tables_1)).before args0 about1 = true := by
  rw [allAtoms_all]
  show words1.all (fun c => c.before args0 about1) = true
  refine all_split ?_ w_codes
  rw [← List.take_append_drop 24 words1, List.all_append, w_t1, ← List.take_append_drop 24 (words1.drop 24), List.all_append, w_t2, ← List.take_append_drop 24 ((words1.drop 24).drop 24), List.all_append, w_t3, w_t4]
  rfl
set_option maxRecDepth 65536 in
theorem w_case : (Jvm.Cond.and given_1 narrow_1).before args0 about1 = true := by decide +kernel
theorem w_applies : (headSpec (Jvm.Cond.code x code maxLocals ret :: tables_1) room_1).applies x e0.platform about1 = true :=
  (Spec.applies_iff w_frames).mpr ⟨w_running, w_runnable, w_alone, w_named, w_hears, w_ripe, w_room, w_tables⟩
theorem atStart : AtStart classFile x code maxLocals ret World_1 tables_1 room_1 Calls_1 rest_1 Pre_1 launch0 p0 e0 about1 theMethod args0 below0 :=
  ⟨lists_1, trivial, launch0.admits_env _ _ _, launch0.least_env, fairChoices_fair.cas, fairChoices_fair.clock, w_frames, w_args, w_heap, w_applies, trivial, trivial, w_case⟩
end start1
theorem witness_1 : WitnessClaimed_1 := ⟨start1.p0, start1.e0, start1.about1, start1.theMethod, start1.args0, start1.below0, start1.atStart⟩
end Jvm.Pilot.@@N@@
