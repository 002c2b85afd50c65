import JvmDerived
import JvmDerived.Pilot.@@N@@Statement
import JvmDerived.Pilot.@@N@@Code
set_option linter.unusedVariables false
set_option linter.unusedSimpArgs false
namespace Jvm.RoadKit
open Sem ClassFile Op Lib Jvm.Stand Jvm.Free Jvm.LawKit
section New
variable {p : Program} {l : Launch} {e : Env} {R : Room} {s : State} {m : MethodId} {args : Array Value} {below : List Frame} {meth : Method} {c : Code} {T : State} {locs : List Loc} {cells slots : Nat}
theorem retI (X : Stand p l e R s m args below meth c T locs cells slots) (hx : p.tables.exec = Jvm.exec) {pc : Nat} {Ls : Array Slot} {z : Int32} {rest : List Value} (hret : meth.sig.returnType = some .int) (hd : decode c.code pc = .ok (.ireturn, 1)) {fs : List Frame}
    (hl : ∀ (f : JFrame) (acts : List Action), f.method = m → f.locked = none → f.entered = [] → (doReturn e (T.setTop f) acts (some (.int z))).1 = T.setFrames fs) : Steps p.tables e below (T.setTop (mkF m pc Ls (.int z :: rest))) (T.setFrames fs) := by
  have hm' : T.vm.method? m = some meth := X.method'
  have hn : narrow .int (.int z) = .int z := rfl
  show Steps p.tables e below (T.setTop { method := m, pc := pc, locals := Ls, stack := _ :: rest, locked := none }) _
  jvm_step X.here [X.here.top, hx, hd, hm', hret, hn]
  first | (intro acts; rw [hl _ acts rfl rfl rfl]) | rw [hl _ _ rfl rfl rfl]
  exact Steps.refl _
theorem own_lremM {g : JFrame} {target : State} (X : Stand p l e R s m args below meth c T locs cells slots) (hx : p.tables.exec = Jvm.exec) (hg : g.method = m) {x y : Int64} {rest : List Value} (hd : decode c.code g.pc = .ok (.lrem, 1)) (hs : g.stack = .long y :: .long x :: rest) (hy : y ≠ 0)
    (hr : Steps p.tables e below (T.setTop { g with pc := g.pc + 1, stack := .long (x % y) :: rest }) target) : Steps p.tables e below (T.setTop g) target := by
  have q : x - x / y * y = x % y := lrem_mod x y
  exact XS.lrem X.here hx hg hd hs hy (by rw [q]; exact hr)
theorem own_getD_int (L : List Int32) (n : Nat) (d : Int32) : (L.map Value.int).getD n (.int d) = .int (L.getD n d) := by simp [List.getD_eq_getElem?_getD, List.getElem?_map]
theorem own_getD_long (L : List Int64) (n : Nat) (d : Int64) : (L.map Value.long).getD n (.long d) = .long (L.getD n d) := by simp [List.getD_eq_getElem?_getD, List.getElem?_map]
theorem own_lt_nat {j z : Int32} (h : ¬ j < 0) (q : j < z) : j.toNatClampNeg < z.toNatClampNeg := by
  rw [Int32.lt_iff_toInt_lt] at h q; have : (0 : Int32).toInt = 0 := rfl
  simp only [Int32.toNatClampNeg]; omega
theorem own_eq_int {t : Term} {v : Int32} {args : Array Value} {s : State} (h : (Cond.eq t (.int v)).value args s none s [] = some true) : t.eval args s none [] s = some (.int v) := by
  simp only [Cond.value, Term.eval] at h
  cases ht : t.eval args s none [] s with
  | none => simp [ht] at h
  | some x => cases x <;> simp [ht] at h ⊢; exact h
theorem own_eq_long {t : Term} {v : Int64} {args : Array Value} {s : State} (h : (Cond.eq t (.long v)).value args s none s [] = some true) : t.eval args s none [] s = some (.long v) := by
  simp only [Cond.value, Term.eval] at h
  cases ht : t.eval args s none [] s with
  | none => simp [ht] at h
  | some x => cases x <;> simp [ht] at h ⊢; exact h
theorem own_selpriv {s : State} {args : Array Value} {y : MethodName} {n : Nat} (wi : (Cond.instantiable y.cls n).before args s = true) (hpriv : s.PrivateAt y) (hinst : (Cond.instanceMethod y).before args s = true) (hy : y.cls ≠ "java/lang/invoke/MethodHandle" ∧ y.cls ≠ "java/lang/invoke/VarHandle") : (Cond.selects y.cls y y).before args s = true := by
  obtain ⟨c, k, h1, h2, -, h4, -⟩ := Cond.instantiable_spec wi
  exact Jvm.Stand.selects_self_of_private h1 h2 (Bool.or_eq_false_iff.mp h4).1 hpriv hinst hy
theorem own_narb (P : Prop) [Decidable P] : nar .boolean (if P then (1 : Int32) else (0 : Int32)) = if P then (1 : Int32) else (0 : Int32) := by by_cases h : P <;> simp only [h, if_true, if_false] <;> rfl
end New
end Jvm.RoadKit
namespace Jvm.Pilot.@@N@@
open Jvm Jvm.ClassFile Sem Op Lib Jvm.Free Jvm.Stand Jvm.LawKit Jvm.RoadKit Bundle Jvm.Pilot.@@N@@.Jvm.D
theorem d3_0 : decode prog_49_method_2_code 0 = .ok (.aload_n 0, 1) := by decide +kernel
theorem d3_1 : decode prog_49_method_2_code 1 = .ok (.bipush 9, 2) := by decide +kernel
theorem d3_3 : decode prog_49_method_2_code 3 = .ok (.putfield 18, 3) := by decide +kernel
theorem d3_6 : decode prog_49_method_2_code 6 = .ok (.aload_n 0, 1) := by decide +kernel
theorem d3_7 : decode prog_49_method_2_code 7 = .ok (.iconst 0, 1) := by decide +kernel
theorem d3_8 : decode prog_49_method_2_code 8 = .ok (.putfield 21, 3) := by decide +kernel
theorem d3_11 : decode prog_49_method_2_code 11 = .ok (.aload_n 0, 1) := by decide +kernel
theorem d3_12 : decode prog_49_method_2_code 12 = .ok (.iconst 0, 1) := by decide +kernel
theorem d3_13 : decode prog_49_method_2_code 13 = .ok (.putfield 24, 3) := by decide +kernel
theorem d3_16 : decode prog_49_method_2_code 16 = .ok (.return_, 1) := by decide +kernel
theorem pn_11 : plainName "phrasebook/ZFormat$Layout" = true := by first | (simp [plainName, overriddenIn]; done) | decide +kernel
theorem ef_rm3 (m : MethodId) (ra0 : Addr) : entryFrame m #[(.ref ra0)] 1 = mkF m 0 #[.val (.ref ra0)] [] := by first | (simp [entryFrame, mkF, argsToLocals, Value.category]; done) | rfl
def Q3 (Z : State) (ra0 : Addr) (w_width_ra0 : Int32) (w_codesInGroup_ra0 : Int32) (w_groupEnded_ra0 : Int32) (w_maxBits_ra0 : Int32) (h0 : Heap) (n0 : Nat) (v : Option Value) (h : Heap) (L : List Loc) : Prop := v = none ∧ Fr n0 L ∧ Keep h0 h [ra0] ∧ Exa Z h ra0 "phrasebook/ZFormat$Layout" ∧ Fld Z h ra0 "phrasebook/ZFormat$Layout" "maxBits" "I" (.int w_maxBits_ra0) ∧ Fld Z h ra0 "phrasebook/ZFormat$Layout" "width" "I" (.int (9 : Int32)) ∧ Fld Z h ra0 "phrasebook/ZFormat$Layout" "codesInGroup" "I" (.int (0 : Int32)) ∧ Fld Z h ra0 "phrasebook/ZFormat$Layout" "groupEnded" "Z" (.int (0 : Int32))
set_option maxRecDepth 65536 in
set_option maxHeartbeats 40000000 in
theorem rm3 (l : Launch) (Z : State) (a0 : Array Value) (hw : ∀ d ∈ tables_1, d.before a0 Z = true) (ws : List Jvm.Cond) (ra0 : Addr) (w_width_ra0 : Int32) (w_codesInGroup_ra0 : Int32) (w_groupEnded_ra0 : Int32) (w_maxBits_ra0 : Int32) (h0 : Heap) (n0 : Nat) (Z0 : n0 ≤ h0.size) (E_ra0 : Exa Z h0 ra0 "phrasebook/ZFormat$Layout") (F_width_ra0 : Fld Z h0 ra0 "phrasebook/ZFormat$Layout" "width" "I" (.int w_width_ra0)) (g_ra0 : n0 ≤ ra0) (F_codesInGroup_ra0 : Fld Z h0 ra0 "phrasebook/ZFormat$Layout" "codesInGroup" "I" (.int w_codesInGroup_ra0)) (F_groupEnded_ra0 : Fld Z h0 ra0 "phrasebook/ZFormat$Layout" "groupEnded" "Z" (.int w_groupEnded_ra0)) (F_maxBits_ra0 : Fld Z h0 ra0 "phrasebook/ZFormat$Layout" "maxBits" "I" (.int w_maxBits_ra0)) :
    MetFree l (⟨"phrasebook/ZFormat$Layout", "restart", "()V"⟩ : MethodName) (head1 (Jvm.Cond.code (⟨"phrasebook/ZFormat$Layout", "restart", "()V"⟩ : MethodName) prog_49_method_2_code 1 none :: ws) ({ frames := 0, cells := 0, slots := 0, locals := 0 } : Room)) (fun a U => a = #[(.ref ra0)] ∧ Z.Warmed39 U.vm ∧ U.heap = h0) (fun _ _ _ _ _ => True) (fun _ U o U' => ∃ v L, o = .returned v ∧ Q3 Z ra0 w_width_ra0 w_codesInGroup_ra0 w_groupEnded_ra0 w_maxBits_ra0 h0 n0 v U'.heap L ∧ FrameEnd U o U' L ({ frames := 0, cells := 0, slots := 0, locals := 0 } : Room).cells ({ frames := 0, cells := 0, slots := 0, locals := 0 } : Room).slots) := by
  refine MetFree.of_bodySF (plainFor_of_name pn_11) hisR ?_
  intro p e s m args below meth c s₁ Bd hml0 hP hK
  obtain ⟨rfl, hZ, hh⟩ := hP
  have hx := Bd.exec
  have hby := Bd.bytes
  have hml : c.maxLocals = 1 := hml0
  have hown : s.vm.findClass "phrasebook/ZFormat$Layout" = some m.cls := findClass_of_methodNamed Bd.named
  have hnm := (name_of_methodNamed Bd.named Bd.method).1
  have X0 : Stand p l e ({ frames := 0, cells := 0, slots := 0, locals := 0 } : Room) s m #[(.ref ra0)] below meth c s₁ [] 0 0 := Stand.of_body Bd
  have e0 : s₁.heap = h0 := by rw [← hh, Bd.state]; rfl
  have N0 := Fr.nil n0
  have KC0 := Keep.refl h0 [ra0]
  have pre0 : ∀ t, Steps p.tables e below (s₁.setTop (mkF m 0 #[.val (.ref ra0)] [])) t → Steps p.tables e below (s₁.setTop (entryFrame m #[(.ref ra0)] 1)) t := fun t k => castTop (ef_rm3 m ra0) k
  have k1 := fun (t : State) (kk : Steps p.tables e below (s₁.setTop (mkF m 3 #[.val (.ref ra0)] [(.int (9 : Int32)), (.ref ra0)])) t) => pre0 t (by
    show Steps p.tables e below (s₁.setTop (mkF m 0 #[.val (.ref ra0)] [])) _
    refine XS.aloadN X0.here hx rfl (hb hby d3_0) rfl rfl ?_
    show Steps p.tables e below (s₁.setTop (mkF m 1 #[.val (.ref ra0)] [(.ref ra0)])) _
    refine XS.bipush X0.here hx rfl (hb hby d3_1) ?_
    exact kk)
  obtain ⟨T2, h2, X2, e2, W2, st2⟩ := putF X0 hx hZ hown (host := "") (Or.inl (hw _ (List.mem_of_getElem? (i := 18) rfl))) Via.refl e0 F_width_ra0 E_ra0 (Or.inl (hw _ (List.mem_of_getElem? (i := 19) rfl))) (hw _ (List.mem_of_getElem? (i := 3) rfl)) (ty := .int) (by decide) rfl rfl (g := (mkF m 3 #[.val (.ref ra0)] [(.int (9 : Int32)), (.ref ra0)])) rfl rfl (hb hby d3_3)
  have Fw2 := F_width_ra0.same W2
  have K2 : Keep h0 h2 [ra0] := KC0.wr W2 (Or.inl (List.mem_of_getElem? (i := 0) rfl))
  have N2 := Fr.snoc X2 N0 g_ra0
  have k3 := fun (t : State) (kk : Steps p.tables e below (T2.setTop (mkF m 6 #[.val (.ref ra0)] [])) t) => k1 t (st2 _ kk)
  have k4 := fun (t : State) (kk : Steps p.tables e below (T2.setTop (mkF m 8 #[.val (.ref ra0)] [(.int (0 : Int32)), (.ref ra0)])) t) => k3 t (by
    show Steps p.tables e below (T2.setTop (mkF m 6 #[.val (.ref ra0)] [])) _
    refine XS.aloadN X2.here hx rfl (hb hby d3_6) rfl rfl ?_
    show Steps p.tables e below (T2.setTop (mkF m 7 #[.val (.ref ra0)] [(.ref ra0)])) _
    refine XS.iconst X2.here hx rfl (hb hby d3_7) ?_
    exact kk)
  have f5 := (E_ra0.wr W2)
  have f6 := (F_codesInGroup_ra0.other W2 (Or.inr (slot_ne (Or.inl (hw _ (List.mem_of_getElem? (i := 21) rfl))) (Or.inl (hw _ (List.mem_of_getElem? (i := 19) rfl))) (by decide) (t := .int) (t' := .int) (by decide) (by decide))))
  obtain ⟨T7, h7, X7, e7, W7, st7⟩ := putF X2 hx hZ hown (host := "") (Or.inl (hw _ (List.mem_of_getElem? (i := 20) rfl))) Via.refl e2 f6 f5 (Or.inl (hw _ (List.mem_of_getElem? (i := 21) rfl))) (hw _ (List.mem_of_getElem? (i := 3) rfl)) (ty := .int) (by decide) rfl rfl (g := (mkF m 8 #[.val (.ref ra0)] [(.int (0 : Int32)), (.ref ra0)])) rfl rfl (hb hby d3_8)
  have Fw7 := f6.same W7
  have K7 : Keep h0 h7 [ra0] := K2.wr W7 (Or.inl (List.mem_of_getElem? (i := 0) rfl))
  have N7 := Fr.snoc X7 N2 g_ra0
  have k8 := fun (t : State) (kk : Steps p.tables e below (T7.setTop (mkF m 11 #[.val (.ref ra0)] [])) t) => k4 t (st7 _ kk)
  have k9 := fun (t : State) (kk : Steps p.tables e below (T7.setTop (mkF m 13 #[.val (.ref ra0)] [(.int (0 : Int32)), (.ref ra0)])) t) => k8 t (by
    show Steps p.tables e below (T7.setTop (mkF m 11 #[.val (.ref ra0)] [])) _
    refine XS.aloadN X7.here hx rfl (hb hby d3_11) rfl rfl ?_
    show Steps p.tables e below (T7.setTop (mkF m 12 #[.val (.ref ra0)] [(.ref ra0)])) _
    refine XS.iconst X7.here hx rfl (hb hby d3_12) ?_
    exact kk)
  have f10 := (f5.wr W7)
  have f11 := ((F_groupEnded_ra0.other W2 (Or.inr (slot_ne (Or.inl (hw _ (List.mem_of_getElem? (i := 23) rfl))) (Or.inl (hw _ (List.mem_of_getElem? (i := 19) rfl))) (by decide) (t := .boolean) (t' := .int) (by decide) (by decide)))).other W7 (Or.inr (slot_ne (Or.inl (hw _ (List.mem_of_getElem? (i := 23) rfl))) (Or.inl (hw _ (List.mem_of_getElem? (i := 21) rfl))) (by decide) (t := .boolean) (t' := .int) (by decide) (by decide))))
  obtain ⟨T12, h12, X12, e12, W12, st12⟩ := putFN X7 hx hZ hown (hw _ (List.mem_of_getElem? (i := 22) rfl)) Via.refl e7 f11 f10 (Or.inl (hw _ (List.mem_of_getElem? (i := 23) rfl))) (hw _ (List.mem_of_getElem? (i := 3) rfl)) (ty := .boolean) (v' := (.int (0 : Int32))) (by decide) rfl rfl (g := (mkF m 13 #[.val (.ref ra0)] [(.int (0 : Int32)), (.ref ra0)])) rfl rfl (hb hby d3_13)
  have Fw12 := f11.same W12
  have K12 : Keep h0 h12 [ra0] := K7.wr W12 (Or.inl (List.mem_of_getElem? (i := 0) rfl))
  have N12 := Fr.snoc X12 N7 g_ra0
  have k13 := fun (t : State) (kk : Steps p.tables e below (T12.setTop (mkF m 16 #[.val (.ref ra0)] [])) t) => k9 t (st12 _ kk)
  obtain ⟨fs, hr, hrun, hended, hW, hsame⟩ := X12.leave (v := none) (fun _ => rfl)
  have f14 := (f10.wr W12)
  have f15 := (((F_maxBits_ra0.other W2 (Or.inr (slot_ne (Or.inr (hw _ (List.mem_of_getElem? (i := 12) rfl))) (Or.inl (hw _ (List.mem_of_getElem? (i := 19) rfl))) (by decide) (t := .int) (t' := .int) (by decide) (by decide)))).other W7 (Or.inr (slot_ne (Or.inr (hw _ (List.mem_of_getElem? (i := 12) rfl))) (Or.inl (hw _ (List.mem_of_getElem? (i := 21) rfl))) (by decide) (t := .int) (t' := .int) (by decide) (by decide)))).other W12 (Or.inr (slot_ne (Or.inr (hw _ (List.mem_of_getElem? (i := 12) rfl))) (Or.inl (hw _ (List.mem_of_getElem? (i := 23) rfl))) (by decide) (t := .int) (t' := .boolean) (by decide) (by decide))))
  have f16 := ((Fw2.other W7 (Or.inr (slot_ne (Or.inl (hw _ (List.mem_of_getElem? (i := 19) rfl))) (Or.inl (hw _ (List.mem_of_getElem? (i := 21) rfl))) (by decide) (t := .int) (t' := .int) (by decide) (by decide)))).other W12 (Or.inr (slot_ne (Or.inl (hw _ (List.mem_of_getElem? (i := 19) rfl))) (Or.inl (hw _ (List.mem_of_getElem? (i := 23) rfl))) (by decide) (t := .int) (t' := .boolean) (by decide) (by decide))))
  have f17 := (Fw7.other W12 (Or.inr (slot_ne (Or.inl (hw _ (List.mem_of_getElem? (i := 21) rfl))) (Or.inl (hw _ (List.mem_of_getElem? (i := 23) rfl))) (by decide) (t := .int) (t' := .boolean) (by decide) (by decide))))
  refine ⟨_, _, k13 _ ?_, hrun, hended, _, _, rfl, ?_, ⟨_, rfl⟩, hW, hsame.mono (by decide) (by decide)⟩
  · show Steps p.tables e below (T12.setTop (mkF m 16 #[.val (.ref ra0)] [])) _
    exact X12.returnOut hx Bd.returns (hb hby d3_16) hr
  · show Q3 Z ra0 w_width_ra0 w_codesInGroup_ra0 w_groupEnded_ra0 w_maxBits_ra0 h0 n0 _ T12.heap _
    rw [e12]
    exact ⟨rfl, N12, K12, f14, f15, f16, f17, Fw12⟩
theorem pd_0 : parseMethodDescriptor "()V" = some ⟨[], none⟩ := by decide +kernel
theorem d1_0 : decode prog_49_method_1_code 0 = .ok (.aload_n 0, 1) := by decide +kernel
theorem d1_1 : decode prog_49_method_1_code 1 = .ok (.invokespecial 3, 3) := by decide +kernel
theorem d1_4 : decode prog_49_method_1_code 4 = .ok (.aload_n 0, 1) := by decide +kernel
theorem d1_5 : decode prog_49_method_1_code 5 = .ok (.iload_n 1, 1) := by decide +kernel
theorem d1_6 : decode prog_49_method_1_code 6 = .ok (.putfield 9, 3) := by decide +kernel
theorem d1_9 : decode prog_49_method_1_code 9 = .ok (.aload_n 0, 1) := by decide +kernel
theorem d1_10 : decode prog_49_method_1_code 10 = .ok (.invokevirtual 15, 3) := by decide +kernel
theorem d1_13 : decode prog_49_method_1_code 13 = .ok (.return_, 1) := by decide +kernel
theorem ef_rm1 (m : MethodId) (ra0 : Addr) (p1 : Int32) : entryFrame m #[(.ref ra0), (.int p1)] 2 = mkF m 0 #[.val (.ref ra0), .val (.int p1)] [] := by first | (simp [entryFrame, mkF, argsToLocals, Value.category]; done) | rfl
def Q1 (Z : State) (ra0 : Addr) (p1 : Int32) (w_maxBits_ra0 : Int32) (w_width_ra0 : Int32) (w_codesInGroup_ra0 : Int32) (w_groupEnded_ra0 : Int32) (h0 : Heap) (n0 : Nat) (v : Option Value) (h : Heap) (L : List Loc) : Prop := v = none ∧ Fr n0 L ∧ Keep h0 h [ra0] ∧ Exa Z h ra0 "phrasebook/ZFormat$Layout" ∧ Fld Z h ra0 "phrasebook/ZFormat$Layout" "maxBits" "I" (.int p1) ∧ Fld Z h ra0 "phrasebook/ZFormat$Layout" "width" "I" (.int (9 : Int32)) ∧ Fld Z h ra0 "phrasebook/ZFormat$Layout" "codesInGroup" "I" (.int (0 : Int32)) ∧ Fld Z h ra0 "phrasebook/ZFormat$Layout" "groupEnded" "Z" (.int (0 : Int32))
set_option maxRecDepth 65536 in
set_option maxHeartbeats 40000000 in
theorem rm1 (l : Launch) (Z : State) (a0 : Array Value) (hw : ∀ d ∈ tables_1, d.before a0 Z = true) (ws : List Jvm.Cond) (ra0 : Addr) (p1 : Int32) (w_maxBits_ra0 : Int32) (w_width_ra0 : Int32) (w_codesInGroup_ra0 : Int32) (w_groupEnded_ra0 : Int32) (h0 : Heap) (n0 : Nat) (Z0 : n0 ≤ h0.size) (E_ra0 : Exa Z h0 ra0 "phrasebook/ZFormat$Layout") (F_maxBits_ra0 : Fld Z h0 ra0 "phrasebook/ZFormat$Layout" "maxBits" "I" (.int w_maxBits_ra0)) (g_ra0 : n0 ≤ ra0) (F_width_ra0 : Fld Z h0 ra0 "phrasebook/ZFormat$Layout" "width" "I" (.int w_width_ra0)) (F_codesInGroup_ra0 : Fld Z h0 ra0 "phrasebook/ZFormat$Layout" "codesInGroup" "I" (.int w_codesInGroup_ra0)) (F_groupEnded_ra0 : Fld Z h0 ra0 "phrasebook/ZFormat$Layout" "groupEnded" "Z" (.int w_groupEnded_ra0)) :
    MetFree l (⟨"phrasebook/ZFormat$Layout", "<init>", "(I)V"⟩ : MethodName) (head1 (Jvm.Cond.code (⟨"phrasebook/ZFormat$Layout", "<init>", "(I)V"⟩ : MethodName) prog_49_method_1_code 2 none :: ws) ({ frames := 1, cells := 0, slots := 0, locals := 12 } : Room)) (fun a U => a = #[(.ref ra0), (.int p1)] ∧ Z.Warmed39 U.vm ∧ U.heap = h0) (fun _ _ _ _ _ => True) (fun _ U o U' => ∃ v L, o = .returned v ∧ Q1 Z ra0 p1 w_maxBits_ra0 w_width_ra0 w_codesInGroup_ra0 w_groupEnded_ra0 h0 n0 v U'.heap L ∧ FrameEnd U o U' L ({ frames := 1, cells := 0, slots := 0, locals := 12 } : Room).cells ({ frames := 1, cells := 0, slots := 0, locals := 12 } : Room).slots) := by
  refine MetFree.of_bodySF (plainFor_of_name pn_11) hisR ?_
  intro p e s m args below meth c s₁ Bd hml0 hP hK
  obtain ⟨rfl, hZ, hh⟩ := hP
  have hx := Bd.exec
  have hby := Bd.bytes
  have hml : c.maxLocals = 2 := hml0
  have hown : s.vm.findClass "phrasebook/ZFormat$Layout" = some m.cls := findClass_of_methodNamed Bd.named
  have hnm := (name_of_methodNamed Bd.named Bd.method).1
  have X0 : Stand p l e ({ frames := 1, cells := 0, slots := 0, locals := 12 } : Room) s m #[(.ref ra0), (.int p1)] below meth c s₁ [] 0 0 := Stand.of_body Bd
  have e0 : s₁.heap = h0 := by rw [← hh, Bd.state]; rfl
  have N0 := Fr.nil n0
  have KC0 := Keep.refl h0 [ra0]
  have pre0 : ∀ t, Steps p.tables e below (s₁.setTop (mkF m 0 #[.val (.ref ra0), .val (.int p1)] [])) t → Steps p.tables e below (s₁.setTop (entryFrame m #[(.ref ra0), (.int p1)] 2)) t := fun t k => castTop (ef_rm1 m ra0 p1) k
  have k18 := fun (t : State) (kk : Steps p.tables e below (s₁.setTop (mkF m 1 #[.val (.ref ra0), .val (.int p1)] [(.ref ra0)])) t) => pre0 t (by
    show Steps p.tables e below (s₁.setTop (mkF m 0 #[.val (.ref ra0), .val (.int p1)] [])) _
    refine XS.aloadN X0.here hx rfl (hb hby d1_0) rfl rfl ?_
    exact kk)
  obtain ⟨T19, X19, e19, st19⟩ := initO X0 hx hZ hown (hw _ (List.mem_of_getElem? (i := 8) rfl)) (hw _ (List.mem_of_getElem? (i := 9) rfl)) (hw _ (List.mem_of_getElem? (i := 10) rfl)) e0 (g := (mkF m 1 #[.val (.ref ra0), .val (.int p1)] [(.ref ra0)])) rfl (by rw [hml]; rfl) rfl (hb hby d1_1) (by decide) (W := 0) (by show 2 * 0 + _ ≤ _; exact Nat.le_of_eq rfl) (by decide)
  have k20 := fun (t : State) (kk : Steps p.tables e below (T19.setTop (mkF m 4 #[.val (.ref ra0), .val (.int p1)] [])) t) => k18 t (st19 _ kk)
  have k21 := fun (t : State) (kk : Steps p.tables e below (T19.setTop (mkF m 6 #[.val (.ref ra0), .val (.int p1)] [(.int p1), (.ref ra0)])) t) => k20 t (by
    show Steps p.tables e below (T19.setTop (mkF m 4 #[.val (.ref ra0), .val (.int p1)] [])) _
    refine XS.aloadN X19.here hx rfl (hb hby d1_4) rfl rfl ?_
    show Steps p.tables e below (T19.setTop (mkF m 5 #[.val (.ref ra0), .val (.int p1)] [(.ref ra0)])) _
    refine XS.iloadN X19.here hx rfl (hb hby d1_5) rfl ?_
    exact kk)
  obtain ⟨T22, h22, X22, e22, W22, st22⟩ := putF X19 hx hZ hown (host := "") (Or.inl (hw _ (List.mem_of_getElem? (i := 11) rfl))) Via.refl e19 F_maxBits_ra0 E_ra0 (Or.inr ⟨(hw _ (List.mem_of_getElem? (i := 12) rfl)), rfl, hnm⟩) (hw _ (List.mem_of_getElem? (i := 3) rfl)) (ty := .int) (by decide) rfl rfl (g := (mkF m 6 #[.val (.ref ra0), .val (.int p1)] [(.int p1), (.ref ra0)])) rfl rfl (hb hby d1_6)
  have Fw22 := F_maxBits_ra0.same W22
  have K22 : Keep h0 h22 [ra0] := KC0.wr W22 (Or.inl (List.mem_of_getElem? (i := 0) rfl))
  have N22 := Fr.snoc X22 N0 g_ra0
  have k23 := fun (t : State) (kk : Steps p.tables e below (T22.setTop (mkF m 9 #[.val (.ref ra0), .val (.int p1)] [])) t) => k21 t (st22 _ kk)
  have k24 := fun (t : State) (kk : Steps p.tables e below (T22.setTop (mkF m 10 #[.val (.ref ra0), .val (.int p1)] [(.ref ra0)])) t) => k23 t (by
    show Steps p.tables e below (T22.setTop (mkF m 9 #[.val (.ref ra0), .val (.int p1)] [])) _
    refine XS.aloadN X22.here hx rfl (hb hby d1_9) rfl rfl ?_
    exact kk)
  have f25 := (F_width_ra0.other W22 (Or.inr (slot_ne (Or.inl (hw _ (List.mem_of_getElem? (i := 19) rfl))) (Or.inr (hw _ (List.mem_of_getElem? (i := 12) rfl))) (by decide) (t := .int) (t' := .int) (by decide) (by decide))))
  have f26 := (F_codesInGroup_ra0.other W22 (Or.inr (slot_ne (Or.inl (hw _ (List.mem_of_getElem? (i := 21) rfl))) (Or.inr (hw _ (List.mem_of_getElem? (i := 12) rfl))) (by decide) (t := .int) (t' := .int) (by decide) (by decide))))
  have f27 := (F_groupEnded_ra0.other W22 (Or.inr (slot_ne (Or.inl (hw _ (List.mem_of_getElem? (i := 23) rfl))) (Or.inr (hw _ (List.mem_of_getElem? (i := 12) rfl))) (by decide) (t := .boolean) (t' := .int) (by decide) (by decide))))
  have f28 := (E_ra0.wr W22)
  have Zz29 : n0 ≤ h22.size := (Nat.le_trans Z0 K22.1)
  obtain ⟨cq29, kq29, q29a, q29b, q29c⟩ := isOf hZ e22 f28
  obtain ⟨_, _, ⟨T29, L29, k29, n29⟩, -, X29, ⟨Lc29, hQ29, l29, y29, z29⟩, st29⟩ := X22.virtualBack hx (y := (⟨"phrasebook/ZFormat$Layout", "restart", "()V"⟩ : MethodName)) (z := (⟨"phrasebook/ZFormat$Layout", "restart", "()V"⟩ : MethodName)) hown (mvT hZ (hw _ (List.mem_of_getElem? (i := 13) rfl))) (mvT hZ (hw _ (List.mem_of_getElem? (i := 14) rfl))) (notFace_of_selects (args := #[]) (mvT hZ (hw _ (List.mem_of_getElem? (i := 16) rfl)))) (mvT hZ (hw _ (List.mem_of_getElem? (i := 16) rfl))) (mvT hZ (hw _ (List.mem_of_getElem? (i := 15) rfl))) (by decide) (backOf (W := 0) (rm3 l Z a0 hw [] ra0 w_width_ra0 w_codesInGroup_ra0 w_groupEnded_ra0 p1 h22 n0 Zz29 f28 f25 g_ra0 f26 f27 Fw22) hZ (hw _ (List.mem_of_getElem? (i := 17) rfl)) (hw _ (List.mem_of_getElem? (i := 4) rfl)) (by decide) (by decide)) q29a q29c (g := (mkF m 10 #[.val (.ref ra0), .val (.int p1)] [(.ref ra0)])) rfl (by rw [hml]; rfl) (Steps.refl _) (argsL := []) (rest := []) (lenOf pd_0 rfl) rfl (by show 2 * 0 + _ ≤ _; exact Nat.le_of_eq rfl) (hb hby d1_10) (fun _ _ => ⟨rfl, e22, (by decide : 0 + 0 ≤ _), (by decide : 0 + 0 ≤ _)⟩)
  dsimp only [Pt.U, Pt.locs, Pt.cells, Pt.slots] at X29 l29 y29 z29 st29 hQ29
  subst l29 y29 z29
  obtain ⟨rfl, N29q, Kq29, Eq29_0, Fq29_0, Fq29_1, Fq29_2, Fq29_3⟩ := hQ29
  have K29 : Keep h0 T29.heap [ra0] := K22.trans Kq29 (allS (Or.inl (List.mem_of_getElem? (i := 0) rfl)) all0)
  have N29 := Fr.app N22 N29q
  have k30 := fun (t : State) (kk : Steps p.tables e below (T29.setTop (mkF m 13 #[.val (.ref ra0), .val (.int p1)] [])) t) => k24 t (st29.trans kk)
  obtain ⟨fs, hr, hrun, hended, hW, hsame⟩ := X29.leave (v := none) (fun _ => rfl)
  refine ⟨_, _, k30 _ ?_, hrun, hended, _, _, rfl, ?_, ⟨_, rfl⟩, hW, hsame.mono (by decide) (by decide)⟩
  · show Steps p.tables e below (T29.setTop (mkF m 13 #[.val (.ref ra0), .val (.int p1)] [])) _
    exact X29.returnOut hx Bd.returns (hb hby d1_13) hr
  · show Q1 Z ra0 p1 w_maxBits_ra0 w_width_ra0 w_codesInGroup_ra0 w_groupEnded_ra0 h0 n0 _ T29.heap _
    exact ⟨rfl, N29, K29, Eq29_0, Fq29_0, Fq29_1, Fq29_2, Fq29_3⟩
theorem d6_0 : decode jdk_33_method_47_code 0 = .ok (.iload_n 0, 1) := by decide +kernel
theorem d6_1 : decode jdk_33_method_47_code 1 = .ok (.ifCond .gt 14, 3) := by decide +kernel
theorem d6_4 : decode jdk_33_method_47_code 4 = .ok (.iload_n 0, 1) := by decide +kernel
theorem d6_5 : decode jdk_33_method_47_code 5 = .ok (.ifCond .ne 8, 3) := by decide +kernel
theorem d6_8 : decode jdk_33_method_47_code 8 = .ok (.bipush 32, 2) := by decide +kernel
theorem d6_10 : decode jdk_33_method_47_code 10 = .ok (.goto 4, 3) := by decide +kernel
theorem d6_13 : decode jdk_33_method_47_code 13 = .ok (.iconst 0, 1) := by decide +kernel
theorem d6_14 : decode jdk_33_method_47_code 14 = .ok (.ireturn, 1) := by decide +kernel
theorem d6_15 : decode jdk_33_method_47_code 15 = .ok (.bipush 31, 2) := by decide +kernel
theorem d6_17 : decode jdk_33_method_47_code 17 = .ok (.istore_n 1, 1) := by decide +kernel
theorem d6_18 : decode jdk_33_method_47_code 18 = .ok (.iload_n 0, 1) := by decide +kernel
theorem d6_19 : decode jdk_33_method_47_code 19 = .ok (.ldc_w 264, 3) := by decide +kernel
theorem d6_22 : decode jdk_33_method_47_code 22 = .ok (.if_icmp .lt 11, 3) := by decide +kernel
theorem d6_25 : decode jdk_33_method_47_code 25 = .ok (.iinc 1 (-16), 3) := by decide +kernel
theorem d6_28 : decode jdk_33_method_47_code 28 = .ok (.iload_n 0, 1) := by decide +kernel
theorem d6_29 : decode jdk_33_method_47_code 29 = .ok (.bipush 16, 2) := by decide +kernel
theorem d6_31 : decode jdk_33_method_47_code 31 = .ok (.iushr, 1) := by decide +kernel
theorem d6_32 : decode jdk_33_method_47_code 32 = .ok (.istore_n 0, 1) := by decide +kernel
theorem d6_33 : decode jdk_33_method_47_code 33 = .ok (.iload_n 0, 1) := by decide +kernel
theorem d6_34 : decode jdk_33_method_47_code 34 = .ok (.sipush 256, 3) := by decide +kernel
theorem d6_37 : decode jdk_33_method_47_code 37 = .ok (.if_icmp .lt 11, 3) := by decide +kernel
theorem d6_40 : decode jdk_33_method_47_code 40 = .ok (.iinc 1 (-8), 3) := by decide +kernel
theorem d6_43 : decode jdk_33_method_47_code 43 = .ok (.iload_n 0, 1) := by decide +kernel
theorem d6_44 : decode jdk_33_method_47_code 44 = .ok (.bipush 8, 2) := by decide +kernel
theorem d6_46 : decode jdk_33_method_47_code 46 = .ok (.iushr, 1) := by decide +kernel
theorem d6_47 : decode jdk_33_method_47_code 47 = .ok (.istore_n 0, 1) := by decide +kernel
theorem d6_48 : decode jdk_33_method_47_code 48 = .ok (.iload_n 0, 1) := by decide +kernel
theorem d6_49 : decode jdk_33_method_47_code 49 = .ok (.bipush 16, 2) := by decide +kernel
theorem d6_51 : decode jdk_33_method_47_code 51 = .ok (.if_icmp .lt 10, 3) := by decide +kernel
theorem d6_54 : decode jdk_33_method_47_code 54 = .ok (.iinc 1 (-4), 3) := by decide +kernel
theorem d6_57 : decode jdk_33_method_47_code 57 = .ok (.iload_n 0, 1) := by decide +kernel
theorem d6_58 : decode jdk_33_method_47_code 58 = .ok (.iconst 4, 1) := by decide +kernel
theorem d6_59 : decode jdk_33_method_47_code 59 = .ok (.iushr, 1) := by decide +kernel
theorem d6_60 : decode jdk_33_method_47_code 60 = .ok (.istore_n 0, 1) := by decide +kernel
theorem d6_61 : decode jdk_33_method_47_code 61 = .ok (.iload_n 0, 1) := by decide +kernel
theorem d6_62 : decode jdk_33_method_47_code 62 = .ok (.iconst 4, 1) := by decide +kernel
theorem d6_63 : decode jdk_33_method_47_code 63 = .ok (.if_icmp .lt 10, 3) := by decide +kernel
theorem d6_66 : decode jdk_33_method_47_code 66 = .ok (.iinc 1 (-2), 3) := by decide +kernel
theorem d6_69 : decode jdk_33_method_47_code 69 = .ok (.iload_n 0, 1) := by decide +kernel
theorem d6_70 : decode jdk_33_method_47_code 70 = .ok (.iconst 2, 1) := by decide +kernel
theorem d6_71 : decode jdk_33_method_47_code 71 = .ok (.iushr, 1) := by decide +kernel
theorem d6_72 : decode jdk_33_method_47_code 72 = .ok (.istore_n 0, 1) := by decide +kernel
theorem d6_73 : decode jdk_33_method_47_code 73 = .ok (.iload_n 1, 1) := by decide +kernel
theorem d6_74 : decode jdk_33_method_47_code 74 = .ok (.iload_n 0, 1) := by decide +kernel
theorem d6_75 : decode jdk_33_method_47_code 75 = .ok (.iconst 1, 1) := by decide +kernel
theorem d6_76 : decode jdk_33_method_47_code 76 = .ok (.iushr, 1) := by decide +kernel
theorem d6_77 : decode jdk_33_method_47_code 77 = .ok (.isub, 1) := by decide +kernel
theorem d6_78 : decode jdk_33_method_47_code 78 = .ok (.ireturn, 1) := by decide +kernel
theorem pn_71 : plainName "java/lang/Integer" = true := by first | (simp [plainName, overriddenIn]; done) | decide +kernel
def v6_32_l0 (p0 : Int32) : Int32 := ((p0.toUInt32 >>> ((16 : Int32) &&& 31).toUInt32).toInt32)
def v6_22_l0 (p0 : Int32) : Int32 := if p0 < (65536 : Int32) then p0 else (v6_32_l0 p0)
def v6_22_l1 (p0 : Int32) : Int32 := if p0 < (65536 : Int32) then (31 : Int32) else ((31 : Int32) + (-16 : Int32))
def v6_47_l0 (p0 : Int32) : Int32 := (((v6_22_l0 p0).toUInt32 >>> ((8 : Int32) &&& 31).toUInt32).toInt32)
def v6_37_l0 (p0 : Int32) : Int32 := if (v6_22_l0 p0) < (256 : Int32) then (v6_22_l0 p0) else (v6_47_l0 p0)
def v6_37_l1 (p0 : Int32) : Int32 := if (v6_22_l0 p0) < (256 : Int32) then (v6_22_l1 p0) else ((v6_22_l1 p0) + (-8 : Int32))
def v6_60_l0 (p0 : Int32) : Int32 := (((v6_37_l0 p0).toUInt32 >>> ((4 : Int32) &&& 31).toUInt32).toInt32)
def v6_51_l0 (p0 : Int32) : Int32 := if (v6_37_l0 p0) < (16 : Int32) then (v6_37_l0 p0) else (v6_60_l0 p0)
def v6_51_l1 (p0 : Int32) : Int32 := if (v6_37_l0 p0) < (16 : Int32) then (v6_37_l1 p0) else ((v6_37_l1 p0) + (-4 : Int32))
def v6_72_l0 (p0 : Int32) : Int32 := (((v6_51_l0 p0).toUInt32 >>> ((2 : Int32) &&& 31).toUInt32).toInt32)
def v6_63_l0 (p0 : Int32) : Int32 := if (v6_51_l0 p0) < (4 : Int32) then (v6_51_l0 p0) else (v6_72_l0 p0)
def v6_63_l1 (p0 : Int32) : Int32 := if (v6_51_l0 p0) < (4 : Int32) then (v6_51_l1 p0) else ((v6_51_l1 p0) + (-2 : Int32))
def v6_5_s0 (p0 : Int32) : Int32 := if p0 = (0 : Int32) then (32 : Int32) else (0 : Int32)
def v6_ret (p0 : Int32) : Int32 := (if (0 : Int32) < p0 then ((v6_63_l1 p0) - (((v6_63_l0 p0).toUInt32 >>> ((1 : Int32) &&& 31).toUInt32).toInt32)) else (v6_5_s0 p0))
theorem ef_rm6 (m : MethodId) (p0 : Int32) : entryFrame m #[(.int p0)] 2 = mkF m 0 #[.val (.int p0), .unset] [] := by first | (simp [entryFrame, mkF, argsToLocals, Value.category]; done) | rfl
def Q6 (Z : State) (p0 : Int32) (h0 : Heap) (n0 : Nat) (v : Option Value) (h : Heap) (L : List Loc) : Prop := v = some (.int (v6_ret p0)) ∧ Fr n0 L ∧ h = h0
set_option maxRecDepth 65536 in
set_option maxHeartbeats 40000000 in
theorem rm6 (l : Launch) (Z : State) (a0 : Array Value) (hw : ∀ d ∈ tables_1, d.before a0 Z = true) (ws : List Jvm.Cond) (p0 : Int32) (h0 : Heap) (n0 : Nat) (Z0 : n0 ≤ h0.size) :
    MetFree l (⟨"java/lang/Integer", "numberOfLeadingZeros", "(I)I"⟩ : MethodName) (head1 (Jvm.Cond.code (⟨"java/lang/Integer", "numberOfLeadingZeros", "(I)I"⟩ : MethodName) jdk_33_method_47_code 2 (some .int) :: ws) ({ frames := 0, cells := 0, slots := 0, locals := 0 } : Room)) (fun a U => a = #[(.int p0)] ∧ Z.Warmed39 U.vm ∧ U.heap = h0) (fun _ _ _ _ _ => True) (fun _ U o U' => ∃ v L, o = .returned v ∧ Q6 Z p0 h0 n0 v U'.heap L ∧ FrameEnd U o U' L ({ frames := 0, cells := 0, slots := 0, locals := 0 } : Room).cells ({ frames := 0, cells := 0, slots := 0, locals := 0 } : Room).slots) := by
  refine MetFree.of_bodySF (plainFor_of_name pn_71) hisR ?_
  intro p e s m args below meth c s₁ Bd hml0 hP hK
  obtain ⟨rfl, hZ, hh⟩ := hP
  have hx := Bd.exec
  have hby := Bd.bytes
  have hml : c.maxLocals = 2 := hml0
  have hown : s.vm.findClass "java/lang/Integer" = some m.cls := findClass_of_methodNamed Bd.named
  have hnm := (name_of_methodNamed Bd.named Bd.method).1
  have X0 : Stand p l e ({ frames := 0, cells := 0, slots := 0, locals := 0 } : Room) s m #[(.int p0)] below meth c s₁ [] 0 0 := Stand.of_body Bd
  have e0 : s₁.heap = h0 := by rw [← hh, Bd.state]; rfl
  have N0 := Fr.nil n0
  have KC0 := Keep.refl h0 ([] : List Addr)
  have pre0 : ∀ t, Steps p.tables e below (s₁.setTop (mkF m 0 #[.val (.int p0), .unset] [])) t → Steps p.tables e below (s₁.setTop (entryFrame m #[(.int p0)] 2)) t := fun t k => castTop (ef_rm6 m p0) k
  have k31 := fun (t : State) (kk : Steps p.tables e below (s₁.setTop (mkF m 1 #[.val (.int p0), .unset] [(.int p0)])) t) => pre0 t (by
    show Steps p.tables e below (s₁.setTop (mkF m 0 #[.val (.int p0), .unset] [])) _
    refine XS.iloadN X0.here hx rfl (hb hby d6_0) rfl ?_
    exact kk)
  by_cases hc1_32 : (0 : Int32) < p0
  · have k41 := fun (t : State) (kk : Steps p.tables e below (s₁.setTop (mkF m 78 #[.val (.int (v6_63_l0 p0)), .val (.int (v6_63_l1 p0))] [(.int ((v6_63_l1 p0) - (((v6_63_l0 p0).toUInt32 >>> ((1 : Int32) &&& 31).toUInt32).toInt32)))])) t) => k31 t (by
      show Steps p.tables e below (s₁.setTop (mkF m 1 #[.val (.int p0), .unset] [(.int p0)])) _
      refine XS.ifYes X0.here hx rfl (pc0 := 1) (pc' := 15) rfl (hb hby d6_1) rfl ((if0 _ _).trans (tlt hc1_32).2.2.1) (by decide) (by decide) ?_
      show Steps p.tables e below (s₁.setTop (mkF m 15 #[.val (.int p0), .unset] [])) _
      refine XS.bipush X0.here hx rfl (hb hby d6_15) ?_
      show Steps p.tables e below (s₁.setTop (mkF m 17 #[.val (.int p0), .unset] [(.int (31 : Int32))])) _
      refine XS.istoreN X0.here hx rfl (hb hby d6_17) rfl (l' := #[.val (.int p0), .val (.int (31 : Int32))]) rfl ?_
      show Steps p.tables e below (s₁.setTop (mkF m 18 #[.val (.int p0), .val (.int (31 : Int32))] [])) _
      refine XS.iloadN X0.here hx rfl (hb hby d6_18) rfl ?_
      show Steps p.tables e below (s₁.setTop (mkF m 19 #[.val (.int p0), .val (.int (31 : Int32))] [(.int p0)])) _
      refine X0.ldcwInt hx hown (mvT hZ (hw _ (List.mem_of_getElem? (i := 37) rfl))) (g := (mkF m 19 #[.val (.int p0), .val (.int (31 : Int32))] [(.int p0)])) rfl (hb hby d6_19) _ ?_
      suffices k34 : Steps p.tables e below (s₁.setTop (mkF m 33 #[.val (.int (v6_22_l0 p0)), .val (.int (v6_22_l1 p0))] [])) t by
        by_cases hc22_33 : p0 < (65536 : Int32)
        · rw [(show (v6_22_l0 p0) = p0 from if_pos hc22_33)] at k34
          rw [(show (v6_22_l1 p0) = (31 : Int32) from if_pos hc22_33)] at k34
          show Steps p.tables e below (s₁.setTop (mkF m 22 #[.val (.int p0), .val (.int (31 : Int32))] [(.int (65536 : Int32)), (.int p0)])) _
          refine XS.icmpYes X0.here hx rfl (pc0 := 22) (pc' := 33) rfl (hb hby d6_22) rfl (tlt hc22_33).1 (by decide) (by decide) ?_
          exact k34
        · rw [(show (v6_22_l0 p0) = (v6_32_l0 p0) from if_neg hc22_33)] at k34
          rw [(show (v6_22_l1 p0) = ((31 : Int32) + (-16 : Int32)) from if_neg hc22_33)] at k34
          show Steps p.tables e below (s₁.setTop (mkF m 22 #[.val (.int p0), .val (.int (31 : Int32))] [(.int (65536 : Int32)), (.int p0)])) _
          refine XS.icmpNo X0.here hx rfl (hb hby d6_22) rfl (flt hc22_33).1 ?_
          show Steps p.tables e below (s₁.setTop (mkF m 25 #[.val (.int p0), .val (.int (31 : Int32))] [])) _
          refine XS.iinc X0.here hx rfl (hb hby d6_25) rfl (l' := #[.val (.int p0), .val (.int ((31 : Int32) + (-16 : Int32)))]) rfl ?_
          show Steps p.tables e below (s₁.setTop (mkF m 28 #[.val (.int p0), .val (.int ((31 : Int32) + (-16 : Int32)))] [])) _
          refine XS.iloadN X0.here hx rfl (hb hby d6_28) rfl ?_
          show Steps p.tables e below (s₁.setTop (mkF m 29 #[.val (.int p0), .val (.int ((31 : Int32) + (-16 : Int32)))] [(.int p0)])) _
          refine XS.bipush X0.here hx rfl (hb hby d6_29) ?_
          show Steps p.tables e below (s₁.setTop (mkF m 31 #[.val (.int p0), .val (.int ((31 : Int32) + (-16 : Int32)))] [(.int (16 : Int32)), (.int p0)])) _
          refine XS.iushr X0.here hx rfl (hb hby d6_31) rfl ?_
          show Steps p.tables e below (s₁.setTop (mkF m 32 #[.val (.int p0), .val (.int ((31 : Int32) + (-16 : Int32)))] [(.int ((p0.toUInt32 >>> ((16 : Int32) &&& 31).toUInt32).toInt32))])) _
          refine XS.istoreN X0.here hx rfl (hb hby d6_32) rfl (l' := #[.val (.int (v6_32_l0 p0)), .val (.int ((31 : Int32) + (-16 : Int32)))]) rfl ?_
          exact k34
      show Steps p.tables e below (s₁.setTop (mkF m 33 #[.val (.int (v6_22_l0 p0)), .val (.int (v6_22_l1 p0))] [])) _
      refine XS.iloadN X0.here hx rfl (hb hby d6_33) rfl ?_
      show Steps p.tables e below (s₁.setTop (mkF m 34 #[.val (.int (v6_22_l0 p0)), .val (.int (v6_22_l1 p0))] [(.int (v6_22_l0 p0))])) _
      refine XS.sipush X0.here hx rfl (hb hby d6_34) ?_
      suffices k36 : Steps p.tables e below (s₁.setTop (mkF m 48 #[.val (.int (v6_37_l0 p0)), .val (.int (v6_37_l1 p0))] [])) t by
        by_cases hc37_35 : (v6_22_l0 p0) < (256 : Int32)
        · rw [(show (v6_37_l0 p0) = (v6_22_l0 p0) from if_pos hc37_35)] at k36
          rw [(show (v6_37_l1 p0) = (v6_22_l1 p0) from if_pos hc37_35)] at k36
          show Steps p.tables e below (s₁.setTop (mkF m 37 #[.val (.int (v6_22_l0 p0)), .val (.int (v6_22_l1 p0))] [(.int (256 : Int32)), (.int (v6_22_l0 p0))])) _
          refine XS.icmpYes X0.here hx rfl (pc0 := 37) (pc' := 48) rfl (hb hby d6_37) rfl (tlt hc37_35).1 (by decide) (by decide) ?_
          exact k36
        · rw [(show (v6_37_l0 p0) = (v6_47_l0 p0) from if_neg hc37_35)] at k36
          rw [(show (v6_37_l1 p0) = ((v6_22_l1 p0) + (-8 : Int32)) from if_neg hc37_35)] at k36
          show Steps p.tables e below (s₁.setTop (mkF m 37 #[.val (.int (v6_22_l0 p0)), .val (.int (v6_22_l1 p0))] [(.int (256 : Int32)), (.int (v6_22_l0 p0))])) _
          refine XS.icmpNo X0.here hx rfl (hb hby d6_37) rfl (flt hc37_35).1 ?_
          show Steps p.tables e below (s₁.setTop (mkF m 40 #[.val (.int (v6_22_l0 p0)), .val (.int (v6_22_l1 p0))] [])) _
          refine XS.iinc X0.here hx rfl (hb hby d6_40) rfl (l' := #[.val (.int (v6_22_l0 p0)), .val (.int ((v6_22_l1 p0) + (-8 : Int32)))]) rfl ?_
          show Steps p.tables e below (s₁.setTop (mkF m 43 #[.val (.int (v6_22_l0 p0)), .val (.int ((v6_22_l1 p0) + (-8 : Int32)))] [])) _
          refine XS.iloadN X0.here hx rfl (hb hby d6_43) rfl ?_
          show Steps p.tables e below (s₁.setTop (mkF m 44 #[.val (.int (v6_22_l0 p0)), .val (.int ((v6_22_l1 p0) + (-8 : Int32)))] [(.int (v6_22_l0 p0))])) _
          refine XS.bipush X0.here hx rfl (hb hby d6_44) ?_
          show Steps p.tables e below (s₁.setTop (mkF m 46 #[.val (.int (v6_22_l0 p0)), .val (.int ((v6_22_l1 p0) + (-8 : Int32)))] [(.int (8 : Int32)), (.int (v6_22_l0 p0))])) _
          refine XS.iushr X0.here hx rfl (hb hby d6_46) rfl ?_
          show Steps p.tables e below (s₁.setTop (mkF m 47 #[.val (.int (v6_22_l0 p0)), .val (.int ((v6_22_l1 p0) + (-8 : Int32)))] [(.int (((v6_22_l0 p0).toUInt32 >>> ((8 : Int32) &&& 31).toUInt32).toInt32))])) _
          refine XS.istoreN X0.here hx rfl (hb hby d6_47) rfl (l' := #[.val (.int (v6_47_l0 p0)), .val (.int ((v6_22_l1 p0) + (-8 : Int32)))]) rfl ?_
          exact k36
      show Steps p.tables e below (s₁.setTop (mkF m 48 #[.val (.int (v6_37_l0 p0)), .val (.int (v6_37_l1 p0))] [])) _
      refine XS.iloadN X0.here hx rfl (hb hby d6_48) rfl ?_
      show Steps p.tables e below (s₁.setTop (mkF m 49 #[.val (.int (v6_37_l0 p0)), .val (.int (v6_37_l1 p0))] [(.int (v6_37_l0 p0))])) _
      refine XS.bipush X0.here hx rfl (hb hby d6_49) ?_
      suffices k38 : Steps p.tables e below (s₁.setTop (mkF m 61 #[.val (.int (v6_51_l0 p0)), .val (.int (v6_51_l1 p0))] [])) t by
        by_cases hc51_37 : (v6_37_l0 p0) < (16 : Int32)
        · rw [(show (v6_51_l0 p0) = (v6_37_l0 p0) from if_pos hc51_37)] at k38
          rw [(show (v6_51_l1 p0) = (v6_37_l1 p0) from if_pos hc51_37)] at k38
          show Steps p.tables e below (s₁.setTop (mkF m 51 #[.val (.int (v6_37_l0 p0)), .val (.int (v6_37_l1 p0))] [(.int (16 : Int32)), (.int (v6_37_l0 p0))])) _
          refine XS.icmpYes X0.here hx rfl (pc0 := 51) (pc' := 61) rfl (hb hby d6_51) rfl (tlt hc51_37).1 (by decide) (by decide) ?_
          exact k38
        · rw [(show (v6_51_l0 p0) = (v6_60_l0 p0) from if_neg hc51_37)] at k38
          rw [(show (v6_51_l1 p0) = ((v6_37_l1 p0) + (-4 : Int32)) from if_neg hc51_37)] at k38
          show Steps p.tables e below (s₁.setTop (mkF m 51 #[.val (.int (v6_37_l0 p0)), .val (.int (v6_37_l1 p0))] [(.int (16 : Int32)), (.int (v6_37_l0 p0))])) _
          refine XS.icmpNo X0.here hx rfl (hb hby d6_51) rfl (flt hc51_37).1 ?_
          show Steps p.tables e below (s₁.setTop (mkF m 54 #[.val (.int (v6_37_l0 p0)), .val (.int (v6_37_l1 p0))] [])) _
          refine XS.iinc X0.here hx rfl (hb hby d6_54) rfl (l' := #[.val (.int (v6_37_l0 p0)), .val (.int ((v6_37_l1 p0) + (-4 : Int32)))]) rfl ?_
          show Steps p.tables e below (s₁.setTop (mkF m 57 #[.val (.int (v6_37_l0 p0)), .val (.int ((v6_37_l1 p0) + (-4 : Int32)))] [])) _
          refine XS.iloadN X0.here hx rfl (hb hby d6_57) rfl ?_
          show Steps p.tables e below (s₁.setTop (mkF m 58 #[.val (.int (v6_37_l0 p0)), .val (.int ((v6_37_l1 p0) + (-4 : Int32)))] [(.int (v6_37_l0 p0))])) _
          refine XS.iconst X0.here hx rfl (hb hby d6_58) ?_
          show Steps p.tables e below (s₁.setTop (mkF m 59 #[.val (.int (v6_37_l0 p0)), .val (.int ((v6_37_l1 p0) + (-4 : Int32)))] [(.int (4 : Int32)), (.int (v6_37_l0 p0))])) _
          refine XS.iushr X0.here hx rfl (hb hby d6_59) rfl ?_
          show Steps p.tables e below (s₁.setTop (mkF m 60 #[.val (.int (v6_37_l0 p0)), .val (.int ((v6_37_l1 p0) + (-4 : Int32)))] [(.int (((v6_37_l0 p0).toUInt32 >>> ((4 : Int32) &&& 31).toUInt32).toInt32))])) _
          refine XS.istoreN X0.here hx rfl (hb hby d6_60) rfl (l' := #[.val (.int (v6_60_l0 p0)), .val (.int ((v6_37_l1 p0) + (-4 : Int32)))]) rfl ?_
          exact k38
      show Steps p.tables e below (s₁.setTop (mkF m 61 #[.val (.int (v6_51_l0 p0)), .val (.int (v6_51_l1 p0))] [])) _
      refine XS.iloadN X0.here hx rfl (hb hby d6_61) rfl ?_
      show Steps p.tables e below (s₁.setTop (mkF m 62 #[.val (.int (v6_51_l0 p0)), .val (.int (v6_51_l1 p0))] [(.int (v6_51_l0 p0))])) _
      refine XS.iconst X0.here hx rfl (hb hby d6_62) ?_
      suffices k40 : Steps p.tables e below (s₁.setTop (mkF m 73 #[.val (.int (v6_63_l0 p0)), .val (.int (v6_63_l1 p0))] [])) t by
        by_cases hc63_39 : (v6_51_l0 p0) < (4 : Int32)
        · rw [(show (v6_63_l0 p0) = (v6_51_l0 p0) from if_pos hc63_39)] at k40
          rw [(show (v6_63_l1 p0) = (v6_51_l1 p0) from if_pos hc63_39)] at k40
          show Steps p.tables e below (s₁.setTop (mkF m 63 #[.val (.int (v6_51_l0 p0)), .val (.int (v6_51_l1 p0))] [(.int (4 : Int32)), (.int (v6_51_l0 p0))])) _
          refine XS.icmpYes X0.here hx rfl (pc0 := 63) (pc' := 73) rfl (hb hby d6_63) rfl (tlt hc63_39).1 (by decide) (by decide) ?_
          exact k40
        · rw [(show (v6_63_l0 p0) = (v6_72_l0 p0) from if_neg hc63_39)] at k40
          rw [(show (v6_63_l1 p0) = ((v6_51_l1 p0) + (-2 : Int32)) from if_neg hc63_39)] at k40
          show Steps p.tables e below (s₁.setTop (mkF m 63 #[.val (.int (v6_51_l0 p0)), .val (.int (v6_51_l1 p0))] [(.int (4 : Int32)), (.int (v6_51_l0 p0))])) _
          refine XS.icmpNo X0.here hx rfl (hb hby d6_63) rfl (flt hc63_39).1 ?_
          show Steps p.tables e below (s₁.setTop (mkF m 66 #[.val (.int (v6_51_l0 p0)), .val (.int (v6_51_l1 p0))] [])) _
          refine XS.iinc X0.here hx rfl (hb hby d6_66) rfl (l' := #[.val (.int (v6_51_l0 p0)), .val (.int ((v6_51_l1 p0) + (-2 : Int32)))]) rfl ?_
          show Steps p.tables e below (s₁.setTop (mkF m 69 #[.val (.int (v6_51_l0 p0)), .val (.int ((v6_51_l1 p0) + (-2 : Int32)))] [])) _
          refine XS.iloadN X0.here hx rfl (hb hby d6_69) rfl ?_
          show Steps p.tables e below (s₁.setTop (mkF m 70 #[.val (.int (v6_51_l0 p0)), .val (.int ((v6_51_l1 p0) + (-2 : Int32)))] [(.int (v6_51_l0 p0))])) _
          refine XS.iconst X0.here hx rfl (hb hby d6_70) ?_
          show Steps p.tables e below (s₁.setTop (mkF m 71 #[.val (.int (v6_51_l0 p0)), .val (.int ((v6_51_l1 p0) + (-2 : Int32)))] [(.int (2 : Int32)), (.int (v6_51_l0 p0))])) _
          refine XS.iushr X0.here hx rfl (hb hby d6_71) rfl ?_
          show Steps p.tables e below (s₁.setTop (mkF m 72 #[.val (.int (v6_51_l0 p0)), .val (.int ((v6_51_l1 p0) + (-2 : Int32)))] [(.int (((v6_51_l0 p0).toUInt32 >>> ((2 : Int32) &&& 31).toUInt32).toInt32))])) _
          refine XS.istoreN X0.here hx rfl (hb hby d6_72) rfl (l' := #[.val (.int (v6_72_l0 p0)), .val (.int ((v6_51_l1 p0) + (-2 : Int32)))]) rfl ?_
          exact k40
      show Steps p.tables e below (s₁.setTop (mkF m 73 #[.val (.int (v6_63_l0 p0)), .val (.int (v6_63_l1 p0))] [])) _
      refine XS.iloadN X0.here hx rfl (hb hby d6_73) rfl ?_
      show Steps p.tables e below (s₁.setTop (mkF m 74 #[.val (.int (v6_63_l0 p0)), .val (.int (v6_63_l1 p0))] [(.int (v6_63_l1 p0))])) _
      refine XS.iloadN X0.here hx rfl (hb hby d6_74) rfl ?_
      show Steps p.tables e below (s₁.setTop (mkF m 75 #[.val (.int (v6_63_l0 p0)), .val (.int (v6_63_l1 p0))] [(.int (v6_63_l0 p0)), (.int (v6_63_l1 p0))])) _
      refine XS.iconst X0.here hx rfl (hb hby d6_75) ?_
      show Steps p.tables e below (s₁.setTop (mkF m 76 #[.val (.int (v6_63_l0 p0)), .val (.int (v6_63_l1 p0))] [(.int (1 : Int32)), (.int (v6_63_l0 p0)), (.int (v6_63_l1 p0))])) _
      refine XS.iushr X0.here hx rfl (hb hby d6_76) rfl ?_
      show Steps p.tables e below (s₁.setTop (mkF m 77 #[.val (.int (v6_63_l0 p0)), .val (.int (v6_63_l1 p0))] [(.int (((v6_63_l0 p0).toUInt32 >>> ((1 : Int32) &&& 31).toUInt32).toInt32)), (.int (v6_63_l1 p0))])) _
      refine XS.isub X0.here hx rfl (hb hby d6_77) rfl ?_
      exact kk)
    obtain ⟨fs, hr, hrun, hended, hW, hsame⟩ := X0.leave (v := some (.int ((v6_63_l1 p0) - (((v6_63_l0 p0).toUInt32 >>> ((1 : Int32) &&& 31).toUInt32).toInt32)))) (fun h => by rw [Bd.returns] at h; cases h)
    have hv : (v6_ret p0) = ((v6_63_l1 p0) - (((v6_63_l0 p0).toUInt32 >>> ((1 : Int32) &&& 31).toUInt32).toInt32)) := (if_pos hc1_32)
    refine ⟨_, _, k41 _ ?_, hrun, hended, _, _, rfl, ?_, ⟨_, rfl⟩, hW, hsame.mono (by decide) (by decide)⟩
    · show Steps p.tables e below (s₁.setTop (mkF m 78 #[.val (.int (v6_63_l0 p0)), .val (.int (v6_63_l1 p0))] [(.int ((v6_63_l1 p0) - (((v6_63_l0 p0).toUInt32 >>> ((1 : Int32) &&& 31).toUInt32).toInt32)))])) _
      exact retI X0 hx Bd.returns (hb hby d6_78) hr
    · show Q6 Z p0 h0 n0 _ s₁.heap _
      rw [e0]
      exact ⟨(congrArg (fun z => some (Value.int z)) hv).symm, N0, rfl⟩
  · have k44 := fun (t : State) (kk : Steps p.tables e below (s₁.setTop (mkF m 14 #[.val (.int p0), .unset] [(.int (v6_5_s0 p0))])) t) => k31 t (by
      show Steps p.tables e below (s₁.setTop (mkF m 1 #[.val (.int p0), .unset] [(.int p0)])) _
      refine XS.ifNo X0.here hx rfl (hb hby d6_1) rfl ((if0 _ _).trans (flt hc1_32).2.2.1) ?_
      show Steps p.tables e below (s₁.setTop (mkF m 4 #[.val (.int p0), .unset] [])) _
      refine XS.iloadN X0.here hx rfl (hb hby d6_4) rfl ?_
      suffices k43 : Steps p.tables e below (s₁.setTop (mkF m 14 #[.val (.int p0), .unset] [(.int (v6_5_s0 p0))])) t by
        by_cases hc5_42 : p0 = (0 : Int32)
        · rw [(show (v6_5_s0 p0) = (32 : Int32) from if_pos hc5_42)] at k43
          show Steps p.tables e below (s₁.setTop (mkF m 5 #[.val (.int p0), .unset] [(.int p0)])) _
          refine XS.ifNo X0.here hx rfl (hb hby d6_5) rfl ((if0 _ _).trans (teq hc5_42).2) ?_
          show Steps p.tables e below (s₁.setTop (mkF m 8 #[.val (.int p0), .unset] [])) _
          refine XS.bipush X0.here hx rfl (hb hby d6_8) ?_
          show Steps p.tables e below (s₁.setTop (mkF m 10 #[.val (.int p0), .unset] [(.int (32 : Int32))])) _
          refine XS.goto X0.here hx rfl (pc0 := 10) (pc' := 14) rfl (hb hby d6_10) (by decide) (by decide) ?_
          exact k43
        · rw [(show (v6_5_s0 p0) = (0 : Int32) from if_neg hc5_42)] at k43
          show Steps p.tables e below (s₁.setTop (mkF m 5 #[.val (.int p0), .unset] [(.int p0)])) _
          refine XS.ifYes X0.here hx rfl (pc0 := 5) (pc' := 13) rfl (hb hby d6_5) rfl ((if0 _ _).trans (feq hc5_42).2) (by decide) (by decide) ?_
          show Steps p.tables e below (s₁.setTop (mkF m 13 #[.val (.int p0), .unset] [])) _
          refine XS.iconst X0.here hx rfl (hb hby d6_13) ?_
          exact k43
      exact kk)
    obtain ⟨fs, hr, hrun, hended, hW, hsame⟩ := X0.leave (v := some (.int (v6_5_s0 p0))) (fun h => by rw [Bd.returns] at h; cases h)
    have hv : (v6_ret p0) = (v6_5_s0 p0) := (if_neg hc1_32)
    refine ⟨_, _, k44 _ ?_, hrun, hended, _, _, rfl, ?_, ⟨_, rfl⟩, hW, hsame.mono (by decide) (by decide)⟩
    · show Steps p.tables e below (s₁.setTop (mkF m 14 #[.val (.int p0), .unset] [(.int (v6_5_s0 p0))])) _
      exact retI X0 hx Bd.returns (hb hby d6_14) hr
    · show Q6 Z p0 h0 n0 _ s₁.heap _
      rw [e0]
      exact ⟨(congrArg (fun z => some (Value.int z)) hv).symm, N0, rfl⟩
theorem d13_0 : decode jdk_29_method_69_code 0 = .ok (.iload_n 0, 1) := by decide +kernel
theorem d13_1 : decode jdk_29_method_69_code 1 = .ok (.iload_n 1, 1) := by decide +kernel
theorem d13_2 : decode jdk_29_method_69_code 2 = .ok (.if_icmp .gt 7, 3) := by decide +kernel
theorem d13_5 : decode jdk_29_method_69_code 5 = .ok (.iload_n 0, 1) := by decide +kernel
theorem d13_6 : decode jdk_29_method_69_code 6 = .ok (.goto 4, 3) := by decide +kernel
theorem d13_9 : decode jdk_29_method_69_code 9 = .ok (.iload_n 1, 1) := by decide +kernel
theorem d13_10 : decode jdk_29_method_69_code 10 = .ok (.ireturn, 1) := by decide +kernel
def v13_2_s0 (p0 : Int32) (p1 : Int32) : Int32 := if p1 < p0 then p1 else p0
theorem ef_rm13 (m : MethodId) (p0 : Int32) (p1 : Int32) : entryFrame m #[(.int p0), (.int p1)] 2 = mkF m 0 #[.val (.int p0), .val (.int p1)] [] := by first | (simp [entryFrame, mkF, argsToLocals, Value.category]; done) | rfl
def Q13 (Z : State) (p0 : Int32) (p1 : Int32) (h0 : Heap) (n0 : Nat) (v : Option Value) (h : Heap) (L : List Loc) : Prop := v = some (.int (v13_2_s0 p0 p1)) ∧ Fr n0 L ∧ h = h0
set_option maxRecDepth 65536 in
set_option maxHeartbeats 40000000 in
theorem rm13 (l : Launch) (Z : State) (a0 : Array Value) (hw : ∀ d ∈ tables_1, d.before a0 Z = true) (ws : List Jvm.Cond) (p0 : Int32) (p1 : Int32) (h0 : Heap) (n0 : Nat) (Z0 : n0 ≤ h0.size) :
    MetFree l (⟨"java/lang/Math", "min", "(II)I"⟩ : MethodName) (head1 (Jvm.Cond.code (⟨"java/lang/Math", "min", "(II)I"⟩ : MethodName) jdk_29_method_69_code 2 (some .int) :: ws) ({ frames := 0, cells := 0, slots := 0, locals := 0 } : Room)) (fun a U => a = #[(.int p0), (.int p1)] ∧ Z.Warmed39 U.vm ∧ U.heap = h0) (fun _ _ _ _ _ => True) (fun _ U o U' => ∃ v L, o = .returned v ∧ Q13 Z p0 p1 h0 n0 v U'.heap L ∧ FrameEnd U o U' L ({ frames := 0, cells := 0, slots := 0, locals := 0 } : Room).cells ({ frames := 0, cells := 0, slots := 0, locals := 0 } : Room).slots) := by
  refine MetFree.of_bodySF (Jvm.Free.JP.mathPlain rfl (by decide +kernel)) hisR ?_
  intro p e s m args below meth c s₁ Bd hml0 hP hK
  obtain ⟨rfl, hZ, hh⟩ := hP
  have hx := Bd.exec
  have hby := Bd.bytes
  have hml : c.maxLocals = 2 := hml0
  have hown : s.vm.findClass "java/lang/Math" = some m.cls := findClass_of_methodNamed Bd.named
  have hnm := (name_of_methodNamed Bd.named Bd.method).1
  have X0 : Stand p l e ({ frames := 0, cells := 0, slots := 0, locals := 0 } : Room) s m #[(.int p0), (.int p1)] below meth c s₁ [] 0 0 := Stand.of_body Bd
  have e0 : s₁.heap = h0 := by rw [← hh, Bd.state]; rfl
  have N0 := Fr.nil n0
  have KC0 := Keep.refl h0 ([] : List Addr)
  have pre0 : ∀ t, Steps p.tables e below (s₁.setTop (mkF m 0 #[.val (.int p0), .val (.int p1)] [])) t → Steps p.tables e below (s₁.setTop (entryFrame m #[(.int p0), (.int p1)] 2)) t := fun t k => castTop (ef_rm13 m p0 p1) k
  have k47 := fun (t : State) (kk : Steps p.tables e below (s₁.setTop (mkF m 10 #[.val (.int p0), .val (.int p1)] [(.int (v13_2_s0 p0 p1))])) t) => pre0 t (by
    show Steps p.tables e below (s₁.setTop (mkF m 0 #[.val (.int p0), .val (.int p1)] [])) _
    refine XS.iloadN X0.here hx rfl (hb hby d13_0) rfl ?_
    show Steps p.tables e below (s₁.setTop (mkF m 1 #[.val (.int p0), .val (.int p1)] [(.int p0)])) _
    refine XS.iloadN X0.here hx rfl (hb hby d13_1) rfl ?_
    suffices k46 : Steps p.tables e below (s₁.setTop (mkF m 10 #[.val (.int p0), .val (.int p1)] [(.int (v13_2_s0 p0 p1))])) t by
      by_cases hc2_45 : p1 < p0
      · rw [(show (v13_2_s0 p0 p1) = p1 from if_pos hc2_45)] at k46
        show Steps p.tables e below (s₁.setTop (mkF m 2 #[.val (.int p0), .val (.int p1)] [(.int p1), (.int p0)])) _
        refine XS.icmpYes X0.here hx rfl (pc0 := 2) (pc' := 9) rfl (hb hby d13_2) rfl (tlt hc2_45).2.2.1 (by decide) (by decide) ?_
        show Steps p.tables e below (s₁.setTop (mkF m 9 #[.val (.int p0), .val (.int p1)] [])) _
        refine XS.iloadN X0.here hx rfl (hb hby d13_9) rfl ?_
        exact k46
      · rw [(show (v13_2_s0 p0 p1) = p0 from if_neg hc2_45)] at k46
        show Steps p.tables e below (s₁.setTop (mkF m 2 #[.val (.int p0), .val (.int p1)] [(.int p1), (.int p0)])) _
        refine XS.icmpNo X0.here hx rfl (hb hby d13_2) rfl (flt hc2_45).2.2.1 ?_
        show Steps p.tables e below (s₁.setTop (mkF m 5 #[.val (.int p0), .val (.int p1)] [])) _
        refine XS.iloadN X0.here hx rfl (hb hby d13_5) rfl ?_
        show Steps p.tables e below (s₁.setTop (mkF m 6 #[.val (.int p0), .val (.int p1)] [(.int p0)])) _
        refine XS.goto X0.here hx rfl (pc0 := 6) (pc' := 10) rfl (hb hby d13_6) (by decide) (by decide) ?_
        exact k46
    exact kk)
  obtain ⟨fs, hr, hrun, hended, hW, hsame⟩ := X0.leave (v := some (.int (v13_2_s0 p0 p1))) (fun h => by rw [Bd.returns] at h; cases h)
  refine ⟨_, _, k47 _ ?_, hrun, hended, _, _, rfl, ?_, ⟨_, rfl⟩, hW, hsame.mono (by decide) (by decide)⟩
  · show Steps p.tables e below (s₁.setTop (mkF m 10 #[.val (.int p0), .val (.int p1)] [(.int (v13_2_s0 p0 p1))])) _
    exact retI X0 hx Bd.returns (hb hby d13_10) hr
  · show Q13 Z p0 p1 h0 n0 _ s₁.heap _
    rw [e0]
    exact ⟨rfl, N0, rfl⟩
theorem pd_1 : parseMethodDescriptor "(I)I" = some ⟨[.int], some .int⟩ := by decide +kernel
theorem pd_2 : parseMethodDescriptor "(II)I" = some ⟨[.int, .int], some .int⟩ := by decide +kernel
theorem d5_0 : decode prog_49_method_10_code 0 = .ok (.bipush 32, 2) := by decide +kernel
theorem d5_2 : decode prog_49_method_10_code 2 = .ok (.iload_n 1, 1) := by decide +kernel
theorem d5_3 : decode prog_49_method_10_code 3 = .ok (.invokestatic 42, 3) := by decide +kernel
theorem d5_6 : decode prog_49_method_10_code 6 = .ok (.isub, 1) := by decide +kernel
theorem d5_7 : decode prog_49_method_10_code 7 = .ok (.istore_n 2, 1) := by decide +kernel
theorem d5_8 : decode prog_49_method_10_code 8 = .ok (.aload_n 0, 1) := by decide +kernel
theorem d5_9 : decode prog_49_method_10_code 9 = .ok (.getfield 9, 3) := by decide +kernel
theorem d5_12 : decode prog_49_method_10_code 12 = .ok (.bipush 9, 2) := by decide +kernel
theorem d5_14 : decode prog_49_method_10_code 14 = .ok (.if_icmp .ne 7, 3) := by decide +kernel
theorem d5_17 : decode prog_49_method_10_code 17 = .ok (.iload_n 2, 1) := by decide +kernel
theorem d5_18 : decode prog_49_method_10_code 18 = .ok (.goto 11, 3) := by decide +kernel
theorem d5_21 : decode prog_49_method_10_code 21 = .ok (.iload_n 2, 1) := by decide +kernel
theorem d5_22 : decode prog_49_method_10_code 22 = .ok (.aload_n 0, 1) := by decide +kernel
theorem d5_23 : decode prog_49_method_10_code 23 = .ok (.getfield 9, 3) := by decide +kernel
theorem d5_26 : decode prog_49_method_10_code 26 = .ok (.invokestatic 45, 3) := by decide +kernel
theorem d5_29 : decode prog_49_method_10_code 29 = .ok (.ireturn, 1) := by decide +kernel
def v5_ret (p1 : Int32) (w_maxBits_ra0 : Int32) : Int32 := (if w_maxBits_ra0 = (9 : Int32) then ((32 : Int32) - (v6_ret p1)) else (v13_2_s0 ((32 : Int32) - (v6_ret p1)) w_maxBits_ra0))
theorem ef_rm5 (m : MethodId) (ra0 : Addr) (p1 : Int32) : entryFrame m #[(.ref ra0), (.int p1)] 3 = mkF m 0 #[.val (.ref ra0), .val (.int p1), .unset] [] := by first | (simp [entryFrame, mkF, argsToLocals, Value.category]; done) | rfl
def Q5 (Z : State) (ra0 : Addr) (p1 : Int32) (w_maxBits_ra0 : Int32) (h0 : Heap) (n0 : Nat) (v : Option Value) (h : Heap) (L : List Loc) : Prop := v = some (.int (v5_ret p1 w_maxBits_ra0)) ∧ Fr n0 L ∧ h = h0
set_option maxRecDepth 65536 in
set_option maxHeartbeats 40000000 in
theorem rm5 (l : Launch) (Z : State) (a0 : Array Value) (hw : ∀ d ∈ tables_1, d.before a0 Z = true) (ws : List Jvm.Cond) (ra0 : Addr) (p1 : Int32) (w_maxBits_ra0 : Int32) (h0 : Heap) (n0 : Nat) (Z0 : n0 ≤ h0.size) (F_maxBits_ra0 : Fld Z h0 ra0 "phrasebook/ZFormat$Layout" "maxBits" "I" (.int w_maxBits_ra0)) :
    MetFree l (⟨"phrasebook/ZFormat$Layout", "widthFor", "(I)I"⟩ : MethodName) (head1 (Jvm.Cond.code (⟨"phrasebook/ZFormat$Layout", "widthFor", "(I)I"⟩ : MethodName) prog_49_method_10_code 3 (some .int) :: ws) ({ frames := 1, cells := 0, slots := 0, locals := 14 } : Room)) (fun a U => a = #[(.ref ra0), (.int p1)] ∧ Z.Warmed39 U.vm ∧ U.heap = h0) (fun _ _ _ _ _ => True) (fun _ U o U' => ∃ v L, o = .returned v ∧ Q5 Z ra0 p1 w_maxBits_ra0 h0 n0 v U'.heap L ∧ FrameEnd U o U' L ({ frames := 1, cells := 0, slots := 0, locals := 14 } : Room).cells ({ frames := 1, cells := 0, slots := 0, locals := 14 } : Room).slots) := by
  refine MetFree.of_bodySF (plainFor_of_name pn_11) hisR ?_
  intro p e s m args below meth c s₁ Bd hml0 hP hK
  obtain ⟨rfl, hZ, hh⟩ := hP
  have hx := Bd.exec
  have hby := Bd.bytes
  have hml : c.maxLocals = 3 := hml0
  have hown : s.vm.findClass "phrasebook/ZFormat$Layout" = some m.cls := findClass_of_methodNamed Bd.named
  have hnm := (name_of_methodNamed Bd.named Bd.method).1
  have X0 : Stand p l e ({ frames := 1, cells := 0, slots := 0, locals := 14 } : Room) s m #[(.ref ra0), (.int p1)] below meth c s₁ [] 0 0 := Stand.of_body Bd
  have e0 : s₁.heap = h0 := by rw [← hh, Bd.state]; rfl
  have N0 := Fr.nil n0
  have KC0 := Keep.refl h0 ([] : List Addr)
  have pre0 : ∀ t, Steps p.tables e below (s₁.setTop (mkF m 0 #[.val (.ref ra0), .val (.int p1), .unset] [])) t → Steps p.tables e below (s₁.setTop (entryFrame m #[(.ref ra0), (.int p1)] 3)) t := fun t k => castTop (ef_rm5 m ra0 p1) k
  have k48 := fun (t : State) (kk : Steps p.tables e below (s₁.setTop (mkF m 3 #[.val (.ref ra0), .val (.int p1), .unset] [(.int p1), (.int (32 : Int32))])) t) => pre0 t (by
    show Steps p.tables e below (s₁.setTop (mkF m 0 #[.val (.ref ra0), .val (.int p1), .unset] [])) _
    refine XS.bipush X0.here hx rfl (hb hby d5_0) ?_
    show Steps p.tables e below (s₁.setTop (mkF m 2 #[.val (.ref ra0), .val (.int p1), .unset] [(.int (32 : Int32))])) _
    refine XS.iloadN X0.here hx rfl (hb hby d5_2) rfl ?_
    exact kk)
  have Zz49 : n0 ≤ h0.size := (Nat.le_trans Z0 KC0.1)
  obtain ⟨_, _, ⟨T49, L49, k49, n49⟩, -, X49, ⟨Lc49, hQ49, l49, y49, z49⟩, st49⟩ := Jvm.LawKit.callS X0 hx (y := (⟨"java/lang/Integer", "numberOfLeadingZeros", "(I)I"⟩ : MethodName)) hown (mvT hZ (hw _ (List.mem_of_getElem? (i := 33) rfl))) (mvT hZ (hw _ (List.mem_of_getElem? (i := 34) rfl))) (mvT hZ (hw _ (List.mem_of_getElem? (i := 35) rfl))) (mvT hZ (hw _ (List.mem_of_getElem? (i := 36) rfl))) (by decide) (backOf (W := 1) (rm6 l Z a0 hw [] p1 h0 n0 Zz49) hZ (hw _ (List.mem_of_getElem? (i := 36) rfl)) (hw _ (List.mem_of_getElem? (i := 35) rfl)) (by decide) (by decide)) (g := (mkF m 3 #[.val (.ref ra0), .val (.int p1), .unset] [(.int p1), (.int (32 : Int32))])) rfl (by rw [hml]; rfl) (argsL := [(.int p1)]) (rest := [(.int (32 : Int32))]) (lenOf pd_1 rfl) rfl (by show 2 * 0 + _ ≤ _; exact Nat.le_of_eq rfl) (hb hby d5_3) (fun _ _ => ⟨rfl, e0, (by decide : 0 + 0 ≤ _), (by decide : 0 + 0 ≤ _)⟩)
  dsimp only [Pt.U, Pt.locs, Pt.cells, Pt.slots] at X49 l49 y49 z49 st49 hQ49
  subst l49 y49 z49
  obtain ⟨rfl, N49q, e49⟩ := hQ49
  have N49 := Fr.app N0 N49q
  have k50 := fun (t : State) (kk : Steps p.tables e below (T49.setTop (mkF m 6 #[.val (.ref ra0), .val (.int p1), .unset] [(.int (v6_ret p1)), (.int (32 : Int32))])) t) => k48 t (st49 _ kk)
  have k51 := fun (t : State) (kk : Steps p.tables e below (T49.setTop (mkF m 9 #[.val (.ref ra0), .val (.int p1), .val (.int ((32 : Int32) - (v6_ret p1)))] [(.ref ra0)])) t) => k50 t (by
    show Steps p.tables e below (T49.setTop (mkF m 6 #[.val (.ref ra0), .val (.int p1), .unset] [(.int (v6_ret p1)), (.int (32 : Int32))])) _
    refine XS.isub X49.here hx rfl (hb hby d5_6) rfl ?_
    show Steps p.tables e below (T49.setTop (mkF m 7 #[.val (.ref ra0), .val (.int p1), .unset] [(.int ((32 : Int32) - (v6_ret p1)))])) _
    refine XS.istoreN X49.here hx rfl (hb hby d5_7) rfl (l' := #[.val (.ref ra0), .val (.int p1), .val (.int ((32 : Int32) - (v6_ret p1)))]) rfl ?_
    show Steps p.tables e below (T49.setTop (mkF m 8 #[.val (.ref ra0), .val (.int p1), .val (.int ((32 : Int32) - (v6_ret p1)))] [])) _
    refine XS.aloadN X49.here hx rfl (hb hby d5_8) rfl rfl ?_
    exact kk)
  obtain ⟨T52, X52, e52, st52⟩ := getF X49 hx hZ hown (host := "") (Or.inl (hw _ (List.mem_of_getElem? (i := 11) rfl))) Via.refl e49 F_maxBits_ra0 (g := (mkF m 9 #[.val (.ref ra0), .val (.int p1), .val (.int ((32 : Int32) - (v6_ret p1)))] [(.ref ra0)])) rfl rfl (hb hby d5_9)
  have k53 := fun (t : State) (kk : Steps p.tables e below (T52.setTop (mkF m 12 #[.val (.ref ra0), .val (.int p1), .val (.int ((32 : Int32) - (v6_ret p1)))] [(.int w_maxBits_ra0)])) t) => k51 t (st52 _ kk)
  have k54 := fun (t : State) (kk : Steps p.tables e below (T52.setTop (mkF m 14 #[.val (.ref ra0), .val (.int p1), .val (.int ((32 : Int32) - (v6_ret p1)))] [(.int (9 : Int32)), (.int w_maxBits_ra0)])) t) => k53 t (by
    show Steps p.tables e below (T52.setTop (mkF m 12 #[.val (.ref ra0), .val (.int p1), .val (.int ((32 : Int32) - (v6_ret p1)))] [(.int w_maxBits_ra0)])) _
    refine XS.bipush X52.here hx rfl (hb hby d5_12) ?_
    exact kk)
  by_cases hc14_55 : w_maxBits_ra0 = (9 : Int32)
  · have k56 := fun (t : State) (kk : Steps p.tables e below (T52.setTop (mkF m 29 #[.val (.ref ra0), .val (.int p1), .val (.int ((32 : Int32) - (v6_ret p1)))] [(.int ((32 : Int32) - (v6_ret p1)))])) t) => k54 t (by
      show Steps p.tables e below (T52.setTop (mkF m 14 #[.val (.ref ra0), .val (.int p1), .val (.int ((32 : Int32) - (v6_ret p1)))] [(.int (9 : Int32)), (.int w_maxBits_ra0)])) _
      refine XS.icmpNo X52.here hx rfl (hb hby d5_14) rfl (teq hc14_55).2 ?_
      show Steps p.tables e below (T52.setTop (mkF m 17 #[.val (.ref ra0), .val (.int p1), .val (.int ((32 : Int32) - (v6_ret p1)))] [])) _
      refine XS.iloadN X52.here hx rfl (hb hby d5_17) rfl ?_
      show Steps p.tables e below (T52.setTop (mkF m 18 #[.val (.ref ra0), .val (.int p1), .val (.int ((32 : Int32) - (v6_ret p1)))] [(.int ((32 : Int32) - (v6_ret p1)))])) _
      refine XS.goto X52.here hx rfl (pc0 := 18) (pc' := 29) rfl (hb hby d5_18) (by decide) (by decide) ?_
      exact kk)
    obtain ⟨fs, hr, hrun, hended, hW, hsame⟩ := X52.leave (v := some (.int ((32 : Int32) - (v6_ret p1)))) (fun h => by rw [Bd.returns] at h; cases h)
    have hv : (v5_ret p1 w_maxBits_ra0) = ((32 : Int32) - (v6_ret p1)) := (if_pos hc14_55)
    refine ⟨_, _, k56 _ ?_, hrun, hended, _, _, rfl, ?_, ⟨_, rfl⟩, hW, hsame.mono (by decide) (by decide)⟩
    · show Steps p.tables e below (T52.setTop (mkF m 29 #[.val (.ref ra0), .val (.int p1), .val (.int ((32 : Int32) - (v6_ret p1)))] [(.int ((32 : Int32) - (v6_ret p1)))])) _
      exact retI X52 hx Bd.returns (hb hby d5_29) hr
    · show Q5 Z ra0 p1 w_maxBits_ra0 h0 n0 _ T52.heap _
      rw [e52]
      exact ⟨(congrArg (fun z => some (Value.int z)) hv).symm, N49, rfl⟩
  · have k57 := fun (t : State) (kk : Steps p.tables e below (T52.setTop (mkF m 23 #[.val (.ref ra0), .val (.int p1), .val (.int ((32 : Int32) - (v6_ret p1)))] [(.ref ra0), (.int ((32 : Int32) - (v6_ret p1)))])) t) => k54 t (by
      show Steps p.tables e below (T52.setTop (mkF m 14 #[.val (.ref ra0), .val (.int p1), .val (.int ((32 : Int32) - (v6_ret p1)))] [(.int (9 : Int32)), (.int w_maxBits_ra0)])) _
      refine XS.icmpYes X52.here hx rfl (pc0 := 14) (pc' := 21) rfl (hb hby d5_14) rfl (feq hc14_55).2 (by decide) (by decide) ?_
      show Steps p.tables e below (T52.setTop (mkF m 21 #[.val (.ref ra0), .val (.int p1), .val (.int ((32 : Int32) - (v6_ret p1)))] [])) _
      refine XS.iloadN X52.here hx rfl (hb hby d5_21) rfl ?_
      show Steps p.tables e below (T52.setTop (mkF m 22 #[.val (.ref ra0), .val (.int p1), .val (.int ((32 : Int32) - (v6_ret p1)))] [(.int ((32 : Int32) - (v6_ret p1)))])) _
      refine XS.aloadN X52.here hx rfl (hb hby d5_22) rfl rfl ?_
      exact kk)
    obtain ⟨T58, X58, e58, st58⟩ := getF X52 hx hZ hown (host := "") (Or.inl (hw _ (List.mem_of_getElem? (i := 11) rfl))) Via.refl e52 F_maxBits_ra0 (g := (mkF m 23 #[.val (.ref ra0), .val (.int p1), .val (.int ((32 : Int32) - (v6_ret p1)))] [(.ref ra0), (.int ((32 : Int32) - (v6_ret p1)))])) rfl rfl (hb hby d5_23)
    have k59 := fun (t : State) (kk : Steps p.tables e below (T58.setTop (mkF m 26 #[.val (.ref ra0), .val (.int p1), .val (.int ((32 : Int32) - (v6_ret p1)))] [(.int w_maxBits_ra0), (.int ((32 : Int32) - (v6_ret p1)))])) t) => k57 t (st58 _ kk)
    have Zz60 : n0 ≤ h0.size := (Nat.le_trans Z0 KC0.1)
    obtain ⟨_, _, ⟨T60, L60, k60, n60⟩, -, X60, ⟨Lc60, hQ60, l60, y60, z60⟩, st60⟩ := Jvm.LawKit.callS X58 hx (y := (⟨"java/lang/Math", "min", "(II)I"⟩ : MethodName)) hown (mvT hZ (hw _ (List.mem_of_getElem? (i := 67) rfl))) (mvT hZ (hw _ (List.mem_of_getElem? (i := 68) rfl))) (mvT hZ (hw _ (List.mem_of_getElem? (i := 69) rfl))) (mvT hZ (hw _ (List.mem_of_getElem? (i := 70) rfl))) (by decide) (backOf (W := 0) (rm13 l Z a0 hw [] ((32 : Int32) - (v6_ret p1)) w_maxBits_ra0 h0 n0 Zz60) hZ (hw _ (List.mem_of_getElem? (i := 70) rfl)) (hw _ (List.mem_of_getElem? (i := 69) rfl)) (by decide) (by decide)) (g := (mkF m 26 #[.val (.ref ra0), .val (.int p1), .val (.int ((32 : Int32) - (v6_ret p1)))] [(.int w_maxBits_ra0), (.int ((32 : Int32) - (v6_ret p1)))])) rfl (by rw [hml]; rfl) (argsL := [(.int ((32 : Int32) - (v6_ret p1))), (.int w_maxBits_ra0)]) (rest := []) (lenOf pd_2 rfl) rfl (by show 2 * 0 + _ ≤ _; exact Nat.le_of_eq rfl) (hb hby d5_26) (fun _ _ => ⟨rfl, e58, (by decide : 0 + 0 ≤ _), (by decide : 0 + 0 ≤ _)⟩)
    dsimp only [Pt.U, Pt.locs, Pt.cells, Pt.slots] at X60 l60 y60 z60 st60 hQ60
    subst l60 y60 z60
    obtain ⟨rfl, N60q, e60⟩ := hQ60
    have N60 := Fr.app N49 N60q
    have k61 := fun (t : State) (kk : Steps p.tables e below (T60.setTop (mkF m 29 #[.val (.ref ra0), .val (.int p1), .val (.int ((32 : Int32) - (v6_ret p1)))] [(.int (v13_2_s0 ((32 : Int32) - (v6_ret p1)) w_maxBits_ra0))])) t) => k59 t (st60 _ kk)
    obtain ⟨fs, hr, hrun, hended, hW, hsame⟩ := X60.leave (v := some (.int (v13_2_s0 ((32 : Int32) - (v6_ret p1)) w_maxBits_ra0))) (fun h => by rw [Bd.returns] at h; cases h)
    have hv : (v5_ret p1 w_maxBits_ra0) = (v13_2_s0 ((32 : Int32) - (v6_ret p1)) w_maxBits_ra0) := (if_neg hc14_55)
    refine ⟨_, _, k61 _ ?_, hrun, hended, _, _, rfl, ?_, ⟨_, rfl⟩, hW, hsame.mono (by decide) (by decide)⟩
    · show Steps p.tables e below (T60.setTop (mkF m 29 #[.val (.ref ra0), .val (.int p1), .val (.int ((32 : Int32) - (v6_ret p1)))] [(.int (v13_2_s0 ((32 : Int32) - (v6_ret p1)) w_maxBits_ra0))])) _
      exact retI X60 hx Bd.returns (hb hby d5_29) hr
    · show Q5 Z ra0 p1 w_maxBits_ra0 h0 n0 _ T60.heap _
      rw [e60]
      exact ⟨(congrArg (fun z => some (Value.int z)) hv).symm, N60, rfl⟩
theorem d7_0 : decode prog_49_method_8_code 0 = .ok (.iload_n 1, 1) := by decide +kernel
theorem d7_1 : decode prog_49_method_8_code 1 = .ok (.aload_n 0, 1) := by decide +kernel
theorem d7_2 : decode prog_49_method_8_code 2 = .ok (.getfield 18, 3) := by decide +kernel
theorem d7_5 : decode prog_49_method_8_code 5 = .ok (.if_icmp .ne 10, 3) := by decide +kernel
theorem d7_8 : decode prog_49_method_8_code 8 = .ok (.aload_n 0, 1) := by decide +kernel
theorem d7_9 : decode prog_49_method_8_code 9 = .ok (.getfield 24, 3) := by decide +kernel
theorem d7_12 : decode prog_49_method_8_code 12 = .ok (.ifCond .eq 7, 3) := by decide +kernel
theorem d7_15 : decode prog_49_method_8_code 15 = .ok (.iconst 1, 1) := by decide +kernel
theorem d7_16 : decode prog_49_method_8_code 16 = .ok (.goto 4, 3) := by decide +kernel
theorem d7_19 : decode prog_49_method_8_code 19 = .ok (.iconst 0, 1) := by decide +kernel
theorem d7_20 : decode prog_49_method_8_code 20 = .ok (.ireturn, 1) := by decide +kernel
def v7_12_s0 (w_groupEnded_ra0 : Int32) : Int32 := if w_groupEnded_ra0 = (0 : Int32) then (0 : Int32) else (1 : Int32)
def v7_ret (p1 : Int32) (w_width_ra0 : Int32) (w_groupEnded_ra0 : Int32) : Int32 := (if p1 = w_width_ra0 then (nar .boolean (v7_12_s0 w_groupEnded_ra0)) else (1 : Int32))
theorem ef_rm7 (m : MethodId) (ra0 : Addr) (p1 : Int32) : entryFrame m #[(.ref ra0), (.int p1)] 2 = mkF m 0 #[.val (.ref ra0), .val (.int p1)] [] := by first | (simp [entryFrame, mkF, argsToLocals, Value.category]; done) | rfl
def Q7 (Z : State) (ra0 : Addr) (p1 : Int32) (w_width_ra0 : Int32) (w_groupEnded_ra0 : Int32) (h0 : Heap) (n0 : Nat) (v : Option Value) (h : Heap) (L : List Loc) : Prop := v = some (.int (v7_ret p1 w_width_ra0 w_groupEnded_ra0)) ∧ Fr n0 L ∧ h = h0
set_option maxRecDepth 65536 in
set_option maxHeartbeats 40000000 in
theorem rm7 (l : Launch) (Z : State) (a0 : Array Value) (hw : ∀ d ∈ tables_1, d.before a0 Z = true) (ws : List Jvm.Cond) (ra0 : Addr) (p1 : Int32) (w_width_ra0 : Int32) (w_groupEnded_ra0 : Int32) (h0 : Heap) (n0 : Nat) (Z0 : n0 ≤ h0.size) (F_width_ra0 : Fld Z h0 ra0 "phrasebook/ZFormat$Layout" "width" "I" (.int w_width_ra0)) (F_groupEnded_ra0 : Fld Z h0 ra0 "phrasebook/ZFormat$Layout" "groupEnded" "Z" (.int w_groupEnded_ra0)) :
    MetFree l (⟨"phrasebook/ZFormat$Layout", "startsGroup", "(I)Z"⟩ : MethodName) (head1 (Jvm.Cond.code (⟨"phrasebook/ZFormat$Layout", "startsGroup", "(I)Z"⟩ : MethodName) prog_49_method_8_code 2 (some .boolean) :: ws) ({ frames := 0, cells := 0, slots := 0, locals := 0 } : Room)) (fun a U => a = #[(.ref ra0), (.int p1)] ∧ Z.Warmed39 U.vm ∧ U.heap = h0) (fun _ _ _ _ _ => True) (fun _ U o U' => ∃ v L, o = .returned v ∧ Q7 Z ra0 p1 w_width_ra0 w_groupEnded_ra0 h0 n0 v U'.heap L ∧ FrameEnd U o U' L ({ frames := 0, cells := 0, slots := 0, locals := 0 } : Room).cells ({ frames := 0, cells := 0, slots := 0, locals := 0 } : Room).slots) := by
  refine MetFree.of_bodySF (plainFor_of_name pn_11) hisR ?_
  intro p e s m args below meth c s₁ Bd hml0 hP hK
  obtain ⟨rfl, hZ, hh⟩ := hP
  have hx := Bd.exec
  have hby := Bd.bytes
  have hml : c.maxLocals = 2 := hml0
  have hown : s.vm.findClass "phrasebook/ZFormat$Layout" = some m.cls := findClass_of_methodNamed Bd.named
  have hnm := (name_of_methodNamed Bd.named Bd.method).1
  have X0 : Stand p l e ({ frames := 0, cells := 0, slots := 0, locals := 0 } : Room) s m #[(.ref ra0), (.int p1)] below meth c s₁ [] 0 0 := Stand.of_body Bd
  have e0 : s₁.heap = h0 := by rw [← hh, Bd.state]; rfl
  have N0 := Fr.nil n0
  have KC0 := Keep.refl h0 ([] : List Addr)
  have pre0 : ∀ t, Steps p.tables e below (s₁.setTop (mkF m 0 #[.val (.ref ra0), .val (.int p1)] [])) t → Steps p.tables e below (s₁.setTop (entryFrame m #[(.ref ra0), (.int p1)] 2)) t := fun t k => castTop (ef_rm7 m ra0 p1) k
  have k62 := fun (t : State) (kk : Steps p.tables e below (s₁.setTop (mkF m 2 #[.val (.ref ra0), .val (.int p1)] [(.ref ra0), (.int p1)])) t) => pre0 t (by
    show Steps p.tables e below (s₁.setTop (mkF m 0 #[.val (.ref ra0), .val (.int p1)] [])) _
    refine XS.iloadN X0.here hx rfl (hb hby d7_0) rfl ?_
    show Steps p.tables e below (s₁.setTop (mkF m 1 #[.val (.ref ra0), .val (.int p1)] [(.int p1)])) _
    refine XS.aloadN X0.here hx rfl (hb hby d7_1) rfl rfl ?_
    exact kk)
  obtain ⟨T63, X63, e63, st63⟩ := getF X0 hx hZ hown (host := "") (Or.inl (hw _ (List.mem_of_getElem? (i := 18) rfl))) Via.refl e0 F_width_ra0 (g := (mkF m 2 #[.val (.ref ra0), .val (.int p1)] [(.ref ra0), (.int p1)])) rfl rfl (hb hby d7_2)
  have k64 := fun (t : State) (kk : Steps p.tables e below (T63.setTop (mkF m 5 #[.val (.ref ra0), .val (.int p1)] [(.int w_width_ra0), (.int p1)])) t) => k62 t (st63 _ kk)
  by_cases hc5_65 : p1 = w_width_ra0
  · have k66 := fun (t : State) (kk : Steps p.tables e below (T63.setTop (mkF m 9 #[.val (.ref ra0), .val (.int p1)] [(.ref ra0)])) t) => k64 t (by
      show Steps p.tables e below (T63.setTop (mkF m 5 #[.val (.ref ra0), .val (.int p1)] [(.int w_width_ra0), (.int p1)])) _
      refine XS.icmpNo X63.here hx rfl (hb hby d7_5) rfl (teq hc5_65).2 ?_
      show Steps p.tables e below (T63.setTop (mkF m 8 #[.val (.ref ra0), .val (.int p1)] [])) _
      refine XS.aloadN X63.here hx rfl (hb hby d7_8) rfl rfl ?_
      exact kk)
    obtain ⟨T67, X67, e67, st67⟩ := getF X63 hx hZ hown (host := "") (Or.inl (hw _ (List.mem_of_getElem? (i := 22) rfl))) Via.refl e63 F_groupEnded_ra0 (g := (mkF m 9 #[.val (.ref ra0), .val (.int p1)] [(.ref ra0)])) rfl rfl (hb hby d7_9)
    have k68 := fun (t : State) (kk : Steps p.tables e below (T67.setTop (mkF m 12 #[.val (.ref ra0), .val (.int p1)] [(.int w_groupEnded_ra0)])) t) => k66 t (st67 _ kk)
    have k71 := fun (t : State) (kk : Steps p.tables e below (T67.setTop (mkF m 20 #[.val (.ref ra0), .val (.int p1)] [(.int (v7_12_s0 w_groupEnded_ra0))])) t) => k68 t (by
      suffices k70 : Steps p.tables e below (T67.setTop (mkF m 20 #[.val (.ref ra0), .val (.int p1)] [(.int (v7_12_s0 w_groupEnded_ra0))])) t by
        by_cases hc12_69 : w_groupEnded_ra0 = (0 : Int32)
        · rw [(show (v7_12_s0 w_groupEnded_ra0) = (0 : Int32) from if_pos hc12_69)] at k70
          show Steps p.tables e below (T67.setTop (mkF m 12 #[.val (.ref ra0), .val (.int p1)] [(.int w_groupEnded_ra0)])) _
          refine XS.ifYes X67.here hx rfl (pc0 := 12) (pc' := 19) rfl (hb hby d7_12) rfl ((if0 _ _).trans (teq hc12_69).1) (by decide) (by decide) ?_
          show Steps p.tables e below (T67.setTop (mkF m 19 #[.val (.ref ra0), .val (.int p1)] [])) _
          refine XS.iconst X67.here hx rfl (hb hby d7_19) ?_
          exact k70
        · rw [(show (v7_12_s0 w_groupEnded_ra0) = (1 : Int32) from if_neg hc12_69)] at k70
          show Steps p.tables e below (T67.setTop (mkF m 12 #[.val (.ref ra0), .val (.int p1)] [(.int w_groupEnded_ra0)])) _
          refine XS.ifNo X67.here hx rfl (hb hby d7_12) rfl ((if0 _ _).trans (feq hc12_69).1) ?_
          show Steps p.tables e below (T67.setTop (mkF m 15 #[.val (.ref ra0), .val (.int p1)] [])) _
          refine XS.iconst X67.here hx rfl (hb hby d7_15) ?_
          show Steps p.tables e below (T67.setTop (mkF m 16 #[.val (.ref ra0), .val (.int p1)] [(.int (1 : Int32))])) _
          refine XS.goto X67.here hx rfl (pc0 := 16) (pc' := 20) rfl (hb hby d7_16) (by decide) (by decide) ?_
          exact k70
      exact kk)
    obtain ⟨fs, hr, hrun, hended, hW, hsame⟩ := X67.leave (v := some (.int (nar .boolean (v7_12_s0 w_groupEnded_ra0)))) (fun h => by rw [Bd.returns] at h; cases h)
    have hv : (v7_ret p1 w_width_ra0 w_groupEnded_ra0) = (nar .boolean (v7_12_s0 w_groupEnded_ra0)) := (if_pos hc5_65)
    refine ⟨_, _, k71 _ ?_, hrun, hended, _, _, rfl, ?_, ⟨_, rfl⟩, hW, hsame.mono (by decide) (by decide)⟩
    · show Steps p.tables e below (T67.setTop (mkF m 20 #[.val (.ref ra0), .val (.int p1)] [(.int (v7_12_s0 w_groupEnded_ra0))])) _
      exact retN X67 hx (t := .boolean) Bd.returns (by simp) (hb hby d7_20) hr
    · show Q7 Z ra0 p1 w_width_ra0 w_groupEnded_ra0 h0 n0 _ T67.heap _
      rw [e67]
      exact ⟨(congrArg (fun z => some (Value.int z)) hv).symm, N0, rfl⟩
  · have k72 := fun (t : State) (kk : Steps p.tables e below (T63.setTop (mkF m 20 #[.val (.ref ra0), .val (.int p1)] [(.int (1 : Int32))])) t) => k64 t (by
      show Steps p.tables e below (T63.setTop (mkF m 5 #[.val (.ref ra0), .val (.int p1)] [(.int w_width_ra0), (.int p1)])) _
      refine XS.icmpYes X63.here hx rfl (pc0 := 5) (pc' := 15) rfl (hb hby d7_5) rfl (feq hc5_65).2 (by decide) (by decide) ?_
      show Steps p.tables e below (T63.setTop (mkF m 15 #[.val (.ref ra0), .val (.int p1)] [])) _
      refine XS.iconst X63.here hx rfl (hb hby d7_15) ?_
      show Steps p.tables e below (T63.setTop (mkF m 16 #[.val (.ref ra0), .val (.int p1)] [(.int (1 : Int32))])) _
      refine XS.goto X63.here hx rfl (pc0 := 16) (pc' := 20) rfl (hb hby d7_16) (by decide) (by decide) ?_
      exact kk)
    obtain ⟨fs, hr, hrun, hended, hW, hsame⟩ := X63.leave (v := some (.int (1 : Int32))) (fun h => by rw [Bd.returns] at h; cases h)
    have hv : (v7_ret p1 w_width_ra0 w_groupEnded_ra0) = (1 : Int32) := (if_neg hc5_65)
    refine ⟨_, _, k72 _ ?_, hrun, hended, _, _, rfl, ?_, ⟨_, rfl⟩, hW, hsame.mono (by decide) (by decide)⟩
    · show Steps p.tables e below (T63.setTop (mkF m 20 #[.val (.ref ra0), .val (.int p1)] [(.int (1 : Int32))])) _
      exact retN X63 hx (t := .boolean) Bd.returns (by simp) (hb hby d7_20) hr
    · show Q7 Z ra0 p1 w_width_ra0 w_groupEnded_ra0 h0 n0 _ T63.heap _
      rw [e63]
      exact ⟨(congrArg (fun z => some (Value.int z)) hv).symm, N0, rfl⟩
theorem d12_0 : decode prog_49_method_9_code 0 = .ok (.aload_n 0, 1) := by decide +kernel
theorem d12_1 : decode prog_49_method_9_code 1 = .ok (.getfield 21, 3) := by decide +kernel
theorem d12_4 : decode prog_49_method_9_code 4 = .ok (.ifCond .ne 7, 3) := by decide +kernel
theorem d12_7 : decode prog_49_method_9_code 7 = .ok (.iconst 0, 1) := by decide +kernel
theorem d12_8 : decode prog_49_method_9_code 8 = .ok (.goto 15, 3) := by decide +kernel
theorem d12_11 : decode prog_49_method_9_code 11 = .ok (.bipush 8, 2) := by decide +kernel
theorem d12_13 : decode prog_49_method_9_code 13 = .ok (.aload_n 0, 1) := by decide +kernel
theorem d12_14 : decode prog_49_method_9_code 14 = .ok (.getfield 21, 3) := by decide +kernel
theorem d12_17 : decode prog_49_method_9_code 17 = .ok (.isub, 1) := by decide +kernel
theorem d12_18 : decode prog_49_method_9_code 18 = .ok (.aload_n 0, 1) := by decide +kernel
theorem d12_19 : decode prog_49_method_9_code 19 = .ok (.getfield 18, 3) := by decide +kernel
theorem d12_22 : decode prog_49_method_9_code 22 = .ok (.imul, 1) := by decide +kernel
theorem d12_23 : decode prog_49_method_9_code 23 = .ok (.ireturn, 1) := by decide +kernel
def v12_ret (w_codesInGroup_ra0 : Int32) (w_width_ra0 : Int32) : Int32 := (if w_codesInGroup_ra0 = (0 : Int32) then (0 : Int32) else (((8 : Int32) - w_codesInGroup_ra0) * w_width_ra0))
theorem ef_rm12 (m : MethodId) (ra0 : Addr) : entryFrame m #[(.ref ra0)] 1 = mkF m 0 #[.val (.ref ra0)] [] := by first | (simp [entryFrame, mkF, argsToLocals, Value.category]; done) | rfl
def Q12 (Z : State) (ra0 : Addr) (w_codesInGroup_ra0 : Int32) (w_width_ra0 : Int32) (h0 : Heap) (n0 : Nat) (v : Option Value) (h : Heap) (L : List Loc) : Prop := v = some (.int (v12_ret w_codesInGroup_ra0 w_width_ra0)) ∧ Fr n0 L ∧ h = h0
set_option maxRecDepth 65536 in
set_option maxHeartbeats 40000000 in
theorem rm12 (l : Launch) (Z : State) (a0 : Array Value) (hw : ∀ d ∈ tables_1, d.before a0 Z = true) (ws : List Jvm.Cond) (ra0 : Addr) (w_codesInGroup_ra0 : Int32) (w_width_ra0 : Int32) (h0 : Heap) (n0 : Nat) (Z0 : n0 ≤ h0.size) (F_codesInGroup_ra0 : Fld Z h0 ra0 "phrasebook/ZFormat$Layout" "codesInGroup" "I" (.int w_codesInGroup_ra0)) (F_width_ra0 : Fld Z h0 ra0 "phrasebook/ZFormat$Layout" "width" "I" (.int w_width_ra0)) :
    MetFree l (⟨"phrasebook/ZFormat$Layout", "restOfGroup", "()I"⟩ : MethodName) (head1 (Jvm.Cond.code (⟨"phrasebook/ZFormat$Layout", "restOfGroup", "()I"⟩ : MethodName) prog_49_method_9_code 1 (some .int) :: ws) ({ frames := 0, cells := 0, slots := 0, locals := 0 } : Room)) (fun a U => a = #[(.ref ra0)] ∧ Z.Warmed39 U.vm ∧ U.heap = h0) (fun _ _ _ _ _ => True) (fun _ U o U' => ∃ v L, o = .returned v ∧ Q12 Z ra0 w_codesInGroup_ra0 w_width_ra0 h0 n0 v U'.heap L ∧ FrameEnd U o U' L ({ frames := 0, cells := 0, slots := 0, locals := 0 } : Room).cells ({ frames := 0, cells := 0, slots := 0, locals := 0 } : Room).slots) := by
  refine MetFree.of_bodySF (plainFor_of_name pn_11) hisR ?_
  intro p e s m args below meth c s₁ Bd hml0 hP hK
  obtain ⟨rfl, hZ, hh⟩ := hP
  have hx := Bd.exec
  have hby := Bd.bytes
  have hml : c.maxLocals = 1 := hml0
  have hown : s.vm.findClass "phrasebook/ZFormat$Layout" = some m.cls := findClass_of_methodNamed Bd.named
  have hnm := (name_of_methodNamed Bd.named Bd.method).1
  have X0 : Stand p l e ({ frames := 0, cells := 0, slots := 0, locals := 0 } : Room) s m #[(.ref ra0)] below meth c s₁ [] 0 0 := Stand.of_body Bd
  have e0 : s₁.heap = h0 := by rw [← hh, Bd.state]; rfl
  have N0 := Fr.nil n0
  have KC0 := Keep.refl h0 ([] : List Addr)
  have pre0 : ∀ t, Steps p.tables e below (s₁.setTop (mkF m 0 #[.val (.ref ra0)] [])) t → Steps p.tables e below (s₁.setTop (entryFrame m #[(.ref ra0)] 1)) t := fun t k => castTop (ef_rm12 m ra0) k
  have k73 := fun (t : State) (kk : Steps p.tables e below (s₁.setTop (mkF m 1 #[.val (.ref ra0)] [(.ref ra0)])) t) => pre0 t (by
    show Steps p.tables e below (s₁.setTop (mkF m 0 #[.val (.ref ra0)] [])) _
    refine XS.aloadN X0.here hx rfl (hb hby d12_0) rfl rfl ?_
    exact kk)
  obtain ⟨T74, X74, e74, st74⟩ := getF X0 hx hZ hown (host := "") (Or.inl (hw _ (List.mem_of_getElem? (i := 20) rfl))) Via.refl e0 F_codesInGroup_ra0 (g := (mkF m 1 #[.val (.ref ra0)] [(.ref ra0)])) rfl rfl (hb hby d12_1)
  have k75 := fun (t : State) (kk : Steps p.tables e below (T74.setTop (mkF m 4 #[.val (.ref ra0)] [(.int w_codesInGroup_ra0)])) t) => k73 t (st74 _ kk)
  by_cases hc4_76 : w_codesInGroup_ra0 = (0 : Int32)
  · have k77 := fun (t : State) (kk : Steps p.tables e below (T74.setTop (mkF m 23 #[.val (.ref ra0)] [(.int (0 : Int32))])) t) => k75 t (by
      show Steps p.tables e below (T74.setTop (mkF m 4 #[.val (.ref ra0)] [(.int w_codesInGroup_ra0)])) _
      refine XS.ifNo X74.here hx rfl (hb hby d12_4) rfl ((if0 _ _).trans (teq hc4_76).2) ?_
      show Steps p.tables e below (T74.setTop (mkF m 7 #[.val (.ref ra0)] [])) _
      refine XS.iconst X74.here hx rfl (hb hby d12_7) ?_
      show Steps p.tables e below (T74.setTop (mkF m 8 #[.val (.ref ra0)] [(.int (0 : Int32))])) _
      refine XS.goto X74.here hx rfl (pc0 := 8) (pc' := 23) rfl (hb hby d12_8) (by decide) (by decide) ?_
      exact kk)
    obtain ⟨fs, hr, hrun, hended, hW, hsame⟩ := X74.leave (v := some (.int (0 : Int32))) (fun h => by rw [Bd.returns] at h; cases h)
    have hv : (v12_ret w_codesInGroup_ra0 w_width_ra0) = (0 : Int32) := (if_pos hc4_76)
    refine ⟨_, _, k77 _ ?_, hrun, hended, _, _, rfl, ?_, ⟨_, rfl⟩, hW, hsame.mono (by decide) (by decide)⟩
    · show Steps p.tables e below (T74.setTop (mkF m 23 #[.val (.ref ra0)] [(.int (0 : Int32))])) _
      exact retI X74 hx Bd.returns (hb hby d12_23) hr
    · show Q12 Z ra0 w_codesInGroup_ra0 w_width_ra0 h0 n0 _ T74.heap _
      rw [e74]
      exact ⟨(congrArg (fun z => some (Value.int z)) hv).symm, N0, rfl⟩
  · have k78 := fun (t : State) (kk : Steps p.tables e below (T74.setTop (mkF m 14 #[.val (.ref ra0)] [(.ref ra0), (.int (8 : Int32))])) t) => k75 t (by
      show Steps p.tables e below (T74.setTop (mkF m 4 #[.val (.ref ra0)] [(.int w_codesInGroup_ra0)])) _
      refine XS.ifYes X74.here hx rfl (pc0 := 4) (pc' := 11) rfl (hb hby d12_4) rfl ((if0 _ _).trans (feq hc4_76).2) (by decide) (by decide) ?_
      show Steps p.tables e below (T74.setTop (mkF m 11 #[.val (.ref ra0)] [])) _
      refine XS.bipush X74.here hx rfl (hb hby d12_11) ?_
      show Steps p.tables e below (T74.setTop (mkF m 13 #[.val (.ref ra0)] [(.int (8 : Int32))])) _
      refine XS.aloadN X74.here hx rfl (hb hby d12_13) rfl rfl ?_
      exact kk)
    obtain ⟨T79, X79, e79, st79⟩ := getF X74 hx hZ hown (host := "") (Or.inl (hw _ (List.mem_of_getElem? (i := 20) rfl))) Via.refl e74 F_codesInGroup_ra0 (g := (mkF m 14 #[.val (.ref ra0)] [(.ref ra0), (.int (8 : Int32))])) rfl rfl (hb hby d12_14)
    have k80 := fun (t : State) (kk : Steps p.tables e below (T79.setTop (mkF m 17 #[.val (.ref ra0)] [(.int w_codesInGroup_ra0), (.int (8 : Int32))])) t) => k78 t (st79 _ kk)
    have k81 := fun (t : State) (kk : Steps p.tables e below (T79.setTop (mkF m 19 #[.val (.ref ra0)] [(.ref ra0), (.int ((8 : Int32) - w_codesInGroup_ra0))])) t) => k80 t (by
      show Steps p.tables e below (T79.setTop (mkF m 17 #[.val (.ref ra0)] [(.int w_codesInGroup_ra0), (.int (8 : Int32))])) _
      refine XS.isub X79.here hx rfl (hb hby d12_17) rfl ?_
      show Steps p.tables e below (T79.setTop (mkF m 18 #[.val (.ref ra0)] [(.int ((8 : Int32) - w_codesInGroup_ra0))])) _
      refine XS.aloadN X79.here hx rfl (hb hby d12_18) rfl rfl ?_
      exact kk)
    obtain ⟨T82, X82, e82, st82⟩ := getF X79 hx hZ hown (host := "") (Or.inl (hw _ (List.mem_of_getElem? (i := 18) rfl))) Via.refl e79 F_width_ra0 (g := (mkF m 19 #[.val (.ref ra0)] [(.ref ra0), (.int ((8 : Int32) - w_codesInGroup_ra0))])) rfl rfl (hb hby d12_19)
    have k83 := fun (t : State) (kk : Steps p.tables e below (T82.setTop (mkF m 22 #[.val (.ref ra0)] [(.int w_width_ra0), (.int ((8 : Int32) - w_codesInGroup_ra0))])) t) => k81 t (st82 _ kk)
    have k84 := fun (t : State) (kk : Steps p.tables e below (T82.setTop (mkF m 23 #[.val (.ref ra0)] [(.int (((8 : Int32) - w_codesInGroup_ra0) * w_width_ra0))])) t) => k83 t (by
      show Steps p.tables e below (T82.setTop (mkF m 22 #[.val (.ref ra0)] [(.int w_width_ra0), (.int ((8 : Int32) - w_codesInGroup_ra0))])) _
      refine XS.imul X82.here hx rfl (hb hby d12_22) rfl ?_
      exact kk)
    obtain ⟨fs, hr, hrun, hended, hW, hsame⟩ := X82.leave (v := some (.int (((8 : Int32) - w_codesInGroup_ra0) * w_width_ra0))) (fun h => by rw [Bd.returns] at h; cases h)
    have hv : (v12_ret w_codesInGroup_ra0 w_width_ra0) = (((8 : Int32) - w_codesInGroup_ra0) * w_width_ra0) := (if_neg hc4_76)
    refine ⟨_, _, k84 _ ?_, hrun, hended, _, _, rfl, ?_, ⟨_, rfl⟩, hW, hsame.mono (by decide) (by decide)⟩
    · show Steps p.tables e below (T82.setTop (mkF m 23 #[.val (.ref ra0)] [(.int (((8 : Int32) - w_codesInGroup_ra0) * w_width_ra0))])) _
      exact retI X82 hx Bd.returns (hb hby d12_23) hr
    · show Q12 Z ra0 w_codesInGroup_ra0 w_width_ra0 h0 n0 _ T82.heap _
      rw [e82]
      exact ⟨(congrArg (fun z => some (Value.int z)) hv).symm, N0, rfl⟩
theorem pd_3 : parseMethodDescriptor "(I)Z" = some ⟨[.int], some .boolean⟩ := by decide +kernel
theorem pd_4 : parseMethodDescriptor "()I" = some ⟨[], some .int⟩ := by decide +kernel
theorem d4_0 : decode prog_49_method_3_code 0 = .ok (.aload_n 0, 1) := by decide +kernel
theorem d4_1 : decode prog_49_method_3_code 1 = .ok (.iload_n 1, 1) := by decide +kernel
theorem d4_2 : decode prog_49_method_3_code 2 = .ok (.invokevirtual 28, 3) := by decide +kernel
theorem d4_5 : decode prog_49_method_3_code 5 = .ok (.istore_n 2, 1) := by decide +kernel
theorem d4_6 : decode prog_49_method_3_code 6 = .ok (.iconst 0, 1) := by decide +kernel
theorem d4_7 : decode prog_49_method_3_code 7 = .ok (.istore_n 3, 1) := by decide +kernel
theorem d4_8 : decode prog_49_method_3_code 8 = .ok (.aload_n 0, 1) := by decide +kernel
theorem d4_9 : decode prog_49_method_3_code 9 = .ok (.iload_n 2, 1) := by decide +kernel
theorem d4_10 : decode prog_49_method_3_code 10 = .ok (.invokevirtual 32, 3) := by decide +kernel
theorem d4_13 : decode prog_49_method_3_code 13 = .ok (.ifCond .eq 18, 3) := by decide +kernel
theorem d4_16 : decode prog_49_method_3_code 16 = .ok (.aload_n 0, 1) := by decide +kernel
theorem d4_17 : decode prog_49_method_3_code 17 = .ok (.invokevirtual 36, 3) := by decide +kernel
theorem d4_20 : decode prog_49_method_3_code 20 = .ok (.istore_n 3, 1) := by decide +kernel
theorem d4_21 : decode prog_49_method_3_code 21 = .ok (.aload_n 0, 1) := by decide +kernel
theorem d4_22 : decode prog_49_method_3_code 22 = .ok (.iconst 0, 1) := by decide +kernel
theorem d4_23 : decode prog_49_method_3_code 23 = .ok (.putfield 21, 3) := by decide +kernel
theorem d4_26 : decode prog_49_method_3_code 26 = .ok (.aload_n 0, 1) := by decide +kernel
theorem d4_27 : decode prog_49_method_3_code 27 = .ok (.iconst 0, 1) := by decide +kernel
theorem d4_28 : decode prog_49_method_3_code 28 = .ok (.putfield 24, 3) := by decide +kernel
theorem d4_31 : decode prog_49_method_3_code 31 = .ok (.aload_n 0, 1) := by decide +kernel
theorem d4_32 : decode prog_49_method_3_code 32 = .ok (.iload_n 2, 1) := by decide +kernel
theorem d4_33 : decode prog_49_method_3_code 33 = .ok (.putfield 18, 3) := by decide +kernel
theorem d4_36 : decode prog_49_method_3_code 36 = .ok (.aload_n 0, 1) := by decide +kernel
theorem d4_37 : decode prog_49_method_3_code 37 = .ok (.aload_n 0, 1) := by decide +kernel
theorem d4_38 : decode prog_49_method_3_code 38 = .ok (.getfield 21, 3) := by decide +kernel
theorem d4_41 : decode prog_49_method_3_code 41 = .ok (.iconst 1, 1) := by decide +kernel
theorem d4_42 : decode prog_49_method_3_code 42 = .ok (.iadd, 1) := by decide +kernel
theorem d4_43 : decode prog_49_method_3_code 43 = .ok (.bipush 8, 2) := by decide +kernel
theorem d4_45 : decode prog_49_method_3_code 45 = .ok (.irem, 1) := by decide +kernel
theorem d4_46 : decode prog_49_method_3_code 46 = .ok (.putfield 21, 3) := by decide +kernel
theorem d4_49 : decode prog_49_method_3_code 49 = .ok (.iload_n 3, 1) := by decide +kernel
theorem d4_50 : decode prog_49_method_3_code 50 = .ok (.ireturn, 1) := by decide +kernel
def v4_f_codesInGroup_ra0 (p1 : Int32) (w_maxBits_ra0 : Int32) (w_width_ra0 : Int32) (w_groupEnded_ra0 : Int32) (w_codesInGroup_ra0 : Int32) : Int32 := (if (v7_ret (v5_ret p1 w_maxBits_ra0) w_width_ra0 w_groupEnded_ra0) = (0 : Int32) then ((w_codesInGroup_ra0 + (1 : Int32)) % (8 : Int32)) else (((0 : Int32) + (1 : Int32)) % (8 : Int32)))
def v4_f_groupEnded_ra0 (p1 : Int32) (w_maxBits_ra0 : Int32) (w_width_ra0 : Int32) (w_groupEnded_ra0 : Int32) : Int32 := (if (v7_ret (v5_ret p1 w_maxBits_ra0) w_width_ra0 w_groupEnded_ra0) = (0 : Int32) then w_groupEnded_ra0 else (0 : Int32))
def v4_ret (p1 : Int32) (w_maxBits_ra0 : Int32) (w_width_ra0 : Int32) (w_groupEnded_ra0 : Int32) (w_codesInGroup_ra0 : Int32) : Int32 := (if (v7_ret (v5_ret p1 w_maxBits_ra0) w_width_ra0 w_groupEnded_ra0) = (0 : Int32) then (0 : Int32) else (v12_ret w_codesInGroup_ra0 w_width_ra0))
theorem ef_rm4 (m : MethodId) (ra0 : Addr) (p1 : Int32) : entryFrame m #[(.ref ra0), (.int p1)] 4 = mkF m 0 #[.val (.ref ra0), .val (.int p1), .unset, .unset] [] := by first | (simp [entryFrame, mkF, argsToLocals, Value.category]; done) | rfl
def Q4 (Z : State) (ra0 : Addr) (p1 : Int32) (w_maxBits_ra0 : Int32) (w_width_ra0 : Int32) (w_groupEnded_ra0 : Int32) (w_codesInGroup_ra0 : Int32) (h0 : Heap) (n0 : Nat) (v : Option Value) (h : Heap) (L : List Loc) : Prop := v = some (.int (v4_ret p1 w_maxBits_ra0 w_width_ra0 w_groupEnded_ra0 w_codesInGroup_ra0)) ∧ Fr n0 L ∧ Keep h0 h [ra0] ∧ Exa Z h ra0 "phrasebook/ZFormat$Layout" ∧ Fld Z h ra0 "phrasebook/ZFormat$Layout" "maxBits" "I" (.int w_maxBits_ra0) ∧ Fld Z h ra0 "phrasebook/ZFormat$Layout" "width" "I" (.int (v5_ret p1 w_maxBits_ra0)) ∧ Fld Z h ra0 "phrasebook/ZFormat$Layout" "codesInGroup" "I" (.int (v4_f_codesInGroup_ra0 p1 w_maxBits_ra0 w_width_ra0 w_groupEnded_ra0 w_codesInGroup_ra0)) ∧ Fld Z h ra0 "phrasebook/ZFormat$Layout" "groupEnded" "Z" (.int (v4_f_groupEnded_ra0 p1 w_maxBits_ra0 w_width_ra0 w_groupEnded_ra0))
set_option maxRecDepth 65536 in
set_option maxHeartbeats 40000000 in
theorem rm4 (l : Launch) (Z : State) (a0 : Array Value) (hw : ∀ d ∈ tables_1, d.before a0 Z = true) (ws : List Jvm.Cond) (ra0 : Addr) (p1 : Int32) (w_maxBits_ra0 : Int32) (w_width_ra0 : Int32) (w_groupEnded_ra0 : Int32) (w_codesInGroup_ra0 : Int32) (h0 : Heap) (n0 : Nat) (Z0 : n0 ≤ h0.size) (F_maxBits_ra0 : Fld Z h0 ra0 "phrasebook/ZFormat$Layout" "maxBits" "I" (.int w_maxBits_ra0)) (E_ra0 : Exa Z h0 ra0 "phrasebook/ZFormat$Layout") (F_width_ra0 : Fld Z h0 ra0 "phrasebook/ZFormat$Layout" "width" "I" (.int w_width_ra0)) (F_groupEnded_ra0 : Fld Z h0 ra0 "phrasebook/ZFormat$Layout" "groupEnded" "Z" (.int w_groupEnded_ra0)) (g_ra0 : n0 ≤ ra0) (F_codesInGroup_ra0 : Fld Z h0 ra0 "phrasebook/ZFormat$Layout" "codesInGroup" "I" (.int w_codesInGroup_ra0)) :
    MetFree l (⟨"phrasebook/ZFormat$Layout", "place", "(I)I"⟩ : MethodName) (head1 (Jvm.Cond.code (⟨"phrasebook/ZFormat$Layout", "place", "(I)I"⟩ : MethodName) prog_49_method_3_code 4 (some .int) :: ws) ({ frames := 2, cells := 0, slots := 0, locals := 28 } : Room)) (fun a U => a = #[(.ref ra0), (.int p1)] ∧ Z.Warmed39 U.vm ∧ U.heap = h0) (fun _ _ _ _ _ => True) (fun _ U o U' => ∃ v L, o = .returned v ∧ Q4 Z ra0 p1 w_maxBits_ra0 w_width_ra0 w_groupEnded_ra0 w_codesInGroup_ra0 h0 n0 v U'.heap L ∧ FrameEnd U o U' L ({ frames := 2, cells := 0, slots := 0, locals := 28 } : Room).cells ({ frames := 2, cells := 0, slots := 0, locals := 28 } : Room).slots) := by
  refine MetFree.of_bodySF (plainFor_of_name pn_11) hisR ?_
  intro p e s m args below meth c s₁ Bd hml0 hP hK
  obtain ⟨rfl, hZ, hh⟩ := hP
  have hx := Bd.exec
  have hby := Bd.bytes
  have hml : c.maxLocals = 4 := hml0
  have hown : s.vm.findClass "phrasebook/ZFormat$Layout" = some m.cls := findClass_of_methodNamed Bd.named
  have hnm := (name_of_methodNamed Bd.named Bd.method).1
  have X0 : Stand p l e ({ frames := 2, cells := 0, slots := 0, locals := 28 } : Room) s m #[(.ref ra0), (.int p1)] below meth c s₁ [] 0 0 := Stand.of_body Bd
  have e0 : s₁.heap = h0 := by rw [← hh, Bd.state]; rfl
  have N0 := Fr.nil n0
  have KC0 := Keep.refl h0 [ra0]
  have pre0 : ∀ t, Steps p.tables e below (s₁.setTop (mkF m 0 #[.val (.ref ra0), .val (.int p1), .unset, .unset] [])) t → Steps p.tables e below (s₁.setTop (entryFrame m #[(.ref ra0), (.int p1)] 4)) t := fun t k => castTop (ef_rm4 m ra0 p1) k
  have k85 := fun (t : State) (kk : Steps p.tables e below (s₁.setTop (mkF m 2 #[.val (.ref ra0), .val (.int p1), .unset, .unset] [(.int p1), (.ref ra0)])) t) => pre0 t (by
    show Steps p.tables e below (s₁.setTop (mkF m 0 #[.val (.ref ra0), .val (.int p1), .unset, .unset] [])) _
    refine XS.aloadN X0.here hx rfl (hb hby d4_0) rfl rfl ?_
    show Steps p.tables e below (s₁.setTop (mkF m 1 #[.val (.ref ra0), .val (.int p1), .unset, .unset] [(.ref ra0)])) _
    refine XS.iloadN X0.here hx rfl (hb hby d4_1) rfl ?_
    exact kk)
  have Zz86 : n0 ≤ h0.size := (Nat.le_trans Z0 KC0.1)
  obtain ⟨cq86, q86, q86'⟩ := E_ra0.cell
  obtain ⟨_, _, ⟨T86, L86, k86, n86⟩, -, X86, ⟨Lc86, hQ86, l86, y86, z86⟩, st86⟩ := X0.privateBack hx (y := (⟨"phrasebook/ZFormat$Layout", "widthFor", "(I)I"⟩ : MethodName)) hown (mvT hZ (hw _ (List.mem_of_getElem? (i := 29) rfl))) (mvT hZ (hw _ (List.mem_of_getElem? (i := 30) rfl))) (own_selpriv (y := (⟨"phrasebook/ZFormat$Layout", "widthFor", "(I)I"⟩ : MethodName)) (mvT hZ (hw _ (List.mem_of_getElem? (i := 3) rfl))) (Cond.privateMethod_at (mvP hZ (hw _ (List.mem_of_getElem? (i := 31) rfl)) (args := #[]))) (mvT hZ (hw _ (List.mem_of_getElem? (i := 30) rfl))) (by decide)) (Cond.privateMethod_at (mvP hZ (hw _ (List.mem_of_getElem? (i := 31) rfl)) (args := #[]))) (mvT hZ (hw _ (List.mem_of_getElem? (i := 32) rfl))) (by decide) (backOf (W := 0) (rm5 l Z a0 hw [] ra0 p1 w_maxBits_ra0 h0 n0 Zz86 F_maxBits_ra0) hZ (hw _ (List.mem_of_getElem? (i := 32) rfl)) (hw _ (List.mem_of_getElem? (i := 4) rfl)) (by decide) (by decide)) (g := (mkF m 2 #[.val (.ref ra0), .val (.int p1), .unset, .unset] [(.int p1), (.ref ra0)])) rfl (by rw [hml]; rfl) (Steps.refl _) (a := ra0) (by rw [e0]; exact q86) q86' (argsL := [(.int p1)]) (rest := []) (lenOf pd_1 rfl) rfl (by show 2 * 0 + _ ≤ _; exact Nat.le_of_eq rfl) (hb hby d4_2) (fun _ _ => ⟨rfl, e0, (by decide : 0 + 0 ≤ _), (by decide : 0 + 0 ≤ _)⟩)
  dsimp only [Pt.U, Pt.locs, Pt.cells, Pt.slots] at X86 l86 y86 z86 st86 hQ86
  subst l86 y86 z86
  obtain ⟨rfl, N86q, e86⟩ := hQ86
  have N86 := Fr.app N0 N86q
  have k87 := fun (t : State) (kk : Steps p.tables e below (T86.setTop (mkF m 5 #[.val (.ref ra0), .val (.int p1), .unset, .unset] [(.int (v5_ret p1 w_maxBits_ra0))])) t) => k85 t (st86.trans kk)
  have k88 := fun (t : State) (kk : Steps p.tables e below (T86.setTop (mkF m 10 #[.val (.ref ra0), .val (.int p1), .val (.int (v5_ret p1 w_maxBits_ra0)), .val (.int (0 : Int32))] [(.int (v5_ret p1 w_maxBits_ra0)), (.ref ra0)])) t) => k87 t (by
    show Steps p.tables e below (T86.setTop (mkF m 5 #[.val (.ref ra0), .val (.int p1), .unset, .unset] [(.int (v5_ret p1 w_maxBits_ra0))])) _
    refine XS.istoreN X86.here hx rfl (hb hby d4_5) rfl (l' := #[.val (.ref ra0), .val (.int p1), .val (.int (v5_ret p1 w_maxBits_ra0)), .unset]) rfl ?_
    show Steps p.tables e below (T86.setTop (mkF m 6 #[.val (.ref ra0), .val (.int p1), .val (.int (v5_ret p1 w_maxBits_ra0)), .unset] [])) _
    refine XS.iconst X86.here hx rfl (hb hby d4_6) ?_
    show Steps p.tables e below (T86.setTop (mkF m 7 #[.val (.ref ra0), .val (.int p1), .val (.int (v5_ret p1 w_maxBits_ra0)), .unset] [(.int (0 : Int32))])) _
    refine XS.istoreN X86.here hx rfl (hb hby d4_7) rfl (l' := #[.val (.ref ra0), .val (.int p1), .val (.int (v5_ret p1 w_maxBits_ra0)), .val (.int (0 : Int32))]) rfl ?_
    show Steps p.tables e below (T86.setTop (mkF m 8 #[.val (.ref ra0), .val (.int p1), .val (.int (v5_ret p1 w_maxBits_ra0)), .val (.int (0 : Int32))] [])) _
    refine XS.aloadN X86.here hx rfl (hb hby d4_8) rfl rfl ?_
    show Steps p.tables e below (T86.setTop (mkF m 9 #[.val (.ref ra0), .val (.int p1), .val (.int (v5_ret p1 w_maxBits_ra0)), .val (.int (0 : Int32))] [(.ref ra0)])) _
    refine XS.iloadN X86.here hx rfl (hb hby d4_9) rfl ?_
    exact kk)
  have Zz89 : n0 ≤ h0.size := (Nat.le_trans Z0 KC0.1)
  obtain ⟨cq89, q89, q89'⟩ := E_ra0.cell
  obtain ⟨_, _, ⟨T89, L89, k89, n89⟩, -, X89, ⟨Lc89, hQ89, l89, y89, z89⟩, st89⟩ := X86.privateBack hx (y := (⟨"phrasebook/ZFormat$Layout", "startsGroup", "(I)Z"⟩ : MethodName)) hown (mvT hZ (hw _ (List.mem_of_getElem? (i := 38) rfl))) (mvT hZ (hw _ (List.mem_of_getElem? (i := 39) rfl))) (own_selpriv (y := (⟨"phrasebook/ZFormat$Layout", "startsGroup", "(I)Z"⟩ : MethodName)) (mvT hZ (hw _ (List.mem_of_getElem? (i := 3) rfl))) (Cond.privateMethod_at (mvP hZ (hw _ (List.mem_of_getElem? (i := 40) rfl)) (args := #[]))) (mvT hZ (hw _ (List.mem_of_getElem? (i := 39) rfl))) (by decide)) (Cond.privateMethod_at (mvP hZ (hw _ (List.mem_of_getElem? (i := 40) rfl)) (args := #[]))) (mvT hZ (hw _ (List.mem_of_getElem? (i := 41) rfl))) (by decide) (backOf (W := 0) (rm7 l Z a0 hw [] ra0 (v5_ret p1 w_maxBits_ra0) w_width_ra0 w_groupEnded_ra0 h0 n0 Zz89 F_width_ra0 F_groupEnded_ra0) hZ (hw _ (List.mem_of_getElem? (i := 41) rfl)) (hw _ (List.mem_of_getElem? (i := 4) rfl)) (by decide) (by decide)) (g := (mkF m 10 #[.val (.ref ra0), .val (.int p1), .val (.int (v5_ret p1 w_maxBits_ra0)), .val (.int (0 : Int32))] [(.int (v5_ret p1 w_maxBits_ra0)), (.ref ra0)])) rfl (by rw [hml]; rfl) (Steps.refl _) (a := ra0) (by rw [e86]; exact q89) q89' (argsL := [(.int (v5_ret p1 w_maxBits_ra0))]) (rest := []) (lenOf pd_3 rfl) rfl (by show 2 * 0 + _ ≤ _; exact Nat.le_of_eq rfl) (hb hby d4_10) (fun _ _ => ⟨rfl, e86, (by decide : 0 + 0 ≤ _), (by decide : 0 + 0 ≤ _)⟩)
  dsimp only [Pt.U, Pt.locs, Pt.cells, Pt.slots] at X89 l89 y89 z89 st89 hQ89
  subst l89 y89 z89
  obtain ⟨rfl, N89q, e89⟩ := hQ89
  have N89 := Fr.app N86 N89q
  have k90 := fun (t : State) (kk : Steps p.tables e below (T89.setTop (mkF m 13 #[.val (.ref ra0), .val (.int p1), .val (.int (v5_ret p1 w_maxBits_ra0)), .val (.int (0 : Int32))] [(.int (v7_ret (v5_ret p1 w_maxBits_ra0) w_width_ra0 w_groupEnded_ra0))])) t) => k88 t (st89.trans kk)
  by_cases hc13_91 : (v7_ret (v5_ret p1 w_maxBits_ra0) w_width_ra0 w_groupEnded_ra0) = (0 : Int32)
  · have k92 := fun (t : State) (kk : Steps p.tables e below (T89.setTop (mkF m 33 #[.val (.ref ra0), .val (.int p1), .val (.int (v5_ret p1 w_maxBits_ra0)), .val (.int (0 : Int32))] [(.int (v5_ret p1 w_maxBits_ra0)), (.ref ra0)])) t) => k90 t (by
      show Steps p.tables e below (T89.setTop (mkF m 13 #[.val (.ref ra0), .val (.int p1), .val (.int (v5_ret p1 w_maxBits_ra0)), .val (.int (0 : Int32))] [(.int (v7_ret (v5_ret p1 w_maxBits_ra0) w_width_ra0 w_groupEnded_ra0))])) _
      refine XS.ifYes X89.here hx rfl (pc0 := 13) (pc' := 31) rfl (hb hby d4_13) rfl ((if0 _ _).trans (teq hc13_91).1) (by decide) (by decide) ?_
      show Steps p.tables e below (T89.setTop (mkF m 31 #[.val (.ref ra0), .val (.int p1), .val (.int (v5_ret p1 w_maxBits_ra0)), .val (.int (0 : Int32))] [])) _
      refine XS.aloadN X89.here hx rfl (hb hby d4_31) rfl rfl ?_
      show Steps p.tables e below (T89.setTop (mkF m 32 #[.val (.ref ra0), .val (.int p1), .val (.int (v5_ret p1 w_maxBits_ra0)), .val (.int (0 : Int32))] [(.ref ra0)])) _
      refine XS.iloadN X89.here hx rfl (hb hby d4_32) rfl ?_
      exact kk)
    obtain ⟨T93, h93, X93, e93, W93, st93⟩ := putF X89 hx hZ hown (host := "") (Or.inl (hw _ (List.mem_of_getElem? (i := 18) rfl))) Via.refl e89 F_width_ra0 E_ra0 (Or.inl (hw _ (List.mem_of_getElem? (i := 19) rfl))) (hw _ (List.mem_of_getElem? (i := 3) rfl)) (ty := .int) (by decide) rfl rfl (g := (mkF m 33 #[.val (.ref ra0), .val (.int p1), .val (.int (v5_ret p1 w_maxBits_ra0)), .val (.int (0 : Int32))] [(.int (v5_ret p1 w_maxBits_ra0)), (.ref ra0)])) rfl rfl (hb hby d4_33)
    have Fw93 := F_width_ra0.same W93
    have K93 : Keep h0 h93 [ra0] := KC0.wr W93 (Or.inl (List.mem_of_getElem? (i := 0) rfl))
    have N93 := Fr.snoc X93 N89 g_ra0
    have k94 := fun (t : State) (kk : Steps p.tables e below (T93.setTop (mkF m 36 #[.val (.ref ra0), .val (.int p1), .val (.int (v5_ret p1 w_maxBits_ra0)), .val (.int (0 : Int32))] [])) t) => k92 t (st93 _ kk)
    have k95 := fun (t : State) (kk : Steps p.tables e below (T93.setTop (mkF m 38 #[.val (.ref ra0), .val (.int p1), .val (.int (v5_ret p1 w_maxBits_ra0)), .val (.int (0 : Int32))] [(.ref ra0), (.ref ra0)])) t) => k94 t (by
      show Steps p.tables e below (T93.setTop (mkF m 36 #[.val (.ref ra0), .val (.int p1), .val (.int (v5_ret p1 w_maxBits_ra0)), .val (.int (0 : Int32))] [])) _
      refine XS.aloadN X93.here hx rfl (hb hby d4_36) rfl rfl ?_
      show Steps p.tables e below (T93.setTop (mkF m 37 #[.val (.ref ra0), .val (.int p1), .val (.int (v5_ret p1 w_maxBits_ra0)), .val (.int (0 : Int32))] [(.ref ra0)])) _
      refine XS.aloadN X93.here hx rfl (hb hby d4_37) rfl rfl ?_
      exact kk)
    have f96 := (F_codesInGroup_ra0.other W93 (Or.inr (slot_ne (Or.inl (hw _ (List.mem_of_getElem? (i := 21) rfl))) (Or.inl (hw _ (List.mem_of_getElem? (i := 19) rfl))) (by decide) (t := .int) (t' := .int) (by decide) (by decide))))
    obtain ⟨T97, X97, e97, st97⟩ := getF X93 hx hZ hown (host := "") (Or.inl (hw _ (List.mem_of_getElem? (i := 20) rfl))) Via.refl e93 f96 (g := (mkF m 38 #[.val (.ref ra0), .val (.int p1), .val (.int (v5_ret p1 w_maxBits_ra0)), .val (.int (0 : Int32))] [(.ref ra0), (.ref ra0)])) rfl rfl (hb hby d4_38)
    have k98 := fun (t : State) (kk : Steps p.tables e below (T97.setTop (mkF m 41 #[.val (.ref ra0), .val (.int p1), .val (.int (v5_ret p1 w_maxBits_ra0)), .val (.int (0 : Int32))] [(.int w_codesInGroup_ra0), (.ref ra0)])) t) => k95 t (st97 _ kk)
    have k99 := fun (t : State) (kk : Steps p.tables e below (T97.setTop (mkF m 46 #[.val (.ref ra0), .val (.int p1), .val (.int (v5_ret p1 w_maxBits_ra0)), .val (.int (0 : Int32))] [(.int ((w_codesInGroup_ra0 + (1 : Int32)) % (8 : Int32))), (.ref ra0)])) t) => k98 t (by
      show Steps p.tables e below (T97.setTop (mkF m 41 #[.val (.ref ra0), .val (.int p1), .val (.int (v5_ret p1 w_maxBits_ra0)), .val (.int (0 : Int32))] [(.int w_codesInGroup_ra0), (.ref ra0)])) _
      refine XS.iconst X97.here hx rfl (hb hby d4_41) ?_
      show Steps p.tables e below (T97.setTop (mkF m 42 #[.val (.ref ra0), .val (.int p1), .val (.int (v5_ret p1 w_maxBits_ra0)), .val (.int (0 : Int32))] [(.int (1 : Int32)), (.int w_codesInGroup_ra0), (.ref ra0)])) _
      refine XS.iadd X97.here hx rfl (hb hby d4_42) rfl ?_
      show Steps p.tables e below (T97.setTop (mkF m 43 #[.val (.ref ra0), .val (.int p1), .val (.int (v5_ret p1 w_maxBits_ra0)), .val (.int (0 : Int32))] [(.int (w_codesInGroup_ra0 + (1 : Int32))), (.ref ra0)])) _
      refine XS.bipush X97.here hx rfl (hb hby d4_43) ?_
      show Steps p.tables e below (T97.setTop (mkF m 45 #[.val (.ref ra0), .val (.int p1), .val (.int (v5_ret p1 w_maxBits_ra0)), .val (.int (0 : Int32))] [(.int (8 : Int32)), (.int (w_codesInGroup_ra0 + (1 : Int32))), (.ref ra0)])) _
      refine iremM X97 hx rfl (hb hby d4_45) rfl (by decide) ?_
      exact kk)
    have f100 := (E_ra0.wr W93)
    obtain ⟨T101, h101, X101, e101, W101, st101⟩ := putF X97 hx hZ hown (host := "") (Or.inl (hw _ (List.mem_of_getElem? (i := 20) rfl))) Via.refl e97 f96 f100 (Or.inl (hw _ (List.mem_of_getElem? (i := 21) rfl))) (hw _ (List.mem_of_getElem? (i := 3) rfl)) (ty := .int) (by decide) rfl rfl (g := (mkF m 46 #[.val (.ref ra0), .val (.int p1), .val (.int (v5_ret p1 w_maxBits_ra0)), .val (.int (0 : Int32))] [(.int ((w_codesInGroup_ra0 + (1 : Int32)) % (8 : Int32))), (.ref ra0)])) rfl rfl (hb hby d4_46)
    have Fw101 := f96.same W101
    have K101 : Keep h0 h101 [ra0] := K93.wr W101 (Or.inl (List.mem_of_getElem? (i := 0) rfl))
    have N101 := Fr.snoc X101 N93 g_ra0
    have k102 := fun (t : State) (kk : Steps p.tables e below (T101.setTop (mkF m 49 #[.val (.ref ra0), .val (.int p1), .val (.int (v5_ret p1 w_maxBits_ra0)), .val (.int (0 : Int32))] [])) t) => k99 t (st101 _ kk)
    have k103 := fun (t : State) (kk : Steps p.tables e below (T101.setTop (mkF m 50 #[.val (.ref ra0), .val (.int p1), .val (.int (v5_ret p1 w_maxBits_ra0)), .val (.int (0 : Int32))] [(.int (0 : Int32))])) t) => k102 t (by
      show Steps p.tables e below (T101.setTop (mkF m 49 #[.val (.ref ra0), .val (.int p1), .val (.int (v5_ret p1 w_maxBits_ra0)), .val (.int (0 : Int32))] [])) _
      refine XS.iloadN X101.here hx rfl (hb hby d4_49) rfl ?_
      exact kk)
    obtain ⟨fs, hr, hrun, hended, hW, hsame⟩ := X101.leave (v := some (.int (0 : Int32))) (fun h => by rw [Bd.returns] at h; cases h)
    have hv : (v4_ret p1 w_maxBits_ra0 w_width_ra0 w_groupEnded_ra0 w_codesInGroup_ra0) = (0 : Int32) := (if_pos hc13_91)
    have f104 := (f100.wr W101)
    have f105 := ((F_maxBits_ra0.other W93 (Or.inr (slot_ne (Or.inr (hw _ (List.mem_of_getElem? (i := 12) rfl))) (Or.inl (hw _ (List.mem_of_getElem? (i := 19) rfl))) (by decide) (t := .int) (t' := .int) (by decide) (by decide)))).other W101 (Or.inr (slot_ne (Or.inr (hw _ (List.mem_of_getElem? (i := 12) rfl))) (Or.inl (hw _ (List.mem_of_getElem? (i := 21) rfl))) (by decide) (t := .int) (t' := .int) (by decide) (by decide))))
    have f106 := (Fw93.other W101 (Or.inr (slot_ne (Or.inl (hw _ (List.mem_of_getElem? (i := 19) rfl))) (Or.inl (hw _ (List.mem_of_getElem? (i := 21) rfl))) (by decide) (t := .int) (t' := .int) (by decide) (by decide))))
    have hf107 : (v4_f_codesInGroup_ra0 p1 w_maxBits_ra0 w_width_ra0 w_groupEnded_ra0 w_codesInGroup_ra0) = ((w_codesInGroup_ra0 + (1 : Int32)) % (8 : Int32)) := (if_pos hc13_91)
    have f108 := ((F_groupEnded_ra0.other W93 (Or.inr (slot_ne (Or.inl (hw _ (List.mem_of_getElem? (i := 23) rfl))) (Or.inl (hw _ (List.mem_of_getElem? (i := 19) rfl))) (by decide) (t := .boolean) (t' := .int) (by decide) (by decide)))).other W101 (Or.inr (slot_ne (Or.inl (hw _ (List.mem_of_getElem? (i := 23) rfl))) (Or.inl (hw _ (List.mem_of_getElem? (i := 21) rfl))) (by decide) (t := .boolean) (t' := .int) (by decide) (by decide))))
    have hf109 : (v4_f_groupEnded_ra0 p1 w_maxBits_ra0 w_width_ra0 w_groupEnded_ra0) = w_groupEnded_ra0 := (if_pos hc13_91)
    refine ⟨_, _, k103 _ ?_, hrun, hended, _, _, rfl, ?_, ⟨_, rfl⟩, hW, hsame.mono (by decide) (by decide)⟩
    · show Steps p.tables e below (T101.setTop (mkF m 50 #[.val (.ref ra0), .val (.int p1), .val (.int (v5_ret p1 w_maxBits_ra0)), .val (.int (0 : Int32))] [(.int (0 : Int32))])) _
      exact retI X101 hx Bd.returns (hb hby d4_50) hr
    · show Q4 Z ra0 p1 w_maxBits_ra0 w_width_ra0 w_groupEnded_ra0 w_codesInGroup_ra0 h0 n0 _ T101.heap _
      rw [e101]
      exact ⟨(congrArg (fun z => some (Value.int z)) hv).symm, N101, K101, f104, f105, f106, (by rw [hf107]; exact Fw101), (by rw [hf109]; exact f108)⟩
  · have k110 := fun (t : State) (kk : Steps p.tables e below (T89.setTop (mkF m 17 #[.val (.ref ra0), .val (.int p1), .val (.int (v5_ret p1 w_maxBits_ra0)), .val (.int (0 : Int32))] [(.ref ra0)])) t) => k90 t (by
      show Steps p.tables e below (T89.setTop (mkF m 13 #[.val (.ref ra0), .val (.int p1), .val (.int (v5_ret p1 w_maxBits_ra0)), .val (.int (0 : Int32))] [(.int (v7_ret (v5_ret p1 w_maxBits_ra0) w_width_ra0 w_groupEnded_ra0))])) _
      refine XS.ifNo X89.here hx rfl (hb hby d4_13) rfl ((if0 _ _).trans (feq hc13_91).1) ?_
      show Steps p.tables e below (T89.setTop (mkF m 16 #[.val (.ref ra0), .val (.int p1), .val (.int (v5_ret p1 w_maxBits_ra0)), .val (.int (0 : Int32))] [])) _
      refine XS.aloadN X89.here hx rfl (hb hby d4_16) rfl rfl ?_
      exact kk)
    have Zz111 : n0 ≤ h0.size := (Nat.le_trans Z0 KC0.1)
    obtain ⟨cq111, q111, q111'⟩ := E_ra0.cell
    obtain ⟨_, _, ⟨T111, L111, k111, n111⟩, -, X111, ⟨Lc111, hQ111, l111, y111, z111⟩, st111⟩ := X89.privateBack hx (y := (⟨"phrasebook/ZFormat$Layout", "restOfGroup", "()I"⟩ : MethodName)) hown (mvT hZ (hw _ (List.mem_of_getElem? (i := 62) rfl))) (mvT hZ (hw _ (List.mem_of_getElem? (i := 63) rfl))) (own_selpriv (y := (⟨"phrasebook/ZFormat$Layout", "restOfGroup", "()I"⟩ : MethodName)) (mvT hZ (hw _ (List.mem_of_getElem? (i := 3) rfl))) (Cond.privateMethod_at (mvP hZ (hw _ (List.mem_of_getElem? (i := 64) rfl)) (args := #[]))) (mvT hZ (hw _ (List.mem_of_getElem? (i := 63) rfl))) (by decide)) (Cond.privateMethod_at (mvP hZ (hw _ (List.mem_of_getElem? (i := 64) rfl)) (args := #[]))) (mvT hZ (hw _ (List.mem_of_getElem? (i := 65) rfl))) (by decide) (backOf (W := 0) (rm12 l Z a0 hw [] ra0 w_codesInGroup_ra0 w_width_ra0 h0 n0 Zz111 F_codesInGroup_ra0 F_width_ra0) hZ (hw _ (List.mem_of_getElem? (i := 65) rfl)) (hw _ (List.mem_of_getElem? (i := 4) rfl)) (by decide) (by decide)) (g := (mkF m 17 #[.val (.ref ra0), .val (.int p1), .val (.int (v5_ret p1 w_maxBits_ra0)), .val (.int (0 : Int32))] [(.ref ra0)])) rfl (by rw [hml]; rfl) (Steps.refl _) (a := ra0) (by rw [e89]; exact q111) q111' (argsL := []) (rest := []) (lenOf pd_4 rfl) rfl (by show 2 * 0 + _ ≤ _; exact Nat.le_of_eq rfl) (hb hby d4_17) (fun _ _ => ⟨rfl, e89, (by decide : 0 + 0 ≤ _), (by decide : 0 + 0 ≤ _)⟩)
    dsimp only [Pt.U, Pt.locs, Pt.cells, Pt.slots] at X111 l111 y111 z111 st111 hQ111
    subst l111 y111 z111
    obtain ⟨rfl, N111q, e111⟩ := hQ111
    have N111 := Fr.app N89 N111q
    have k112 := fun (t : State) (kk : Steps p.tables e below (T111.setTop (mkF m 20 #[.val (.ref ra0), .val (.int p1), .val (.int (v5_ret p1 w_maxBits_ra0)), .val (.int (0 : Int32))] [(.int (v12_ret w_codesInGroup_ra0 w_width_ra0))])) t) => k110 t (st111.trans kk)
    have k113 := fun (t : State) (kk : Steps p.tables e below (T111.setTop (mkF m 23 #[.val (.ref ra0), .val (.int p1), .val (.int (v5_ret p1 w_maxBits_ra0)), .val (.int (v12_ret w_codesInGroup_ra0 w_width_ra0))] [(.int (0 : Int32)), (.ref ra0)])) t) => k112 t (by
      show Steps p.tables e below (T111.setTop (mkF m 20 #[.val (.ref ra0), .val (.int p1), .val (.int (v5_ret p1 w_maxBits_ra0)), .val (.int (0 : Int32))] [(.int (v12_ret w_codesInGroup_ra0 w_width_ra0))])) _
      refine XS.istoreN X111.here hx rfl (hb hby d4_20) rfl (l' := #[.val (.ref ra0), .val (.int p1), .val (.int (v5_ret p1 w_maxBits_ra0)), .val (.int (v12_ret w_codesInGroup_ra0 w_width_ra0))]) rfl ?_
      show Steps p.tables e below (T111.setTop (mkF m 21 #[.val (.ref ra0), .val (.int p1), .val (.int (v5_ret p1 w_maxBits_ra0)), .val (.int (v12_ret w_codesInGroup_ra0 w_width_ra0))] [])) _
      refine XS.aloadN X111.here hx rfl (hb hby d4_21) rfl rfl ?_
      show Steps p.tables e below (T111.setTop (mkF m 22 #[.val (.ref ra0), .val (.int p1), .val (.int (v5_ret p1 w_maxBits_ra0)), .val (.int (v12_ret w_codesInGroup_ra0 w_width_ra0))] [(.ref ra0)])) _
      refine XS.iconst X111.here hx rfl (hb hby d4_22) ?_
      exact kk)
    obtain ⟨T114, h114, X114, e114, W114, st114⟩ := putF X111 hx hZ hown (host := "") (Or.inl (hw _ (List.mem_of_getElem? (i := 20) rfl))) Via.refl e111 F_codesInGroup_ra0 E_ra0 (Or.inl (hw _ (List.mem_of_getElem? (i := 21) rfl))) (hw _ (List.mem_of_getElem? (i := 3) rfl)) (ty := .int) (by decide) rfl rfl (g := (mkF m 23 #[.val (.ref ra0), .val (.int p1), .val (.int (v5_ret p1 w_maxBits_ra0)), .val (.int (v12_ret w_codesInGroup_ra0 w_width_ra0))] [(.int (0 : Int32)), (.ref ra0)])) rfl rfl (hb hby d4_23)
    have Fw114 := F_codesInGroup_ra0.same W114
    have K114 : Keep h0 h114 [ra0] := KC0.wr W114 (Or.inl (List.mem_of_getElem? (i := 0) rfl))
    have N114 := Fr.snoc X114 N111 g_ra0
    have k115 := fun (t : State) (kk : Steps p.tables e below (T114.setTop (mkF m 26 #[.val (.ref ra0), .val (.int p1), .val (.int (v5_ret p1 w_maxBits_ra0)), .val (.int (v12_ret w_codesInGroup_ra0 w_width_ra0))] [])) t) => k113 t (st114 _ kk)
    have k116 := fun (t : State) (kk : Steps p.tables e below (T114.setTop (mkF m 28 #[.val (.ref ra0), .val (.int p1), .val (.int (v5_ret p1 w_maxBits_ra0)), .val (.int (v12_ret w_codesInGroup_ra0 w_width_ra0))] [(.int (0 : Int32)), (.ref ra0)])) t) => k115 t (by
      show Steps p.tables e below (T114.setTop (mkF m 26 #[.val (.ref ra0), .val (.int p1), .val (.int (v5_ret p1 w_maxBits_ra0)), .val (.int (v12_ret w_codesInGroup_ra0 w_width_ra0))] [])) _
      refine XS.aloadN X114.here hx rfl (hb hby d4_26) rfl rfl ?_
      show Steps p.tables e below (T114.setTop (mkF m 27 #[.val (.ref ra0), .val (.int p1), .val (.int (v5_ret p1 w_maxBits_ra0)), .val (.int (v12_ret w_codesInGroup_ra0 w_width_ra0))] [(.ref ra0)])) _
      refine XS.iconst X114.here hx rfl (hb hby d4_27) ?_
      exact kk)
    have f117 := (E_ra0.wr W114)
    have f118 := (F_groupEnded_ra0.other W114 (Or.inr (slot_ne (Or.inl (hw _ (List.mem_of_getElem? (i := 23) rfl))) (Or.inl (hw _ (List.mem_of_getElem? (i := 21) rfl))) (by decide) (t := .boolean) (t' := .int) (by decide) (by decide))))
    obtain ⟨T119, h119, X119, e119, W119, st119⟩ := putFN X114 hx hZ hown (hw _ (List.mem_of_getElem? (i := 22) rfl)) Via.refl e114 f118 f117 (Or.inl (hw _ (List.mem_of_getElem? (i := 23) rfl))) (hw _ (List.mem_of_getElem? (i := 3) rfl)) (ty := .boolean) (v' := (.int (0 : Int32))) (by decide) rfl rfl (g := (mkF m 28 #[.val (.ref ra0), .val (.int p1), .val (.int (v5_ret p1 w_maxBits_ra0)), .val (.int (v12_ret w_codesInGroup_ra0 w_width_ra0))] [(.int (0 : Int32)), (.ref ra0)])) rfl rfl (hb hby d4_28)
    have Fw119 := f118.same W119
    have K119 : Keep h0 h119 [ra0] := K114.wr W119 (Or.inl (List.mem_of_getElem? (i := 0) rfl))
    have N119 := Fr.snoc X119 N114 g_ra0
    have k120 := fun (t : State) (kk : Steps p.tables e below (T119.setTop (mkF m 31 #[.val (.ref ra0), .val (.int p1), .val (.int (v5_ret p1 w_maxBits_ra0)), .val (.int (v12_ret w_codesInGroup_ra0 w_width_ra0))] [])) t) => k116 t (st119 _ kk)
    have k121 := fun (t : State) (kk : Steps p.tables e below (T119.setTop (mkF m 33 #[.val (.ref ra0), .val (.int p1), .val (.int (v5_ret p1 w_maxBits_ra0)), .val (.int (v12_ret w_codesInGroup_ra0 w_width_ra0))] [(.int (v5_ret p1 w_maxBits_ra0)), (.ref ra0)])) t) => k120 t (by
      show Steps p.tables e below (T119.setTop (mkF m 31 #[.val (.ref ra0), .val (.int p1), .val (.int (v5_ret p1 w_maxBits_ra0)), .val (.int (v12_ret w_codesInGroup_ra0 w_width_ra0))] [])) _
      refine XS.aloadN X119.here hx rfl (hb hby d4_31) rfl rfl ?_
      show Steps p.tables e below (T119.setTop (mkF m 32 #[.val (.ref ra0), .val (.int p1), .val (.int (v5_ret p1 w_maxBits_ra0)), .val (.int (v12_ret w_codesInGroup_ra0 w_width_ra0))] [(.ref ra0)])) _
      refine XS.iloadN X119.here hx rfl (hb hby d4_32) rfl ?_
      exact kk)
    have f122 := (f117.wr W119)
    have f123 := ((F_width_ra0.other W114 (Or.inr (slot_ne (Or.inl (hw _ (List.mem_of_getElem? (i := 19) rfl))) (Or.inl (hw _ (List.mem_of_getElem? (i := 21) rfl))) (by decide) (t := .int) (t' := .int) (by decide) (by decide)))).other W119 (Or.inr (slot_ne (Or.inl (hw _ (List.mem_of_getElem? (i := 19) rfl))) (Or.inl (hw _ (List.mem_of_getElem? (i := 23) rfl))) (by decide) (t := .int) (t' := .boolean) (by decide) (by decide))))
    obtain ⟨T124, h124, X124, e124, W124, st124⟩ := putF X119 hx hZ hown (host := "") (Or.inl (hw _ (List.mem_of_getElem? (i := 18) rfl))) Via.refl e119 f123 f122 (Or.inl (hw _ (List.mem_of_getElem? (i := 19) rfl))) (hw _ (List.mem_of_getElem? (i := 3) rfl)) (ty := .int) (by decide) rfl rfl (g := (mkF m 33 #[.val (.ref ra0), .val (.int p1), .val (.int (v5_ret p1 w_maxBits_ra0)), .val (.int (v12_ret w_codesInGroup_ra0 w_width_ra0))] [(.int (v5_ret p1 w_maxBits_ra0)), (.ref ra0)])) rfl rfl (hb hby d4_33)
    have Fw124 := f123.same W124
    have K124 : Keep h0 h124 [ra0] := K119.wr W124 (Or.inl (List.mem_of_getElem? (i := 0) rfl))
    have N124 := Fr.snoc X124 N119 g_ra0
    have k125 := fun (t : State) (kk : Steps p.tables e below (T124.setTop (mkF m 36 #[.val (.ref ra0), .val (.int p1), .val (.int (v5_ret p1 w_maxBits_ra0)), .val (.int (v12_ret w_codesInGroup_ra0 w_width_ra0))] [])) t) => k121 t (st124 _ kk)
    have k126 := fun (t : State) (kk : Steps p.tables e below (T124.setTop (mkF m 38 #[.val (.ref ra0), .val (.int p1), .val (.int (v5_ret p1 w_maxBits_ra0)), .val (.int (v12_ret w_codesInGroup_ra0 w_width_ra0))] [(.ref ra0), (.ref ra0)])) t) => k125 t (by
      show Steps p.tables e below (T124.setTop (mkF m 36 #[.val (.ref ra0), .val (.int p1), .val (.int (v5_ret p1 w_maxBits_ra0)), .val (.int (v12_ret w_codesInGroup_ra0 w_width_ra0))] [])) _
      refine XS.aloadN X124.here hx rfl (hb hby d4_36) rfl rfl ?_
      show Steps p.tables e below (T124.setTop (mkF m 37 #[.val (.ref ra0), .val (.int p1), .val (.int (v5_ret p1 w_maxBits_ra0)), .val (.int (v12_ret w_codesInGroup_ra0 w_width_ra0))] [(.ref ra0)])) _
      refine XS.aloadN X124.here hx rfl (hb hby d4_37) rfl rfl ?_
      exact kk)
    have f127 := ((Fw114.other W119 (Or.inr (slot_ne (Or.inl (hw _ (List.mem_of_getElem? (i := 21) rfl))) (Or.inl (hw _ (List.mem_of_getElem? (i := 23) rfl))) (by decide) (t := .int) (t' := .boolean) (by decide) (by decide)))).other W124 (Or.inr (slot_ne (Or.inl (hw _ (List.mem_of_getElem? (i := 21) rfl))) (Or.inl (hw _ (List.mem_of_getElem? (i := 19) rfl))) (by decide) (t := .int) (t' := .int) (by decide) (by decide))))
    obtain ⟨T128, X128, e128, st128⟩ := getF X124 hx hZ hown (host := "") (Or.inl (hw _ (List.mem_of_getElem? (i := 20) rfl))) Via.refl e124 f127 (g := (mkF m 38 #[.val (.ref ra0), .val (.int p1), .val (.int (v5_ret p1 w_maxBits_ra0)), .val (.int (v12_ret w_codesInGroup_ra0 w_width_ra0))] [(.ref ra0), (.ref ra0)])) rfl rfl (hb hby d4_38)
    have k129 := fun (t : State) (kk : Steps p.tables e below (T128.setTop (mkF m 41 #[.val (.ref ra0), .val (.int p1), .val (.int (v5_ret p1 w_maxBits_ra0)), .val (.int (v12_ret w_codesInGroup_ra0 w_width_ra0))] [(.int (0 : Int32)), (.ref ra0)])) t) => k126 t (st128 _ kk)
    have k130 := fun (t : State) (kk : Steps p.tables e below (T128.setTop (mkF m 46 #[.val (.ref ra0), .val (.int p1), .val (.int (v5_ret p1 w_maxBits_ra0)), .val (.int (v12_ret w_codesInGroup_ra0 w_width_ra0))] [(.int (((0 : Int32) + (1 : Int32)) % (8 : Int32))), (.ref ra0)])) t) => k129 t (by
      show Steps p.tables e below (T128.setTop (mkF m 41 #[.val (.ref ra0), .val (.int p1), .val (.int (v5_ret p1 w_maxBits_ra0)), .val (.int (v12_ret w_codesInGroup_ra0 w_width_ra0))] [(.int (0 : Int32)), (.ref ra0)])) _
      refine XS.iconst X128.here hx rfl (hb hby d4_41) ?_
      show Steps p.tables e below (T128.setTop (mkF m 42 #[.val (.ref ra0), .val (.int p1), .val (.int (v5_ret p1 w_maxBits_ra0)), .val (.int (v12_ret w_codesInGroup_ra0 w_width_ra0))] [(.int (1 : Int32)), (.int (0 : Int32)), (.ref ra0)])) _
      refine XS.iadd X128.here hx rfl (hb hby d4_42) rfl ?_
      show Steps p.tables e below (T128.setTop (mkF m 43 #[.val (.ref ra0), .val (.int p1), .val (.int (v5_ret p1 w_maxBits_ra0)), .val (.int (v12_ret w_codesInGroup_ra0 w_width_ra0))] [(.int ((0 : Int32) + (1 : Int32))), (.ref ra0)])) _
      refine XS.bipush X128.here hx rfl (hb hby d4_43) ?_
      show Steps p.tables e below (T128.setTop (mkF m 45 #[.val (.ref ra0), .val (.int p1), .val (.int (v5_ret p1 w_maxBits_ra0)), .val (.int (v12_ret w_codesInGroup_ra0 w_width_ra0))] [(.int (8 : Int32)), (.int ((0 : Int32) + (1 : Int32))), (.ref ra0)])) _
      refine iremM X128 hx rfl (hb hby d4_45) rfl (by decide) ?_
      exact kk)
    have f131 := (f122.wr W124)
    obtain ⟨T132, h132, X132, e132, W132, st132⟩ := putF X128 hx hZ hown (host := "") (Or.inl (hw _ (List.mem_of_getElem? (i := 20) rfl))) Via.refl e128 f127 f131 (Or.inl (hw _ (List.mem_of_getElem? (i := 21) rfl))) (hw _ (List.mem_of_getElem? (i := 3) rfl)) (ty := .int) (by decide) rfl rfl (g := (mkF m 46 #[.val (.ref ra0), .val (.int p1), .val (.int (v5_ret p1 w_maxBits_ra0)), .val (.int (v12_ret w_codesInGroup_ra0 w_width_ra0))] [(.int (((0 : Int32) + (1 : Int32)) % (8 : Int32))), (.ref ra0)])) rfl rfl (hb hby d4_46)
    have Fw132 := f127.same W132
    have K132 : Keep h0 h132 [ra0] := K124.wr W132 (Or.inl (List.mem_of_getElem? (i := 0) rfl))
    have N132 := Fr.snoc X132 N124 g_ra0
    have k133 := fun (t : State) (kk : Steps p.tables e below (T132.setTop (mkF m 49 #[.val (.ref ra0), .val (.int p1), .val (.int (v5_ret p1 w_maxBits_ra0)), .val (.int (v12_ret w_codesInGroup_ra0 w_width_ra0))] [])) t) => k130 t (st132 _ kk)
    have k134 := fun (t : State) (kk : Steps p.tables e below (T132.setTop (mkF m 50 #[.val (.ref ra0), .val (.int p1), .val (.int (v5_ret p1 w_maxBits_ra0)), .val (.int (v12_ret w_codesInGroup_ra0 w_width_ra0))] [(.int (v12_ret w_codesInGroup_ra0 w_width_ra0))])) t) => k133 t (by
      show Steps p.tables e below (T132.setTop (mkF m 49 #[.val (.ref ra0), .val (.int p1), .val (.int (v5_ret p1 w_maxBits_ra0)), .val (.int (v12_ret w_codesInGroup_ra0 w_width_ra0))] [])) _
      refine XS.iloadN X132.here hx rfl (hb hby d4_49) rfl ?_
      exact kk)
    obtain ⟨fs, hr, hrun, hended, hW, hsame⟩ := X132.leave (v := some (.int (v12_ret w_codesInGroup_ra0 w_width_ra0))) (fun h => by rw [Bd.returns] at h; cases h)
    have hv : (v4_ret p1 w_maxBits_ra0 w_width_ra0 w_groupEnded_ra0 w_codesInGroup_ra0) = (v12_ret w_codesInGroup_ra0 w_width_ra0) := (if_neg hc13_91)
    have f135 := (f131.wr W132)
    have f136 := ((((F_maxBits_ra0.other W114 (Or.inr (slot_ne (Or.inr (hw _ (List.mem_of_getElem? (i := 12) rfl))) (Or.inl (hw _ (List.mem_of_getElem? (i := 21) rfl))) (by decide) (t := .int) (t' := .int) (by decide) (by decide)))).other W119 (Or.inr (slot_ne (Or.inr (hw _ (List.mem_of_getElem? (i := 12) rfl))) (Or.inl (hw _ (List.mem_of_getElem? (i := 23) rfl))) (by decide) (t := .int) (t' := .boolean) (by decide) (by decide)))).other W124 (Or.inr (slot_ne (Or.inr (hw _ (List.mem_of_getElem? (i := 12) rfl))) (Or.inl (hw _ (List.mem_of_getElem? (i := 19) rfl))) (by decide) (t := .int) (t' := .int) (by decide) (by decide)))).other W132 (Or.inr (slot_ne (Or.inr (hw _ (List.mem_of_getElem? (i := 12) rfl))) (Or.inl (hw _ (List.mem_of_getElem? (i := 21) rfl))) (by decide) (t := .int) (t' := .int) (by decide) (by decide))))
    have f137 := (Fw124.other W132 (Or.inr (slot_ne (Or.inl (hw _ (List.mem_of_getElem? (i := 19) rfl))) (Or.inl (hw _ (List.mem_of_getElem? (i := 21) rfl))) (by decide) (t := .int) (t' := .int) (by decide) (by decide))))
    have hf138 : (v4_f_codesInGroup_ra0 p1 w_maxBits_ra0 w_width_ra0 w_groupEnded_ra0 w_codesInGroup_ra0) = (((0 : Int32) + (1 : Int32)) % (8 : Int32)) := (if_neg hc13_91)
    have f139 := ((Fw119.other W124 (Or.inr (slot_ne (Or.inl (hw _ (List.mem_of_getElem? (i := 23) rfl))) (Or.inl (hw _ (List.mem_of_getElem? (i := 19) rfl))) (by decide) (t := .boolean) (t' := .int) (by decide) (by decide)))).other W132 (Or.inr (slot_ne (Or.inl (hw _ (List.mem_of_getElem? (i := 23) rfl))) (Or.inl (hw _ (List.mem_of_getElem? (i := 21) rfl))) (by decide) (t := .boolean) (t' := .int) (by decide) (by decide))))
    have hf140 : (v4_f_groupEnded_ra0 p1 w_maxBits_ra0 w_width_ra0 w_groupEnded_ra0) = (0 : Int32) := (if_neg hc13_91)
    refine ⟨_, _, k134 _ ?_, hrun, hended, _, _, rfl, ?_, ⟨_, rfl⟩, hW, hsame.mono (by decide) (by decide)⟩
    · show Steps p.tables e below (T132.setTop (mkF m 50 #[.val (.ref ra0), .val (.int p1), .val (.int (v5_ret p1 w_maxBits_ra0)), .val (.int (v12_ret w_codesInGroup_ra0 w_width_ra0))] [(.int (v12_ret w_codesInGroup_ra0 w_width_ra0))])) _
      exact retI X132 hx Bd.returns (hb hby d4_50) hr
    · show Q4 Z ra0 p1 w_maxBits_ra0 w_width_ra0 w_groupEnded_ra0 w_codesInGroup_ra0 h0 n0 _ T132.heap _
      rw [e132]
      exact ⟨(congrArg (fun z => some (Value.int z)) hv).symm, N132, K132, f135, f136, f137, (by rw [hf138]; exact Fw132), (by rw [hf140]; exact f139)⟩
theorem d8_0 : decode prog_49_method_6_code 0 = .ok (.aload_n 0, 1) := by decide +kernel
theorem d8_1 : decode prog_49_method_6_code 1 = .ok (.getfield 18, 3) := by decide +kernel
theorem d8_4 : decode prog_49_method_6_code 4 = .ok (.ireturn, 1) := by decide +kernel
theorem ef_rm8 (m : MethodId) (ra0 : Addr) : entryFrame m #[(.ref ra0)] 1 = mkF m 0 #[.val (.ref ra0)] [] := by first | (simp [entryFrame, mkF, argsToLocals, Value.category]; done) | rfl
def Q8 (Z : State) (ra0 : Addr) (w_width_ra0 : Int32) (h0 : Heap) (n0 : Nat) (v : Option Value) (h : Heap) (L : List Loc) : Prop := v = some (.int w_width_ra0) ∧ Fr n0 L ∧ h = h0
set_option maxRecDepth 65536 in
set_option maxHeartbeats 40000000 in
theorem rm8 (l : Launch) (Z : State) (a0 : Array Value) (hw : ∀ d ∈ tables_1, d.before a0 Z = true) (ws : List Jvm.Cond) (ra0 : Addr) (w_width_ra0 : Int32) (h0 : Heap) (n0 : Nat) (Z0 : n0 ≤ h0.size) (F_width_ra0 : Fld Z h0 ra0 "phrasebook/ZFormat$Layout" "width" "I" (.int w_width_ra0)) :
    MetFree l (⟨"phrasebook/ZFormat$Layout", "width", "()I"⟩ : MethodName) (head1 (Jvm.Cond.code (⟨"phrasebook/ZFormat$Layout", "width", "()I"⟩ : MethodName) prog_49_method_6_code 1 (some .int) :: ws) ({ frames := 0, cells := 0, slots := 0, locals := 0 } : Room)) (fun a U => a = #[(.ref ra0)] ∧ Z.Warmed39 U.vm ∧ U.heap = h0) (fun _ _ _ _ _ => True) (fun _ U o U' => ∃ v L, o = .returned v ∧ Q8 Z ra0 w_width_ra0 h0 n0 v U'.heap L ∧ FrameEnd U o U' L ({ frames := 0, cells := 0, slots := 0, locals := 0 } : Room).cells ({ frames := 0, cells := 0, slots := 0, locals := 0 } : Room).slots) := by
  refine MetFree.of_bodySF (plainFor_of_name pn_11) hisR ?_
  intro p e s m args below meth c s₁ Bd hml0 hP hK
  obtain ⟨rfl, hZ, hh⟩ := hP
  have hx := Bd.exec
  have hby := Bd.bytes
  have hml : c.maxLocals = 1 := hml0
  have hown : s.vm.findClass "phrasebook/ZFormat$Layout" = some m.cls := findClass_of_methodNamed Bd.named
  have hnm := (name_of_methodNamed Bd.named Bd.method).1
  have X0 : Stand p l e ({ frames := 0, cells := 0, slots := 0, locals := 0 } : Room) s m #[(.ref ra0)] below meth c s₁ [] 0 0 := Stand.of_body Bd
  have e0 : s₁.heap = h0 := by rw [← hh, Bd.state]; rfl
  have N0 := Fr.nil n0
  have KC0 := Keep.refl h0 ([] : List Addr)
  have pre0 : ∀ t, Steps p.tables e below (s₁.setTop (mkF m 0 #[.val (.ref ra0)] [])) t → Steps p.tables e below (s₁.setTop (entryFrame m #[(.ref ra0)] 1)) t := fun t k => castTop (ef_rm8 m ra0) k
  have k141 := fun (t : State) (kk : Steps p.tables e below (s₁.setTop (mkF m 1 #[.val (.ref ra0)] [(.ref ra0)])) t) => pre0 t (by
    show Steps p.tables e below (s₁.setTop (mkF m 0 #[.val (.ref ra0)] [])) _
    refine XS.aloadN X0.here hx rfl (hb hby d8_0) rfl rfl ?_
    exact kk)
  obtain ⟨T142, X142, e142, st142⟩ := getF X0 hx hZ hown (host := "") (Or.inl (hw _ (List.mem_of_getElem? (i := 18) rfl))) Via.refl e0 F_width_ra0 (g := (mkF m 1 #[.val (.ref ra0)] [(.ref ra0)])) rfl rfl (hb hby d8_1)
  have k143 := fun (t : State) (kk : Steps p.tables e below (T142.setTop (mkF m 4 #[.val (.ref ra0)] [(.int w_width_ra0)])) t) => k141 t (st142 _ kk)
  obtain ⟨fs, hr, hrun, hended, hW, hsame⟩ := X142.leave (v := some (.int w_width_ra0)) (fun h => by rw [Bd.returns] at h; cases h)
  refine ⟨_, _, k143 _ ?_, hrun, hended, _, _, rfl, ?_, ⟨_, rfl⟩, hW, hsame.mono (by decide) (by decide)⟩
  · show Steps p.tables e below (T142.setTop (mkF m 4 #[.val (.ref ra0)] [(.int w_width_ra0)])) _
    exact retI X142 hx Bd.returns (hb hby d8_4) hr
  · show Q8 Z ra0 w_width_ra0 h0 n0 _ T142.heap _
    rw [e142]
    exact ⟨rfl, N0, rfl⟩
theorem d9_0 : decode prog_49_method_5_code 0 = .ok (.aload_n 0, 1) := by decide +kernel
theorem d9_1 : decode prog_49_method_5_code 1 = .ok (.aload_n 0, 1) := by decide +kernel
theorem d9_2 : decode prog_49_method_5_code 2 = .ok (.getfield 21, 3) := by decide +kernel
theorem d9_5 : decode prog_49_method_5_code 5 = .ok (.iload_n 1, 1) := by decide +kernel
theorem d9_6 : decode prog_49_method_5_code 6 = .ok (.iadd, 1) := by decide +kernel
theorem d9_7 : decode prog_49_method_5_code 7 = .ok (.bipush 8, 2) := by decide +kernel
theorem d9_9 : decode prog_49_method_5_code 9 = .ok (.irem, 1) := by decide +kernel
theorem d9_10 : decode prog_49_method_5_code 10 = .ok (.putfield 21, 3) := by decide +kernel
theorem d9_13 : decode prog_49_method_5_code 13 = .ok (.return_, 1) := by decide +kernel
theorem ef_rm9 (m : MethodId) (ra0 : Addr) (p1 : Int32) : entryFrame m #[(.ref ra0), (.int p1)] 2 = mkF m 0 #[.val (.ref ra0), .val (.int p1)] [] := by first | (simp [entryFrame, mkF, argsToLocals, Value.category]; done) | rfl
def Q9 (Z : State) (ra0 : Addr) (p1 : Int32) (w_codesInGroup_ra0 : Int32) (w_maxBits_ra0 : Int32) (w_width_ra0 : Int32) (w_groupEnded_ra0 : Int32) (h0 : Heap) (n0 : Nat) (v : Option Value) (h : Heap) (L : List Loc) : Prop := v = none ∧ Fr n0 L ∧ Keep h0 h [ra0] ∧ Exa Z h ra0 "phrasebook/ZFormat$Layout" ∧ Fld Z h ra0 "phrasebook/ZFormat$Layout" "maxBits" "I" (.int w_maxBits_ra0) ∧ Fld Z h ra0 "phrasebook/ZFormat$Layout" "width" "I" (.int w_width_ra0) ∧ Fld Z h ra0 "phrasebook/ZFormat$Layout" "codesInGroup" "I" (.int ((w_codesInGroup_ra0 + p1) % (8 : Int32))) ∧ Fld Z h ra0 "phrasebook/ZFormat$Layout" "groupEnded" "Z" (.int w_groupEnded_ra0)
set_option maxRecDepth 65536 in
set_option maxHeartbeats 40000000 in
theorem rm9 (l : Launch) (Z : State) (a0 : Array Value) (hw : ∀ d ∈ tables_1, d.before a0 Z = true) (ws : List Jvm.Cond) (ra0 : Addr) (p1 : Int32) (w_codesInGroup_ra0 : Int32) (w_maxBits_ra0 : Int32) (w_width_ra0 : Int32) (w_groupEnded_ra0 : Int32) (h0 : Heap) (n0 : Nat) (Z0 : n0 ≤ h0.size) (F_codesInGroup_ra0 : Fld Z h0 ra0 "phrasebook/ZFormat$Layout" "codesInGroup" "I" (.int w_codesInGroup_ra0)) (E_ra0 : Exa Z h0 ra0 "phrasebook/ZFormat$Layout") (g_ra0 : n0 ≤ ra0) (F_maxBits_ra0 : Fld Z h0 ra0 "phrasebook/ZFormat$Layout" "maxBits" "I" (.int w_maxBits_ra0)) (F_width_ra0 : Fld Z h0 ra0 "phrasebook/ZFormat$Layout" "width" "I" (.int w_width_ra0)) (F_groupEnded_ra0 : Fld Z h0 ra0 "phrasebook/ZFormat$Layout" "groupEnded" "Z" (.int w_groupEnded_ra0)) :
    MetFree l (⟨"phrasebook/ZFormat$Layout", "placeMore", "(I)V"⟩ : MethodName) (head1 (Jvm.Cond.code (⟨"phrasebook/ZFormat$Layout", "placeMore", "(I)V"⟩ : MethodName) prog_49_method_5_code 2 none :: ws) ({ frames := 0, cells := 0, slots := 0, locals := 0 } : Room)) (fun a U => a = #[(.ref ra0), (.int p1)] ∧ Z.Warmed39 U.vm ∧ U.heap = h0) (fun _ _ _ _ _ => True) (fun _ U o U' => ∃ v L, o = .returned v ∧ Q9 Z ra0 p1 w_codesInGroup_ra0 w_maxBits_ra0 w_width_ra0 w_groupEnded_ra0 h0 n0 v U'.heap L ∧ FrameEnd U o U' L ({ frames := 0, cells := 0, slots := 0, locals := 0 } : Room).cells ({ frames := 0, cells := 0, slots := 0, locals := 0 } : Room).slots) := by
  refine MetFree.of_bodySF (plainFor_of_name pn_11) hisR ?_
  intro p e s m args below meth c s₁ Bd hml0 hP hK
  obtain ⟨rfl, hZ, hh⟩ := hP
  have hx := Bd.exec
  have hby := Bd.bytes
  have hml : c.maxLocals = 2 := hml0
  have hown : s.vm.findClass "phrasebook/ZFormat$Layout" = some m.cls := findClass_of_methodNamed Bd.named
  have hnm := (name_of_methodNamed Bd.named Bd.method).1
  have X0 : Stand p l e ({ frames := 0, cells := 0, slots := 0, locals := 0 } : Room) s m #[(.ref ra0), (.int p1)] below meth c s₁ [] 0 0 := Stand.of_body Bd
  have e0 : s₁.heap = h0 := by rw [← hh, Bd.state]; rfl
  have N0 := Fr.nil n0
  have KC0 := Keep.refl h0 [ra0]
  have pre0 : ∀ t, Steps p.tables e below (s₁.setTop (mkF m 0 #[.val (.ref ra0), .val (.int p1)] [])) t → Steps p.tables e below (s₁.setTop (entryFrame m #[(.ref ra0), (.int p1)] 2)) t := fun t k => castTop (ef_rm9 m ra0 p1) k
  have k144 := fun (t : State) (kk : Steps p.tables e below (s₁.setTop (mkF m 2 #[.val (.ref ra0), .val (.int p1)] [(.ref ra0), (.ref ra0)])) t) => pre0 t (by
    show Steps p.tables e below (s₁.setTop (mkF m 0 #[.val (.ref ra0), .val (.int p1)] [])) _
    refine XS.aloadN X0.here hx rfl (hb hby d9_0) rfl rfl ?_
    show Steps p.tables e below (s₁.setTop (mkF m 1 #[.val (.ref ra0), .val (.int p1)] [(.ref ra0)])) _
    refine XS.aloadN X0.here hx rfl (hb hby d9_1) rfl rfl ?_
    exact kk)
  obtain ⟨T145, X145, e145, st145⟩ := getF X0 hx hZ hown (host := "") (Or.inl (hw _ (List.mem_of_getElem? (i := 20) rfl))) Via.refl e0 F_codesInGroup_ra0 (g := (mkF m 2 #[.val (.ref ra0), .val (.int p1)] [(.ref ra0), (.ref ra0)])) rfl rfl (hb hby d9_2)
  have k146 := fun (t : State) (kk : Steps p.tables e below (T145.setTop (mkF m 5 #[.val (.ref ra0), .val (.int p1)] [(.int w_codesInGroup_ra0), (.ref ra0)])) t) => k144 t (st145 _ kk)
  have k147 := fun (t : State) (kk : Steps p.tables e below (T145.setTop (mkF m 10 #[.val (.ref ra0), .val (.int p1)] [(.int ((w_codesInGroup_ra0 + p1) % (8 : Int32))), (.ref ra0)])) t) => k146 t (by
    show Steps p.tables e below (T145.setTop (mkF m 5 #[.val (.ref ra0), .val (.int p1)] [(.int w_codesInGroup_ra0), (.ref ra0)])) _
    refine XS.iloadN X145.here hx rfl (hb hby d9_5) rfl ?_
    show Steps p.tables e below (T145.setTop (mkF m 6 #[.val (.ref ra0), .val (.int p1)] [(.int p1), (.int w_codesInGroup_ra0), (.ref ra0)])) _
    refine XS.iadd X145.here hx rfl (hb hby d9_6) rfl ?_
    show Steps p.tables e below (T145.setTop (mkF m 7 #[.val (.ref ra0), .val (.int p1)] [(.int (w_codesInGroup_ra0 + p1)), (.ref ra0)])) _
    refine XS.bipush X145.here hx rfl (hb hby d9_7) ?_
    show Steps p.tables e below (T145.setTop (mkF m 9 #[.val (.ref ra0), .val (.int p1)] [(.int (8 : Int32)), (.int (w_codesInGroup_ra0 + p1)), (.ref ra0)])) _
    refine iremM X145 hx rfl (hb hby d9_9) rfl (by decide) ?_
    exact kk)
  obtain ⟨T148, h148, X148, e148, W148, st148⟩ := putF X145 hx hZ hown (host := "") (Or.inl (hw _ (List.mem_of_getElem? (i := 20) rfl))) Via.refl e145 F_codesInGroup_ra0 E_ra0 (Or.inl (hw _ (List.mem_of_getElem? (i := 21) rfl))) (hw _ (List.mem_of_getElem? (i := 3) rfl)) (ty := .int) (by decide) rfl rfl (g := (mkF m 10 #[.val (.ref ra0), .val (.int p1)] [(.int ((w_codesInGroup_ra0 + p1) % (8 : Int32))), (.ref ra0)])) rfl rfl (hb hby d9_10)
  have Fw148 := F_codesInGroup_ra0.same W148
  have K148 : Keep h0 h148 [ra0] := KC0.wr W148 (Or.inl (List.mem_of_getElem? (i := 0) rfl))
  have N148 := Fr.snoc X148 N0 g_ra0
  have k149 := fun (t : State) (kk : Steps p.tables e below (T148.setTop (mkF m 13 #[.val (.ref ra0), .val (.int p1)] [])) t) => k147 t (st148 _ kk)
  obtain ⟨fs, hr, hrun, hended, hW, hsame⟩ := X148.leave (v := none) (fun _ => rfl)
  have f150 := (E_ra0.wr W148)
  have f151 := (F_maxBits_ra0.other W148 (Or.inr (slot_ne (Or.inr (hw _ (List.mem_of_getElem? (i := 12) rfl))) (Or.inl (hw _ (List.mem_of_getElem? (i := 21) rfl))) (by decide) (t := .int) (t' := .int) (by decide) (by decide))))
  have f152 := (F_width_ra0.other W148 (Or.inr (slot_ne (Or.inl (hw _ (List.mem_of_getElem? (i := 19) rfl))) (Or.inl (hw _ (List.mem_of_getElem? (i := 21) rfl))) (by decide) (t := .int) (t' := .int) (by decide) (by decide))))
  have f153 := (F_groupEnded_ra0.other W148 (Or.inr (slot_ne (Or.inl (hw _ (List.mem_of_getElem? (i := 23) rfl))) (Or.inl (hw _ (List.mem_of_getElem? (i := 21) rfl))) (by decide) (t := .boolean) (t' := .int) (by decide) (by decide))))
  refine ⟨_, _, k149 _ ?_, hrun, hended, _, _, rfl, ?_, ⟨_, rfl⟩, hW, hsame.mono (by decide) (by decide)⟩
  · show Steps p.tables e below (T148.setTop (mkF m 13 #[.val (.ref ra0), .val (.int p1)] [])) _
    exact X148.returnOut hx Bd.returns (hb hby d9_13) hr
  · show Q9 Z ra0 p1 w_codesInGroup_ra0 w_maxBits_ra0 w_width_ra0 w_groupEnded_ra0 h0 n0 _ T148.heap _
    rw [e148]
    exact ⟨rfl, N148, K148, f150, f151, f152, Fw148, f153⟩
theorem d10_0 : decode prog_49_method_7_code 0 = .ok (.aload_n 0, 1) := by decide +kernel
theorem d10_1 : decode prog_49_method_7_code 1 = .ok (.iconst 1, 1) := by decide +kernel
theorem d10_2 : decode prog_49_method_7_code 2 = .ok (.putfield 24, 3) := by decide +kernel
theorem d10_5 : decode prog_49_method_7_code 5 = .ok (.return_, 1) := by decide +kernel
theorem ef_rm10 (m : MethodId) (ra0 : Addr) : entryFrame m #[(.ref ra0)] 1 = mkF m 0 #[.val (.ref ra0)] [] := by first | (simp [entryFrame, mkF, argsToLocals, Value.category]; done) | rfl
def Q10 (Z : State) (ra0 : Addr) (w_groupEnded_ra0 : Int32) (w_maxBits_ra0 : Int32) (w_width_ra0 : Int32) (w_codesInGroup_ra0 : Int32) (h0 : Heap) (n0 : Nat) (v : Option Value) (h : Heap) (L : List Loc) : Prop := v = none ∧ Fr n0 L ∧ Keep h0 h [ra0] ∧ Exa Z h ra0 "phrasebook/ZFormat$Layout" ∧ Fld Z h ra0 "phrasebook/ZFormat$Layout" "maxBits" "I" (.int w_maxBits_ra0) ∧ Fld Z h ra0 "phrasebook/ZFormat$Layout" "width" "I" (.int w_width_ra0) ∧ Fld Z h ra0 "phrasebook/ZFormat$Layout" "codesInGroup" "I" (.int w_codesInGroup_ra0) ∧ Fld Z h ra0 "phrasebook/ZFormat$Layout" "groupEnded" "Z" (.int (1 : Int32))
set_option maxRecDepth 65536 in
set_option maxHeartbeats 40000000 in
theorem rm10 (l : Launch) (Z : State) (a0 : Array Value) (hw : ∀ d ∈ tables_1, d.before a0 Z = true) (ws : List Jvm.Cond) (ra0 : Addr) (w_groupEnded_ra0 : Int32) (w_maxBits_ra0 : Int32) (w_width_ra0 : Int32) (w_codesInGroup_ra0 : Int32) (h0 : Heap) (n0 : Nat) (Z0 : n0 ≤ h0.size) (E_ra0 : Exa Z h0 ra0 "phrasebook/ZFormat$Layout") (F_groupEnded_ra0 : Fld Z h0 ra0 "phrasebook/ZFormat$Layout" "groupEnded" "Z" (.int w_groupEnded_ra0)) (g_ra0 : n0 ≤ ra0) (F_maxBits_ra0 : Fld Z h0 ra0 "phrasebook/ZFormat$Layout" "maxBits" "I" (.int w_maxBits_ra0)) (F_width_ra0 : Fld Z h0 ra0 "phrasebook/ZFormat$Layout" "width" "I" (.int w_width_ra0)) (F_codesInGroup_ra0 : Fld Z h0 ra0 "phrasebook/ZFormat$Layout" "codesInGroup" "I" (.int w_codesInGroup_ra0)) :
    MetFree l (⟨"phrasebook/ZFormat$Layout", "endGroup", "()V"⟩ : MethodName) (head1 (Jvm.Cond.code (⟨"phrasebook/ZFormat$Layout", "endGroup", "()V"⟩ : MethodName) prog_49_method_7_code 1 none :: ws) ({ frames := 0, cells := 0, slots := 0, locals := 0 } : Room)) (fun a U => a = #[(.ref ra0)] ∧ Z.Warmed39 U.vm ∧ U.heap = h0) (fun _ _ _ _ _ => True) (fun _ U o U' => ∃ v L, o = .returned v ∧ Q10 Z ra0 w_groupEnded_ra0 w_maxBits_ra0 w_width_ra0 w_codesInGroup_ra0 h0 n0 v U'.heap L ∧ FrameEnd U o U' L ({ frames := 0, cells := 0, slots := 0, locals := 0 } : Room).cells ({ frames := 0, cells := 0, slots := 0, locals := 0 } : Room).slots) := by
  refine MetFree.of_bodySF (plainFor_of_name pn_11) hisR ?_
  intro p e s m args below meth c s₁ Bd hml0 hP hK
  obtain ⟨rfl, hZ, hh⟩ := hP
  have hx := Bd.exec
  have hby := Bd.bytes
  have hml : c.maxLocals = 1 := hml0
  have hown : s.vm.findClass "phrasebook/ZFormat$Layout" = some m.cls := findClass_of_methodNamed Bd.named
  have hnm := (name_of_methodNamed Bd.named Bd.method).1
  have X0 : Stand p l e ({ frames := 0, cells := 0, slots := 0, locals := 0 } : Room) s m #[(.ref ra0)] below meth c s₁ [] 0 0 := Stand.of_body Bd
  have e0 : s₁.heap = h0 := by rw [← hh, Bd.state]; rfl
  have N0 := Fr.nil n0
  have KC0 := Keep.refl h0 [ra0]
  have pre0 : ∀ t, Steps p.tables e below (s₁.setTop (mkF m 0 #[.val (.ref ra0)] [])) t → Steps p.tables e below (s₁.setTop (entryFrame m #[(.ref ra0)] 1)) t := fun t k => castTop (ef_rm10 m ra0) k
  have k154 := fun (t : State) (kk : Steps p.tables e below (s₁.setTop (mkF m 2 #[.val (.ref ra0)] [(.int (1 : Int32)), (.ref ra0)])) t) => pre0 t (by
    show Steps p.tables e below (s₁.setTop (mkF m 0 #[.val (.ref ra0)] [])) _
    refine XS.aloadN X0.here hx rfl (hb hby d10_0) rfl rfl ?_
    show Steps p.tables e below (s₁.setTop (mkF m 1 #[.val (.ref ra0)] [(.ref ra0)])) _
    refine XS.iconst X0.here hx rfl (hb hby d10_1) ?_
    exact kk)
  obtain ⟨T155, h155, X155, e155, W155, st155⟩ := putFN X0 hx hZ hown (hw _ (List.mem_of_getElem? (i := 22) rfl)) Via.refl e0 F_groupEnded_ra0 E_ra0 (Or.inl (hw _ (List.mem_of_getElem? (i := 23) rfl))) (hw _ (List.mem_of_getElem? (i := 3) rfl)) (ty := .boolean) (v' := (.int (1 : Int32))) (by decide) rfl rfl (g := (mkF m 2 #[.val (.ref ra0)] [(.int (1 : Int32)), (.ref ra0)])) rfl rfl (hb hby d10_2)
  have Fw155 := F_groupEnded_ra0.same W155
  have K155 : Keep h0 h155 [ra0] := KC0.wr W155 (Or.inl (List.mem_of_getElem? (i := 0) rfl))
  have N155 := Fr.snoc X155 N0 g_ra0
  have k156 := fun (t : State) (kk : Steps p.tables e below (T155.setTop (mkF m 5 #[.val (.ref ra0)] [])) t) => k154 t (st155 _ kk)
  obtain ⟨fs, hr, hrun, hended, hW, hsame⟩ := X155.leave (v := none) (fun _ => rfl)
  have f157 := (E_ra0.wr W155)
  have f158 := (F_maxBits_ra0.other W155 (Or.inr (slot_ne (Or.inr (hw _ (List.mem_of_getElem? (i := 12) rfl))) (Or.inl (hw _ (List.mem_of_getElem? (i := 23) rfl))) (by decide) (t := .int) (t' := .boolean) (by decide) (by decide))))
  have f159 := (F_width_ra0.other W155 (Or.inr (slot_ne (Or.inl (hw _ (List.mem_of_getElem? (i := 19) rfl))) (Or.inl (hw _ (List.mem_of_getElem? (i := 23) rfl))) (by decide) (t := .int) (t' := .boolean) (by decide) (by decide))))
  have f160 := (F_codesInGroup_ra0.other W155 (Or.inr (slot_ne (Or.inl (hw _ (List.mem_of_getElem? (i := 21) rfl))) (Or.inl (hw _ (List.mem_of_getElem? (i := 23) rfl))) (by decide) (t := .int) (t' := .boolean) (by decide) (by decide))))
  refine ⟨_, _, k156 _ ?_, hrun, hended, _, _, rfl, ?_, ⟨_, rfl⟩, hW, hsame.mono (by decide) (by decide)⟩
  · show Steps p.tables e below (T155.setTop (mkF m 5 #[.val (.ref ra0)] [])) _
    exact X155.returnOut hx Bd.returns (hb hby d10_5) hr
  · show Q10 Z ra0 w_groupEnded_ra0 w_maxBits_ra0 w_width_ra0 w_codesInGroup_ra0 h0 n0 _ T155.heap _
    rw [e155]
    exact ⟨rfl, N155, K155, f157, f158, f159, f160, Fw155⟩
theorem d11_0 : decode prog_49_method_4_code 0 = .ok (.aload_n 0, 1) := by decide +kernel
theorem d11_1 : decode prog_49_method_4_code 1 = .ok (.iload_n 1, 1) := by decide +kernel
theorem d11_2 : decode prog_49_method_4_code 2 = .ok (.invokevirtual 28, 3) := by decide +kernel
theorem d11_5 : decode prog_49_method_4_code 5 = .ok (.istore_n 2, 1) := by decide +kernel
theorem d11_6 : decode prog_49_method_4_code 6 = .ok (.aload_n 0, 1) := by decide +kernel
theorem d11_7 : decode prog_49_method_4_code 7 = .ok (.iload_n 2, 1) := by decide +kernel
theorem d11_8 : decode prog_49_method_4_code 8 = .ok (.invokevirtual 32, 3) := by decide +kernel
theorem d11_11 : decode prog_49_method_4_code 11 = .ok (.ifCond .eq 10, 3) := by decide +kernel
theorem d11_14 : decode prog_49_method_4_code 14 = .ok (.aload_n 0, 1) := by decide +kernel
theorem d11_15 : decode prog_49_method_4_code 15 = .ok (.invokevirtual 36, 3) := by decide +kernel
theorem d11_18 : decode prog_49_method_4_code 18 = .ok (.goto 4, 3) := by decide +kernel
theorem d11_21 : decode prog_49_method_4_code 21 = .ok (.iconst 0, 1) := by decide +kernel
theorem d11_22 : decode prog_49_method_4_code 22 = .ok (.iload_n 2, 1) := by decide +kernel
theorem d11_23 : decode prog_49_method_4_code 23 = .ok (.iadd, 1) := by decide +kernel
theorem d11_24 : decode prog_49_method_4_code 24 = .ok (.ireturn, 1) := by decide +kernel
def v11_ret (p1 : Int32) (w_maxBits_ra0 : Int32) (w_width_ra0 : Int32) (w_groupEnded_ra0 : Int32) (w_codesInGroup_ra0 : Int32) : Int32 := (if (v7_ret (v5_ret p1 w_maxBits_ra0) w_width_ra0 w_groupEnded_ra0) = (0 : Int32) then ((0 : Int32) + (v5_ret p1 w_maxBits_ra0)) else ((v12_ret w_codesInGroup_ra0 w_width_ra0) + (v5_ret p1 w_maxBits_ra0)))
theorem ef_rm11 (m : MethodId) (ra0 : Addr) (p1 : Int32) : entryFrame m #[(.ref ra0), (.int p1)] 3 = mkF m 0 #[.val (.ref ra0), .val (.int p1), .unset] [] := by first | (simp [entryFrame, mkF, argsToLocals, Value.category]; done) | rfl
def Q11 (Z : State) (ra0 : Addr) (p1 : Int32) (w_maxBits_ra0 : Int32) (w_width_ra0 : Int32) (w_groupEnded_ra0 : Int32) (w_codesInGroup_ra0 : Int32) (h0 : Heap) (n0 : Nat) (v : Option Value) (h : Heap) (L : List Loc) : Prop := v = some (.int (v11_ret p1 w_maxBits_ra0 w_width_ra0 w_groupEnded_ra0 w_codesInGroup_ra0)) ∧ Fr n0 L ∧ h = h0
set_option maxRecDepth 65536 in
set_option maxHeartbeats 40000000 in
theorem rm11 (l : Launch) (Z : State) (a0 : Array Value) (hw : ∀ d ∈ tables_1, d.before a0 Z = true) (ws : List Jvm.Cond) (ra0 : Addr) (p1 : Int32) (w_maxBits_ra0 : Int32) (w_width_ra0 : Int32) (w_groupEnded_ra0 : Int32) (w_codesInGroup_ra0 : Int32) (h0 : Heap) (n0 : Nat) (Z0 : n0 ≤ h0.size) (F_maxBits_ra0 : Fld Z h0 ra0 "phrasebook/ZFormat$Layout" "maxBits" "I" (.int w_maxBits_ra0)) (E_ra0 : Exa Z h0 ra0 "phrasebook/ZFormat$Layout") (F_width_ra0 : Fld Z h0 ra0 "phrasebook/ZFormat$Layout" "width" "I" (.int w_width_ra0)) (F_groupEnded_ra0 : Fld Z h0 ra0 "phrasebook/ZFormat$Layout" "groupEnded" "Z" (.int w_groupEnded_ra0)) (F_codesInGroup_ra0 : Fld Z h0 ra0 "phrasebook/ZFormat$Layout" "codesInGroup" "I" (.int w_codesInGroup_ra0)) :
    MetFree l (⟨"phrasebook/ZFormat$Layout", "bitsFor", "(I)I"⟩ : MethodName) (head1 (Jvm.Cond.code (⟨"phrasebook/ZFormat$Layout", "bitsFor", "(I)I"⟩ : MethodName) prog_49_method_4_code 3 (some .int) :: ws) ({ frames := 2, cells := 0, slots := 0, locals := 28 } : Room)) (fun a U => a = #[(.ref ra0), (.int p1)] ∧ Z.Warmed39 U.vm ∧ U.heap = h0) (fun _ _ _ _ _ => True) (fun _ U o U' => ∃ v L, o = .returned v ∧ Q11 Z ra0 p1 w_maxBits_ra0 w_width_ra0 w_groupEnded_ra0 w_codesInGroup_ra0 h0 n0 v U'.heap L ∧ FrameEnd U o U' L ({ frames := 2, cells := 0, slots := 0, locals := 28 } : Room).cells ({ frames := 2, cells := 0, slots := 0, locals := 28 } : Room).slots) := by
  refine MetFree.of_bodySF (plainFor_of_name pn_11) hisR ?_
  intro p e s m args below meth c s₁ Bd hml0 hP hK
  obtain ⟨rfl, hZ, hh⟩ := hP
  have hx := Bd.exec
  have hby := Bd.bytes
  have hml : c.maxLocals = 3 := hml0
  have hown : s.vm.findClass "phrasebook/ZFormat$Layout" = some m.cls := findClass_of_methodNamed Bd.named
  have hnm := (name_of_methodNamed Bd.named Bd.method).1
  have X0 : Stand p l e ({ frames := 2, cells := 0, slots := 0, locals := 28 } : Room) s m #[(.ref ra0), (.int p1)] below meth c s₁ [] 0 0 := Stand.of_body Bd
  have e0 : s₁.heap = h0 := by rw [← hh, Bd.state]; rfl
  have N0 := Fr.nil n0
  have KC0 := Keep.refl h0 ([] : List Addr)
  have pre0 : ∀ t, Steps p.tables e below (s₁.setTop (mkF m 0 #[.val (.ref ra0), .val (.int p1), .unset] [])) t → Steps p.tables e below (s₁.setTop (entryFrame m #[(.ref ra0), (.int p1)] 3)) t := fun t k => castTop (ef_rm11 m ra0 p1) k
  have k161 := fun (t : State) (kk : Steps p.tables e below (s₁.setTop (mkF m 2 #[.val (.ref ra0), .val (.int p1), .unset] [(.int p1), (.ref ra0)])) t) => pre0 t (by
    show Steps p.tables e below (s₁.setTop (mkF m 0 #[.val (.ref ra0), .val (.int p1), .unset] [])) _
    refine XS.aloadN X0.here hx rfl (hb hby d11_0) rfl rfl ?_
    show Steps p.tables e below (s₁.setTop (mkF m 1 #[.val (.ref ra0), .val (.int p1), .unset] [(.ref ra0)])) _
    refine XS.iloadN X0.here hx rfl (hb hby d11_1) rfl ?_
    exact kk)
  have Zz162 : n0 ≤ h0.size := (Nat.le_trans Z0 KC0.1)
  obtain ⟨cq162, q162, q162'⟩ := E_ra0.cell
  obtain ⟨_, _, ⟨T162, L162, k162, n162⟩, -, X162, ⟨Lc162, hQ162, l162, y162, z162⟩, st162⟩ := X0.privateBack hx (y := (⟨"phrasebook/ZFormat$Layout", "widthFor", "(I)I"⟩ : MethodName)) hown (mvT hZ (hw _ (List.mem_of_getElem? (i := 29) rfl))) (mvT hZ (hw _ (List.mem_of_getElem? (i := 30) rfl))) (own_selpriv (y := (⟨"phrasebook/ZFormat$Layout", "widthFor", "(I)I"⟩ : MethodName)) (mvT hZ (hw _ (List.mem_of_getElem? (i := 3) rfl))) (Cond.privateMethod_at (mvP hZ (hw _ (List.mem_of_getElem? (i := 31) rfl)) (args := #[]))) (mvT hZ (hw _ (List.mem_of_getElem? (i := 30) rfl))) (by decide)) (Cond.privateMethod_at (mvP hZ (hw _ (List.mem_of_getElem? (i := 31) rfl)) (args := #[]))) (mvT hZ (hw _ (List.mem_of_getElem? (i := 32) rfl))) (by decide) (backOf (W := 0) (rm5 l Z a0 hw [] ra0 p1 w_maxBits_ra0 h0 n0 Zz162 F_maxBits_ra0) hZ (hw _ (List.mem_of_getElem? (i := 32) rfl)) (hw _ (List.mem_of_getElem? (i := 4) rfl)) (by decide) (by decide)) (g := (mkF m 2 #[.val (.ref ra0), .val (.int p1), .unset] [(.int p1), (.ref ra0)])) rfl (by rw [hml]; rfl) (Steps.refl _) (a := ra0) (by rw [e0]; exact q162) q162' (argsL := [(.int p1)]) (rest := []) (lenOf pd_1 rfl) rfl (by show 2 * 0 + _ ≤ _; exact Nat.le_of_eq rfl) (hb hby d11_2) (fun _ _ => ⟨rfl, e0, (by decide : 0 + 0 ≤ _), (by decide : 0 + 0 ≤ _)⟩)
  dsimp only [Pt.U, Pt.locs, Pt.cells, Pt.slots] at X162 l162 y162 z162 st162 hQ162
  subst l162 y162 z162
  obtain ⟨rfl, N162q, e162⟩ := hQ162
  have N162 := Fr.app N0 N162q
  have k163 := fun (t : State) (kk : Steps p.tables e below (T162.setTop (mkF m 5 #[.val (.ref ra0), .val (.int p1), .unset] [(.int (v5_ret p1 w_maxBits_ra0))])) t) => k161 t (st162.trans kk)
  have k164 := fun (t : State) (kk : Steps p.tables e below (T162.setTop (mkF m 8 #[.val (.ref ra0), .val (.int p1), .val (.int (v5_ret p1 w_maxBits_ra0))] [(.int (v5_ret p1 w_maxBits_ra0)), (.ref ra0)])) t) => k163 t (by
    show Steps p.tables e below (T162.setTop (mkF m 5 #[.val (.ref ra0), .val (.int p1), .unset] [(.int (v5_ret p1 w_maxBits_ra0))])) _
    refine XS.istoreN X162.here hx rfl (hb hby d11_5) rfl (l' := #[.val (.ref ra0), .val (.int p1), .val (.int (v5_ret p1 w_maxBits_ra0))]) rfl ?_
    show Steps p.tables e below (T162.setTop (mkF m 6 #[.val (.ref ra0), .val (.int p1), .val (.int (v5_ret p1 w_maxBits_ra0))] [])) _
    refine XS.aloadN X162.here hx rfl (hb hby d11_6) rfl rfl ?_
    show Steps p.tables e below (T162.setTop (mkF m 7 #[.val (.ref ra0), .val (.int p1), .val (.int (v5_ret p1 w_maxBits_ra0))] [(.ref ra0)])) _
    refine XS.iloadN X162.here hx rfl (hb hby d11_7) rfl ?_
    exact kk)
  have Zz165 : n0 ≤ h0.size := (Nat.le_trans Z0 KC0.1)
  obtain ⟨cq165, q165, q165'⟩ := E_ra0.cell
  obtain ⟨_, _, ⟨T165, L165, k165, n165⟩, -, X165, ⟨Lc165, hQ165, l165, y165, z165⟩, st165⟩ := X162.privateBack hx (y := (⟨"phrasebook/ZFormat$Layout", "startsGroup", "(I)Z"⟩ : MethodName)) hown (mvT hZ (hw _ (List.mem_of_getElem? (i := 38) rfl))) (mvT hZ (hw _ (List.mem_of_getElem? (i := 39) rfl))) (own_selpriv (y := (⟨"phrasebook/ZFormat$Layout", "startsGroup", "(I)Z"⟩ : MethodName)) (mvT hZ (hw _ (List.mem_of_getElem? (i := 3) rfl))) (Cond.privateMethod_at (mvP hZ (hw _ (List.mem_of_getElem? (i := 40) rfl)) (args := #[]))) (mvT hZ (hw _ (List.mem_of_getElem? (i := 39) rfl))) (by decide)) (Cond.privateMethod_at (mvP hZ (hw _ (List.mem_of_getElem? (i := 40) rfl)) (args := #[]))) (mvT hZ (hw _ (List.mem_of_getElem? (i := 41) rfl))) (by decide) (backOf (W := 0) (rm7 l Z a0 hw [] ra0 (v5_ret p1 w_maxBits_ra0) w_width_ra0 w_groupEnded_ra0 h0 n0 Zz165 F_width_ra0 F_groupEnded_ra0) hZ (hw _ (List.mem_of_getElem? (i := 41) rfl)) (hw _ (List.mem_of_getElem? (i := 4) rfl)) (by decide) (by decide)) (g := (mkF m 8 #[.val (.ref ra0), .val (.int p1), .val (.int (v5_ret p1 w_maxBits_ra0))] [(.int (v5_ret p1 w_maxBits_ra0)), (.ref ra0)])) rfl (by rw [hml]; rfl) (Steps.refl _) (a := ra0) (by rw [e162]; exact q165) q165' (argsL := [(.int (v5_ret p1 w_maxBits_ra0))]) (rest := []) (lenOf pd_3 rfl) rfl (by show 2 * 0 + _ ≤ _; exact Nat.le_of_eq rfl) (hb hby d11_8) (fun _ _ => ⟨rfl, e162, (by decide : 0 + 0 ≤ _), (by decide : 0 + 0 ≤ _)⟩)
  dsimp only [Pt.U, Pt.locs, Pt.cells, Pt.slots] at X165 l165 y165 z165 st165 hQ165
  subst l165 y165 z165
  obtain ⟨rfl, N165q, e165⟩ := hQ165
  have N165 := Fr.app N162 N165q
  have k166 := fun (t : State) (kk : Steps p.tables e below (T165.setTop (mkF m 11 #[.val (.ref ra0), .val (.int p1), .val (.int (v5_ret p1 w_maxBits_ra0))] [(.int (v7_ret (v5_ret p1 w_maxBits_ra0) w_width_ra0 w_groupEnded_ra0))])) t) => k164 t (st165.trans kk)
  by_cases hc11_167 : (v7_ret (v5_ret p1 w_maxBits_ra0) w_width_ra0 w_groupEnded_ra0) = (0 : Int32)
  · have k168 := fun (t : State) (kk : Steps p.tables e below (T165.setTop (mkF m 24 #[.val (.ref ra0), .val (.int p1), .val (.int (v5_ret p1 w_maxBits_ra0))] [(.int ((0 : Int32) + (v5_ret p1 w_maxBits_ra0)))])) t) => k166 t (by
      show Steps p.tables e below (T165.setTop (mkF m 11 #[.val (.ref ra0), .val (.int p1), .val (.int (v5_ret p1 w_maxBits_ra0))] [(.int (v7_ret (v5_ret p1 w_maxBits_ra0) w_width_ra0 w_groupEnded_ra0))])) _
      refine XS.ifYes X165.here hx rfl (pc0 := 11) (pc' := 21) rfl (hb hby d11_11) rfl ((if0 _ _).trans (teq hc11_167).1) (by decide) (by decide) ?_
      show Steps p.tables e below (T165.setTop (mkF m 21 #[.val (.ref ra0), .val (.int p1), .val (.int (v5_ret p1 w_maxBits_ra0))] [])) _
      refine XS.iconst X165.here hx rfl (hb hby d11_21) ?_
      show Steps p.tables e below (T165.setTop (mkF m 22 #[.val (.ref ra0), .val (.int p1), .val (.int (v5_ret p1 w_maxBits_ra0))] [(.int (0 : Int32))])) _
      refine XS.iloadN X165.here hx rfl (hb hby d11_22) rfl ?_
      show Steps p.tables e below (T165.setTop (mkF m 23 #[.val (.ref ra0), .val (.int p1), .val (.int (v5_ret p1 w_maxBits_ra0))] [(.int (v5_ret p1 w_maxBits_ra0)), (.int (0 : Int32))])) _
      refine XS.iadd X165.here hx rfl (hb hby d11_23) rfl ?_
      exact kk)
    obtain ⟨fs, hr, hrun, hended, hW, hsame⟩ := X165.leave (v := some (.int ((0 : Int32) + (v5_ret p1 w_maxBits_ra0)))) (fun h => by rw [Bd.returns] at h; cases h)
    have hv : (v11_ret p1 w_maxBits_ra0 w_width_ra0 w_groupEnded_ra0 w_codesInGroup_ra0) = ((0 : Int32) + (v5_ret p1 w_maxBits_ra0)) := (if_pos hc11_167)
    refine ⟨_, _, k168 _ ?_, hrun, hended, _, _, rfl, ?_, ⟨_, rfl⟩, hW, hsame.mono (by decide) (by decide)⟩
    · show Steps p.tables e below (T165.setTop (mkF m 24 #[.val (.ref ra0), .val (.int p1), .val (.int (v5_ret p1 w_maxBits_ra0))] [(.int ((0 : Int32) + (v5_ret p1 w_maxBits_ra0)))])) _
      exact retI X165 hx Bd.returns (hb hby d11_24) hr
    · show Q11 Z ra0 p1 w_maxBits_ra0 w_width_ra0 w_groupEnded_ra0 w_codesInGroup_ra0 h0 n0 _ T165.heap _
      rw [e165]
      exact ⟨(congrArg (fun z => some (Value.int z)) hv).symm, N165, rfl⟩
  · have k169 := fun (t : State) (kk : Steps p.tables e below (T165.setTop (mkF m 15 #[.val (.ref ra0), .val (.int p1), .val (.int (v5_ret p1 w_maxBits_ra0))] [(.ref ra0)])) t) => k166 t (by
      show Steps p.tables e below (T165.setTop (mkF m 11 #[.val (.ref ra0), .val (.int p1), .val (.int (v5_ret p1 w_maxBits_ra0))] [(.int (v7_ret (v5_ret p1 w_maxBits_ra0) w_width_ra0 w_groupEnded_ra0))])) _
      refine XS.ifNo X165.here hx rfl (hb hby d11_11) rfl ((if0 _ _).trans (feq hc11_167).1) ?_
      show Steps p.tables e below (T165.setTop (mkF m 14 #[.val (.ref ra0), .val (.int p1), .val (.int (v5_ret p1 w_maxBits_ra0))] [])) _
      refine XS.aloadN X165.here hx rfl (hb hby d11_14) rfl rfl ?_
      exact kk)
    have Zz170 : n0 ≤ h0.size := (Nat.le_trans Z0 KC0.1)
    obtain ⟨cq170, q170, q170'⟩ := E_ra0.cell
    obtain ⟨_, _, ⟨T170, L170, k170, n170⟩, -, X170, ⟨Lc170, hQ170, l170, y170, z170⟩, st170⟩ := X165.privateBack hx (y := (⟨"phrasebook/ZFormat$Layout", "restOfGroup", "()I"⟩ : MethodName)) hown (mvT hZ (hw _ (List.mem_of_getElem? (i := 62) rfl))) (mvT hZ (hw _ (List.mem_of_getElem? (i := 63) rfl))) (own_selpriv (y := (⟨"phrasebook/ZFormat$Layout", "restOfGroup", "()I"⟩ : MethodName)) (mvT hZ (hw _ (List.mem_of_getElem? (i := 3) rfl))) (Cond.privateMethod_at (mvP hZ (hw _ (List.mem_of_getElem? (i := 64) rfl)) (args := #[]))) (mvT hZ (hw _ (List.mem_of_getElem? (i := 63) rfl))) (by decide)) (Cond.privateMethod_at (mvP hZ (hw _ (List.mem_of_getElem? (i := 64) rfl)) (args := #[]))) (mvT hZ (hw _ (List.mem_of_getElem? (i := 65) rfl))) (by decide) (backOf (W := 0) (rm12 l Z a0 hw [] ra0 w_codesInGroup_ra0 w_width_ra0 h0 n0 Zz170 F_codesInGroup_ra0 F_width_ra0) hZ (hw _ (List.mem_of_getElem? (i := 65) rfl)) (hw _ (List.mem_of_getElem? (i := 4) rfl)) (by decide) (by decide)) (g := (mkF m 15 #[.val (.ref ra0), .val (.int p1), .val (.int (v5_ret p1 w_maxBits_ra0))] [(.ref ra0)])) rfl (by rw [hml]; rfl) (Steps.refl _) (a := ra0) (by rw [e165]; exact q170) q170' (argsL := []) (rest := []) (lenOf pd_4 rfl) rfl (by show 2 * 0 + _ ≤ _; exact Nat.le_of_eq rfl) (hb hby d11_15) (fun _ _ => ⟨rfl, e165, (by decide : 0 + 0 ≤ _), (by decide : 0 + 0 ≤ _)⟩)
    dsimp only [Pt.U, Pt.locs, Pt.cells, Pt.slots] at X170 l170 y170 z170 st170 hQ170
    subst l170 y170 z170
    obtain ⟨rfl, N170q, e170⟩ := hQ170
    have N170 := Fr.app N165 N170q
    have k171 := fun (t : State) (kk : Steps p.tables e below (T170.setTop (mkF m 18 #[.val (.ref ra0), .val (.int p1), .val (.int (v5_ret p1 w_maxBits_ra0))] [(.int (v12_ret w_codesInGroup_ra0 w_width_ra0))])) t) => k169 t (st170.trans kk)
    have k172 := fun (t : State) (kk : Steps p.tables e below (T170.setTop (mkF m 24 #[.val (.ref ra0), .val (.int p1), .val (.int (v5_ret p1 w_maxBits_ra0))] [(.int ((v12_ret w_codesInGroup_ra0 w_width_ra0) + (v5_ret p1 w_maxBits_ra0)))])) t) => k171 t (by
      show Steps p.tables e below (T170.setTop (mkF m 18 #[.val (.ref ra0), .val (.int p1), .val (.int (v5_ret p1 w_maxBits_ra0))] [(.int (v12_ret w_codesInGroup_ra0 w_width_ra0))])) _
      refine XS.goto X170.here hx rfl (pc0 := 18) (pc' := 22) rfl (hb hby d11_18) (by decide) (by decide) ?_
      show Steps p.tables e below (T170.setTop (mkF m 22 #[.val (.ref ra0), .val (.int p1), .val (.int (v5_ret p1 w_maxBits_ra0))] [(.int (v12_ret w_codesInGroup_ra0 w_width_ra0))])) _
      refine XS.iloadN X170.here hx rfl (hb hby d11_22) rfl ?_
      show Steps p.tables e below (T170.setTop (mkF m 23 #[.val (.ref ra0), .val (.int p1), .val (.int (v5_ret p1 w_maxBits_ra0))] [(.int (v5_ret p1 w_maxBits_ra0)), (.int (v12_ret w_codesInGroup_ra0 w_width_ra0))])) _
      refine XS.iadd X170.here hx rfl (hb hby d11_23) rfl ?_
      exact kk)
    obtain ⟨fs, hr, hrun, hended, hW, hsame⟩ := X170.leave (v := some (.int ((v12_ret w_codesInGroup_ra0 w_width_ra0) + (v5_ret p1 w_maxBits_ra0)))) (fun h => by rw [Bd.returns] at h; cases h)
    have hv : (v11_ret p1 w_maxBits_ra0 w_width_ra0 w_groupEnded_ra0 w_codesInGroup_ra0) = ((v12_ret w_codesInGroup_ra0 w_width_ra0) + (v5_ret p1 w_maxBits_ra0)) := (if_neg hc11_167)
    refine ⟨_, _, k172 _ ?_, hrun, hended, _, _, rfl, ?_, ⟨_, rfl⟩, hW, hsame.mono (by decide) (by decide)⟩
    · show Steps p.tables e below (T170.setTop (mkF m 24 #[.val (.ref ra0), .val (.int p1), .val (.int (v5_ret p1 w_maxBits_ra0))] [(.int ((v12_ret w_codesInGroup_ra0 w_width_ra0) + (v5_ret p1 w_maxBits_ra0)))])) _
      exact retI X170 hx Bd.returns (hb hby d11_24) hr
    · show Q11 Z ra0 p1 w_maxBits_ra0 w_width_ra0 w_groupEnded_ra0 w_codesInGroup_ra0 h0 n0 _ T170.heap _
      rw [e170]
      exact ⟨(congrArg (fun z => some (Value.int z)) hv).symm, N170, rfl⟩
theorem pd_5 : parseMethodDescriptor "(I)V" = some ⟨[.int], none⟩ := by decide +kernel
theorem pn_220 : plainName "phrasebook/LayoutPlaceMorePinLaw" = true := by first | (simp [plainName, overriddenIn]; done) | decide +kernel
def v0_7_l5 (p0 : Int32) : Int32 := ((9 : Int32) + (p0 &&& (7 : Int32)))
def v0_17_l6 (p0 : Int32) : Int32 := (((1 : Int32) <<< ((v0_7_l5 p0) &&& 31)) - (256 : Int32))
def v0_30_l7 (p0 : Int32) (p1 : Int32) : Int32 := ((257 : Int32) + ((p1 &&& (2147483647 : Int32)) % (v0_17_l6 p0)))
def v0_48_s0 (p4 : Int32) : Int32 := if (p4 &&& (1 : Int32)) = (0 : Int32) then (0 : Int32) else (1 : Int32)
def v0_76_l12 (p0 : Int32) (p1 : Int32) : Int32 := (v4_ret (v0_30_l7 p0 p1) (v0_7_l5 p0) (9 : Int32) (0 : Int32) (0 : Int32))
def v0_83_l13 (p0 : Int32) (p1 : Int32) : Int32 := (v5_ret (v0_30_l7 p0 p1) (v0_7_l5 p0))
def v0_121_l15 (p0 : Int32) (p1 : Int32) : Int32 := (v5_ret (v0_30_l7 p0 p1) (v0_7_l5 p0))
def v0_135_l16 (p0 : Int32) (p1 : Int32) (p2 : Int32) (p3 : Int32) : Int32 := (v11_ret (v0_30_l7 p0 p1) (v0_7_l5 p0) (v5_ret (v0_30_l7 p0 p1) (v0_7_l5 p0)) (1 : Int32) (((((v4_f_codesInGroup_ra0 (v0_30_l7 p0 p1) (v0_7_l5 p0) (9 : Int32) (0 : Int32) (0 : Int32)) + (p2 &&& (1073741823 : Int32))) % (8 : Int32)) + (p3 &&& (1073741823 : Int32))) % (8 : Int32)))
def v0_144_l17 (p0 : Int32) (p1 : Int32) (p2 : Int32) (p3 : Int32) : Int32 := (v4_ret (v0_30_l7 p0 p1) (v0_7_l5 p0) (v5_ret (v0_30_l7 p0 p1) (v0_7_l5 p0)) (1 : Int32) (((((v4_f_codesInGroup_ra0 (v0_30_l7 p0 p1) (v0_7_l5 p0) (9 : Int32) (0 : Int32) (0 : Int32)) + (p2 &&& (1073741823 : Int32))) % (8 : Int32)) + (p3 &&& (1073741823 : Int32))) % (8 : Int32)))
def v0_167_l18 (p2 : Int32) (p3 : Int32) : Int64 := ((((1 : Int64) + ((p2 &&& (1073741823 : Int32)).toInt64)) + ((0 : Int32).toInt64)) + ((p3 &&& (1073741823 : Int32)).toInt64))
def v0_176_l20 (p2 : Int32) (p3 : Int32) : Int32 := (((v0_167_l18 p2 p3) % (8 : Int64)).toInt32)
def v0_180_s0 (p0 : Int32) (p1 : Int32) (p2 : Int32) (p3 : Int32) : Int32 := if (v0_176_l20 p2 p3) = (0 : Int32) then (0 : Int32) else (((8 : Int32) - (v0_176_l20 p2 p3)) * (v0_83_l13 p0 p1))
def v0_228_s0 (p0 : Int32) (p1 : Int32) (p2 : Int32) (p3 : Int32) : Int32 := if (v0_144_l17 p0 p1 p2 p3) = (v0_180_s0 p0 p1 p2 p3) then (1 : Int32) else (0 : Int32)
def v0_221_s0 (p0 : Int32) (p1 : Int32) (p2 : Int32) (p3 : Int32) : Int32 := if (v0_135_l16 p0 p1 p2 p3) = ((v0_180_s0 p0 p1 p2 p3) + (v0_83_l13 p0 p1)) then (v0_228_s0 p0 p1 p2 p3) else (0 : Int32)
def v0_211_s0 (p0 : Int32) (p1 : Int32) (p2 : Int32) (p3 : Int32) : Int32 := if (v0_121_l15 p0 p1) = (v0_83_l13 p0 p1) then (v0_221_s0 p0 p1 p2 p3) else (0 : Int32)
def v0_199_s0 (p0 : Int32) (p1 : Int32) (p2 : Int32) (p3 : Int32) : Int32 := if (v0_76_l12 p0 p1) = (0 : Int32) then (v0_211_s0 p0 p1 p2 p3) else (0 : Int32)
def v0_107_l14 (p0 : Int32) (p1 : Int32) (p2 : Int32) : Int32 := (v4_ret (v0_30_l7 p0 p1) (v0_7_l5 p0) (v5_ret (v0_30_l7 p0 p1) (v0_7_l5 p0)) (v4_f_groupEnded_ra0 (v0_30_l7 p0 p1) (v0_7_l5 p0) (9 : Int32) (0 : Int32)) (((v4_f_codesInGroup_ra0 (v0_30_l7 p0 p1) (v0_7_l5 p0) (9 : Int32) (0 : Int32) (0 : Int32)) + (p2 &&& (1073741823 : Int32))) % (8 : Int32)))
def v0_135_l16_1 (p0 : Int32) (p1 : Int32) (p2 : Int32) (p3 : Int32) : Int32 := (v11_ret (v0_30_l7 p0 p1) (v0_7_l5 p0) (v5_ret (v0_30_l7 p0 p1) (v0_7_l5 p0)) (1 : Int32) (((v4_f_codesInGroup_ra0 (v0_30_l7 p0 p1) (v0_7_l5 p0) (v5_ret (v0_30_l7 p0 p1) (v0_7_l5 p0)) (v4_f_groupEnded_ra0 (v0_30_l7 p0 p1) (v0_7_l5 p0) (9 : Int32) (0 : Int32)) (((v4_f_codesInGroup_ra0 (v0_30_l7 p0 p1) (v0_7_l5 p0) (9 : Int32) (0 : Int32) (0 : Int32)) + (p2 &&& (1073741823 : Int32))) % (8 : Int32))) + (p3 &&& (1073741823 : Int32))) % (8 : Int32)))
def v0_144_l17_1 (p0 : Int32) (p1 : Int32) (p2 : Int32) (p3 : Int32) : Int32 := (v4_ret (v0_30_l7 p0 p1) (v0_7_l5 p0) (v5_ret (v0_30_l7 p0 p1) (v0_7_l5 p0)) (1 : Int32) (((v4_f_codesInGroup_ra0 (v0_30_l7 p0 p1) (v0_7_l5 p0) (v5_ret (v0_30_l7 p0 p1) (v0_7_l5 p0)) (v4_f_groupEnded_ra0 (v0_30_l7 p0 p1) (v0_7_l5 p0) (9 : Int32) (0 : Int32)) (((v4_f_codesInGroup_ra0 (v0_30_l7 p0 p1) (v0_7_l5 p0) (9 : Int32) (0 : Int32) (0 : Int32)) + (p2 &&& (1073741823 : Int32))) % (8 : Int32))) + (p3 &&& (1073741823 : Int32))) % (8 : Int32)))
def v0_167_l18_1 (p2 : Int32) (p3 : Int32) : Int64 := ((((1 : Int64) + ((p2 &&& (1073741823 : Int32)).toInt64)) + ((1 : Int32).toInt64)) + ((p3 &&& (1073741823 : Int32)).toInt64))
def v0_176_l20_1 (p2 : Int32) (p3 : Int32) : Int32 := (((v0_167_l18_1 p2 p3) % (8 : Int64)).toInt32)
def v0_180_s0_1 (p0 : Int32) (p1 : Int32) (p2 : Int32) (p3 : Int32) : Int32 := if (v0_176_l20_1 p2 p3) = (0 : Int32) then (0 : Int32) else (((8 : Int32) - (v0_176_l20_1 p2 p3)) * (v0_83_l13 p0 p1))
def v0_228_s0_1 (p0 : Int32) (p1 : Int32) (p2 : Int32) (p3 : Int32) : Int32 := if (v0_144_l17_1 p0 p1 p2 p3) = (v0_180_s0_1 p0 p1 p2 p3) then (1 : Int32) else (0 : Int32)
def v0_221_s0_1 (p0 : Int32) (p1 : Int32) (p2 : Int32) (p3 : Int32) : Int32 := if (v0_135_l16_1 p0 p1 p2 p3) = ((v0_180_s0_1 p0 p1 p2 p3) + (v0_83_l13 p0 p1)) then (v0_228_s0_1 p0 p1 p2 p3) else (0 : Int32)
def v0_211_s0_1 (p0 : Int32) (p1 : Int32) (p2 : Int32) (p3 : Int32) : Int32 := if (v0_121_l15 p0 p1) = (v0_83_l13 p0 p1) then (v0_221_s0_1 p0 p1 p2 p3) else (0 : Int32)
def v0_204_s0 (p0 : Int32) (p1 : Int32) (p2 : Int32) (p3 : Int32) : Int32 := if (v0_107_l14 p0 p1 p2) = (0 : Int32) then (v0_211_s0_1 p0 p1 p2 p3) else (0 : Int32)
def v0_199_s0_1 (p0 : Int32) (p1 : Int32) (p2 : Int32) (p3 : Int32) : Int32 := if (v0_76_l12 p0 p1) = (0 : Int32) then (v0_204_s0 p0 p1 p2 p3) else (0 : Int32)
def v0_ret (p0 : Int32) (p1 : Int32) (p2 : Int32) (p3 : Int32) (p4 : Int32) : Int32 := (if (v0_48_s0 p4) = (0 : Int32) then (nar .boolean (v0_199_s0 p0 p1 p2 p3)) else (nar .boolean (v0_199_s0_1 p0 p1 p2 p3)))
theorem own_p7 (p0 : Int32) : (p0 &&& (7 : Int32)) = 0 ∨ (p0 &&& (7 : Int32)) = 1 ∨ (p0 &&& (7 : Int32)) = 2 ∨ (p0 &&& (7 : Int32)) = 3 ∨ (p0 &&& (7 : Int32)) = 4 ∨ (p0 &&& (7 : Int32)) = 5 ∨ (p0 &&& (7 : Int32)) = 6 ∨ (p0 &&& (7 : Int32)) = 7 := by
  have b := c_and p0 (7 : Int32) (by decide)
  have n7 : (7 : Int32).toInt = 7 := rfl
  simp only [← Int32.toInt_inj]
  have n0 : (0 : Int32).toInt = 0 := rfl
  have n1 : (1 : Int32).toInt = 1 := rfl
  have n2 : (2 : Int32).toInt = 2 := rfl
  have n3 : (3 : Int32).toInt = 3 := rfl
  have n4 : (4 : Int32).toInt = 4 := rfl
  have n5 : (5 : Int32).toInt = 5 := rfl
  have n6 : (6 : Int32).toInt = 6 := rfl
  omega
theorem own_span (p0 : Int32) : v0_17_l6 p0 ≠ 0 := by
  unfold v0_17_l6 v0_7_l5
  rcases own_p7 p0 with h | h | h | h | h | h | h | h <;> rw [h] <;> decide
theorem own_c1 (E M : Int32) : v4_f_codesInGroup_ra0 E M 9 0 0 = 1 := by
  unfold v4_f_codesInGroup_ra0; split <;> rfl
theorem own_g1 (E M : Int32) : v4_f_groupEnded_ra0 E M 9 0 = 0 := by
  unfold v4_f_groupEnded_ra0; split <;> rfl
theorem own_r1 (E M : Int32) : v4_ret E M 9 0 0 = 0 := by
  unfold v4_ret v12_ret; split <;> rfl
theorem own_s0 (w : Int32) : v7_ret w w 0 = 0 := by unfold v7_ret v7_12_s0; rw [if_pos rfl, if_pos rfl]; rfl
theorem own_s1 (w : Int32) : v7_ret w w 1 = 1 := by unfold v7_ret v7_12_s0; rw [if_pos rfl, if_neg (by decide)]; rfl
theorem own_c2 (E M c : Int32) : v4_f_codesInGroup_ra0 E M (v5_ret E M) 0 c = (c + 1) % 8 := by
  unfold v4_f_codesInGroup_ra0; rw [own_s0, if_pos rfl]
theorem own_r2 (E M c : Int32) : v4_ret E M (v5_ret E M) 0 c = 0 := by
  unfold v4_ret; rw [own_s0, if_pos rfl]
theorem own_r3 (E M c : Int32) : v4_ret E M (v5_ret E M) 1 c = v12_ret c (v5_ret E M) := by
  unfold v4_ret; rw [own_s1, if_neg (by decide)]
theorem own_b3 (E M c : Int32) : v11_ret E M (v5_ret E M) 1 c = v12_ret c (v5_ret E M) + v5_ret E M := by
  unfold v11_ret; rw [own_s1, if_neg (by decide)]
theorem own_m8 (x : Int32) (h : 0 ≤ x.toInt) : (x % 8).toInt = x.toInt % 8 := (c_irem x (8 : Int32) 8 rfl).1 h
theorem own_t0 (p2 p3 : Int32) : ((((1 + (p2 &&& (1073741823 : Int32))) % 8) + (p3 &&& (1073741823 : Int32))) % 8) = v0_176_l20 p2 p3 := by
  have b2 := c_and p2 (1073741823 : Int32) (by decide); have b3 := c_and p3 (1073741823 : Int32) (by decide)
  have nm : (1073741823 : Int32).toInt = 1073741823 := rfl
  unfold v0_176_l20 v0_167_l18
  generalize p2 &&& (1073741823 : Int32) = x at *
  generalize p3 &&& (1073741823 : Int32) = y at *
  have n1 : (1 : Int32).toInt = 1 := rfl
  have n1L : (1 : Int64).toInt = 1 := rfl
  have n0L : ((0 : Int32).toInt64).toInt = 0 := rfl
  have a1 := c_iadd 1 x; have r1 := rng32 (1 + x)
  have m1 := own_m8 (1 + x) (by omega)
  have a2 := c_iadd ((1 + x) % 8) y; have r2 := rng32 ((1 + x) % 8 + y)
  have m2 := own_m8 ((1 + x) % 8 + y) (by omega)
  have ix := c_i2l x; have iy := c_i2l y
  have l1 := c_ladd (1 : Int64) x.toInt64; have q1 := rng64 (1 + x.toInt64)
  have l2 := c_ladd (1 + x.toInt64) ((0 : Int32).toInt64); have q2 := rng64 (1 + x.toInt64 + (0 : Int32).toInt64)
  have l3 := c_ladd (1 + x.toInt64 + (0 : Int32).toInt64) y.toInt64; have q3 := rng64 (1 + x.toInt64 + (0 : Int32).toInt64 + y.toInt64)
  generalize 1 + x.toInt64 + (0 : Int32).toInt64 + y.toInt64 = N at *
  have d : (N % 8).toInt = N.toInt % 8 := by rw [Int64.toInt_mod]; exact (tr _ _).1 (by omega)
  have c := c_l2i (N % 8); have rc := rng32 (N % 8).toInt32
  apply Int32.toInt_inj.mp
  omega
theorem own_t1 (p2 p3 : Int32) : (((((((1 + (p2 &&& (1073741823 : Int32))) % 8) + 1) % 8) + (p3 &&& (1073741823 : Int32))) % 8)) = v0_176_l20_1 p2 p3 := by
  have b2 := c_and p2 (1073741823 : Int32) (by decide); have b3 := c_and p3 (1073741823 : Int32) (by decide)
  have nm : (1073741823 : Int32).toInt = 1073741823 := rfl
  unfold v0_176_l20_1 v0_167_l18_1
  generalize p2 &&& (1073741823 : Int32) = x at *
  generalize p3 &&& (1073741823 : Int32) = y at *
  have n1 : (1 : Int32).toInt = 1 := rfl
  have n1L : (1 : Int64).toInt = 1 := rfl
  have n0L : ((1 : Int32).toInt64).toInt = 1 := rfl
  have a1 := c_iadd 1 x; have r1 := rng32 (1 + x)
  have m1 := own_m8 (1 + x) (by omega)
  have a0 := c_iadd ((1 + x) % 8) 1; have r0 := rng32 ((1 + x) % 8 + 1)
  have m0 := own_m8 ((1 + x) % 8 + 1) (by omega)
  have a2 := c_iadd (((1 + x) % 8 + 1) % 8) y; have r2 := rng32 (((1 + x) % 8 + 1) % 8 + y)
  have m2 := own_m8 (((1 + x) % 8 + 1) % 8 + y) (by omega)
  have ix := c_i2l x; have iy := c_i2l y
  have l1 := c_ladd (1 : Int64) x.toInt64; have q1 := rng64 (1 + x.toInt64)
  have l2 := c_ladd (1 + x.toInt64) ((1 : Int32).toInt64); have q2 := rng64 (1 + x.toInt64 + (1 : Int32).toInt64)
  have l3 := c_ladd (1 + x.toInt64 + (1 : Int32).toInt64) y.toInt64; have q3 := rng64 (1 + x.toInt64 + (1 : Int32).toInt64 + y.toInt64)
  generalize 1 + x.toInt64 + (1 : Int32).toInt64 + y.toInt64 = N at *
  have d : (N % 8).toInt = N.toInt % 8 := by rw [Int64.toInt_mod]; exact (tr _ _).1 (by omega)
  have c := c_l2i (N % 8); have rc := rng32 (N % 8).toInt32
  apply Int32.toInt_inj.mp
  omega
theorem own_law (p0 p1 p2 p3 p4 : Int32) : (v0_ret p0 p1 p2 p3 p4) = 1 := by
  have e0 : v0_199_s0 p0 p1 p2 p3 = 1 := by
    unfold v0_199_s0 v0_211_s0 v0_221_s0 v0_228_s0 v0_180_s0 v0_76_l12 v0_121_l15 v0_83_l13 v0_135_l16 v0_144_l17
    rw [own_r1, own_c1, own_r3, own_b3, own_t0]
    unfold v12_ret
    rw [if_pos rfl, if_pos rfl, if_pos rfl, if_pos rfl]
  have e1 : v0_199_s0_1 p0 p1 p2 p3 = 1 := by
    unfold v0_199_s0_1 v0_204_s0 v0_211_s0_1 v0_221_s0_1 v0_228_s0_1 v0_180_s0_1 v0_76_l12 v0_107_l14 v0_121_l15 v0_83_l13 v0_135_l16_1 v0_144_l17_1
    rw [own_r1, own_c1, own_g1, own_r2, own_c2, own_r3, own_b3, own_t1]
    unfold v12_ret
    rw [if_pos rfl, if_pos rfl, if_pos rfl, if_pos rfl, if_pos rfl]
  unfold v0_ret
  rw [e0, e1]
  split <;> rfl

theorem ef_rm0 (m : MethodId) (p0 : Int32) (p1 : Int32) (p2 : Int32) (p3 : Int32) (p4 : Int32) : entryFrame m #[(.int p0), (.int p1), (.int p2), (.int p3), (.int p4)] maxLocals = mkF m 0 #[.val (.int p0), .val (.int p1), .val (.int p2), .val (.int p3), .val (.int p4), .unset, .unset, .unset, .unset, .unset, .unset, .unset, .unset, .unset, .unset, .unset, .unset, .unset, .unset, .unset, .unset, .unset] [] := by first | (simp [entryFrame, mkF, argsToLocals, Value.category, maxLocals]; done) | rfl
def Q0 (Z : State) (p0 : Int32) (p1 : Int32) (p2 : Int32) (p3 : Int32) (p4 : Int32) (h0 : Heap) (n0 : Nat) (v : Option Value) (h : Heap) (L : List Loc) : Prop := v = some (.int 1) ∧ Fr n0 L
set_option maxRecDepth 65536 in
set_option maxHeartbeats 40000000 in
theorem rm0 (l : Launch) (Z : State) (a0 : Array Value) (hw : ∀ d ∈ tables_1, d.before a0 Z = true) (ws : List Jvm.Cond) (p0 : Int32) (p1 : Int32) (p2 : Int32) (p3 : Int32) (p4 : Int32) (h0 : Heap) (n0 : Nat) (Z0 : n0 ≤ h0.size) :
    MetFree l x (head1 (Jvm.Cond.code x code maxLocals ret :: ws) room_1) (fun a U => a = #[(.int p0), (.int p1), (.int p2), (.int p3), (.int p4)] ∧ Z.Warmed39 U.vm ∧ U.heap = h0) (fun _ _ _ _ _ => True) (fun _ U o U' => ∃ v L, o = .returned v ∧ Q0 Z p0 p1 p2 p3 p4 h0 n0 v U'.heap L ∧ FrameEnd U o U' L room_1.cells room_1.slots) := by
  refine MetFree.of_bodySF (plainFor_of_name pn_220) hisR ?_
  intro p e s m args below meth c s₁ Bd hml0 hP hK
  obtain ⟨rfl, hZ, hh⟩ := hP
  have hx := Bd.exec
  have hby := Bd.bytes
  have hml : c.maxLocals = 22 := hml0
  have hown : s.vm.findClass "phrasebook/LayoutPlaceMorePinLaw" = some m.cls := findClass_of_methodNamed Bd.named
  have hnm := (name_of_methodNamed Bd.named Bd.method).1
  have X0 : Stand p l e room_1 s m #[(.int p0), (.int p1), (.int p2), (.int p3), (.int p4)] below meth c s₁ [] 0 0 := Stand.of_body Bd
  have e0 : s₁.heap = h0 := by rw [← hh, Bd.state]; rfl
  have N0 := Fr.nil n0
  have KC0 := Keep.refl h0 ([] : List Addr)
  have pre0 : ∀ t, Steps p.tables e below (s₁.setTop (mkF m 0 #[.val (.int p0), .val (.int p1), .val (.int p2), .val (.int p3), .val (.int p4), .unset, .unset, .unset, .unset, .unset, .unset, .unset, .unset, .unset, .unset, .unset, .unset, .unset, .unset, .unset, .unset, .unset] [])) t → Steps p.tables e below (s₁.setTop (entryFrame m #[(.int p0), (.int p1), (.int p2), (.int p3), (.int p4)] maxLocals)) t := fun t k => castTop (ef_rm0 m p0 p1 p2 p3 p4) k
  have k175 := fun (t : State) (kk : Steps p.tables e below (s₁.setTop (mkF m 58 #[.val (.int p0), .val (.int p1), .val (.int p2), .val (.int p3), .val (.int p4), .val (.int (v0_7_l5 p0)), .val (.int (v0_17_l6 p0)), .val (.int (v0_30_l7 p0 p1)), .val (.int (p2 &&& (1073741823 : Int32))), .val (.int (p3 &&& (1073741823 : Int32))), .val (.int (v0_48_s0 p4)), .unset, .unset, .unset, .unset, .unset, .unset, .unset, .unset, .unset, .unset, .unset] [])) t) => pre0 t (by
    show Steps p.tables e below (s₁.setTop (mkF m 0 #[.val (.int p0), .val (.int p1), .val (.int p2), .val (.int p3), .val (.int p4), .unset, .unset, .unset, .unset, .unset, .unset, .unset, .unset, .unset, .unset, .unset, .unset, .unset, .unset, .unset, .unset, .unset] [])) _
    refine XS.bipush X0.here hx rfl (hb hby at_0) ?_
    show Steps p.tables e below (s₁.setTop (mkF m 2 #[.val (.int p0), .val (.int p1), .val (.int p2), .val (.int p3), .val (.int p4), .unset, .unset, .unset, .unset, .unset, .unset, .unset, .unset, .unset, .unset, .unset, .unset, .unset, .unset, .unset, .unset, .unset] [(.int (9 : Int32))])) _
    refine XS.iloadN X0.here hx rfl (hb hby at_2) rfl ?_
    show Steps p.tables e below (s₁.setTop (mkF m 3 #[.val (.int p0), .val (.int p1), .val (.int p2), .val (.int p3), .val (.int p4), .unset, .unset, .unset, .unset, .unset, .unset, .unset, .unset, .unset, .unset, .unset, .unset, .unset, .unset, .unset, .unset, .unset] [(.int p0), (.int (9 : Int32))])) _
    refine XS.bipush X0.here hx rfl (hb hby at_3) ?_
    show Steps p.tables e below (s₁.setTop (mkF m 5 #[.val (.int p0), .val (.int p1), .val (.int p2), .val (.int p3), .val (.int p4), .unset, .unset, .unset, .unset, .unset, .unset, .unset, .unset, .unset, .unset, .unset, .unset, .unset, .unset, .unset, .unset, .unset] [(.int (7 : Int32)), (.int p0), (.int (9 : Int32))])) _
    refine XS.iand X0.here hx rfl (hb hby at_5) rfl ?_
    show Steps p.tables e below (s₁.setTop (mkF m 6 #[.val (.int p0), .val (.int p1), .val (.int p2), .val (.int p3), .val (.int p4), .unset, .unset, .unset, .unset, .unset, .unset, .unset, .unset, .unset, .unset, .unset, .unset, .unset, .unset, .unset, .unset, .unset] [(.int (p0 &&& (7 : Int32))), (.int (9 : Int32))])) _
    refine XS.iadd X0.here hx rfl (hb hby at_6) rfl ?_
    show Steps p.tables e below (s₁.setTop (mkF m 7 #[.val (.int p0), .val (.int p1), .val (.int p2), .val (.int p3), .val (.int p4), .unset, .unset, .unset, .unset, .unset, .unset, .unset, .unset, .unset, .unset, .unset, .unset, .unset, .unset, .unset, .unset, .unset] [(.int ((9 : Int32) + (p0 &&& (7 : Int32))))])) _
    refine XS.istore X0.here hx rfl (hb hby at_7) rfl (l' := #[.val (.int p0), .val (.int p1), .val (.int p2), .val (.int p3), .val (.int p4), .val (.int (v0_7_l5 p0)), .unset, .unset, .unset, .unset, .unset, .unset, .unset, .unset, .unset, .unset, .unset, .unset, .unset, .unset, .unset, .unset]) rfl ?_
    show Steps p.tables e below (s₁.setTop (mkF m 9 #[.val (.int p0), .val (.int p1), .val (.int p2), .val (.int p3), .val (.int p4), .val (.int (v0_7_l5 p0)), .unset, .unset, .unset, .unset, .unset, .unset, .unset, .unset, .unset, .unset, .unset, .unset, .unset, .unset, .unset, .unset] [])) _
    refine XS.iconst X0.here hx rfl (hb hby at_9) ?_
    show Steps p.tables e below (s₁.setTop (mkF m 10 #[.val (.int p0), .val (.int p1), .val (.int p2), .val (.int p3), .val (.int p4), .val (.int (v0_7_l5 p0)), .unset, .unset, .unset, .unset, .unset, .unset, .unset, .unset, .unset, .unset, .unset, .unset, .unset, .unset, .unset, .unset] [(.int (1 : Int32))])) _
    refine XS.iload X0.here hx rfl (hb hby at_10) rfl ?_
    show Steps p.tables e below (s₁.setTop (mkF m 12 #[.val (.int p0), .val (.int p1), .val (.int p2), .val (.int p3), .val (.int p4), .val (.int (v0_7_l5 p0)), .unset, .unset, .unset, .unset, .unset, .unset, .unset, .unset, .unset, .unset, .unset, .unset, .unset, .unset, .unset, .unset] [(.int (v0_7_l5 p0)), (.int (1 : Int32))])) _
    refine XS.ishl X0.here hx rfl (hb hby at_12) rfl ?_
    show Steps p.tables e below (s₁.setTop (mkF m 13 #[.val (.int p0), .val (.int p1), .val (.int p2), .val (.int p3), .val (.int p4), .val (.int (v0_7_l5 p0)), .unset, .unset, .unset, .unset, .unset, .unset, .unset, .unset, .unset, .unset, .unset, .unset, .unset, .unset, .unset, .unset] [(.int ((1 : Int32) <<< ((v0_7_l5 p0) &&& 31)))])) _
    refine XS.sipush X0.here hx rfl (hb hby at_13) ?_
    show Steps p.tables e below (s₁.setTop (mkF m 16 #[.val (.int p0), .val (.int p1), .val (.int p2), .val (.int p3), .val (.int p4), .val (.int (v0_7_l5 p0)), .unset, .unset, .unset, .unset, .unset, .unset, .unset, .unset, .unset, .unset, .unset, .unset, .unset, .unset, .unset, .unset] [(.int (256 : Int32)), (.int ((1 : Int32) <<< ((v0_7_l5 p0) &&& 31)))])) _
    refine XS.isub X0.here hx rfl (hb hby at_16) rfl ?_
    show Steps p.tables e below (s₁.setTop (mkF m 17 #[.val (.int p0), .val (.int p1), .val (.int p2), .val (.int p3), .val (.int p4), .val (.int (v0_7_l5 p0)), .unset, .unset, .unset, .unset, .unset, .unset, .unset, .unset, .unset, .unset, .unset, .unset, .unset, .unset, .unset, .unset] [(.int (((1 : Int32) <<< ((v0_7_l5 p0) &&& 31)) - (256 : Int32)))])) _
    refine XS.istore X0.here hx rfl (hb hby at_17) rfl (l' := #[.val (.int p0), .val (.int p1), .val (.int p2), .val (.int p3), .val (.int p4), .val (.int (v0_7_l5 p0)), .val (.int (v0_17_l6 p0)), .unset, .unset, .unset, .unset, .unset, .unset, .unset, .unset, .unset, .unset, .unset, .unset, .unset, .unset, .unset]) rfl ?_
    show Steps p.tables e below (s₁.setTop (mkF m 19 #[.val (.int p0), .val (.int p1), .val (.int p2), .val (.int p3), .val (.int p4), .val (.int (v0_7_l5 p0)), .val (.int (v0_17_l6 p0)), .unset, .unset, .unset, .unset, .unset, .unset, .unset, .unset, .unset, .unset, .unset, .unset, .unset, .unset, .unset] [])) _
    refine XS.sipush X0.here hx rfl (hb hby at_19) ?_
    show Steps p.tables e below (s₁.setTop (mkF m 22 #[.val (.int p0), .val (.int p1), .val (.int p2), .val (.int p3), .val (.int p4), .val (.int (v0_7_l5 p0)), .val (.int (v0_17_l6 p0)), .unset, .unset, .unset, .unset, .unset, .unset, .unset, .unset, .unset, .unset, .unset, .unset, .unset, .unset, .unset] [(.int (257 : Int32))])) _
    refine XS.iloadN X0.here hx rfl (hb hby at_22) rfl ?_
    show Steps p.tables e below (s₁.setTop (mkF m 23 #[.val (.int p0), .val (.int p1), .val (.int p2), .val (.int p3), .val (.int p4), .val (.int (v0_7_l5 p0)), .val (.int (v0_17_l6 p0)), .unset, .unset, .unset, .unset, .unset, .unset, .unset, .unset, .unset, .unset, .unset, .unset, .unset, .unset, .unset] [(.int p1), (.int (257 : Int32))])) _
    refine X0.ldcInt hx hown (mvT hZ (hw _ (List.mem_of_getElem? (i := 0) rfl))) (g := (mkF m 23 #[.val (.int p0), .val (.int p1), .val (.int p2), .val (.int p3), .val (.int p4), .val (.int (v0_7_l5 p0)), .val (.int (v0_17_l6 p0)), .unset, .unset, .unset, .unset, .unset, .unset, .unset, .unset, .unset, .unset, .unset, .unset, .unset, .unset, .unset] [(.int p1), (.int (257 : Int32))])) rfl (hb hby at_23) _ ?_
    show Steps p.tables e below (s₁.setTop (mkF m 25 #[.val (.int p0), .val (.int p1), .val (.int p2), .val (.int p3), .val (.int p4), .val (.int (v0_7_l5 p0)), .val (.int (v0_17_l6 p0)), .unset, .unset, .unset, .unset, .unset, .unset, .unset, .unset, .unset, .unset, .unset, .unset, .unset, .unset, .unset] [(.int (2147483647 : Int32)), (.int p1), (.int (257 : Int32))])) _
    refine XS.iand X0.here hx rfl (hb hby at_25) rfl ?_
    show Steps p.tables e below (s₁.setTop (mkF m 26 #[.val (.int p0), .val (.int p1), .val (.int p2), .val (.int p3), .val (.int p4), .val (.int (v0_7_l5 p0)), .val (.int (v0_17_l6 p0)), .unset, .unset, .unset, .unset, .unset, .unset, .unset, .unset, .unset, .unset, .unset, .unset, .unset, .unset, .unset] [(.int (p1 &&& (2147483647 : Int32))), (.int (257 : Int32))])) _
    refine XS.iload X0.here hx rfl (hb hby at_26) rfl ?_
    show Steps p.tables e below (s₁.setTop (mkF m 28 #[.val (.int p0), .val (.int p1), .val (.int p2), .val (.int p3), .val (.int p4), .val (.int (v0_7_l5 p0)), .val (.int (v0_17_l6 p0)), .unset, .unset, .unset, .unset, .unset, .unset, .unset, .unset, .unset, .unset, .unset, .unset, .unset, .unset, .unset] [(.int (v0_17_l6 p0)), (.int (p1 &&& (2147483647 : Int32))), (.int (257 : Int32))])) _
    refine iremM X0 hx rfl (hb hby at_28) rfl (own_span p0) ?_
    show Steps p.tables e below (s₁.setTop (mkF m 29 #[.val (.int p0), .val (.int p1), .val (.int p2), .val (.int p3), .val (.int p4), .val (.int (v0_7_l5 p0)), .val (.int (v0_17_l6 p0)), .unset, .unset, .unset, .unset, .unset, .unset, .unset, .unset, .unset, .unset, .unset, .unset, .unset, .unset, .unset] [(.int ((p1 &&& (2147483647 : Int32)) % (v0_17_l6 p0))), (.int (257 : Int32))])) _
    refine XS.iadd X0.here hx rfl (hb hby at_29) rfl ?_
    show Steps p.tables e below (s₁.setTop (mkF m 30 #[.val (.int p0), .val (.int p1), .val (.int p2), .val (.int p3), .val (.int p4), .val (.int (v0_7_l5 p0)), .val (.int (v0_17_l6 p0)), .unset, .unset, .unset, .unset, .unset, .unset, .unset, .unset, .unset, .unset, .unset, .unset, .unset, .unset, .unset] [(.int ((257 : Int32) + ((p1 &&& (2147483647 : Int32)) % (v0_17_l6 p0))))])) _
    refine XS.istore X0.here hx rfl (hb hby at_30) rfl (l' := #[.val (.int p0), .val (.int p1), .val (.int p2), .val (.int p3), .val (.int p4), .val (.int (v0_7_l5 p0)), .val (.int (v0_17_l6 p0)), .val (.int (v0_30_l7 p0 p1)), .unset, .unset, .unset, .unset, .unset, .unset, .unset, .unset, .unset, .unset, .unset, .unset, .unset, .unset]) rfl ?_
    show Steps p.tables e below (s₁.setTop (mkF m 32 #[.val (.int p0), .val (.int p1), .val (.int p2), .val (.int p3), .val (.int p4), .val (.int (v0_7_l5 p0)), .val (.int (v0_17_l6 p0)), .val (.int (v0_30_l7 p0 p1)), .unset, .unset, .unset, .unset, .unset, .unset, .unset, .unset, .unset, .unset, .unset, .unset, .unset, .unset] [])) _
    refine XS.iloadN X0.here hx rfl (hb hby at_32) rfl ?_
    show Steps p.tables e below (s₁.setTop (mkF m 33 #[.val (.int p0), .val (.int p1), .val (.int p2), .val (.int p3), .val (.int p4), .val (.int (v0_7_l5 p0)), .val (.int (v0_17_l6 p0)), .val (.int (v0_30_l7 p0 p1)), .unset, .unset, .unset, .unset, .unset, .unset, .unset, .unset, .unset, .unset, .unset, .unset, .unset, .unset] [(.int p2)])) _
    refine X0.ldcInt hx hown (mvT hZ (hw _ (List.mem_of_getElem? (i := 1) rfl))) (g := (mkF m 33 #[.val (.int p0), .val (.int p1), .val (.int p2), .val (.int p3), .val (.int p4), .val (.int (v0_7_l5 p0)), .val (.int (v0_17_l6 p0)), .val (.int (v0_30_l7 p0 p1)), .unset, .unset, .unset, .unset, .unset, .unset, .unset, .unset, .unset, .unset, .unset, .unset, .unset, .unset] [(.int p2)])) rfl (hb hby at_33) _ ?_
    show Steps p.tables e below (s₁.setTop (mkF m 35 #[.val (.int p0), .val (.int p1), .val (.int p2), .val (.int p3), .val (.int p4), .val (.int (v0_7_l5 p0)), .val (.int (v0_17_l6 p0)), .val (.int (v0_30_l7 p0 p1)), .unset, .unset, .unset, .unset, .unset, .unset, .unset, .unset, .unset, .unset, .unset, .unset, .unset, .unset] [(.int (1073741823 : Int32)), (.int p2)])) _
    refine XS.iand X0.here hx rfl (hb hby at_35) rfl ?_
    show Steps p.tables e below (s₁.setTop (mkF m 36 #[.val (.int p0), .val (.int p1), .val (.int p2), .val (.int p3), .val (.int p4), .val (.int (v0_7_l5 p0)), .val (.int (v0_17_l6 p0)), .val (.int (v0_30_l7 p0 p1)), .unset, .unset, .unset, .unset, .unset, .unset, .unset, .unset, .unset, .unset, .unset, .unset, .unset, .unset] [(.int (p2 &&& (1073741823 : Int32)))])) _
    refine XS.istore X0.here hx rfl (hb hby at_36) rfl (l' := #[.val (.int p0), .val (.int p1), .val (.int p2), .val (.int p3), .val (.int p4), .val (.int (v0_7_l5 p0)), .val (.int (v0_17_l6 p0)), .val (.int (v0_30_l7 p0 p1)), .val (.int (p2 &&& (1073741823 : Int32))), .unset, .unset, .unset, .unset, .unset, .unset, .unset, .unset, .unset, .unset, .unset, .unset, .unset]) rfl ?_
    show Steps p.tables e below (s₁.setTop (mkF m 38 #[.val (.int p0), .val (.int p1), .val (.int p2), .val (.int p3), .val (.int p4), .val (.int (v0_7_l5 p0)), .val (.int (v0_17_l6 p0)), .val (.int (v0_30_l7 p0 p1)), .val (.int (p2 &&& (1073741823 : Int32))), .unset, .unset, .unset, .unset, .unset, .unset, .unset, .unset, .unset, .unset, .unset, .unset, .unset] [])) _
    refine XS.iloadN X0.here hx rfl (hb hby at_38) rfl ?_
    show Steps p.tables e below (s₁.setTop (mkF m 39 #[.val (.int p0), .val (.int p1), .val (.int p2), .val (.int p3), .val (.int p4), .val (.int (v0_7_l5 p0)), .val (.int (v0_17_l6 p0)), .val (.int (v0_30_l7 p0 p1)), .val (.int (p2 &&& (1073741823 : Int32))), .unset, .unset, .unset, .unset, .unset, .unset, .unset, .unset, .unset, .unset, .unset, .unset, .unset] [(.int p3)])) _
    refine X0.ldcInt hx hown (mvT hZ (hw _ (List.mem_of_getElem? (i := 1) rfl))) (g := (mkF m 39 #[.val (.int p0), .val (.int p1), .val (.int p2), .val (.int p3), .val (.int p4), .val (.int (v0_7_l5 p0)), .val (.int (v0_17_l6 p0)), .val (.int (v0_30_l7 p0 p1)), .val (.int (p2 &&& (1073741823 : Int32))), .unset, .unset, .unset, .unset, .unset, .unset, .unset, .unset, .unset, .unset, .unset, .unset, .unset] [(.int p3)])) rfl (hb hby at_39) _ ?_
    show Steps p.tables e below (s₁.setTop (mkF m 41 #[.val (.int p0), .val (.int p1), .val (.int p2), .val (.int p3), .val (.int p4), .val (.int (v0_7_l5 p0)), .val (.int (v0_17_l6 p0)), .val (.int (v0_30_l7 p0 p1)), .val (.int (p2 &&& (1073741823 : Int32))), .unset, .unset, .unset, .unset, .unset, .unset, .unset, .unset, .unset, .unset, .unset, .unset, .unset] [(.int (1073741823 : Int32)), (.int p3)])) _
    refine XS.iand X0.here hx rfl (hb hby at_41) rfl ?_
    show Steps p.tables e below (s₁.setTop (mkF m 42 #[.val (.int p0), .val (.int p1), .val (.int p2), .val (.int p3), .val (.int p4), .val (.int (v0_7_l5 p0)), .val (.int (v0_17_l6 p0)), .val (.int (v0_30_l7 p0 p1)), .val (.int (p2 &&& (1073741823 : Int32))), .unset, .unset, .unset, .unset, .unset, .unset, .unset, .unset, .unset, .unset, .unset, .unset, .unset] [(.int (p3 &&& (1073741823 : Int32)))])) _
    refine XS.istore X0.here hx rfl (hb hby at_42) rfl (l' := #[.val (.int p0), .val (.int p1), .val (.int p2), .val (.int p3), .val (.int p4), .val (.int (v0_7_l5 p0)), .val (.int (v0_17_l6 p0)), .val (.int (v0_30_l7 p0 p1)), .val (.int (p2 &&& (1073741823 : Int32))), .val (.int (p3 &&& (1073741823 : Int32))), .unset, .unset, .unset, .unset, .unset, .unset, .unset, .unset, .unset, .unset, .unset, .unset]) rfl ?_
    show Steps p.tables e below (s₁.setTop (mkF m 44 #[.val (.int p0), .val (.int p1), .val (.int p2), .val (.int p3), .val (.int p4), .val (.int (v0_7_l5 p0)), .val (.int (v0_17_l6 p0)), .val (.int (v0_30_l7 p0 p1)), .val (.int (p2 &&& (1073741823 : Int32))), .val (.int (p3 &&& (1073741823 : Int32))), .unset, .unset, .unset, .unset, .unset, .unset, .unset, .unset, .unset, .unset, .unset, .unset] [])) _
    refine XS.iload X0.here hx rfl (hb hby at_44) rfl ?_
    show Steps p.tables e below (s₁.setTop (mkF m 46 #[.val (.int p0), .val (.int p1), .val (.int p2), .val (.int p3), .val (.int p4), .val (.int (v0_7_l5 p0)), .val (.int (v0_17_l6 p0)), .val (.int (v0_30_l7 p0 p1)), .val (.int (p2 &&& (1073741823 : Int32))), .val (.int (p3 &&& (1073741823 : Int32))), .unset, .unset, .unset, .unset, .unset, .unset, .unset, .unset, .unset, .unset, .unset, .unset] [(.int p4)])) _
    refine XS.iconst X0.here hx rfl (hb hby at_46) ?_
    show Steps p.tables e below (s₁.setTop (mkF m 47 #[.val (.int p0), .val (.int p1), .val (.int p2), .val (.int p3), .val (.int p4), .val (.int (v0_7_l5 p0)), .val (.int (v0_17_l6 p0)), .val (.int (v0_30_l7 p0 p1)), .val (.int (p2 &&& (1073741823 : Int32))), .val (.int (p3 &&& (1073741823 : Int32))), .unset, .unset, .unset, .unset, .unset, .unset, .unset, .unset, .unset, .unset, .unset, .unset] [(.int (1 : Int32)), (.int p4)])) _
    refine XS.iand X0.here hx rfl (hb hby at_47) rfl ?_
    suffices k174 : Steps p.tables e below (s₁.setTop (mkF m 56 #[.val (.int p0), .val (.int p1), .val (.int p2), .val (.int p3), .val (.int p4), .val (.int (v0_7_l5 p0)), .val (.int (v0_17_l6 p0)), .val (.int (v0_30_l7 p0 p1)), .val (.int (p2 &&& (1073741823 : Int32))), .val (.int (p3 &&& (1073741823 : Int32))), .unset, .unset, .unset, .unset, .unset, .unset, .unset, .unset, .unset, .unset, .unset, .unset] [(.int (v0_48_s0 p4))])) t by
      by_cases hc48_173 : (p4 &&& (1 : Int32)) = (0 : Int32)
      · rw [(show (v0_48_s0 p4) = (0 : Int32) from if_pos hc48_173)] at k174
        show Steps p.tables e below (s₁.setTop (mkF m 48 #[.val (.int p0), .val (.int p1), .val (.int p2), .val (.int p3), .val (.int p4), .val (.int (v0_7_l5 p0)), .val (.int (v0_17_l6 p0)), .val (.int (v0_30_l7 p0 p1)), .val (.int (p2 &&& (1073741823 : Int32))), .val (.int (p3 &&& (1073741823 : Int32))), .unset, .unset, .unset, .unset, .unset, .unset, .unset, .unset, .unset, .unset, .unset, .unset] [(.int (p4 &&& (1 : Int32)))])) _
        refine XS.ifYes X0.here hx rfl (pc0 := 48) (pc' := 55) rfl (hb hby at_48) rfl ((if0 _ _).trans (teq hc48_173).1) (by decide) (by decide) ?_
        show Steps p.tables e below (s₁.setTop (mkF m 55 #[.val (.int p0), .val (.int p1), .val (.int p2), .val (.int p3), .val (.int p4), .val (.int (v0_7_l5 p0)), .val (.int (v0_17_l6 p0)), .val (.int (v0_30_l7 p0 p1)), .val (.int (p2 &&& (1073741823 : Int32))), .val (.int (p3 &&& (1073741823 : Int32))), .unset, .unset, .unset, .unset, .unset, .unset, .unset, .unset, .unset, .unset, .unset, .unset] [])) _
        refine XS.iconst X0.here hx rfl (hb hby at_55) ?_
        exact k174
      · rw [(show (v0_48_s0 p4) = (1 : Int32) from if_neg hc48_173)] at k174
        show Steps p.tables e below (s₁.setTop (mkF m 48 #[.val (.int p0), .val (.int p1), .val (.int p2), .val (.int p3), .val (.int p4), .val (.int (v0_7_l5 p0)), .val (.int (v0_17_l6 p0)), .val (.int (v0_30_l7 p0 p1)), .val (.int (p2 &&& (1073741823 : Int32))), .val (.int (p3 &&& (1073741823 : Int32))), .unset, .unset, .unset, .unset, .unset, .unset, .unset, .unset, .unset, .unset, .unset, .unset] [(.int (p4 &&& (1 : Int32)))])) _
        refine XS.ifNo X0.here hx rfl (hb hby at_48) rfl ((if0 _ _).trans (feq hc48_173).1) ?_
        show Steps p.tables e below (s₁.setTop (mkF m 51 #[.val (.int p0), .val (.int p1), .val (.int p2), .val (.int p3), .val (.int p4), .val (.int (v0_7_l5 p0)), .val (.int (v0_17_l6 p0)), .val (.int (v0_30_l7 p0 p1)), .val (.int (p2 &&& (1073741823 : Int32))), .val (.int (p3 &&& (1073741823 : Int32))), .unset, .unset, .unset, .unset, .unset, .unset, .unset, .unset, .unset, .unset, .unset, .unset] [])) _
        refine XS.iconst X0.here hx rfl (hb hby at_51) ?_
        show Steps p.tables e below (s₁.setTop (mkF m 52 #[.val (.int p0), .val (.int p1), .val (.int p2), .val (.int p3), .val (.int p4), .val (.int (v0_7_l5 p0)), .val (.int (v0_17_l6 p0)), .val (.int (v0_30_l7 p0 p1)), .val (.int (p2 &&& (1073741823 : Int32))), .val (.int (p3 &&& (1073741823 : Int32))), .unset, .unset, .unset, .unset, .unset, .unset, .unset, .unset, .unset, .unset, .unset, .unset] [(.int (1 : Int32))])) _
        refine XS.goto X0.here hx rfl (pc0 := 52) (pc' := 56) rfl (hb hby at_52) (by decide) (by decide) ?_
        exact k174
    show Steps p.tables e below (s₁.setTop (mkF m 56 #[.val (.int p0), .val (.int p1), .val (.int p2), .val (.int p3), .val (.int p4), .val (.int (v0_7_l5 p0)), .val (.int (v0_17_l6 p0)), .val (.int (v0_30_l7 p0 p1)), .val (.int (p2 &&& (1073741823 : Int32))), .val (.int (p3 &&& (1073741823 : Int32))), .unset, .unset, .unset, .unset, .unset, .unset, .unset, .unset, .unset, .unset, .unset, .unset] [(.int (v0_48_s0 p4))])) _
    refine XS.istore X0.here hx rfl (hb hby at_56) rfl (l' := #[.val (.int p0), .val (.int p1), .val (.int p2), .val (.int p3), .val (.int p4), .val (.int (v0_7_l5 p0)), .val (.int (v0_17_l6 p0)), .val (.int (v0_30_l7 p0 p1)), .val (.int (p2 &&& (1073741823 : Int32))), .val (.int (p3 &&& (1073741823 : Int32))), .val (.int (v0_48_s0 p4)), .unset, .unset, .unset, .unset, .unset, .unset, .unset, .unset, .unset, .unset, .unset]) rfl ?_
    exact kk)
  obtain ⟨T176, h176, X176, e176, E176, A176, D176, -, st176⟩ := newO X0 hx hZ hown (hw _ (List.mem_of_getElem? (i := 2) rfl)) (hw _ (List.mem_of_getElem? (i := 3) rfl)) (hw _ (List.mem_of_getElem? (i := 4) rfl)) e0 (g := (mkF m 58 #[.val (.int p0), .val (.int p1), .val (.int p2), .val (.int p3), .val (.int p4), .val (.int (v0_7_l5 p0)), .val (.int (v0_17_l6 p0)), .val (.int (v0_30_l7 p0 p1)), .val (.int (p2 &&& (1073741823 : Int32))), .val (.int (p3 &&& (1073741823 : Int32))), .val (.int (v0_48_s0 p4)), .unset, .unset, .unset, .unset, .unset, .unset, .unset, .unset, .unset, .unset, .unset] [])) rfl (hb hby at_58) (by decide) (by decide)
  obtain ⟨b176, g176⟩ : ∃ z, z = h0.size := ⟨_, rfl⟩
  rw [← g176] at A176 D176 st176
  have g_b176 : n0 ≤ b176 := Nat.le_trans (Nat.le_trans Z0 KC0.1) (Nat.le_of_eq g176.symm)
  have sz_b176 : h0.size ≤ b176 := Nat.le_trans KC0.1 (Nat.le_of_eq g176.symm)
  have K176 : Keep h0 h176 [] := KC0.ext E176
  have F_maxBits_b176 : Fld Z h176 b176 "phrasebook/ZFormat$Layout" "maxBits" "I" (.int (0 : Int32)) := D176 (Or.inr (hw _ (List.mem_of_getElem? (i := 12) rfl))) (ty := .int) (by decide)
  have F_width_b176 : Fld Z h176 b176 "phrasebook/ZFormat$Layout" "width" "I" (.int (0 : Int32)) := D176 (Or.inl (hw _ (List.mem_of_getElem? (i := 19) rfl))) (ty := .int) (by decide)
  have F_codesInGroup_b176 : Fld Z h176 b176 "phrasebook/ZFormat$Layout" "codesInGroup" "I" (.int (0 : Int32)) := D176 (Or.inl (hw _ (List.mem_of_getElem? (i := 21) rfl))) (ty := .int) (by decide)
  have F_groupEnded_b176 : Fld Z h176 b176 "phrasebook/ZFormat$Layout" "groupEnded" "Z" (.int (0 : Int32)) := D176 (Or.inl (hw _ (List.mem_of_getElem? (i := 23) rfl))) (ty := .boolean) (by decide)
  have k177 := fun (t : State) (kk : Steps p.tables e below (T176.setTop (mkF m 61 #[.val (.int p0), .val (.int p1), .val (.int p2), .val (.int p3), .val (.int p4), .val (.int (v0_7_l5 p0)), .val (.int (v0_17_l6 p0)), .val (.int (v0_30_l7 p0 p1)), .val (.int (p2 &&& (1073741823 : Int32))), .val (.int (p3 &&& (1073741823 : Int32))), .val (.int (v0_48_s0 p4)), .unset, .unset, .unset, .unset, .unset, .unset, .unset, .unset, .unset, .unset, .unset] [(.ref b176)])) t) => k175 t (st176 _ kk)
  have k178 := fun (t : State) (kk : Steps p.tables e below (T176.setTop (mkF m 64 #[.val (.int p0), .val (.int p1), .val (.int p2), .val (.int p3), .val (.int p4), .val (.int (v0_7_l5 p0)), .val (.int (v0_17_l6 p0)), .val (.int (v0_30_l7 p0 p1)), .val (.int (p2 &&& (1073741823 : Int32))), .val (.int (p3 &&& (1073741823 : Int32))), .val (.int (v0_48_s0 p4)), .unset, .unset, .unset, .unset, .unset, .unset, .unset, .unset, .unset, .unset, .unset] [(.int (v0_7_l5 p0)), (.ref b176), (.ref b176)])) t) => k177 t (by
    show Steps p.tables e below (T176.setTop (mkF m 61 #[.val (.int p0), .val (.int p1), .val (.int p2), .val (.int p3), .val (.int p4), .val (.int (v0_7_l5 p0)), .val (.int (v0_17_l6 p0)), .val (.int (v0_30_l7 p0 p1)), .val (.int (p2 &&& (1073741823 : Int32))), .val (.int (p3 &&& (1073741823 : Int32))), .val (.int (v0_48_s0 p4)), .unset, .unset, .unset, .unset, .unset, .unset, .unset, .unset, .unset, .unset, .unset] [(.ref b176)])) _
    refine XS.dup X176.here hx rfl (hb hby at_61) rfl rfl ?_
    show Steps p.tables e below (T176.setTop (mkF m 62 #[.val (.int p0), .val (.int p1), .val (.int p2), .val (.int p3), .val (.int p4), .val (.int (v0_7_l5 p0)), .val (.int (v0_17_l6 p0)), .val (.int (v0_30_l7 p0 p1)), .val (.int (p2 &&& (1073741823 : Int32))), .val (.int (p3 &&& (1073741823 : Int32))), .val (.int (v0_48_s0 p4)), .unset, .unset, .unset, .unset, .unset, .unset, .unset, .unset, .unset, .unset, .unset] [(.ref b176), (.ref b176)])) _
    refine XS.iload X176.here hx rfl (hb hby at_62) rfl ?_
    exact kk)
  have Zz179 : n0 ≤ h176.size := (Nat.le_trans Z0 K176.1)
  obtain ⟨_, _, ⟨T179, L179, k179, n179⟩, -, X179, ⟨Lc179, hQ179, l179, y179, z179⟩, st179⟩ := X176.specialBack hx (y := (⟨"phrasebook/ZFormat$Layout", "<init>", "(I)V"⟩ : MethodName)) rfl hown (mvT hZ (hw _ (List.mem_of_getElem? (i := 5) rfl))) (mvT hZ (hw _ (List.mem_of_getElem? (i := 6) rfl))) (mvT hZ (hw _ (List.mem_of_getElem? (i := 7) rfl))) (by decide) (backOf (W := 1) (rm1 l Z a0 hw [] b176 (v0_7_l5 p0) (0 : Int32) (0 : Int32) (0 : Int32) (0 : Int32) h176 n0 Zz179 A176 F_maxBits_b176 g_b176 F_width_b176 F_codesInGroup_b176 F_groupEnded_b176) hZ (hw _ (List.mem_of_getElem? (i := 7) rfl)) (hw _ (List.mem_of_getElem? (i := 4) rfl)) (by decide) (by decide)) (g := (mkF m 64 #[.val (.int p0), .val (.int p1), .val (.int p2), .val (.int p3), .val (.int p4), .val (.int (v0_7_l5 p0)), .val (.int (v0_17_l6 p0)), .val (.int (v0_30_l7 p0 p1)), .val (.int (p2 &&& (1073741823 : Int32))), .val (.int (p3 &&& (1073741823 : Int32))), .val (.int (v0_48_s0 p4)), .unset, .unset, .unset, .unset, .unset, .unset, .unset, .unset, .unset, .unset, .unset] [(.int (v0_7_l5 p0)), (.ref b176), (.ref b176)])) rfl (by rw [hml]; rfl) (Steps.refl _) (a := b176) (argsL := [(.int (v0_7_l5 p0))]) (rest := [(.ref b176)]) (lenOf pd_5 rfl) rfl (by show 2 * 0 + _ ≤ _; exact Nat.le_of_eq rfl) (hb hby at_64) (fun _ _ => ⟨rfl, e176, (by decide : 1 + 0 ≤ _), (by decide : 4 + 0 ≤ _)⟩)
  dsimp only [Pt.U, Pt.locs, Pt.cells, Pt.slots] at X179 l179 y179 z179 st179 hQ179
  subst l179 y179 z179
  obtain ⟨rfl, N179q, Kq179, Eq179_0, Fq179_0, Fq179_1, Fq179_2, Fq179_3⟩ := hQ179
  have K179 : Keep h0 T179.heap [] := K176.trans Kq179 (allS (Or.inr sz_b176) all0)
  have N179 := Fr.app N0 N179q
  have k180 := fun (t : State) (kk : Steps p.tables e below (T179.setTop (mkF m 67 #[.val (.int p0), .val (.int p1), .val (.int p2), .val (.int p3), .val (.int p4), .val (.int (v0_7_l5 p0)), .val (.int (v0_17_l6 p0)), .val (.int (v0_30_l7 p0 p1)), .val (.int (p2 &&& (1073741823 : Int32))), .val (.int (p3 &&& (1073741823 : Int32))), .val (.int (v0_48_s0 p4)), .unset, .unset, .unset, .unset, .unset, .unset, .unset, .unset, .unset, .unset, .unset] [(.ref b176)])) t) => k178 t (st179.trans kk)
  have k181 := fun (t : State) (kk : Steps p.tables e below (T179.setTop (mkF m 73 #[.val (.int p0), .val (.int p1), .val (.int p2), .val (.int p3), .val (.int p4), .val (.int (v0_7_l5 p0)), .val (.int (v0_17_l6 p0)), .val (.int (v0_30_l7 p0 p1)), .val (.int (p2 &&& (1073741823 : Int32))), .val (.int (p3 &&& (1073741823 : Int32))), .val (.int (v0_48_s0 p4)), .val (.ref b176), .unset, .unset, .unset, .unset, .unset, .unset, .unset, .unset, .unset, .unset] [(.int (v0_30_l7 p0 p1)), (.ref b176)])) t) => k180 t (by
    show Steps p.tables e below (T179.setTop (mkF m 67 #[.val (.int p0), .val (.int p1), .val (.int p2), .val (.int p3), .val (.int p4), .val (.int (v0_7_l5 p0)), .val (.int (v0_17_l6 p0)), .val (.int (v0_30_l7 p0 p1)), .val (.int (p2 &&& (1073741823 : Int32))), .val (.int (p3 &&& (1073741823 : Int32))), .val (.int (v0_48_s0 p4)), .unset, .unset, .unset, .unset, .unset, .unset, .unset, .unset, .unset, .unset, .unset] [(.ref b176)])) _
    refine XS.astore X179.here hx rfl (hb hby at_67) rfl rfl (l' := #[.val (.int p0), .val (.int p1), .val (.int p2), .val (.int p3), .val (.int p4), .val (.int (v0_7_l5 p0)), .val (.int (v0_17_l6 p0)), .val (.int (v0_30_l7 p0 p1)), .val (.int (p2 &&& (1073741823 : Int32))), .val (.int (p3 &&& (1073741823 : Int32))), .val (.int (v0_48_s0 p4)), .val (.ref b176), .unset, .unset, .unset, .unset, .unset, .unset, .unset, .unset, .unset, .unset]) rfl ?_
    show Steps p.tables e below (T179.setTop (mkF m 69 #[.val (.int p0), .val (.int p1), .val (.int p2), .val (.int p3), .val (.int p4), .val (.int (v0_7_l5 p0)), .val (.int (v0_17_l6 p0)), .val (.int (v0_30_l7 p0 p1)), .val (.int (p2 &&& (1073741823 : Int32))), .val (.int (p3 &&& (1073741823 : Int32))), .val (.int (v0_48_s0 p4)), .val (.ref b176), .unset, .unset, .unset, .unset, .unset, .unset, .unset, .unset, .unset, .unset] [])) _
    refine XS.aload X179.here hx rfl (hb hby at_69) rfl rfl ?_
    show Steps p.tables e below (T179.setTop (mkF m 71 #[.val (.int p0), .val (.int p1), .val (.int p2), .val (.int p3), .val (.int p4), .val (.int (v0_7_l5 p0)), .val (.int (v0_17_l6 p0)), .val (.int (v0_30_l7 p0 p1)), .val (.int (p2 &&& (1073741823 : Int32))), .val (.int (p3 &&& (1073741823 : Int32))), .val (.int (v0_48_s0 p4)), .val (.ref b176), .unset, .unset, .unset, .unset, .unset, .unset, .unset, .unset, .unset, .unset] [(.ref b176)])) _
    refine XS.iload X179.here hx rfl (hb hby at_71) rfl ?_
    exact kk)
  have Zz182 : n0 ≤ T179.heap.size := (Nat.le_trans Z0 K179.1)
  obtain ⟨cq182, kq182, q182a, q182b, q182c⟩ := isOf hZ rfl Eq179_0
  obtain ⟨_, _, ⟨T182, L182, k182, n182⟩, -, X182, ⟨Lc182, hQ182, l182, y182, z182⟩, st182⟩ := X179.virtualBack hx (y := (⟨"phrasebook/ZFormat$Layout", "place", "(I)I"⟩ : MethodName)) (z := (⟨"phrasebook/ZFormat$Layout", "place", "(I)I"⟩ : MethodName)) hown (mvT hZ (hw _ (List.mem_of_getElem? (i := 24) rfl))) (mvT hZ (hw _ (List.mem_of_getElem? (i := 25) rfl))) (notFace_of_selects (args := #[]) (mvT hZ (hw _ (List.mem_of_getElem? (i := 27) rfl)))) (mvT hZ (hw _ (List.mem_of_getElem? (i := 27) rfl))) (mvT hZ (hw _ (List.mem_of_getElem? (i := 26) rfl))) (by decide) (backOf (W := 0) (rm4 l Z a0 hw [] b176 (v0_30_l7 p0 p1) (v0_7_l5 p0) (9 : Int32) (0 : Int32) (0 : Int32) T179.heap n0 Zz182 Fq179_0 Eq179_0 Fq179_1 Fq179_3 g_b176 Fq179_2) hZ (hw _ (List.mem_of_getElem? (i := 28) rfl)) (hw _ (List.mem_of_getElem? (i := 4) rfl)) (by decide) (by decide)) q182a q182c (g := (mkF m 73 #[.val (.int p0), .val (.int p1), .val (.int p2), .val (.int p3), .val (.int p4), .val (.int (v0_7_l5 p0)), .val (.int (v0_17_l6 p0)), .val (.int (v0_30_l7 p0 p1)), .val (.int (p2 &&& (1073741823 : Int32))), .val (.int (p3 &&& (1073741823 : Int32))), .val (.int (v0_48_s0 p4)), .val (.ref b176), .unset, .unset, .unset, .unset, .unset, .unset, .unset, .unset, .unset, .unset] [(.int (v0_30_l7 p0 p1)), (.ref b176)])) rfl (by rw [hml]; rfl) (Steps.refl _) (argsL := [(.int (v0_30_l7 p0 p1))]) (rest := []) (lenOf pd_1 rfl) rfl (by show 2 * 0 + _ ≤ _; exact Nat.le_of_eq rfl) (hb hby at_73) (fun _ _ => ⟨rfl, rfl, (by decide : 1 + 0 ≤ _), (by decide : 4 + 0 ≤ _)⟩)
  dsimp only [Pt.U, Pt.locs, Pt.cells, Pt.slots] at X182 l182 y182 z182 st182 hQ182
  subst l182 y182 z182
  obtain ⟨rfl, N182q, Kq182, Eq182_0, Fq182_0, Fq182_1, Fq182_2, Fq182_3⟩ := hQ182
  have K182 : Keep h0 T182.heap [] := K179.trans Kq182 (allS (Or.inr sz_b176) all0)
  have N182 := Fr.app N179 N182q
  have k183 := fun (t : State) (kk : Steps p.tables e below (T182.setTop (mkF m 76 #[.val (.int p0), .val (.int p1), .val (.int p2), .val (.int p3), .val (.int p4), .val (.int (v0_7_l5 p0)), .val (.int (v0_17_l6 p0)), .val (.int (v0_30_l7 p0 p1)), .val (.int (p2 &&& (1073741823 : Int32))), .val (.int (p3 &&& (1073741823 : Int32))), .val (.int (v0_48_s0 p4)), .val (.ref b176), .unset, .unset, .unset, .unset, .unset, .unset, .unset, .unset, .unset, .unset] [(.int (v4_ret (v0_30_l7 p0 p1) (v0_7_l5 p0) (9 : Int32) (0 : Int32) (0 : Int32)))])) t) => k181 t (st182.trans kk)
  have k184 := fun (t : State) (kk : Steps p.tables e below (T182.setTop (mkF m 80 #[.val (.int p0), .val (.int p1), .val (.int p2), .val (.int p3), .val (.int p4), .val (.int (v0_7_l5 p0)), .val (.int (v0_17_l6 p0)), .val (.int (v0_30_l7 p0 p1)), .val (.int (p2 &&& (1073741823 : Int32))), .val (.int (p3 &&& (1073741823 : Int32))), .val (.int (v0_48_s0 p4)), .val (.ref b176), .val (.int (v0_76_l12 p0 p1)), .unset, .unset, .unset, .unset, .unset, .unset, .unset, .unset, .unset] [(.ref b176)])) t) => k183 t (by
    show Steps p.tables e below (T182.setTop (mkF m 76 #[.val (.int p0), .val (.int p1), .val (.int p2), .val (.int p3), .val (.int p4), .val (.int (v0_7_l5 p0)), .val (.int (v0_17_l6 p0)), .val (.int (v0_30_l7 p0 p1)), .val (.int (p2 &&& (1073741823 : Int32))), .val (.int (p3 &&& (1073741823 : Int32))), .val (.int (v0_48_s0 p4)), .val (.ref b176), .unset, .unset, .unset, .unset, .unset, .unset, .unset, .unset, .unset, .unset] [(.int (v4_ret (v0_30_l7 p0 p1) (v0_7_l5 p0) (9 : Int32) (0 : Int32) (0 : Int32)))])) _
    refine XS.istore X182.here hx rfl (hb hby at_76) rfl (l' := #[.val (.int p0), .val (.int p1), .val (.int p2), .val (.int p3), .val (.int p4), .val (.int (v0_7_l5 p0)), .val (.int (v0_17_l6 p0)), .val (.int (v0_30_l7 p0 p1)), .val (.int (p2 &&& (1073741823 : Int32))), .val (.int (p3 &&& (1073741823 : Int32))), .val (.int (v0_48_s0 p4)), .val (.ref b176), .val (.int (v0_76_l12 p0 p1)), .unset, .unset, .unset, .unset, .unset, .unset, .unset, .unset, .unset]) rfl ?_
    show Steps p.tables e below (T182.setTop (mkF m 78 #[.val (.int p0), .val (.int p1), .val (.int p2), .val (.int p3), .val (.int p4), .val (.int (v0_7_l5 p0)), .val (.int (v0_17_l6 p0)), .val (.int (v0_30_l7 p0 p1)), .val (.int (p2 &&& (1073741823 : Int32))), .val (.int (p3 &&& (1073741823 : Int32))), .val (.int (v0_48_s0 p4)), .val (.ref b176), .val (.int (v0_76_l12 p0 p1)), .unset, .unset, .unset, .unset, .unset, .unset, .unset, .unset, .unset] [])) _
    refine XS.aload X182.here hx rfl (hb hby at_78) rfl rfl ?_
    exact kk)
  have Zz185 : n0 ≤ T182.heap.size := (Nat.le_trans Z0 K182.1)
  obtain ⟨cq185, kq185, q185a, q185b, q185c⟩ := isOf hZ rfl Eq182_0
  obtain ⟨_, _, ⟨T185, L185, k185, n185⟩, -, X185, ⟨Lc185, hQ185, l185, y185, z185⟩, st185⟩ := X182.virtualBack hx (y := (⟨"phrasebook/ZFormat$Layout", "width", "()I"⟩ : MethodName)) (z := (⟨"phrasebook/ZFormat$Layout", "width", "()I"⟩ : MethodName)) hown (mvT hZ (hw _ (List.mem_of_getElem? (i := 42) rfl))) (mvT hZ (hw _ (List.mem_of_getElem? (i := 43) rfl))) (notFace_of_selects (args := #[]) (mvT hZ (hw _ (List.mem_of_getElem? (i := 45) rfl)))) (mvT hZ (hw _ (List.mem_of_getElem? (i := 45) rfl))) (mvT hZ (hw _ (List.mem_of_getElem? (i := 44) rfl))) (by decide) (backOf (W := 0) (rm8 l Z a0 hw [] b176 (v5_ret (v0_30_l7 p0 p1) (v0_7_l5 p0)) T182.heap n0 Zz185 Fq182_1) hZ (hw _ (List.mem_of_getElem? (i := 46) rfl)) (hw _ (List.mem_of_getElem? (i := 4) rfl)) (by decide) (by decide)) q185a q185c (g := (mkF m 80 #[.val (.int p0), .val (.int p1), .val (.int p2), .val (.int p3), .val (.int p4), .val (.int (v0_7_l5 p0)), .val (.int (v0_17_l6 p0)), .val (.int (v0_30_l7 p0 p1)), .val (.int (p2 &&& (1073741823 : Int32))), .val (.int (p3 &&& (1073741823 : Int32))), .val (.int (v0_48_s0 p4)), .val (.ref b176), .val (.int (v0_76_l12 p0 p1)), .unset, .unset, .unset, .unset, .unset, .unset, .unset, .unset, .unset] [(.ref b176)])) rfl (by rw [hml]; rfl) (Steps.refl _) (argsL := []) (rest := []) (lenOf pd_4 rfl) rfl (by show 2 * 0 + _ ≤ _; exact Nat.le_of_eq rfl) (hb hby at_80) (fun _ _ => ⟨rfl, rfl, (by decide : 1 + 0 ≤ _), (by decide : 4 + 0 ≤ _)⟩)
  dsimp only [Pt.U, Pt.locs, Pt.cells, Pt.slots] at X185 l185 y185 z185 st185 hQ185
  subst l185 y185 z185
  obtain ⟨rfl, N185q, e185⟩ := hQ185
  have N185 := Fr.app N182 N185q
  have k186 := fun (t : State) (kk : Steps p.tables e below (T185.setTop (mkF m 83 #[.val (.int p0), .val (.int p1), .val (.int p2), .val (.int p3), .val (.int p4), .val (.int (v0_7_l5 p0)), .val (.int (v0_17_l6 p0)), .val (.int (v0_30_l7 p0 p1)), .val (.int (p2 &&& (1073741823 : Int32))), .val (.int (p3 &&& (1073741823 : Int32))), .val (.int (v0_48_s0 p4)), .val (.ref b176), .val (.int (v0_76_l12 p0 p1)), .unset, .unset, .unset, .unset, .unset, .unset, .unset, .unset, .unset] [(.int (v5_ret (v0_30_l7 p0 p1) (v0_7_l5 p0)))])) t) => k184 t (st185.trans kk)
  have k187 := fun (t : State) (kk : Steps p.tables e below (T185.setTop (mkF m 89 #[.val (.int p0), .val (.int p1), .val (.int p2), .val (.int p3), .val (.int p4), .val (.int (v0_7_l5 p0)), .val (.int (v0_17_l6 p0)), .val (.int (v0_30_l7 p0 p1)), .val (.int (p2 &&& (1073741823 : Int32))), .val (.int (p3 &&& (1073741823 : Int32))), .val (.int (v0_48_s0 p4)), .val (.ref b176), .val (.int (v0_76_l12 p0 p1)), .val (.int (v0_83_l13 p0 p1)), .unset, .unset, .unset, .unset, .unset, .unset, .unset, .unset] [(.int (p2 &&& (1073741823 : Int32))), (.ref b176)])) t) => k186 t (by
    show Steps p.tables e below (T185.setTop (mkF m 83 #[.val (.int p0), .val (.int p1), .val (.int p2), .val (.int p3), .val (.int p4), .val (.int (v0_7_l5 p0)), .val (.int (v0_17_l6 p0)), .val (.int (v0_30_l7 p0 p1)), .val (.int (p2 &&& (1073741823 : Int32))), .val (.int (p3 &&& (1073741823 : Int32))), .val (.int (v0_48_s0 p4)), .val (.ref b176), .val (.int (v0_76_l12 p0 p1)), .unset, .unset, .unset, .unset, .unset, .unset, .unset, .unset, .unset] [(.int (v5_ret (v0_30_l7 p0 p1) (v0_7_l5 p0)))])) _
    refine XS.istore X185.here hx rfl (hb hby at_83) rfl (l' := #[.val (.int p0), .val (.int p1), .val (.int p2), .val (.int p3), .val (.int p4), .val (.int (v0_7_l5 p0)), .val (.int (v0_17_l6 p0)), .val (.int (v0_30_l7 p0 p1)), .val (.int (p2 &&& (1073741823 : Int32))), .val (.int (p3 &&& (1073741823 : Int32))), .val (.int (v0_48_s0 p4)), .val (.ref b176), .val (.int (v0_76_l12 p0 p1)), .val (.int (v0_83_l13 p0 p1)), .unset, .unset, .unset, .unset, .unset, .unset, .unset, .unset]) rfl ?_
    show Steps p.tables e below (T185.setTop (mkF m 85 #[.val (.int p0), .val (.int p1), .val (.int p2), .val (.int p3), .val (.int p4), .val (.int (v0_7_l5 p0)), .val (.int (v0_17_l6 p0)), .val (.int (v0_30_l7 p0 p1)), .val (.int (p2 &&& (1073741823 : Int32))), .val (.int (p3 &&& (1073741823 : Int32))), .val (.int (v0_48_s0 p4)), .val (.ref b176), .val (.int (v0_76_l12 p0 p1)), .val (.int (v0_83_l13 p0 p1)), .unset, .unset, .unset, .unset, .unset, .unset, .unset, .unset] [])) _
    refine XS.aload X185.here hx rfl (hb hby at_85) rfl rfl ?_
    show Steps p.tables e below (T185.setTop (mkF m 87 #[.val (.int p0), .val (.int p1), .val (.int p2), .val (.int p3), .val (.int p4), .val (.int (v0_7_l5 p0)), .val (.int (v0_17_l6 p0)), .val (.int (v0_30_l7 p0 p1)), .val (.int (p2 &&& (1073741823 : Int32))), .val (.int (p3 &&& (1073741823 : Int32))), .val (.int (v0_48_s0 p4)), .val (.ref b176), .val (.int (v0_76_l12 p0 p1)), .val (.int (v0_83_l13 p0 p1)), .unset, .unset, .unset, .unset, .unset, .unset, .unset, .unset] [(.ref b176)])) _
    refine XS.iload X185.here hx rfl (hb hby at_87) rfl ?_
    exact kk)
  have Zz188 : n0 ≤ T182.heap.size := (Nat.le_trans Z0 K182.1)
  obtain ⟨cq188, kq188, q188a, q188b, q188c⟩ := isOf hZ e185 Eq182_0
  obtain ⟨_, _, ⟨T188, L188, k188, n188⟩, -, X188, ⟨Lc188, hQ188, l188, y188, z188⟩, st188⟩ := X185.virtualBack hx (y := (⟨"phrasebook/ZFormat$Layout", "placeMore", "(I)V"⟩ : MethodName)) (z := (⟨"phrasebook/ZFormat$Layout", "placeMore", "(I)V"⟩ : MethodName)) hown (mvT hZ (hw _ (List.mem_of_getElem? (i := 47) rfl))) (mvT hZ (hw _ (List.mem_of_getElem? (i := 48) rfl))) (notFace_of_selects (args := #[]) (mvT hZ (hw _ (List.mem_of_getElem? (i := 50) rfl)))) (mvT hZ (hw _ (List.mem_of_getElem? (i := 50) rfl))) (mvT hZ (hw _ (List.mem_of_getElem? (i := 49) rfl))) (by decide) (backOf (W := 0) (rm9 l Z a0 hw [] b176 (p2 &&& (1073741823 : Int32)) (v4_f_codesInGroup_ra0 (v0_30_l7 p0 p1) (v0_7_l5 p0) (9 : Int32) (0 : Int32) (0 : Int32)) (v0_7_l5 p0) (v5_ret (v0_30_l7 p0 p1) (v0_7_l5 p0)) (v4_f_groupEnded_ra0 (v0_30_l7 p0 p1) (v0_7_l5 p0) (9 : Int32) (0 : Int32)) T182.heap n0 Zz188 Fq182_2 Eq182_0 g_b176 Fq182_0 Fq182_1 Fq182_3) hZ (hw _ (List.mem_of_getElem? (i := 51) rfl)) (hw _ (List.mem_of_getElem? (i := 4) rfl)) (by decide) (by decide)) q188a q188c (g := (mkF m 89 #[.val (.int p0), .val (.int p1), .val (.int p2), .val (.int p3), .val (.int p4), .val (.int (v0_7_l5 p0)), .val (.int (v0_17_l6 p0)), .val (.int (v0_30_l7 p0 p1)), .val (.int (p2 &&& (1073741823 : Int32))), .val (.int (p3 &&& (1073741823 : Int32))), .val (.int (v0_48_s0 p4)), .val (.ref b176), .val (.int (v0_76_l12 p0 p1)), .val (.int (v0_83_l13 p0 p1)), .unset, .unset, .unset, .unset, .unset, .unset, .unset, .unset] [(.int (p2 &&& (1073741823 : Int32))), (.ref b176)])) rfl (by rw [hml]; rfl) (Steps.refl _) (argsL := [(.int (p2 &&& (1073741823 : Int32)))]) (rest := []) (lenOf pd_5 rfl) rfl (by show 2 * 0 + _ ≤ _; exact Nat.le_of_eq rfl) (hb hby at_89) (fun _ _ => ⟨rfl, e185, (by decide : 1 + 0 ≤ _), (by decide : 4 + 0 ≤ _)⟩)
  dsimp only [Pt.U, Pt.locs, Pt.cells, Pt.slots] at X188 l188 y188 z188 st188 hQ188
  subst l188 y188 z188
  obtain ⟨rfl, N188q, Kq188, Eq188_0, Fq188_0, Fq188_1, Fq188_2, Fq188_3⟩ := hQ188
  have K188 : Keep h0 T188.heap [] := K182.trans Kq188 (allS (Or.inr sz_b176) all0)
  have N188 := Fr.app N185 N188q
  have k189 := fun (t : State) (kk : Steps p.tables e below (T188.setTop (mkF m 92 #[.val (.int p0), .val (.int p1), .val (.int p2), .val (.int p3), .val (.int p4), .val (.int (v0_7_l5 p0)), .val (.int (v0_17_l6 p0)), .val (.int (v0_30_l7 p0 p1)), .val (.int (p2 &&& (1073741823 : Int32))), .val (.int (p3 &&& (1073741823 : Int32))), .val (.int (v0_48_s0 p4)), .val (.ref b176), .val (.int (v0_76_l12 p0 p1)), .val (.int (v0_83_l13 p0 p1)), .unset, .unset, .unset, .unset, .unset, .unset, .unset, .unset] [])) t) => k187 t (st188.trans kk)
  have k190 := fun (t : State) (kk : Steps p.tables e below (T188.setTop (mkF m 97 #[.val (.int p0), .val (.int p1), .val (.int p2), .val (.int p3), .val (.int p4), .val (.int (v0_7_l5 p0)), .val (.int (v0_17_l6 p0)), .val (.int (v0_30_l7 p0 p1)), .val (.int (p2 &&& (1073741823 : Int32))), .val (.int (p3 &&& (1073741823 : Int32))), .val (.int (v0_48_s0 p4)), .val (.ref b176), .val (.int (v0_76_l12 p0 p1)), .val (.int (v0_83_l13 p0 p1)), .val (.int (0 : Int32)), .unset, .unset, .unset, .unset, .unset, .unset, .unset] [(.int (v0_48_s0 p4))])) t) => k189 t (by
    show Steps p.tables e below (T188.setTop (mkF m 92 #[.val (.int p0), .val (.int p1), .val (.int p2), .val (.int p3), .val (.int p4), .val (.int (v0_7_l5 p0)), .val (.int (v0_17_l6 p0)), .val (.int (v0_30_l7 p0 p1)), .val (.int (p2 &&& (1073741823 : Int32))), .val (.int (p3 &&& (1073741823 : Int32))), .val (.int (v0_48_s0 p4)), .val (.ref b176), .val (.int (v0_76_l12 p0 p1)), .val (.int (v0_83_l13 p0 p1)), .unset, .unset, .unset, .unset, .unset, .unset, .unset, .unset] [])) _
    refine XS.iconst X188.here hx rfl (hb hby at_92) ?_
    show Steps p.tables e below (T188.setTop (mkF m 93 #[.val (.int p0), .val (.int p1), .val (.int p2), .val (.int p3), .val (.int p4), .val (.int (v0_7_l5 p0)), .val (.int (v0_17_l6 p0)), .val (.int (v0_30_l7 p0 p1)), .val (.int (p2 &&& (1073741823 : Int32))), .val (.int (p3 &&& (1073741823 : Int32))), .val (.int (v0_48_s0 p4)), .val (.ref b176), .val (.int (v0_76_l12 p0 p1)), .val (.int (v0_83_l13 p0 p1)), .unset, .unset, .unset, .unset, .unset, .unset, .unset, .unset] [(.int (0 : Int32))])) _
    refine XS.istore X188.here hx rfl (hb hby at_93) rfl (l' := #[.val (.int p0), .val (.int p1), .val (.int p2), .val (.int p3), .val (.int p4), .val (.int (v0_7_l5 p0)), .val (.int (v0_17_l6 p0)), .val (.int (v0_30_l7 p0 p1)), .val (.int (p2 &&& (1073741823 : Int32))), .val (.int (p3 &&& (1073741823 : Int32))), .val (.int (v0_48_s0 p4)), .val (.ref b176), .val (.int (v0_76_l12 p0 p1)), .val (.int (v0_83_l13 p0 p1)), .val (.int (0 : Int32)), .unset, .unset, .unset, .unset, .unset, .unset, .unset]) rfl ?_
    show Steps p.tables e below (T188.setTop (mkF m 95 #[.val (.int p0), .val (.int p1), .val (.int p2), .val (.int p3), .val (.int p4), .val (.int (v0_7_l5 p0)), .val (.int (v0_17_l6 p0)), .val (.int (v0_30_l7 p0 p1)), .val (.int (p2 &&& (1073741823 : Int32))), .val (.int (p3 &&& (1073741823 : Int32))), .val (.int (v0_48_s0 p4)), .val (.ref b176), .val (.int (v0_76_l12 p0 p1)), .val (.int (v0_83_l13 p0 p1)), .val (.int (0 : Int32)), .unset, .unset, .unset, .unset, .unset, .unset, .unset] [])) _
    refine XS.iload X188.here hx rfl (hb hby at_95) rfl ?_
    exact kk)
  by_cases hc97_191 : (v0_48_s0 p4) = (0 : Int32)
  · have k192 := fun (t : State) (kk : Steps p.tables e below (T188.setTop (mkF m 113 #[.val (.int p0), .val (.int p1), .val (.int p2), .val (.int p3), .val (.int p4), .val (.int (v0_7_l5 p0)), .val (.int (v0_17_l6 p0)), .val (.int (v0_30_l7 p0 p1)), .val (.int (p2 &&& (1073741823 : Int32))), .val (.int (p3 &&& (1073741823 : Int32))), .val (.int (v0_48_s0 p4)), .val (.ref b176), .val (.int (v0_76_l12 p0 p1)), .val (.int (v0_83_l13 p0 p1)), .val (.int (0 : Int32)), .unset, .unset, .unset, .unset, .unset, .unset, .unset] [(.int (p3 &&& (1073741823 : Int32))), (.ref b176)])) t) => k190 t (by
      show Steps p.tables e below (T188.setTop (mkF m 97 #[.val (.int p0), .val (.int p1), .val (.int p2), .val (.int p3), .val (.int p4), .val (.int (v0_7_l5 p0)), .val (.int (v0_17_l6 p0)), .val (.int (v0_30_l7 p0 p1)), .val (.int (p2 &&& (1073741823 : Int32))), .val (.int (p3 &&& (1073741823 : Int32))), .val (.int (v0_48_s0 p4)), .val (.ref b176), .val (.int (v0_76_l12 p0 p1)), .val (.int (v0_83_l13 p0 p1)), .val (.int (0 : Int32)), .unset, .unset, .unset, .unset, .unset, .unset, .unset] [(.int (v0_48_s0 p4))])) _
      refine XS.ifYes X188.here hx rfl (pc0 := 97) (pc' := 109) rfl (hb hby at_97) rfl ((if0 _ _).trans (teq hc97_191).1) (by decide) (by decide) ?_
      show Steps p.tables e below (T188.setTop (mkF m 109 #[.val (.int p0), .val (.int p1), .val (.int p2), .val (.int p3), .val (.int p4), .val (.int (v0_7_l5 p0)), .val (.int (v0_17_l6 p0)), .val (.int (v0_30_l7 p0 p1)), .val (.int (p2 &&& (1073741823 : Int32))), .val (.int (p3 &&& (1073741823 : Int32))), .val (.int (v0_48_s0 p4)), .val (.ref b176), .val (.int (v0_76_l12 p0 p1)), .val (.int (v0_83_l13 p0 p1)), .val (.int (0 : Int32)), .unset, .unset, .unset, .unset, .unset, .unset, .unset] [])) _
      refine XS.aload X188.here hx rfl (hb hby at_109) rfl rfl ?_
      show Steps p.tables e below (T188.setTop (mkF m 111 #[.val (.int p0), .val (.int p1), .val (.int p2), .val (.int p3), .val (.int p4), .val (.int (v0_7_l5 p0)), .val (.int (v0_17_l6 p0)), .val (.int (v0_30_l7 p0 p1)), .val (.int (p2 &&& (1073741823 : Int32))), .val (.int (p3 &&& (1073741823 : Int32))), .val (.int (v0_48_s0 p4)), .val (.ref b176), .val (.int (v0_76_l12 p0 p1)), .val (.int (v0_83_l13 p0 p1)), .val (.int (0 : Int32)), .unset, .unset, .unset, .unset, .unset, .unset, .unset] [(.ref b176)])) _
      refine XS.iload X188.here hx rfl (hb hby at_111) rfl ?_
      exact kk)
    have Zz193 : n0 ≤ T188.heap.size := (Nat.le_trans Z0 K188.1)
    obtain ⟨cq193, kq193, q193a, q193b, q193c⟩ := isOf hZ rfl Eq188_0
    obtain ⟨_, _, ⟨T193, L193, k193, n193⟩, -, X193, ⟨Lc193, hQ193, l193, y193, z193⟩, st193⟩ := X188.virtualBack hx (y := (⟨"phrasebook/ZFormat$Layout", "placeMore", "(I)V"⟩ : MethodName)) (z := (⟨"phrasebook/ZFormat$Layout", "placeMore", "(I)V"⟩ : MethodName)) hown (mvT hZ (hw _ (List.mem_of_getElem? (i := 47) rfl))) (mvT hZ (hw _ (List.mem_of_getElem? (i := 48) rfl))) (notFace_of_selects (args := #[]) (mvT hZ (hw _ (List.mem_of_getElem? (i := 50) rfl)))) (mvT hZ (hw _ (List.mem_of_getElem? (i := 50) rfl))) (mvT hZ (hw _ (List.mem_of_getElem? (i := 49) rfl))) (by decide) (backOf (W := 0) (rm9 l Z a0 hw [] b176 (p3 &&& (1073741823 : Int32)) (((v4_f_codesInGroup_ra0 (v0_30_l7 p0 p1) (v0_7_l5 p0) (9 : Int32) (0 : Int32) (0 : Int32)) + (p2 &&& (1073741823 : Int32))) % (8 : Int32)) (v0_7_l5 p0) (v5_ret (v0_30_l7 p0 p1) (v0_7_l5 p0)) (v4_f_groupEnded_ra0 (v0_30_l7 p0 p1) (v0_7_l5 p0) (9 : Int32) (0 : Int32)) T188.heap n0 Zz193 Fq188_2 Eq188_0 g_b176 Fq188_0 Fq188_1 Fq188_3) hZ (hw _ (List.mem_of_getElem? (i := 51) rfl)) (hw _ (List.mem_of_getElem? (i := 4) rfl)) (by decide) (by decide)) q193a q193c (g := (mkF m 113 #[.val (.int p0), .val (.int p1), .val (.int p2), .val (.int p3), .val (.int p4), .val (.int (v0_7_l5 p0)), .val (.int (v0_17_l6 p0)), .val (.int (v0_30_l7 p0 p1)), .val (.int (p2 &&& (1073741823 : Int32))), .val (.int (p3 &&& (1073741823 : Int32))), .val (.int (v0_48_s0 p4)), .val (.ref b176), .val (.int (v0_76_l12 p0 p1)), .val (.int (v0_83_l13 p0 p1)), .val (.int (0 : Int32)), .unset, .unset, .unset, .unset, .unset, .unset, .unset] [(.int (p3 &&& (1073741823 : Int32))), (.ref b176)])) rfl (by rw [hml]; rfl) (Steps.refl _) (argsL := [(.int (p3 &&& (1073741823 : Int32)))]) (rest := []) (lenOf pd_5 rfl) rfl (by show 2 * 0 + _ ≤ _; exact Nat.le_of_eq rfl) (hb hby at_113) (fun _ _ => ⟨rfl, rfl, (by decide : 1 + 0 ≤ _), (by decide : 4 + 0 ≤ _)⟩)
    dsimp only [Pt.U, Pt.locs, Pt.cells, Pt.slots] at X193 l193 y193 z193 st193 hQ193
    subst l193 y193 z193
    obtain ⟨rfl, N193q, Kq193, Eq193_0, Fq193_0, Fq193_1, Fq193_2, Fq193_3⟩ := hQ193
    have K193 : Keep h0 T193.heap [] := K188.trans Kq193 (allS (Or.inr sz_b176) all0)
    have N193 := Fr.app N188 N193q
    have k194 := fun (t : State) (kk : Steps p.tables e below (T193.setTop (mkF m 116 #[.val (.int p0), .val (.int p1), .val (.int p2), .val (.int p3), .val (.int p4), .val (.int (v0_7_l5 p0)), .val (.int (v0_17_l6 p0)), .val (.int (v0_30_l7 p0 p1)), .val (.int (p2 &&& (1073741823 : Int32))), .val (.int (p3 &&& (1073741823 : Int32))), .val (.int (v0_48_s0 p4)), .val (.ref b176), .val (.int (v0_76_l12 p0 p1)), .val (.int (v0_83_l13 p0 p1)), .val (.int (0 : Int32)), .unset, .unset, .unset, .unset, .unset, .unset, .unset] [])) t) => k192 t (st193.trans kk)
    have k195 := fun (t : State) (kk : Steps p.tables e below (T193.setTop (mkF m 118 #[.val (.int p0), .val (.int p1), .val (.int p2), .val (.int p3), .val (.int p4), .val (.int (v0_7_l5 p0)), .val (.int (v0_17_l6 p0)), .val (.int (v0_30_l7 p0 p1)), .val (.int (p2 &&& (1073741823 : Int32))), .val (.int (p3 &&& (1073741823 : Int32))), .val (.int (v0_48_s0 p4)), .val (.ref b176), .val (.int (v0_76_l12 p0 p1)), .val (.int (v0_83_l13 p0 p1)), .val (.int (0 : Int32)), .unset, .unset, .unset, .unset, .unset, .unset, .unset] [(.ref b176)])) t) => k194 t (by
      show Steps p.tables e below (T193.setTop (mkF m 116 #[.val (.int p0), .val (.int p1), .val (.int p2), .val (.int p3), .val (.int p4), .val (.int (v0_7_l5 p0)), .val (.int (v0_17_l6 p0)), .val (.int (v0_30_l7 p0 p1)), .val (.int (p2 &&& (1073741823 : Int32))), .val (.int (p3 &&& (1073741823 : Int32))), .val (.int (v0_48_s0 p4)), .val (.ref b176), .val (.int (v0_76_l12 p0 p1)), .val (.int (v0_83_l13 p0 p1)), .val (.int (0 : Int32)), .unset, .unset, .unset, .unset, .unset, .unset, .unset] [])) _
      refine XS.aload X193.here hx rfl (hb hby at_116) rfl rfl ?_
      exact kk)
    have Zz196 : n0 ≤ T193.heap.size := (Nat.le_trans Z0 K193.1)
    obtain ⟨cq196, kq196, q196a, q196b, q196c⟩ := isOf hZ rfl Eq193_0
    obtain ⟨_, _, ⟨T196, L196, k196, n196⟩, -, X196, ⟨Lc196, hQ196, l196, y196, z196⟩, st196⟩ := X193.virtualBack hx (y := (⟨"phrasebook/ZFormat$Layout", "width", "()I"⟩ : MethodName)) (z := (⟨"phrasebook/ZFormat$Layout", "width", "()I"⟩ : MethodName)) hown (mvT hZ (hw _ (List.mem_of_getElem? (i := 42) rfl))) (mvT hZ (hw _ (List.mem_of_getElem? (i := 43) rfl))) (notFace_of_selects (args := #[]) (mvT hZ (hw _ (List.mem_of_getElem? (i := 45) rfl)))) (mvT hZ (hw _ (List.mem_of_getElem? (i := 45) rfl))) (mvT hZ (hw _ (List.mem_of_getElem? (i := 44) rfl))) (by decide) (backOf (W := 0) (rm8 l Z a0 hw [] b176 (v5_ret (v0_30_l7 p0 p1) (v0_7_l5 p0)) T193.heap n0 Zz196 Fq193_1) hZ (hw _ (List.mem_of_getElem? (i := 46) rfl)) (hw _ (List.mem_of_getElem? (i := 4) rfl)) (by decide) (by decide)) q196a q196c (g := (mkF m 118 #[.val (.int p0), .val (.int p1), .val (.int p2), .val (.int p3), .val (.int p4), .val (.int (v0_7_l5 p0)), .val (.int (v0_17_l6 p0)), .val (.int (v0_30_l7 p0 p1)), .val (.int (p2 &&& (1073741823 : Int32))), .val (.int (p3 &&& (1073741823 : Int32))), .val (.int (v0_48_s0 p4)), .val (.ref b176), .val (.int (v0_76_l12 p0 p1)), .val (.int (v0_83_l13 p0 p1)), .val (.int (0 : Int32)), .unset, .unset, .unset, .unset, .unset, .unset, .unset] [(.ref b176)])) rfl (by rw [hml]; rfl) (Steps.refl _) (argsL := []) (rest := []) (lenOf pd_4 rfl) rfl (by show 2 * 0 + _ ≤ _; exact Nat.le_of_eq rfl) (hb hby at_118) (fun _ _ => ⟨rfl, rfl, (by decide : 1 + 0 ≤ _), (by decide : 4 + 0 ≤ _)⟩)
    dsimp only [Pt.U, Pt.locs, Pt.cells, Pt.slots] at X196 l196 y196 z196 st196 hQ196
    subst l196 y196 z196
    obtain ⟨rfl, N196q, e196⟩ := hQ196
    have N196 := Fr.app N193 N196q
    have k197 := fun (t : State) (kk : Steps p.tables e below (T196.setTop (mkF m 121 #[.val (.int p0), .val (.int p1), .val (.int p2), .val (.int p3), .val (.int p4), .val (.int (v0_7_l5 p0)), .val (.int (v0_17_l6 p0)), .val (.int (v0_30_l7 p0 p1)), .val (.int (p2 &&& (1073741823 : Int32))), .val (.int (p3 &&& (1073741823 : Int32))), .val (.int (v0_48_s0 p4)), .val (.ref b176), .val (.int (v0_76_l12 p0 p1)), .val (.int (v0_83_l13 p0 p1)), .val (.int (0 : Int32)), .unset, .unset, .unset, .unset, .unset, .unset, .unset] [(.int (v5_ret (v0_30_l7 p0 p1) (v0_7_l5 p0)))])) t) => k195 t (st196.trans kk)
    have k198 := fun (t : State) (kk : Steps p.tables e below (T196.setTop (mkF m 125 #[.val (.int p0), .val (.int p1), .val (.int p2), .val (.int p3), .val (.int p4), .val (.int (v0_7_l5 p0)), .val (.int (v0_17_l6 p0)), .val (.int (v0_30_l7 p0 p1)), .val (.int (p2 &&& (1073741823 : Int32))), .val (.int (p3 &&& (1073741823 : Int32))), .val (.int (v0_48_s0 p4)), .val (.ref b176), .val (.int (v0_76_l12 p0 p1)), .val (.int (v0_83_l13 p0 p1)), .val (.int (0 : Int32)), .val (.int (v0_121_l15 p0 p1)), .unset, .unset, .unset, .unset, .unset, .unset] [(.ref b176)])) t) => k197 t (by
      show Steps p.tables e below (T196.setTop (mkF m 121 #[.val (.int p0), .val (.int p1), .val (.int p2), .val (.int p3), .val (.int p4), .val (.int (v0_7_l5 p0)), .val (.int (v0_17_l6 p0)), .val (.int (v0_30_l7 p0 p1)), .val (.int (p2 &&& (1073741823 : Int32))), .val (.int (p3 &&& (1073741823 : Int32))), .val (.int (v0_48_s0 p4)), .val (.ref b176), .val (.int (v0_76_l12 p0 p1)), .val (.int (v0_83_l13 p0 p1)), .val (.int (0 : Int32)), .unset, .unset, .unset, .unset, .unset, .unset, .unset] [(.int (v5_ret (v0_30_l7 p0 p1) (v0_7_l5 p0)))])) _
      refine XS.istore X196.here hx rfl (hb hby at_121) rfl (l' := #[.val (.int p0), .val (.int p1), .val (.int p2), .val (.int p3), .val (.int p4), .val (.int (v0_7_l5 p0)), .val (.int (v0_17_l6 p0)), .val (.int (v0_30_l7 p0 p1)), .val (.int (p2 &&& (1073741823 : Int32))), .val (.int (p3 &&& (1073741823 : Int32))), .val (.int (v0_48_s0 p4)), .val (.ref b176), .val (.int (v0_76_l12 p0 p1)), .val (.int (v0_83_l13 p0 p1)), .val (.int (0 : Int32)), .val (.int (v0_121_l15 p0 p1)), .unset, .unset, .unset, .unset, .unset, .unset]) rfl ?_
      show Steps p.tables e below (T196.setTop (mkF m 123 #[.val (.int p0), .val (.int p1), .val (.int p2), .val (.int p3), .val (.int p4), .val (.int (v0_7_l5 p0)), .val (.int (v0_17_l6 p0)), .val (.int (v0_30_l7 p0 p1)), .val (.int (p2 &&& (1073741823 : Int32))), .val (.int (p3 &&& (1073741823 : Int32))), .val (.int (v0_48_s0 p4)), .val (.ref b176), .val (.int (v0_76_l12 p0 p1)), .val (.int (v0_83_l13 p0 p1)), .val (.int (0 : Int32)), .val (.int (v0_121_l15 p0 p1)), .unset, .unset, .unset, .unset, .unset, .unset] [])) _
      refine XS.aload X196.here hx rfl (hb hby at_123) rfl rfl ?_
      exact kk)
    have Zz199 : n0 ≤ T193.heap.size := (Nat.le_trans Z0 K193.1)
    obtain ⟨cq199, kq199, q199a, q199b, q199c⟩ := isOf hZ e196 Eq193_0
    obtain ⟨_, _, ⟨T199, L199, k199, n199⟩, -, X199, ⟨Lc199, hQ199, l199, y199, z199⟩, st199⟩ := X196.virtualBack hx (y := (⟨"phrasebook/ZFormat$Layout", "endGroup", "()V"⟩ : MethodName)) (z := (⟨"phrasebook/ZFormat$Layout", "endGroup", "()V"⟩ : MethodName)) hown (mvT hZ (hw _ (List.mem_of_getElem? (i := 52) rfl))) (mvT hZ (hw _ (List.mem_of_getElem? (i := 53) rfl))) (notFace_of_selects (args := #[]) (mvT hZ (hw _ (List.mem_of_getElem? (i := 55) rfl)))) (mvT hZ (hw _ (List.mem_of_getElem? (i := 55) rfl))) (mvT hZ (hw _ (List.mem_of_getElem? (i := 54) rfl))) (by decide) (backOf (W := 0) (rm10 l Z a0 hw [] b176 (v4_f_groupEnded_ra0 (v0_30_l7 p0 p1) (v0_7_l5 p0) (9 : Int32) (0 : Int32)) (v0_7_l5 p0) (v5_ret (v0_30_l7 p0 p1) (v0_7_l5 p0)) (((((v4_f_codesInGroup_ra0 (v0_30_l7 p0 p1) (v0_7_l5 p0) (9 : Int32) (0 : Int32) (0 : Int32)) + (p2 &&& (1073741823 : Int32))) % (8 : Int32)) + (p3 &&& (1073741823 : Int32))) % (8 : Int32)) T193.heap n0 Zz199 Eq193_0 Fq193_3 g_b176 Fq193_0 Fq193_1 Fq193_2) hZ (hw _ (List.mem_of_getElem? (i := 56) rfl)) (hw _ (List.mem_of_getElem? (i := 4) rfl)) (by decide) (by decide)) q199a q199c (g := (mkF m 125 #[.val (.int p0), .val (.int p1), .val (.int p2), .val (.int p3), .val (.int p4), .val (.int (v0_7_l5 p0)), .val (.int (v0_17_l6 p0)), .val (.int (v0_30_l7 p0 p1)), .val (.int (p2 &&& (1073741823 : Int32))), .val (.int (p3 &&& (1073741823 : Int32))), .val (.int (v0_48_s0 p4)), .val (.ref b176), .val (.int (v0_76_l12 p0 p1)), .val (.int (v0_83_l13 p0 p1)), .val (.int (0 : Int32)), .val (.int (v0_121_l15 p0 p1)), .unset, .unset, .unset, .unset, .unset, .unset] [(.ref b176)])) rfl (by rw [hml]; rfl) (Steps.refl _) (argsL := []) (rest := []) (lenOf pd_0 rfl) rfl (by show 2 * 0 + _ ≤ _; exact Nat.le_of_eq rfl) (hb hby at_125) (fun _ _ => ⟨rfl, e196, (by decide : 1 + 0 ≤ _), (by decide : 4 + 0 ≤ _)⟩)
    dsimp only [Pt.U, Pt.locs, Pt.cells, Pt.slots] at X199 l199 y199 z199 st199 hQ199
    subst l199 y199 z199
    obtain ⟨rfl, N199q, Kq199, Eq199_0, Fq199_0, Fq199_1, Fq199_2, Fq199_3⟩ := hQ199
    have K199 : Keep h0 T199.heap [] := K193.trans Kq199 (allS (Or.inr sz_b176) all0)
    have N199 := Fr.app N196 N199q
    have k200 := fun (t : State) (kk : Steps p.tables e below (T199.setTop (mkF m 128 #[.val (.int p0), .val (.int p1), .val (.int p2), .val (.int p3), .val (.int p4), .val (.int (v0_7_l5 p0)), .val (.int (v0_17_l6 p0)), .val (.int (v0_30_l7 p0 p1)), .val (.int (p2 &&& (1073741823 : Int32))), .val (.int (p3 &&& (1073741823 : Int32))), .val (.int (v0_48_s0 p4)), .val (.ref b176), .val (.int (v0_76_l12 p0 p1)), .val (.int (v0_83_l13 p0 p1)), .val (.int (0 : Int32)), .val (.int (v0_121_l15 p0 p1)), .unset, .unset, .unset, .unset, .unset, .unset] [])) t) => k198 t (st199.trans kk)
    have k201 := fun (t : State) (kk : Steps p.tables e below (T199.setTop (mkF m 132 #[.val (.int p0), .val (.int p1), .val (.int p2), .val (.int p3), .val (.int p4), .val (.int (v0_7_l5 p0)), .val (.int (v0_17_l6 p0)), .val (.int (v0_30_l7 p0 p1)), .val (.int (p2 &&& (1073741823 : Int32))), .val (.int (p3 &&& (1073741823 : Int32))), .val (.int (v0_48_s0 p4)), .val (.ref b176), .val (.int (v0_76_l12 p0 p1)), .val (.int (v0_83_l13 p0 p1)), .val (.int (0 : Int32)), .val (.int (v0_121_l15 p0 p1)), .unset, .unset, .unset, .unset, .unset, .unset] [(.int (v0_30_l7 p0 p1)), (.ref b176)])) t) => k200 t (by
      show Steps p.tables e below (T199.setTop (mkF m 128 #[.val (.int p0), .val (.int p1), .val (.int p2), .val (.int p3), .val (.int p4), .val (.int (v0_7_l5 p0)), .val (.int (v0_17_l6 p0)), .val (.int (v0_30_l7 p0 p1)), .val (.int (p2 &&& (1073741823 : Int32))), .val (.int (p3 &&& (1073741823 : Int32))), .val (.int (v0_48_s0 p4)), .val (.ref b176), .val (.int (v0_76_l12 p0 p1)), .val (.int (v0_83_l13 p0 p1)), .val (.int (0 : Int32)), .val (.int (v0_121_l15 p0 p1)), .unset, .unset, .unset, .unset, .unset, .unset] [])) _
      refine XS.aload X199.here hx rfl (hb hby at_128) rfl rfl ?_
      show Steps p.tables e below (T199.setTop (mkF m 130 #[.val (.int p0), .val (.int p1), .val (.int p2), .val (.int p3), .val (.int p4), .val (.int (v0_7_l5 p0)), .val (.int (v0_17_l6 p0)), .val (.int (v0_30_l7 p0 p1)), .val (.int (p2 &&& (1073741823 : Int32))), .val (.int (p3 &&& (1073741823 : Int32))), .val (.int (v0_48_s0 p4)), .val (.ref b176), .val (.int (v0_76_l12 p0 p1)), .val (.int (v0_83_l13 p0 p1)), .val (.int (0 : Int32)), .val (.int (v0_121_l15 p0 p1)), .unset, .unset, .unset, .unset, .unset, .unset] [(.ref b176)])) _
      refine XS.iload X199.here hx rfl (hb hby at_130) rfl ?_
      exact kk)
    have Zz202 : n0 ≤ T199.heap.size := (Nat.le_trans Z0 K199.1)
    obtain ⟨cq202, kq202, q202a, q202b, q202c⟩ := isOf hZ rfl Eq199_0
    obtain ⟨_, _, ⟨T202, L202, k202, n202⟩, -, X202, ⟨Lc202, hQ202, l202, y202, z202⟩, st202⟩ := X199.virtualBack hx (y := (⟨"phrasebook/ZFormat$Layout", "bitsFor", "(I)I"⟩ : MethodName)) (z := (⟨"phrasebook/ZFormat$Layout", "bitsFor", "(I)I"⟩ : MethodName)) hown (mvT hZ (hw _ (List.mem_of_getElem? (i := 57) rfl))) (mvT hZ (hw _ (List.mem_of_getElem? (i := 58) rfl))) (notFace_of_selects (args := #[]) (mvT hZ (hw _ (List.mem_of_getElem? (i := 60) rfl)))) (mvT hZ (hw _ (List.mem_of_getElem? (i := 60) rfl))) (mvT hZ (hw _ (List.mem_of_getElem? (i := 59) rfl))) (by decide) (backOf (W := 0) (rm11 l Z a0 hw [] b176 (v0_30_l7 p0 p1) (v0_7_l5 p0) (v5_ret (v0_30_l7 p0 p1) (v0_7_l5 p0)) (1 : Int32) (((((v4_f_codesInGroup_ra0 (v0_30_l7 p0 p1) (v0_7_l5 p0) (9 : Int32) (0 : Int32) (0 : Int32)) + (p2 &&& (1073741823 : Int32))) % (8 : Int32)) + (p3 &&& (1073741823 : Int32))) % (8 : Int32)) T199.heap n0 Zz202 Fq199_0 Eq199_0 Fq199_1 Fq199_3 Fq199_2) hZ (hw _ (List.mem_of_getElem? (i := 61) rfl)) (hw _ (List.mem_of_getElem? (i := 4) rfl)) (by decide) (by decide)) q202a q202c (g := (mkF m 132 #[.val (.int p0), .val (.int p1), .val (.int p2), .val (.int p3), .val (.int p4), .val (.int (v0_7_l5 p0)), .val (.int (v0_17_l6 p0)), .val (.int (v0_30_l7 p0 p1)), .val (.int (p2 &&& (1073741823 : Int32))), .val (.int (p3 &&& (1073741823 : Int32))), .val (.int (v0_48_s0 p4)), .val (.ref b176), .val (.int (v0_76_l12 p0 p1)), .val (.int (v0_83_l13 p0 p1)), .val (.int (0 : Int32)), .val (.int (v0_121_l15 p0 p1)), .unset, .unset, .unset, .unset, .unset, .unset] [(.int (v0_30_l7 p0 p1)), (.ref b176)])) rfl (by rw [hml]; rfl) (Steps.refl _) (argsL := [(.int (v0_30_l7 p0 p1))]) (rest := []) (lenOf pd_1 rfl) rfl (by show 2 * 0 + _ ≤ _; exact Nat.le_of_eq rfl) (hb hby at_132) (fun _ _ => ⟨rfl, rfl, (by decide : 1 + 0 ≤ _), (by decide : 4 + 0 ≤ _)⟩)
    dsimp only [Pt.U, Pt.locs, Pt.cells, Pt.slots] at X202 l202 y202 z202 st202 hQ202
    subst l202 y202 z202
    obtain ⟨rfl, N202q, e202⟩ := hQ202
    have N202 := Fr.app N199 N202q
    have k203 := fun (t : State) (kk : Steps p.tables e below (T202.setTop (mkF m 135 #[.val (.int p0), .val (.int p1), .val (.int p2), .val (.int p3), .val (.int p4), .val (.int (v0_7_l5 p0)), .val (.int (v0_17_l6 p0)), .val (.int (v0_30_l7 p0 p1)), .val (.int (p2 &&& (1073741823 : Int32))), .val (.int (p3 &&& (1073741823 : Int32))), .val (.int (v0_48_s0 p4)), .val (.ref b176), .val (.int (v0_76_l12 p0 p1)), .val (.int (v0_83_l13 p0 p1)), .val (.int (0 : Int32)), .val (.int (v0_121_l15 p0 p1)), .unset, .unset, .unset, .unset, .unset, .unset] [(.int (v11_ret (v0_30_l7 p0 p1) (v0_7_l5 p0) (v5_ret (v0_30_l7 p0 p1) (v0_7_l5 p0)) (1 : Int32) (((((v4_f_codesInGroup_ra0 (v0_30_l7 p0 p1) (v0_7_l5 p0) (9 : Int32) (0 : Int32) (0 : Int32)) + (p2 &&& (1073741823 : Int32))) % (8 : Int32)) + (p3 &&& (1073741823 : Int32))) % (8 : Int32))))])) t) => k201 t (st202.trans kk)
    have k204 := fun (t : State) (kk : Steps p.tables e below (T202.setTop (mkF m 141 #[.val (.int p0), .val (.int p1), .val (.int p2), .val (.int p3), .val (.int p4), .val (.int (v0_7_l5 p0)), .val (.int (v0_17_l6 p0)), .val (.int (v0_30_l7 p0 p1)), .val (.int (p2 &&& (1073741823 : Int32))), .val (.int (p3 &&& (1073741823 : Int32))), .val (.int (v0_48_s0 p4)), .val (.ref b176), .val (.int (v0_76_l12 p0 p1)), .val (.int (v0_83_l13 p0 p1)), .val (.int (0 : Int32)), .val (.int (v0_121_l15 p0 p1)), .val (.int (v0_135_l16 p0 p1 p2 p3)), .unset, .unset, .unset, .unset, .unset] [(.int (v0_30_l7 p0 p1)), (.ref b176)])) t) => k203 t (by
      show Steps p.tables e below (T202.setTop (mkF m 135 #[.val (.int p0), .val (.int p1), .val (.int p2), .val (.int p3), .val (.int p4), .val (.int (v0_7_l5 p0)), .val (.int (v0_17_l6 p0)), .val (.int (v0_30_l7 p0 p1)), .val (.int (p2 &&& (1073741823 : Int32))), .val (.int (p3 &&& (1073741823 : Int32))), .val (.int (v0_48_s0 p4)), .val (.ref b176), .val (.int (v0_76_l12 p0 p1)), .val (.int (v0_83_l13 p0 p1)), .val (.int (0 : Int32)), .val (.int (v0_121_l15 p0 p1)), .unset, .unset, .unset, .unset, .unset, .unset] [(.int (v11_ret (v0_30_l7 p0 p1) (v0_7_l5 p0) (v5_ret (v0_30_l7 p0 p1) (v0_7_l5 p0)) (1 : Int32) (((((v4_f_codesInGroup_ra0 (v0_30_l7 p0 p1) (v0_7_l5 p0) (9 : Int32) (0 : Int32) (0 : Int32)) + (p2 &&& (1073741823 : Int32))) % (8 : Int32)) + (p3 &&& (1073741823 : Int32))) % (8 : Int32))))])) _
      refine XS.istore X202.here hx rfl (hb hby at_135) rfl (l' := #[.val (.int p0), .val (.int p1), .val (.int p2), .val (.int p3), .val (.int p4), .val (.int (v0_7_l5 p0)), .val (.int (v0_17_l6 p0)), .val (.int (v0_30_l7 p0 p1)), .val (.int (p2 &&& (1073741823 : Int32))), .val (.int (p3 &&& (1073741823 : Int32))), .val (.int (v0_48_s0 p4)), .val (.ref b176), .val (.int (v0_76_l12 p0 p1)), .val (.int (v0_83_l13 p0 p1)), .val (.int (0 : Int32)), .val (.int (v0_121_l15 p0 p1)), .val (.int (v0_135_l16 p0 p1 p2 p3)), .unset, .unset, .unset, .unset, .unset]) rfl ?_
      show Steps p.tables e below (T202.setTop (mkF m 137 #[.val (.int p0), .val (.int p1), .val (.int p2), .val (.int p3), .val (.int p4), .val (.int (v0_7_l5 p0)), .val (.int (v0_17_l6 p0)), .val (.int (v0_30_l7 p0 p1)), .val (.int (p2 &&& (1073741823 : Int32))), .val (.int (p3 &&& (1073741823 : Int32))), .val (.int (v0_48_s0 p4)), .val (.ref b176), .val (.int (v0_76_l12 p0 p1)), .val (.int (v0_83_l13 p0 p1)), .val (.int (0 : Int32)), .val (.int (v0_121_l15 p0 p1)), .val (.int (v0_135_l16 p0 p1 p2 p3)), .unset, .unset, .unset, .unset, .unset] [])) _
      refine XS.aload X202.here hx rfl (hb hby at_137) rfl rfl ?_
      show Steps p.tables e below (T202.setTop (mkF m 139 #[.val (.int p0), .val (.int p1), .val (.int p2), .val (.int p3), .val (.int p4), .val (.int (v0_7_l5 p0)), .val (.int (v0_17_l6 p0)), .val (.int (v0_30_l7 p0 p1)), .val (.int (p2 &&& (1073741823 : Int32))), .val (.int (p3 &&& (1073741823 : Int32))), .val (.int (v0_48_s0 p4)), .val (.ref b176), .val (.int (v0_76_l12 p0 p1)), .val (.int (v0_83_l13 p0 p1)), .val (.int (0 : Int32)), .val (.int (v0_121_l15 p0 p1)), .val (.int (v0_135_l16 p0 p1 p2 p3)), .unset, .unset, .unset, .unset, .unset] [(.ref b176)])) _
      refine XS.iload X202.here hx rfl (hb hby at_139) rfl ?_
      exact kk)
    have Zz205 : n0 ≤ T199.heap.size := (Nat.le_trans Z0 K199.1)
    obtain ⟨cq205, kq205, q205a, q205b, q205c⟩ := isOf hZ e202 Eq199_0
    obtain ⟨_, _, ⟨T205, L205, k205, n205⟩, -, X205, ⟨Lc205, hQ205, l205, y205, z205⟩, st205⟩ := X202.virtualBack hx (y := (⟨"phrasebook/ZFormat$Layout", "place", "(I)I"⟩ : MethodName)) (z := (⟨"phrasebook/ZFormat$Layout", "place", "(I)I"⟩ : MethodName)) hown (mvT hZ (hw _ (List.mem_of_getElem? (i := 24) rfl))) (mvT hZ (hw _ (List.mem_of_getElem? (i := 25) rfl))) (notFace_of_selects (args := #[]) (mvT hZ (hw _ (List.mem_of_getElem? (i := 27) rfl)))) (mvT hZ (hw _ (List.mem_of_getElem? (i := 27) rfl))) (mvT hZ (hw _ (List.mem_of_getElem? (i := 26) rfl))) (by decide) (backOf (W := 0) (rm4 l Z a0 hw [] b176 (v0_30_l7 p0 p1) (v0_7_l5 p0) (v5_ret (v0_30_l7 p0 p1) (v0_7_l5 p0)) (1 : Int32) (((((v4_f_codesInGroup_ra0 (v0_30_l7 p0 p1) (v0_7_l5 p0) (9 : Int32) (0 : Int32) (0 : Int32)) + (p2 &&& (1073741823 : Int32))) % (8 : Int32)) + (p3 &&& (1073741823 : Int32))) % (8 : Int32)) T199.heap n0 Zz205 Fq199_0 Eq199_0 Fq199_1 Fq199_3 g_b176 Fq199_2) hZ (hw _ (List.mem_of_getElem? (i := 28) rfl)) (hw _ (List.mem_of_getElem? (i := 4) rfl)) (by decide) (by decide)) q205a q205c (g := (mkF m 141 #[.val (.int p0), .val (.int p1), .val (.int p2), .val (.int p3), .val (.int p4), .val (.int (v0_7_l5 p0)), .val (.int (v0_17_l6 p0)), .val (.int (v0_30_l7 p0 p1)), .val (.int (p2 &&& (1073741823 : Int32))), .val (.int (p3 &&& (1073741823 : Int32))), .val (.int (v0_48_s0 p4)), .val (.ref b176), .val (.int (v0_76_l12 p0 p1)), .val (.int (v0_83_l13 p0 p1)), .val (.int (0 : Int32)), .val (.int (v0_121_l15 p0 p1)), .val (.int (v0_135_l16 p0 p1 p2 p3)), .unset, .unset, .unset, .unset, .unset] [(.int (v0_30_l7 p0 p1)), (.ref b176)])) rfl (by rw [hml]; rfl) (Steps.refl _) (argsL := [(.int (v0_30_l7 p0 p1))]) (rest := []) (lenOf pd_1 rfl) rfl (by show 2 * 0 + _ ≤ _; exact Nat.le_of_eq rfl) (hb hby at_141) (fun _ _ => ⟨rfl, e202, (by decide : 1 + 0 ≤ _), (by decide : 4 + 0 ≤ _)⟩)
    dsimp only [Pt.U, Pt.locs, Pt.cells, Pt.slots] at X205 l205 y205 z205 st205 hQ205
    subst l205 y205 z205
    obtain ⟨rfl, N205q, Kq205, Eq205_0, Fq205_0, Fq205_1, Fq205_2, Fq205_3⟩ := hQ205
    have K205 : Keep h0 T205.heap [] := K199.trans Kq205 (allS (Or.inr sz_b176) all0)
    have N205 := Fr.app N202 N205q
    have k206 := fun (t : State) (kk : Steps p.tables e below (T205.setTop (mkF m 144 #[.val (.int p0), .val (.int p1), .val (.int p2), .val (.int p3), .val (.int p4), .val (.int (v0_7_l5 p0)), .val (.int (v0_17_l6 p0)), .val (.int (v0_30_l7 p0 p1)), .val (.int (p2 &&& (1073741823 : Int32))), .val (.int (p3 &&& (1073741823 : Int32))), .val (.int (v0_48_s0 p4)), .val (.ref b176), .val (.int (v0_76_l12 p0 p1)), .val (.int (v0_83_l13 p0 p1)), .val (.int (0 : Int32)), .val (.int (v0_121_l15 p0 p1)), .val (.int (v0_135_l16 p0 p1 p2 p3)), .unset, .unset, .unset, .unset, .unset] [(.int (v4_ret (v0_30_l7 p0 p1) (v0_7_l5 p0) (v5_ret (v0_30_l7 p0 p1) (v0_7_l5 p0)) (1 : Int32) (((((v4_f_codesInGroup_ra0 (v0_30_l7 p0 p1) (v0_7_l5 p0) (9 : Int32) (0 : Int32) (0 : Int32)) + (p2 &&& (1073741823 : Int32))) % (8 : Int32)) + (p3 &&& (1073741823 : Int32))) % (8 : Int32))))])) t) => k204 t (st205.trans kk)
    have k217 := fun (t : State) (kk : Steps p.tables e below (T205.setTop (mkF m 236 #[.val (.int p0), .val (.int p1), .val (.int p2), .val (.int p3), .val (.int p4), .val (.int (v0_7_l5 p0)), .val (.int (v0_17_l6 p0)), .val (.int (v0_30_l7 p0 p1)), .val (.int (p2 &&& (1073741823 : Int32))), .val (.int (p3 &&& (1073741823 : Int32))), .val (.int (v0_48_s0 p4)), .val (.ref b176), .val (.int (v0_76_l12 p0 p1)), .val (.int (v0_83_l13 p0 p1)), .val (.int (0 : Int32)), .val (.int (v0_121_l15 p0 p1)), .val (.int (v0_135_l16 p0 p1 p2 p3)), .val (.int (v0_144_l17 p0 p1 p2 p3)), .val (.long (v0_167_l18 p2 p3)), .second, .val (.int (v0_176_l20 p2 p3)), .val (.int (v0_180_s0 p0 p1 p2 p3))] [(.int (v0_199_s0 p0 p1 p2 p3))])) t) => k206 t (by
      show Steps p.tables e below (T205.setTop (mkF m 144 #[.val (.int p0), .val (.int p1), .val (.int p2), .val (.int p3), .val (.int p4), .val (.int (v0_7_l5 p0)), .val (.int (v0_17_l6 p0)), .val (.int (v0_30_l7 p0 p1)), .val (.int (p2 &&& (1073741823 : Int32))), .val (.int (p3 &&& (1073741823 : Int32))), .val (.int (v0_48_s0 p4)), .val (.ref b176), .val (.int (v0_76_l12 p0 p1)), .val (.int (v0_83_l13 p0 p1)), .val (.int (0 : Int32)), .val (.int (v0_121_l15 p0 p1)), .val (.int (v0_135_l16 p0 p1 p2 p3)), .unset, .unset, .unset, .unset, .unset] [(.int (v4_ret (v0_30_l7 p0 p1) (v0_7_l5 p0) (v5_ret (v0_30_l7 p0 p1) (v0_7_l5 p0)) (1 : Int32) (((((v4_f_codesInGroup_ra0 (v0_30_l7 p0 p1) (v0_7_l5 p0) (9 : Int32) (0 : Int32) (0 : Int32)) + (p2 &&& (1073741823 : Int32))) % (8 : Int32)) + (p3 &&& (1073741823 : Int32))) % (8 : Int32))))])) _
      refine XS.istore X205.here hx rfl (hb hby at_144) rfl (l' := #[.val (.int p0), .val (.int p1), .val (.int p2), .val (.int p3), .val (.int p4), .val (.int (v0_7_l5 p0)), .val (.int (v0_17_l6 p0)), .val (.int (v0_30_l7 p0 p1)), .val (.int (p2 &&& (1073741823 : Int32))), .val (.int (p3 &&& (1073741823 : Int32))), .val (.int (v0_48_s0 p4)), .val (.ref b176), .val (.int (v0_76_l12 p0 p1)), .val (.int (v0_83_l13 p0 p1)), .val (.int (0 : Int32)), .val (.int (v0_121_l15 p0 p1)), .val (.int (v0_135_l16 p0 p1 p2 p3)), .val (.int (v0_144_l17 p0 p1 p2 p3)), .unset, .unset, .unset, .unset]) rfl ?_
      show Steps p.tables e below (T205.setTop (mkF m 146 #[.val (.int p0), .val (.int p1), .val (.int p2), .val (.int p3), .val (.int p4), .val (.int (v0_7_l5 p0)), .val (.int (v0_17_l6 p0)), .val (.int (v0_30_l7 p0 p1)), .val (.int (p2 &&& (1073741823 : Int32))), .val (.int (p3 &&& (1073741823 : Int32))), .val (.int (v0_48_s0 p4)), .val (.ref b176), .val (.int (v0_76_l12 p0 p1)), .val (.int (v0_83_l13 p0 p1)), .val (.int (0 : Int32)), .val (.int (v0_121_l15 p0 p1)), .val (.int (v0_135_l16 p0 p1 p2 p3)), .val (.int (v0_144_l17 p0 p1 p2 p3)), .unset, .unset, .unset, .unset] [])) _
      refine XS.lconst X205.here hx rfl (hb hby at_146) ?_
      show Steps p.tables e below (T205.setTop (mkF m 147 #[.val (.int p0), .val (.int p1), .val (.int p2), .val (.int p3), .val (.int p4), .val (.int (v0_7_l5 p0)), .val (.int (v0_17_l6 p0)), .val (.int (v0_30_l7 p0 p1)), .val (.int (p2 &&& (1073741823 : Int32))), .val (.int (p3 &&& (1073741823 : Int32))), .val (.int (v0_48_s0 p4)), .val (.ref b176), .val (.int (v0_76_l12 p0 p1)), .val (.int (v0_83_l13 p0 p1)), .val (.int (0 : Int32)), .val (.int (v0_121_l15 p0 p1)), .val (.int (v0_135_l16 p0 p1 p2 p3)), .val (.int (v0_144_l17 p0 p1 p2 p3)), .unset, .unset, .unset, .unset] [(.long (1 : Int64))])) _
      refine XS.iload X205.here hx rfl (hb hby at_147) rfl ?_
      show Steps p.tables e below (T205.setTop (mkF m 149 #[.val (.int p0), .val (.int p1), .val (.int p2), .val (.int p3), .val (.int p4), .val (.int (v0_7_l5 p0)), .val (.int (v0_17_l6 p0)), .val (.int (v0_30_l7 p0 p1)), .val (.int (p2 &&& (1073741823 : Int32))), .val (.int (p3 &&& (1073741823 : Int32))), .val (.int (v0_48_s0 p4)), .val (.ref b176), .val (.int (v0_76_l12 p0 p1)), .val (.int (v0_83_l13 p0 p1)), .val (.int (0 : Int32)), .val (.int (v0_121_l15 p0 p1)), .val (.int (v0_135_l16 p0 p1 p2 p3)), .val (.int (v0_144_l17 p0 p1 p2 p3)), .unset, .unset, .unset, .unset] [(.int (p2 &&& (1073741823 : Int32))), (.long (1 : Int64))])) _
      refine XS.i2l X205.here hx rfl (hb hby at_149) rfl ?_
      show Steps p.tables e below (T205.setTop (mkF m 150 #[.val (.int p0), .val (.int p1), .val (.int p2), .val (.int p3), .val (.int p4), .val (.int (v0_7_l5 p0)), .val (.int (v0_17_l6 p0)), .val (.int (v0_30_l7 p0 p1)), .val (.int (p2 &&& (1073741823 : Int32))), .val (.int (p3 &&& (1073741823 : Int32))), .val (.int (v0_48_s0 p4)), .val (.ref b176), .val (.int (v0_76_l12 p0 p1)), .val (.int (v0_83_l13 p0 p1)), .val (.int (0 : Int32)), .val (.int (v0_121_l15 p0 p1)), .val (.int (v0_135_l16 p0 p1 p2 p3)), .val (.int (v0_144_l17 p0 p1 p2 p3)), .unset, .unset, .unset, .unset] [(.long ((p2 &&& (1073741823 : Int32)).toInt64)), (.long (1 : Int64))])) _
      refine XS.ladd X205.here hx rfl (hb hby at_150) rfl ?_
      show Steps p.tables e below (T205.setTop (mkF m 151 #[.val (.int p0), .val (.int p1), .val (.int p2), .val (.int p3), .val (.int p4), .val (.int (v0_7_l5 p0)), .val (.int (v0_17_l6 p0)), .val (.int (v0_30_l7 p0 p1)), .val (.int (p2 &&& (1073741823 : Int32))), .val (.int (p3 &&& (1073741823 : Int32))), .val (.int (v0_48_s0 p4)), .val (.ref b176), .val (.int (v0_76_l12 p0 p1)), .val (.int (v0_83_l13 p0 p1)), .val (.int (0 : Int32)), .val (.int (v0_121_l15 p0 p1)), .val (.int (v0_135_l16 p0 p1 p2 p3)), .val (.int (v0_144_l17 p0 p1 p2 p3)), .unset, .unset, .unset, .unset] [(.long ((1 : Int64) + ((p2 &&& (1073741823 : Int32)).toInt64)))])) _
      refine XS.iload X205.here hx rfl (hb hby at_151) rfl ?_
      show Steps p.tables e below (T205.setTop (mkF m 153 #[.val (.int p0), .val (.int p1), .val (.int p2), .val (.int p3), .val (.int p4), .val (.int (v0_7_l5 p0)), .val (.int (v0_17_l6 p0)), .val (.int (v0_30_l7 p0 p1)), .val (.int (p2 &&& (1073741823 : Int32))), .val (.int (p3 &&& (1073741823 : Int32))), .val (.int (v0_48_s0 p4)), .val (.ref b176), .val (.int (v0_76_l12 p0 p1)), .val (.int (v0_83_l13 p0 p1)), .val (.int (0 : Int32)), .val (.int (v0_121_l15 p0 p1)), .val (.int (v0_135_l16 p0 p1 p2 p3)), .val (.int (v0_144_l17 p0 p1 p2 p3)), .unset, .unset, .unset, .unset] [(.int (v0_48_s0 p4)), (.long ((1 : Int64) + ((p2 &&& (1073741823 : Int32)).toInt64)))])) _
      refine XS.ifYes X205.here hx rfl (pc0 := 153) (pc' := 160) rfl (hb hby at_153) rfl ((if0 _ _).trans (teq hc97_191).1) (by decide) (by decide) ?_
      show Steps p.tables e below (T205.setTop (mkF m 160 #[.val (.int p0), .val (.int p1), .val (.int p2), .val (.int p3), .val (.int p4), .val (.int (v0_7_l5 p0)), .val (.int (v0_17_l6 p0)), .val (.int (v0_30_l7 p0 p1)), .val (.int (p2 &&& (1073741823 : Int32))), .val (.int (p3 &&& (1073741823 : Int32))), .val (.int (v0_48_s0 p4)), .val (.ref b176), .val (.int (v0_76_l12 p0 p1)), .val (.int (v0_83_l13 p0 p1)), .val (.int (0 : Int32)), .val (.int (v0_121_l15 p0 p1)), .val (.int (v0_135_l16 p0 p1 p2 p3)), .val (.int (v0_144_l17 p0 p1 p2 p3)), .unset, .unset, .unset, .unset] [(.long ((1 : Int64) + ((p2 &&& (1073741823 : Int32)).toInt64)))])) _
      refine XS.iconst X205.here hx rfl (hb hby at_160) ?_
      show Steps p.tables e below (T205.setTop (mkF m 161 #[.val (.int p0), .val (.int p1), .val (.int p2), .val (.int p3), .val (.int p4), .val (.int (v0_7_l5 p0)), .val (.int (v0_17_l6 p0)), .val (.int (v0_30_l7 p0 p1)), .val (.int (p2 &&& (1073741823 : Int32))), .val (.int (p3 &&& (1073741823 : Int32))), .val (.int (v0_48_s0 p4)), .val (.ref b176), .val (.int (v0_76_l12 p0 p1)), .val (.int (v0_83_l13 p0 p1)), .val (.int (0 : Int32)), .val (.int (v0_121_l15 p0 p1)), .val (.int (v0_135_l16 p0 p1 p2 p3)), .val (.int (v0_144_l17 p0 p1 p2 p3)), .unset, .unset, .unset, .unset] [(.int (0 : Int32)), (.long ((1 : Int64) + ((p2 &&& (1073741823 : Int32)).toInt64)))])) _
      refine XS.i2l X205.here hx rfl (hb hby at_161) rfl ?_
      show Steps p.tables e below (T205.setTop (mkF m 162 #[.val (.int p0), .val (.int p1), .val (.int p2), .val (.int p3), .val (.int p4), .val (.int (v0_7_l5 p0)), .val (.int (v0_17_l6 p0)), .val (.int (v0_30_l7 p0 p1)), .val (.int (p2 &&& (1073741823 : Int32))), .val (.int (p3 &&& (1073741823 : Int32))), .val (.int (v0_48_s0 p4)), .val (.ref b176), .val (.int (v0_76_l12 p0 p1)), .val (.int (v0_83_l13 p0 p1)), .val (.int (0 : Int32)), .val (.int (v0_121_l15 p0 p1)), .val (.int (v0_135_l16 p0 p1 p2 p3)), .val (.int (v0_144_l17 p0 p1 p2 p3)), .unset, .unset, .unset, .unset] [(.long ((0 : Int32).toInt64)), (.long ((1 : Int64) + ((p2 &&& (1073741823 : Int32)).toInt64)))])) _
      refine XS.ladd X205.here hx rfl (hb hby at_162) rfl ?_
      show Steps p.tables e below (T205.setTop (mkF m 163 #[.val (.int p0), .val (.int p1), .val (.int p2), .val (.int p3), .val (.int p4), .val (.int (v0_7_l5 p0)), .val (.int (v0_17_l6 p0)), .val (.int (v0_30_l7 p0 p1)), .val (.int (p2 &&& (1073741823 : Int32))), .val (.int (p3 &&& (1073741823 : Int32))), .val (.int (v0_48_s0 p4)), .val (.ref b176), .val (.int (v0_76_l12 p0 p1)), .val (.int (v0_83_l13 p0 p1)), .val (.int (0 : Int32)), .val (.int (v0_121_l15 p0 p1)), .val (.int (v0_135_l16 p0 p1 p2 p3)), .val (.int (v0_144_l17 p0 p1 p2 p3)), .unset, .unset, .unset, .unset] [(.long (((1 : Int64) + ((p2 &&& (1073741823 : Int32)).toInt64)) + ((0 : Int32).toInt64)))])) _
      refine XS.iload X205.here hx rfl (hb hby at_163) rfl ?_
      show Steps p.tables e below (T205.setTop (mkF m 165 #[.val (.int p0), .val (.int p1), .val (.int p2), .val (.int p3), .val (.int p4), .val (.int (v0_7_l5 p0)), .val (.int (v0_17_l6 p0)), .val (.int (v0_30_l7 p0 p1)), .val (.int (p2 &&& (1073741823 : Int32))), .val (.int (p3 &&& (1073741823 : Int32))), .val (.int (v0_48_s0 p4)), .val (.ref b176), .val (.int (v0_76_l12 p0 p1)), .val (.int (v0_83_l13 p0 p1)), .val (.int (0 : Int32)), .val (.int (v0_121_l15 p0 p1)), .val (.int (v0_135_l16 p0 p1 p2 p3)), .val (.int (v0_144_l17 p0 p1 p2 p3)), .unset, .unset, .unset, .unset] [(.int (p3 &&& (1073741823 : Int32))), (.long (((1 : Int64) + ((p2 &&& (1073741823 : Int32)).toInt64)) + ((0 : Int32).toInt64)))])) _
      refine XS.i2l X205.here hx rfl (hb hby at_165) rfl ?_
      show Steps p.tables e below (T205.setTop (mkF m 166 #[.val (.int p0), .val (.int p1), .val (.int p2), .val (.int p3), .val (.int p4), .val (.int (v0_7_l5 p0)), .val (.int (v0_17_l6 p0)), .val (.int (v0_30_l7 p0 p1)), .val (.int (p2 &&& (1073741823 : Int32))), .val (.int (p3 &&& (1073741823 : Int32))), .val (.int (v0_48_s0 p4)), .val (.ref b176), .val (.int (v0_76_l12 p0 p1)), .val (.int (v0_83_l13 p0 p1)), .val (.int (0 : Int32)), .val (.int (v0_121_l15 p0 p1)), .val (.int (v0_135_l16 p0 p1 p2 p3)), .val (.int (v0_144_l17 p0 p1 p2 p3)), .unset, .unset, .unset, .unset] [(.long ((p3 &&& (1073741823 : Int32)).toInt64)), (.long (((1 : Int64) + ((p2 &&& (1073741823 : Int32)).toInt64)) + ((0 : Int32).toInt64)))])) _
      refine XS.ladd X205.here hx rfl (hb hby at_166) rfl ?_
      show Steps p.tables e below (T205.setTop (mkF m 167 #[.val (.int p0), .val (.int p1), .val (.int p2), .val (.int p3), .val (.int p4), .val (.int (v0_7_l5 p0)), .val (.int (v0_17_l6 p0)), .val (.int (v0_30_l7 p0 p1)), .val (.int (p2 &&& (1073741823 : Int32))), .val (.int (p3 &&& (1073741823 : Int32))), .val (.int (v0_48_s0 p4)), .val (.ref b176), .val (.int (v0_76_l12 p0 p1)), .val (.int (v0_83_l13 p0 p1)), .val (.int (0 : Int32)), .val (.int (v0_121_l15 p0 p1)), .val (.int (v0_135_l16 p0 p1 p2 p3)), .val (.int (v0_144_l17 p0 p1 p2 p3)), .unset, .unset, .unset, .unset] [(.long ((((1 : Int64) + ((p2 &&& (1073741823 : Int32)).toInt64)) + ((0 : Int32).toInt64)) + ((p3 &&& (1073741823 : Int32)).toInt64)))])) _
      refine XS.lstore X205.here hx rfl (hb hby at_167) rfl (l' := #[.val (.int p0), .val (.int p1), .val (.int p2), .val (.int p3), .val (.int p4), .val (.int (v0_7_l5 p0)), .val (.int (v0_17_l6 p0)), .val (.int (v0_30_l7 p0 p1)), .val (.int (p2 &&& (1073741823 : Int32))), .val (.int (p3 &&& (1073741823 : Int32))), .val (.int (v0_48_s0 p4)), .val (.ref b176), .val (.int (v0_76_l12 p0 p1)), .val (.int (v0_83_l13 p0 p1)), .val (.int (0 : Int32)), .val (.int (v0_121_l15 p0 p1)), .val (.int (v0_135_l16 p0 p1 p2 p3)), .val (.int (v0_144_l17 p0 p1 p2 p3)), .val (.long (v0_167_l18 p2 p3)), .second, .unset, .unset]) rfl ?_
      show Steps p.tables e below (T205.setTop (mkF m 169 #[.val (.int p0), .val (.int p1), .val (.int p2), .val (.int p3), .val (.int p4), .val (.int (v0_7_l5 p0)), .val (.int (v0_17_l6 p0)), .val (.int (v0_30_l7 p0 p1)), .val (.int (p2 &&& (1073741823 : Int32))), .val (.int (p3 &&& (1073741823 : Int32))), .val (.int (v0_48_s0 p4)), .val (.ref b176), .val (.int (v0_76_l12 p0 p1)), .val (.int (v0_83_l13 p0 p1)), .val (.int (0 : Int32)), .val (.int (v0_121_l15 p0 p1)), .val (.int (v0_135_l16 p0 p1 p2 p3)), .val (.int (v0_144_l17 p0 p1 p2 p3)), .val (.long (v0_167_l18 p2 p3)), .second, .unset, .unset] [])) _
      refine XS.lload X205.here hx rfl (hb hby at_169) rfl ?_
      show Steps p.tables e below (T205.setTop (mkF m 171 #[.val (.int p0), .val (.int p1), .val (.int p2), .val (.int p3), .val (.int p4), .val (.int (v0_7_l5 p0)), .val (.int (v0_17_l6 p0)), .val (.int (v0_30_l7 p0 p1)), .val (.int (p2 &&& (1073741823 : Int32))), .val (.int (p3 &&& (1073741823 : Int32))), .val (.int (v0_48_s0 p4)), .val (.ref b176), .val (.int (v0_76_l12 p0 p1)), .val (.int (v0_83_l13 p0 p1)), .val (.int (0 : Int32)), .val (.int (v0_121_l15 p0 p1)), .val (.int (v0_135_l16 p0 p1 p2 p3)), .val (.int (v0_144_l17 p0 p1 p2 p3)), .val (.long (v0_167_l18 p2 p3)), .second, .unset, .unset] [(.long (v0_167_l18 p2 p3))])) _
      refine X205.ldc2Long hx hown (mvT hZ (hw _ (List.mem_of_getElem? (i := 66) rfl))) (g := (mkF m 171 #[.val (.int p0), .val (.int p1), .val (.int p2), .val (.int p3), .val (.int p4), .val (.int (v0_7_l5 p0)), .val (.int (v0_17_l6 p0)), .val (.int (v0_30_l7 p0 p1)), .val (.int (p2 &&& (1073741823 : Int32))), .val (.int (p3 &&& (1073741823 : Int32))), .val (.int (v0_48_s0 p4)), .val (.ref b176), .val (.int (v0_76_l12 p0 p1)), .val (.int (v0_83_l13 p0 p1)), .val (.int (0 : Int32)), .val (.int (v0_121_l15 p0 p1)), .val (.int (v0_135_l16 p0 p1 p2 p3)), .val (.int (v0_144_l17 p0 p1 p2 p3)), .val (.long (v0_167_l18 p2 p3)), .second, .unset, .unset] [(.long (v0_167_l18 p2 p3))])) rfl (hb hby at_171) _ ?_
      show Steps p.tables e below (T205.setTop (mkF m 174 #[.val (.int p0), .val (.int p1), .val (.int p2), .val (.int p3), .val (.int p4), .val (.int (v0_7_l5 p0)), .val (.int (v0_17_l6 p0)), .val (.int (v0_30_l7 p0 p1)), .val (.int (p2 &&& (1073741823 : Int32))), .val (.int (p3 &&& (1073741823 : Int32))), .val (.int (v0_48_s0 p4)), .val (.ref b176), .val (.int (v0_76_l12 p0 p1)), .val (.int (v0_83_l13 p0 p1)), .val (.int (0 : Int32)), .val (.int (v0_121_l15 p0 p1)), .val (.int (v0_135_l16 p0 p1 p2 p3)), .val (.int (v0_144_l17 p0 p1 p2 p3)), .val (.long (v0_167_l18 p2 p3)), .second, .unset, .unset] [(.long (8 : Int64)), (.long (v0_167_l18 p2 p3))])) _
      refine own_lremM X205 hx rfl (hb hby at_174) rfl (by decide) ?_
      show Steps p.tables e below (T205.setTop (mkF m 175 #[.val (.int p0), .val (.int p1), .val (.int p2), .val (.int p3), .val (.int p4), .val (.int (v0_7_l5 p0)), .val (.int (v0_17_l6 p0)), .val (.int (v0_30_l7 p0 p1)), .val (.int (p2 &&& (1073741823 : Int32))), .val (.int (p3 &&& (1073741823 : Int32))), .val (.int (v0_48_s0 p4)), .val (.ref b176), .val (.int (v0_76_l12 p0 p1)), .val (.int (v0_83_l13 p0 p1)), .val (.int (0 : Int32)), .val (.int (v0_121_l15 p0 p1)), .val (.int (v0_135_l16 p0 p1 p2 p3)), .val (.int (v0_144_l17 p0 p1 p2 p3)), .val (.long (v0_167_l18 p2 p3)), .second, .unset, .unset] [(.long ((v0_167_l18 p2 p3) % (8 : Int64)))])) _
      refine XS.l2i X205.here hx rfl (hb hby at_175) rfl ?_
      show Steps p.tables e below (T205.setTop (mkF m 176 #[.val (.int p0), .val (.int p1), .val (.int p2), .val (.int p3), .val (.int p4), .val (.int (v0_7_l5 p0)), .val (.int (v0_17_l6 p0)), .val (.int (v0_30_l7 p0 p1)), .val (.int (p2 &&& (1073741823 : Int32))), .val (.int (p3 &&& (1073741823 : Int32))), .val (.int (v0_48_s0 p4)), .val (.ref b176), .val (.int (v0_76_l12 p0 p1)), .val (.int (v0_83_l13 p0 p1)), .val (.int (0 : Int32)), .val (.int (v0_121_l15 p0 p1)), .val (.int (v0_135_l16 p0 p1 p2 p3)), .val (.int (v0_144_l17 p0 p1 p2 p3)), .val (.long (v0_167_l18 p2 p3)), .second, .unset, .unset] [(.int (((v0_167_l18 p2 p3) % (8 : Int64)).toInt32))])) _
      refine XS.istore X205.here hx rfl (hb hby at_176) rfl (l' := #[.val (.int p0), .val (.int p1), .val (.int p2), .val (.int p3), .val (.int p4), .val (.int (v0_7_l5 p0)), .val (.int (v0_17_l6 p0)), .val (.int (v0_30_l7 p0 p1)), .val (.int (p2 &&& (1073741823 : Int32))), .val (.int (p3 &&& (1073741823 : Int32))), .val (.int (v0_48_s0 p4)), .val (.ref b176), .val (.int (v0_76_l12 p0 p1)), .val (.int (v0_83_l13 p0 p1)), .val (.int (0 : Int32)), .val (.int (v0_121_l15 p0 p1)), .val (.int (v0_135_l16 p0 p1 p2 p3)), .val (.int (v0_144_l17 p0 p1 p2 p3)), .val (.long (v0_167_l18 p2 p3)), .second, .val (.int (v0_176_l20 p2 p3)), .unset]) rfl ?_
      show Steps p.tables e below (T205.setTop (mkF m 178 #[.val (.int p0), .val (.int p1), .val (.int p2), .val (.int p3), .val (.int p4), .val (.int (v0_7_l5 p0)), .val (.int (v0_17_l6 p0)), .val (.int (v0_30_l7 p0 p1)), .val (.int (p2 &&& (1073741823 : Int32))), .val (.int (p3 &&& (1073741823 : Int32))), .val (.int (v0_48_s0 p4)), .val (.ref b176), .val (.int (v0_76_l12 p0 p1)), .val (.int (v0_83_l13 p0 p1)), .val (.int (0 : Int32)), .val (.int (v0_121_l15 p0 p1)), .val (.int (v0_135_l16 p0 p1 p2 p3)), .val (.int (v0_144_l17 p0 p1 p2 p3)), .val (.long (v0_167_l18 p2 p3)), .second, .val (.int (v0_176_l20 p2 p3)), .unset] [])) _
      refine XS.iload X205.here hx rfl (hb hby at_178) rfl ?_
      suffices k208 : Steps p.tables e below (T205.setTop (mkF m 195 #[.val (.int p0), .val (.int p1), .val (.int p2), .val (.int p3), .val (.int p4), .val (.int (v0_7_l5 p0)), .val (.int (v0_17_l6 p0)), .val (.int (v0_30_l7 p0 p1)), .val (.int (p2 &&& (1073741823 : Int32))), .val (.int (p3 &&& (1073741823 : Int32))), .val (.int (v0_48_s0 p4)), .val (.ref b176), .val (.int (v0_76_l12 p0 p1)), .val (.int (v0_83_l13 p0 p1)), .val (.int (0 : Int32)), .val (.int (v0_121_l15 p0 p1)), .val (.int (v0_135_l16 p0 p1 p2 p3)), .val (.int (v0_144_l17 p0 p1 p2 p3)), .val (.long (v0_167_l18 p2 p3)), .second, .val (.int (v0_176_l20 p2 p3)), .unset] [(.int (v0_180_s0 p0 p1 p2 p3))])) t by
        by_cases hc180_207 : (v0_176_l20 p2 p3) = (0 : Int32)
        · rw [(show (v0_180_s0 p0 p1 p2 p3) = (0 : Int32) from if_pos hc180_207)] at k208
          show Steps p.tables e below (T205.setTop (mkF m 180 #[.val (.int p0), .val (.int p1), .val (.int p2), .val (.int p3), .val (.int p4), .val (.int (v0_7_l5 p0)), .val (.int (v0_17_l6 p0)), .val (.int (v0_30_l7 p0 p1)), .val (.int (p2 &&& (1073741823 : Int32))), .val (.int (p3 &&& (1073741823 : Int32))), .val (.int (v0_48_s0 p4)), .val (.ref b176), .val (.int (v0_76_l12 p0 p1)), .val (.int (v0_83_l13 p0 p1)), .val (.int (0 : Int32)), .val (.int (v0_121_l15 p0 p1)), .val (.int (v0_135_l16 p0 p1 p2 p3)), .val (.int (v0_144_l17 p0 p1 p2 p3)), .val (.long (v0_167_l18 p2 p3)), .second, .val (.int (v0_176_l20 p2 p3)), .unset] [(.int (v0_176_l20 p2 p3))])) _
          refine XS.ifNo X205.here hx rfl (hb hby at_180) rfl ((if0 _ _).trans (teq hc180_207).2) ?_
          show Steps p.tables e below (T205.setTop (mkF m 183 #[.val (.int p0), .val (.int p1), .val (.int p2), .val (.int p3), .val (.int p4), .val (.int (v0_7_l5 p0)), .val (.int (v0_17_l6 p0)), .val (.int (v0_30_l7 p0 p1)), .val (.int (p2 &&& (1073741823 : Int32))), .val (.int (p3 &&& (1073741823 : Int32))), .val (.int (v0_48_s0 p4)), .val (.ref b176), .val (.int (v0_76_l12 p0 p1)), .val (.int (v0_83_l13 p0 p1)), .val (.int (0 : Int32)), .val (.int (v0_121_l15 p0 p1)), .val (.int (v0_135_l16 p0 p1 p2 p3)), .val (.int (v0_144_l17 p0 p1 p2 p3)), .val (.long (v0_167_l18 p2 p3)), .second, .val (.int (v0_176_l20 p2 p3)), .unset] [])) _
          refine XS.iconst X205.here hx rfl (hb hby at_183) ?_
          show Steps p.tables e below (T205.setTop (mkF m 184 #[.val (.int p0), .val (.int p1), .val (.int p2), .val (.int p3), .val (.int p4), .val (.int (v0_7_l5 p0)), .val (.int (v0_17_l6 p0)), .val (.int (v0_30_l7 p0 p1)), .val (.int (p2 &&& (1073741823 : Int32))), .val (.int (p3 &&& (1073741823 : Int32))), .val (.int (v0_48_s0 p4)), .val (.ref b176), .val (.int (v0_76_l12 p0 p1)), .val (.int (v0_83_l13 p0 p1)), .val (.int (0 : Int32)), .val (.int (v0_121_l15 p0 p1)), .val (.int (v0_135_l16 p0 p1 p2 p3)), .val (.int (v0_144_l17 p0 p1 p2 p3)), .val (.long (v0_167_l18 p2 p3)), .second, .val (.int (v0_176_l20 p2 p3)), .unset] [(.int (0 : Int32))])) _
          refine XS.goto X205.here hx rfl (pc0 := 184) (pc' := 195) rfl (hb hby at_184) (by decide) (by decide) ?_
          exact k208
        · rw [(show (v0_180_s0 p0 p1 p2 p3) = (((8 : Int32) - (v0_176_l20 p2 p3)) * (v0_83_l13 p0 p1)) from if_neg hc180_207)] at k208
          show Steps p.tables e below (T205.setTop (mkF m 180 #[.val (.int p0), .val (.int p1), .val (.int p2), .val (.int p3), .val (.int p4), .val (.int (v0_7_l5 p0)), .val (.int (v0_17_l6 p0)), .val (.int (v0_30_l7 p0 p1)), .val (.int (p2 &&& (1073741823 : Int32))), .val (.int (p3 &&& (1073741823 : Int32))), .val (.int (v0_48_s0 p4)), .val (.ref b176), .val (.int (v0_76_l12 p0 p1)), .val (.int (v0_83_l13 p0 p1)), .val (.int (0 : Int32)), .val (.int (v0_121_l15 p0 p1)), .val (.int (v0_135_l16 p0 p1 p2 p3)), .val (.int (v0_144_l17 p0 p1 p2 p3)), .val (.long (v0_167_l18 p2 p3)), .second, .val (.int (v0_176_l20 p2 p3)), .unset] [(.int (v0_176_l20 p2 p3))])) _
          refine XS.ifYes X205.here hx rfl (pc0 := 180) (pc' := 187) rfl (hb hby at_180) rfl ((if0 _ _).trans (feq hc180_207).2) (by decide) (by decide) ?_
          show Steps p.tables e below (T205.setTop (mkF m 187 #[.val (.int p0), .val (.int p1), .val (.int p2), .val (.int p3), .val (.int p4), .val (.int (v0_7_l5 p0)), .val (.int (v0_17_l6 p0)), .val (.int (v0_30_l7 p0 p1)), .val (.int (p2 &&& (1073741823 : Int32))), .val (.int (p3 &&& (1073741823 : Int32))), .val (.int (v0_48_s0 p4)), .val (.ref b176), .val (.int (v0_76_l12 p0 p1)), .val (.int (v0_83_l13 p0 p1)), .val (.int (0 : Int32)), .val (.int (v0_121_l15 p0 p1)), .val (.int (v0_135_l16 p0 p1 p2 p3)), .val (.int (v0_144_l17 p0 p1 p2 p3)), .val (.long (v0_167_l18 p2 p3)), .second, .val (.int (v0_176_l20 p2 p3)), .unset] [])) _
          refine XS.bipush X205.here hx rfl (hb hby at_187) ?_
          show Steps p.tables e below (T205.setTop (mkF m 189 #[.val (.int p0), .val (.int p1), .val (.int p2), .val (.int p3), .val (.int p4), .val (.int (v0_7_l5 p0)), .val (.int (v0_17_l6 p0)), .val (.int (v0_30_l7 p0 p1)), .val (.int (p2 &&& (1073741823 : Int32))), .val (.int (p3 &&& (1073741823 : Int32))), .val (.int (v0_48_s0 p4)), .val (.ref b176), .val (.int (v0_76_l12 p0 p1)), .val (.int (v0_83_l13 p0 p1)), .val (.int (0 : Int32)), .val (.int (v0_121_l15 p0 p1)), .val (.int (v0_135_l16 p0 p1 p2 p3)), .val (.int (v0_144_l17 p0 p1 p2 p3)), .val (.long (v0_167_l18 p2 p3)), .second, .val (.int (v0_176_l20 p2 p3)), .unset] [(.int (8 : Int32))])) _
          refine XS.iload X205.here hx rfl (hb hby at_189) rfl ?_
          show Steps p.tables e below (T205.setTop (mkF m 191 #[.val (.int p0), .val (.int p1), .val (.int p2), .val (.int p3), .val (.int p4), .val (.int (v0_7_l5 p0)), .val (.int (v0_17_l6 p0)), .val (.int (v0_30_l7 p0 p1)), .val (.int (p2 &&& (1073741823 : Int32))), .val (.int (p3 &&& (1073741823 : Int32))), .val (.int (v0_48_s0 p4)), .val (.ref b176), .val (.int (v0_76_l12 p0 p1)), .val (.int (v0_83_l13 p0 p1)), .val (.int (0 : Int32)), .val (.int (v0_121_l15 p0 p1)), .val (.int (v0_135_l16 p0 p1 p2 p3)), .val (.int (v0_144_l17 p0 p1 p2 p3)), .val (.long (v0_167_l18 p2 p3)), .second, .val (.int (v0_176_l20 p2 p3)), .unset] [(.int (v0_176_l20 p2 p3)), (.int (8 : Int32))])) _
          refine XS.isub X205.here hx rfl (hb hby at_191) rfl ?_
          show Steps p.tables e below (T205.setTop (mkF m 192 #[.val (.int p0), .val (.int p1), .val (.int p2), .val (.int p3), .val (.int p4), .val (.int (v0_7_l5 p0)), .val (.int (v0_17_l6 p0)), .val (.int (v0_30_l7 p0 p1)), .val (.int (p2 &&& (1073741823 : Int32))), .val (.int (p3 &&& (1073741823 : Int32))), .val (.int (v0_48_s0 p4)), .val (.ref b176), .val (.int (v0_76_l12 p0 p1)), .val (.int (v0_83_l13 p0 p1)), .val (.int (0 : Int32)), .val (.int (v0_121_l15 p0 p1)), .val (.int (v0_135_l16 p0 p1 p2 p3)), .val (.int (v0_144_l17 p0 p1 p2 p3)), .val (.long (v0_167_l18 p2 p3)), .second, .val (.int (v0_176_l20 p2 p3)), .unset] [(.int ((8 : Int32) - (v0_176_l20 p2 p3)))])) _
          refine XS.iload X205.here hx rfl (hb hby at_192) rfl ?_
          show Steps p.tables e below (T205.setTop (mkF m 194 #[.val (.int p0), .val (.int p1), .val (.int p2), .val (.int p3), .val (.int p4), .val (.int (v0_7_l5 p0)), .val (.int (v0_17_l6 p0)), .val (.int (v0_30_l7 p0 p1)), .val (.int (p2 &&& (1073741823 : Int32))), .val (.int (p3 &&& (1073741823 : Int32))), .val (.int (v0_48_s0 p4)), .val (.ref b176), .val (.int (v0_76_l12 p0 p1)), .val (.int (v0_83_l13 p0 p1)), .val (.int (0 : Int32)), .val (.int (v0_121_l15 p0 p1)), .val (.int (v0_135_l16 p0 p1 p2 p3)), .val (.int (v0_144_l17 p0 p1 p2 p3)), .val (.long (v0_167_l18 p2 p3)), .second, .val (.int (v0_176_l20 p2 p3)), .unset] [(.int (v0_83_l13 p0 p1)), (.int ((8 : Int32) - (v0_176_l20 p2 p3)))])) _
          refine XS.imul X205.here hx rfl (hb hby at_194) rfl ?_
          exact k208
      show Steps p.tables e below (T205.setTop (mkF m 195 #[.val (.int p0), .val (.int p1), .val (.int p2), .val (.int p3), .val (.int p4), .val (.int (v0_7_l5 p0)), .val (.int (v0_17_l6 p0)), .val (.int (v0_30_l7 p0 p1)), .val (.int (p2 &&& (1073741823 : Int32))), .val (.int (p3 &&& (1073741823 : Int32))), .val (.int (v0_48_s0 p4)), .val (.ref b176), .val (.int (v0_76_l12 p0 p1)), .val (.int (v0_83_l13 p0 p1)), .val (.int (0 : Int32)), .val (.int (v0_121_l15 p0 p1)), .val (.int (v0_135_l16 p0 p1 p2 p3)), .val (.int (v0_144_l17 p0 p1 p2 p3)), .val (.long (v0_167_l18 p2 p3)), .second, .val (.int (v0_176_l20 p2 p3)), .unset] [(.int (v0_180_s0 p0 p1 p2 p3))])) _
      refine XS.istore X205.here hx rfl (hb hby at_195) rfl (l' := #[.val (.int p0), .val (.int p1), .val (.int p2), .val (.int p3), .val (.int p4), .val (.int (v0_7_l5 p0)), .val (.int (v0_17_l6 p0)), .val (.int (v0_30_l7 p0 p1)), .val (.int (p2 &&& (1073741823 : Int32))), .val (.int (p3 &&& (1073741823 : Int32))), .val (.int (v0_48_s0 p4)), .val (.ref b176), .val (.int (v0_76_l12 p0 p1)), .val (.int (v0_83_l13 p0 p1)), .val (.int (0 : Int32)), .val (.int (v0_121_l15 p0 p1)), .val (.int (v0_135_l16 p0 p1 p2 p3)), .val (.int (v0_144_l17 p0 p1 p2 p3)), .val (.long (v0_167_l18 p2 p3)), .second, .val (.int (v0_176_l20 p2 p3)), .val (.int (v0_180_s0 p0 p1 p2 p3))]) rfl ?_
      show Steps p.tables e below (T205.setTop (mkF m 197 #[.val (.int p0), .val (.int p1), .val (.int p2), .val (.int p3), .val (.int p4), .val (.int (v0_7_l5 p0)), .val (.int (v0_17_l6 p0)), .val (.int (v0_30_l7 p0 p1)), .val (.int (p2 &&& (1073741823 : Int32))), .val (.int (p3 &&& (1073741823 : Int32))), .val (.int (v0_48_s0 p4)), .val (.ref b176), .val (.int (v0_76_l12 p0 p1)), .val (.int (v0_83_l13 p0 p1)), .val (.int (0 : Int32)), .val (.int (v0_121_l15 p0 p1)), .val (.int (v0_135_l16 p0 p1 p2 p3)), .val (.int (v0_144_l17 p0 p1 p2 p3)), .val (.long (v0_167_l18 p2 p3)), .second, .val (.int (v0_176_l20 p2 p3)), .val (.int (v0_180_s0 p0 p1 p2 p3))] [])) _
      refine XS.iload X205.here hx rfl (hb hby at_197) rfl ?_
      suffices k216 : Steps p.tables e below (T205.setTop (mkF m 236 #[.val (.int p0), .val (.int p1), .val (.int p2), .val (.int p3), .val (.int p4), .val (.int (v0_7_l5 p0)), .val (.int (v0_17_l6 p0)), .val (.int (v0_30_l7 p0 p1)), .val (.int (p2 &&& (1073741823 : Int32))), .val (.int (p3 &&& (1073741823 : Int32))), .val (.int (v0_48_s0 p4)), .val (.ref b176), .val (.int (v0_76_l12 p0 p1)), .val (.int (v0_83_l13 p0 p1)), .val (.int (0 : Int32)), .val (.int (v0_121_l15 p0 p1)), .val (.int (v0_135_l16 p0 p1 p2 p3)), .val (.int (v0_144_l17 p0 p1 p2 p3)), .val (.long (v0_167_l18 p2 p3)), .second, .val (.int (v0_176_l20 p2 p3)), .val (.int (v0_180_s0 p0 p1 p2 p3))] [(.int (v0_199_s0 p0 p1 p2 p3))])) t by
        by_cases hc199_209 : (v0_76_l12 p0 p1) = (0 : Int32)
        · rw [(show (v0_199_s0 p0 p1 p2 p3) = (v0_211_s0 p0 p1 p2 p3) from if_pos hc199_209)] at k216
          show Steps p.tables e below (T205.setTop (mkF m 199 #[.val (.int p0), .val (.int p1), .val (.int p2), .val (.int p3), .val (.int p4), .val (.int (v0_7_l5 p0)), .val (.int (v0_17_l6 p0)), .val (.int (v0_30_l7 p0 p1)), .val (.int (p2 &&& (1073741823 : Int32))), .val (.int (p3 &&& (1073741823 : Int32))), .val (.int (v0_48_s0 p4)), .val (.ref b176), .val (.int (v0_76_l12 p0 p1)), .val (.int (v0_83_l13 p0 p1)), .val (.int (0 : Int32)), .val (.int (v0_121_l15 p0 p1)), .val (.int (v0_135_l16 p0 p1 p2 p3)), .val (.int (v0_144_l17 p0 p1 p2 p3)), .val (.long (v0_167_l18 p2 p3)), .second, .val (.int (v0_176_l20 p2 p3)), .val (.int (v0_180_s0 p0 p1 p2 p3))] [(.int (v0_76_l12 p0 p1))])) _
          refine XS.ifNo X205.here hx rfl (hb hby at_199) rfl ((if0 _ _).trans (teq hc199_209).2) ?_
          show Steps p.tables e below (T205.setTop (mkF m 202 #[.val (.int p0), .val (.int p1), .val (.int p2), .val (.int p3), .val (.int p4), .val (.int (v0_7_l5 p0)), .val (.int (v0_17_l6 p0)), .val (.int (v0_30_l7 p0 p1)), .val (.int (p2 &&& (1073741823 : Int32))), .val (.int (p3 &&& (1073741823 : Int32))), .val (.int (v0_48_s0 p4)), .val (.ref b176), .val (.int (v0_76_l12 p0 p1)), .val (.int (v0_83_l13 p0 p1)), .val (.int (0 : Int32)), .val (.int (v0_121_l15 p0 p1)), .val (.int (v0_135_l16 p0 p1 p2 p3)), .val (.int (v0_144_l17 p0 p1 p2 p3)), .val (.long (v0_167_l18 p2 p3)), .second, .val (.int (v0_176_l20 p2 p3)), .val (.int (v0_180_s0 p0 p1 p2 p3))] [])) _
          refine XS.iload X205.here hx rfl (hb hby at_202) rfl ?_
          show Steps p.tables e below (T205.setTop (mkF m 204 #[.val (.int p0), .val (.int p1), .val (.int p2), .val (.int p3), .val (.int p4), .val (.int (v0_7_l5 p0)), .val (.int (v0_17_l6 p0)), .val (.int (v0_30_l7 p0 p1)), .val (.int (p2 &&& (1073741823 : Int32))), .val (.int (p3 &&& (1073741823 : Int32))), .val (.int (v0_48_s0 p4)), .val (.ref b176), .val (.int (v0_76_l12 p0 p1)), .val (.int (v0_83_l13 p0 p1)), .val (.int (0 : Int32)), .val (.int (v0_121_l15 p0 p1)), .val (.int (v0_135_l16 p0 p1 p2 p3)), .val (.int (v0_144_l17 p0 p1 p2 p3)), .val (.long (v0_167_l18 p2 p3)), .second, .val (.int (v0_176_l20 p2 p3)), .val (.int (v0_180_s0 p0 p1 p2 p3))] [(.int (0 : Int32))])) _
          refine XS.ifNo X205.here hx rfl (hb hby at_204) rfl ((if0 _ _).trans (teq (rfl : (0 : Int32) = (0 : Int32))).2) ?_
          show Steps p.tables e below (T205.setTop (mkF m 207 #[.val (.int p0), .val (.int p1), .val (.int p2), .val (.int p3), .val (.int p4), .val (.int (v0_7_l5 p0)), .val (.int (v0_17_l6 p0)), .val (.int (v0_30_l7 p0 p1)), .val (.int (p2 &&& (1073741823 : Int32))), .val (.int (p3 &&& (1073741823 : Int32))), .val (.int (v0_48_s0 p4)), .val (.ref b176), .val (.int (v0_76_l12 p0 p1)), .val (.int (v0_83_l13 p0 p1)), .val (.int (0 : Int32)), .val (.int (v0_121_l15 p0 p1)), .val (.int (v0_135_l16 p0 p1 p2 p3)), .val (.int (v0_144_l17 p0 p1 p2 p3)), .val (.long (v0_167_l18 p2 p3)), .second, .val (.int (v0_176_l20 p2 p3)), .val (.int (v0_180_s0 p0 p1 p2 p3))] [])) _
          refine XS.iload X205.here hx rfl (hb hby at_207) rfl ?_
          show Steps p.tables e below (T205.setTop (mkF m 209 #[.val (.int p0), .val (.int p1), .val (.int p2), .val (.int p3), .val (.int p4), .val (.int (v0_7_l5 p0)), .val (.int (v0_17_l6 p0)), .val (.int (v0_30_l7 p0 p1)), .val (.int (p2 &&& (1073741823 : Int32))), .val (.int (p3 &&& (1073741823 : Int32))), .val (.int (v0_48_s0 p4)), .val (.ref b176), .val (.int (v0_76_l12 p0 p1)), .val (.int (v0_83_l13 p0 p1)), .val (.int (0 : Int32)), .val (.int (v0_121_l15 p0 p1)), .val (.int (v0_135_l16 p0 p1 p2 p3)), .val (.int (v0_144_l17 p0 p1 p2 p3)), .val (.long (v0_167_l18 p2 p3)), .second, .val (.int (v0_176_l20 p2 p3)), .val (.int (v0_180_s0 p0 p1 p2 p3))] [(.int (v0_121_l15 p0 p1))])) _
          refine XS.iload X205.here hx rfl (hb hby at_209) rfl ?_
          suffices k215 : Steps p.tables e below (T205.setTop (mkF m 236 #[.val (.int p0), .val (.int p1), .val (.int p2), .val (.int p3), .val (.int p4), .val (.int (v0_7_l5 p0)), .val (.int (v0_17_l6 p0)), .val (.int (v0_30_l7 p0 p1)), .val (.int (p2 &&& (1073741823 : Int32))), .val (.int (p3 &&& (1073741823 : Int32))), .val (.int (v0_48_s0 p4)), .val (.ref b176), .val (.int (v0_76_l12 p0 p1)), .val (.int (v0_83_l13 p0 p1)), .val (.int (0 : Int32)), .val (.int (v0_121_l15 p0 p1)), .val (.int (v0_135_l16 p0 p1 p2 p3)), .val (.int (v0_144_l17 p0 p1 p2 p3)), .val (.long (v0_167_l18 p2 p3)), .second, .val (.int (v0_176_l20 p2 p3)), .val (.int (v0_180_s0 p0 p1 p2 p3))] [(.int (v0_211_s0 p0 p1 p2 p3))])) t by
            by_cases hc211_210 : (v0_121_l15 p0 p1) = (v0_83_l13 p0 p1)
            · rw [(show (v0_211_s0 p0 p1 p2 p3) = (v0_221_s0 p0 p1 p2 p3) from if_pos hc211_210)] at k215
              show Steps p.tables e below (T205.setTop (mkF m 211 #[.val (.int p0), .val (.int p1), .val (.int p2), .val (.int p3), .val (.int p4), .val (.int (v0_7_l5 p0)), .val (.int (v0_17_l6 p0)), .val (.int (v0_30_l7 p0 p1)), .val (.int (p2 &&& (1073741823 : Int32))), .val (.int (p3 &&& (1073741823 : Int32))), .val (.int (v0_48_s0 p4)), .val (.ref b176), .val (.int (v0_76_l12 p0 p1)), .val (.int (v0_83_l13 p0 p1)), .val (.int (0 : Int32)), .val (.int (v0_121_l15 p0 p1)), .val (.int (v0_135_l16 p0 p1 p2 p3)), .val (.int (v0_144_l17 p0 p1 p2 p3)), .val (.long (v0_167_l18 p2 p3)), .second, .val (.int (v0_176_l20 p2 p3)), .val (.int (v0_180_s0 p0 p1 p2 p3))] [(.int (v0_83_l13 p0 p1)), (.int (v0_121_l15 p0 p1))])) _
              refine XS.icmpNo X205.here hx rfl (hb hby at_211) rfl (teq hc211_210).2 ?_
              show Steps p.tables e below (T205.setTop (mkF m 214 #[.val (.int p0), .val (.int p1), .val (.int p2), .val (.int p3), .val (.int p4), .val (.int (v0_7_l5 p0)), .val (.int (v0_17_l6 p0)), .val (.int (v0_30_l7 p0 p1)), .val (.int (p2 &&& (1073741823 : Int32))), .val (.int (p3 &&& (1073741823 : Int32))), .val (.int (v0_48_s0 p4)), .val (.ref b176), .val (.int (v0_76_l12 p0 p1)), .val (.int (v0_83_l13 p0 p1)), .val (.int (0 : Int32)), .val (.int (v0_121_l15 p0 p1)), .val (.int (v0_135_l16 p0 p1 p2 p3)), .val (.int (v0_144_l17 p0 p1 p2 p3)), .val (.long (v0_167_l18 p2 p3)), .second, .val (.int (v0_176_l20 p2 p3)), .val (.int (v0_180_s0 p0 p1 p2 p3))] [])) _
              refine XS.iload X205.here hx rfl (hb hby at_214) rfl ?_
              show Steps p.tables e below (T205.setTop (mkF m 216 #[.val (.int p0), .val (.int p1), .val (.int p2), .val (.int p3), .val (.int p4), .val (.int (v0_7_l5 p0)), .val (.int (v0_17_l6 p0)), .val (.int (v0_30_l7 p0 p1)), .val (.int (p2 &&& (1073741823 : Int32))), .val (.int (p3 &&& (1073741823 : Int32))), .val (.int (v0_48_s0 p4)), .val (.ref b176), .val (.int (v0_76_l12 p0 p1)), .val (.int (v0_83_l13 p0 p1)), .val (.int (0 : Int32)), .val (.int (v0_121_l15 p0 p1)), .val (.int (v0_135_l16 p0 p1 p2 p3)), .val (.int (v0_144_l17 p0 p1 p2 p3)), .val (.long (v0_167_l18 p2 p3)), .second, .val (.int (v0_176_l20 p2 p3)), .val (.int (v0_180_s0 p0 p1 p2 p3))] [(.int (v0_135_l16 p0 p1 p2 p3))])) _
              refine XS.iload X205.here hx rfl (hb hby at_216) rfl ?_
              show Steps p.tables e below (T205.setTop (mkF m 218 #[.val (.int p0), .val (.int p1), .val (.int p2), .val (.int p3), .val (.int p4), .val (.int (v0_7_l5 p0)), .val (.int (v0_17_l6 p0)), .val (.int (v0_30_l7 p0 p1)), .val (.int (p2 &&& (1073741823 : Int32))), .val (.int (p3 &&& (1073741823 : Int32))), .val (.int (v0_48_s0 p4)), .val (.ref b176), .val (.int (v0_76_l12 p0 p1)), .val (.int (v0_83_l13 p0 p1)), .val (.int (0 : Int32)), .val (.int (v0_121_l15 p0 p1)), .val (.int (v0_135_l16 p0 p1 p2 p3)), .val (.int (v0_144_l17 p0 p1 p2 p3)), .val (.long (v0_167_l18 p2 p3)), .second, .val (.int (v0_176_l20 p2 p3)), .val (.int (v0_180_s0 p0 p1 p2 p3))] [(.int (v0_180_s0 p0 p1 p2 p3)), (.int (v0_135_l16 p0 p1 p2 p3))])) _
              refine XS.iload X205.here hx rfl (hb hby at_218) rfl ?_
              show Steps p.tables e below (T205.setTop (mkF m 220 #[.val (.int p0), .val (.int p1), .val (.int p2), .val (.int p3), .val (.int p4), .val (.int (v0_7_l5 p0)), .val (.int (v0_17_l6 p0)), .val (.int (v0_30_l7 p0 p1)), .val (.int (p2 &&& (1073741823 : Int32))), .val (.int (p3 &&& (1073741823 : Int32))), .val (.int (v0_48_s0 p4)), .val (.ref b176), .val (.int (v0_76_l12 p0 p1)), .val (.int (v0_83_l13 p0 p1)), .val (.int (0 : Int32)), .val (.int (v0_121_l15 p0 p1)), .val (.int (v0_135_l16 p0 p1 p2 p3)), .val (.int (v0_144_l17 p0 p1 p2 p3)), .val (.long (v0_167_l18 p2 p3)), .second, .val (.int (v0_176_l20 p2 p3)), .val (.int (v0_180_s0 p0 p1 p2 p3))] [(.int (v0_83_l13 p0 p1)), (.int (v0_180_s0 p0 p1 p2 p3)), (.int (v0_135_l16 p0 p1 p2 p3))])) _
              refine XS.iadd X205.here hx rfl (hb hby at_220) rfl ?_
              suffices k214 : Steps p.tables e below (T205.setTop (mkF m 236 #[.val (.int p0), .val (.int p1), .val (.int p2), .val (.int p3), .val (.int p4), .val (.int (v0_7_l5 p0)), .val (.int (v0_17_l6 p0)), .val (.int (v0_30_l7 p0 p1)), .val (.int (p2 &&& (1073741823 : Int32))), .val (.int (p3 &&& (1073741823 : Int32))), .val (.int (v0_48_s0 p4)), .val (.ref b176), .val (.int (v0_76_l12 p0 p1)), .val (.int (v0_83_l13 p0 p1)), .val (.int (0 : Int32)), .val (.int (v0_121_l15 p0 p1)), .val (.int (v0_135_l16 p0 p1 p2 p3)), .val (.int (v0_144_l17 p0 p1 p2 p3)), .val (.long (v0_167_l18 p2 p3)), .second, .val (.int (v0_176_l20 p2 p3)), .val (.int (v0_180_s0 p0 p1 p2 p3))] [(.int (v0_221_s0 p0 p1 p2 p3))])) t by
                by_cases hc221_211 : (v0_135_l16 p0 p1 p2 p3) = ((v0_180_s0 p0 p1 p2 p3) + (v0_83_l13 p0 p1))
                · rw [(show (v0_221_s0 p0 p1 p2 p3) = (v0_228_s0 p0 p1 p2 p3) from if_pos hc221_211)] at k214
                  show Steps p.tables e below (T205.setTop (mkF m 221 #[.val (.int p0), .val (.int p1), .val (.int p2), .val (.int p3), .val (.int p4), .val (.int (v0_7_l5 p0)), .val (.int (v0_17_l6 p0)), .val (.int (v0_30_l7 p0 p1)), .val (.int (p2 &&& (1073741823 : Int32))), .val (.int (p3 &&& (1073741823 : Int32))), .val (.int (v0_48_s0 p4)), .val (.ref b176), .val (.int (v0_76_l12 p0 p1)), .val (.int (v0_83_l13 p0 p1)), .val (.int (0 : Int32)), .val (.int (v0_121_l15 p0 p1)), .val (.int (v0_135_l16 p0 p1 p2 p3)), .val (.int (v0_144_l17 p0 p1 p2 p3)), .val (.long (v0_167_l18 p2 p3)), .second, .val (.int (v0_176_l20 p2 p3)), .val (.int (v0_180_s0 p0 p1 p2 p3))] [(.int ((v0_180_s0 p0 p1 p2 p3) + (v0_83_l13 p0 p1))), (.int (v0_135_l16 p0 p1 p2 p3))])) _
                  refine XS.icmpNo X205.here hx rfl (hb hby at_221) rfl (teq hc221_211).2 ?_
                  show Steps p.tables e below (T205.setTop (mkF m 224 #[.val (.int p0), .val (.int p1), .val (.int p2), .val (.int p3), .val (.int p4), .val (.int (v0_7_l5 p0)), .val (.int (v0_17_l6 p0)), .val (.int (v0_30_l7 p0 p1)), .val (.int (p2 &&& (1073741823 : Int32))), .val (.int (p3 &&& (1073741823 : Int32))), .val (.int (v0_48_s0 p4)), .val (.ref b176), .val (.int (v0_76_l12 p0 p1)), .val (.int (v0_83_l13 p0 p1)), .val (.int (0 : Int32)), .val (.int (v0_121_l15 p0 p1)), .val (.int (v0_135_l16 p0 p1 p2 p3)), .val (.int (v0_144_l17 p0 p1 p2 p3)), .val (.long (v0_167_l18 p2 p3)), .second, .val (.int (v0_176_l20 p2 p3)), .val (.int (v0_180_s0 p0 p1 p2 p3))] [])) _
                  refine XS.iload X205.here hx rfl (hb hby at_224) rfl ?_
                  show Steps p.tables e below (T205.setTop (mkF m 226 #[.val (.int p0), .val (.int p1), .val (.int p2), .val (.int p3), .val (.int p4), .val (.int (v0_7_l5 p0)), .val (.int (v0_17_l6 p0)), .val (.int (v0_30_l7 p0 p1)), .val (.int (p2 &&& (1073741823 : Int32))), .val (.int (p3 &&& (1073741823 : Int32))), .val (.int (v0_48_s0 p4)), .val (.ref b176), .val (.int (v0_76_l12 p0 p1)), .val (.int (v0_83_l13 p0 p1)), .val (.int (0 : Int32)), .val (.int (v0_121_l15 p0 p1)), .val (.int (v0_135_l16 p0 p1 p2 p3)), .val (.int (v0_144_l17 p0 p1 p2 p3)), .val (.long (v0_167_l18 p2 p3)), .second, .val (.int (v0_176_l20 p2 p3)), .val (.int (v0_180_s0 p0 p1 p2 p3))] [(.int (v0_144_l17 p0 p1 p2 p3))])) _
                  refine XS.iload X205.here hx rfl (hb hby at_226) rfl ?_
                  suffices k213 : Steps p.tables e below (T205.setTop (mkF m 236 #[.val (.int p0), .val (.int p1), .val (.int p2), .val (.int p3), .val (.int p4), .val (.int (v0_7_l5 p0)), .val (.int (v0_17_l6 p0)), .val (.int (v0_30_l7 p0 p1)), .val (.int (p2 &&& (1073741823 : Int32))), .val (.int (p3 &&& (1073741823 : Int32))), .val (.int (v0_48_s0 p4)), .val (.ref b176), .val (.int (v0_76_l12 p0 p1)), .val (.int (v0_83_l13 p0 p1)), .val (.int (0 : Int32)), .val (.int (v0_121_l15 p0 p1)), .val (.int (v0_135_l16 p0 p1 p2 p3)), .val (.int (v0_144_l17 p0 p1 p2 p3)), .val (.long (v0_167_l18 p2 p3)), .second, .val (.int (v0_176_l20 p2 p3)), .val (.int (v0_180_s0 p0 p1 p2 p3))] [(.int (v0_228_s0 p0 p1 p2 p3))])) t by
                    by_cases hc228_212 : (v0_144_l17 p0 p1 p2 p3) = (v0_180_s0 p0 p1 p2 p3)
                    · rw [(show (v0_228_s0 p0 p1 p2 p3) = (1 : Int32) from if_pos hc228_212)] at k213
                      show Steps p.tables e below (T205.setTop (mkF m 228 #[.val (.int p0), .val (.int p1), .val (.int p2), .val (.int p3), .val (.int p4), .val (.int (v0_7_l5 p0)), .val (.int (v0_17_l6 p0)), .val (.int (v0_30_l7 p0 p1)), .val (.int (p2 &&& (1073741823 : Int32))), .val (.int (p3 &&& (1073741823 : Int32))), .val (.int (v0_48_s0 p4)), .val (.ref b176), .val (.int (v0_76_l12 p0 p1)), .val (.int (v0_83_l13 p0 p1)), .val (.int (0 : Int32)), .val (.int (v0_121_l15 p0 p1)), .val (.int (v0_135_l16 p0 p1 p2 p3)), .val (.int (v0_144_l17 p0 p1 p2 p3)), .val (.long (v0_167_l18 p2 p3)), .second, .val (.int (v0_176_l20 p2 p3)), .val (.int (v0_180_s0 p0 p1 p2 p3))] [(.int (v0_180_s0 p0 p1 p2 p3)), (.int (v0_144_l17 p0 p1 p2 p3))])) _
                      refine XS.icmpNo X205.here hx rfl (hb hby at_228) rfl (teq hc228_212).2 ?_
                      show Steps p.tables e below (T205.setTop (mkF m 231 #[.val (.int p0), .val (.int p1), .val (.int p2), .val (.int p3), .val (.int p4), .val (.int (v0_7_l5 p0)), .val (.int (v0_17_l6 p0)), .val (.int (v0_30_l7 p0 p1)), .val (.int (p2 &&& (1073741823 : Int32))), .val (.int (p3 &&& (1073741823 : Int32))), .val (.int (v0_48_s0 p4)), .val (.ref b176), .val (.int (v0_76_l12 p0 p1)), .val (.int (v0_83_l13 p0 p1)), .val (.int (0 : Int32)), .val (.int (v0_121_l15 p0 p1)), .val (.int (v0_135_l16 p0 p1 p2 p3)), .val (.int (v0_144_l17 p0 p1 p2 p3)), .val (.long (v0_167_l18 p2 p3)), .second, .val (.int (v0_176_l20 p2 p3)), .val (.int (v0_180_s0 p0 p1 p2 p3))] [])) _
                      refine XS.iconst X205.here hx rfl (hb hby at_231) ?_
                      show Steps p.tables e below (T205.setTop (mkF m 232 #[.val (.int p0), .val (.int p1), .val (.int p2), .val (.int p3), .val (.int p4), .val (.int (v0_7_l5 p0)), .val (.int (v0_17_l6 p0)), .val (.int (v0_30_l7 p0 p1)), .val (.int (p2 &&& (1073741823 : Int32))), .val (.int (p3 &&& (1073741823 : Int32))), .val (.int (v0_48_s0 p4)), .val (.ref b176), .val (.int (v0_76_l12 p0 p1)), .val (.int (v0_83_l13 p0 p1)), .val (.int (0 : Int32)), .val (.int (v0_121_l15 p0 p1)), .val (.int (v0_135_l16 p0 p1 p2 p3)), .val (.int (v0_144_l17 p0 p1 p2 p3)), .val (.long (v0_167_l18 p2 p3)), .second, .val (.int (v0_176_l20 p2 p3)), .val (.int (v0_180_s0 p0 p1 p2 p3))] [(.int (1 : Int32))])) _
                      refine XS.goto X205.here hx rfl (pc0 := 232) (pc' := 236) rfl (hb hby at_232) (by decide) (by decide) ?_
                      exact k213
                    · rw [(show (v0_228_s0 p0 p1 p2 p3) = (0 : Int32) from if_neg hc228_212)] at k213
                      show Steps p.tables e below (T205.setTop (mkF m 228 #[.val (.int p0), .val (.int p1), .val (.int p2), .val (.int p3), .val (.int p4), .val (.int (v0_7_l5 p0)), .val (.int (v0_17_l6 p0)), .val (.int (v0_30_l7 p0 p1)), .val (.int (p2 &&& (1073741823 : Int32))), .val (.int (p3 &&& (1073741823 : Int32))), .val (.int (v0_48_s0 p4)), .val (.ref b176), .val (.int (v0_76_l12 p0 p1)), .val (.int (v0_83_l13 p0 p1)), .val (.int (0 : Int32)), .val (.int (v0_121_l15 p0 p1)), .val (.int (v0_135_l16 p0 p1 p2 p3)), .val (.int (v0_144_l17 p0 p1 p2 p3)), .val (.long (v0_167_l18 p2 p3)), .second, .val (.int (v0_176_l20 p2 p3)), .val (.int (v0_180_s0 p0 p1 p2 p3))] [(.int (v0_180_s0 p0 p1 p2 p3)), (.int (v0_144_l17 p0 p1 p2 p3))])) _
                      refine XS.icmpYes X205.here hx rfl (pc0 := 228) (pc' := 235) rfl (hb hby at_228) rfl (feq hc228_212).2 (by decide) (by decide) ?_
                      show Steps p.tables e below (T205.setTop (mkF m 235 #[.val (.int p0), .val (.int p1), .val (.int p2), .val (.int p3), .val (.int p4), .val (.int (v0_7_l5 p0)), .val (.int (v0_17_l6 p0)), .val (.int (v0_30_l7 p0 p1)), .val (.int (p2 &&& (1073741823 : Int32))), .val (.int (p3 &&& (1073741823 : Int32))), .val (.int (v0_48_s0 p4)), .val (.ref b176), .val (.int (v0_76_l12 p0 p1)), .val (.int (v0_83_l13 p0 p1)), .val (.int (0 : Int32)), .val (.int (v0_121_l15 p0 p1)), .val (.int (v0_135_l16 p0 p1 p2 p3)), .val (.int (v0_144_l17 p0 p1 p2 p3)), .val (.long (v0_167_l18 p2 p3)), .second, .val (.int (v0_176_l20 p2 p3)), .val (.int (v0_180_s0 p0 p1 p2 p3))] [])) _
                      refine XS.iconst X205.here hx rfl (hb hby at_235) ?_
                      exact k213
                  exact k214
                · rw [(show (v0_221_s0 p0 p1 p2 p3) = (0 : Int32) from if_neg hc221_211)] at k214
                  show Steps p.tables e below (T205.setTop (mkF m 221 #[.val (.int p0), .val (.int p1), .val (.int p2), .val (.int p3), .val (.int p4), .val (.int (v0_7_l5 p0)), .val (.int (v0_17_l6 p0)), .val (.int (v0_30_l7 p0 p1)), .val (.int (p2 &&& (1073741823 : Int32))), .val (.int (p3 &&& (1073741823 : Int32))), .val (.int (v0_48_s0 p4)), .val (.ref b176), .val (.int (v0_76_l12 p0 p1)), .val (.int (v0_83_l13 p0 p1)), .val (.int (0 : Int32)), .val (.int (v0_121_l15 p0 p1)), .val (.int (v0_135_l16 p0 p1 p2 p3)), .val (.int (v0_144_l17 p0 p1 p2 p3)), .val (.long (v0_167_l18 p2 p3)), .second, .val (.int (v0_176_l20 p2 p3)), .val (.int (v0_180_s0 p0 p1 p2 p3))] [(.int ((v0_180_s0 p0 p1 p2 p3) + (v0_83_l13 p0 p1))), (.int (v0_135_l16 p0 p1 p2 p3))])) _
                  refine XS.icmpYes X205.here hx rfl (pc0 := 221) (pc' := 235) rfl (hb hby at_221) rfl (feq hc221_211).2 (by decide) (by decide) ?_
                  show Steps p.tables e below (T205.setTop (mkF m 235 #[.val (.int p0), .val (.int p1), .val (.int p2), .val (.int p3), .val (.int p4), .val (.int (v0_7_l5 p0)), .val (.int (v0_17_l6 p0)), .val (.int (v0_30_l7 p0 p1)), .val (.int (p2 &&& (1073741823 : Int32))), .val (.int (p3 &&& (1073741823 : Int32))), .val (.int (v0_48_s0 p4)), .val (.ref b176), .val (.int (v0_76_l12 p0 p1)), .val (.int (v0_83_l13 p0 p1)), .val (.int (0 : Int32)), .val (.int (v0_121_l15 p0 p1)), .val (.int (v0_135_l16 p0 p1 p2 p3)), .val (.int (v0_144_l17 p0 p1 p2 p3)), .val (.long (v0_167_l18 p2 p3)), .second, .val (.int (v0_176_l20 p2 p3)), .val (.int (v0_180_s0 p0 p1 p2 p3))] [])) _
                  refine XS.iconst X205.here hx rfl (hb hby at_235) ?_
                  exact k214
              exact k215
            · rw [(show (v0_211_s0 p0 p1 p2 p3) = (0 : Int32) from if_neg hc211_210)] at k215
              show Steps p.tables e below (T205.setTop (mkF m 211 #[.val (.int p0), .val (.int p1), .val (.int p2), .val (.int p3), .val (.int p4), .val (.int (v0_7_l5 p0)), .val (.int (v0_17_l6 p0)), .val (.int (v0_30_l7 p0 p1)), .val (.int (p2 &&& (1073741823 : Int32))), .val (.int (p3 &&& (1073741823 : Int32))), .val (.int (v0_48_s0 p4)), .val (.ref b176), .val (.int (v0_76_l12 p0 p1)), .val (.int (v0_83_l13 p0 p1)), .val (.int (0 : Int32)), .val (.int (v0_121_l15 p0 p1)), .val (.int (v0_135_l16 p0 p1 p2 p3)), .val (.int (v0_144_l17 p0 p1 p2 p3)), .val (.long (v0_167_l18 p2 p3)), .second, .val (.int (v0_176_l20 p2 p3)), .val (.int (v0_180_s0 p0 p1 p2 p3))] [(.int (v0_83_l13 p0 p1)), (.int (v0_121_l15 p0 p1))])) _
              refine XS.icmpYes X205.here hx rfl (pc0 := 211) (pc' := 235) rfl (hb hby at_211) rfl (feq hc211_210).2 (by decide) (by decide) ?_
              show Steps p.tables e below (T205.setTop (mkF m 235 #[.val (.int p0), .val (.int p1), .val (.int p2), .val (.int p3), .val (.int p4), .val (.int (v0_7_l5 p0)), .val (.int (v0_17_l6 p0)), .val (.int (v0_30_l7 p0 p1)), .val (.int (p2 &&& (1073741823 : Int32))), .val (.int (p3 &&& (1073741823 : Int32))), .val (.int (v0_48_s0 p4)), .val (.ref b176), .val (.int (v0_76_l12 p0 p1)), .val (.int (v0_83_l13 p0 p1)), .val (.int (0 : Int32)), .val (.int (v0_121_l15 p0 p1)), .val (.int (v0_135_l16 p0 p1 p2 p3)), .val (.int (v0_144_l17 p0 p1 p2 p3)), .val (.long (v0_167_l18 p2 p3)), .second, .val (.int (v0_176_l20 p2 p3)), .val (.int (v0_180_s0 p0 p1 p2 p3))] [])) _
              refine XS.iconst X205.here hx rfl (hb hby at_235) ?_
              exact k215
          exact k216
        · rw [(show (v0_199_s0 p0 p1 p2 p3) = (0 : Int32) from if_neg hc199_209)] at k216
          show Steps p.tables e below (T205.setTop (mkF m 199 #[.val (.int p0), .val (.int p1), .val (.int p2), .val (.int p3), .val (.int p4), .val (.int (v0_7_l5 p0)), .val (.int (v0_17_l6 p0)), .val (.int (v0_30_l7 p0 p1)), .val (.int (p2 &&& (1073741823 : Int32))), .val (.int (p3 &&& (1073741823 : Int32))), .val (.int (v0_48_s0 p4)), .val (.ref b176), .val (.int (v0_76_l12 p0 p1)), .val (.int (v0_83_l13 p0 p1)), .val (.int (0 : Int32)), .val (.int (v0_121_l15 p0 p1)), .val (.int (v0_135_l16 p0 p1 p2 p3)), .val (.int (v0_144_l17 p0 p1 p2 p3)), .val (.long (v0_167_l18 p2 p3)), .second, .val (.int (v0_176_l20 p2 p3)), .val (.int (v0_180_s0 p0 p1 p2 p3))] [(.int (v0_76_l12 p0 p1))])) _
          refine XS.ifYes X205.here hx rfl (pc0 := 199) (pc' := 235) rfl (hb hby at_199) rfl ((if0 _ _).trans (feq hc199_209).2) (by decide) (by decide) ?_
          show Steps p.tables e below (T205.setTop (mkF m 235 #[.val (.int p0), .val (.int p1), .val (.int p2), .val (.int p3), .val (.int p4), .val (.int (v0_7_l5 p0)), .val (.int (v0_17_l6 p0)), .val (.int (v0_30_l7 p0 p1)), .val (.int (p2 &&& (1073741823 : Int32))), .val (.int (p3 &&& (1073741823 : Int32))), .val (.int (v0_48_s0 p4)), .val (.ref b176), .val (.int (v0_76_l12 p0 p1)), .val (.int (v0_83_l13 p0 p1)), .val (.int (0 : Int32)), .val (.int (v0_121_l15 p0 p1)), .val (.int (v0_135_l16 p0 p1 p2 p3)), .val (.int (v0_144_l17 p0 p1 p2 p3)), .val (.long (v0_167_l18 p2 p3)), .second, .val (.int (v0_176_l20 p2 p3)), .val (.int (v0_180_s0 p0 p1 p2 p3))] [])) _
          refine XS.iconst X205.here hx rfl (hb hby at_235) ?_
          exact k216
      exact kk)
    obtain ⟨fs, hr, hrun, hended, hW, hsame⟩ := X205.leave (v := some (.int (nar .boolean (v0_199_s0 p0 p1 p2 p3)))) (fun h => by rw [Bd.returns] at h; cases h)
    have hv : (v0_ret p0 p1 p2 p3 p4) = (nar .boolean (v0_199_s0 p0 p1 p2 p3)) := (if_pos hc97_191)
    have hone : (nar .boolean (v0_199_s0 p0 p1 p2 p3)) = 1 := hv.symm.trans (own_law p0 p1 p2 p3 p4)
    refine ⟨_, _, k217 _ ?_, hrun, hended, _, _, rfl, ?_, ⟨_, rfl⟩, hW, hsame.mono (by decide) (by decide)⟩
    · show Steps p.tables e below (T205.setTop (mkF m 236 #[.val (.int p0), .val (.int p1), .val (.int p2), .val (.int p3), .val (.int p4), .val (.int (v0_7_l5 p0)), .val (.int (v0_17_l6 p0)), .val (.int (v0_30_l7 p0 p1)), .val (.int (p2 &&& (1073741823 : Int32))), .val (.int (p3 &&& (1073741823 : Int32))), .val (.int (v0_48_s0 p4)), .val (.ref b176), .val (.int (v0_76_l12 p0 p1)), .val (.int (v0_83_l13 p0 p1)), .val (.int (0 : Int32)), .val (.int (v0_121_l15 p0 p1)), .val (.int (v0_135_l16 p0 p1 p2 p3)), .val (.int (v0_144_l17 p0 p1 p2 p3)), .val (.long (v0_167_l18 p2 p3)), .second, .val (.int (v0_176_l20 p2 p3)), .val (.int (v0_180_s0 p0 p1 p2 p3))] [(.int (v0_199_s0 p0 p1 p2 p3))])) _
      exact retN X205 hx (t := .boolean) Bd.returns (by simp) (hb hby at_236) hr
    · show Q0 Z p0 p1 p2 p3 p4 h0 n0 _ T205.heap _
      exact ⟨congrArg (fun z => some (Value.int z)) hone, N205⟩
  · have k218 := fun (t : State) (kk : Steps p.tables e below (T188.setTop (mkF m 104 #[.val (.int p0), .val (.int p1), .val (.int p2), .val (.int p3), .val (.int p4), .val (.int (v0_7_l5 p0)), .val (.int (v0_17_l6 p0)), .val (.int (v0_30_l7 p0 p1)), .val (.int (p2 &&& (1073741823 : Int32))), .val (.int (p3 &&& (1073741823 : Int32))), .val (.int (v0_48_s0 p4)), .val (.ref b176), .val (.int (v0_76_l12 p0 p1)), .val (.int (v0_83_l13 p0 p1)), .val (.int (0 : Int32)), .unset, .unset, .unset, .unset, .unset, .unset, .unset] [(.int (v0_30_l7 p0 p1)), (.ref b176)])) t) => k190 t (by
      show Steps p.tables e below (T188.setTop (mkF m 97 #[.val (.int p0), .val (.int p1), .val (.int p2), .val (.int p3), .val (.int p4), .val (.int (v0_7_l5 p0)), .val (.int (v0_17_l6 p0)), .val (.int (v0_30_l7 p0 p1)), .val (.int (p2 &&& (1073741823 : Int32))), .val (.int (p3 &&& (1073741823 : Int32))), .val (.int (v0_48_s0 p4)), .val (.ref b176), .val (.int (v0_76_l12 p0 p1)), .val (.int (v0_83_l13 p0 p1)), .val (.int (0 : Int32)), .unset, .unset, .unset, .unset, .unset, .unset, .unset] [(.int (v0_48_s0 p4))])) _
      refine XS.ifNo X188.here hx rfl (hb hby at_97) rfl ((if0 _ _).trans (feq hc97_191).1) ?_
      show Steps p.tables e below (T188.setTop (mkF m 100 #[.val (.int p0), .val (.int p1), .val (.int p2), .val (.int p3), .val (.int p4), .val (.int (v0_7_l5 p0)), .val (.int (v0_17_l6 p0)), .val (.int (v0_30_l7 p0 p1)), .val (.int (p2 &&& (1073741823 : Int32))), .val (.int (p3 &&& (1073741823 : Int32))), .val (.int (v0_48_s0 p4)), .val (.ref b176), .val (.int (v0_76_l12 p0 p1)), .val (.int (v0_83_l13 p0 p1)), .val (.int (0 : Int32)), .unset, .unset, .unset, .unset, .unset, .unset, .unset] [])) _
      refine XS.aload X188.here hx rfl (hb hby at_100) rfl rfl ?_
      show Steps p.tables e below (T188.setTop (mkF m 102 #[.val (.int p0), .val (.int p1), .val (.int p2), .val (.int p3), .val (.int p4), .val (.int (v0_7_l5 p0)), .val (.int (v0_17_l6 p0)), .val (.int (v0_30_l7 p0 p1)), .val (.int (p2 &&& (1073741823 : Int32))), .val (.int (p3 &&& (1073741823 : Int32))), .val (.int (v0_48_s0 p4)), .val (.ref b176), .val (.int (v0_76_l12 p0 p1)), .val (.int (v0_83_l13 p0 p1)), .val (.int (0 : Int32)), .unset, .unset, .unset, .unset, .unset, .unset, .unset] [(.ref b176)])) _
      refine XS.iload X188.here hx rfl (hb hby at_102) rfl ?_
      exact kk)
    have Zz219 : n0 ≤ T188.heap.size := (Nat.le_trans Z0 K188.1)
    obtain ⟨cq219, kq219, q219a, q219b, q219c⟩ := isOf hZ rfl Eq188_0
    obtain ⟨_, _, ⟨T219, L219, k219, n219⟩, -, X219, ⟨Lc219, hQ219, l219, y219, z219⟩, st219⟩ := X188.virtualBack hx (y := (⟨"phrasebook/ZFormat$Layout", "place", "(I)I"⟩ : MethodName)) (z := (⟨"phrasebook/ZFormat$Layout", "place", "(I)I"⟩ : MethodName)) hown (mvT hZ (hw _ (List.mem_of_getElem? (i := 24) rfl))) (mvT hZ (hw _ (List.mem_of_getElem? (i := 25) rfl))) (notFace_of_selects (args := #[]) (mvT hZ (hw _ (List.mem_of_getElem? (i := 27) rfl)))) (mvT hZ (hw _ (List.mem_of_getElem? (i := 27) rfl))) (mvT hZ (hw _ (List.mem_of_getElem? (i := 26) rfl))) (by decide) (backOf (W := 0) (rm4 l Z a0 hw [] b176 (v0_30_l7 p0 p1) (v0_7_l5 p0) (v5_ret (v0_30_l7 p0 p1) (v0_7_l5 p0)) (v4_f_groupEnded_ra0 (v0_30_l7 p0 p1) (v0_7_l5 p0) (9 : Int32) (0 : Int32)) (((v4_f_codesInGroup_ra0 (v0_30_l7 p0 p1) (v0_7_l5 p0) (9 : Int32) (0 : Int32) (0 : Int32)) + (p2 &&& (1073741823 : Int32))) % (8 : Int32)) T188.heap n0 Zz219 Fq188_0 Eq188_0 Fq188_1 Fq188_3 g_b176 Fq188_2) hZ (hw _ (List.mem_of_getElem? (i := 28) rfl)) (hw _ (List.mem_of_getElem? (i := 4) rfl)) (by decide) (by decide)) q219a q219c (g := (mkF m 104 #[.val (.int p0), .val (.int p1), .val (.int p2), .val (.int p3), .val (.int p4), .val (.int (v0_7_l5 p0)), .val (.int (v0_17_l6 p0)), .val (.int (v0_30_l7 p0 p1)), .val (.int (p2 &&& (1073741823 : Int32))), .val (.int (p3 &&& (1073741823 : Int32))), .val (.int (v0_48_s0 p4)), .val (.ref b176), .val (.int (v0_76_l12 p0 p1)), .val (.int (v0_83_l13 p0 p1)), .val (.int (0 : Int32)), .unset, .unset, .unset, .unset, .unset, .unset, .unset] [(.int (v0_30_l7 p0 p1)), (.ref b176)])) rfl (by rw [hml]; rfl) (Steps.refl _) (argsL := [(.int (v0_30_l7 p0 p1))]) (rest := []) (lenOf pd_1 rfl) rfl (by show 2 * 0 + _ ≤ _; exact Nat.le_of_eq rfl) (hb hby at_104) (fun _ _ => ⟨rfl, rfl, (by decide : 1 + 0 ≤ _), (by decide : 4 + 0 ≤ _)⟩)
    dsimp only [Pt.U, Pt.locs, Pt.cells, Pt.slots] at X219 l219 y219 z219 st219 hQ219
    subst l219 y219 z219
    obtain ⟨rfl, N219q, Kq219, Eq219_0, Fq219_0, Fq219_1, Fq219_2, Fq219_3⟩ := hQ219
    have K219 : Keep h0 T219.heap [] := K188.trans Kq219 (allS (Or.inr sz_b176) all0)
    have N219 := Fr.app N188 N219q
    have k220 := fun (t : State) (kk : Steps p.tables e below (T219.setTop (mkF m 107 #[.val (.int p0), .val (.int p1), .val (.int p2), .val (.int p3), .val (.int p4), .val (.int (v0_7_l5 p0)), .val (.int (v0_17_l6 p0)), .val (.int (v0_30_l7 p0 p1)), .val (.int (p2 &&& (1073741823 : Int32))), .val (.int (p3 &&& (1073741823 : Int32))), .val (.int (v0_48_s0 p4)), .val (.ref b176), .val (.int (v0_76_l12 p0 p1)), .val (.int (v0_83_l13 p0 p1)), .val (.int (0 : Int32)), .unset, .unset, .unset, .unset, .unset, .unset, .unset] [(.int (v4_ret (v0_30_l7 p0 p1) (v0_7_l5 p0) (v5_ret (v0_30_l7 p0 p1) (v0_7_l5 p0)) (v4_f_groupEnded_ra0 (v0_30_l7 p0 p1) (v0_7_l5 p0) (9 : Int32) (0 : Int32)) (((v4_f_codesInGroup_ra0 (v0_30_l7 p0 p1) (v0_7_l5 p0) (9 : Int32) (0 : Int32) (0 : Int32)) + (p2 &&& (1073741823 : Int32))) % (8 : Int32))))])) t) => k218 t (st219.trans kk)
    have k221 := fun (t : State) (kk : Steps p.tables e below (T219.setTop (mkF m 113 #[.val (.int p0), .val (.int p1), .val (.int p2), .val (.int p3), .val (.int p4), .val (.int (v0_7_l5 p0)), .val (.int (v0_17_l6 p0)), .val (.int (v0_30_l7 p0 p1)), .val (.int (p2 &&& (1073741823 : Int32))), .val (.int (p3 &&& (1073741823 : Int32))), .val (.int (v0_48_s0 p4)), .val (.ref b176), .val (.int (v0_76_l12 p0 p1)), .val (.int (v0_83_l13 p0 p1)), .val (.int (v0_107_l14 p0 p1 p2)), .unset, .unset, .unset, .unset, .unset, .unset, .unset] [(.int (p3 &&& (1073741823 : Int32))), (.ref b176)])) t) => k220 t (by
      show Steps p.tables e below (T219.setTop (mkF m 107 #[.val (.int p0), .val (.int p1), .val (.int p2), .val (.int p3), .val (.int p4), .val (.int (v0_7_l5 p0)), .val (.int (v0_17_l6 p0)), .val (.int (v0_30_l7 p0 p1)), .val (.int (p2 &&& (1073741823 : Int32))), .val (.int (p3 &&& (1073741823 : Int32))), .val (.int (v0_48_s0 p4)), .val (.ref b176), .val (.int (v0_76_l12 p0 p1)), .val (.int (v0_83_l13 p0 p1)), .val (.int (0 : Int32)), .unset, .unset, .unset, .unset, .unset, .unset, .unset] [(.int (v4_ret (v0_30_l7 p0 p1) (v0_7_l5 p0) (v5_ret (v0_30_l7 p0 p1) (v0_7_l5 p0)) (v4_f_groupEnded_ra0 (v0_30_l7 p0 p1) (v0_7_l5 p0) (9 : Int32) (0 : Int32)) (((v4_f_codesInGroup_ra0 (v0_30_l7 p0 p1) (v0_7_l5 p0) (9 : Int32) (0 : Int32) (0 : Int32)) + (p2 &&& (1073741823 : Int32))) % (8 : Int32))))])) _
      refine XS.istore X219.here hx rfl (hb hby at_107) rfl (l' := #[.val (.int p0), .val (.int p1), .val (.int p2), .val (.int p3), .val (.int p4), .val (.int (v0_7_l5 p0)), .val (.int (v0_17_l6 p0)), .val (.int (v0_30_l7 p0 p1)), .val (.int (p2 &&& (1073741823 : Int32))), .val (.int (p3 &&& (1073741823 : Int32))), .val (.int (v0_48_s0 p4)), .val (.ref b176), .val (.int (v0_76_l12 p0 p1)), .val (.int (v0_83_l13 p0 p1)), .val (.int (v0_107_l14 p0 p1 p2)), .unset, .unset, .unset, .unset, .unset, .unset, .unset]) rfl ?_
      show Steps p.tables e below (T219.setTop (mkF m 109 #[.val (.int p0), .val (.int p1), .val (.int p2), .val (.int p3), .val (.int p4), .val (.int (v0_7_l5 p0)), .val (.int (v0_17_l6 p0)), .val (.int (v0_30_l7 p0 p1)), .val (.int (p2 &&& (1073741823 : Int32))), .val (.int (p3 &&& (1073741823 : Int32))), .val (.int (v0_48_s0 p4)), .val (.ref b176), .val (.int (v0_76_l12 p0 p1)), .val (.int (v0_83_l13 p0 p1)), .val (.int (v0_107_l14 p0 p1 p2)), .unset, .unset, .unset, .unset, .unset, .unset, .unset] [])) _
      refine XS.aload X219.here hx rfl (hb hby at_109) rfl rfl ?_
      show Steps p.tables e below (T219.setTop (mkF m 111 #[.val (.int p0), .val (.int p1), .val (.int p2), .val (.int p3), .val (.int p4), .val (.int (v0_7_l5 p0)), .val (.int (v0_17_l6 p0)), .val (.int (v0_30_l7 p0 p1)), .val (.int (p2 &&& (1073741823 : Int32))), .val (.int (p3 &&& (1073741823 : Int32))), .val (.int (v0_48_s0 p4)), .val (.ref b176), .val (.int (v0_76_l12 p0 p1)), .val (.int (v0_83_l13 p0 p1)), .val (.int (v0_107_l14 p0 p1 p2)), .unset, .unset, .unset, .unset, .unset, .unset, .unset] [(.ref b176)])) _
      refine XS.iload X219.here hx rfl (hb hby at_111) rfl ?_
      exact kk)
    have Zz222 : n0 ≤ T219.heap.size := (Nat.le_trans Z0 K219.1)
    obtain ⟨cq222, kq222, q222a, q222b, q222c⟩ := isOf hZ rfl Eq219_0
    obtain ⟨_, _, ⟨T222, L222, k222, n222⟩, -, X222, ⟨Lc222, hQ222, l222, y222, z222⟩, st222⟩ := X219.virtualBack hx (y := (⟨"phrasebook/ZFormat$Layout", "placeMore", "(I)V"⟩ : MethodName)) (z := (⟨"phrasebook/ZFormat$Layout", "placeMore", "(I)V"⟩ : MethodName)) hown (mvT hZ (hw _ (List.mem_of_getElem? (i := 47) rfl))) (mvT hZ (hw _ (List.mem_of_getElem? (i := 48) rfl))) (notFace_of_selects (args := #[]) (mvT hZ (hw _ (List.mem_of_getElem? (i := 50) rfl)))) (mvT hZ (hw _ (List.mem_of_getElem? (i := 50) rfl))) (mvT hZ (hw _ (List.mem_of_getElem? (i := 49) rfl))) (by decide) (backOf (W := 0) (rm9 l Z a0 hw [] b176 (p3 &&& (1073741823 : Int32)) (v4_f_codesInGroup_ra0 (v0_30_l7 p0 p1) (v0_7_l5 p0) (v5_ret (v0_30_l7 p0 p1) (v0_7_l5 p0)) (v4_f_groupEnded_ra0 (v0_30_l7 p0 p1) (v0_7_l5 p0) (9 : Int32) (0 : Int32)) (((v4_f_codesInGroup_ra0 (v0_30_l7 p0 p1) (v0_7_l5 p0) (9 : Int32) (0 : Int32) (0 : Int32)) + (p2 &&& (1073741823 : Int32))) % (8 : Int32))) (v0_7_l5 p0) (v5_ret (v0_30_l7 p0 p1) (v0_7_l5 p0)) (v4_f_groupEnded_ra0 (v0_30_l7 p0 p1) (v0_7_l5 p0) (v5_ret (v0_30_l7 p0 p1) (v0_7_l5 p0)) (v4_f_groupEnded_ra0 (v0_30_l7 p0 p1) (v0_7_l5 p0) (9 : Int32) (0 : Int32))) T219.heap n0 Zz222 Fq219_2 Eq219_0 g_b176 Fq219_0 Fq219_1 Fq219_3) hZ (hw _ (List.mem_of_getElem? (i := 51) rfl)) (hw _ (List.mem_of_getElem? (i := 4) rfl)) (by decide) (by decide)) q222a q222c (g := (mkF m 113 #[.val (.int p0), .val (.int p1), .val (.int p2), .val (.int p3), .val (.int p4), .val (.int (v0_7_l5 p0)), .val (.int (v0_17_l6 p0)), .val (.int (v0_30_l7 p0 p1)), .val (.int (p2 &&& (1073741823 : Int32))), .val (.int (p3 &&& (1073741823 : Int32))), .val (.int (v0_48_s0 p4)), .val (.ref b176), .val (.int (v0_76_l12 p0 p1)), .val (.int (v0_83_l13 p0 p1)), .val (.int (v0_107_l14 p0 p1 p2)), .unset, .unset, .unset, .unset, .unset, .unset, .unset] [(.int (p3 &&& (1073741823 : Int32))), (.ref b176)])) rfl (by rw [hml]; rfl) (Steps.refl _) (argsL := [(.int (p3 &&& (1073741823 : Int32)))]) (rest := []) (lenOf pd_5 rfl) rfl (by show 2 * 0 + _ ≤ _; exact Nat.le_of_eq rfl) (hb hby at_113) (fun _ _ => ⟨rfl, rfl, (by decide : 1 + 0 ≤ _), (by decide : 4 + 0 ≤ _)⟩)
    dsimp only [Pt.U, Pt.locs, Pt.cells, Pt.slots] at X222 l222 y222 z222 st222 hQ222
    subst l222 y222 z222
    obtain ⟨rfl, N222q, Kq222, Eq222_0, Fq222_0, Fq222_1, Fq222_2, Fq222_3⟩ := hQ222
    have K222 : Keep h0 T222.heap [] := K219.trans Kq222 (allS (Or.inr sz_b176) all0)
    have N222 := Fr.app N219 N222q
    have k223 := fun (t : State) (kk : Steps p.tables e below (T222.setTop (mkF m 116 #[.val (.int p0), .val (.int p1), .val (.int p2), .val (.int p3), .val (.int p4), .val (.int (v0_7_l5 p0)), .val (.int (v0_17_l6 p0)), .val (.int (v0_30_l7 p0 p1)), .val (.int (p2 &&& (1073741823 : Int32))), .val (.int (p3 &&& (1073741823 : Int32))), .val (.int (v0_48_s0 p4)), .val (.ref b176), .val (.int (v0_76_l12 p0 p1)), .val (.int (v0_83_l13 p0 p1)), .val (.int (v0_107_l14 p0 p1 p2)), .unset, .unset, .unset, .unset, .unset, .unset, .unset] [])) t) => k221 t (st222.trans kk)
    have k224 := fun (t : State) (kk : Steps p.tables e below (T222.setTop (mkF m 118 #[.val (.int p0), .val (.int p1), .val (.int p2), .val (.int p3), .val (.int p4), .val (.int (v0_7_l5 p0)), .val (.int (v0_17_l6 p0)), .val (.int (v0_30_l7 p0 p1)), .val (.int (p2 &&& (1073741823 : Int32))), .val (.int (p3 &&& (1073741823 : Int32))), .val (.int (v0_48_s0 p4)), .val (.ref b176), .val (.int (v0_76_l12 p0 p1)), .val (.int (v0_83_l13 p0 p1)), .val (.int (v0_107_l14 p0 p1 p2)), .unset, .unset, .unset, .unset, .unset, .unset, .unset] [(.ref b176)])) t) => k223 t (by
      show Steps p.tables e below (T222.setTop (mkF m 116 #[.val (.int p0), .val (.int p1), .val (.int p2), .val (.int p3), .val (.int p4), .val (.int (v0_7_l5 p0)), .val (.int (v0_17_l6 p0)), .val (.int (v0_30_l7 p0 p1)), .val (.int (p2 &&& (1073741823 : Int32))), .val (.int (p3 &&& (1073741823 : Int32))), .val (.int (v0_48_s0 p4)), .val (.ref b176), .val (.int (v0_76_l12 p0 p1)), .val (.int (v0_83_l13 p0 p1)), .val (.int (v0_107_l14 p0 p1 p2)), .unset, .unset, .unset, .unset, .unset, .unset, .unset] [])) _
      refine XS.aload X222.here hx rfl (hb hby at_116) rfl rfl ?_
      exact kk)
    have Zz225 : n0 ≤ T222.heap.size := (Nat.le_trans Z0 K222.1)
    obtain ⟨cq225, kq225, q225a, q225b, q225c⟩ := isOf hZ rfl Eq222_0
    obtain ⟨_, _, ⟨T225, L225, k225, n225⟩, -, X225, ⟨Lc225, hQ225, l225, y225, z225⟩, st225⟩ := X222.virtualBack hx (y := (⟨"phrasebook/ZFormat$Layout", "width", "()I"⟩ : MethodName)) (z := (⟨"phrasebook/ZFormat$Layout", "width", "()I"⟩ : MethodName)) hown (mvT hZ (hw _ (List.mem_of_getElem? (i := 42) rfl))) (mvT hZ (hw _ (List.mem_of_getElem? (i := 43) rfl))) (notFace_of_selects (args := #[]) (mvT hZ (hw _ (List.mem_of_getElem? (i := 45) rfl)))) (mvT hZ (hw _ (List.mem_of_getElem? (i := 45) rfl))) (mvT hZ (hw _ (List.mem_of_getElem? (i := 44) rfl))) (by decide) (backOf (W := 0) (rm8 l Z a0 hw [] b176 (v5_ret (v0_30_l7 p0 p1) (v0_7_l5 p0)) T222.heap n0 Zz225 Fq222_1) hZ (hw _ (List.mem_of_getElem? (i := 46) rfl)) (hw _ (List.mem_of_getElem? (i := 4) rfl)) (by decide) (by decide)) q225a q225c (g := (mkF m 118 #[.val (.int p0), .val (.int p1), .val (.int p2), .val (.int p3), .val (.int p4), .val (.int (v0_7_l5 p0)), .val (.int (v0_17_l6 p0)), .val (.int (v0_30_l7 p0 p1)), .val (.int (p2 &&& (1073741823 : Int32))), .val (.int (p3 &&& (1073741823 : Int32))), .val (.int (v0_48_s0 p4)), .val (.ref b176), .val (.int (v0_76_l12 p0 p1)), .val (.int (v0_83_l13 p0 p1)), .val (.int (v0_107_l14 p0 p1 p2)), .unset, .unset, .unset, .unset, .unset, .unset, .unset] [(.ref b176)])) rfl (by rw [hml]; rfl) (Steps.refl _) (argsL := []) (rest := []) (lenOf pd_4 rfl) rfl (by show 2 * 0 + _ ≤ _; exact Nat.le_of_eq rfl) (hb hby at_118) (fun _ _ => ⟨rfl, rfl, (by decide : 1 + 0 ≤ _), (by decide : 4 + 0 ≤ _)⟩)
    dsimp only [Pt.U, Pt.locs, Pt.cells, Pt.slots] at X225 l225 y225 z225 st225 hQ225
    subst l225 y225 z225
    obtain ⟨rfl, N225q, e225⟩ := hQ225
    have N225 := Fr.app N222 N225q
    have k226 := fun (t : State) (kk : Steps p.tables e below (T225.setTop (mkF m 121 #[.val (.int p0), .val (.int p1), .val (.int p2), .val (.int p3), .val (.int p4), .val (.int (v0_7_l5 p0)), .val (.int (v0_17_l6 p0)), .val (.int (v0_30_l7 p0 p1)), .val (.int (p2 &&& (1073741823 : Int32))), .val (.int (p3 &&& (1073741823 : Int32))), .val (.int (v0_48_s0 p4)), .val (.ref b176), .val (.int (v0_76_l12 p0 p1)), .val (.int (v0_83_l13 p0 p1)), .val (.int (v0_107_l14 p0 p1 p2)), .unset, .unset, .unset, .unset, .unset, .unset, .unset] [(.int (v5_ret (v0_30_l7 p0 p1) (v0_7_l5 p0)))])) t) => k224 t (st225.trans kk)
    have k227 := fun (t : State) (kk : Steps p.tables e below (T225.setTop (mkF m 125 #[.val (.int p0), .val (.int p1), .val (.int p2), .val (.int p3), .val (.int p4), .val (.int (v0_7_l5 p0)), .val (.int (v0_17_l6 p0)), .val (.int (v0_30_l7 p0 p1)), .val (.int (p2 &&& (1073741823 : Int32))), .val (.int (p3 &&& (1073741823 : Int32))), .val (.int (v0_48_s0 p4)), .val (.ref b176), .val (.int (v0_76_l12 p0 p1)), .val (.int (v0_83_l13 p0 p1)), .val (.int (v0_107_l14 p0 p1 p2)), .val (.int (v0_121_l15 p0 p1)), .unset, .unset, .unset, .unset, .unset, .unset] [(.ref b176)])) t) => k226 t (by
      show Steps p.tables e below (T225.setTop (mkF m 121 #[.val (.int p0), .val (.int p1), .val (.int p2), .val (.int p3), .val (.int p4), .val (.int (v0_7_l5 p0)), .val (.int (v0_17_l6 p0)), .val (.int (v0_30_l7 p0 p1)), .val (.int (p2 &&& (1073741823 : Int32))), .val (.int (p3 &&& (1073741823 : Int32))), .val (.int (v0_48_s0 p4)), .val (.ref b176), .val (.int (v0_76_l12 p0 p1)), .val (.int (v0_83_l13 p0 p1)), .val (.int (v0_107_l14 p0 p1 p2)), .unset, .unset, .unset, .unset, .unset, .unset, .unset] [(.int (v5_ret (v0_30_l7 p0 p1) (v0_7_l5 p0)))])) _
      refine XS.istore X225.here hx rfl (hb hby at_121) rfl (l' := #[.val (.int p0), .val (.int p1), .val (.int p2), .val (.int p3), .val (.int p4), .val (.int (v0_7_l5 p0)), .val (.int (v0_17_l6 p0)), .val (.int (v0_30_l7 p0 p1)), .val (.int (p2 &&& (1073741823 : Int32))), .val (.int (p3 &&& (1073741823 : Int32))), .val (.int (v0_48_s0 p4)), .val (.ref b176), .val (.int (v0_76_l12 p0 p1)), .val (.int (v0_83_l13 p0 p1)), .val (.int (v0_107_l14 p0 p1 p2)), .val (.int (v0_121_l15 p0 p1)), .unset, .unset, .unset, .unset, .unset, .unset]) rfl ?_
      show Steps p.tables e below (T225.setTop (mkF m 123 #[.val (.int p0), .val (.int p1), .val (.int p2), .val (.int p3), .val (.int p4), .val (.int (v0_7_l5 p0)), .val (.int (v0_17_l6 p0)), .val (.int (v0_30_l7 p0 p1)), .val (.int (p2 &&& (1073741823 : Int32))), .val (.int (p3 &&& (1073741823 : Int32))), .val (.int (v0_48_s0 p4)), .val (.ref b176), .val (.int (v0_76_l12 p0 p1)), .val (.int (v0_83_l13 p0 p1)), .val (.int (v0_107_l14 p0 p1 p2)), .val (.int (v0_121_l15 p0 p1)), .unset, .unset, .unset, .unset, .unset, .unset] [])) _
      refine XS.aload X225.here hx rfl (hb hby at_123) rfl rfl ?_
      exact kk)
    have Zz228 : n0 ≤ T222.heap.size := (Nat.le_trans Z0 K222.1)
    obtain ⟨cq228, kq228, q228a, q228b, q228c⟩ := isOf hZ e225 Eq222_0
    obtain ⟨_, _, ⟨T228, L228, k228, n228⟩, -, X228, ⟨Lc228, hQ228, l228, y228, z228⟩, st228⟩ := X225.virtualBack hx (y := (⟨"phrasebook/ZFormat$Layout", "endGroup", "()V"⟩ : MethodName)) (z := (⟨"phrasebook/ZFormat$Layout", "endGroup", "()V"⟩ : MethodName)) hown (mvT hZ (hw _ (List.mem_of_getElem? (i := 52) rfl))) (mvT hZ (hw _ (List.mem_of_getElem? (i := 53) rfl))) (notFace_of_selects (args := #[]) (mvT hZ (hw _ (List.mem_of_getElem? (i := 55) rfl)))) (mvT hZ (hw _ (List.mem_of_getElem? (i := 55) rfl))) (mvT hZ (hw _ (List.mem_of_getElem? (i := 54) rfl))) (by decide) (backOf (W := 0) (rm10 l Z a0 hw [] b176 (v4_f_groupEnded_ra0 (v0_30_l7 p0 p1) (v0_7_l5 p0) (v5_ret (v0_30_l7 p0 p1) (v0_7_l5 p0)) (v4_f_groupEnded_ra0 (v0_30_l7 p0 p1) (v0_7_l5 p0) (9 : Int32) (0 : Int32))) (v0_7_l5 p0) (v5_ret (v0_30_l7 p0 p1) (v0_7_l5 p0)) (((v4_f_codesInGroup_ra0 (v0_30_l7 p0 p1) (v0_7_l5 p0) (v5_ret (v0_30_l7 p0 p1) (v0_7_l5 p0)) (v4_f_groupEnded_ra0 (v0_30_l7 p0 p1) (v0_7_l5 p0) (9 : Int32) (0 : Int32)) (((v4_f_codesInGroup_ra0 (v0_30_l7 p0 p1) (v0_7_l5 p0) (9 : Int32) (0 : Int32) (0 : Int32)) + (p2 &&& (1073741823 : Int32))) % (8 : Int32))) + (p3 &&& (1073741823 : Int32))) % (8 : Int32)) T222.heap n0 Zz228 Eq222_0 Fq222_3 g_b176 Fq222_0 Fq222_1 Fq222_2) hZ (hw _ (List.mem_of_getElem? (i := 56) rfl)) (hw _ (List.mem_of_getElem? (i := 4) rfl)) (by decide) (by decide)) q228a q228c (g := (mkF m 125 #[.val (.int p0), .val (.int p1), .val (.int p2), .val (.int p3), .val (.int p4), .val (.int (v0_7_l5 p0)), .val (.int (v0_17_l6 p0)), .val (.int (v0_30_l7 p0 p1)), .val (.int (p2 &&& (1073741823 : Int32))), .val (.int (p3 &&& (1073741823 : Int32))), .val (.int (v0_48_s0 p4)), .val (.ref b176), .val (.int (v0_76_l12 p0 p1)), .val (.int (v0_83_l13 p0 p1)), .val (.int (v0_107_l14 p0 p1 p2)), .val (.int (v0_121_l15 p0 p1)), .unset, .unset, .unset, .unset, .unset, .unset] [(.ref b176)])) rfl (by rw [hml]; rfl) (Steps.refl _) (argsL := []) (rest := []) (lenOf pd_0 rfl) rfl (by show 2 * 0 + _ ≤ _; exact Nat.le_of_eq rfl) (hb hby at_125) (fun _ _ => ⟨rfl, e225, (by decide : 1 + 0 ≤ _), (by decide : 4 + 0 ≤ _)⟩)
    dsimp only [Pt.U, Pt.locs, Pt.cells, Pt.slots] at X228 l228 y228 z228 st228 hQ228
    subst l228 y228 z228
    obtain ⟨rfl, N228q, Kq228, Eq228_0, Fq228_0, Fq228_1, Fq228_2, Fq228_3⟩ := hQ228
    have K228 : Keep h0 T228.heap [] := K222.trans Kq228 (allS (Or.inr sz_b176) all0)
    have N228 := Fr.app N225 N228q
    have k229 := fun (t : State) (kk : Steps p.tables e below (T228.setTop (mkF m 128 #[.val (.int p0), .val (.int p1), .val (.int p2), .val (.int p3), .val (.int p4), .val (.int (v0_7_l5 p0)), .val (.int (v0_17_l6 p0)), .val (.int (v0_30_l7 p0 p1)), .val (.int (p2 &&& (1073741823 : Int32))), .val (.int (p3 &&& (1073741823 : Int32))), .val (.int (v0_48_s0 p4)), .val (.ref b176), .val (.int (v0_76_l12 p0 p1)), .val (.int (v0_83_l13 p0 p1)), .val (.int (v0_107_l14 p0 p1 p2)), .val (.int (v0_121_l15 p0 p1)), .unset, .unset, .unset, .unset, .unset, .unset] [])) t) => k227 t (st228.trans kk)
    have k230 := fun (t : State) (kk : Steps p.tables e below (T228.setTop (mkF m 132 #[.val (.int p0), .val (.int p1), .val (.int p2), .val (.int p3), .val (.int p4), .val (.int (v0_7_l5 p0)), .val (.int (v0_17_l6 p0)), .val (.int (v0_30_l7 p0 p1)), .val (.int (p2 &&& (1073741823 : Int32))), .val (.int (p3 &&& (1073741823 : Int32))), .val (.int (v0_48_s0 p4)), .val (.ref b176), .val (.int (v0_76_l12 p0 p1)), .val (.int (v0_83_l13 p0 p1)), .val (.int (v0_107_l14 p0 p1 p2)), .val (.int (v0_121_l15 p0 p1)), .unset, .unset, .unset, .unset, .unset, .unset] [(.int (v0_30_l7 p0 p1)), (.ref b176)])) t) => k229 t (by
      show Steps p.tables e below (T228.setTop (mkF m 128 #[.val (.int p0), .val (.int p1), .val (.int p2), .val (.int p3), .val (.int p4), .val (.int (v0_7_l5 p0)), .val (.int (v0_17_l6 p0)), .val (.int (v0_30_l7 p0 p1)), .val (.int (p2 &&& (1073741823 : Int32))), .val (.int (p3 &&& (1073741823 : Int32))), .val (.int (v0_48_s0 p4)), .val (.ref b176), .val (.int (v0_76_l12 p0 p1)), .val (.int (v0_83_l13 p0 p1)), .val (.int (v0_107_l14 p0 p1 p2)), .val (.int (v0_121_l15 p0 p1)), .unset, .unset, .unset, .unset, .unset, .unset] [])) _
      refine XS.aload X228.here hx rfl (hb hby at_128) rfl rfl ?_
      show Steps p.tables e below (T228.setTop (mkF m 130 #[.val (.int p0), .val (.int p1), .val (.int p2), .val (.int p3), .val (.int p4), .val (.int (v0_7_l5 p0)), .val (.int (v0_17_l6 p0)), .val (.int (v0_30_l7 p0 p1)), .val (.int (p2 &&& (1073741823 : Int32))), .val (.int (p3 &&& (1073741823 : Int32))), .val (.int (v0_48_s0 p4)), .val (.ref b176), .val (.int (v0_76_l12 p0 p1)), .val (.int (v0_83_l13 p0 p1)), .val (.int (v0_107_l14 p0 p1 p2)), .val (.int (v0_121_l15 p0 p1)), .unset, .unset, .unset, .unset, .unset, .unset] [(.ref b176)])) _
      refine XS.iload X228.here hx rfl (hb hby at_130) rfl ?_
      exact kk)
    have Zz231 : n0 ≤ T228.heap.size := (Nat.le_trans Z0 K228.1)
    obtain ⟨cq231, kq231, q231a, q231b, q231c⟩ := isOf hZ rfl Eq228_0
    obtain ⟨_, _, ⟨T231, L231, k231, n231⟩, -, X231, ⟨Lc231, hQ231, l231, y231, z231⟩, st231⟩ := X228.virtualBack hx (y := (⟨"phrasebook/ZFormat$Layout", "bitsFor", "(I)I"⟩ : MethodName)) (z := (⟨"phrasebook/ZFormat$Layout", "bitsFor", "(I)I"⟩ : MethodName)) hown (mvT hZ (hw _ (List.mem_of_getElem? (i := 57) rfl))) (mvT hZ (hw _ (List.mem_of_getElem? (i := 58) rfl))) (notFace_of_selects (args := #[]) (mvT hZ (hw _ (List.mem_of_getElem? (i := 60) rfl)))) (mvT hZ (hw _ (List.mem_of_getElem? (i := 60) rfl))) (mvT hZ (hw _ (List.mem_of_getElem? (i := 59) rfl))) (by decide) (backOf (W := 0) (rm11 l Z a0 hw [] b176 (v0_30_l7 p0 p1) (v0_7_l5 p0) (v5_ret (v0_30_l7 p0 p1) (v0_7_l5 p0)) (1 : Int32) (((v4_f_codesInGroup_ra0 (v0_30_l7 p0 p1) (v0_7_l5 p0) (v5_ret (v0_30_l7 p0 p1) (v0_7_l5 p0)) (v4_f_groupEnded_ra0 (v0_30_l7 p0 p1) (v0_7_l5 p0) (9 : Int32) (0 : Int32)) (((v4_f_codesInGroup_ra0 (v0_30_l7 p0 p1) (v0_7_l5 p0) (9 : Int32) (0 : Int32) (0 : Int32)) + (p2 &&& (1073741823 : Int32))) % (8 : Int32))) + (p3 &&& (1073741823 : Int32))) % (8 : Int32)) T228.heap n0 Zz231 Fq228_0 Eq228_0 Fq228_1 Fq228_3 Fq228_2) hZ (hw _ (List.mem_of_getElem? (i := 61) rfl)) (hw _ (List.mem_of_getElem? (i := 4) rfl)) (by decide) (by decide)) q231a q231c (g := (mkF m 132 #[.val (.int p0), .val (.int p1), .val (.int p2), .val (.int p3), .val (.int p4), .val (.int (v0_7_l5 p0)), .val (.int (v0_17_l6 p0)), .val (.int (v0_30_l7 p0 p1)), .val (.int (p2 &&& (1073741823 : Int32))), .val (.int (p3 &&& (1073741823 : Int32))), .val (.int (v0_48_s0 p4)), .val (.ref b176), .val (.int (v0_76_l12 p0 p1)), .val (.int (v0_83_l13 p0 p1)), .val (.int (v0_107_l14 p0 p1 p2)), .val (.int (v0_121_l15 p0 p1)), .unset, .unset, .unset, .unset, .unset, .unset] [(.int (v0_30_l7 p0 p1)), (.ref b176)])) rfl (by rw [hml]; rfl) (Steps.refl _) (argsL := [(.int (v0_30_l7 p0 p1))]) (rest := []) (lenOf pd_1 rfl) rfl (by show 2 * 0 + _ ≤ _; exact Nat.le_of_eq rfl) (hb hby at_132) (fun _ _ => ⟨rfl, rfl, (by decide : 1 + 0 ≤ _), (by decide : 4 + 0 ≤ _)⟩)
    dsimp only [Pt.U, Pt.locs, Pt.cells, Pt.slots] at X231 l231 y231 z231 st231 hQ231
    subst l231 y231 z231
    obtain ⟨rfl, N231q, e231⟩ := hQ231
    have N231 := Fr.app N228 N231q
    have k232 := fun (t : State) (kk : Steps p.tables e below (T231.setTop (mkF m 135 #[.val (.int p0), .val (.int p1), .val (.int p2), .val (.int p3), .val (.int p4), .val (.int (v0_7_l5 p0)), .val (.int (v0_17_l6 p0)), .val (.int (v0_30_l7 p0 p1)), .val (.int (p2 &&& (1073741823 : Int32))), .val (.int (p3 &&& (1073741823 : Int32))), .val (.int (v0_48_s0 p4)), .val (.ref b176), .val (.int (v0_76_l12 p0 p1)), .val (.int (v0_83_l13 p0 p1)), .val (.int (v0_107_l14 p0 p1 p2)), .val (.int (v0_121_l15 p0 p1)), .unset, .unset, .unset, .unset, .unset, .unset] [(.int (v11_ret (v0_30_l7 p0 p1) (v0_7_l5 p0) (v5_ret (v0_30_l7 p0 p1) (v0_7_l5 p0)) (1 : Int32) (((v4_f_codesInGroup_ra0 (v0_30_l7 p0 p1) (v0_7_l5 p0) (v5_ret (v0_30_l7 p0 p1) (v0_7_l5 p0)) (v4_f_groupEnded_ra0 (v0_30_l7 p0 p1) (v0_7_l5 p0) (9 : Int32) (0 : Int32)) (((v4_f_codesInGroup_ra0 (v0_30_l7 p0 p1) (v0_7_l5 p0) (9 : Int32) (0 : Int32) (0 : Int32)) + (p2 &&& (1073741823 : Int32))) % (8 : Int32))) + (p3 &&& (1073741823 : Int32))) % (8 : Int32))))])) t) => k230 t (st231.trans kk)
    have k233 := fun (t : State) (kk : Steps p.tables e below (T231.setTop (mkF m 141 #[.val (.int p0), .val (.int p1), .val (.int p2), .val (.int p3), .val (.int p4), .val (.int (v0_7_l5 p0)), .val (.int (v0_17_l6 p0)), .val (.int (v0_30_l7 p0 p1)), .val (.int (p2 &&& (1073741823 : Int32))), .val (.int (p3 &&& (1073741823 : Int32))), .val (.int (v0_48_s0 p4)), .val (.ref b176), .val (.int (v0_76_l12 p0 p1)), .val (.int (v0_83_l13 p0 p1)), .val (.int (v0_107_l14 p0 p1 p2)), .val (.int (v0_121_l15 p0 p1)), .val (.int (v0_135_l16_1 p0 p1 p2 p3)), .unset, .unset, .unset, .unset, .unset] [(.int (v0_30_l7 p0 p1)), (.ref b176)])) t) => k232 t (by
      show Steps p.tables e below (T231.setTop (mkF m 135 #[.val (.int p0), .val (.int p1), .val (.int p2), .val (.int p3), .val (.int p4), .val (.int (v0_7_l5 p0)), .val (.int (v0_17_l6 p0)), .val (.int (v0_30_l7 p0 p1)), .val (.int (p2 &&& (1073741823 : Int32))), .val (.int (p3 &&& (1073741823 : Int32))), .val (.int (v0_48_s0 p4)), .val (.ref b176), .val (.int (v0_76_l12 p0 p1)), .val (.int (v0_83_l13 p0 p1)), .val (.int (v0_107_l14 p0 p1 p2)), .val (.int (v0_121_l15 p0 p1)), .unset, .unset, .unset, .unset, .unset, .unset] [(.int (v11_ret (v0_30_l7 p0 p1) (v0_7_l5 p0) (v5_ret (v0_30_l7 p0 p1) (v0_7_l5 p0)) (1 : Int32) (((v4_f_codesInGroup_ra0 (v0_30_l7 p0 p1) (v0_7_l5 p0) (v5_ret (v0_30_l7 p0 p1) (v0_7_l5 p0)) (v4_f_groupEnded_ra0 (v0_30_l7 p0 p1) (v0_7_l5 p0) (9 : Int32) (0 : Int32)) (((v4_f_codesInGroup_ra0 (v0_30_l7 p0 p1) (v0_7_l5 p0) (9 : Int32) (0 : Int32) (0 : Int32)) + (p2 &&& (1073741823 : Int32))) % (8 : Int32))) + (p3 &&& (1073741823 : Int32))) % (8 : Int32))))])) _
      refine XS.istore X231.here hx rfl (hb hby at_135) rfl (l' := #[.val (.int p0), .val (.int p1), .val (.int p2), .val (.int p3), .val (.int p4), .val (.int (v0_7_l5 p0)), .val (.int (v0_17_l6 p0)), .val (.int (v0_30_l7 p0 p1)), .val (.int (p2 &&& (1073741823 : Int32))), .val (.int (p3 &&& (1073741823 : Int32))), .val (.int (v0_48_s0 p4)), .val (.ref b176), .val (.int (v0_76_l12 p0 p1)), .val (.int (v0_83_l13 p0 p1)), .val (.int (v0_107_l14 p0 p1 p2)), .val (.int (v0_121_l15 p0 p1)), .val (.int (v0_135_l16_1 p0 p1 p2 p3)), .unset, .unset, .unset, .unset, .unset]) rfl ?_
      show Steps p.tables e below (T231.setTop (mkF m 137 #[.val (.int p0), .val (.int p1), .val (.int p2), .val (.int p3), .val (.int p4), .val (.int (v0_7_l5 p0)), .val (.int (v0_17_l6 p0)), .val (.int (v0_30_l7 p0 p1)), .val (.int (p2 &&& (1073741823 : Int32))), .val (.int (p3 &&& (1073741823 : Int32))), .val (.int (v0_48_s0 p4)), .val (.ref b176), .val (.int (v0_76_l12 p0 p1)), .val (.int (v0_83_l13 p0 p1)), .val (.int (v0_107_l14 p0 p1 p2)), .val (.int (v0_121_l15 p0 p1)), .val (.int (v0_135_l16_1 p0 p1 p2 p3)), .unset, .unset, .unset, .unset, .unset] [])) _
      refine XS.aload X231.here hx rfl (hb hby at_137) rfl rfl ?_
      show Steps p.tables e below (T231.setTop (mkF m 139 #[.val (.int p0), .val (.int p1), .val (.int p2), .val (.int p3), .val (.int p4), .val (.int (v0_7_l5 p0)), .val (.int (v0_17_l6 p0)), .val (.int (v0_30_l7 p0 p1)), .val (.int (p2 &&& (1073741823 : Int32))), .val (.int (p3 &&& (1073741823 : Int32))), .val (.int (v0_48_s0 p4)), .val (.ref b176), .val (.int (v0_76_l12 p0 p1)), .val (.int (v0_83_l13 p0 p1)), .val (.int (v0_107_l14 p0 p1 p2)), .val (.int (v0_121_l15 p0 p1)), .val (.int (v0_135_l16_1 p0 p1 p2 p3)), .unset, .unset, .unset, .unset, .unset] [(.ref b176)])) _
      refine XS.iload X231.here hx rfl (hb hby at_139) rfl ?_
      exact kk)
    have Zz234 : n0 ≤ T228.heap.size := (Nat.le_trans Z0 K228.1)
    obtain ⟨cq234, kq234, q234a, q234b, q234c⟩ := isOf hZ e231 Eq228_0
    obtain ⟨_, _, ⟨T234, L234, k234, n234⟩, -, X234, ⟨Lc234, hQ234, l234, y234, z234⟩, st234⟩ := X231.virtualBack hx (y := (⟨"phrasebook/ZFormat$Layout", "place", "(I)I"⟩ : MethodName)) (z := (⟨"phrasebook/ZFormat$Layout", "place", "(I)I"⟩ : MethodName)) hown (mvT hZ (hw _ (List.mem_of_getElem? (i := 24) rfl))) (mvT hZ (hw _ (List.mem_of_getElem? (i := 25) rfl))) (notFace_of_selects (args := #[]) (mvT hZ (hw _ (List.mem_of_getElem? (i := 27) rfl)))) (mvT hZ (hw _ (List.mem_of_getElem? (i := 27) rfl))) (mvT hZ (hw _ (List.mem_of_getElem? (i := 26) rfl))) (by decide) (backOf (W := 0) (rm4 l Z a0 hw [] b176 (v0_30_l7 p0 p1) (v0_7_l5 p0) (v5_ret (v0_30_l7 p0 p1) (v0_7_l5 p0)) (1 : Int32) (((v4_f_codesInGroup_ra0 (v0_30_l7 p0 p1) (v0_7_l5 p0) (v5_ret (v0_30_l7 p0 p1) (v0_7_l5 p0)) (v4_f_groupEnded_ra0 (v0_30_l7 p0 p1) (v0_7_l5 p0) (9 : Int32) (0 : Int32)) (((v4_f_codesInGroup_ra0 (v0_30_l7 p0 p1) (v0_7_l5 p0) (9 : Int32) (0 : Int32) (0 : Int32)) + (p2 &&& (1073741823 : Int32))) % (8 : Int32))) + (p3 &&& (1073741823 : Int32))) % (8 : Int32)) T228.heap n0 Zz234 Fq228_0 Eq228_0 Fq228_1 Fq228_3 g_b176 Fq228_2) hZ (hw _ (List.mem_of_getElem? (i := 28) rfl)) (hw _ (List.mem_of_getElem? (i := 4) rfl)) (by decide) (by decide)) q234a q234c (g := (mkF m 141 #[.val (.int p0), .val (.int p1), .val (.int p2), .val (.int p3), .val (.int p4), .val (.int (v0_7_l5 p0)), .val (.int (v0_17_l6 p0)), .val (.int (v0_30_l7 p0 p1)), .val (.int (p2 &&& (1073741823 : Int32))), .val (.int (p3 &&& (1073741823 : Int32))), .val (.int (v0_48_s0 p4)), .val (.ref b176), .val (.int (v0_76_l12 p0 p1)), .val (.int (v0_83_l13 p0 p1)), .val (.int (v0_107_l14 p0 p1 p2)), .val (.int (v0_121_l15 p0 p1)), .val (.int (v0_135_l16_1 p0 p1 p2 p3)), .unset, .unset, .unset, .unset, .unset] [(.int (v0_30_l7 p0 p1)), (.ref b176)])) rfl (by rw [hml]; rfl) (Steps.refl _) (argsL := [(.int (v0_30_l7 p0 p1))]) (rest := []) (lenOf pd_1 rfl) rfl (by show 2 * 0 + _ ≤ _; exact Nat.le_of_eq rfl) (hb hby at_141) (fun _ _ => ⟨rfl, e231, (by decide : 1 + 0 ≤ _), (by decide : 4 + 0 ≤ _)⟩)
    dsimp only [Pt.U, Pt.locs, Pt.cells, Pt.slots] at X234 l234 y234 z234 st234 hQ234
    subst l234 y234 z234
    obtain ⟨rfl, N234q, Kq234, Eq234_0, Fq234_0, Fq234_1, Fq234_2, Fq234_3⟩ := hQ234
    have K234 : Keep h0 T234.heap [] := K228.trans Kq234 (allS (Or.inr sz_b176) all0)
    have N234 := Fr.app N231 N234q
    have k235 := fun (t : State) (kk : Steps p.tables e below (T234.setTop (mkF m 144 #[.val (.int p0), .val (.int p1), .val (.int p2), .val (.int p3), .val (.int p4), .val (.int (v0_7_l5 p0)), .val (.int (v0_17_l6 p0)), .val (.int (v0_30_l7 p0 p1)), .val (.int (p2 &&& (1073741823 : Int32))), .val (.int (p3 &&& (1073741823 : Int32))), .val (.int (v0_48_s0 p4)), .val (.ref b176), .val (.int (v0_76_l12 p0 p1)), .val (.int (v0_83_l13 p0 p1)), .val (.int (v0_107_l14 p0 p1 p2)), .val (.int (v0_121_l15 p0 p1)), .val (.int (v0_135_l16_1 p0 p1 p2 p3)), .unset, .unset, .unset, .unset, .unset] [(.int (v4_ret (v0_30_l7 p0 p1) (v0_7_l5 p0) (v5_ret (v0_30_l7 p0 p1) (v0_7_l5 p0)) (1 : Int32) (((v4_f_codesInGroup_ra0 (v0_30_l7 p0 p1) (v0_7_l5 p0) (v5_ret (v0_30_l7 p0 p1) (v0_7_l5 p0)) (v4_f_groupEnded_ra0 (v0_30_l7 p0 p1) (v0_7_l5 p0) (9 : Int32) (0 : Int32)) (((v4_f_codesInGroup_ra0 (v0_30_l7 p0 p1) (v0_7_l5 p0) (9 : Int32) (0 : Int32) (0 : Int32)) + (p2 &&& (1073741823 : Int32))) % (8 : Int32))) + (p3 &&& (1073741823 : Int32))) % (8 : Int32))))])) t) => k233 t (st234.trans kk)
    have k248 := fun (t : State) (kk : Steps p.tables e below (T234.setTop (mkF m 236 #[.val (.int p0), .val (.int p1), .val (.int p2), .val (.int p3), .val (.int p4), .val (.int (v0_7_l5 p0)), .val (.int (v0_17_l6 p0)), .val (.int (v0_30_l7 p0 p1)), .val (.int (p2 &&& (1073741823 : Int32))), .val (.int (p3 &&& (1073741823 : Int32))), .val (.int (v0_48_s0 p4)), .val (.ref b176), .val (.int (v0_76_l12 p0 p1)), .val (.int (v0_83_l13 p0 p1)), .val (.int (v0_107_l14 p0 p1 p2)), .val (.int (v0_121_l15 p0 p1)), .val (.int (v0_135_l16_1 p0 p1 p2 p3)), .val (.int (v0_144_l17_1 p0 p1 p2 p3)), .val (.long (v0_167_l18_1 p2 p3)), .second, .val (.int (v0_176_l20_1 p2 p3)), .val (.int (v0_180_s0_1 p0 p1 p2 p3))] [(.int (v0_199_s0_1 p0 p1 p2 p3))])) t) => k235 t (by
      show Steps p.tables e below (T234.setTop (mkF m 144 #[.val (.int p0), .val (.int p1), .val (.int p2), .val (.int p3), .val (.int p4), .val (.int (v0_7_l5 p0)), .val (.int (v0_17_l6 p0)), .val (.int (v0_30_l7 p0 p1)), .val (.int (p2 &&& (1073741823 : Int32))), .val (.int (p3 &&& (1073741823 : Int32))), .val (.int (v0_48_s0 p4)), .val (.ref b176), .val (.int (v0_76_l12 p0 p1)), .val (.int (v0_83_l13 p0 p1)), .val (.int (v0_107_l14 p0 p1 p2)), .val (.int (v0_121_l15 p0 p1)), .val (.int (v0_135_l16_1 p0 p1 p2 p3)), .unset, .unset, .unset, .unset, .unset] [(.int (v4_ret (v0_30_l7 p0 p1) (v0_7_l5 p0) (v5_ret (v0_30_l7 p0 p1) (v0_7_l5 p0)) (1 : Int32) (((v4_f_codesInGroup_ra0 (v0_30_l7 p0 p1) (v0_7_l5 p0) (v5_ret (v0_30_l7 p0 p1) (v0_7_l5 p0)) (v4_f_groupEnded_ra0 (v0_30_l7 p0 p1) (v0_7_l5 p0) (9 : Int32) (0 : Int32)) (((v4_f_codesInGroup_ra0 (v0_30_l7 p0 p1) (v0_7_l5 p0) (9 : Int32) (0 : Int32) (0 : Int32)) + (p2 &&& (1073741823 : Int32))) % (8 : Int32))) + (p3 &&& (1073741823 : Int32))) % (8 : Int32))))])) _
      refine XS.istore X234.here hx rfl (hb hby at_144) rfl (l' := #[.val (.int p0), .val (.int p1), .val (.int p2), .val (.int p3), .val (.int p4), .val (.int (v0_7_l5 p0)), .val (.int (v0_17_l6 p0)), .val (.int (v0_30_l7 p0 p1)), .val (.int (p2 &&& (1073741823 : Int32))), .val (.int (p3 &&& (1073741823 : Int32))), .val (.int (v0_48_s0 p4)), .val (.ref b176), .val (.int (v0_76_l12 p0 p1)), .val (.int (v0_83_l13 p0 p1)), .val (.int (v0_107_l14 p0 p1 p2)), .val (.int (v0_121_l15 p0 p1)), .val (.int (v0_135_l16_1 p0 p1 p2 p3)), .val (.int (v0_144_l17_1 p0 p1 p2 p3)), .unset, .unset, .unset, .unset]) rfl ?_
      show Steps p.tables e below (T234.setTop (mkF m 146 #[.val (.int p0), .val (.int p1), .val (.int p2), .val (.int p3), .val (.int p4), .val (.int (v0_7_l5 p0)), .val (.int (v0_17_l6 p0)), .val (.int (v0_30_l7 p0 p1)), .val (.int (p2 &&& (1073741823 : Int32))), .val (.int (p3 &&& (1073741823 : Int32))), .val (.int (v0_48_s0 p4)), .val (.ref b176), .val (.int (v0_76_l12 p0 p1)), .val (.int (v0_83_l13 p0 p1)), .val (.int (v0_107_l14 p0 p1 p2)), .val (.int (v0_121_l15 p0 p1)), .val (.int (v0_135_l16_1 p0 p1 p2 p3)), .val (.int (v0_144_l17_1 p0 p1 p2 p3)), .unset, .unset, .unset, .unset] [])) _
      refine XS.lconst X234.here hx rfl (hb hby at_146) ?_
      show Steps p.tables e below (T234.setTop (mkF m 147 #[.val (.int p0), .val (.int p1), .val (.int p2), .val (.int p3), .val (.int p4), .val (.int (v0_7_l5 p0)), .val (.int (v0_17_l6 p0)), .val (.int (v0_30_l7 p0 p1)), .val (.int (p2 &&& (1073741823 : Int32))), .val (.int (p3 &&& (1073741823 : Int32))), .val (.int (v0_48_s0 p4)), .val (.ref b176), .val (.int (v0_76_l12 p0 p1)), .val (.int (v0_83_l13 p0 p1)), .val (.int (v0_107_l14 p0 p1 p2)), .val (.int (v0_121_l15 p0 p1)), .val (.int (v0_135_l16_1 p0 p1 p2 p3)), .val (.int (v0_144_l17_1 p0 p1 p2 p3)), .unset, .unset, .unset, .unset] [(.long (1 : Int64))])) _
      refine XS.iload X234.here hx rfl (hb hby at_147) rfl ?_
      show Steps p.tables e below (T234.setTop (mkF m 149 #[.val (.int p0), .val (.int p1), .val (.int p2), .val (.int p3), .val (.int p4), .val (.int (v0_7_l5 p0)), .val (.int (v0_17_l6 p0)), .val (.int (v0_30_l7 p0 p1)), .val (.int (p2 &&& (1073741823 : Int32))), .val (.int (p3 &&& (1073741823 : Int32))), .val (.int (v0_48_s0 p4)), .val (.ref b176), .val (.int (v0_76_l12 p0 p1)), .val (.int (v0_83_l13 p0 p1)), .val (.int (v0_107_l14 p0 p1 p2)), .val (.int (v0_121_l15 p0 p1)), .val (.int (v0_135_l16_1 p0 p1 p2 p3)), .val (.int (v0_144_l17_1 p0 p1 p2 p3)), .unset, .unset, .unset, .unset] [(.int (p2 &&& (1073741823 : Int32))), (.long (1 : Int64))])) _
      refine XS.i2l X234.here hx rfl (hb hby at_149) rfl ?_
      show Steps p.tables e below (T234.setTop (mkF m 150 #[.val (.int p0), .val (.int p1), .val (.int p2), .val (.int p3), .val (.int p4), .val (.int (v0_7_l5 p0)), .val (.int (v0_17_l6 p0)), .val (.int (v0_30_l7 p0 p1)), .val (.int (p2 &&& (1073741823 : Int32))), .val (.int (p3 &&& (1073741823 : Int32))), .val (.int (v0_48_s0 p4)), .val (.ref b176), .val (.int (v0_76_l12 p0 p1)), .val (.int (v0_83_l13 p0 p1)), .val (.int (v0_107_l14 p0 p1 p2)), .val (.int (v0_121_l15 p0 p1)), .val (.int (v0_135_l16_1 p0 p1 p2 p3)), .val (.int (v0_144_l17_1 p0 p1 p2 p3)), .unset, .unset, .unset, .unset] [(.long ((p2 &&& (1073741823 : Int32)).toInt64)), (.long (1 : Int64))])) _
      refine XS.ladd X234.here hx rfl (hb hby at_150) rfl ?_
      show Steps p.tables e below (T234.setTop (mkF m 151 #[.val (.int p0), .val (.int p1), .val (.int p2), .val (.int p3), .val (.int p4), .val (.int (v0_7_l5 p0)), .val (.int (v0_17_l6 p0)), .val (.int (v0_30_l7 p0 p1)), .val (.int (p2 &&& (1073741823 : Int32))), .val (.int (p3 &&& (1073741823 : Int32))), .val (.int (v0_48_s0 p4)), .val (.ref b176), .val (.int (v0_76_l12 p0 p1)), .val (.int (v0_83_l13 p0 p1)), .val (.int (v0_107_l14 p0 p1 p2)), .val (.int (v0_121_l15 p0 p1)), .val (.int (v0_135_l16_1 p0 p1 p2 p3)), .val (.int (v0_144_l17_1 p0 p1 p2 p3)), .unset, .unset, .unset, .unset] [(.long ((1 : Int64) + ((p2 &&& (1073741823 : Int32)).toInt64)))])) _
      refine XS.iload X234.here hx rfl (hb hby at_151) rfl ?_
      show Steps p.tables e below (T234.setTop (mkF m 153 #[.val (.int p0), .val (.int p1), .val (.int p2), .val (.int p3), .val (.int p4), .val (.int (v0_7_l5 p0)), .val (.int (v0_17_l6 p0)), .val (.int (v0_30_l7 p0 p1)), .val (.int (p2 &&& (1073741823 : Int32))), .val (.int (p3 &&& (1073741823 : Int32))), .val (.int (v0_48_s0 p4)), .val (.ref b176), .val (.int (v0_76_l12 p0 p1)), .val (.int (v0_83_l13 p0 p1)), .val (.int (v0_107_l14 p0 p1 p2)), .val (.int (v0_121_l15 p0 p1)), .val (.int (v0_135_l16_1 p0 p1 p2 p3)), .val (.int (v0_144_l17_1 p0 p1 p2 p3)), .unset, .unset, .unset, .unset] [(.int (v0_48_s0 p4)), (.long ((1 : Int64) + ((p2 &&& (1073741823 : Int32)).toInt64)))])) _
      refine XS.ifNo X234.here hx rfl (hb hby at_153) rfl ((if0 _ _).trans (feq hc97_191).1) ?_
      show Steps p.tables e below (T234.setTop (mkF m 156 #[.val (.int p0), .val (.int p1), .val (.int p2), .val (.int p3), .val (.int p4), .val (.int (v0_7_l5 p0)), .val (.int (v0_17_l6 p0)), .val (.int (v0_30_l7 p0 p1)), .val (.int (p2 &&& (1073741823 : Int32))), .val (.int (p3 &&& (1073741823 : Int32))), .val (.int (v0_48_s0 p4)), .val (.ref b176), .val (.int (v0_76_l12 p0 p1)), .val (.int (v0_83_l13 p0 p1)), .val (.int (v0_107_l14 p0 p1 p2)), .val (.int (v0_121_l15 p0 p1)), .val (.int (v0_135_l16_1 p0 p1 p2 p3)), .val (.int (v0_144_l17_1 p0 p1 p2 p3)), .unset, .unset, .unset, .unset] [(.long ((1 : Int64) + ((p2 &&& (1073741823 : Int32)).toInt64)))])) _
      refine XS.iconst X234.here hx rfl (hb hby at_156) ?_
      show Steps p.tables e below (T234.setTop (mkF m 157 #[.val (.int p0), .val (.int p1), .val (.int p2), .val (.int p3), .val (.int p4), .val (.int (v0_7_l5 p0)), .val (.int (v0_17_l6 p0)), .val (.int (v0_30_l7 p0 p1)), .val (.int (p2 &&& (1073741823 : Int32))), .val (.int (p3 &&& (1073741823 : Int32))), .val (.int (v0_48_s0 p4)), .val (.ref b176), .val (.int (v0_76_l12 p0 p1)), .val (.int (v0_83_l13 p0 p1)), .val (.int (v0_107_l14 p0 p1 p2)), .val (.int (v0_121_l15 p0 p1)), .val (.int (v0_135_l16_1 p0 p1 p2 p3)), .val (.int (v0_144_l17_1 p0 p1 p2 p3)), .unset, .unset, .unset, .unset] [(.int (1 : Int32)), (.long ((1 : Int64) + ((p2 &&& (1073741823 : Int32)).toInt64)))])) _
      refine XS.goto X234.here hx rfl (pc0 := 157) (pc' := 161) rfl (hb hby at_157) (by decide) (by decide) ?_
      show Steps p.tables e below (T234.setTop (mkF m 161 #[.val (.int p0), .val (.int p1), .val (.int p2), .val (.int p3), .val (.int p4), .val (.int (v0_7_l5 p0)), .val (.int (v0_17_l6 p0)), .val (.int (v0_30_l7 p0 p1)), .val (.int (p2 &&& (1073741823 : Int32))), .val (.int (p3 &&& (1073741823 : Int32))), .val (.int (v0_48_s0 p4)), .val (.ref b176), .val (.int (v0_76_l12 p0 p1)), .val (.int (v0_83_l13 p0 p1)), .val (.int (v0_107_l14 p0 p1 p2)), .val (.int (v0_121_l15 p0 p1)), .val (.int (v0_135_l16_1 p0 p1 p2 p3)), .val (.int (v0_144_l17_1 p0 p1 p2 p3)), .unset, .unset, .unset, .unset] [(.int (1 : Int32)), (.long ((1 : Int64) + ((p2 &&& (1073741823 : Int32)).toInt64)))])) _
      refine XS.i2l X234.here hx rfl (hb hby at_161) rfl ?_
      show Steps p.tables e below (T234.setTop (mkF m 162 #[.val (.int p0), .val (.int p1), .val (.int p2), .val (.int p3), .val (.int p4), .val (.int (v0_7_l5 p0)), .val (.int (v0_17_l6 p0)), .val (.int (v0_30_l7 p0 p1)), .val (.int (p2 &&& (1073741823 : Int32))), .val (.int (p3 &&& (1073741823 : Int32))), .val (.int (v0_48_s0 p4)), .val (.ref b176), .val (.int (v0_76_l12 p0 p1)), .val (.int (v0_83_l13 p0 p1)), .val (.int (v0_107_l14 p0 p1 p2)), .val (.int (v0_121_l15 p0 p1)), .val (.int (v0_135_l16_1 p0 p1 p2 p3)), .val (.int (v0_144_l17_1 p0 p1 p2 p3)), .unset, .unset, .unset, .unset] [(.long ((1 : Int32).toInt64)), (.long ((1 : Int64) + ((p2 &&& (1073741823 : Int32)).toInt64)))])) _
      refine XS.ladd X234.here hx rfl (hb hby at_162) rfl ?_
      show Steps p.tables e below (T234.setTop (mkF m 163 #[.val (.int p0), .val (.int p1), .val (.int p2), .val (.int p3), .val (.int p4), .val (.int (v0_7_l5 p0)), .val (.int (v0_17_l6 p0)), .val (.int (v0_30_l7 p0 p1)), .val (.int (p2 &&& (1073741823 : Int32))), .val (.int (p3 &&& (1073741823 : Int32))), .val (.int (v0_48_s0 p4)), .val (.ref b176), .val (.int (v0_76_l12 p0 p1)), .val (.int (v0_83_l13 p0 p1)), .val (.int (v0_107_l14 p0 p1 p2)), .val (.int (v0_121_l15 p0 p1)), .val (.int (v0_135_l16_1 p0 p1 p2 p3)), .val (.int (v0_144_l17_1 p0 p1 p2 p3)), .unset, .unset, .unset, .unset] [(.long (((1 : Int64) + ((p2 &&& (1073741823 : Int32)).toInt64)) + ((1 : Int32).toInt64)))])) _
      refine XS.iload X234.here hx rfl (hb hby at_163) rfl ?_
      show Steps p.tables e below (T234.setTop (mkF m 165 #[.val (.int p0), .val (.int p1), .val (.int p2), .val (.int p3), .val (.int p4), .val (.int (v0_7_l5 p0)), .val (.int (v0_17_l6 p0)), .val (.int (v0_30_l7 p0 p1)), .val (.int (p2 &&& (1073741823 : Int32))), .val (.int (p3 &&& (1073741823 : Int32))), .val (.int (v0_48_s0 p4)), .val (.ref b176), .val (.int (v0_76_l12 p0 p1)), .val (.int (v0_83_l13 p0 p1)), .val (.int (v0_107_l14 p0 p1 p2)), .val (.int (v0_121_l15 p0 p1)), .val (.int (v0_135_l16_1 p0 p1 p2 p3)), .val (.int (v0_144_l17_1 p0 p1 p2 p3)), .unset, .unset, .unset, .unset] [(.int (p3 &&& (1073741823 : Int32))), (.long (((1 : Int64) + ((p2 &&& (1073741823 : Int32)).toInt64)) + ((1 : Int32).toInt64)))])) _
      refine XS.i2l X234.here hx rfl (hb hby at_165) rfl ?_
      show Steps p.tables e below (T234.setTop (mkF m 166 #[.val (.int p0), .val (.int p1), .val (.int p2), .val (.int p3), .val (.int p4), .val (.int (v0_7_l5 p0)), .val (.int (v0_17_l6 p0)), .val (.int (v0_30_l7 p0 p1)), .val (.int (p2 &&& (1073741823 : Int32))), .val (.int (p3 &&& (1073741823 : Int32))), .val (.int (v0_48_s0 p4)), .val (.ref b176), .val (.int (v0_76_l12 p0 p1)), .val (.int (v0_83_l13 p0 p1)), .val (.int (v0_107_l14 p0 p1 p2)), .val (.int (v0_121_l15 p0 p1)), .val (.int (v0_135_l16_1 p0 p1 p2 p3)), .val (.int (v0_144_l17_1 p0 p1 p2 p3)), .unset, .unset, .unset, .unset] [(.long ((p3 &&& (1073741823 : Int32)).toInt64)), (.long (((1 : Int64) + ((p2 &&& (1073741823 : Int32)).toInt64)) + ((1 : Int32).toInt64)))])) _
      refine XS.ladd X234.here hx rfl (hb hby at_166) rfl ?_
      show Steps p.tables e below (T234.setTop (mkF m 167 #[.val (.int p0), .val (.int p1), .val (.int p2), .val (.int p3), .val (.int p4), .val (.int (v0_7_l5 p0)), .val (.int (v0_17_l6 p0)), .val (.int (v0_30_l7 p0 p1)), .val (.int (p2 &&& (1073741823 : Int32))), .val (.int (p3 &&& (1073741823 : Int32))), .val (.int (v0_48_s0 p4)), .val (.ref b176), .val (.int (v0_76_l12 p0 p1)), .val (.int (v0_83_l13 p0 p1)), .val (.int (v0_107_l14 p0 p1 p2)), .val (.int (v0_121_l15 p0 p1)), .val (.int (v0_135_l16_1 p0 p1 p2 p3)), .val (.int (v0_144_l17_1 p0 p1 p2 p3)), .unset, .unset, .unset, .unset] [(.long ((((1 : Int64) + ((p2 &&& (1073741823 : Int32)).toInt64)) + ((1 : Int32).toInt64)) + ((p3 &&& (1073741823 : Int32)).toInt64)))])) _
      refine XS.lstore X234.here hx rfl (hb hby at_167) rfl (l' := #[.val (.int p0), .val (.int p1), .val (.int p2), .val (.int p3), .val (.int p4), .val (.int (v0_7_l5 p0)), .val (.int (v0_17_l6 p0)), .val (.int (v0_30_l7 p0 p1)), .val (.int (p2 &&& (1073741823 : Int32))), .val (.int (p3 &&& (1073741823 : Int32))), .val (.int (v0_48_s0 p4)), .val (.ref b176), .val (.int (v0_76_l12 p0 p1)), .val (.int (v0_83_l13 p0 p1)), .val (.int (v0_107_l14 p0 p1 p2)), .val (.int (v0_121_l15 p0 p1)), .val (.int (v0_135_l16_1 p0 p1 p2 p3)), .val (.int (v0_144_l17_1 p0 p1 p2 p3)), .val (.long (v0_167_l18_1 p2 p3)), .second, .unset, .unset]) rfl ?_
      show Steps p.tables e below (T234.setTop (mkF m 169 #[.val (.int p0), .val (.int p1), .val (.int p2), .val (.int p3), .val (.int p4), .val (.int (v0_7_l5 p0)), .val (.int (v0_17_l6 p0)), .val (.int (v0_30_l7 p0 p1)), .val (.int (p2 &&& (1073741823 : Int32))), .val (.int (p3 &&& (1073741823 : Int32))), .val (.int (v0_48_s0 p4)), .val (.ref b176), .val (.int (v0_76_l12 p0 p1)), .val (.int (v0_83_l13 p0 p1)), .val (.int (v0_107_l14 p0 p1 p2)), .val (.int (v0_121_l15 p0 p1)), .val (.int (v0_135_l16_1 p0 p1 p2 p3)), .val (.int (v0_144_l17_1 p0 p1 p2 p3)), .val (.long (v0_167_l18_1 p2 p3)), .second, .unset, .unset] [])) _
      refine XS.lload X234.here hx rfl (hb hby at_169) rfl ?_
      show Steps p.tables e below (T234.setTop (mkF m 171 #[.val (.int p0), .val (.int p1), .val (.int p2), .val (.int p3), .val (.int p4), .val (.int (v0_7_l5 p0)), .val (.int (v0_17_l6 p0)), .val (.int (v0_30_l7 p0 p1)), .val (.int (p2 &&& (1073741823 : Int32))), .val (.int (p3 &&& (1073741823 : Int32))), .val (.int (v0_48_s0 p4)), .val (.ref b176), .val (.int (v0_76_l12 p0 p1)), .val (.int (v0_83_l13 p0 p1)), .val (.int (v0_107_l14 p0 p1 p2)), .val (.int (v0_121_l15 p0 p1)), .val (.int (v0_135_l16_1 p0 p1 p2 p3)), .val (.int (v0_144_l17_1 p0 p1 p2 p3)), .val (.long (v0_167_l18_1 p2 p3)), .second, .unset, .unset] [(.long (v0_167_l18_1 p2 p3))])) _
      refine X234.ldc2Long hx hown (mvT hZ (hw _ (List.mem_of_getElem? (i := 66) rfl))) (g := (mkF m 171 #[.val (.int p0), .val (.int p1), .val (.int p2), .val (.int p3), .val (.int p4), .val (.int (v0_7_l5 p0)), .val (.int (v0_17_l6 p0)), .val (.int (v0_30_l7 p0 p1)), .val (.int (p2 &&& (1073741823 : Int32))), .val (.int (p3 &&& (1073741823 : Int32))), .val (.int (v0_48_s0 p4)), .val (.ref b176), .val (.int (v0_76_l12 p0 p1)), .val (.int (v0_83_l13 p0 p1)), .val (.int (v0_107_l14 p0 p1 p2)), .val (.int (v0_121_l15 p0 p1)), .val (.int (v0_135_l16_1 p0 p1 p2 p3)), .val (.int (v0_144_l17_1 p0 p1 p2 p3)), .val (.long (v0_167_l18_1 p2 p3)), .second, .unset, .unset] [(.long (v0_167_l18_1 p2 p3))])) rfl (hb hby at_171) _ ?_
      show Steps p.tables e below (T234.setTop (mkF m 174 #[.val (.int p0), .val (.int p1), .val (.int p2), .val (.int p3), .val (.int p4), .val (.int (v0_7_l5 p0)), .val (.int (v0_17_l6 p0)), .val (.int (v0_30_l7 p0 p1)), .val (.int (p2 &&& (1073741823 : Int32))), .val (.int (p3 &&& (1073741823 : Int32))), .val (.int (v0_48_s0 p4)), .val (.ref b176), .val (.int (v0_76_l12 p0 p1)), .val (.int (v0_83_l13 p0 p1)), .val (.int (v0_107_l14 p0 p1 p2)), .val (.int (v0_121_l15 p0 p1)), .val (.int (v0_135_l16_1 p0 p1 p2 p3)), .val (.int (v0_144_l17_1 p0 p1 p2 p3)), .val (.long (v0_167_l18_1 p2 p3)), .second, .unset, .unset] [(.long (8 : Int64)), (.long (v0_167_l18_1 p2 p3))])) _
      refine own_lremM X234 hx rfl (hb hby at_174) rfl (by decide) ?_
      show Steps p.tables e below (T234.setTop (mkF m 175 #[.val (.int p0), .val (.int p1), .val (.int p2), .val (.int p3), .val (.int p4), .val (.int (v0_7_l5 p0)), .val (.int (v0_17_l6 p0)), .val (.int (v0_30_l7 p0 p1)), .val (.int (p2 &&& (1073741823 : Int32))), .val (.int (p3 &&& (1073741823 : Int32))), .val (.int (v0_48_s0 p4)), .val (.ref b176), .val (.int (v0_76_l12 p0 p1)), .val (.int (v0_83_l13 p0 p1)), .val (.int (v0_107_l14 p0 p1 p2)), .val (.int (v0_121_l15 p0 p1)), .val (.int (v0_135_l16_1 p0 p1 p2 p3)), .val (.int (v0_144_l17_1 p0 p1 p2 p3)), .val (.long (v0_167_l18_1 p2 p3)), .second, .unset, .unset] [(.long ((v0_167_l18_1 p2 p3) % (8 : Int64)))])) _
      refine XS.l2i X234.here hx rfl (hb hby at_175) rfl ?_
      show Steps p.tables e below (T234.setTop (mkF m 176 #[.val (.int p0), .val (.int p1), .val (.int p2), .val (.int p3), .val (.int p4), .val (.int (v0_7_l5 p0)), .val (.int (v0_17_l6 p0)), .val (.int (v0_30_l7 p0 p1)), .val (.int (p2 &&& (1073741823 : Int32))), .val (.int (p3 &&& (1073741823 : Int32))), .val (.int (v0_48_s0 p4)), .val (.ref b176), .val (.int (v0_76_l12 p0 p1)), .val (.int (v0_83_l13 p0 p1)), .val (.int (v0_107_l14 p0 p1 p2)), .val (.int (v0_121_l15 p0 p1)), .val (.int (v0_135_l16_1 p0 p1 p2 p3)), .val (.int (v0_144_l17_1 p0 p1 p2 p3)), .val (.long (v0_167_l18_1 p2 p3)), .second, .unset, .unset] [(.int (((v0_167_l18_1 p2 p3) % (8 : Int64)).toInt32))])) _
      refine XS.istore X234.here hx rfl (hb hby at_176) rfl (l' := #[.val (.int p0), .val (.int p1), .val (.int p2), .val (.int p3), .val (.int p4), .val (.int (v0_7_l5 p0)), .val (.int (v0_17_l6 p0)), .val (.int (v0_30_l7 p0 p1)), .val (.int (p2 &&& (1073741823 : Int32))), .val (.int (p3 &&& (1073741823 : Int32))), .val (.int (v0_48_s0 p4)), .val (.ref b176), .val (.int (v0_76_l12 p0 p1)), .val (.int (v0_83_l13 p0 p1)), .val (.int (v0_107_l14 p0 p1 p2)), .val (.int (v0_121_l15 p0 p1)), .val (.int (v0_135_l16_1 p0 p1 p2 p3)), .val (.int (v0_144_l17_1 p0 p1 p2 p3)), .val (.long (v0_167_l18_1 p2 p3)), .second, .val (.int (v0_176_l20_1 p2 p3)), .unset]) rfl ?_
      show Steps p.tables e below (T234.setTop (mkF m 178 #[.val (.int p0), .val (.int p1), .val (.int p2), .val (.int p3), .val (.int p4), .val (.int (v0_7_l5 p0)), .val (.int (v0_17_l6 p0)), .val (.int (v0_30_l7 p0 p1)), .val (.int (p2 &&& (1073741823 : Int32))), .val (.int (p3 &&& (1073741823 : Int32))), .val (.int (v0_48_s0 p4)), .val (.ref b176), .val (.int (v0_76_l12 p0 p1)), .val (.int (v0_83_l13 p0 p1)), .val (.int (v0_107_l14 p0 p1 p2)), .val (.int (v0_121_l15 p0 p1)), .val (.int (v0_135_l16_1 p0 p1 p2 p3)), .val (.int (v0_144_l17_1 p0 p1 p2 p3)), .val (.long (v0_167_l18_1 p2 p3)), .second, .val (.int (v0_176_l20_1 p2 p3)), .unset] [])) _
      refine XS.iload X234.here hx rfl (hb hby at_178) rfl ?_
      suffices k237 : Steps p.tables e below (T234.setTop (mkF m 195 #[.val (.int p0), .val (.int p1), .val (.int p2), .val (.int p3), .val (.int p4), .val (.int (v0_7_l5 p0)), .val (.int (v0_17_l6 p0)), .val (.int (v0_30_l7 p0 p1)), .val (.int (p2 &&& (1073741823 : Int32))), .val (.int (p3 &&& (1073741823 : Int32))), .val (.int (v0_48_s0 p4)), .val (.ref b176), .val (.int (v0_76_l12 p0 p1)), .val (.int (v0_83_l13 p0 p1)), .val (.int (v0_107_l14 p0 p1 p2)), .val (.int (v0_121_l15 p0 p1)), .val (.int (v0_135_l16_1 p0 p1 p2 p3)), .val (.int (v0_144_l17_1 p0 p1 p2 p3)), .val (.long (v0_167_l18_1 p2 p3)), .second, .val (.int (v0_176_l20_1 p2 p3)), .unset] [(.int (v0_180_s0_1 p0 p1 p2 p3))])) t by
        by_cases hc180_236 : (v0_176_l20_1 p2 p3) = (0 : Int32)
        · rw [(show (v0_180_s0_1 p0 p1 p2 p3) = (0 : Int32) from if_pos hc180_236)] at k237
          show Steps p.tables e below (T234.setTop (mkF m 180 #[.val (.int p0), .val (.int p1), .val (.int p2), .val (.int p3), .val (.int p4), .val (.int (v0_7_l5 p0)), .val (.int (v0_17_l6 p0)), .val (.int (v0_30_l7 p0 p1)), .val (.int (p2 &&& (1073741823 : Int32))), .val (.int (p3 &&& (1073741823 : Int32))), .val (.int (v0_48_s0 p4)), .val (.ref b176), .val (.int (v0_76_l12 p0 p1)), .val (.int (v0_83_l13 p0 p1)), .val (.int (v0_107_l14 p0 p1 p2)), .val (.int (v0_121_l15 p0 p1)), .val (.int (v0_135_l16_1 p0 p1 p2 p3)), .val (.int (v0_144_l17_1 p0 p1 p2 p3)), .val (.long (v0_167_l18_1 p2 p3)), .second, .val (.int (v0_176_l20_1 p2 p3)), .unset] [(.int (v0_176_l20_1 p2 p3))])) _
          refine XS.ifNo X234.here hx rfl (hb hby at_180) rfl ((if0 _ _).trans (teq hc180_236).2) ?_
          show Steps p.tables e below (T234.setTop (mkF m 183 #[.val (.int p0), .val (.int p1), .val (.int p2), .val (.int p3), .val (.int p4), .val (.int (v0_7_l5 p0)), .val (.int (v0_17_l6 p0)), .val (.int (v0_30_l7 p0 p1)), .val (.int (p2 &&& (1073741823 : Int32))), .val (.int (p3 &&& (1073741823 : Int32))), .val (.int (v0_48_s0 p4)), .val (.ref b176), .val (.int (v0_76_l12 p0 p1)), .val (.int (v0_83_l13 p0 p1)), .val (.int (v0_107_l14 p0 p1 p2)), .val (.int (v0_121_l15 p0 p1)), .val (.int (v0_135_l16_1 p0 p1 p2 p3)), .val (.int (v0_144_l17_1 p0 p1 p2 p3)), .val (.long (v0_167_l18_1 p2 p3)), .second, .val (.int (v0_176_l20_1 p2 p3)), .unset] [])) _
          refine XS.iconst X234.here hx rfl (hb hby at_183) ?_
          show Steps p.tables e below (T234.setTop (mkF m 184 #[.val (.int p0), .val (.int p1), .val (.int p2), .val (.int p3), .val (.int p4), .val (.int (v0_7_l5 p0)), .val (.int (v0_17_l6 p0)), .val (.int (v0_30_l7 p0 p1)), .val (.int (p2 &&& (1073741823 : Int32))), .val (.int (p3 &&& (1073741823 : Int32))), .val (.int (v0_48_s0 p4)), .val (.ref b176), .val (.int (v0_76_l12 p0 p1)), .val (.int (v0_83_l13 p0 p1)), .val (.int (v0_107_l14 p0 p1 p2)), .val (.int (v0_121_l15 p0 p1)), .val (.int (v0_135_l16_1 p0 p1 p2 p3)), .val (.int (v0_144_l17_1 p0 p1 p2 p3)), .val (.long (v0_167_l18_1 p2 p3)), .second, .val (.int (v0_176_l20_1 p2 p3)), .unset] [(.int (0 : Int32))])) _
          refine XS.goto X234.here hx rfl (pc0 := 184) (pc' := 195) rfl (hb hby at_184) (by decide) (by decide) ?_
          exact k237
        · rw [(show (v0_180_s0_1 p0 p1 p2 p3) = (((8 : Int32) - (v0_176_l20_1 p2 p3)) * (v0_83_l13 p0 p1)) from if_neg hc180_236)] at k237
          show Steps p.tables e below (T234.setTop (mkF m 180 #[.val (.int p0), .val (.int p1), .val (.int p2), .val (.int p3), .val (.int p4), .val (.int (v0_7_l5 p0)), .val (.int (v0_17_l6 p0)), .val (.int (v0_30_l7 p0 p1)), .val (.int (p2 &&& (1073741823 : Int32))), .val (.int (p3 &&& (1073741823 : Int32))), .val (.int (v0_48_s0 p4)), .val (.ref b176), .val (.int (v0_76_l12 p0 p1)), .val (.int (v0_83_l13 p0 p1)), .val (.int (v0_107_l14 p0 p1 p2)), .val (.int (v0_121_l15 p0 p1)), .val (.int (v0_135_l16_1 p0 p1 p2 p3)), .val (.int (v0_144_l17_1 p0 p1 p2 p3)), .val (.long (v0_167_l18_1 p2 p3)), .second, .val (.int (v0_176_l20_1 p2 p3)), .unset] [(.int (v0_176_l20_1 p2 p3))])) _
          refine XS.ifYes X234.here hx rfl (pc0 := 180) (pc' := 187) rfl (hb hby at_180) rfl ((if0 _ _).trans (feq hc180_236).2) (by decide) (by decide) ?_
          show Steps p.tables e below (T234.setTop (mkF m 187 #[.val (.int p0), .val (.int p1), .val (.int p2), .val (.int p3), .val (.int p4), .val (.int (v0_7_l5 p0)), .val (.int (v0_17_l6 p0)), .val (.int (v0_30_l7 p0 p1)), .val (.int (p2 &&& (1073741823 : Int32))), .val (.int (p3 &&& (1073741823 : Int32))), .val (.int (v0_48_s0 p4)), .val (.ref b176), .val (.int (v0_76_l12 p0 p1)), .val (.int (v0_83_l13 p0 p1)), .val (.int (v0_107_l14 p0 p1 p2)), .val (.int (v0_121_l15 p0 p1)), .val (.int (v0_135_l16_1 p0 p1 p2 p3)), .val (.int (v0_144_l17_1 p0 p1 p2 p3)), .val (.long (v0_167_l18_1 p2 p3)), .second, .val (.int (v0_176_l20_1 p2 p3)), .unset] [])) _
          refine XS.bipush X234.here hx rfl (hb hby at_187) ?_
          show Steps p.tables e below (T234.setTop (mkF m 189 #[.val (.int p0), .val (.int p1), .val (.int p2), .val (.int p3), .val (.int p4), .val (.int (v0_7_l5 p0)), .val (.int (v0_17_l6 p0)), .val (.int (v0_30_l7 p0 p1)), .val (.int (p2 &&& (1073741823 : Int32))), .val (.int (p3 &&& (1073741823 : Int32))), .val (.int (v0_48_s0 p4)), .val (.ref b176), .val (.int (v0_76_l12 p0 p1)), .val (.int (v0_83_l13 p0 p1)), .val (.int (v0_107_l14 p0 p1 p2)), .val (.int (v0_121_l15 p0 p1)), .val (.int (v0_135_l16_1 p0 p1 p2 p3)), .val (.int (v0_144_l17_1 p0 p1 p2 p3)), .val (.long (v0_167_l18_1 p2 p3)), .second, .val (.int (v0_176_l20_1 p2 p3)), .unset] [(.int (8 : Int32))])) _
          refine XS.iload X234.here hx rfl (hb hby at_189) rfl ?_
          show Steps p.tables e below (T234.setTop (mkF m 191 #[.val (.int p0), .val (.int p1), .val (.int p2), .val (.int p3), .val (.int p4), .val (.int (v0_7_l5 p0)), .val (.int (v0_17_l6 p0)), .val (.int (v0_30_l7 p0 p1)), .val (.int (p2 &&& (1073741823 : Int32))), .val (.int (p3 &&& (1073741823 : Int32))), .val (.int (v0_48_s0 p4)), .val (.ref b176), .val (.int (v0_76_l12 p0 p1)), .val (.int (v0_83_l13 p0 p1)), .val (.int (v0_107_l14 p0 p1 p2)), .val (.int (v0_121_l15 p0 p1)), .val (.int (v0_135_l16_1 p0 p1 p2 p3)), .val (.int (v0_144_l17_1 p0 p1 p2 p3)), .val (.long (v0_167_l18_1 p2 p3)), .second, .val (.int (v0_176_l20_1 p2 p3)), .unset] [(.int (v0_176_l20_1 p2 p3)), (.int (8 : Int32))])) _
          refine XS.isub X234.here hx rfl (hb hby at_191) rfl ?_
          show Steps p.tables e below (T234.setTop (mkF m 192 #[.val (.int p0), .val (.int p1), .val (.int p2), .val (.int p3), .val (.int p4), .val (.int (v0_7_l5 p0)), .val (.int (v0_17_l6 p0)), .val (.int (v0_30_l7 p0 p1)), .val (.int (p2 &&& (1073741823 : Int32))), .val (.int (p3 &&& (1073741823 : Int32))), .val (.int (v0_48_s0 p4)), .val (.ref b176), .val (.int (v0_76_l12 p0 p1)), .val (.int (v0_83_l13 p0 p1)), .val (.int (v0_107_l14 p0 p1 p2)), .val (.int (v0_121_l15 p0 p1)), .val (.int (v0_135_l16_1 p0 p1 p2 p3)), .val (.int (v0_144_l17_1 p0 p1 p2 p3)), .val (.long (v0_167_l18_1 p2 p3)), .second, .val (.int (v0_176_l20_1 p2 p3)), .unset] [(.int ((8 : Int32) - (v0_176_l20_1 p2 p3)))])) _
          refine XS.iload X234.here hx rfl (hb hby at_192) rfl ?_
          show Steps p.tables e below (T234.setTop (mkF m 194 #[.val (.int p0), .val (.int p1), .val (.int p2), .val (.int p3), .val (.int p4), .val (.int (v0_7_l5 p0)), .val (.int (v0_17_l6 p0)), .val (.int (v0_30_l7 p0 p1)), .val (.int (p2 &&& (1073741823 : Int32))), .val (.int (p3 &&& (1073741823 : Int32))), .val (.int (v0_48_s0 p4)), .val (.ref b176), .val (.int (v0_76_l12 p0 p1)), .val (.int (v0_83_l13 p0 p1)), .val (.int (v0_107_l14 p0 p1 p2)), .val (.int (v0_121_l15 p0 p1)), .val (.int (v0_135_l16_1 p0 p1 p2 p3)), .val (.int (v0_144_l17_1 p0 p1 p2 p3)), .val (.long (v0_167_l18_1 p2 p3)), .second, .val (.int (v0_176_l20_1 p2 p3)), .unset] [(.int (v0_83_l13 p0 p1)), (.int ((8 : Int32) - (v0_176_l20_1 p2 p3)))])) _
          refine XS.imul X234.here hx rfl (hb hby at_194) rfl ?_
          exact k237
      show Steps p.tables e below (T234.setTop (mkF m 195 #[.val (.int p0), .val (.int p1), .val (.int p2), .val (.int p3), .val (.int p4), .val (.int (v0_7_l5 p0)), .val (.int (v0_17_l6 p0)), .val (.int (v0_30_l7 p0 p1)), .val (.int (p2 &&& (1073741823 : Int32))), .val (.int (p3 &&& (1073741823 : Int32))), .val (.int (v0_48_s0 p4)), .val (.ref b176), .val (.int (v0_76_l12 p0 p1)), .val (.int (v0_83_l13 p0 p1)), .val (.int (v0_107_l14 p0 p1 p2)), .val (.int (v0_121_l15 p0 p1)), .val (.int (v0_135_l16_1 p0 p1 p2 p3)), .val (.int (v0_144_l17_1 p0 p1 p2 p3)), .val (.long (v0_167_l18_1 p2 p3)), .second, .val (.int (v0_176_l20_1 p2 p3)), .unset] [(.int (v0_180_s0_1 p0 p1 p2 p3))])) _
      refine XS.istore X234.here hx rfl (hb hby at_195) rfl (l' := #[.val (.int p0), .val (.int p1), .val (.int p2), .val (.int p3), .val (.int p4), .val (.int (v0_7_l5 p0)), .val (.int (v0_17_l6 p0)), .val (.int (v0_30_l7 p0 p1)), .val (.int (p2 &&& (1073741823 : Int32))), .val (.int (p3 &&& (1073741823 : Int32))), .val (.int (v0_48_s0 p4)), .val (.ref b176), .val (.int (v0_76_l12 p0 p1)), .val (.int (v0_83_l13 p0 p1)), .val (.int (v0_107_l14 p0 p1 p2)), .val (.int (v0_121_l15 p0 p1)), .val (.int (v0_135_l16_1 p0 p1 p2 p3)), .val (.int (v0_144_l17_1 p0 p1 p2 p3)), .val (.long (v0_167_l18_1 p2 p3)), .second, .val (.int (v0_176_l20_1 p2 p3)), .val (.int (v0_180_s0_1 p0 p1 p2 p3))]) rfl ?_
      show Steps p.tables e below (T234.setTop (mkF m 197 #[.val (.int p0), .val (.int p1), .val (.int p2), .val (.int p3), .val (.int p4), .val (.int (v0_7_l5 p0)), .val (.int (v0_17_l6 p0)), .val (.int (v0_30_l7 p0 p1)), .val (.int (p2 &&& (1073741823 : Int32))), .val (.int (p3 &&& (1073741823 : Int32))), .val (.int (v0_48_s0 p4)), .val (.ref b176), .val (.int (v0_76_l12 p0 p1)), .val (.int (v0_83_l13 p0 p1)), .val (.int (v0_107_l14 p0 p1 p2)), .val (.int (v0_121_l15 p0 p1)), .val (.int (v0_135_l16_1 p0 p1 p2 p3)), .val (.int (v0_144_l17_1 p0 p1 p2 p3)), .val (.long (v0_167_l18_1 p2 p3)), .second, .val (.int (v0_176_l20_1 p2 p3)), .val (.int (v0_180_s0_1 p0 p1 p2 p3))] [])) _
      refine XS.iload X234.here hx rfl (hb hby at_197) rfl ?_
      suffices k247 : Steps p.tables e below (T234.setTop (mkF m 236 #[.val (.int p0), .val (.int p1), .val (.int p2), .val (.int p3), .val (.int p4), .val (.int (v0_7_l5 p0)), .val (.int (v0_17_l6 p0)), .val (.int (v0_30_l7 p0 p1)), .val (.int (p2 &&& (1073741823 : Int32))), .val (.int (p3 &&& (1073741823 : Int32))), .val (.int (v0_48_s0 p4)), .val (.ref b176), .val (.int (v0_76_l12 p0 p1)), .val (.int (v0_83_l13 p0 p1)), .val (.int (v0_107_l14 p0 p1 p2)), .val (.int (v0_121_l15 p0 p1)), .val (.int (v0_135_l16_1 p0 p1 p2 p3)), .val (.int (v0_144_l17_1 p0 p1 p2 p3)), .val (.long (v0_167_l18_1 p2 p3)), .second, .val (.int (v0_176_l20_1 p2 p3)), .val (.int (v0_180_s0_1 p0 p1 p2 p3))] [(.int (v0_199_s0_1 p0 p1 p2 p3))])) t by
        by_cases hc199_238 : (v0_76_l12 p0 p1) = (0 : Int32)
        · rw [(show (v0_199_s0_1 p0 p1 p2 p3) = (v0_204_s0 p0 p1 p2 p3) from if_pos hc199_238)] at k247
          show Steps p.tables e below (T234.setTop (mkF m 199 #[.val (.int p0), .val (.int p1), .val (.int p2), .val (.int p3), .val (.int p4), .val (.int (v0_7_l5 p0)), .val (.int (v0_17_l6 p0)), .val (.int (v0_30_l7 p0 p1)), .val (.int (p2 &&& (1073741823 : Int32))), .val (.int (p3 &&& (1073741823 : Int32))), .val (.int (v0_48_s0 p4)), .val (.ref b176), .val (.int (v0_76_l12 p0 p1)), .val (.int (v0_83_l13 p0 p1)), .val (.int (v0_107_l14 p0 p1 p2)), .val (.int (v0_121_l15 p0 p1)), .val (.int (v0_135_l16_1 p0 p1 p2 p3)), .val (.int (v0_144_l17_1 p0 p1 p2 p3)), .val (.long (v0_167_l18_1 p2 p3)), .second, .val (.int (v0_176_l20_1 p2 p3)), .val (.int (v0_180_s0_1 p0 p1 p2 p3))] [(.int (v0_76_l12 p0 p1))])) _
          refine XS.ifNo X234.here hx rfl (hb hby at_199) rfl ((if0 _ _).trans (teq hc199_238).2) ?_
          show Steps p.tables e below (T234.setTop (mkF m 202 #[.val (.int p0), .val (.int p1), .val (.int p2), .val (.int p3), .val (.int p4), .val (.int (v0_7_l5 p0)), .val (.int (v0_17_l6 p0)), .val (.int (v0_30_l7 p0 p1)), .val (.int (p2 &&& (1073741823 : Int32))), .val (.int (p3 &&& (1073741823 : Int32))), .val (.int (v0_48_s0 p4)), .val (.ref b176), .val (.int (v0_76_l12 p0 p1)), .val (.int (v0_83_l13 p0 p1)), .val (.int (v0_107_l14 p0 p1 p2)), .val (.int (v0_121_l15 p0 p1)), .val (.int (v0_135_l16_1 p0 p1 p2 p3)), .val (.int (v0_144_l17_1 p0 p1 p2 p3)), .val (.long (v0_167_l18_1 p2 p3)), .second, .val (.int (v0_176_l20_1 p2 p3)), .val (.int (v0_180_s0_1 p0 p1 p2 p3))] [])) _
          refine XS.iload X234.here hx rfl (hb hby at_202) rfl ?_
          suffices k246 : Steps p.tables e below (T234.setTop (mkF m 236 #[.val (.int p0), .val (.int p1), .val (.int p2), .val (.int p3), .val (.int p4), .val (.int (v0_7_l5 p0)), .val (.int (v0_17_l6 p0)), .val (.int (v0_30_l7 p0 p1)), .val (.int (p2 &&& (1073741823 : Int32))), .val (.int (p3 &&& (1073741823 : Int32))), .val (.int (v0_48_s0 p4)), .val (.ref b176), .val (.int (v0_76_l12 p0 p1)), .val (.int (v0_83_l13 p0 p1)), .val (.int (v0_107_l14 p0 p1 p2)), .val (.int (v0_121_l15 p0 p1)), .val (.int (v0_135_l16_1 p0 p1 p2 p3)), .val (.int (v0_144_l17_1 p0 p1 p2 p3)), .val (.long (v0_167_l18_1 p2 p3)), .second, .val (.int (v0_176_l20_1 p2 p3)), .val (.int (v0_180_s0_1 p0 p1 p2 p3))] [(.int (v0_204_s0 p0 p1 p2 p3))])) t by
            by_cases hc204_239 : (v0_107_l14 p0 p1 p2) = (0 : Int32)
            · rw [(show (v0_204_s0 p0 p1 p2 p3) = (v0_211_s0_1 p0 p1 p2 p3) from if_pos hc204_239)] at k246
              show Steps p.tables e below (T234.setTop (mkF m 204 #[.val (.int p0), .val (.int p1), .val (.int p2), .val (.int p3), .val (.int p4), .val (.int (v0_7_l5 p0)), .val (.int (v0_17_l6 p0)), .val (.int (v0_30_l7 p0 p1)), .val (.int (p2 &&& (1073741823 : Int32))), .val (.int (p3 &&& (1073741823 : Int32))), .val (.int (v0_48_s0 p4)), .val (.ref b176), .val (.int (v0_76_l12 p0 p1)), .val (.int (v0_83_l13 p0 p1)), .val (.int (v0_107_l14 p0 p1 p2)), .val (.int (v0_121_l15 p0 p1)), .val (.int (v0_135_l16_1 p0 p1 p2 p3)), .val (.int (v0_144_l17_1 p0 p1 p2 p3)), .val (.long (v0_167_l18_1 p2 p3)), .second, .val (.int (v0_176_l20_1 p2 p3)), .val (.int (v0_180_s0_1 p0 p1 p2 p3))] [(.int (v0_107_l14 p0 p1 p2))])) _
              refine XS.ifNo X234.here hx rfl (hb hby at_204) rfl ((if0 _ _).trans (teq hc204_239).2) ?_
              show Steps p.tables e below (T234.setTop (mkF m 207 #[.val (.int p0), .val (.int p1), .val (.int p2), .val (.int p3), .val (.int p4), .val (.int (v0_7_l5 p0)), .val (.int (v0_17_l6 p0)), .val (.int (v0_30_l7 p0 p1)), .val (.int (p2 &&& (1073741823 : Int32))), .val (.int (p3 &&& (1073741823 : Int32))), .val (.int (v0_48_s0 p4)), .val (.ref b176), .val (.int (v0_76_l12 p0 p1)), .val (.int (v0_83_l13 p0 p1)), .val (.int (v0_107_l14 p0 p1 p2)), .val (.int (v0_121_l15 p0 p1)), .val (.int (v0_135_l16_1 p0 p1 p2 p3)), .val (.int (v0_144_l17_1 p0 p1 p2 p3)), .val (.long (v0_167_l18_1 p2 p3)), .second, .val (.int (v0_176_l20_1 p2 p3)), .val (.int (v0_180_s0_1 p0 p1 p2 p3))] [])) _
              refine XS.iload X234.here hx rfl (hb hby at_207) rfl ?_
              show Steps p.tables e below (T234.setTop (mkF m 209 #[.val (.int p0), .val (.int p1), .val (.int p2), .val (.int p3), .val (.int p4), .val (.int (v0_7_l5 p0)), .val (.int (v0_17_l6 p0)), .val (.int (v0_30_l7 p0 p1)), .val (.int (p2 &&& (1073741823 : Int32))), .val (.int (p3 &&& (1073741823 : Int32))), .val (.int (v0_48_s0 p4)), .val (.ref b176), .val (.int (v0_76_l12 p0 p1)), .val (.int (v0_83_l13 p0 p1)), .val (.int (v0_107_l14 p0 p1 p2)), .val (.int (v0_121_l15 p0 p1)), .val (.int (v0_135_l16_1 p0 p1 p2 p3)), .val (.int (v0_144_l17_1 p0 p1 p2 p3)), .val (.long (v0_167_l18_1 p2 p3)), .second, .val (.int (v0_176_l20_1 p2 p3)), .val (.int (v0_180_s0_1 p0 p1 p2 p3))] [(.int (v0_121_l15 p0 p1))])) _
              refine XS.iload X234.here hx rfl (hb hby at_209) rfl ?_
              suffices k245 : Steps p.tables e below (T234.setTop (mkF m 236 #[.val (.int p0), .val (.int p1), .val (.int p2), .val (.int p3), .val (.int p4), .val (.int (v0_7_l5 p0)), .val (.int (v0_17_l6 p0)), .val (.int (v0_30_l7 p0 p1)), .val (.int (p2 &&& (1073741823 : Int32))), .val (.int (p3 &&& (1073741823 : Int32))), .val (.int (v0_48_s0 p4)), .val (.ref b176), .val (.int (v0_76_l12 p0 p1)), .val (.int (v0_83_l13 p0 p1)), .val (.int (v0_107_l14 p0 p1 p2)), .val (.int (v0_121_l15 p0 p1)), .val (.int (v0_135_l16_1 p0 p1 p2 p3)), .val (.int (v0_144_l17_1 p0 p1 p2 p3)), .val (.long (v0_167_l18_1 p2 p3)), .second, .val (.int (v0_176_l20_1 p2 p3)), .val (.int (v0_180_s0_1 p0 p1 p2 p3))] [(.int (v0_211_s0_1 p0 p1 p2 p3))])) t by
                by_cases hc211_240 : (v0_121_l15 p0 p1) = (v0_83_l13 p0 p1)
                · rw [(show (v0_211_s0_1 p0 p1 p2 p3) = (v0_221_s0_1 p0 p1 p2 p3) from if_pos hc211_240)] at k245
                  show Steps p.tables e below (T234.setTop (mkF m 211 #[.val (.int p0), .val (.int p1), .val (.int p2), .val (.int p3), .val (.int p4), .val (.int (v0_7_l5 p0)), .val (.int (v0_17_l6 p0)), .val (.int (v0_30_l7 p0 p1)), .val (.int (p2 &&& (1073741823 : Int32))), .val (.int (p3 &&& (1073741823 : Int32))), .val (.int (v0_48_s0 p4)), .val (.ref b176), .val (.int (v0_76_l12 p0 p1)), .val (.int (v0_83_l13 p0 p1)), .val (.int (v0_107_l14 p0 p1 p2)), .val (.int (v0_121_l15 p0 p1)), .val (.int (v0_135_l16_1 p0 p1 p2 p3)), .val (.int (v0_144_l17_1 p0 p1 p2 p3)), .val (.long (v0_167_l18_1 p2 p3)), .second, .val (.int (v0_176_l20_1 p2 p3)), .val (.int (v0_180_s0_1 p0 p1 p2 p3))] [(.int (v0_83_l13 p0 p1)), (.int (v0_121_l15 p0 p1))])) _
                  refine XS.icmpNo X234.here hx rfl (hb hby at_211) rfl (teq hc211_240).2 ?_
                  show Steps p.tables e below (T234.setTop (mkF m 214 #[.val (.int p0), .val (.int p1), .val (.int p2), .val (.int p3), .val (.int p4), .val (.int (v0_7_l5 p0)), .val (.int (v0_17_l6 p0)), .val (.int (v0_30_l7 p0 p1)), .val (.int (p2 &&& (1073741823 : Int32))), .val (.int (p3 &&& (1073741823 : Int32))), .val (.int (v0_48_s0 p4)), .val (.ref b176), .val (.int (v0_76_l12 p0 p1)), .val (.int (v0_83_l13 p0 p1)), .val (.int (v0_107_l14 p0 p1 p2)), .val (.int (v0_121_l15 p0 p1)), .val (.int (v0_135_l16_1 p0 p1 p2 p3)), .val (.int (v0_144_l17_1 p0 p1 p2 p3)), .val (.long (v0_167_l18_1 p2 p3)), .second, .val (.int (v0_176_l20_1 p2 p3)), .val (.int (v0_180_s0_1 p0 p1 p2 p3))] [])) _
                  refine XS.iload X234.here hx rfl (hb hby at_214) rfl ?_
                  show Steps p.tables e below (T234.setTop (mkF m 216 #[.val (.int p0), .val (.int p1), .val (.int p2), .val (.int p3), .val (.int p4), .val (.int (v0_7_l5 p0)), .val (.int (v0_17_l6 p0)), .val (.int (v0_30_l7 p0 p1)), .val (.int (p2 &&& (1073741823 : Int32))), .val (.int (p3 &&& (1073741823 : Int32))), .val (.int (v0_48_s0 p4)), .val (.ref b176), .val (.int (v0_76_l12 p0 p1)), .val (.int (v0_83_l13 p0 p1)), .val (.int (v0_107_l14 p0 p1 p2)), .val (.int (v0_121_l15 p0 p1)), .val (.int (v0_135_l16_1 p0 p1 p2 p3)), .val (.int (v0_144_l17_1 p0 p1 p2 p3)), .val (.long (v0_167_l18_1 p2 p3)), .second, .val (.int (v0_176_l20_1 p2 p3)), .val (.int (v0_180_s0_1 p0 p1 p2 p3))] [(.int (v0_135_l16_1 p0 p1 p2 p3))])) _
                  refine XS.iload X234.here hx rfl (hb hby at_216) rfl ?_
                  show Steps p.tables e below (T234.setTop (mkF m 218 #[.val (.int p0), .val (.int p1), .val (.int p2), .val (.int p3), .val (.int p4), .val (.int (v0_7_l5 p0)), .val (.int (v0_17_l6 p0)), .val (.int (v0_30_l7 p0 p1)), .val (.int (p2 &&& (1073741823 : Int32))), .val (.int (p3 &&& (1073741823 : Int32))), .val (.int (v0_48_s0 p4)), .val (.ref b176), .val (.int (v0_76_l12 p0 p1)), .val (.int (v0_83_l13 p0 p1)), .val (.int (v0_107_l14 p0 p1 p2)), .val (.int (v0_121_l15 p0 p1)), .val (.int (v0_135_l16_1 p0 p1 p2 p3)), .val (.int (v0_144_l17_1 p0 p1 p2 p3)), .val (.long (v0_167_l18_1 p2 p3)), .second, .val (.int (v0_176_l20_1 p2 p3)), .val (.int (v0_180_s0_1 p0 p1 p2 p3))] [(.int (v0_180_s0_1 p0 p1 p2 p3)), (.int (v0_135_l16_1 p0 p1 p2 p3))])) _
                  refine XS.iload X234.here hx rfl (hb hby at_218) rfl ?_
                  show Steps p.tables e below (T234.setTop (mkF m 220 #[.val (.int p0), .val (.int p1), .val (.int p2), .val (.int p3), .val (.int p4), .val (.int (v0_7_l5 p0)), .val (.int (v0_17_l6 p0)), .val (.int (v0_30_l7 p0 p1)), .val (.int (p2 &&& (1073741823 : Int32))), .val (.int (p3 &&& (1073741823 : Int32))), .val (.int (v0_48_s0 p4)), .val (.ref b176), .val (.int (v0_76_l12 p0 p1)), .val (.int (v0_83_l13 p0 p1)), .val (.int (v0_107_l14 p0 p1 p2)), .val (.int (v0_121_l15 p0 p1)), .val (.int (v0_135_l16_1 p0 p1 p2 p3)), .val (.int (v0_144_l17_1 p0 p1 p2 p3)), .val (.long (v0_167_l18_1 p2 p3)), .second, .val (.int (v0_176_l20_1 p2 p3)), .val (.int (v0_180_s0_1 p0 p1 p2 p3))] [(.int (v0_83_l13 p0 p1)), (.int (v0_180_s0_1 p0 p1 p2 p3)), (.int (v0_135_l16_1 p0 p1 p2 p3))])) _
                  refine XS.iadd X234.here hx rfl (hb hby at_220) rfl ?_
                  suffices k244 : Steps p.tables e below (T234.setTop (mkF m 236 #[.val (.int p0), .val (.int p1), .val (.int p2), .val (.int p3), .val (.int p4), .val (.int (v0_7_l5 p0)), .val (.int (v0_17_l6 p0)), .val (.int (v0_30_l7 p0 p1)), .val (.int (p2 &&& (1073741823 : Int32))), .val (.int (p3 &&& (1073741823 : Int32))), .val (.int (v0_48_s0 p4)), .val (.ref b176), .val (.int (v0_76_l12 p0 p1)), .val (.int (v0_83_l13 p0 p1)), .val (.int (v0_107_l14 p0 p1 p2)), .val (.int (v0_121_l15 p0 p1)), .val (.int (v0_135_l16_1 p0 p1 p2 p3)), .val (.int (v0_144_l17_1 p0 p1 p2 p3)), .val (.long (v0_167_l18_1 p2 p3)), .second, .val (.int (v0_176_l20_1 p2 p3)), .val (.int (v0_180_s0_1 p0 p1 p2 p3))] [(.int (v0_221_s0_1 p0 p1 p2 p3))])) t by
                    by_cases hc221_241 : (v0_135_l16_1 p0 p1 p2 p3) = ((v0_180_s0_1 p0 p1 p2 p3) + (v0_83_l13 p0 p1))
                    · rw [(show (v0_221_s0_1 p0 p1 p2 p3) = (v0_228_s0_1 p0 p1 p2 p3) from if_pos hc221_241)] at k244
                      show Steps p.tables e below (T234.setTop (mkF m 221 #[.val (.int p0), .val (.int p1), .val (.int p2), .val (.int p3), .val (.int p4), .val (.int (v0_7_l5 p0)), .val (.int (v0_17_l6 p0)), .val (.int (v0_30_l7 p0 p1)), .val (.int (p2 &&& (1073741823 : Int32))), .val (.int (p3 &&& (1073741823 : Int32))), .val (.int (v0_48_s0 p4)), .val (.ref b176), .val (.int (v0_76_l12 p0 p1)), .val (.int (v0_83_l13 p0 p1)), .val (.int (v0_107_l14 p0 p1 p2)), .val (.int (v0_121_l15 p0 p1)), .val (.int (v0_135_l16_1 p0 p1 p2 p3)), .val (.int (v0_144_l17_1 p0 p1 p2 p3)), .val (.long (v0_167_l18_1 p2 p3)), .second, .val (.int (v0_176_l20_1 p2 p3)), .val (.int (v0_180_s0_1 p0 p1 p2 p3))] [(.int ((v0_180_s0_1 p0 p1 p2 p3) + (v0_83_l13 p0 p1))), (.int (v0_135_l16_1 p0 p1 p2 p3))])) _
                      refine XS.icmpNo X234.here hx rfl (hb hby at_221) rfl (teq hc221_241).2 ?_
                      show Steps p.tables e below (T234.setTop (mkF m 224 #[.val (.int p0), .val (.int p1), .val (.int p2), .val (.int p3), .val (.int p4), .val (.int (v0_7_l5 p0)), .val (.int (v0_17_l6 p0)), .val (.int (v0_30_l7 p0 p1)), .val (.int (p2 &&& (1073741823 : Int32))), .val (.int (p3 &&& (1073741823 : Int32))), .val (.int (v0_48_s0 p4)), .val (.ref b176), .val (.int (v0_76_l12 p0 p1)), .val (.int (v0_83_l13 p0 p1)), .val (.int (v0_107_l14 p0 p1 p2)), .val (.int (v0_121_l15 p0 p1)), .val (.int (v0_135_l16_1 p0 p1 p2 p3)), .val (.int (v0_144_l17_1 p0 p1 p2 p3)), .val (.long (v0_167_l18_1 p2 p3)), .second, .val (.int (v0_176_l20_1 p2 p3)), .val (.int (v0_180_s0_1 p0 p1 p2 p3))] [])) _
                      refine XS.iload X234.here hx rfl (hb hby at_224) rfl ?_
                      show Steps p.tables e below (T234.setTop (mkF m 226 #[.val (.int p0), .val (.int p1), .val (.int p2), .val (.int p3), .val (.int p4), .val (.int (v0_7_l5 p0)), .val (.int (v0_17_l6 p0)), .val (.int (v0_30_l7 p0 p1)), .val (.int (p2 &&& (1073741823 : Int32))), .val (.int (p3 &&& (1073741823 : Int32))), .val (.int (v0_48_s0 p4)), .val (.ref b176), .val (.int (v0_76_l12 p0 p1)), .val (.int (v0_83_l13 p0 p1)), .val (.int (v0_107_l14 p0 p1 p2)), .val (.int (v0_121_l15 p0 p1)), .val (.int (v0_135_l16_1 p0 p1 p2 p3)), .val (.int (v0_144_l17_1 p0 p1 p2 p3)), .val (.long (v0_167_l18_1 p2 p3)), .second, .val (.int (v0_176_l20_1 p2 p3)), .val (.int (v0_180_s0_1 p0 p1 p2 p3))] [(.int (v0_144_l17_1 p0 p1 p2 p3))])) _
                      refine XS.iload X234.here hx rfl (hb hby at_226) rfl ?_
                      suffices k243 : Steps p.tables e below (T234.setTop (mkF m 236 #[.val (.int p0), .val (.int p1), .val (.int p2), .val (.int p3), .val (.int p4), .val (.int (v0_7_l5 p0)), .val (.int (v0_17_l6 p0)), .val (.int (v0_30_l7 p0 p1)), .val (.int (p2 &&& (1073741823 : Int32))), .val (.int (p3 &&& (1073741823 : Int32))), .val (.int (v0_48_s0 p4)), .val (.ref b176), .val (.int (v0_76_l12 p0 p1)), .val (.int (v0_83_l13 p0 p1)), .val (.int (v0_107_l14 p0 p1 p2)), .val (.int (v0_121_l15 p0 p1)), .val (.int (v0_135_l16_1 p0 p1 p2 p3)), .val (.int (v0_144_l17_1 p0 p1 p2 p3)), .val (.long (v0_167_l18_1 p2 p3)), .second, .val (.int (v0_176_l20_1 p2 p3)), .val (.int (v0_180_s0_1 p0 p1 p2 p3))] [(.int (v0_228_s0_1 p0 p1 p2 p3))])) t by
                        by_cases hc228_242 : (v0_144_l17_1 p0 p1 p2 p3) = (v0_180_s0_1 p0 p1 p2 p3)
                        · rw [(show (v0_228_s0_1 p0 p1 p2 p3) = (1 : Int32) from if_pos hc228_242)] at k243
                          show Steps p.tables e below (T234.setTop (mkF m 228 #[.val (.int p0), .val (.int p1), .val (.int p2), .val (.int p3), .val (.int p4), .val (.int (v0_7_l5 p0)), .val (.int (v0_17_l6 p0)), .val (.int (v0_30_l7 p0 p1)), .val (.int (p2 &&& (1073741823 : Int32))), .val (.int (p3 &&& (1073741823 : Int32))), .val (.int (v0_48_s0 p4)), .val (.ref b176), .val (.int (v0_76_l12 p0 p1)), .val (.int (v0_83_l13 p0 p1)), .val (.int (v0_107_l14 p0 p1 p2)), .val (.int (v0_121_l15 p0 p1)), .val (.int (v0_135_l16_1 p0 p1 p2 p3)), .val (.int (v0_144_l17_1 p0 p1 p2 p3)), .val (.long (v0_167_l18_1 p2 p3)), .second, .val (.int (v0_176_l20_1 p2 p3)), .val (.int (v0_180_s0_1 p0 p1 p2 p3))] [(.int (v0_180_s0_1 p0 p1 p2 p3)), (.int (v0_144_l17_1 p0 p1 p2 p3))])) _
                          refine XS.icmpNo X234.here hx rfl (hb hby at_228) rfl (teq hc228_242).2 ?_
                          show Steps p.tables e below (T234.setTop (mkF m 231 #[.val (.int p0), .val (.int p1), .val (.int p2), .val (.int p3), .val (.int p4), .val (.int (v0_7_l5 p0)), .val (.int (v0_17_l6 p0)), .val (.int (v0_30_l7 p0 p1)), .val (.int (p2 &&& (1073741823 : Int32))), .val (.int (p3 &&& (1073741823 : Int32))), .val (.int (v0_48_s0 p4)), .val (.ref b176), .val (.int (v0_76_l12 p0 p1)), .val (.int (v0_83_l13 p0 p1)), .val (.int (v0_107_l14 p0 p1 p2)), .val (.int (v0_121_l15 p0 p1)), .val (.int (v0_135_l16_1 p0 p1 p2 p3)), .val (.int (v0_144_l17_1 p0 p1 p2 p3)), .val (.long (v0_167_l18_1 p2 p3)), .second, .val (.int (v0_176_l20_1 p2 p3)), .val (.int (v0_180_s0_1 p0 p1 p2 p3))] [])) _
                          refine XS.iconst X234.here hx rfl (hb hby at_231) ?_
                          show Steps p.tables e below (T234.setTop (mkF m 232 #[.val (.int p0), .val (.int p1), .val (.int p2), .val (.int p3), .val (.int p4), .val (.int (v0_7_l5 p0)), .val (.int (v0_17_l6 p0)), .val (.int (v0_30_l7 p0 p1)), .val (.int (p2 &&& (1073741823 : Int32))), .val (.int (p3 &&& (1073741823 : Int32))), .val (.int (v0_48_s0 p4)), .val (.ref b176), .val (.int (v0_76_l12 p0 p1)), .val (.int (v0_83_l13 p0 p1)), .val (.int (v0_107_l14 p0 p1 p2)), .val (.int (v0_121_l15 p0 p1)), .val (.int (v0_135_l16_1 p0 p1 p2 p3)), .val (.int (v0_144_l17_1 p0 p1 p2 p3)), .val (.long (v0_167_l18_1 p2 p3)), .second, .val (.int (v0_176_l20_1 p2 p3)), .val (.int (v0_180_s0_1 p0 p1 p2 p3))] [(.int (1 : Int32))])) _
                          refine XS.goto X234.here hx rfl (pc0 := 232) (pc' := 236) rfl (hb hby at_232) (by decide) (by decide) ?_
                          exact k243
                        · rw [(show (v0_228_s0_1 p0 p1 p2 p3) = (0 : Int32) from if_neg hc228_242)] at k243
                          show Steps p.tables e below (T234.setTop (mkF m 228 #[.val (.int p0), .val (.int p1), .val (.int p2), .val (.int p3), .val (.int p4), .val (.int (v0_7_l5 p0)), .val (.int (v0_17_l6 p0)), .val (.int (v0_30_l7 p0 p1)), .val (.int (p2 &&& (1073741823 : Int32))), .val (.int (p3 &&& (1073741823 : Int32))), .val (.int (v0_48_s0 p4)), .val (.ref b176), .val (.int (v0_76_l12 p0 p1)), .val (.int (v0_83_l13 p0 p1)), .val (.int (v0_107_l14 p0 p1 p2)), .val (.int (v0_121_l15 p0 p1)), .val (.int (v0_135_l16_1 p0 p1 p2 p3)), .val (.int (v0_144_l17_1 p0 p1 p2 p3)), .val (.long (v0_167_l18_1 p2 p3)), .second, .val (.int (v0_176_l20_1 p2 p3)), .val (.int (v0_180_s0_1 p0 p1 p2 p3))] [(.int (v0_180_s0_1 p0 p1 p2 p3)), (.int (v0_144_l17_1 p0 p1 p2 p3))])) _
                          refine XS.icmpYes X234.here hx rfl (pc0 := 228) (pc' := 235) rfl (hb hby at_228) rfl (feq hc228_242).2 (by decide) (by decide) ?_
                          show Steps p.tables e below (T234.setTop (mkF m 235 #[.val (.int p0), .val (.int p1), .val (.int p2), .val (.int p3), .val (.int p4), .val (.int (v0_7_l5 p0)), .val (.int (v0_17_l6 p0)), .val (.int (v0_30_l7 p0 p1)), .val (.int (p2 &&& (1073741823 : Int32))), .val (.int (p3 &&& (1073741823 : Int32))), .val (.int (v0_48_s0 p4)), .val (.ref b176), .val (.int (v0_76_l12 p0 p1)), .val (.int (v0_83_l13 p0 p1)), .val (.int (v0_107_l14 p0 p1 p2)), .val (.int (v0_121_l15 p0 p1)), .val (.int (v0_135_l16_1 p0 p1 p2 p3)), .val (.int (v0_144_l17_1 p0 p1 p2 p3)), .val (.long (v0_167_l18_1 p2 p3)), .second, .val (.int (v0_176_l20_1 p2 p3)), .val (.int (v0_180_s0_1 p0 p1 p2 p3))] [])) _
                          refine XS.iconst X234.here hx rfl (hb hby at_235) ?_
                          exact k243
                      exact k244
                    · rw [(show (v0_221_s0_1 p0 p1 p2 p3) = (0 : Int32) from if_neg hc221_241)] at k244
                      show Steps p.tables e below (T234.setTop (mkF m 221 #[.val (.int p0), .val (.int p1), .val (.int p2), .val (.int p3), .val (.int p4), .val (.int (v0_7_l5 p0)), .val (.int (v0_17_l6 p0)), .val (.int (v0_30_l7 p0 p1)), .val (.int (p2 &&& (1073741823 : Int32))), .val (.int (p3 &&& (1073741823 : Int32))), .val (.int (v0_48_s0 p4)), .val (.ref b176), .val (.int (v0_76_l12 p0 p1)), .val (.int (v0_83_l13 p0 p1)), .val (.int (v0_107_l14 p0 p1 p2)), .val (.int (v0_121_l15 p0 p1)), .val (.int (v0_135_l16_1 p0 p1 p2 p3)), .val (.int (v0_144_l17_1 p0 p1 p2 p3)), .val (.long (v0_167_l18_1 p2 p3)), .second, .val (.int (v0_176_l20_1 p2 p3)), .val (.int (v0_180_s0_1 p0 p1 p2 p3))] [(.int ((v0_180_s0_1 p0 p1 p2 p3) + (v0_83_l13 p0 p1))), (.int (v0_135_l16_1 p0 p1 p2 p3))])) _
                      refine XS.icmpYes X234.here hx rfl (pc0 := 221) (pc' := 235) rfl (hb hby at_221) rfl (feq hc221_241).2 (by decide) (by decide) ?_
                      show Steps p.tables e below (T234.setTop (mkF m 235 #[.val (.int p0), .val (.int p1), .val (.int p2), .val (.int p3), .val (.int p4), .val (.int (v0_7_l5 p0)), .val (.int (v0_17_l6 p0)), .val (.int (v0_30_l7 p0 p1)), .val (.int (p2 &&& (1073741823 : Int32))), .val (.int (p3 &&& (1073741823 : Int32))), .val (.int (v0_48_s0 p4)), .val (.ref b176), .val (.int (v0_76_l12 p0 p1)), .val (.int (v0_83_l13 p0 p1)), .val (.int (v0_107_l14 p0 p1 p2)), .val (.int (v0_121_l15 p0 p1)), .val (.int (v0_135_l16_1 p0 p1 p2 p3)), .val (.int (v0_144_l17_1 p0 p1 p2 p3)), .val (.long (v0_167_l18_1 p2 p3)), .second, .val (.int (v0_176_l20_1 p2 p3)), .val (.int (v0_180_s0_1 p0 p1 p2 p3))] [])) _
                      refine XS.iconst X234.here hx rfl (hb hby at_235) ?_
                      exact k244
                  exact k245
                · rw [(show (v0_211_s0_1 p0 p1 p2 p3) = (0 : Int32) from if_neg hc211_240)] at k245
                  show Steps p.tables e below (T234.setTop (mkF m 211 #[.val (.int p0), .val (.int p1), .val (.int p2), .val (.int p3), .val (.int p4), .val (.int (v0_7_l5 p0)), .val (.int (v0_17_l6 p0)), .val (.int (v0_30_l7 p0 p1)), .val (.int (p2 &&& (1073741823 : Int32))), .val (.int (p3 &&& (1073741823 : Int32))), .val (.int (v0_48_s0 p4)), .val (.ref b176), .val (.int (v0_76_l12 p0 p1)), .val (.int (v0_83_l13 p0 p1)), .val (.int (v0_107_l14 p0 p1 p2)), .val (.int (v0_121_l15 p0 p1)), .val (.int (v0_135_l16_1 p0 p1 p2 p3)), .val (.int (v0_144_l17_1 p0 p1 p2 p3)), .val (.long (v0_167_l18_1 p2 p3)), .second, .val (.int (v0_176_l20_1 p2 p3)), .val (.int (v0_180_s0_1 p0 p1 p2 p3))] [(.int (v0_83_l13 p0 p1)), (.int (v0_121_l15 p0 p1))])) _
                  refine XS.icmpYes X234.here hx rfl (pc0 := 211) (pc' := 235) rfl (hb hby at_211) rfl (feq hc211_240).2 (by decide) (by decide) ?_
                  show Steps p.tables e below (T234.setTop (mkF m 235 #[.val (.int p0), .val (.int p1), .val (.int p2), .val (.int p3), .val (.int p4), .val (.int (v0_7_l5 p0)), .val (.int (v0_17_l6 p0)), .val (.int (v0_30_l7 p0 p1)), .val (.int (p2 &&& (1073741823 : Int32))), .val (.int (p3 &&& (1073741823 : Int32))), .val (.int (v0_48_s0 p4)), .val (.ref b176), .val (.int (v0_76_l12 p0 p1)), .val (.int (v0_83_l13 p0 p1)), .val (.int (v0_107_l14 p0 p1 p2)), .val (.int (v0_121_l15 p0 p1)), .val (.int (v0_135_l16_1 p0 p1 p2 p3)), .val (.int (v0_144_l17_1 p0 p1 p2 p3)), .val (.long (v0_167_l18_1 p2 p3)), .second, .val (.int (v0_176_l20_1 p2 p3)), .val (.int (v0_180_s0_1 p0 p1 p2 p3))] [])) _
                  refine XS.iconst X234.here hx rfl (hb hby at_235) ?_
                  exact k245
              exact k246
            · rw [(show (v0_204_s0 p0 p1 p2 p3) = (0 : Int32) from if_neg hc204_239)] at k246
              show Steps p.tables e below (T234.setTop (mkF m 204 #[.val (.int p0), .val (.int p1), .val (.int p2), .val (.int p3), .val (.int p4), .val (.int (v0_7_l5 p0)), .val (.int (v0_17_l6 p0)), .val (.int (v0_30_l7 p0 p1)), .val (.int (p2 &&& (1073741823 : Int32))), .val (.int (p3 &&& (1073741823 : Int32))), .val (.int (v0_48_s0 p4)), .val (.ref b176), .val (.int (v0_76_l12 p0 p1)), .val (.int (v0_83_l13 p0 p1)), .val (.int (v0_107_l14 p0 p1 p2)), .val (.int (v0_121_l15 p0 p1)), .val (.int (v0_135_l16_1 p0 p1 p2 p3)), .val (.int (v0_144_l17_1 p0 p1 p2 p3)), .val (.long (v0_167_l18_1 p2 p3)), .second, .val (.int (v0_176_l20_1 p2 p3)), .val (.int (v0_180_s0_1 p0 p1 p2 p3))] [(.int (v0_107_l14 p0 p1 p2))])) _
              refine XS.ifYes X234.here hx rfl (pc0 := 204) (pc' := 235) rfl (hb hby at_204) rfl ((if0 _ _).trans (feq hc204_239).2) (by decide) (by decide) ?_
              show Steps p.tables e below (T234.setTop (mkF m 235 #[.val (.int p0), .val (.int p1), .val (.int p2), .val (.int p3), .val (.int p4), .val (.int (v0_7_l5 p0)), .val (.int (v0_17_l6 p0)), .val (.int (v0_30_l7 p0 p1)), .val (.int (p2 &&& (1073741823 : Int32))), .val (.int (p3 &&& (1073741823 : Int32))), .val (.int (v0_48_s0 p4)), .val (.ref b176), .val (.int (v0_76_l12 p0 p1)), .val (.int (v0_83_l13 p0 p1)), .val (.int (v0_107_l14 p0 p1 p2)), .val (.int (v0_121_l15 p0 p1)), .val (.int (v0_135_l16_1 p0 p1 p2 p3)), .val (.int (v0_144_l17_1 p0 p1 p2 p3)), .val (.long (v0_167_l18_1 p2 p3)), .second, .val (.int (v0_176_l20_1 p2 p3)), .val (.int (v0_180_s0_1 p0 p1 p2 p3))] [])) _
              refine XS.iconst X234.here hx rfl (hb hby at_235) ?_
              exact k246
          exact k247
        · rw [(show (v0_199_s0_1 p0 p1 p2 p3) = (0 : Int32) from if_neg hc199_238)] at k247
          show Steps p.tables e below (T234.setTop (mkF m 199 #[.val (.int p0), .val (.int p1), .val (.int p2), .val (.int p3), .val (.int p4), .val (.int (v0_7_l5 p0)), .val (.int (v0_17_l6 p0)), .val (.int (v0_30_l7 p0 p1)), .val (.int (p2 &&& (1073741823 : Int32))), .val (.int (p3 &&& (1073741823 : Int32))), .val (.int (v0_48_s0 p4)), .val (.ref b176), .val (.int (v0_76_l12 p0 p1)), .val (.int (v0_83_l13 p0 p1)), .val (.int (v0_107_l14 p0 p1 p2)), .val (.int (v0_121_l15 p0 p1)), .val (.int (v0_135_l16_1 p0 p1 p2 p3)), .val (.int (v0_144_l17_1 p0 p1 p2 p3)), .val (.long (v0_167_l18_1 p2 p3)), .second, .val (.int (v0_176_l20_1 p2 p3)), .val (.int (v0_180_s0_1 p0 p1 p2 p3))] [(.int (v0_76_l12 p0 p1))])) _
          refine XS.ifYes X234.here hx rfl (pc0 := 199) (pc' := 235) rfl (hb hby at_199) rfl ((if0 _ _).trans (feq hc199_238).2) (by decide) (by decide) ?_
          show Steps p.tables e below (T234.setTop (mkF m 235 #[.val (.int p0), .val (.int p1), .val (.int p2), .val (.int p3), .val (.int p4), .val (.int (v0_7_l5 p0)), .val (.int (v0_17_l6 p0)), .val (.int (v0_30_l7 p0 p1)), .val (.int (p2 &&& (1073741823 : Int32))), .val (.int (p3 &&& (1073741823 : Int32))), .val (.int (v0_48_s0 p4)), .val (.ref b176), .val (.int (v0_76_l12 p0 p1)), .val (.int (v0_83_l13 p0 p1)), .val (.int (v0_107_l14 p0 p1 p2)), .val (.int (v0_121_l15 p0 p1)), .val (.int (v0_135_l16_1 p0 p1 p2 p3)), .val (.int (v0_144_l17_1 p0 p1 p2 p3)), .val (.long (v0_167_l18_1 p2 p3)), .second, .val (.int (v0_176_l20_1 p2 p3)), .val (.int (v0_180_s0_1 p0 p1 p2 p3))] [])) _
          refine XS.iconst X234.here hx rfl (hb hby at_235) ?_
          exact k247
      exact kk)
    obtain ⟨fs, hr, hrun, hended, hW, hsame⟩ := X234.leave (v := some (.int (nar .boolean (v0_199_s0_1 p0 p1 p2 p3)))) (fun h => by rw [Bd.returns] at h; cases h)
    have hv : (v0_ret p0 p1 p2 p3 p4) = (nar .boolean (v0_199_s0_1 p0 p1 p2 p3)) := (if_neg hc97_191)
    have hone : (nar .boolean (v0_199_s0_1 p0 p1 p2 p3)) = 1 := hv.symm.trans (own_law p0 p1 p2 p3 p4)
    refine ⟨_, _, k248 _ ?_, hrun, hended, _, _, rfl, ?_, ⟨_, rfl⟩, hW, hsame.mono (by decide) (by decide)⟩
    · show Steps p.tables e below (T234.setTop (mkF m 236 #[.val (.int p0), .val (.int p1), .val (.int p2), .val (.int p3), .val (.int p4), .val (.int (v0_7_l5 p0)), .val (.int (v0_17_l6 p0)), .val (.int (v0_30_l7 p0 p1)), .val (.int (p2 &&& (1073741823 : Int32))), .val (.int (p3 &&& (1073741823 : Int32))), .val (.int (v0_48_s0 p4)), .val (.ref b176), .val (.int (v0_76_l12 p0 p1)), .val (.int (v0_83_l13 p0 p1)), .val (.int (v0_107_l14 p0 p1 p2)), .val (.int (v0_121_l15 p0 p1)), .val (.int (v0_135_l16_1 p0 p1 p2 p3)), .val (.int (v0_144_l17_1 p0 p1 p2 p3)), .val (.long (v0_167_l18_1 p2 p3)), .second, .val (.int (v0_176_l20_1 p2 p3)), .val (.int (v0_180_s0_1 p0 p1 p2 p3))] [(.int (v0_199_s0_1 p0 p1 p2 p3))])) _
      exact retN X234 hx (t := .boolean) Bd.returns (by simp) (hb hby at_236) hr
    · show Q0 Z p0 p1 p2 p3 p4 h0 n0 _ T234.heap _
      exact ⟨congrArg (fun z => some (Value.int z)) hone, N234⟩
set_option maxRecDepth 65536 in
set_option maxHeartbeats 40000000 in
theorem comes_1 {Post : Tables → Env → Array Value → State → Outcome → State → Prop} (hpost : ∀ tb e args s v u, (limb_1_1.after args s (.returned v) u = true ∧ limb_1_2.after args s (.returned v) u = true ∧ True) → FrameEnd s (.returned v) u (Jvm.fieldLocs frame_1_writes args s ++ Jvm.arrayLocs frame_1_arrays args s ++ Jvm.staticLocs frame_1_statics s) 16 128 → Post tb e args s (.returned v) u) :
    ArmFor flags0 classFile x code maxLocals ret World_1 tables_1 room_1 Calls_1 rest_1 Pre_1 Post := by
  intro l hfl _ _ p e ha hc hk s m args below hf hA hF happ hP
  obtain ⟨hcalls, hrest, hpre⟩ := hP
  obtain ⟨-, -, -, hnamed, -, -, -, hat⟩ := (Spec.applies_iff hf).mp happ
  obtain ⟨hg, hn⟩ := and_e (Cond.before_iff.mp (show (Jvm.Cond.and given_1 narrow_1).before args s = true from hpre))
  obtain ⟨hcnt, hg0⟩ := and_e hg
  obtain ⟨ha0, hg1⟩ := and_e hg0
  obtain ⟨ha1, hg2⟩ := and_e hg1
  obtain ⟨ha2, hg3⟩ := and_e hg2
  obtain ⟨ha3, hg4⟩ := and_e hg3
  have ha4 := hg4
  obtain ⟨w0, w1, w2, w3, w4, rfl⟩ : ∃ w0 w1 w2 w3 w4 : Value, args = #[w0, w1, w2, w3, w4] := by
    have hs : args.size = 5 := by simpa [Cond.value, given_1] using hcnt
    obtain ⟨L⟩ := args
    match L, hs with
    | [w0, w1, w2, w3, w4], _ => exact ⟨w0, w1, w2, w3, w4, rfl⟩
  have hw := fun d (hd : d ∈ tables_1) => atoms_spec (ws := Jvm.Cond.code x code maxLocals ret :: tables_1) hat d (List.mem_cons_of_mem _ hd)
  have hfit : Fit s := fun {y c} hc i hi => by
    obtain ⟨ha, rfl⟩ := Array.getElem?_eq_some_iff.mp hc
    have q := List.all_eq_true.mp ((Array.all_eq_true_iff_forall_mem.mp hF) _ (Array.getElem_mem ha)) i (List.mem_range.mpr hi)
    simpa [Array.getElem?_eq_getElem hi] using q
  obtain ⟨p0, ea0⟩ := is_v ha0
  obtain rfl : w0 = (.int p0) := Option.some.inj ea0
  obtain ⟨p1, ea1⟩ := is_v ha1
  obtain rfl : w1 = (.int p1) := Option.some.inj ea1
  obtain ⟨p2, ea2⟩ := is_v ha2
  obtain rfl : w2 = (.int p2) := Option.some.inj ea2
  obtain ⟨p3, ea3⟩ := is_v ha3
  obtain rfl : w3 = (.int p3) := Option.some.inj ea3
  obtain ⟨p4, ea4⟩ := is_v ha4
  obtain rfl : w4 = (.int p4) := Option.some.inj ea4
  obtain ⟨n, o, h1, h2, h3, _, L, rfl, ⟨rfl, N⟩, hq⟩ := rm0 l s _ hw tables_1 p0 p1 p2 p3 p4 s.heap s.heap.size (Nat.le_refl _)  p e ha hc hk s m _ below hf ((Spec.applies_iff_loose hf).mp happ).1 ⟨rfl, State.Warmed39.refl s, rfl⟩ trivial
  refine ⟨n, _, h1, h2, h3, hpost _ _ _ _ _ _ ⟨Cond.after_iff.mpr rfl, Cond.after_iff.mpr (eq_i res_at (Term.int_eval (1)) rfl), trivial⟩ ⟨hq.1, hq.2.1, (hq.2.2.sift fun y hy => Or.inr (N y hy)).mono (by decide) (by decide)⟩⟩
theorem main_1_1 : Claimed_1_1 := comes_1 fun _ _ _ _ _ _ h hF => ⟨h.1, hF⟩
theorem main_1_2 : Claimed_1_2 := comes_1 fun _ _ _ _ _ _ h hF => ⟨h.2.1, hF⟩
end Jvm.Pilot.@@N@@
namespace Jvm.Pilot.@@N@@
open Jvm Jvm.ClassFile Sem Op Lib Jvm.Free Jvm.Stand Jvm.Pilot.@@N@@.Jvm.D
/-! MADE BY PROGRAM (witnessworld.py) out of the Statement's table words and the real class files: 15 classes; the members and pool entries that the words name. The judged class is class 1, her method 1. -/
namespace start1
open Jvm.ClassFile
def u (s : String) : CpInfo := .utf8 (stringToUtf16 s)
/-- a pool by its gaps: so many unusable entries, then the entry; so many at the end -/
def gap : Nat → List CpInfo → List CpInfo
  | 0, r => r
  | n + 1, r => .unusable :: gap n r
def poolList (es : List (Nat × CpInfo)) (last : Nat) : List CpInfo := es.foldr (fun e r => gap e.1 (e.2 :: r)) (gap last [])
def pool (es : List (Nat × CpInfo)) (last : Nat) : Array CpInfo := ⟨poolList es last⟩
def fileOf (pool : Array CpInfo) (this : Nat) (attrs : Array Attribute := #[]) (ms : Array MethodInfo := #[]) (fl : Nat := 33) (sup : Nat := 0) (ifs : Array Nat := #[]) (fds : Array FieldInfo := #[]) : ClassFile where
  minorVersion := 0
  majorVersion := 65
  constantPool := pool
  accessFlags := fl
  thisClass := this
  superClass := sup
  interfaces := ifs
  fields := fds
  methods := ms
  attributes := attrs
def plain (name : String) (sup : Option ClassId) : Class where
  name := name
  kind := .ordinary
  loader := none
  accessFlags := 33
  super := sup
  interfaces := #[]
  cf := none
  fields := #[]
  methods := #[]
  instanceTypes := #[]
  staticTypes := #[]
  resolved := #[]
  callSites := []
  init := .initialized
  statics := none
  mirror := none

def pool0 : Array CpInfo := pool [(5, u "<init>"), (0, u "()V"), (1, .class_ 10), (1, u "java/lang/Object")] 113

def k0c0 : Code := { maxStack := 0, maxLocals := 1, code := object_method_1_code, exceptionTable := #[], attributes := #[] }
def k0m0 : Method := { name := "<init>", desc := "()V", sig := { parameters := [], returnType := none }, accessFlags := 1, code := some k0c0 }
/-- java/lang/Object -/
def k0 : Class := { plain "java/lang/Object" none with
  accessFlags := 33
  interfaces := #[]
  cf := some (fileOf pool0 8 #[] #[{ accessFlags := 1, nameIndex := 5, descriptorIndex := 6, attributes := #[] }] 33 0 #[] #[])
  fields := #[]
  methods := #[k0m0]
  instanceTypes := #[]
  staticTypes := #[]
  resolved := Array.replicate 124 none
  statics := none }

def pool1 : Array CpInfo := pool [(2, .class_ 4), (1, u "java/lang/Object"), (0, u "<init>"), (0, u "()V"), (0, .integer 2147483647), (0, .integer 1073741823), (0, .class_ 10), (0, u "phrasebook/ZFormat$Layout"), (0, .methodref 9 12), (0, .nameAndType 5 13), (0, u "(I)V"), (0, .methodref 9 15), (0, .nameAndType 16 17), (0, u "place"), (0, u "(I)I"), (0, .methodref 9 19), (0, .nameAndType 20 21), (0, u "width"), (0, u "()I"), (0, .methodref 9 23), (0, .nameAndType 24 13), (0, u "placeMore"), (0, .methodref 9 26), (0, .nameAndType 27 6), (0, u "endGroup"), (0, .methodref 9 29), (0, .nameAndType 30 17), (0, u "bitsFor"), (0, .long 8), (1, .class_ 34), (0, u "phrasebook/LayoutPlaceMorePinLaw"), (2, u "law"), (0, u "(IIIII)Z")] 7

def k1m0 : Method := { name := "<init>", desc := "()V", sig := { parameters := [], returnType := none }, accessFlags := 1, code := none }
def k1c1 : Code := { maxStack := 4, maxLocals := 22, code := code, exceptionTable := #[], attributes := #[] }
def k1m1 : Method := { name := "law", desc := "(IIIII)Z", sig := { parameters := [.int, .int, .int, .int, .int], returnType := some .boolean }, accessFlags := 9, code := some k1c1 }
/-- phrasebook/LayoutPlaceMorePinLaw -/
def k1 : Class := { plain "phrasebook/LayoutPlaceMorePinLaw" (some 0) with
  accessFlags := 49
  interfaces := #[]
  cf := some (fileOf pool1 33 #[] #[{ accessFlags := 1, nameIndex := 5, descriptorIndex := 6, attributes := #[] }, { accessFlags := 9, nameIndex := 37, descriptorIndex := 38, attributes := #[] }] 49 2 #[] #[])
  fields := #[]
  methods := #[k1m0, k1m1]
  instanceTypes := #[]
  staticTypes := #[]
  resolved := Array.replicate 46 none
  statics := none }

def pool2 : Array CpInfo := pool [(1, .class_ 2), (0, u "phrasebook/ZFormat"), (0, .methodref 4 5), (0, .class_ 6), (0, .nameAndType 7 8), (0, u "java/lang/Object"), (0, u "<init>"), (0, u "()V"), (0, .fieldref 10 11), (0, .class_ 12), (0, .nameAndType 13 14), (0, u "phrasebook/ZFormat$Layout"), (0, u "maxBits"), (0, u "I"), (0, .methodref 10 16), (0, .nameAndType 17 8), (0, u "restart"), (0, .fieldref 10 19), (0, .nameAndType 20 14), (0, u "width"), (0, .fieldref 10 22), (0, .nameAndType 23 14), (0, u "codesInGroup"), (0, .fieldref 10 25), (0, .nameAndType 26 27), (0, u "groupEnded"), (0, u "Z"), (0, .methodref 10 29), (0, .nameAndType 30 31), (0, u "widthFor"), (0, u "(I)I"), (0, .methodref 10 33), (0, .nameAndType 34 35), (0, u "startsGroup"), (0, u "(I)Z"), (0, .methodref 10 37), (0, .nameAndType 38 39), (0, u "restOfGroup"), (0, u "()I"), (0, .class_ 41), (0, u "java/lang/Integer"), (0, .methodref 40 43), (0, .nameAndType 44 31), (0, u "numberOfLeadingZeros"), (0, .methodref 46 47), (0, .class_ 48), (0, .nameAndType 49 50), (0, u "java/lang/Math"), (0, u "min"), (0, u "(II)I"), (0, u "(I)V"), (2, u "place"), (1, u "bitsFor"), (0, u "placeMore"), (0, u "endGroup")] 5

def k2c0 : Code := { maxStack := 2, maxLocals := 2, code := prog_49_method_1_code, exceptionTable := #[], attributes := #[] }
def k2m0 : Method := { name := "<init>", desc := "(I)V", sig := { parameters := [.int], returnType := none }, accessFlags := 0, code := some k2c0 }
def k2c1 : Code := { maxStack := 2, maxLocals := 1, code := prog_49_method_2_code, exceptionTable := #[], attributes := #[] }
def k2m1 : Method := { name := "restart", desc := "()V", sig := { parameters := [], returnType := none }, accessFlags := 0, code := some k2c1 }
def k2c2 : Code := { maxStack := 3, maxLocals := 4, code := prog_49_method_3_code, exceptionTable := #[], attributes := #[] }
def k2m2 : Method := { name := "place", desc := "(I)I", sig := { parameters := [.int], returnType := some .int }, accessFlags := 0, code := some k2c2 }
def k2c3 : Code := { maxStack := 2, maxLocals := 3, code := prog_49_method_4_code, exceptionTable := #[], attributes := #[] }
def k2m3 : Method := { name := "bitsFor", desc := "(I)I", sig := { parameters := [.int], returnType := some .int }, accessFlags := 0, code := some k2c3 }
def k2c4 : Code := { maxStack := 3, maxLocals := 2, code := prog_49_method_5_code, exceptionTable := #[], attributes := #[] }
def k2m4 : Method := { name := "placeMore", desc := "(I)V", sig := { parameters := [.int], returnType := none }, accessFlags := 0, code := some k2c4 }
def k2c5 : Code := { maxStack := 1, maxLocals := 1, code := prog_49_method_6_code, exceptionTable := #[], attributes := #[] }
def k2m5 : Method := { name := "width", desc := "()I", sig := { parameters := [], returnType := some .int }, accessFlags := 0, code := some k2c5 }
def k2c6 : Code := { maxStack := 2, maxLocals := 1, code := prog_49_method_7_code, exceptionTable := #[], attributes := #[] }
def k2m6 : Method := { name := "endGroup", desc := "()V", sig := { parameters := [], returnType := none }, accessFlags := 0, code := some k2c6 }
def k2c7 : Code := { maxStack := 2, maxLocals := 2, code := prog_49_method_8_code, exceptionTable := #[], attributes := #[] }
def k2m7 : Method := { name := "startsGroup", desc := "(I)Z", sig := { parameters := [.int], returnType := some .boolean }, accessFlags := 2, code := some k2c7 }
def k2c8 : Code := { maxStack := 2, maxLocals := 1, code := prog_49_method_9_code, exceptionTable := #[], attributes := #[] }
def k2m8 : Method := { name := "restOfGroup", desc := "()I", sig := { parameters := [], returnType := some .int }, accessFlags := 2, code := some k2c8 }
def k2c9 : Code := { maxStack := 2, maxLocals := 3, code := prog_49_method_10_code, exceptionTable := #[], attributes := #[] }
def k2m9 : Method := { name := "widthFor", desc := "(I)I", sig := { parameters := [.int], returnType := some .int }, accessFlags := 2, code := some k2c9 }
/-- phrasebook/ZFormat$Layout -/
def k2 : Class := { plain "phrasebook/ZFormat$Layout" (some 0) with
  accessFlags := 48
  interfaces := #[]
  cf := some (fileOf pool2 10 #[.nestHost 1] #[{ accessFlags := 0, nameIndex := 7, descriptorIndex := 51, attributes := #[] }, { accessFlags := 0, nameIndex := 17, descriptorIndex := 8, attributes := #[] }, { accessFlags := 0, nameIndex := 54, descriptorIndex := 31, attributes := #[] }, { accessFlags := 0, nameIndex := 56, descriptorIndex := 31, attributes := #[] }, { accessFlags := 0, nameIndex := 57, descriptorIndex := 51, attributes := #[] }, { accessFlags := 0, nameIndex := 20, descriptorIndex := 39, attributes := #[] }, { accessFlags := 0, nameIndex := 58, descriptorIndex := 8, attributes := #[] }, { accessFlags := 2, nameIndex := 34, descriptorIndex := 35, attributes := #[] }, { accessFlags := 2, nameIndex := 38, descriptorIndex := 39, attributes := #[] }, { accessFlags := 2, nameIndex := 30, descriptorIndex := 31, attributes := #[] }] 48 4 #[] #[{ accessFlags := 18, nameIndex := 13, descriptorIndex := 14, attributes := #[] }, { accessFlags := 2, nameIndex := 20, descriptorIndex := 14, attributes := #[] }, { accessFlags := 2, nameIndex := 23, descriptorIndex := 14, attributes := #[] }, { accessFlags := 2, nameIndex := 26, descriptorIndex := 27, attributes := #[] }])
  fields := #[{ name := "maxBits", type := .int, accessFlags := 18, slot := 0, constantValue := 0 }, { name := "width", type := .int, accessFlags := 2, slot := 1, constantValue := 0 }, { name := "codesInGroup", type := .int, accessFlags := 2, slot := 2, constantValue := 0 }, { name := "groupEnded", type := .boolean, accessFlags := 2, slot := 3, constantValue := 0 }]
  methods := #[k2m0, k2m1, k2m2, k2m3, k2m4, k2m5, k2m6, k2m7, k2m8, k2m9]
  instanceTypes := #[.int, .int, .int, .boolean]
  staticTypes := #[]
  resolved := Array.replicate 64 none
  statics := none }

def pool3 : Array CpInfo := pool [(1, .class_ 2), (0, u "java/io/Serializable"), (0, .class_ 4), (0, u "java/lang/Object")] 2

/-- java/io/Serializable -/
def k3 : Class := { plain "java/io/Serializable" (some 0) with
  accessFlags := 1537
  interfaces := #[]
  cf := some (fileOf pool3 1 #[] #[] 1537 3 #[] #[])
  fields := #[]
  methods := #[]
  instanceTypes := #[]
  staticTypes := #[]
  resolved := Array.replicate 7 none
  statics := none }

def pool4 : Array CpInfo := pool [(2, .class_ 4), (1, u "java/lang/Object"), (0, u "<init>"), (0, u "()V"), (1, .class_ 10), (1, u "java/lang/Number"), (2, .class_ 14), (0, u "java/io/Serializable"), (0, u "serialVersionUID"), (0, u "J")] 20

def k4m0 : Method := { name := "<init>", desc := "()V", sig := { parameters := [], returnType := none }, accessFlags := 1, code := none }
/-- java/lang/Number -/
def k4 : Class := { plain "java/lang/Number" (some 0) with
  accessFlags := 1057
  interfaces := #[3]
  cf := some (fileOf pool4 8 #[] #[{ accessFlags := 1, nameIndex := 5, descriptorIndex := 6, attributes := #[] }] 1057 2 #[13] #[{ accessFlags := 26, nameIndex := 15, descriptorIndex := 16, attributes := #[] }])
  fields := #[{ name := "serialVersionUID", type := .long, accessFlags := 26, slot := 0, constantValue := 0 }]
  methods := #[k4m0]
  instanceTypes := #[]
  staticTypes := #[.long]
  resolved := Array.replicate 37 none
  statics := none }

def pool5 : Array CpInfo := pool [(1, .class_ 2), (0, u "java/lang/Comparable"), (0, .class_ 4), (0, u "java/lang/Object")] 7

/-- java/lang/Comparable -/
def k5 : Class := { plain "java/lang/Comparable" (some 0) with
  accessFlags := 1537
  interfaces := #[]
  cf := some (fileOf pool5 1 #[] #[] 1537 3 #[] #[])
  fields := #[]
  methods := #[]
  instanceTypes := #[]
  staticTypes := #[]
  resolved := Array.replicate 12 none
  statics := none }

def pool6 : Array CpInfo := pool [(1, .class_ 2), (0, u "java/lang/constant/Constable"), (0, .class_ 4), (0, u "java/lang/Object")] 6

/-- java/lang/constant/Constable -/
def k6 : Class := { plain "java/lang/constant/Constable" (some 0) with
  accessFlags := 1537
  interfaces := #[]
  cf := some (fileOf pool6 1 #[] #[] 1537 3 #[] #[])
  fields := #[]
  methods := #[]
  instanceTypes := #[]
  staticTypes := #[]
  resolved := Array.replicate 11 none
  statics := none }

def pool7 : Array CpInfo := pool [(1, .class_ 2), (0, u "java/lang/constant/ConstantDesc"), (0, .class_ 4), (0, u "java/lang/Object")] 32

/-- java/lang/constant/ConstantDesc -/
def k7 : Class := { plain "java/lang/constant/ConstantDesc" (some 0) with
  accessFlags := 1537
  interfaces := #[]
  cf := some (fileOf pool7 1 #[] #[] 1537 3 #[] #[])
  fields := #[]
  methods := #[]
  instanceTypes := #[]
  staticTypes := #[]
  resolved := Array.replicate 37 none
  statics := none }

def pool8 : Array CpInfo := pool [(1, .class_ 2), (0, u "java/lang/Integer"), (16, u "digits"), (0, u "[C"), (32, u "numberOfLeadingZeros"), (0, u "(I)I"), (30, u "DigitOnes"), (0, u "[B"), (2, u "DigitTens"), (99, .class_ 190), (0, u "java/lang/Integer$IntegerCache"), (3, u "I"), (8, .class_ 204), (0, u "java/lang/Number"), (2, u "value"), (56, .integer 65536), (37, u "TYPE"), (0, u "Ljava/lang/Class;"), (0, .class_ 305), (0, u "java/lang/Comparable"), (0, .class_ 307), (0, u "java/lang/constant/Constable"), (0, .class_ 309), (0, u "java/lang/constant/ConstantDesc"), (0, u "MIN_VALUE"), (1, u "MAX_VALUE"), (3, u "SIZE"), (1, u "BYTES"), (1, u "serialVersionUID"), (0, u "J")] 131

def k8c0 : Code := { maxStack := 3, maxLocals := 2, code := jdk_33_method_47_code, exceptionTable := #[], attributes := #[] }
def k8m0 : Method := { name := "numberOfLeadingZeros", desc := "(I)I", sig := { parameters := [.int], returnType := some .int }, accessFlags := 9, code := some k8c0 }
/-- java/lang/Integer -/
def k8 : Class := { plain "java/lang/Integer" (some 4) with
  accessFlags := 49
  interfaces := #[5, 6, 7]
  cf := some (fileOf pool8 1 #[.nestMembers #[189]] #[{ accessFlags := 9, nameIndex := 53, descriptorIndex := 54, attributes := #[] }] 49 203 #[304, 306, 308] #[{ accessFlags := 25, nameIndex := 310, descriptorIndex := 194, attributes := #[] }, { accessFlags := 25, nameIndex := 312, descriptorIndex := 194, attributes := #[] }, { accessFlags := 25, nameIndex := 302, descriptorIndex := 303, attributes := #[] }, { accessFlags := 24, nameIndex := 19, descriptorIndex := 20, attributes := #[] }, { accessFlags := 24, nameIndex := 89, descriptorIndex := 86, attributes := #[] }, { accessFlags := 24, nameIndex := 85, descriptorIndex := 86, attributes := #[] }, { accessFlags := 18, nameIndex := 207, descriptorIndex := 194, attributes := #[] }, { accessFlags := 25, nameIndex := 316, descriptorIndex := 194, attributes := #[] }, { accessFlags := 25, nameIndex := 318, descriptorIndex := 194, attributes := #[] }, { accessFlags := 26, nameIndex := 320, descriptorIndex := 321, attributes := #[] }])
  fields := #[{ name := "MIN_VALUE", type := .int, accessFlags := 25, slot := 0, constantValue := 0 }, { name := "MAX_VALUE", type := .int, accessFlags := 25, slot := 1, constantValue := 0 }, { name := "TYPE", type := (.object "java/lang/Class"), accessFlags := 25, slot := 2, constantValue := 0 }, { name := "digits", type := (.array .char), accessFlags := 24, slot := 3, constantValue := 0 }, { name := "DigitTens", type := (.array .byte), accessFlags := 24, slot := 4, constantValue := 0 }, { name := "DigitOnes", type := (.array .byte), accessFlags := 24, slot := 5, constantValue := 0 }, { name := "value", type := .int, accessFlags := 18, slot := 0, constantValue := 0 }, { name := "SIZE", type := .int, accessFlags := 25, slot := 6, constantValue := 0 }, { name := "BYTES", type := .int, accessFlags := 25, slot := 7, constantValue := 0 }, { name := "serialVersionUID", type := .long, accessFlags := 26, slot := 8, constantValue := 0 }]
  methods := #[k8m0]
  instanceTypes := #[.int]
  staticTypes := #[.int, .int, (.object "java/lang/Class"), (.array .char), (.array .byte), (.array .byte), .int, .int, .long]
  resolved := Array.replicate 453 none
  statics := none }

def pool9 : Array CpInfo := pool [(1, .class_ 2), (0, u "java/lang/Math"), (1, .class_ 6), (1, u "java/lang/Object"), (0, u "<init>"), (0, u "()V"), (89, .class_ 100), (1, u "java/lang/Math$RandomNumberGeneratorHolder"), (71, u "negativeZeroFloatBits"), (0, u "J"), (2, u "negativeZeroDoubleBits"), (24, u "min"), (43, u "$assertionsDisabled"), (0, u "Z"), (88, u "(II)I"), (2, u "twoToTheDoubleScaleDown"), (0, u "D"), (4, u "twoToTheDoubleScaleUp"), (9, u "E"), (3, u "PI"), (2, u "TAU"), (2, u "DEGREES_TO_RADIANS"), (0, u "RADIANS_TO_DEGREES")] 94

def k9m0 : Method := { name := "<init>", desc := "()V", sig := { parameters := [], returnType := none }, accessFlags := 2, code := none }
def k9c1 : Code := { maxStack := 2, maxLocals := 2, code := jdk_29_method_69_code, exceptionTable := #[], attributes := #[] }
def k9m1 : Method := { name := "min", desc := "(II)I", sig := { parameters := [.int, .int], returnType := some .int }, accessFlags := 9, code := some k9c1 }
/-- java/lang/Math -/
def k9 : Class := { plain "java/lang/Math" (some 0) with
  accessFlags := 49
  interfaces := #[]
  cf := some (fileOf pool9 1 #[.nestMembers #[98]] #[{ accessFlags := 2, nameIndex := 7, descriptorIndex := 8, attributes := #[] }, { accessFlags := 9, nameIndex := 201, descriptorIndex := 335, attributes := #[] }] 49 4 #[] #[{ accessFlags := 25, nameIndex := 354, descriptorIndex := 339, attributes := #[] }, { accessFlags := 25, nameIndex := 358, descriptorIndex := 339, attributes := #[] }, { accessFlags := 25, nameIndex := 361, descriptorIndex := 339, attributes := #[] }, { accessFlags := 26, nameIndex := 364, descriptorIndex := 339, attributes := #[] }, { accessFlags := 26, nameIndex := 365, descriptorIndex := 339, attributes := #[] }, { accessFlags := 26, nameIndex := 172, descriptorIndex := 173, attributes := #[] }, { accessFlags := 26, nameIndex := 176, descriptorIndex := 173, attributes := #[] }, { accessFlags := 8, nameIndex := 344, descriptorIndex := 339, attributes := #[] }, { accessFlags := 8, nameIndex := 338, descriptorIndex := 339, attributes := #[] }, { accessFlags := 4120, nameIndex := 245, descriptorIndex := 246, attributes := #[] }])
  fields := #[{ name := "E", type := .double, accessFlags := 25, slot := 0, constantValue := 0 }, { name := "PI", type := .double, accessFlags := 25, slot := 1, constantValue := 0 }, { name := "TAU", type := .double, accessFlags := 25, slot := 2, constantValue := 0 }, { name := "DEGREES_TO_RADIANS", type := .double, accessFlags := 26, slot := 3, constantValue := 0 }, { name := "RADIANS_TO_DEGREES", type := .double, accessFlags := 26, slot := 4, constantValue := 0 }, { name := "negativeZeroFloatBits", type := .long, accessFlags := 26, slot := 5, constantValue := 0 }, { name := "negativeZeroDoubleBits", type := .long, accessFlags := 26, slot := 6, constantValue := 0 }, { name := "twoToTheDoubleScaleUp", type := .double, accessFlags := 8, slot := 7, constantValue := 0 }, { name := "twoToTheDoubleScaleDown", type := .double, accessFlags := 8, slot := 8, constantValue := 0 }, { name := "$assertionsDisabled", type := .boolean, accessFlags := 4120, slot := 9, constantValue := 0 }]
  methods := #[k9m0, k9m1]
  instanceTypes := #[]
  staticTypes := #[.double, .double, .double, .double, .double, .long, .long, .double, .double, .boolean]
  resolved := Array.replicate 460 none
  statics := none }

def pool10 : Array CpInfo := pool [(1, u "java/lang/Cloneable"), (0, .class_ 1), (0, u "java/lang/Object"), (0, .class_ 3)] 3

/-- java/lang/Cloneable -/
def k10 : Class := { plain "java/lang/Cloneable" (some 0) with
  accessFlags := 1537
  interfaces := #[]
  cf := some (fileOf pool10 2 #[] #[] 1537 4 #[] #[])
  fields := #[]
  methods := #[]
  instanceTypes := #[]
  staticTypes := #[]
  resolved := Array.replicate 8 none
  statics := none }

/-- the primitive byte -/
def k11 : Class := { plain "byte" none with kind := .primitive 'B', accessFlags := 0x411 }
/-- [B -/
def k12 : Class := { plain "[B" (some 0) with kind := .array 11 .byte, interfaces := #[10, 3], accessFlags := 1041 }

/-- the primitive int -/
def k13 : Class := { plain "int" none with kind := .primitive 'I', accessFlags := 0x411 }
/-- [I -/
def k14 : Class := { plain "[I" (some 0) with kind := .array 13 .int, interfaces := #[10, 3], accessFlags := 1041 }

def heap : Heap := #[]
def classes : Array Class := #[k0, k1, k2, k3, k4, k5, k6, k7, k8, k9, k10, k11, k12, k13, k14]
def interned : List (Array UInt16 × Addr) := []
def slotsUsed : Nat := 0
def theMethod : MethodId := ⟨1, 1⟩
def args0 : Array Value := #[.int 1, .int 2, .int 3, .int 4, .int 5]
def aboutOver (below : List Frame) : State where
  vm := { classes := classes, interned := interned.toArray }
  heap := heap
  slotsUsed := slotsUsed
  threads := #[{ frames := .invoking theMethod args0 :: below }]
def below0 : List Frame := [.native { method := ⟨0, 0⟩, args := #[] }]
def about1 : State := aboutOver below0
def p0 : Program := .bare "" "" ""
def e0 : Env := launch0.env 0 0 0
theorem w_frames : about1.frames = Frame.invoking theMethod args0 :: below0 := rfl
set_option maxRecDepth 65536 in
theorem w_args : argsFit about1.vm theMethod args0 = true := by decide +kernel
set_option maxRecDepth 65536 in
theorem w_heap : heapFits about1 = true := by decide +kernel
set_option maxRecDepth 65536 in
theorem w_runnable : about1.curStatus? = some .runnable := by decide +kernel
set_option maxRecDepth 65536 in
theorem w_alone : about1.alone = true := by decide +kernel
set_option maxRecDepth 65536 in
theorem w_named : about1.methodNamed? x = some theMethod := by decide +kernel
set_option maxRecDepth 65536 in
theorem w_hears : about1.hears theMethod below0 = true := by decide +kernel
set_option maxRecDepth 65536 in
theorem w_ripe : about1.ripe theMethod args0 below0 = true := by decide +kernel
theorem w_running : about1.status = .running := rfl
set_option maxRecDepth 65536 in
theorem w_room : about1.hasRoom e0.platform room_1 = true :=
  launch0.hasRoom_least _ room_1 (by decide +kernel) (by decide +kernel) (by decide +kernel) (by decide +kernel) (by decide +kernel) (by decide +kernel)
theorem allAtoms_all (ts : List Jvm.Cond) (a : Array Jvm.Value) (st : Jvm.State) : (allAtoms ts).before a st = ts.all (fun c => c.before a st) := by
  induction ts with
  | nil => rfl
  | cons c t ih =>
    show (Jvm.Cond.and c (allAtoms t)).before a st = _
    rw [Jvm.Cond.before_and, ih, List.all_cons]
def words1 : List Jvm.Cond := Jvm.Cond.code x code maxLocals ret :: tables_1
/-- a 'code' word, met by the world's own term for the bytes: nothing is compared byte by byte -/
theorem code_word {y : MethodName} {bytes : ByteArray} {mx : Nat} {rt : Option FieldType} {a : Array Value} {s : State} {m : MethodId} {meth : Method} {c : Code} (h1 : s.methodNamed? y = some m) (h2 : s.vm.method? m = some meth) (h3 : meth.code = some c) (h4 : c.code = bytes)
    (h5 : (c.maxLocals == mx && c.exceptionTable.isEmpty && decide (c.maxStack ≤ mostOperands) && decide (meth.sig.returnType = rt) && !meth.locks && decide (parseMethodDescriptor y.desc = some meth.sig)) = true) : (Jvm.Cond.code y bytes mx rt).before a s = true := by
  simp only [Bool.and_eq_true, beq_iff_eq, Bool.not_eq_true', decide_eq_true_eq] at h5
  obtain ⟨⟨⟨⟨⟨g1, g2⟩, g3⟩, g4⟩, g5⟩, g6⟩ := h5
  simp [Cond.before, Cond.holds, Cond.value, h1, h2, h3, h4, g1, g2, g3, g4, g5, g6]
def isCode : Jvm.Cond → Bool
  | .code _ _ _ _ => true
  | _ => false
theorem all_split {L : List Jvm.Cond} {P : Jvm.Cond → Bool} (h1 : L.all (fun c => isCode c || P c) = true) (h2 : ∀ c ∈ L.filter isCode, P c = true) : L.all P = true := by
  refine List.all_eq_true.mpr fun c hc => ?_
  have h := List.all_eq_true.mp h1 c hc
  rcases Bool.eq_false_or_eq_true (isCode c) with hi | hi
  · exact h2 c (List.mem_filter.mpr ⟨hc, hi⟩)
  · simpa [hi] using h
set_option maxRecDepth 65536 in
theorem w_c0 : (Jvm.Cond.code x code maxLocals ret).before args0 about1 = true := code_word (m := ⟨1, 1⟩) (meth := k1m1) (c := k1c1) (by decide +kernel) rfl rfl rfl (by decide +kernel)
set_option maxRecDepth 65536 in
theorem w_c1 : (Jvm.Cond.code ({ cls := "phrasebook/ZFormat$Layout", name := "<init>", desc := "(I)V" } : Jvm.MethodName) prog_49_method_1_code (2 : Nat) (Option.none : Option Jvm.ClassFile.FieldType)).before args0 about1 = true := code_word (m := ⟨2, 0⟩) (meth := k2m0) (c := k2c0) (by decide +kernel) rfl rfl rfl (by decide +kernel)
set_option maxRecDepth 65536 in
theorem w_c2 : (Jvm.Cond.code ({ cls := "java/lang/Object", name := "<init>", desc := "()V" } : Jvm.MethodName) object_method_1_code (1 : Nat) (Option.none : Option Jvm.ClassFile.FieldType)).before args0 about1 = true := code_word (m := ⟨0, 0⟩) (meth := k0m0) (c := k0c0) (by decide +kernel) rfl rfl rfl (by decide +kernel)
set_option maxRecDepth 65536 in
theorem w_c3 : (Jvm.Cond.code ({ cls := "phrasebook/ZFormat$Layout", name := "restart", desc := "()V" } : Jvm.MethodName) prog_49_method_2_code (1 : Nat) (Option.none : Option Jvm.ClassFile.FieldType)).before args0 about1 = true := code_word (m := ⟨2, 1⟩) (meth := k2m1) (c := k2c1) (by decide +kernel) rfl rfl rfl (by decide +kernel)
set_option maxRecDepth 65536 in
theorem w_c4 : (Jvm.Cond.code ({ cls := "phrasebook/ZFormat$Layout", name := "place", desc := "(I)I" } : Jvm.MethodName) prog_49_method_3_code (4 : Nat) (Option.some Jvm.ClassFile.FieldType.int)).before args0 about1 = true := code_word (m := ⟨2, 2⟩) (meth := k2m2) (c := k2c2) (by decide +kernel) rfl rfl rfl (by decide +kernel)
set_option maxRecDepth 65536 in
theorem w_c5 : (Jvm.Cond.code ({ cls := "phrasebook/ZFormat$Layout", name := "widthFor", desc := "(I)I" } : Jvm.MethodName) prog_49_method_10_code (3 : Nat) (Option.some Jvm.ClassFile.FieldType.int)).before args0 about1 = true := code_word (m := ⟨2, 9⟩) (meth := k2m9) (c := k2c9) (by decide +kernel) rfl rfl rfl (by decide +kernel)
set_option maxRecDepth 65536 in
theorem w_c6 : (Jvm.Cond.code ({ cls := "java/lang/Integer", name := "numberOfLeadingZeros", desc := "(I)I" } : Jvm.MethodName) jdk_33_method_47_code (2 : Nat) (Option.some Jvm.ClassFile.FieldType.int)).before args0 about1 = true := code_word (m := ⟨8, 0⟩) (meth := k8m0) (c := k8c0) (by decide +kernel) rfl rfl rfl (by decide +kernel)
set_option maxRecDepth 65536 in
theorem w_c7 : (Jvm.Cond.code ({ cls := "phrasebook/ZFormat$Layout", name := "startsGroup", desc := "(I)Z" } : Jvm.MethodName) prog_49_method_8_code (2 : Nat) (Option.some Jvm.ClassFile.FieldType.boolean)).before args0 about1 = true := code_word (m := ⟨2, 7⟩) (meth := k2m7) (c := k2c7) (by decide +kernel) rfl rfl rfl (by decide +kernel)
set_option maxRecDepth 65536 in
theorem w_c8 : (Jvm.Cond.code ({ cls := "phrasebook/ZFormat$Layout", name := "width", desc := "()I" } : Jvm.MethodName) prog_49_method_6_code (1 : Nat) (Option.some Jvm.ClassFile.FieldType.int)).before args0 about1 = true := code_word (m := ⟨2, 5⟩) (meth := k2m5) (c := k2c5) (by decide +kernel) rfl rfl rfl (by decide +kernel)
set_option maxRecDepth 65536 in
theorem w_c9 : (Jvm.Cond.code ({ cls := "phrasebook/ZFormat$Layout", name := "placeMore", desc := "(I)V" } : Jvm.MethodName) prog_49_method_5_code (2 : Nat) (Option.none : Option Jvm.ClassFile.FieldType)).before args0 about1 = true := code_word (m := ⟨2, 4⟩) (meth := k2m4) (c := k2c4) (by decide +kernel) rfl rfl rfl (by decide +kernel)
set_option maxRecDepth 65536 in
theorem w_c10 : (Jvm.Cond.code ({ cls := "phrasebook/ZFormat$Layout", name := "endGroup", desc := "()V" } : Jvm.MethodName) prog_49_method_7_code (1 : Nat) (Option.none : Option Jvm.ClassFile.FieldType)).before args0 about1 = true := code_word (m := ⟨2, 6⟩) (meth := k2m6) (c := k2c6) (by decide +kernel) rfl rfl rfl (by decide +kernel)
set_option maxRecDepth 65536 in
theorem w_c11 : (Jvm.Cond.code ({ cls := "phrasebook/ZFormat$Layout", name := "bitsFor", desc := "(I)I" } : Jvm.MethodName) prog_49_method_4_code (3 : Nat) (Option.some Jvm.ClassFile.FieldType.int)).before args0 about1 = true := code_word (m := ⟨2, 3⟩) (meth := k2m3) (c := k2c3) (by decide +kernel) rfl rfl rfl (by decide +kernel)
set_option maxRecDepth 65536 in
theorem w_c12 : (Jvm.Cond.code ({ cls := "phrasebook/ZFormat$Layout", name := "restOfGroup", desc := "()I" } : Jvm.MethodName) prog_49_method_9_code (1 : Nat) (Option.some Jvm.ClassFile.FieldType.int)).before args0 about1 = true := code_word (m := ⟨2, 8⟩) (meth := k2m8) (c := k2c8) (by decide +kernel) rfl rfl rfl (by decide +kernel)
set_option maxRecDepth 65536 in
theorem w_c13 : (Jvm.Cond.code ({ cls := "java/lang/Math", name := "min", desc := "(II)I" } : Jvm.MethodName) jdk_29_method_69_code (2 : Nat) (Option.some Jvm.ClassFile.FieldType.int)).before args0 about1 = true := code_word (m := ⟨9, 1⟩) (meth := k9m1) (c := k9c1) (by decide +kernel) rfl rfl rfl (by decide +kernel)
def codes1 : List Jvm.Cond := [Jvm.Cond.code x code maxLocals ret, Jvm.Cond.code ({ cls := "phrasebook/ZFormat$Layout", name := "<init>", desc := "(I)V" } : Jvm.MethodName) prog_49_method_1_code (2 : Nat) (Option.none : Option Jvm.ClassFile.FieldType), Jvm.Cond.code ({ cls := "java/lang/Object", name := "<init>", desc := "()V" } : Jvm.MethodName) object_method_1_code (1 : Nat) (Option.none : Option Jvm.ClassFile.FieldType), Jvm.Cond.code ({ cls := "phrasebook/ZFormat$Layout", name := "restart", desc := "()V" } : Jvm.MethodName) prog_49_method_2_code (1 : Nat) (Option.none : Option Jvm.ClassFile.FieldType), Jvm.Cond.code ({ cls := "phrasebook/ZFormat$Layout", name := "place", desc := "(I)I" } : Jvm.MethodName) prog_49_method_3_code (4 : Nat) (Option.some Jvm.ClassFile.FieldType.int), Jvm.Cond.code ({ cls := "phrasebook/ZFormat$Layout", name := "widthFor", desc := "(I)I" } : Jvm.MethodName) prog_49_method_10_code (3 : Nat) (Option.some Jvm.ClassFile.FieldType.int), Jvm.Cond.code ({ cls := "java/lang/Integer", name := "numberOfLeadingZeros", desc := "(I)I" } : Jvm.MethodName) jdk_33_method_47_code (2 : Nat) (Option.some Jvm.ClassFile.FieldType.int), Jvm.Cond.code ({ cls := "phrasebook/ZFormat$Layout", name := "startsGroup", desc := "(I)Z" } : Jvm.MethodName) prog_49_method_8_code (2 : Nat) (Option.some Jvm.ClassFile.FieldType.boolean), Jvm.Cond.code ({ cls := "phrasebook/ZFormat$Layout", name := "width", desc := "()I" } : Jvm.MethodName) prog_49_method_6_code (1 : Nat) (Option.some Jvm.ClassFile.FieldType.int), Jvm.Cond.code ({ cls := "phrasebook/ZFormat$Layout", name := "placeMore", desc := "(I)V" } : Jvm.MethodName) prog_49_method_5_code (2 : Nat) (Option.none : Option Jvm.ClassFile.FieldType), Jvm.Cond.code ({ cls := "phrasebook/ZFormat$Layout", name := "endGroup", desc := "()V" } : Jvm.MethodName) prog_49_method_7_code (1 : Nat) (Option.none : Option Jvm.ClassFile.FieldType), Jvm.Cond.code ({ cls := "phrasebook/ZFormat$Layout", name := "bitsFor", desc := "(I)I" } : Jvm.MethodName) prog_49_method_4_code (3 : Nat) (Option.some Jvm.ClassFile.FieldType.int), Jvm.Cond.code ({ cls := "phrasebook/ZFormat$Layout", name := "restOfGroup", desc := "()I" } : Jvm.MethodName) prog_49_method_9_code (1 : Nat) (Option.some Jvm.ClassFile.FieldType.int), Jvm.Cond.code ({ cls := "java/lang/Math", name := "min", desc := "(II)I" } : Jvm.MethodName) jdk_29_method_69_code (2 : Nat) (Option.some Jvm.ClassFile.FieldType.int)]
set_option maxRecDepth 65536 in
theorem codes_eq : words1.filter isCode = codes1 := rfl
theorem w_codes : ∀ c ∈ words1.filter isCode, c.before args0 about1 = true := by
  rw [codes_eq]
  intro c hc
  simp only [codes1, List.mem_cons, List.not_mem_nil, or_false] at hc
  rcases hc with rfl | rfl | rfl | rfl | rfl | rfl | rfl | rfl | rfl | rfl | rfl | rfl | rfl | rfl
  · exact w_c0
  · exact w_c1
  · exact w_c2
  · exact w_c3
  · exact w_c4
  · exact w_c5
  · exact w_c6
  · exact w_c7
  · exact w_c8
  · exact w_c9
  · exact w_c10
  · exact w_c11
  · exact w_c12
  · exact w_c13
set_option maxRecDepth 65536 in
theorem w_t1 : (words1.take 24).all (fun c => isCode c || c.before args0 about1) = true := by decide +kernel
set_option maxRecDepth 65536 in
theorem w_t2 : ((words1.drop 24).take 24).all (fun c => isCode c || c.before args0 about1) = true := by decide +kernel
set_option maxRecDepth 65536 in
theorem w_t3 : ((words1.drop 24).drop 24).all (fun c => isCode c || c.before args0 about1) = true := by decide +kernel
theorem w_tables : (allAtoms (Jvm.Cond.code x code maxLocals ret :: tables_1)).before args0 about1 = true := by
  rw [allAtoms_all]
  show words1.all (fun c => c.before args0 about1) = true
  refine all_split ?_ w_codes
  rw [← List.take_append_drop 24 words1, List.all_append, w_t1, ← List.take_append_drop 24 (words1.drop 24), List.all_append, w_t2, w_t3]
  rfl
set_option maxRecDepth 65536 in
theorem w_case : (Jvm.Cond.and given_1 narrow_1).before args0 about1 = true := by decide +kernel
theorem w_applies : (headSpec (Jvm.Cond.code x code maxLocals ret :: tables_1) room_1).applies x e0.platform about1 = true :=
  (Spec.applies_iff w_frames).mpr ⟨w_running, w_runnable, w_alone, w_named, w_hears, w_ripe, w_room, w_tables⟩
theorem atStart : AtStart classFile x code maxLocals ret World_1 tables_1 room_1 Calls_1 rest_1 Pre_1 launch0 p0 e0 about1 theMethod args0 below0 :=
  ⟨lists_1, trivial, launch0.admits_env _ _ _, launch0.least_env, fairChoices_fair.cas, fairChoices_fair.clock, w_frames, w_args, w_heap, w_applies, trivial, trivial, w_case⟩
end start1
theorem witness_1 : WitnessClaimed_1 := ⟨start1.p0, start1.e0, start1.about1, start1.theMethod, start1.args0, start1.below0, start1.atStart⟩
end Jvm.Pilot.@@N@@
