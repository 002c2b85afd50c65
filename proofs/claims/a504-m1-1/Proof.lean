import JvmDerived
import JvmDerived.Pilot.@@N@@Statement
import JvmDerived.Pilot.@@N@@Code
set_option linter.unusedVariables false
set_option linter.unusedSimpArgs false
namespace Jvm.RoadKit
open Sem ClassFile Op Lib Jvm.Stand Jvm.Free Jvm.LawKit
section New
variable {p : Program} {l : Launch} {e : Env} {R : Room} {s : State} {m : MethodId} {args : Array Value} {below : List Frame} {meth : Method} {c : Code} {T : State} {locs : List Loc} {cells slots : Nat}
theorem retI (X : Stand p l e R s m args below meth c T locs cells slots) (hx : p.tables.exec = Jvm.exec) {pc : Nat} {Ls : Array Slot} {z : Int32} {rest : List Value} (hret : meth.sig.returnType = some .int) (hd : decode c.code pc = .ok (.ireturn, 1)) {fs : List Frame}
    (hl : ∀ (f : JFrame) (acts : List Action), f.method = m → f.locked = none → f.entered = [] → (doReturn e (T.setTop f) acts (some (.int z))).1 = T.setFrames fs) : Steps p.tables e below (T.setTop (mkF m pc Ls (.int z :: rest))) (T.setFrames fs) := by
  have hm' : T.vm.method? m = some meth := X.method'
  have hn : narrow .int (.int z) = .int z := rfl
  show Steps p.tables e below (T.setTop { method := m, pc := pc, locals := Ls, stack := _ :: rest, locked := none }) _
  jvm_step X.here [X.here.top, hx, hd, hm', hret, hn]
  first | (intro acts; rw [hl _ acts rfl rfl rfl]) | rw [hl _ _ rfl rfl rfl]
  exact Steps.refl _
theorem own_lremM {g : JFrame} {target : State} (X : Stand p l e R s m args below meth c T locs cells slots) (hx : p.tables.exec = Jvm.exec) (hg : g.method = m) {x y : Int64} {rest : List Value} (hd : decode c.code g.pc = .ok (.lrem, 1)) (hs : g.stack = .long y :: .long x :: rest) (hy : y ≠ 0)
    (hr : Steps p.tables e below (T.setTop { g with pc := g.pc + 1, stack := .long (x % y) :: rest }) target) : Steps p.tables e below (T.setTop g) target := by
  have q : x - x / y * y = x % y := lrem_mod x y
  exact XS.lrem X.here hx hg hd hs hy (by rw [q]; exact hr)
theorem own_getD_int (L : List Int32) (n : Nat) (d : Int32) : (L.map Value.int).getD n (.int d) = .int (L.getD n d) := by simp [List.getD_eq_getElem?_getD, List.getElem?_map]
theorem own_getD_long (L : List Int64) (n : Nat) (d : Int64) : (L.map Value.long).getD n (.long d) = .long (L.getD n d) := by simp [List.getD_eq_getElem?_getD, List.getElem?_map]
theorem own_lt_nat {j z : Int32} (h : ¬ j < 0) (q : j < z) : j.toNatClampNeg < z.toNatClampNeg := by
  rw [Int32.lt_iff_toInt_lt] at h q; have : (0 : Int32).toInt = 0 := rfl
  simp only [Int32.toNatClampNeg]; omega
theorem own_eq_int {t : Term} {v : Int32} {args : Array Value} {s : State} (h : (Cond.eq t (.int v)).value args s none s [] = some true) : t.eval args s none [] s = some (.int v) := by
  simp only [Cond.value, Term.eval] at h
  cases ht : t.eval args s none [] s with
  | none => simp [ht] at h
  | some x => cases x <;> simp [ht] at h ⊢; exact h
theorem own_eq_long {t : Term} {v : Int64} {args : Array Value} {s : State} (h : (Cond.eq t (.long v)).value args s none s [] = some true) : t.eval args s none [] s = some (.long v) := by
  simp only [Cond.value, Term.eval] at h
  cases ht : t.eval args s none [] s with
  | none => simp [ht] at h
  | some x => cases x <;> simp [ht] at h ⊢; exact h
theorem own_selpriv {s : State} {args : Array Value} {y : MethodName} {n : Nat} (wi : (Cond.instantiable y.cls n).before args s = true) (hpriv : s.PrivateAt y) (hinst : (Cond.instanceMethod y).before args s = true) (hy : y.cls ≠ "java/lang/invoke/MethodHandle" ∧ y.cls ≠ "java/lang/invoke/VarHandle") : (Cond.selects y.cls y y).before args s = true := by
  obtain ⟨c, k, h1, h2, -, h4, -⟩ := Cond.instantiable_spec wi
  exact Jvm.Stand.selects_self_of_private h1 h2 (Bool.or_eq_false_iff.mp h4).1 hpriv hinst hy
theorem own_narb (P : Prop) [Decidable P] : nar .boolean (if P then (1 : Int32) else (0 : Int32)) = if P then (1 : Int32) else (0 : Int32) := by by_cases h : P <;> simp only [h, if_true, if_false] <;> rfl
end New
end Jvm.RoadKit
namespace Jvm.Pilot.@@N@@
open Jvm Jvm.ClassFile Sem Op Lib Jvm.Free Jvm.Stand Jvm.LawKit Jvm.RoadKit Bundle Jvm.Pilot.@@N@@.Jvm.D
theorem d1_0 : decode prog_10_method_1_code 0 = .ok (.aload_n 0, 1) := by decide +kernel
theorem d1_1 : decode prog_10_method_1_code 1 = .ok (.invokespecial 1, 3) := by decide +kernel
theorem d1_4 : decode prog_10_method_1_code 4 = .ok (.aload_n 0, 1) := by decide +kernel
theorem d1_5 : decode prog_10_method_1_code 5 = .ok (.iload_n 1, 1) := by decide +kernel
theorem d1_6 : decode prog_10_method_1_code 6 = .ok (.putfield 7, 3) := by decide +kernel
theorem d1_9 : decode prog_10_method_1_code 9 = .ok (.aload_n 0, 1) := by decide +kernel
theorem d1_10 : decode prog_10_method_1_code 10 = .ok (.iload_n 2, 1) := by decide +kernel
theorem d1_11 : decode prog_10_method_1_code 11 = .ok (.putfield 13, 3) := by decide +kernel
theorem d1_14 : decode prog_10_method_1_code 14 = .ok (.aload_n 0, 1) := by decide +kernel
theorem d1_15 : decode prog_10_method_1_code 15 = .ok (.iload_n 3, 1) := by decide +kernel
theorem d1_16 : decode prog_10_method_1_code 16 = .ok (.putfield 16, 3) := by decide +kernel
theorem d1_19 : decode prog_10_method_1_code 19 = .ok (.aload_n 0, 1) := by decide +kernel
theorem d1_20 : decode prog_10_method_1_code 20 = .ok (.iload 4, 2) := by decide +kernel
theorem d1_22 : decode prog_10_method_1_code 22 = .ok (.putfield 19, 3) := by decide +kernel
theorem d1_25 : decode prog_10_method_1_code 25 = .ok (.aload_n 0, 1) := by decide +kernel
theorem d1_26 : decode prog_10_method_1_code 26 = .ok (.iload 5, 2) := by decide +kernel
theorem d1_28 : decode prog_10_method_1_code 28 = .ok (.putfield 22, 3) := by decide +kernel
theorem d1_31 : decode prog_10_method_1_code 31 = .ok (.return_, 1) := by decide +kernel
theorem pn_19 : plainName "com/example/uperm/uperm/PolicyCounts" = true := by first | (simp [plainName, overriddenIn]; done) | decide +kernel
theorem ef_rm1 (m : MethodId) (ra0 : Addr) (p1 : Int32) (p2 : Int32) (p3 : Int32) (p4 : Int32) (p5 : Int32) : entryFrame m #[(.ref ra0), (.int p1), (.int p2), (.int p3), (.int p4), (.int p5)] 6 = mkF m 0 #[.val (.ref ra0), .val (.int p1), .val (.int p2), .val (.int p3), .val (.int p4), .val (.int p5)] [] := by first | (simp [entryFrame, mkF, argsToLocals, Value.category]; done) | rfl
def Q1 (Z : State) (ra0 : Addr) (p1 : Int32) (p2 : Int32) (p3 : Int32) (p4 : Int32) (p5 : Int32) (w_users_ra0 : Int32) (w_groups_ra0 : Int32) (w_roles_ra0 : Int32) (w_realms_ra0 : Int32) (w_rules_ra0 : Int32) (h0 : Heap) (n0 : Nat) (v : Option Value) (h : Heap) (L : List Loc) : Prop := v = none ∧ Fr n0 L ∧ Keep h0 h [ra0] ∧ Exa Z h ra0 "com/example/uperm/uperm/PolicyCounts" ∧ Fld Z h ra0 "com/example/uperm/uperm/PolicyCounts" "users" "I" (.int p1) ∧ Fld Z h ra0 "com/example/uperm/uperm/PolicyCounts" "groups" "I" (.int p2) ∧ Fld Z h ra0 "com/example/uperm/uperm/PolicyCounts" "roles" "I" (.int p3) ∧ Fld Z h ra0 "com/example/uperm/uperm/PolicyCounts" "realms" "I" (.int p4) ∧ Fld Z h ra0 "com/example/uperm/uperm/PolicyCounts" "rules" "I" (.int p5)
set_option maxRecDepth 65536 in
set_option maxHeartbeats 40000000 in
theorem rm1 (l : Launch) (Z : State) (a0 : Array Value) (hw : ∀ d ∈ tables_1, d.before a0 Z = true) (ws : List Jvm.Cond) (ra0 : Addr) (p1 : Int32) (p2 : Int32) (p3 : Int32) (p4 : Int32) (p5 : Int32) (w_users_ra0 : Int32) (w_groups_ra0 : Int32) (w_roles_ra0 : Int32) (w_realms_ra0 : Int32) (w_rules_ra0 : Int32) (h0 : Heap) (n0 : Nat) (Z0 : n0 ≤ h0.size) (E_ra0 : Exa Z h0 ra0 "com/example/uperm/uperm/PolicyCounts") (F_users_ra0 : Fld Z h0 ra0 "com/example/uperm/uperm/PolicyCounts" "users" "I" (.int w_users_ra0)) (g_ra0 : n0 ≤ ra0) (F_groups_ra0 : Fld Z h0 ra0 "com/example/uperm/uperm/PolicyCounts" "groups" "I" (.int w_groups_ra0)) (F_roles_ra0 : Fld Z h0 ra0 "com/example/uperm/uperm/PolicyCounts" "roles" "I" (.int w_roles_ra0)) (F_realms_ra0 : Fld Z h0 ra0 "com/example/uperm/uperm/PolicyCounts" "realms" "I" (.int w_realms_ra0)) (F_rules_ra0 : Fld Z h0 ra0 "com/example/uperm/uperm/PolicyCounts" "rules" "I" (.int w_rules_ra0)) :
    MetFree l (⟨"com/example/uperm/uperm/PolicyCounts", "<init>", "(IIIII)V"⟩ : MethodName) (head1 (Jvm.Cond.code (⟨"com/example/uperm/uperm/PolicyCounts", "<init>", "(IIIII)V"⟩ : MethodName) prog_10_method_1_code 6 none :: ws) ({ frames := 1, cells := 0, slots := 0, locals := 12 } : Room)) (fun a U => a = #[(.ref ra0), (.int p1), (.int p2), (.int p3), (.int p4), (.int p5)] ∧ Z.Warmed39 U.vm ∧ U.heap = h0) (fun _ _ _ _ _ => True) (fun _ U o U' => ∃ v L, o = .returned v ∧ Q1 Z ra0 p1 p2 p3 p4 p5 w_users_ra0 w_groups_ra0 w_roles_ra0 w_realms_ra0 w_rules_ra0 h0 n0 v U'.heap L ∧ FrameEnd U o U' L ({ frames := 1, cells := 0, slots := 0, locals := 12 } : Room).cells ({ frames := 1, cells := 0, slots := 0, locals := 12 } : Room).slots) := by
  refine MetFree.of_bodySF (plainFor_of_name pn_19) hisR ?_
  intro p e s m args below meth c s₁ Bd hml0 hP hK
  obtain ⟨rfl, hZ, hh⟩ := hP
  have hx := Bd.exec
  have hby := Bd.bytes
  have hml : c.maxLocals = 6 := hml0
  have hown : s.vm.findClass "com/example/uperm/uperm/PolicyCounts" = some m.cls := findClass_of_methodNamed Bd.named
  have hnm := (name_of_methodNamed Bd.named Bd.method).1
  have X0 : Stand p l e ({ frames := 1, cells := 0, slots := 0, locals := 12 } : Room) s m #[(.ref ra0), (.int p1), (.int p2), (.int p3), (.int p4), (.int p5)] below meth c s₁ [] 0 0 := Stand.of_body Bd
  have e0 : s₁.heap = h0 := by rw [← hh, Bd.state]; rfl
  have N0 := Fr.nil n0
  have KC0 := Keep.refl h0 [ra0]
  have pre0 : ∀ t, Steps p.tables e below (s₁.setTop (mkF m 0 #[.val (.ref ra0), .val (.int p1), .val (.int p2), .val (.int p3), .val (.int p4), .val (.int p5)] [])) t → Steps p.tables e below (s₁.setTop (entryFrame m #[(.ref ra0), (.int p1), (.int p2), (.int p3), (.int p4), (.int p5)] 6)) t := fun t k => castTop (ef_rm1 m ra0 p1 p2 p3 p4 p5) k
  have k1 := fun (t : State) (kk : Steps p.tables e below (s₁.setTop (mkF m 1 #[.val (.ref ra0), .val (.int p1), .val (.int p2), .val (.int p3), .val (.int p4), .val (.int p5)] [(.ref ra0)])) t) => pre0 t (by
    show Steps p.tables e below (s₁.setTop (mkF m 0 #[.val (.ref ra0), .val (.int p1), .val (.int p2), .val (.int p3), .val (.int p4), .val (.int p5)] [])) _
    refine XS.aloadN X0.here hx rfl (hb hby d1_0) rfl rfl ?_
    exact kk)
  obtain ⟨T2, X2, e2, st2⟩ := initO X0 hx hZ hown (hw _ (List.mem_of_getElem? (i := 6) rfl)) (hw _ (List.mem_of_getElem? (i := 7) rfl)) (hw _ (List.mem_of_getElem? (i := 8) rfl)) e0 (g := (mkF m 1 #[.val (.ref ra0), .val (.int p1), .val (.int p2), .val (.int p3), .val (.int p4), .val (.int p5)] [(.ref ra0)])) rfl (by rw [hml]; rfl) rfl (hb hby d1_1) (by decide) (W := 0) (by show 2 * 0 + _ ≤ _; exact Nat.le_of_eq rfl) (by decide)
  have k3 := fun (t : State) (kk : Steps p.tables e below (T2.setTop (mkF m 4 #[.val (.ref ra0), .val (.int p1), .val (.int p2), .val (.int p3), .val (.int p4), .val (.int p5)] [])) t) => k1 t (st2 _ kk)
  have k4 := fun (t : State) (kk : Steps p.tables e below (T2.setTop (mkF m 6 #[.val (.ref ra0), .val (.int p1), .val (.int p2), .val (.int p3), .val (.int p4), .val (.int p5)] [(.int p1), (.ref ra0)])) t) => k3 t (by
    show Steps p.tables e below (T2.setTop (mkF m 4 #[.val (.ref ra0), .val (.int p1), .val (.int p2), .val (.int p3), .val (.int p4), .val (.int p5)] [])) _
    refine XS.aloadN X2.here hx rfl (hb hby d1_4) rfl rfl ?_
    show Steps p.tables e below (T2.setTop (mkF m 5 #[.val (.ref ra0), .val (.int p1), .val (.int p2), .val (.int p3), .val (.int p4), .val (.int p5)] [(.ref ra0)])) _
    refine XS.iloadN X2.here hx rfl (hb hby d1_5) rfl ?_
    exact kk)
  obtain ⟨T5, h5, X5, e5, W5, st5⟩ := putF X2 hx hZ hown (host := "") (Or.inl (hw _ (List.mem_of_getElem? (i := 9) rfl))) Via.refl e2 F_users_ra0 E_ra0 (Or.inr ⟨(hw _ (List.mem_of_getElem? (i := 10) rfl)), rfl, hnm⟩) (hw _ (List.mem_of_getElem? (i := 1) rfl)) (ty := .int) (by decide) rfl rfl (g := (mkF m 6 #[.val (.ref ra0), .val (.int p1), .val (.int p2), .val (.int p3), .val (.int p4), .val (.int p5)] [(.int p1), (.ref ra0)])) rfl rfl (hb hby d1_6)
  have Fw5 := F_users_ra0.same W5
  have K5 : Keep h0 h5 [ra0] := KC0.wr W5 (Or.inl (List.mem_of_getElem? (i := 0) rfl))
  have N5 := Fr.snoc X5 N0 g_ra0
  have k6 := fun (t : State) (kk : Steps p.tables e below (T5.setTop (mkF m 9 #[.val (.ref ra0), .val (.int p1), .val (.int p2), .val (.int p3), .val (.int p4), .val (.int p5)] [])) t) => k4 t (st5 _ kk)
  have k7 := fun (t : State) (kk : Steps p.tables e below (T5.setTop (mkF m 11 #[.val (.ref ra0), .val (.int p1), .val (.int p2), .val (.int p3), .val (.int p4), .val (.int p5)] [(.int p2), (.ref ra0)])) t) => k6 t (by
    show Steps p.tables e below (T5.setTop (mkF m 9 #[.val (.ref ra0), .val (.int p1), .val (.int p2), .val (.int p3), .val (.int p4), .val (.int p5)] [])) _
    refine XS.aloadN X5.here hx rfl (hb hby d1_9) rfl rfl ?_
    show Steps p.tables e below (T5.setTop (mkF m 10 #[.val (.ref ra0), .val (.int p1), .val (.int p2), .val (.int p3), .val (.int p4), .val (.int p5)] [(.ref ra0)])) _
    refine XS.iloadN X5.here hx rfl (hb hby d1_10) rfl ?_
    exact kk)
  have f8 := (E_ra0.wr W5)
  have f9 := (F_groups_ra0.other W5 (Or.inr (slot_ne (Or.inr (hw _ (List.mem_of_getElem? (i := 12) rfl))) (Or.inr (hw _ (List.mem_of_getElem? (i := 10) rfl))) (by decide) (t := .int) (t' := .int) (by decide) (by decide))))
  obtain ⟨T10, h10, X10, e10, W10, st10⟩ := putF X5 hx hZ hown (host := "") (Or.inl (hw _ (List.mem_of_getElem? (i := 11) rfl))) Via.refl e5 f9 f8 (Or.inr ⟨(hw _ (List.mem_of_getElem? (i := 12) rfl)), rfl, hnm⟩) (hw _ (List.mem_of_getElem? (i := 1) rfl)) (ty := .int) (by decide) rfl rfl (g := (mkF m 11 #[.val (.ref ra0), .val (.int p1), .val (.int p2), .val (.int p3), .val (.int p4), .val (.int p5)] [(.int p2), (.ref ra0)])) rfl rfl (hb hby d1_11)
  have Fw10 := f9.same W10
  have K10 : Keep h0 h10 [ra0] := K5.wr W10 (Or.inl (List.mem_of_getElem? (i := 0) rfl))
  have N10 := Fr.snoc X10 N5 g_ra0
  have k11 := fun (t : State) (kk : Steps p.tables e below (T10.setTop (mkF m 14 #[.val (.ref ra0), .val (.int p1), .val (.int p2), .val (.int p3), .val (.int p4), .val (.int p5)] [])) t) => k7 t (st10 _ kk)
  have k12 := fun (t : State) (kk : Steps p.tables e below (T10.setTop (mkF m 16 #[.val (.ref ra0), .val (.int p1), .val (.int p2), .val (.int p3), .val (.int p4), .val (.int p5)] [(.int p3), (.ref ra0)])) t) => k11 t (by
    show Steps p.tables e below (T10.setTop (mkF m 14 #[.val (.ref ra0), .val (.int p1), .val (.int p2), .val (.int p3), .val (.int p4), .val (.int p5)] [])) _
    refine XS.aloadN X10.here hx rfl (hb hby d1_14) rfl rfl ?_
    show Steps p.tables e below (T10.setTop (mkF m 15 #[.val (.ref ra0), .val (.int p1), .val (.int p2), .val (.int p3), .val (.int p4), .val (.int p5)] [(.ref ra0)])) _
    refine XS.iloadN X10.here hx rfl (hb hby d1_15) rfl ?_
    exact kk)
  have f13 := (f8.wr W10)
  have f14 := ((F_roles_ra0.other W5 (Or.inr (slot_ne (Or.inr (hw _ (List.mem_of_getElem? (i := 14) rfl))) (Or.inr (hw _ (List.mem_of_getElem? (i := 10) rfl))) (by decide) (t := .int) (t' := .int) (by decide) (by decide)))).other W10 (Or.inr (slot_ne (Or.inr (hw _ (List.mem_of_getElem? (i := 14) rfl))) (Or.inr (hw _ (List.mem_of_getElem? (i := 12) rfl))) (by decide) (t := .int) (t' := .int) (by decide) (by decide))))
  obtain ⟨T15, h15, X15, e15, W15, st15⟩ := putF X10 hx hZ hown (host := "") (Or.inl (hw _ (List.mem_of_getElem? (i := 13) rfl))) Via.refl e10 f14 f13 (Or.inr ⟨(hw _ (List.mem_of_getElem? (i := 14) rfl)), rfl, hnm⟩) (hw _ (List.mem_of_getElem? (i := 1) rfl)) (ty := .int) (by decide) rfl rfl (g := (mkF m 16 #[.val (.ref ra0), .val (.int p1), .val (.int p2), .val (.int p3), .val (.int p4), .val (.int p5)] [(.int p3), (.ref ra0)])) rfl rfl (hb hby d1_16)
  have Fw15 := f14.same W15
  have K15 : Keep h0 h15 [ra0] := K10.wr W15 (Or.inl (List.mem_of_getElem? (i := 0) rfl))
  have N15 := Fr.snoc X15 N10 g_ra0
  have k16 := fun (t : State) (kk : Steps p.tables e below (T15.setTop (mkF m 19 #[.val (.ref ra0), .val (.int p1), .val (.int p2), .val (.int p3), .val (.int p4), .val (.int p5)] [])) t) => k12 t (st15 _ kk)
  have k17 := fun (t : State) (kk : Steps p.tables e below (T15.setTop (mkF m 22 #[.val (.ref ra0), .val (.int p1), .val (.int p2), .val (.int p3), .val (.int p4), .val (.int p5)] [(.int p4), (.ref ra0)])) t) => k16 t (by
    show Steps p.tables e below (T15.setTop (mkF m 19 #[.val (.ref ra0), .val (.int p1), .val (.int p2), .val (.int p3), .val (.int p4), .val (.int p5)] [])) _
    refine XS.aloadN X15.here hx rfl (hb hby d1_19) rfl rfl ?_
    show Steps p.tables e below (T15.setTop (mkF m 20 #[.val (.ref ra0), .val (.int p1), .val (.int p2), .val (.int p3), .val (.int p4), .val (.int p5)] [(.ref ra0)])) _
    refine XS.iload X15.here hx rfl (hb hby d1_20) rfl ?_
    exact kk)
  have f18 := (f13.wr W15)
  have f19 := (((F_realms_ra0.other W5 (Or.inr (slot_ne (Or.inr (hw _ (List.mem_of_getElem? (i := 16) rfl))) (Or.inr (hw _ (List.mem_of_getElem? (i := 10) rfl))) (by decide) (t := .int) (t' := .int) (by decide) (by decide)))).other W10 (Or.inr (slot_ne (Or.inr (hw _ (List.mem_of_getElem? (i := 16) rfl))) (Or.inr (hw _ (List.mem_of_getElem? (i := 12) rfl))) (by decide) (t := .int) (t' := .int) (by decide) (by decide)))).other W15 (Or.inr (slot_ne (Or.inr (hw _ (List.mem_of_getElem? (i := 16) rfl))) (Or.inr (hw _ (List.mem_of_getElem? (i := 14) rfl))) (by decide) (t := .int) (t' := .int) (by decide) (by decide))))
  obtain ⟨T20, h20, X20, e20, W20, st20⟩ := putF X15 hx hZ hown (host := "") (Or.inl (hw _ (List.mem_of_getElem? (i := 15) rfl))) Via.refl e15 f19 f18 (Or.inr ⟨(hw _ (List.mem_of_getElem? (i := 16) rfl)), rfl, hnm⟩) (hw _ (List.mem_of_getElem? (i := 1) rfl)) (ty := .int) (by decide) rfl rfl (g := (mkF m 22 #[.val (.ref ra0), .val (.int p1), .val (.int p2), .val (.int p3), .val (.int p4), .val (.int p5)] [(.int p4), (.ref ra0)])) rfl rfl (hb hby d1_22)
  have Fw20 := f19.same W20
  have K20 : Keep h0 h20 [ra0] := K15.wr W20 (Or.inl (List.mem_of_getElem? (i := 0) rfl))
  have N20 := Fr.snoc X20 N15 g_ra0
  have k21 := fun (t : State) (kk : Steps p.tables e below (T20.setTop (mkF m 25 #[.val (.ref ra0), .val (.int p1), .val (.int p2), .val (.int p3), .val (.int p4), .val (.int p5)] [])) t) => k17 t (st20 _ kk)
  have k22 := fun (t : State) (kk : Steps p.tables e below (T20.setTop (mkF m 28 #[.val (.ref ra0), .val (.int p1), .val (.int p2), .val (.int p3), .val (.int p4), .val (.int p5)] [(.int p5), (.ref ra0)])) t) => k21 t (by
    show Steps p.tables e below (T20.setTop (mkF m 25 #[.val (.ref ra0), .val (.int p1), .val (.int p2), .val (.int p3), .val (.int p4), .val (.int p5)] [])) _
    refine XS.aloadN X20.here hx rfl (hb hby d1_25) rfl rfl ?_
    show Steps p.tables e below (T20.setTop (mkF m 26 #[.val (.ref ra0), .val (.int p1), .val (.int p2), .val (.int p3), .val (.int p4), .val (.int p5)] [(.ref ra0)])) _
    refine XS.iload X20.here hx rfl (hb hby d1_26) rfl ?_
    exact kk)
  have f23 := (f18.wr W20)
  have f24 := ((((F_rules_ra0.other W5 (Or.inr (slot_ne (Or.inr (hw _ (List.mem_of_getElem? (i := 18) rfl))) (Or.inr (hw _ (List.mem_of_getElem? (i := 10) rfl))) (by decide) (t := .int) (t' := .int) (by decide) (by decide)))).other W10 (Or.inr (slot_ne (Or.inr (hw _ (List.mem_of_getElem? (i := 18) rfl))) (Or.inr (hw _ (List.mem_of_getElem? (i := 12) rfl))) (by decide) (t := .int) (t' := .int) (by decide) (by decide)))).other W15 (Or.inr (slot_ne (Or.inr (hw _ (List.mem_of_getElem? (i := 18) rfl))) (Or.inr (hw _ (List.mem_of_getElem? (i := 14) rfl))) (by decide) (t := .int) (t' := .int) (by decide) (by decide)))).other W20 (Or.inr (slot_ne (Or.inr (hw _ (List.mem_of_getElem? (i := 18) rfl))) (Or.inr (hw _ (List.mem_of_getElem? (i := 16) rfl))) (by decide) (t := .int) (t' := .int) (by decide) (by decide))))
  obtain ⟨T25, h25, X25, e25, W25, st25⟩ := putF X20 hx hZ hown (host := "") (Or.inl (hw _ (List.mem_of_getElem? (i := 17) rfl))) Via.refl e20 f24 f23 (Or.inr ⟨(hw _ (List.mem_of_getElem? (i := 18) rfl)), rfl, hnm⟩) (hw _ (List.mem_of_getElem? (i := 1) rfl)) (ty := .int) (by decide) rfl rfl (g := (mkF m 28 #[.val (.ref ra0), .val (.int p1), .val (.int p2), .val (.int p3), .val (.int p4), .val (.int p5)] [(.int p5), (.ref ra0)])) rfl rfl (hb hby d1_28)
  have Fw25 := f24.same W25
  have K25 : Keep h0 h25 [ra0] := K20.wr W25 (Or.inl (List.mem_of_getElem? (i := 0) rfl))
  have N25 := Fr.snoc X25 N20 g_ra0
  have k26 := fun (t : State) (kk : Steps p.tables e below (T25.setTop (mkF m 31 #[.val (.ref ra0), .val (.int p1), .val (.int p2), .val (.int p3), .val (.int p4), .val (.int p5)] [])) t) => k22 t (st25 _ kk)
  obtain ⟨fs, hr, hrun, hended, hW, hsame⟩ := X25.leave (v := none) (fun _ => rfl)
  have f27 := (f23.wr W25)
  have f28 := ((((Fw5.other W10 (Or.inr (slot_ne (Or.inr (hw _ (List.mem_of_getElem? (i := 10) rfl))) (Or.inr (hw _ (List.mem_of_getElem? (i := 12) rfl))) (by decide) (t := .int) (t' := .int) (by decide) (by decide)))).other W15 (Or.inr (slot_ne (Or.inr (hw _ (List.mem_of_getElem? (i := 10) rfl))) (Or.inr (hw _ (List.mem_of_getElem? (i := 14) rfl))) (by decide) (t := .int) (t' := .int) (by decide) (by decide)))).other W20 (Or.inr (slot_ne (Or.inr (hw _ (List.mem_of_getElem? (i := 10) rfl))) (Or.inr (hw _ (List.mem_of_getElem? (i := 16) rfl))) (by decide) (t := .int) (t' := .int) (by decide) (by decide)))).other W25 (Or.inr (slot_ne (Or.inr (hw _ (List.mem_of_getElem? (i := 10) rfl))) (Or.inr (hw _ (List.mem_of_getElem? (i := 18) rfl))) (by decide) (t := .int) (t' := .int) (by decide) (by decide))))
  have f29 := (((Fw10.other W15 (Or.inr (slot_ne (Or.inr (hw _ (List.mem_of_getElem? (i := 12) rfl))) (Or.inr (hw _ (List.mem_of_getElem? (i := 14) rfl))) (by decide) (t := .int) (t' := .int) (by decide) (by decide)))).other W20 (Or.inr (slot_ne (Or.inr (hw _ (List.mem_of_getElem? (i := 12) rfl))) (Or.inr (hw _ (List.mem_of_getElem? (i := 16) rfl))) (by decide) (t := .int) (t' := .int) (by decide) (by decide)))).other W25 (Or.inr (slot_ne (Or.inr (hw _ (List.mem_of_getElem? (i := 12) rfl))) (Or.inr (hw _ (List.mem_of_getElem? (i := 18) rfl))) (by decide) (t := .int) (t' := .int) (by decide) (by decide))))
  have f30 := ((Fw15.other W20 (Or.inr (slot_ne (Or.inr (hw _ (List.mem_of_getElem? (i := 14) rfl))) (Or.inr (hw _ (List.mem_of_getElem? (i := 16) rfl))) (by decide) (t := .int) (t' := .int) (by decide) (by decide)))).other W25 (Or.inr (slot_ne (Or.inr (hw _ (List.mem_of_getElem? (i := 14) rfl))) (Or.inr (hw _ (List.mem_of_getElem? (i := 18) rfl))) (by decide) (t := .int) (t' := .int) (by decide) (by decide))))
  have f31 := (Fw20.other W25 (Or.inr (slot_ne (Or.inr (hw _ (List.mem_of_getElem? (i := 16) rfl))) (Or.inr (hw _ (List.mem_of_getElem? (i := 18) rfl))) (by decide) (t := .int) (t' := .int) (by decide) (by decide))))
  refine ⟨_, _, k26 _ ?_, hrun, hended, _, _, rfl, ?_, ⟨_, rfl⟩, hW, hsame.mono (by decide) (by decide)⟩
  · show Steps p.tables e below (T25.setTop (mkF m 31 #[.val (.ref ra0), .val (.int p1), .val (.int p2), .val (.int p3), .val (.int p4), .val (.int p5)] [])) _
    exact X25.returnOut hx Bd.returns (hb hby d1_31) hr
  · show Q1 Z ra0 p1 p2 p3 p4 p5 w_users_ra0 w_groups_ra0 w_roles_ra0 w_realms_ra0 w_rules_ra0 h0 n0 _ T25.heap _
    rw [e25]
    exact ⟨rfl, N25, K25, f27, f28, f29, f30, f31, Fw25⟩
theorem d3_0 : decode prog_10_method_7_code 0 = .ok (.aload_n 0, 1) := by decide +kernel
theorem d3_1 : decode prog_10_method_7_code 1 = .ok (.getfield 13, 3) := by decide +kernel
theorem d3_4 : decode prog_10_method_7_code 4 = .ok (.aload_n 0, 1) := by decide +kernel
theorem d3_5 : decode prog_10_method_7_code 5 = .ok (.getfield 16, 3) := by decide +kernel
theorem d3_8 : decode prog_10_method_7_code 8 = .ok (.iadd, 1) := by decide +kernel
theorem d3_9 : decode prog_10_method_7_code 9 = .ok (.aload_n 0, 1) := by decide +kernel
theorem d3_10 : decode prog_10_method_7_code 10 = .ok (.getfield 19, 3) := by decide +kernel
theorem d3_13 : decode prog_10_method_7_code 13 = .ok (.iadd, 1) := by decide +kernel
theorem d3_14 : decode prog_10_method_7_code 14 = .ok (.aload_n 0, 1) := by decide +kernel
theorem d3_15 : decode prog_10_method_7_code 15 = .ok (.getfield 22, 3) := by decide +kernel
theorem d3_18 : decode prog_10_method_7_code 18 = .ok (.iadd, 1) := by decide +kernel
theorem d3_19 : decode prog_10_method_7_code 19 = .ok (.ireturn, 1) := by decide +kernel
theorem ef_rm3 (m : MethodId) (ra0 : Addr) : entryFrame m #[(.ref ra0)] 1 = mkF m 0 #[.val (.ref ra0)] [] := by first | (simp [entryFrame, mkF, argsToLocals, Value.category]; done) | rfl
def Q3 (Z : State) (ra0 : Addr) (w_groups_ra0 : Int32) (w_roles_ra0 : Int32) (w_realms_ra0 : Int32) (w_rules_ra0 : Int32) (h0 : Heap) (n0 : Nat) (v : Option Value) (h : Heap) (L : List Loc) : Prop := v = some (.int (((w_groups_ra0 + w_roles_ra0) + w_realms_ra0) + w_rules_ra0)) ∧ Fr n0 L ∧ h = h0
set_option maxRecDepth 65536 in
set_option maxHeartbeats 40000000 in
theorem rm3 (l : Launch) (Z : State) (a0 : Array Value) (hw : ∀ d ∈ tables_1, d.before a0 Z = true) (ws : List Jvm.Cond) (ra0 : Addr) (w_groups_ra0 : Int32) (w_roles_ra0 : Int32) (w_realms_ra0 : Int32) (w_rules_ra0 : Int32) (h0 : Heap) (n0 : Nat) (Z0 : n0 ≤ h0.size) (F_groups_ra0 : Fld Z h0 ra0 "com/example/uperm/uperm/PolicyCounts" "groups" "I" (.int w_groups_ra0)) (F_roles_ra0 : Fld Z h0 ra0 "com/example/uperm/uperm/PolicyCounts" "roles" "I" (.int w_roles_ra0)) (F_realms_ra0 : Fld Z h0 ra0 "com/example/uperm/uperm/PolicyCounts" "realms" "I" (.int w_realms_ra0)) (F_rules_ra0 : Fld Z h0 ra0 "com/example/uperm/uperm/PolicyCounts" "rules" "I" (.int w_rules_ra0)) :
    MetFree l (⟨"com/example/uperm/uperm/PolicyCounts", "records", "()I"⟩ : MethodName) (head1 (Jvm.Cond.code (⟨"com/example/uperm/uperm/PolicyCounts", "records", "()I"⟩ : MethodName) prog_10_method_7_code 1 (some .int) :: ws) ({ frames := 0, cells := 0, slots := 0, locals := 0 } : Room)) (fun a U => a = #[(.ref ra0)] ∧ Z.Warmed39 U.vm ∧ U.heap = h0) (fun _ _ _ _ _ => True) (fun _ U o U' => ∃ v L, o = .returned v ∧ Q3 Z ra0 w_groups_ra0 w_roles_ra0 w_realms_ra0 w_rules_ra0 h0 n0 v U'.heap L ∧ FrameEnd U o U' L ({ frames := 0, cells := 0, slots := 0, locals := 0 } : Room).cells ({ frames := 0, cells := 0, slots := 0, locals := 0 } : Room).slots) := by
  refine MetFree.of_bodySF (plainFor_of_name pn_19) hisR ?_
  intro p e s m args below meth c s₁ Bd hml0 hP hK
  obtain ⟨rfl, hZ, hh⟩ := hP
  have hx := Bd.exec
  have hby := Bd.bytes
  have hml : c.maxLocals = 1 := hml0
  have hown : s.vm.findClass "com/example/uperm/uperm/PolicyCounts" = some m.cls := findClass_of_methodNamed Bd.named
  have hnm := (name_of_methodNamed Bd.named Bd.method).1
  have X0 : Stand p l e ({ frames := 0, cells := 0, slots := 0, locals := 0 } : Room) s m #[(.ref ra0)] below meth c s₁ [] 0 0 := Stand.of_body Bd
  have e0 : s₁.heap = h0 := by rw [← hh, Bd.state]; rfl
  have N0 := Fr.nil n0
  have KC0 := Keep.refl h0 ([] : List Addr)
  have pre0 : ∀ t, Steps p.tables e below (s₁.setTop (mkF m 0 #[.val (.ref ra0)] [])) t → Steps p.tables e below (s₁.setTop (entryFrame m #[(.ref ra0)] 1)) t := fun t k => castTop (ef_rm3 m ra0) k
  have k32 := fun (t : State) (kk : Steps p.tables e below (s₁.setTop (mkF m 1 #[.val (.ref ra0)] [(.ref ra0)])) t) => pre0 t (by
    show Steps p.tables e below (s₁.setTop (mkF m 0 #[.val (.ref ra0)] [])) _
    refine XS.aloadN X0.here hx rfl (hb hby d3_0) rfl rfl ?_
    exact kk)
  obtain ⟨T33, X33, e33, st33⟩ := getF X0 hx hZ hown (host := "") (Or.inl (hw _ (List.mem_of_getElem? (i := 11) rfl))) Via.refl e0 F_groups_ra0 (g := (mkF m 1 #[.val (.ref ra0)] [(.ref ra0)])) rfl rfl (hb hby d3_1)
  have k34 := fun (t : State) (kk : Steps p.tables e below (T33.setTop (mkF m 4 #[.val (.ref ra0)] [(.int w_groups_ra0)])) t) => k32 t (st33 _ kk)
  have k35 := fun (t : State) (kk : Steps p.tables e below (T33.setTop (mkF m 5 #[.val (.ref ra0)] [(.ref ra0), (.int w_groups_ra0)])) t) => k34 t (by
    show Steps p.tables e below (T33.setTop (mkF m 4 #[.val (.ref ra0)] [(.int w_groups_ra0)])) _
    refine XS.aloadN X33.here hx rfl (hb hby d3_4) rfl rfl ?_
    exact kk)
  obtain ⟨T36, X36, e36, st36⟩ := getF X33 hx hZ hown (host := "") (Or.inl (hw _ (List.mem_of_getElem? (i := 13) rfl))) Via.refl e33 F_roles_ra0 (g := (mkF m 5 #[.val (.ref ra0)] [(.ref ra0), (.int w_groups_ra0)])) rfl rfl (hb hby d3_5)
  have k37 := fun (t : State) (kk : Steps p.tables e below (T36.setTop (mkF m 8 #[.val (.ref ra0)] [(.int w_roles_ra0), (.int w_groups_ra0)])) t) => k35 t (st36 _ kk)
  have k38 := fun (t : State) (kk : Steps p.tables e below (T36.setTop (mkF m 10 #[.val (.ref ra0)] [(.ref ra0), (.int (w_groups_ra0 + w_roles_ra0))])) t) => k37 t (by
    show Steps p.tables e below (T36.setTop (mkF m 8 #[.val (.ref ra0)] [(.int w_roles_ra0), (.int w_groups_ra0)])) _
    refine XS.iadd X36.here hx rfl (hb hby d3_8) rfl ?_
    show Steps p.tables e below (T36.setTop (mkF m 9 #[.val (.ref ra0)] [(.int (w_groups_ra0 + w_roles_ra0))])) _
    refine XS.aloadN X36.here hx rfl (hb hby d3_9) rfl rfl ?_
    exact kk)
  obtain ⟨T39, X39, e39, st39⟩ := getF X36 hx hZ hown (host := "") (Or.inl (hw _ (List.mem_of_getElem? (i := 15) rfl))) Via.refl e36 F_realms_ra0 (g := (mkF m 10 #[.val (.ref ra0)] [(.ref ra0), (.int (w_groups_ra0 + w_roles_ra0))])) rfl rfl (hb hby d3_10)
  have k40 := fun (t : State) (kk : Steps p.tables e below (T39.setTop (mkF m 13 #[.val (.ref ra0)] [(.int w_realms_ra0), (.int (w_groups_ra0 + w_roles_ra0))])) t) => k38 t (st39 _ kk)
  have k41 := fun (t : State) (kk : Steps p.tables e below (T39.setTop (mkF m 15 #[.val (.ref ra0)] [(.ref ra0), (.int ((w_groups_ra0 + w_roles_ra0) + w_realms_ra0))])) t) => k40 t (by
    show Steps p.tables e below (T39.setTop (mkF m 13 #[.val (.ref ra0)] [(.int w_realms_ra0), (.int (w_groups_ra0 + w_roles_ra0))])) _
    refine XS.iadd X39.here hx rfl (hb hby d3_13) rfl ?_
    show Steps p.tables e below (T39.setTop (mkF m 14 #[.val (.ref ra0)] [(.int ((w_groups_ra0 + w_roles_ra0) + w_realms_ra0))])) _
    refine XS.aloadN X39.here hx rfl (hb hby d3_14) rfl rfl ?_
    exact kk)
  obtain ⟨T42, X42, e42, st42⟩ := getF X39 hx hZ hown (host := "") (Or.inl (hw _ (List.mem_of_getElem? (i := 17) rfl))) Via.refl e39 F_rules_ra0 (g := (mkF m 15 #[.val (.ref ra0)] [(.ref ra0), (.int ((w_groups_ra0 + w_roles_ra0) + w_realms_ra0))])) rfl rfl (hb hby d3_15)
  have k43 := fun (t : State) (kk : Steps p.tables e below (T42.setTop (mkF m 18 #[.val (.ref ra0)] [(.int w_rules_ra0), (.int ((w_groups_ra0 + w_roles_ra0) + w_realms_ra0))])) t) => k41 t (st42 _ kk)
  have k44 := fun (t : State) (kk : Steps p.tables e below (T42.setTop (mkF m 19 #[.val (.ref ra0)] [(.int (((w_groups_ra0 + w_roles_ra0) + w_realms_ra0) + w_rules_ra0))])) t) => k43 t (by
    show Steps p.tables e below (T42.setTop (mkF m 18 #[.val (.ref ra0)] [(.int w_rules_ra0), (.int ((w_groups_ra0 + w_roles_ra0) + w_realms_ra0))])) _
    refine XS.iadd X42.here hx rfl (hb hby d3_18) rfl ?_
    exact kk)
  obtain ⟨fs, hr, hrun, hended, hW, hsame⟩ := X42.leave (v := some (.int (((w_groups_ra0 + w_roles_ra0) + w_realms_ra0) + w_rules_ra0))) (fun h => by rw [Bd.returns] at h; cases h)
  refine ⟨_, _, k44 _ ?_, hrun, hended, _, _, rfl, ?_, ⟨_, rfl⟩, hW, hsame.mono (by decide) (by decide)⟩
  · show Steps p.tables e below (T42.setTop (mkF m 19 #[.val (.ref ra0)] [(.int (((w_groups_ra0 + w_roles_ra0) + w_realms_ra0) + w_rules_ra0))])) _
    exact retI X42 hx Bd.returns (hb hby d3_19) hr
  · show Q3 Z ra0 w_groups_ra0 w_roles_ra0 w_realms_ra0 w_rules_ra0 h0 n0 _ T42.heap _
    rw [e42]
    exact ⟨rfl, N0, rfl⟩
theorem pd_0 : parseMethodDescriptor "(IIIII)V" = some ⟨[.int, .int, .int, .int, .int], none⟩ := by decide +kernel
theorem pd_1 : parseMethodDescriptor "()I" = some ⟨[], some .int⟩ := by decide +kernel
theorem pn_36 : plainName "com/example/uperm/uperm/PolicyCountsRecordsPinLaw" = true := by first | (simp [plainName, overriddenIn]; done) | decide +kernel
def v0_59_s0 (p1 : Int32) (p2 : Int32) (p3 : Int32) (p4 : Int32) : Int32 := if (((p1 + p2) + p3) + p4) = ((p1 + p2) + (p3 + p4)) then (1 : Int32) else (0 : Int32)
theorem own_law (p0 p1 p2 p3 p4 p5 : Int32) : (nar .boolean (v0_59_s0 p1 p2 p3 p4)) = 1 := by
  have e : v0_59_s0 p1 p2 p3 p4 = 1 := by unfold v0_59_s0; exact if_pos (Int32.add_assoc _ _ _)
  rw [e]; rfl

theorem ef_rm0 (m : MethodId) (p0 : Int32) (p1 : Int32) (p2 : Int32) (p3 : Int32) (p4 : Int32) (p5 : Int32) : entryFrame m #[(.int p0), (.int p1), (.int p2), (.int p3), (.int p4), (.int p5)] maxLocals = mkF m 0 #[.val (.int p0), .val (.int p1), .val (.int p2), .val (.int p3), .val (.int p4), .val (.int p5), .unset, .unset, .unset, .unset, .unset] [] := by first | (simp [entryFrame, mkF, argsToLocals, Value.category, maxLocals]; done) | rfl
def Q0 (Z : State) (p0 : Int32) (p1 : Int32) (p2 : Int32) (p3 : Int32) (p4 : Int32) (p5 : Int32) (h0 : Heap) (n0 : Nat) (v : Option Value) (h : Heap) (L : List Loc) : Prop := v = some (.int 1) ∧ Fr n0 L
set_option maxRecDepth 65536 in
set_option maxHeartbeats 40000000 in
theorem rm0 (l : Launch) (Z : State) (a0 : Array Value) (hw : ∀ d ∈ tables_1, d.before a0 Z = true) (ws : List Jvm.Cond) (p0 : Int32) (p1 : Int32) (p2 : Int32) (p3 : Int32) (p4 : Int32) (p5 : Int32) (h0 : Heap) (n0 : Nat) (Z0 : n0 ≤ h0.size) :
    MetFree l x (head1 (Jvm.Cond.code x code maxLocals ret :: ws) room_1) (fun a U => a = #[(.int p0), (.int p1), (.int p2), (.int p3), (.int p4), (.int p5)] ∧ Z.Warmed39 U.vm ∧ U.heap = h0) (fun _ _ _ _ _ => True) (fun _ U o U' => ∃ v L, o = .returned v ∧ Q0 Z p0 p1 p2 p3 p4 p5 h0 n0 v U'.heap L ∧ FrameEnd U o U' L room_1.cells room_1.slots) := by
  refine MetFree.of_bodySF (plainFor_of_name pn_36) hisR ?_
  intro p e s m args below meth c s₁ Bd hml0 hP hK
  obtain ⟨rfl, hZ, hh⟩ := hP
  have hx := Bd.exec
  have hby := Bd.bytes
  have hml : c.maxLocals = 11 := hml0
  have hown : s.vm.findClass "com/example/uperm/uperm/PolicyCountsRecordsPinLaw" = some m.cls := findClass_of_methodNamed Bd.named
  have hnm := (name_of_methodNamed Bd.named Bd.method).1
  have X0 : Stand p l e room_1 s m #[(.int p0), (.int p1), (.int p2), (.int p3), (.int p4), (.int p5)] below meth c s₁ [] 0 0 := Stand.of_body Bd
  have e0 : s₁.heap = h0 := by rw [← hh, Bd.state]; rfl
  have N0 := Fr.nil n0
  have KC0 := Keep.refl h0 ([] : List Addr)
  have pre0 : ∀ t, Steps p.tables e below (s₁.setTop (mkF m 0 #[.val (.int p0), .val (.int p1), .val (.int p2), .val (.int p3), .val (.int p4), .val (.int p5), .unset, .unset, .unset, .unset, .unset] [])) t → Steps p.tables e below (s₁.setTop (entryFrame m #[(.int p0), (.int p1), (.int p2), (.int p3), (.int p4), (.int p5)] maxLocals)) t := fun t k => castTop (ef_rm0 m p0 p1 p2 p3 p4 p5) k
  obtain ⟨T45, h45, X45, e45, E45, A45, D45, -, st45⟩ := newO X0 hx hZ hown (hw _ (List.mem_of_getElem? (i := 0) rfl)) (hw _ (List.mem_of_getElem? (i := 1) rfl)) (hw _ (List.mem_of_getElem? (i := 2) rfl)) e0 (g := (mkF m 0 #[.val (.int p0), .val (.int p1), .val (.int p2), .val (.int p3), .val (.int p4), .val (.int p5), .unset, .unset, .unset, .unset, .unset] [])) rfl (hb hby at_0) (by decide) (by decide)
  obtain ⟨b45, g45⟩ : ∃ z, z = h0.size := ⟨_, rfl⟩
  rw [← g45] at A45 D45 st45
  have g_b45 : n0 ≤ b45 := Nat.le_trans (Nat.le_trans Z0 KC0.1) (Nat.le_of_eq g45.symm)
  have sz_b45 : h0.size ≤ b45 := Nat.le_trans KC0.1 (Nat.le_of_eq g45.symm)
  have K45 : Keep h0 h45 [] := KC0.ext E45
  have F_users_b45 : Fld Z h45 b45 "com/example/uperm/uperm/PolicyCounts" "users" "I" (.int (0 : Int32)) := D45 (Or.inr (hw _ (List.mem_of_getElem? (i := 10) rfl))) (ty := .int) (by decide)
  have F_groups_b45 : Fld Z h45 b45 "com/example/uperm/uperm/PolicyCounts" "groups" "I" (.int (0 : Int32)) := D45 (Or.inr (hw _ (List.mem_of_getElem? (i := 12) rfl))) (ty := .int) (by decide)
  have F_roles_b45 : Fld Z h45 b45 "com/example/uperm/uperm/PolicyCounts" "roles" "I" (.int (0 : Int32)) := D45 (Or.inr (hw _ (List.mem_of_getElem? (i := 14) rfl))) (ty := .int) (by decide)
  have F_realms_b45 : Fld Z h45 b45 "com/example/uperm/uperm/PolicyCounts" "realms" "I" (.int (0 : Int32)) := D45 (Or.inr (hw _ (List.mem_of_getElem? (i := 16) rfl))) (ty := .int) (by decide)
  have F_rules_b45 : Fld Z h45 b45 "com/example/uperm/uperm/PolicyCounts" "rules" "I" (.int (0 : Int32)) := D45 (Or.inr (hw _ (List.mem_of_getElem? (i := 18) rfl))) (ty := .int) (by decide)
  have k46 := fun (t : State) (kk : Steps p.tables e below (T45.setTop (mkF m 3 #[.val (.int p0), .val (.int p1), .val (.int p2), .val (.int p3), .val (.int p4), .val (.int p5), .unset, .unset, .unset, .unset, .unset] [(.ref b45)])) t) => pre0 t (st45 _ kk)
  have k47 := fun (t : State) (kk : Steps p.tables e below (T45.setTop (mkF m 10 #[.val (.int p0), .val (.int p1), .val (.int p2), .val (.int p3), .val (.int p4), .val (.int p5), .unset, .unset, .unset, .unset, .unset] [(.int p4), (.int p3), (.int p2), (.int p1), (.int p0), (.ref b45), (.ref b45)])) t) => k46 t (by
    show Steps p.tables e below (T45.setTop (mkF m 3 #[.val (.int p0), .val (.int p1), .val (.int p2), .val (.int p3), .val (.int p4), .val (.int p5), .unset, .unset, .unset, .unset, .unset] [(.ref b45)])) _
    refine XS.dup X45.here hx rfl (hb hby at_3) rfl rfl ?_
    show Steps p.tables e below (T45.setTop (mkF m 4 #[.val (.int p0), .val (.int p1), .val (.int p2), .val (.int p3), .val (.int p4), .val (.int p5), .unset, .unset, .unset, .unset, .unset] [(.ref b45), (.ref b45)])) _
    refine XS.iloadN X45.here hx rfl (hb hby at_4) rfl ?_
    show Steps p.tables e below (T45.setTop (mkF m 5 #[.val (.int p0), .val (.int p1), .val (.int p2), .val (.int p3), .val (.int p4), .val (.int p5), .unset, .unset, .unset, .unset, .unset] [(.int p0), (.ref b45), (.ref b45)])) _
    refine XS.iloadN X45.here hx rfl (hb hby at_5) rfl ?_
    show Steps p.tables e below (T45.setTop (mkF m 6 #[.val (.int p0), .val (.int p1), .val (.int p2), .val (.int p3), .val (.int p4), .val (.int p5), .unset, .unset, .unset, .unset, .unset] [(.int p1), (.int p0), (.ref b45), (.ref b45)])) _
    refine XS.iloadN X45.here hx rfl (hb hby at_6) rfl ?_
    show Steps p.tables e below (T45.setTop (mkF m 7 #[.val (.int p0), .val (.int p1), .val (.int p2), .val (.int p3), .val (.int p4), .val (.int p5), .unset, .unset, .unset, .unset, .unset] [(.int p2), (.int p1), (.int p0), (.ref b45), (.ref b45)])) _
    refine XS.iloadN X45.here hx rfl (hb hby at_7) rfl ?_
    show Steps p.tables e below (T45.setTop (mkF m 8 #[.val (.int p0), .val (.int p1), .val (.int p2), .val (.int p3), .val (.int p4), .val (.int p5), .unset, .unset, .unset, .unset, .unset] [(.int p3), (.int p2), (.int p1), (.int p0), (.ref b45), (.ref b45)])) _
    refine XS.iload X45.here hx rfl (hb hby at_8) rfl ?_
    exact kk)
  have Zz48 : n0 ≤ h45.size := (Nat.le_trans Z0 K45.1)
  obtain ⟨_, _, ⟨T48, L48, k48, n48⟩, -, X48, ⟨Lc48, hQ48, l48, y48, z48⟩, st48⟩ := X45.specialBack hx (y := (⟨"com/example/uperm/uperm/PolicyCounts", "<init>", "(IIIII)V"⟩ : MethodName)) rfl hown (mvT hZ (hw _ (List.mem_of_getElem? (i := 3) rfl))) (mvT hZ (hw _ (List.mem_of_getElem? (i := 4) rfl))) (mvT hZ (hw _ (List.mem_of_getElem? (i := 5) rfl))) (by decide) (backOf (W := 1) (rm1 l Z a0 hw [] b45 p0 p1 p2 p3 p4 (0 : Int32) (0 : Int32) (0 : Int32) (0 : Int32) (0 : Int32) h45 n0 Zz48 A45 F_users_b45 g_b45 F_groups_b45 F_roles_b45 F_realms_b45 F_rules_b45) hZ (hw _ (List.mem_of_getElem? (i := 5) rfl)) (hw _ (List.mem_of_getElem? (i := 2) rfl)) (by decide) (by decide)) (g := (mkF m 10 #[.val (.int p0), .val (.int p1), .val (.int p2), .val (.int p3), .val (.int p4), .val (.int p5), .unset, .unset, .unset, .unset, .unset] [(.int p4), (.int p3), (.int p2), (.int p1), (.int p0), (.ref b45), (.ref b45)])) rfl (by rw [hml]; rfl) (Steps.refl _) (a := b45) (argsL := [(.int p0), (.int p1), (.int p2), (.int p3), (.int p4)]) (rest := [(.ref b45)]) (lenOf pd_0 rfl) rfl (by show 2 * 0 + _ ≤ _; exact Nat.le_of_eq rfl) (hb hby at_10) (fun _ _ => ⟨rfl, e45, (by decide : 1 + 0 ≤ _), (by decide : 5 + 0 ≤ _)⟩)
  dsimp only [Pt.U, Pt.locs, Pt.cells, Pt.slots] at X48 l48 y48 z48 st48 hQ48
  subst l48 y48 z48
  obtain ⟨rfl, N48q, Kq48, Eq48_0, Fq48_0, Fq48_1, Fq48_2, Fq48_3, Fq48_4⟩ := hQ48
  have K48 : Keep h0 T48.heap [] := K45.trans Kq48 (allS (Or.inr sz_b45) all0)
  have N48 := Fr.app N0 N48q
  have k49 := fun (t : State) (kk : Steps p.tables e below (T48.setTop (mkF m 13 #[.val (.int p0), .val (.int p1), .val (.int p2), .val (.int p3), .val (.int p4), .val (.int p5), .unset, .unset, .unset, .unset, .unset] [(.ref b45)])) t) => k47 t (st48.trans kk)
  have k50 := fun (t : State) (kk : Steps p.tables e below (T48.setTop (mkF m 15 #[.val (.int p0), .val (.int p1), .val (.int p2), .val (.int p3), .val (.int p4), .val (.int p5), .val (.ref b45), .unset, .unset, .unset, .unset] [])) t) => k49 t (by
    show Steps p.tables e below (T48.setTop (mkF m 13 #[.val (.int p0), .val (.int p1), .val (.int p2), .val (.int p3), .val (.int p4), .val (.int p5), .unset, .unset, .unset, .unset, .unset] [(.ref b45)])) _
    refine XS.astore X48.here hx rfl (hb hby at_13) rfl rfl (l' := #[.val (.int p0), .val (.int p1), .val (.int p2), .val (.int p3), .val (.int p4), .val (.int p5), .val (.ref b45), .unset, .unset, .unset, .unset]) rfl ?_
    exact kk)
  obtain ⟨T51, h51, X51, e51, E51, A51, D51, -, st51⟩ := newO X48 hx hZ hown (hw _ (List.mem_of_getElem? (i := 0) rfl)) (hw _ (List.mem_of_getElem? (i := 1) rfl)) (hw _ (List.mem_of_getElem? (i := 2) rfl)) rfl (g := (mkF m 15 #[.val (.int p0), .val (.int p1), .val (.int p2), .val (.int p3), .val (.int p4), .val (.int p5), .val (.ref b45), .unset, .unset, .unset, .unset] [])) rfl (hb hby at_15) (by decide) (by decide)
  obtain ⟨b51, g51⟩ : ∃ z, z = T48.heap.size := ⟨_, rfl⟩
  rw [← g51] at A51 D51 st51
  have ne_b45_b51 : b45 ≠ b51 := Nat.ne_of_lt (Nat.lt_of_lt_of_le Eq48_0.lt (Nat.le_of_eq g51.symm))
  have g_b51 : n0 ≤ b51 := Nat.le_trans (Nat.le_trans Z0 K48.1) (Nat.le_of_eq g51.symm)
  have sz_b51 : h0.size ≤ b51 := Nat.le_trans K48.1 (Nat.le_of_eq g51.symm)
  have K51 : Keep h0 h51 [] := K48.ext E51
  have F_users_b51 : Fld Z h51 b51 "com/example/uperm/uperm/PolicyCounts" "users" "I" (.int (0 : Int32)) := D51 (Or.inr (hw _ (List.mem_of_getElem? (i := 10) rfl))) (ty := .int) (by decide)
  have F_groups_b51 : Fld Z h51 b51 "com/example/uperm/uperm/PolicyCounts" "groups" "I" (.int (0 : Int32)) := D51 (Or.inr (hw _ (List.mem_of_getElem? (i := 12) rfl))) (ty := .int) (by decide)
  have F_roles_b51 : Fld Z h51 b51 "com/example/uperm/uperm/PolicyCounts" "roles" "I" (.int (0 : Int32)) := D51 (Or.inr (hw _ (List.mem_of_getElem? (i := 14) rfl))) (ty := .int) (by decide)
  have F_realms_b51 : Fld Z h51 b51 "com/example/uperm/uperm/PolicyCounts" "realms" "I" (.int (0 : Int32)) := D51 (Or.inr (hw _ (List.mem_of_getElem? (i := 16) rfl))) (ty := .int) (by decide)
  have F_rules_b51 : Fld Z h51 b51 "com/example/uperm/uperm/PolicyCounts" "rules" "I" (.int (0 : Int32)) := D51 (Or.inr (hw _ (List.mem_of_getElem? (i := 18) rfl))) (ty := .int) (by decide)
  have k52 := fun (t : State) (kk : Steps p.tables e below (T51.setTop (mkF m 18 #[.val (.int p0), .val (.int p1), .val (.int p2), .val (.int p3), .val (.int p4), .val (.int p5), .val (.ref b45), .unset, .unset, .unset, .unset] [(.ref b51)])) t) => k50 t (st51 _ kk)
  have k53 := fun (t : State) (kk : Steps p.tables e below (T51.setTop (mkF m 26 #[.val (.int p0), .val (.int p1), .val (.int p2), .val (.int p3), .val (.int p4), .val (.int p5), .val (.ref b45), .unset, .unset, .unset, .unset] [(.int p4), (.int p3), (.int p2), (.int p1), (.int p5), (.ref b51), (.ref b51)])) t) => k52 t (by
    show Steps p.tables e below (T51.setTop (mkF m 18 #[.val (.int p0), .val (.int p1), .val (.int p2), .val (.int p3), .val (.int p4), .val (.int p5), .val (.ref b45), .unset, .unset, .unset, .unset] [(.ref b51)])) _
    refine XS.dup X51.here hx rfl (hb hby at_18) rfl rfl ?_
    show Steps p.tables e below (T51.setTop (mkF m 19 #[.val (.int p0), .val (.int p1), .val (.int p2), .val (.int p3), .val (.int p4), .val (.int p5), .val (.ref b45), .unset, .unset, .unset, .unset] [(.ref b51), (.ref b51)])) _
    refine XS.iload X51.here hx rfl (hb hby at_19) rfl ?_
    show Steps p.tables e below (T51.setTop (mkF m 21 #[.val (.int p0), .val (.int p1), .val (.int p2), .val (.int p3), .val (.int p4), .val (.int p5), .val (.ref b45), .unset, .unset, .unset, .unset] [(.int p5), (.ref b51), (.ref b51)])) _
    refine XS.iloadN X51.here hx rfl (hb hby at_21) rfl ?_
    show Steps p.tables e below (T51.setTop (mkF m 22 #[.val (.int p0), .val (.int p1), .val (.int p2), .val (.int p3), .val (.int p4), .val (.int p5), .val (.ref b45), .unset, .unset, .unset, .unset] [(.int p1), (.int p5), (.ref b51), (.ref b51)])) _
    refine XS.iloadN X51.here hx rfl (hb hby at_22) rfl ?_
    show Steps p.tables e below (T51.setTop (mkF m 23 #[.val (.int p0), .val (.int p1), .val (.int p2), .val (.int p3), .val (.int p4), .val (.int p5), .val (.ref b45), .unset, .unset, .unset, .unset] [(.int p2), (.int p1), (.int p5), (.ref b51), (.ref b51)])) _
    refine XS.iloadN X51.here hx rfl (hb hby at_23) rfl ?_
    show Steps p.tables e below (T51.setTop (mkF m 24 #[.val (.int p0), .val (.int p1), .val (.int p2), .val (.int p3), .val (.int p4), .val (.int p5), .val (.ref b45), .unset, .unset, .unset, .unset] [(.int p3), (.int p2), (.int p1), (.int p5), (.ref b51), (.ref b51)])) _
    refine XS.iload X51.here hx rfl (hb hby at_24) rfl ?_
    exact kk)
  have Zz54 : n0 ≤ h51.size := (Nat.le_trans Z0 K51.1)
  obtain ⟨_, _, ⟨T54, L54, k54, n54⟩, -, X54, ⟨Lc54, hQ54, l54, y54, z54⟩, st54⟩ := X51.specialBack hx (y := (⟨"com/example/uperm/uperm/PolicyCounts", "<init>", "(IIIII)V"⟩ : MethodName)) rfl hown (mvT hZ (hw _ (List.mem_of_getElem? (i := 3) rfl))) (mvT hZ (hw _ (List.mem_of_getElem? (i := 4) rfl))) (mvT hZ (hw _ (List.mem_of_getElem? (i := 5) rfl))) (by decide) (backOf (W := 1) (rm1 l Z a0 hw [] b51 p5 p1 p2 p3 p4 (0 : Int32) (0 : Int32) (0 : Int32) (0 : Int32) (0 : Int32) h51 n0 Zz54 A51 F_users_b51 g_b51 F_groups_b51 F_roles_b51 F_realms_b51 F_rules_b51) hZ (hw _ (List.mem_of_getElem? (i := 5) rfl)) (hw _ (List.mem_of_getElem? (i := 2) rfl)) (by decide) (by decide)) (g := (mkF m 26 #[.val (.int p0), .val (.int p1), .val (.int p2), .val (.int p3), .val (.int p4), .val (.int p5), .val (.ref b45), .unset, .unset, .unset, .unset] [(.int p4), (.int p3), (.int p2), (.int p1), (.int p5), (.ref b51), (.ref b51)])) rfl (by rw [hml]; rfl) (Steps.refl _) (a := b51) (argsL := [(.int p5), (.int p1), (.int p2), (.int p3), (.int p4)]) (rest := [(.ref b51)]) (lenOf pd_0 rfl) rfl (by show 2 * 0 + _ ≤ _; exact Nat.le_of_eq rfl) (hb hby at_26) (fun _ _ => ⟨rfl, e51, (by decide : 2 + 0 ≤ _), (by decide : 10 + 0 ≤ _)⟩)
  dsimp only [Pt.U, Pt.locs, Pt.cells, Pt.slots] at X54 l54 y54 z54 st54 hQ54
  subst l54 y54 z54
  obtain ⟨rfl, N54q, Kq54, Eq54_0, Fq54_0, Fq54_1, Fq54_2, Fq54_3, Fq54_4⟩ := hQ54
  have K54 : Keep h0 T54.heap [] := K51.trans Kq54 (allS (Or.inr sz_b51) all0)
  have N54 := Fr.app N48 N54q
  have k55 := fun (t : State) (kk : Steps p.tables e below (T54.setTop (mkF m 29 #[.val (.int p0), .val (.int p1), .val (.int p2), .val (.int p3), .val (.int p4), .val (.int p5), .val (.ref b45), .unset, .unset, .unset, .unset] [(.ref b51)])) t) => k53 t (st54.trans kk)
  have k56 := fun (t : State) (kk : Steps p.tables e below (T54.setTop (mkF m 33 #[.val (.int p0), .val (.int p1), .val (.int p2), .val (.int p3), .val (.int p4), .val (.int p5), .val (.ref b45), .val (.ref b51), .unset, .unset, .unset] [(.ref b45)])) t) => k55 t (by
    show Steps p.tables e below (T54.setTop (mkF m 29 #[.val (.int p0), .val (.int p1), .val (.int p2), .val (.int p3), .val (.int p4), .val (.int p5), .val (.ref b45), .unset, .unset, .unset, .unset] [(.ref b51)])) _
    refine XS.astore X54.here hx rfl (hb hby at_29) rfl rfl (l' := #[.val (.int p0), .val (.int p1), .val (.int p2), .val (.int p3), .val (.int p4), .val (.int p5), .val (.ref b45), .val (.ref b51), .unset, .unset, .unset]) rfl ?_
    show Steps p.tables e below (T54.setTop (mkF m 31 #[.val (.int p0), .val (.int p1), .val (.int p2), .val (.int p3), .val (.int p4), .val (.int p5), .val (.ref b45), .val (.ref b51), .unset, .unset, .unset] [])) _
    refine XS.aload X54.here hx rfl (hb hby at_31) rfl rfl ?_
    exact kk)
  have f57 := ((Fq48_1.ext E51).keep Kq54 (ninS ne_b45_b51 nin0))
  have f58 := ((Fq48_2.ext E51).keep Kq54 (ninS ne_b45_b51 nin0))
  have f59 := ((Fq48_3.ext E51).keep Kq54 (ninS ne_b45_b51 nin0))
  have f60 := ((Fq48_4.ext E51).keep Kq54 (ninS ne_b45_b51 nin0))
  have Zz61 : n0 ≤ T54.heap.size := (Nat.le_trans Z0 K54.1)
  have f62 := ((Eq48_0.ext E51).keep Kq54)
  obtain ⟨cq61, kq61, q61a, q61b, q61c⟩ := isOf hZ rfl f62
  obtain ⟨_, _, ⟨T61, L61, k61, n61⟩, -, X61, ⟨Lc61, hQ61, l61, y61, z61⟩, st61⟩ := X54.virtualBack hx (y := (⟨"com/example/uperm/uperm/PolicyCounts", "records", "()I"⟩ : MethodName)) (z := (⟨"com/example/uperm/uperm/PolicyCounts", "records", "()I"⟩ : MethodName)) hown (mvT hZ (hw _ (List.mem_of_getElem? (i := 19) rfl))) (mvT hZ (hw _ (List.mem_of_getElem? (i := 20) rfl))) (notFace_of_selects (args := #[]) (mvT hZ (hw _ (List.mem_of_getElem? (i := 22) rfl)))) (mvT hZ (hw _ (List.mem_of_getElem? (i := 22) rfl))) (mvT hZ (hw _ (List.mem_of_getElem? (i := 21) rfl))) (by decide) (backOf (W := 0) (rm3 l Z a0 hw [] b45 p1 p2 p3 p4 T54.heap n0 Zz61 f57 f58 f59 f60) hZ (hw _ (List.mem_of_getElem? (i := 23) rfl)) (hw _ (List.mem_of_getElem? (i := 2) rfl)) (by decide) (by decide)) q61a q61c (g := (mkF m 33 #[.val (.int p0), .val (.int p1), .val (.int p2), .val (.int p3), .val (.int p4), .val (.int p5), .val (.ref b45), .val (.ref b51), .unset, .unset, .unset] [(.ref b45)])) rfl (by rw [hml]; rfl) (Steps.refl _) (argsL := []) (rest := []) (lenOf pd_1 rfl) rfl (by show 2 * 0 + _ ≤ _; exact Nat.le_of_eq rfl) (hb hby at_33) (fun _ _ => ⟨rfl, rfl, (by decide : 2 + 0 ≤ _), (by decide : 10 + 0 ≤ _)⟩)
  dsimp only [Pt.U, Pt.locs, Pt.cells, Pt.slots] at X61 l61 y61 z61 st61 hQ61
  subst l61 y61 z61
  obtain ⟨rfl, N61q, e61⟩ := hQ61
  have N61 := Fr.app N54 N61q
  have k63 := fun (t : State) (kk : Steps p.tables e below (T61.setTop (mkF m 36 #[.val (.int p0), .val (.int p1), .val (.int p2), .val (.int p3), .val (.int p4), .val (.int p5), .val (.ref b45), .val (.ref b51), .unset, .unset, .unset] [(.int (((p1 + p2) + p3) + p4))])) t) => k56 t (st61.trans kk)
  have k64 := fun (t : State) (kk : Steps p.tables e below (T61.setTop (mkF m 40 #[.val (.int p0), .val (.int p1), .val (.int p2), .val (.int p3), .val (.int p4), .val (.int p5), .val (.ref b45), .val (.ref b51), .val (.int (((p1 + p2) + p3) + p4)), .unset, .unset] [(.ref b51)])) t) => k63 t (by
    show Steps p.tables e below (T61.setTop (mkF m 36 #[.val (.int p0), .val (.int p1), .val (.int p2), .val (.int p3), .val (.int p4), .val (.int p5), .val (.ref b45), .val (.ref b51), .unset, .unset, .unset] [(.int (((p1 + p2) + p3) + p4))])) _
    refine XS.istore X61.here hx rfl (hb hby at_36) rfl (l' := #[.val (.int p0), .val (.int p1), .val (.int p2), .val (.int p3), .val (.int p4), .val (.int p5), .val (.ref b45), .val (.ref b51), .val (.int (((p1 + p2) + p3) + p4)), .unset, .unset]) rfl ?_
    show Steps p.tables e below (T61.setTop (mkF m 38 #[.val (.int p0), .val (.int p1), .val (.int p2), .val (.int p3), .val (.int p4), .val (.int p5), .val (.ref b45), .val (.ref b51), .val (.int (((p1 + p2) + p3) + p4)), .unset, .unset] [])) _
    refine XS.aload X61.here hx rfl (hb hby at_38) rfl rfl ?_
    exact kk)
  have Zz65 : n0 ≤ T54.heap.size := (Nat.le_trans Z0 K54.1)
  obtain ⟨cq65, kq65, q65a, q65b, q65c⟩ := isOf hZ e61 Eq54_0
  obtain ⟨_, _, ⟨T65, L65, k65, n65⟩, -, X65, ⟨Lc65, hQ65, l65, y65, z65⟩, st65⟩ := X61.virtualBack hx (y := (⟨"com/example/uperm/uperm/PolicyCounts", "records", "()I"⟩ : MethodName)) (z := (⟨"com/example/uperm/uperm/PolicyCounts", "records", "()I"⟩ : MethodName)) hown (mvT hZ (hw _ (List.mem_of_getElem? (i := 19) rfl))) (mvT hZ (hw _ (List.mem_of_getElem? (i := 20) rfl))) (notFace_of_selects (args := #[]) (mvT hZ (hw _ (List.mem_of_getElem? (i := 22) rfl)))) (mvT hZ (hw _ (List.mem_of_getElem? (i := 22) rfl))) (mvT hZ (hw _ (List.mem_of_getElem? (i := 21) rfl))) (by decide) (backOf (W := 0) (rm3 l Z a0 hw [] b51 p1 p2 p3 p4 T54.heap n0 Zz65 Fq54_1 Fq54_2 Fq54_3 Fq54_4) hZ (hw _ (List.mem_of_getElem? (i := 23) rfl)) (hw _ (List.mem_of_getElem? (i := 2) rfl)) (by decide) (by decide)) q65a q65c (g := (mkF m 40 #[.val (.int p0), .val (.int p1), .val (.int p2), .val (.int p3), .val (.int p4), .val (.int p5), .val (.ref b45), .val (.ref b51), .val (.int (((p1 + p2) + p3) + p4)), .unset, .unset] [(.ref b51)])) rfl (by rw [hml]; rfl) (Steps.refl _) (argsL := []) (rest := []) (lenOf pd_1 rfl) rfl (by show 2 * 0 + _ ≤ _; exact Nat.le_of_eq rfl) (hb hby at_40) (fun _ _ => ⟨rfl, e61, (by decide : 2 + 0 ≤ _), (by decide : 10 + 0 ≤ _)⟩)
  dsimp only [Pt.U, Pt.locs, Pt.cells, Pt.slots] at X65 l65 y65 z65 st65 hQ65
  subst l65 y65 z65
  obtain ⟨rfl, N65q, e65⟩ := hQ65
  have N65 := Fr.app N61 N65q
  have k66 := fun (t : State) (kk : Steps p.tables e below (T65.setTop (mkF m 43 #[.val (.int p0), .val (.int p1), .val (.int p2), .val (.int p3), .val (.int p4), .val (.int p5), .val (.ref b45), .val (.ref b51), .val (.int (((p1 + p2) + p3) + p4)), .unset, .unset] [(.int (((p1 + p2) + p3) + p4))])) t) => k64 t (st65.trans kk)
  have k69 := fun (t : State) (kk : Steps p.tables e below (T65.setTop (mkF m 74 #[.val (.int p0), .val (.int p1), .val (.int p2), .val (.int p3), .val (.int p4), .val (.int p5), .val (.ref b45), .val (.ref b51), .val (.int (((p1 + p2) + p3) + p4)), .val (.int (((p1 + p2) + p3) + p4)), .val (.int ((p1 + p2) + (p3 + p4)))] [(.int (v0_59_s0 p1 p2 p3 p4))])) t) => k66 t (by
    show Steps p.tables e below (T65.setTop (mkF m 43 #[.val (.int p0), .val (.int p1), .val (.int p2), .val (.int p3), .val (.int p4), .val (.int p5), .val (.ref b45), .val (.ref b51), .val (.int (((p1 + p2) + p3) + p4)), .unset, .unset] [(.int (((p1 + p2) + p3) + p4))])) _
    refine XS.istore X65.here hx rfl (hb hby at_43) rfl (l' := #[.val (.int p0), .val (.int p1), .val (.int p2), .val (.int p3), .val (.int p4), .val (.int p5), .val (.ref b45), .val (.ref b51), .val (.int (((p1 + p2) + p3) + p4)), .val (.int (((p1 + p2) + p3) + p4)), .unset]) rfl ?_
    show Steps p.tables e below (T65.setTop (mkF m 45 #[.val (.int p0), .val (.int p1), .val (.int p2), .val (.int p3), .val (.int p4), .val (.int p5), .val (.ref b45), .val (.ref b51), .val (.int (((p1 + p2) + p3) + p4)), .val (.int (((p1 + p2) + p3) + p4)), .unset] [])) _
    refine XS.iloadN X65.here hx rfl (hb hby at_45) rfl ?_
    show Steps p.tables e below (T65.setTop (mkF m 46 #[.val (.int p0), .val (.int p1), .val (.int p2), .val (.int p3), .val (.int p4), .val (.int p5), .val (.ref b45), .val (.ref b51), .val (.int (((p1 + p2) + p3) + p4)), .val (.int (((p1 + p2) + p3) + p4)), .unset] [(.int p1)])) _
    refine XS.iloadN X65.here hx rfl (hb hby at_46) rfl ?_
    show Steps p.tables e below (T65.setTop (mkF m 47 #[.val (.int p0), .val (.int p1), .val (.int p2), .val (.int p3), .val (.int p4), .val (.int p5), .val (.ref b45), .val (.ref b51), .val (.int (((p1 + p2) + p3) + p4)), .val (.int (((p1 + p2) + p3) + p4)), .unset] [(.int p2), (.int p1)])) _
    refine XS.iadd X65.here hx rfl (hb hby at_47) rfl ?_
    show Steps p.tables e below (T65.setTop (mkF m 48 #[.val (.int p0), .val (.int p1), .val (.int p2), .val (.int p3), .val (.int p4), .val (.int p5), .val (.ref b45), .val (.ref b51), .val (.int (((p1 + p2) + p3) + p4)), .val (.int (((p1 + p2) + p3) + p4)), .unset] [(.int (p1 + p2))])) _
    refine XS.iloadN X65.here hx rfl (hb hby at_48) rfl ?_
    show Steps p.tables e below (T65.setTop (mkF m 49 #[.val (.int p0), .val (.int p1), .val (.int p2), .val (.int p3), .val (.int p4), .val (.int p5), .val (.ref b45), .val (.ref b51), .val (.int (((p1 + p2) + p3) + p4)), .val (.int (((p1 + p2) + p3) + p4)), .unset] [(.int p3), (.int (p1 + p2))])) _
    refine XS.iload X65.here hx rfl (hb hby at_49) rfl ?_
    show Steps p.tables e below (T65.setTop (mkF m 51 #[.val (.int p0), .val (.int p1), .val (.int p2), .val (.int p3), .val (.int p4), .val (.int p5), .val (.ref b45), .val (.ref b51), .val (.int (((p1 + p2) + p3) + p4)), .val (.int (((p1 + p2) + p3) + p4)), .unset] [(.int p4), (.int p3), (.int (p1 + p2))])) _
    refine XS.iadd X65.here hx rfl (hb hby at_51) rfl ?_
    show Steps p.tables e below (T65.setTop (mkF m 52 #[.val (.int p0), .val (.int p1), .val (.int p2), .val (.int p3), .val (.int p4), .val (.int p5), .val (.ref b45), .val (.ref b51), .val (.int (((p1 + p2) + p3) + p4)), .val (.int (((p1 + p2) + p3) + p4)), .unset] [(.int (p3 + p4)), (.int (p1 + p2))])) _
    refine XS.iadd X65.here hx rfl (hb hby at_52) rfl ?_
    show Steps p.tables e below (T65.setTop (mkF m 53 #[.val (.int p0), .val (.int p1), .val (.int p2), .val (.int p3), .val (.int p4), .val (.int p5), .val (.ref b45), .val (.ref b51), .val (.int (((p1 + p2) + p3) + p4)), .val (.int (((p1 + p2) + p3) + p4)), .unset] [(.int ((p1 + p2) + (p3 + p4)))])) _
    refine XS.istore X65.here hx rfl (hb hby at_53) rfl (l' := #[.val (.int p0), .val (.int p1), .val (.int p2), .val (.int p3), .val (.int p4), .val (.int p5), .val (.ref b45), .val (.ref b51), .val (.int (((p1 + p2) + p3) + p4)), .val (.int (((p1 + p2) + p3) + p4)), .val (.int ((p1 + p2) + (p3 + p4)))]) rfl ?_
    show Steps p.tables e below (T65.setTop (mkF m 55 #[.val (.int p0), .val (.int p1), .val (.int p2), .val (.int p3), .val (.int p4), .val (.int p5), .val (.ref b45), .val (.ref b51), .val (.int (((p1 + p2) + p3) + p4)), .val (.int (((p1 + p2) + p3) + p4)), .val (.int ((p1 + p2) + (p3 + p4)))] [])) _
    refine XS.iload X65.here hx rfl (hb hby at_55) rfl ?_
    show Steps p.tables e below (T65.setTop (mkF m 57 #[.val (.int p0), .val (.int p1), .val (.int p2), .val (.int p3), .val (.int p4), .val (.int p5), .val (.ref b45), .val (.ref b51), .val (.int (((p1 + p2) + p3) + p4)), .val (.int (((p1 + p2) + p3) + p4)), .val (.int ((p1 + p2) + (p3 + p4)))] [(.int (((p1 + p2) + p3) + p4))])) _
    refine XS.iload X65.here hx rfl (hb hby at_57) rfl ?_
    suffices k68 : Steps p.tables e below (T65.setTop (mkF m 74 #[.val (.int p0), .val (.int p1), .val (.int p2), .val (.int p3), .val (.int p4), .val (.int p5), .val (.ref b45), .val (.ref b51), .val (.int (((p1 + p2) + p3) + p4)), .val (.int (((p1 + p2) + p3) + p4)), .val (.int ((p1 + p2) + (p3 + p4)))] [(.int (v0_59_s0 p1 p2 p3 p4))])) t by
      by_cases hc59_67 : (((p1 + p2) + p3) + p4) = ((p1 + p2) + (p3 + p4))
      · rw [(show (v0_59_s0 p1 p2 p3 p4) = (1 : Int32) from if_pos hc59_67)] at k68
        show Steps p.tables e below (T65.setTop (mkF m 59 #[.val (.int p0), .val (.int p1), .val (.int p2), .val (.int p3), .val (.int p4), .val (.int p5), .val (.ref b45), .val (.ref b51), .val (.int (((p1 + p2) + p3) + p4)), .val (.int (((p1 + p2) + p3) + p4)), .val (.int ((p1 + p2) + (p3 + p4)))] [(.int ((p1 + p2) + (p3 + p4))), (.int (((p1 + p2) + p3) + p4))])) _
        refine XS.icmpNo X65.here hx rfl (hb hby at_59) rfl (teq hc59_67).2 ?_
        show Steps p.tables e below (T65.setTop (mkF m 62 #[.val (.int p0), .val (.int p1), .val (.int p2), .val (.int p3), .val (.int p4), .val (.int p5), .val (.ref b45), .val (.ref b51), .val (.int (((p1 + p2) + p3) + p4)), .val (.int (((p1 + p2) + p3) + p4)), .val (.int ((p1 + p2) + (p3 + p4)))] [])) _
        refine XS.iload X65.here hx rfl (hb hby at_62) rfl ?_
        show Steps p.tables e below (T65.setTop (mkF m 64 #[.val (.int p0), .val (.int p1), .val (.int p2), .val (.int p3), .val (.int p4), .val (.int p5), .val (.ref b45), .val (.ref b51), .val (.int (((p1 + p2) + p3) + p4)), .val (.int (((p1 + p2) + p3) + p4)), .val (.int ((p1 + p2) + (p3 + p4)))] [(.int (((p1 + p2) + p3) + p4))])) _
        refine XS.iload X65.here hx rfl (hb hby at_64) rfl ?_
        show Steps p.tables e below (T65.setTop (mkF m 66 #[.val (.int p0), .val (.int p1), .val (.int p2), .val (.int p3), .val (.int p4), .val (.int p5), .val (.ref b45), .val (.ref b51), .val (.int (((p1 + p2) + p3) + p4)), .val (.int (((p1 + p2) + p3) + p4)), .val (.int ((p1 + p2) + (p3 + p4)))] [(.int (((p1 + p2) + p3) + p4)), (.int (((p1 + p2) + p3) + p4))])) _
        refine XS.icmpNo X65.here hx rfl (hb hby at_66) rfl (teq (rfl : (((p1 + p2) + p3) + p4) = (((p1 + p2) + p3) + p4))).2 ?_
        show Steps p.tables e below (T65.setTop (mkF m 69 #[.val (.int p0), .val (.int p1), .val (.int p2), .val (.int p3), .val (.int p4), .val (.int p5), .val (.ref b45), .val (.ref b51), .val (.int (((p1 + p2) + p3) + p4)), .val (.int (((p1 + p2) + p3) + p4)), .val (.int ((p1 + p2) + (p3 + p4)))] [])) _
        refine XS.iconst X65.here hx rfl (hb hby at_69) ?_
        show Steps p.tables e below (T65.setTop (mkF m 70 #[.val (.int p0), .val (.int p1), .val (.int p2), .val (.int p3), .val (.int p4), .val (.int p5), .val (.ref b45), .val (.ref b51), .val (.int (((p1 + p2) + p3) + p4)), .val (.int (((p1 + p2) + p3) + p4)), .val (.int ((p1 + p2) + (p3 + p4)))] [(.int (1 : Int32))])) _
        refine XS.goto X65.here hx rfl (pc0 := 70) (pc' := 74) rfl (hb hby at_70) (by decide) (by decide) ?_
        exact k68
      · rw [(show (v0_59_s0 p1 p2 p3 p4) = (0 : Int32) from if_neg hc59_67)] at k68
        show Steps p.tables e below (T65.setTop (mkF m 59 #[.val (.int p0), .val (.int p1), .val (.int p2), .val (.int p3), .val (.int p4), .val (.int p5), .val (.ref b45), .val (.ref b51), .val (.int (((p1 + p2) + p3) + p4)), .val (.int (((p1 + p2) + p3) + p4)), .val (.int ((p1 + p2) + (p3 + p4)))] [(.int ((p1 + p2) + (p3 + p4))), (.int (((p1 + p2) + p3) + p4))])) _
        refine XS.icmpYes X65.here hx rfl (pc0 := 59) (pc' := 73) rfl (hb hby at_59) rfl (feq hc59_67).2 (by decide) (by decide) ?_
        show Steps p.tables e below (T65.setTop (mkF m 73 #[.val (.int p0), .val (.int p1), .val (.int p2), .val (.int p3), .val (.int p4), .val (.int p5), .val (.ref b45), .val (.ref b51), .val (.int (((p1 + p2) + p3) + p4)), .val (.int (((p1 + p2) + p3) + p4)), .val (.int ((p1 + p2) + (p3 + p4)))] [])) _
        refine XS.iconst X65.here hx rfl (hb hby at_73) ?_
        exact k68
    exact kk)
  obtain ⟨fs, hr, hrun, hended, hW, hsame⟩ := X65.leave (v := some (.int (nar .boolean (v0_59_s0 p1 p2 p3 p4)))) (fun h => by rw [Bd.returns] at h; cases h)
  have hv : (nar .boolean (v0_59_s0 p1 p2 p3 p4)) = (nar .boolean (v0_59_s0 p1 p2 p3 p4)) := rfl
  have hone : (nar .boolean (v0_59_s0 p1 p2 p3 p4)) = 1 := hv.symm.trans (own_law p0 p1 p2 p3 p4 p5)
  refine ⟨_, _, k69 _ ?_, hrun, hended, _, _, rfl, ?_, ⟨_, rfl⟩, hW, hsame.mono (by decide) (by decide)⟩
  · show Steps p.tables e below (T65.setTop (mkF m 74 #[.val (.int p0), .val (.int p1), .val (.int p2), .val (.int p3), .val (.int p4), .val (.int p5), .val (.ref b45), .val (.ref b51), .val (.int (((p1 + p2) + p3) + p4)), .val (.int (((p1 + p2) + p3) + p4)), .val (.int ((p1 + p2) + (p3 + p4)))] [(.int (v0_59_s0 p1 p2 p3 p4))])) _
    exact retN X65 hx (t := .boolean) Bd.returns (by simp) (hb hby at_74) hr
  · show Q0 Z p0 p1 p2 p3 p4 p5 h0 n0 _ T65.heap _
    rw [e65]
    exact ⟨congrArg (fun z => some (Value.int z)) hone, N65⟩
set_option maxRecDepth 65536 in
set_option maxHeartbeats 40000000 in
theorem comes_1 {Post : Tables → Env → Array Value → State → Outcome → State → Prop} (hpost : ∀ tb e args s v u, (limb_1_1.after args s (.returned v) u = true ∧ limb_1_2.after args s (.returned v) u = true ∧ True) → FrameEnd s (.returned v) u (Jvm.fieldLocs frame_1_writes args s ++ Jvm.arrayLocs frame_1_arrays args s ++ Jvm.staticLocs frame_1_statics s) 16 128 → Post tb e args s (.returned v) u) :
    ArmFor flags0 classFile x code maxLocals ret World_1 tables_1 room_1 Calls_1 rest_1 Pre_1 Post := by
  intro l hfl _ _ p e ha hc hk s m args below hf hA hF happ hP
  obtain ⟨hcalls, hrest, hpre⟩ := hP
  obtain ⟨-, -, -, hnamed, -, -, -, hat⟩ := (Spec.applies_iff hf).mp happ
  obtain ⟨hg, hn⟩ := and_e (Cond.before_iff.mp (show (Jvm.Cond.and given_1 narrow_1).before args s = true from hpre))
  obtain ⟨hcnt, hg0⟩ := and_e hg
  obtain ⟨ha0, hg1⟩ := and_e hg0
  obtain ⟨ha1, hg2⟩ := and_e hg1
  obtain ⟨ha2, hg3⟩ := and_e hg2
  obtain ⟨ha3, hg4⟩ := and_e hg3
  obtain ⟨ha4, hg5⟩ := and_e hg4
  have ha5 := hg5
  obtain ⟨w0, w1, w2, w3, w4, w5, rfl⟩ : ∃ w0 w1 w2 w3 w4 w5 : Value, args = #[w0, w1, w2, w3, w4, w5] := by
    have hs : args.size = 6 := by simpa [Cond.value, given_1] using hcnt
    obtain ⟨L⟩ := args
    match L, hs with
    | [w0, w1, w2, w3, w4, w5], _ => exact ⟨w0, w1, w2, w3, w4, w5, rfl⟩
  have hw := fun d (hd : d ∈ tables_1) => atoms_spec (ws := Jvm.Cond.code x code maxLocals ret :: tables_1) hat d (List.mem_cons_of_mem _ hd)
  have hfit : Fit s := fun {y c} hc i hi => by
    obtain ⟨ha, rfl⟩ := Array.getElem?_eq_some_iff.mp hc
    have q := List.all_eq_true.mp ((Array.all_eq_true_iff_forall_mem.mp hF) _ (Array.getElem_mem ha)) i (List.mem_range.mpr hi)
    simpa [Array.getElem?_eq_getElem hi] using q
  obtain ⟨p0, ea0⟩ := is_v ha0
  obtain rfl : w0 = (.int p0) := Option.some.inj ea0
  obtain ⟨p1, ea1⟩ := is_v ha1
  obtain rfl : w1 = (.int p1) := Option.some.inj ea1
  obtain ⟨p2, ea2⟩ := is_v ha2
  obtain rfl : w2 = (.int p2) := Option.some.inj ea2
  obtain ⟨p3, ea3⟩ := is_v ha3
  obtain rfl : w3 = (.int p3) := Option.some.inj ea3
  obtain ⟨p4, ea4⟩ := is_v ha4
  obtain rfl : w4 = (.int p4) := Option.some.inj ea4
  obtain ⟨p5, ea5⟩ := is_v ha5
  obtain rfl : w5 = (.int p5) := Option.some.inj ea5
  obtain ⟨n, o, h1, h2, h3, _, L, rfl, ⟨rfl, N⟩, hq⟩ := rm0 l s _ hw tables_1 p0 p1 p2 p3 p4 p5 s.heap s.heap.size (Nat.le_refl _)  p e ha hc hk s m _ below hf ((Spec.applies_iff_loose hf).mp happ).1 ⟨rfl, State.Warmed39.refl s, rfl⟩ trivial
  refine ⟨n, _, h1, h2, h3, hpost _ _ _ _ _ _ ⟨Cond.after_iff.mpr rfl, Cond.after_iff.mpr (eq_i res_at (Term.int_eval (1)) rfl), trivial⟩ ⟨hq.1, hq.2.1, (hq.2.2.sift fun y hy => Or.inr (N y hy)).mono (by decide) (by decide)⟩⟩
theorem main_1_1 : Claimed_1_1 := comes_1 fun _ _ _ _ _ _ h hF => ⟨h.1, hF⟩
theorem main_1_2 : Claimed_1_2 := comes_1 fun _ _ _ _ _ _ h hF => ⟨h.2.1, hF⟩
end Jvm.Pilot.@@N@@
namespace Jvm.Pilot.@@N@@
open Jvm Jvm.ClassFile Sem Op Lib Jvm.Free Jvm.Stand Jvm.Pilot.@@N@@.Jvm.D
/-! MADE BY PROGRAM (witnessworld.py) out of the Statement's table words and the real class files: 9 classes; the members and pool entries that the words name. The judged class is class 1, her method 1. -/
namespace start1
open Jvm.ClassFile
def u (s : String) : CpInfo := .utf8 (stringToUtf16 s)
/-- a pool by its gaps: so many unusable entries, then the entry; so many at the end -/
def gap : Nat → List CpInfo → List CpInfo
  | 0, r => r
  | n + 1, r => .unusable :: gap n r
def poolList (es : List (Nat × CpInfo)) (last : Nat) : List CpInfo := es.foldr (fun e r => gap e.1 (e.2 :: r)) (gap last [])
def pool (es : List (Nat × CpInfo)) (last : Nat) : Array CpInfo := ⟨poolList es last⟩
def fileOf (pool : Array CpInfo) (this : Nat) (attrs : Array Attribute := #[]) (ms : Array MethodInfo := #[]) (fl : Nat := 33) (sup : Nat := 0) (ifs : Array Nat := #[]) (fds : Array FieldInfo := #[]) : ClassFile where
  minorVersion := 0
  majorVersion := 65
  constantPool := pool
  accessFlags := fl
  thisClass := this
  superClass := sup
  interfaces := ifs
  fields := fds
  methods := ms
  attributes := attrs
def plain (name : String) (sup : Option ClassId) : Class where
  name := name
  kind := .ordinary
  loader := none
  accessFlags := 33
  super := sup
  interfaces := #[]
  cf := none
  fields := #[]
  methods := #[]
  instanceTypes := #[]
  staticTypes := #[]
  resolved := #[]
  callSites := []
  init := .initialized
  statics := none
  mirror := none

def pool0 : Array CpInfo := pool [(5, u "<init>"), (0, u "()V"), (1, .class_ 10), (1, u "java/lang/Object")] 113

def k0c0 : Code := { maxStack := 0, maxLocals := 1, code := object_method_1_code, exceptionTable := #[], attributes := #[] }
def k0m0 : Method := { name := "<init>", desc := "()V", sig := { parameters := [], returnType := none }, accessFlags := 1, code := some k0c0 }
/-- java/lang/Object -/
def k0 : Class := { plain "java/lang/Object" none with
  accessFlags := 33
  interfaces := #[]
  cf := some (fileOf pool0 8 #[] #[{ accessFlags := 1, nameIndex := 5, descriptorIndex := 6, attributes := #[] }] 33 0 #[] #[])
  fields := #[]
  methods := #[k0m0]
  instanceTypes := #[]
  staticTypes := #[]
  resolved := Array.replicate 124 none
  statics := none }

def pool1 : Array CpInfo := pool [(2, .class_ 4), (1, u "java/lang/Object"), (0, u "<init>"), (0, u "()V"), (0, .class_ 8), (0, u "com/example/uperm/uperm/PolicyCounts"), (0, .methodref 7 10), (0, .nameAndType 5 11), (0, u "(IIIII)V"), (0, .methodref 7 13), (0, .nameAndType 14 15), (0, u "records"), (0, u "()I"), (0, .class_ 17), (0, u "com/example/uperm/uperm/PolicyCountsRecordsPinLaw"), (2, u "law"), (0, u "(IIIIII)Z")] 3

def k1m0 : Method := { name := "<init>", desc := "()V", sig := { parameters := [], returnType := none }, accessFlags := 2, code := none }
def k1c1 : Code := { maxStack := 7, maxLocals := 11, code := code, exceptionTable := #[], attributes := #[] }
def k1m1 : Method := { name := "law", desc := "(IIIIII)Z", sig := { parameters := [.int, .int, .int, .int, .int, .int], returnType := some .boolean }, accessFlags := 9, code := some k1c1 }
/-- com/example/uperm/uperm/PolicyCountsRecordsPinLaw -/
def k1 : Class := { plain "com/example/uperm/uperm/PolicyCountsRecordsPinLaw" (some 0) with
  accessFlags := 49
  interfaces := #[]
  cf := some (fileOf pool1 16 #[] #[{ accessFlags := 2, nameIndex := 5, descriptorIndex := 6, attributes := #[] }, { accessFlags := 9, nameIndex := 20, descriptorIndex := 21, attributes := #[] }] 49 2 #[] #[])
  fields := #[]
  methods := #[k1m0, k1m1]
  instanceTypes := #[]
  staticTypes := #[]
  resolved := Array.replicate 25 none
  statics := none }

def pool2 : Array CpInfo := pool [(1, .methodref 2 3), (0, .class_ 4), (0, .nameAndType 5 6), (0, u "java/lang/Object"), (0, u "<init>"), (0, u "()V"), (0, .fieldref 8 9), (0, .class_ 10), (0, .nameAndType 11 12), (0, u "com/example/uperm/uperm/PolicyCounts"), (0, u "users"), (0, u "I"), (0, .fieldref 8 14), (0, .nameAndType 15 12), (0, u "groups"), (0, .fieldref 8 17), (0, .nameAndType 18 12), (0, u "roles"), (0, .fieldref 8 20), (0, .nameAndType 21 12), (0, u "realms"), (0, .fieldref 8 23), (0, .nameAndType 24 12), (0, u "rules"), (0, u "(IIIII)V"), (2, u "()I"), (0, u "records")] 2

def k2c0 : Code := { maxStack := 2, maxLocals := 6, code := prog_10_method_1_code, exceptionTable := #[], attributes := #[] }
def k2m0 : Method := { name := "<init>", desc := "(IIIII)V", sig := { parameters := [.int, .int, .int, .int, .int], returnType := none }, accessFlags := 0, code := some k2c0 }
def k2c1 : Code := { maxStack := 2, maxLocals := 1, code := prog_10_method_7_code, exceptionTable := #[], attributes := #[] }
def k2m1 : Method := { name := "records", desc := "()I", sig := { parameters := [], returnType := some .int }, accessFlags := 0, code := some k2c1 }
/-- com/example/uperm/uperm/PolicyCounts -/
def k2 : Class := { plain "com/example/uperm/uperm/PolicyCounts" (some 0) with
  accessFlags := 48
  interfaces := #[]
  cf := some (fileOf pool2 8 #[] #[{ accessFlags := 0, nameIndex := 5, descriptorIndex := 25, attributes := #[] }, { accessFlags := 0, nameIndex := 29, descriptorIndex := 28, attributes := #[] }] 48 2 #[] #[{ accessFlags := 18, nameIndex := 11, descriptorIndex := 12, attributes := #[] }, { accessFlags := 18, nameIndex := 15, descriptorIndex := 12, attributes := #[] }, { accessFlags := 18, nameIndex := 18, descriptorIndex := 12, attributes := #[] }, { accessFlags := 18, nameIndex := 21, descriptorIndex := 12, attributes := #[] }, { accessFlags := 18, nameIndex := 24, descriptorIndex := 12, attributes := #[] }])
  fields := #[{ name := "users", type := .int, accessFlags := 18, slot := 0, constantValue := 0 }, { name := "groups", type := .int, accessFlags := 18, slot := 1, constantValue := 0 }, { name := "roles", type := .int, accessFlags := 18, slot := 2, constantValue := 0 }, { name := "realms", type := .int, accessFlags := 18, slot := 3, constantValue := 0 }, { name := "rules", type := .int, accessFlags := 18, slot := 4, constantValue := 0 }]
  methods := #[k2m0, k2m1]
  instanceTypes := #[.int, .int, .int, .int, .int]
  staticTypes := #[]
  resolved := Array.replicate 32 none
  statics := none }

def pool3 : Array CpInfo := pool [(1, u "java/lang/Cloneable"), (0, .class_ 1), (0, u "java/lang/Object"), (0, .class_ 3)] 3

/-- java/lang/Cloneable -/
def k3 : Class := { plain "java/lang/Cloneable" (some 0) with
  accessFlags := 1537
  interfaces := #[]
  cf := some (fileOf pool3 2 #[] #[] 1537 4 #[] #[])
  fields := #[]
  methods := #[]
  instanceTypes := #[]
  staticTypes := #[]
  resolved := Array.replicate 8 none
  statics := none }

def pool4 : Array CpInfo := pool [(1, u "java/io/Serializable"), (0, .class_ 1), (0, u "java/lang/Object"), (0, .class_ 3)] 3

/-- java/io/Serializable -/
def k4 : Class := { plain "java/io/Serializable" (some 0) with
  accessFlags := 1537
  interfaces := #[]
  cf := some (fileOf pool4 2 #[] #[] 1537 4 #[] #[])
  fields := #[]
  methods := #[]
  instanceTypes := #[]
  staticTypes := #[]
  resolved := Array.replicate 8 none
  statics := none }

/-- the primitive byte -/
def k5 : Class := { plain "byte" none with kind := .primitive 'B', accessFlags := 0x411 }
/-- [B -/
def k6 : Class := { plain "[B" (some 0) with kind := .array 5 .byte, interfaces := #[3, 4], accessFlags := 1041 }

/-- the primitive int -/
def k7 : Class := { plain "int" none with kind := .primitive 'I', accessFlags := 0x411 }
/-- [I -/
def k8 : Class := { plain "[I" (some 0) with kind := .array 7 .int, interfaces := #[3, 4], accessFlags := 1041 }

def heap : Heap := #[]
def classes : Array Class := #[k0, k1, k2, k3, k4, k5, k6, k7, k8]
def interned : List (Array UInt16 × Addr) := []
def slotsUsed : Nat := 0
def theMethod : MethodId := ⟨1, 1⟩
def args0 : Array Value := #[.int 1, .int 2, .int 3, .int 4, .int 5, .int 6]
def aboutOver (below : List Frame) : State where
  vm := { classes := classes, interned := interned.toArray }
  heap := heap
  slotsUsed := slotsUsed
  threads := #[{ frames := .invoking theMethod args0 :: below }]
def below0 : List Frame := [.native { method := ⟨0, 0⟩, args := #[] }]
def about1 : State := aboutOver below0
def p0 : Program := .bare "" "" ""
def e0 : Env := launch0.env 0 0 0
theorem w_frames : about1.frames = Frame.invoking theMethod args0 :: below0 := rfl
set_option maxRecDepth 65536 in
theorem w_args : argsFit about1.vm theMethod args0 = true := by decide +kernel
set_option maxRecDepth 65536 in
theorem w_heap : heapFits about1 = true := by decide +kernel
set_option maxRecDepth 65536 in
theorem w_runnable : about1.curStatus? = some .runnable := by decide +kernel
set_option maxRecDepth 65536 in
theorem w_alone : about1.alone = true := by decide +kernel
set_option maxRecDepth 65536 in
theorem w_named : about1.methodNamed? x = some theMethod := by decide +kernel
set_option maxRecDepth 65536 in
theorem w_hears : about1.hears theMethod below0 = true := by decide +kernel
set_option maxRecDepth 65536 in
theorem w_ripe : about1.ripe theMethod args0 below0 = true := by decide +kernel
theorem w_running : about1.status = .running := rfl
set_option maxRecDepth 65536 in
theorem w_room : about1.hasRoom e0.platform room_1 = true :=
  launch0.hasRoom_least _ room_1 (by decide +kernel) (by decide +kernel) (by decide +kernel) (by decide +kernel) (by decide +kernel) (by decide +kernel)
theorem allAtoms_all (ts : List Jvm.Cond) (a : Array Jvm.Value) (st : Jvm.State) : (allAtoms ts).before a st = ts.all (fun c => c.before a st) := by
  induction ts with
  | nil => rfl
  | cons c t ih =>
    show (Jvm.Cond.and c (allAtoms t)).before a st = _
    rw [Jvm.Cond.before_and, ih, List.all_cons]
def words1 : List Jvm.Cond := Jvm.Cond.code x code maxLocals ret :: tables_1
/-- a 'code' word, met by the world's own term for the bytes: nothing is compared byte by byte -/
theorem code_word {y : MethodName} {bytes : ByteArray} {mx : Nat} {rt : Option FieldType} {a : Array Value} {s : State} {m : MethodId} {meth : Method} {c : Code} (h1 : s.methodNamed? y = some m) (h2 : s.vm.method? m = some meth) (h3 : meth.code = some c) (h4 : c.code = bytes)
    (h5 : (c.maxLocals == mx && c.exceptionTable.isEmpty && decide (c.maxStack ≤ mostOperands) && decide (meth.sig.returnType = rt) && !meth.locks && decide (parseMethodDescriptor y.desc = some meth.sig)) = true) : (Jvm.Cond.code y bytes mx rt).before a s = true := by
  simp only [Bool.and_eq_true, beq_iff_eq, Bool.not_eq_true', decide_eq_true_eq] at h5
  obtain ⟨⟨⟨⟨⟨g1, g2⟩, g3⟩, g4⟩, g5⟩, g6⟩ := h5
  simp [Cond.before, Cond.holds, Cond.value, h1, h2, h3, h4, g1, g2, g3, g4, g5, g6]
def isCode : Jvm.Cond → Bool
  | .code _ _ _ _ => true
  | _ => false
theorem all_split {L : List Jvm.Cond} {P : Jvm.Cond → Bool} (h1 : L.all (fun c => isCode c || P c) = true) (h2 : ∀ c ∈ L.filter isCode, P c = true) : L.all P = true := by
  refine List.all_eq_true.mpr fun c hc => ?_
  have h := List.all_eq_true.mp h1 c hc
  rcases Bool.eq_false_or_eq_true (isCode c) with hi | hi
  · exact h2 c (List.mem_filter.mpr ⟨hc, hi⟩)
  · simpa [hi] using h
set_option maxRecDepth 65536 in
theorem w_c0 : (Jvm.Cond.code x code maxLocals ret).before args0 about1 = true := code_word (m := ⟨1, 1⟩) (meth := k1m1) (c := k1c1) (by decide +kernel) rfl rfl rfl (by decide +kernel)
set_option maxRecDepth 65536 in
theorem w_c1 : (Jvm.Cond.code ({ cls := "com/example/uperm/uperm/PolicyCounts", name := "<init>", desc := "(IIIII)V" } : Jvm.MethodName) prog_10_method_1_code (6 : Nat) (Option.none : Option Jvm.ClassFile.FieldType)).before args0 about1 = true := code_word (m := ⟨2, 0⟩) (meth := k2m0) (c := k2c0) (by decide +kernel) rfl rfl rfl (by decide +kernel)
set_option maxRecDepth 65536 in
theorem w_c2 : (Jvm.Cond.code ({ cls := "java/lang/Object", name := "<init>", desc := "()V" } : Jvm.MethodName) object_method_1_code (1 : Nat) (Option.none : Option Jvm.ClassFile.FieldType)).before args0 about1 = true := code_word (m := ⟨0, 0⟩) (meth := k0m0) (c := k0c0) (by decide +kernel) rfl rfl rfl (by decide +kernel)
set_option maxRecDepth 65536 in
theorem w_c3 : (Jvm.Cond.code ({ cls := "com/example/uperm/uperm/PolicyCounts", name := "records", desc := "()I" } : Jvm.MethodName) prog_10_method_7_code (1 : Nat) (Option.some Jvm.ClassFile.FieldType.int)).before args0 about1 = true := code_word (m := ⟨2, 1⟩) (meth := k2m1) (c := k2c1) (by decide +kernel) rfl rfl rfl (by decide +kernel)
def codes1 : List Jvm.Cond := [Jvm.Cond.code x code maxLocals ret, Jvm.Cond.code ({ cls := "com/example/uperm/uperm/PolicyCounts", name := "<init>", desc := "(IIIII)V" } : Jvm.MethodName) prog_10_method_1_code (6 : Nat) (Option.none : Option Jvm.ClassFile.FieldType), Jvm.Cond.code ({ cls := "java/lang/Object", name := "<init>", desc := "()V" } : Jvm.MethodName) object_method_1_code (1 : Nat) (Option.none : Option Jvm.ClassFile.FieldType), Jvm.Cond.code ({ cls := "com/example/uperm/uperm/PolicyCounts", name := "records", desc := "()I" } : Jvm.MethodName) prog_10_method_7_code (1 : Nat) (Option.some Jvm.ClassFile.FieldType.int)]
set_option maxRecDepth 65536 in
theorem codes_eq : words1.filter isCode = codes1 := rfl
theorem w_codes : ∀ c ∈ words1.filter isCode, c.before args0 about1 = true := by
  rw [codes_eq]
  intro c hc
  simp only [codes1, List.mem_cons, List.not_mem_nil, or_false] at hc
  rcases hc with rfl | rfl | rfl | rfl
  · exact w_c0
  · exact w_c1
  · exact w_c2
  · exact w_c3
set_option maxRecDepth 65536 in
theorem w_t1 : (words1.take 24).all (fun c => isCode c || c.before args0 about1) = true := by decide +kernel
set_option maxRecDepth 65536 in
theorem w_t2 : (words1.drop 24).all (fun c => isCode c || c.before args0 about1) = true := by decide +kernel
theorem w_tables : (allAtoms (Jvm.Cond.code x code maxLocals ret :: tables_1)).before args0 about1 = true := by
  rw [allAtoms_all]
  show words1.all (fun c => c.before args0 about1) = true
  refine all_split ?_ w_codes
  rw [← List.take_append_drop 24 words1, List.all_append, w_t1, w_t2]
  rfl
set_option maxRecDepth 65536 in
theorem w_case : (Jvm.Cond.and given_1 narrow_1).before args0 about1 = true := by decide +kernel
theorem w_applies : (headSpec (Jvm.Cond.code x code maxLocals ret :: tables_1) room_1).applies x e0.platform about1 = true :=
  (Spec.applies_iff w_frames).mpr ⟨w_running, w_runnable, w_alone, w_named, w_hears, w_ripe, w_room, w_tables⟩
theorem atStart : AtStart classFile x code maxLocals ret World_1 tables_1 room_1 Calls_1 rest_1 Pre_1 launch0 p0 e0 about1 theMethod args0 below0 :=
  ⟨lists_1, trivial, launch0.admits_env _ _ _, launch0.least_env, fairChoices_fair.cas, fairChoices_fair.clock, w_frames, w_args, w_heap, w_applies, trivial, trivial, w_case⟩
end start1
theorem witness_1 : WitnessClaimed_1 := ⟨start1.p0, start1.e0, start1.about1, start1.theMethod, start1.args0, start1.below0, start1.atStart⟩
end Jvm.Pilot.@@N@@
