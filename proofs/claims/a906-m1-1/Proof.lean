import JvmDerived
import JvmDerived.Pilot.@@N@@Statement
import JvmDerived.Pilot.@@N@@Code
set_option linter.unusedVariables false
set_option linter.unusedSimpArgs false
namespace Jvm.RoadKit
open Sem ClassFile Op Lib Jvm.Stand Jvm.Free Jvm.LawKit
section New
variable {p : Program} {l : Launch} {e : Env} {R : Room} {s : State} {m : MethodId} {args : Array Value} {below : List Frame} {meth : Method} {c : Code} {T : State} {locs : List Loc} {cells slots : Nat}
theorem retI (X : Stand p l e R s m args below meth c T locs cells slots) (hx : p.tables.exec = Jvm.exec) {pc : Nat} {Ls : Array Slot} {z : Int32} {rest : List Value} (hret : meth.sig.returnType = some .int) (hd : decode c.code pc = .ok (.ireturn, 1)) {fs : List Frame}
    (hl : ∀ (f : JFrame) (acts : List Action), f.method = m → f.locked = none → f.entered = [] → (doReturn e (T.setTop f) acts (some (.int z))).1 = T.setFrames fs) : Steps p.tables e below (T.setTop (mkF m pc Ls (.int z :: rest))) (T.setFrames fs) := by
  have hm' : T.vm.method? m = some meth := X.method'
  have hn : narrow .int (.int z) = .int z := rfl
  show Steps p.tables e below (T.setTop { method := m, pc := pc, locals := Ls, stack := _ :: rest, locked := none }) _
  jvm_step X.here [X.here.top, hx, hd, hm', hret, hn]
  first | (intro acts; rw [hl _ acts rfl rfl rfl]) | rw [hl _ _ rfl rfl rfl]
  exact Steps.refl _
theorem own_lremM {g : JFrame} {target : State} (X : Stand p l e R s m args below meth c T locs cells slots) (hx : p.tables.exec = Jvm.exec) (hg : g.method = m) {x y : Int64} {rest : List Value} (hd : decode c.code g.pc = .ok (.lrem, 1)) (hs : g.stack = .long y :: .long x :: rest) (hy : y ≠ 0)
    (hr : Steps p.tables e below (T.setTop { g with pc := g.pc + 1, stack := .long (x % y) :: rest }) target) : Steps p.tables e below (T.setTop g) target := by
  have q : x - x / y * y = x % y := lrem_mod x y
  exact XS.lrem X.here hx hg hd hs hy (by rw [q]; exact hr)
theorem own_getD_int (L : List Int32) (n : Nat) (d : Int32) : (L.map Value.int).getD n (.int d) = .int (L.getD n d) := by simp [List.getD_eq_getElem?_getD, List.getElem?_map]
theorem own_getD_long (L : List Int64) (n : Nat) (d : Int64) : (L.map Value.long).getD n (.long d) = .long (L.getD n d) := by simp [List.getD_eq_getElem?_getD, List.getElem?_map]
theorem own_lt_nat {j z : Int32} (h : ¬ j < 0) (q : j < z) : j.toNatClampNeg < z.toNatClampNeg := by
  rw [Int32.lt_iff_toInt_lt] at h q; have : (0 : Int32).toInt = 0 := rfl
  simp only [Int32.toNatClampNeg]; omega
theorem own_eq_int {t : Term} {v : Int32} {args : Array Value} {s : State} (h : (Cond.eq t (.int v)).value args s none s [] = some true) : t.eval args s none [] s = some (.int v) := by
  simp only [Cond.value, Term.eval] at h
  cases ht : t.eval args s none [] s with
  | none => simp [ht] at h
  | some x => cases x <;> simp [ht] at h ⊢; exact h
theorem own_eq_long {t : Term} {v : Int64} {args : Array Value} {s : State} (h : (Cond.eq t (.long v)).value args s none s [] = some true) : t.eval args s none [] s = some (.long v) := by
  simp only [Cond.value, Term.eval] at h
  cases ht : t.eval args s none [] s with
  | none => simp [ht] at h
  | some x => cases x <;> simp [ht] at h ⊢; exact h
theorem own_selpriv {s : State} {args : Array Value} {y : MethodName} {n : Nat} (wi : (Cond.instantiable y.cls n).before args s = true) (hpriv : s.PrivateAt y) (hinst : (Cond.instanceMethod y).before args s = true) (hy : y.cls ≠ "java/lang/invoke/MethodHandle" ∧ y.cls ≠ "java/lang/invoke/VarHandle") : (Cond.selects y.cls y y).before args s = true := by
  obtain ⟨c, k, h1, h2, -, h4, -⟩ := Cond.instantiable_spec wi
  exact Jvm.Stand.selects_self_of_private h1 h2 (Bool.or_eq_false_iff.mp h4).1 hpriv hinst hy
theorem own_narb (P : Prop) [Decidable P] : nar .boolean (if P then (1 : Int32) else (0 : Int32)) = if P then (1 : Int32) else (0 : Int32) := by by_cases h : P <;> simp only [h, if_true, if_false] <;> rfl
end New
end Jvm.RoadKit
namespace Jvm.Pilot.@@N@@
open Jvm Jvm.ClassFile Sem Op Lib Jvm.Free Jvm.Stand Jvm.LawKit Jvm.RoadKit Bundle Jvm.Pilot.@@N@@.Jvm.D
theorem d1_0 : decode jdk_29_method_65_code 0 = .ok (.iload_n 0, 1) := by decide +kernel
theorem d1_1 : decode jdk_29_method_65_code 1 = .ok (.iload_n 1, 1) := by decide +kernel
theorem d1_2 : decode jdk_29_method_65_code 2 = .ok (.if_icmp .lt 7, 3) := by decide +kernel
theorem d1_5 : decode jdk_29_method_65_code 5 = .ok (.iload_n 0, 1) := by decide +kernel
theorem d1_6 : decode jdk_29_method_65_code 6 = .ok (.goto 4, 3) := by decide +kernel
theorem d1_9 : decode jdk_29_method_65_code 9 = .ok (.iload_n 1, 1) := by decide +kernel
theorem d1_10 : decode jdk_29_method_65_code 10 = .ok (.ireturn, 1) := by decide +kernel
def v1_2_s0 (p0 : Int32) (p1 : Int32) : Int32 := if p0 < p1 then p1 else p0
theorem ef_rm1 (m : MethodId) (p0 : Int32) (p1 : Int32) : entryFrame m #[(.int p0), (.int p1)] 2 = mkF m 0 #[.val (.int p0), .val (.int p1)] [] := by first | (simp [entryFrame, mkF, argsToLocals, Value.category]; done) | rfl
def Q1 (Z : State) (p0 : Int32) (p1 : Int32) (h0 : Heap) (n0 : Nat) (v : Option Value) (h : Heap) (L : List Loc) : Prop := v = some (.int (v1_2_s0 p0 p1)) ∧ Fr n0 L ∧ h = h0
set_option maxRecDepth 65536 in
set_option maxHeartbeats 40000000 in
theorem rm1 (l : Launch) (Z : State) (a0 : Array Value) (hw : ∀ d ∈ tables_1, d.before a0 Z = true) (ws : List Jvm.Cond) (p0 : Int32) (p1 : Int32) (h0 : Heap) (n0 : Nat) (Z0 : n0 ≤ h0.size) :
    MetFree l (⟨"java/lang/Math", "max", "(II)I"⟩ : MethodName) (head1 (Jvm.Cond.code (⟨"java/lang/Math", "max", "(II)I"⟩ : MethodName) jdk_29_method_65_code 2 (some .int) :: ws) ({ frames := 0, cells := 0, slots := 0, locals := 0 } : Room)) (fun a U => a = #[(.int p0), (.int p1)] ∧ Z.Warmed39 U.vm ∧ U.heap = h0) (fun _ _ _ _ _ => True) (fun _ U o U' => ∃ v L, o = .returned v ∧ Q1 Z p0 p1 h0 n0 v U'.heap L ∧ FrameEnd U o U' L ({ frames := 0, cells := 0, slots := 0, locals := 0 } : Room).cells ({ frames := 0, cells := 0, slots := 0, locals := 0 } : Room).slots) := by
  refine MetFree.of_bodySF (Jvm.Free.JP.mathPlain rfl (by decide +kernel)) hisR ?_
  intro p e s m args below meth c s₁ Bd hml0 hP hK
  obtain ⟨rfl, hZ, hh⟩ := hP
  have hx := Bd.exec
  have hby := Bd.bytes
  have hml : c.maxLocals = 2 := hml0
  have hown : s.vm.findClass "java/lang/Math" = some m.cls := findClass_of_methodNamed Bd.named
  have hnm := (name_of_methodNamed Bd.named Bd.method).1
  have X0 : Stand p l e ({ frames := 0, cells := 0, slots := 0, locals := 0 } : Room) s m #[(.int p0), (.int p1)] below meth c s₁ [] 0 0 := Stand.of_body Bd
  have e0 : s₁.heap = h0 := by rw [← hh, Bd.state]; rfl
  have N0 := Fr.nil n0
  have KC0 := Keep.refl h0 ([] : List Addr)
  have pre0 : ∀ t, Steps p.tables e below (s₁.setTop (mkF m 0 #[.val (.int p0), .val (.int p1)] [])) t → Steps p.tables e below (s₁.setTop (entryFrame m #[(.int p0), (.int p1)] 2)) t := fun t k => castTop (ef_rm1 m p0 p1) k
  have k3 := fun (t : State) (kk : Steps p.tables e below (s₁.setTop (mkF m 10 #[.val (.int p0), .val (.int p1)] [(.int (v1_2_s0 p0 p1))])) t) => pre0 t (by
    show Steps p.tables e below (s₁.setTop (mkF m 0 #[.val (.int p0), .val (.int p1)] [])) _
    refine XS.iloadN X0.here hx rfl (hb hby d1_0) rfl ?_
    show Steps p.tables e below (s₁.setTop (mkF m 1 #[.val (.int p0), .val (.int p1)] [(.int p0)])) _
    refine XS.iloadN X0.here hx rfl (hb hby d1_1) rfl ?_
    suffices k2 : Steps p.tables e below (s₁.setTop (mkF m 10 #[.val (.int p0), .val (.int p1)] [(.int (v1_2_s0 p0 p1))])) t by
      by_cases hc2_1 : p0 < p1
      · rw [(show (v1_2_s0 p0 p1) = p1 from if_pos hc2_1)] at k2
        show Steps p.tables e below (s₁.setTop (mkF m 2 #[.val (.int p0), .val (.int p1)] [(.int p1), (.int p0)])) _
        refine XS.icmpYes X0.here hx rfl (pc0 := 2) (pc' := 9) rfl (hb hby d1_2) rfl (tlt hc2_1).1 (by decide) (by decide) ?_
        show Steps p.tables e below (s₁.setTop (mkF m 9 #[.val (.int p0), .val (.int p1)] [])) _
        refine XS.iloadN X0.here hx rfl (hb hby d1_9) rfl ?_
        exact k2
      · rw [(show (v1_2_s0 p0 p1) = p0 from if_neg hc2_1)] at k2
        show Steps p.tables e below (s₁.setTop (mkF m 2 #[.val (.int p0), .val (.int p1)] [(.int p1), (.int p0)])) _
        refine XS.icmpNo X0.here hx rfl (hb hby d1_2) rfl (flt hc2_1).1 ?_
        show Steps p.tables e below (s₁.setTop (mkF m 5 #[.val (.int p0), .val (.int p1)] [])) _
        refine XS.iloadN X0.here hx rfl (hb hby d1_5) rfl ?_
        show Steps p.tables e below (s₁.setTop (mkF m 6 #[.val (.int p0), .val (.int p1)] [(.int p0)])) _
        refine XS.goto X0.here hx rfl (pc0 := 6) (pc' := 10) rfl (hb hby d1_6) (by decide) (by decide) ?_
        exact k2
    exact kk)
  obtain ⟨fs, hr, hrun, hended, hW, hsame⟩ := X0.leave (v := some (.int (v1_2_s0 p0 p1))) (fun h => by rw [Bd.returns] at h; cases h)
  refine ⟨_, _, k3 _ ?_, hrun, hended, _, _, rfl, ?_, ⟨_, rfl⟩, hW, hsame.mono (by decide) (by decide)⟩
  · show Steps p.tables e below (s₁.setTop (mkF m 10 #[.val (.int p0), .val (.int p1)] [(.int (v1_2_s0 p0 p1))])) _
    exact retI X0 hx Bd.returns (hb hby d1_10) hr
  · show Q1 Z p0 p1 h0 n0 _ s₁.heap _
    rw [e0]
    exact ⟨rfl, N0, rfl⟩
theorem d2_0 : decode prog_6_method_1_code 0 = .ok (.aload_n 0, 1) := by decide +kernel
theorem d2_1 : decode prog_6_method_1_code 1 = .ok (.invokespecial 1, 3) := by decide +kernel
theorem d2_4 : decode prog_6_method_1_code 4 = .ok (.iload_n 2, 1) := by decide +kernel
theorem d2_5 : decode prog_6_method_1_code 5 = .ok (.ifCond .lt 8, 3) := by decide +kernel
theorem d2_8 : decode prog_6_method_1_code 8 = .ok (.iload_n 2, 1) := by decide +kernel
theorem d2_9 : decode prog_6_method_1_code 9 = .ok (.iload_n 1, 1) := by decide +kernel
theorem d2_10 : decode prog_6_method_1_code 10 = .ok (.if_icmp .lt 18, 3) := by decide +kernel
theorem d2_28 : decode prog_6_method_1_code 28 = .ok (.aload_n 0, 1) := by decide +kernel
theorem d2_29 : decode prog_6_method_1_code 29 = .ok (.iload_n 1, 1) := by decide +kernel
theorem d2_30 : decode prog_6_method_1_code 30 = .ok (.putfield 16, 3) := by decide +kernel
theorem d2_33 : decode prog_6_method_1_code 33 = .ok (.aload_n 0, 1) := by decide +kernel
theorem d2_34 : decode prog_6_method_1_code 34 = .ok (.iload_n 2, 1) := by decide +kernel
theorem d2_35 : decode prog_6_method_1_code 35 = .ok (.putfield 22, 3) := by decide +kernel
theorem d2_38 : decode prog_6_method_1_code 38 = .ok (.return_, 1) := by decide +kernel
theorem pn_24 : plainName "com/example/lattice_traffic/latticetraffic/Site" = true := by first | (simp [plainName, overriddenIn]; done) | decide +kernel
theorem ef_rm2 (m : MethodId) (ra0 : Addr) (p1 : Int32) (p2 : Int32) : entryFrame m #[(.ref ra0), (.int p1), (.int p2)] 3 = mkF m 0 #[.val (.ref ra0), .val (.int p1), .val (.int p2)] [] := by first | (simp [entryFrame, mkF, argsToLocals, Value.category]; done) | rfl
def Q2 (Z : State) (ra0 : Addr) (p1 : Int32) (p2 : Int32) (w_cells_ra0 : Int32) (w_cell_ra0 : Int32) (h0 : Heap) (n0 : Nat) (v : Option Value) (h : Heap) (L : List Loc) : Prop := v = none ∧ Fr n0 L ∧ Keep h0 h [ra0] ∧ Exa Z h ra0 "com/example/lattice_traffic/latticetraffic/Site" ∧ Fld Z h ra0 "com/example/lattice_traffic/latticetraffic/Site" "cells" "I" (.int p1) ∧ Fld Z h ra0 "com/example/lattice_traffic/latticetraffic/Site" "cell" "I" (.int p2)
set_option maxRecDepth 65536 in
set_option maxHeartbeats 40000000 in
theorem rm2 (l : Launch) (Z : State) (a0 : Array Value) (hw : ∀ d ∈ tables_1, d.before a0 Z = true) (ws : List Jvm.Cond) (ra0 : Addr) (p1 : Int32) (p2 : Int32) (w_cells_ra0 : Int32) (w_cell_ra0 : Int32) (h0 : Heap) (n0 : Nat) (Z0 : n0 ≤ h0.size) (hA : ¬ (p2 < (0 : Int32))) (hB : p2 < p1) (E_ra0 : Exa Z h0 ra0 "com/example/lattice_traffic/latticetraffic/Site") (F_cells_ra0 : Fld Z h0 ra0 "com/example/lattice_traffic/latticetraffic/Site" "cells" "I" (.int w_cells_ra0)) (g_ra0 : n0 ≤ ra0) (F_cell_ra0 : Fld Z h0 ra0 "com/example/lattice_traffic/latticetraffic/Site" "cell" "I" (.int w_cell_ra0)) :
    MetFree l (⟨"com/example/lattice_traffic/latticetraffic/Site", "<init>", "(II)V"⟩ : MethodName) (head1 (Jvm.Cond.code (⟨"com/example/lattice_traffic/latticetraffic/Site", "<init>", "(II)V"⟩ : MethodName) prog_6_method_1_code 3 none :: ws) ({ frames := 1, cells := 0, slots := 0, locals := 12 } : Room)) (fun a U => a = #[(.ref ra0), (.int p1), (.int p2)] ∧ Z.Warmed39 U.vm ∧ U.heap = h0) (fun _ _ _ _ _ => True) (fun _ U o U' => ∃ v L, o = .returned v ∧ Q2 Z ra0 p1 p2 w_cells_ra0 w_cell_ra0 h0 n0 v U'.heap L ∧ FrameEnd U o U' L ({ frames := 1, cells := 0, slots := 0, locals := 12 } : Room).cells ({ frames := 1, cells := 0, slots := 0, locals := 12 } : Room).slots) := by
  refine MetFree.of_bodySF (plainFor_of_name pn_24) hisR ?_
  intro p e s m args below meth c s₁ Bd hml0 hP hK
  obtain ⟨rfl, hZ, hh⟩ := hP
  have hx := Bd.exec
  have hby := Bd.bytes
  have hml : c.maxLocals = 3 := hml0
  have hown : s.vm.findClass "com/example/lattice_traffic/latticetraffic/Site" = some m.cls := findClass_of_methodNamed Bd.named
  have hnm := (name_of_methodNamed Bd.named Bd.method).1
  have X0 : Stand p l e ({ frames := 1, cells := 0, slots := 0, locals := 12 } : Room) s m #[(.ref ra0), (.int p1), (.int p2)] below meth c s₁ [] 0 0 := Stand.of_body Bd
  have e0 : s₁.heap = h0 := by rw [← hh, Bd.state]; rfl
  have N0 := Fr.nil n0
  have KC0 := Keep.refl h0 [ra0]
  have pre0 : ∀ t, Steps p.tables e below (s₁.setTop (mkF m 0 #[.val (.ref ra0), .val (.int p1), .val (.int p2)] [])) t → Steps p.tables e below (s₁.setTop (entryFrame m #[(.ref ra0), (.int p1), (.int p2)] 3)) t := fun t k => castTop (ef_rm2 m ra0 p1 p2) k
  have k4 := fun (t : State) (kk : Steps p.tables e below (s₁.setTop (mkF m 1 #[.val (.ref ra0), .val (.int p1), .val (.int p2)] [(.ref ra0)])) t) => pre0 t (by
    show Steps p.tables e below (s₁.setTop (mkF m 0 #[.val (.ref ra0), .val (.int p1), .val (.int p2)] [])) _
    refine XS.aloadN X0.here hx rfl (hb hby d2_0) rfl rfl ?_
    exact kk)
  obtain ⟨T5, X5, e5, st5⟩ := initO X0 hx hZ hown (hw _ (List.mem_of_getElem? (i := 11) rfl)) (hw _ (List.mem_of_getElem? (i := 12) rfl)) (hw _ (List.mem_of_getElem? (i := 13) rfl)) e0 (g := (mkF m 1 #[.val (.ref ra0), .val (.int p1), .val (.int p2)] [(.ref ra0)])) rfl (by rw [hml]; rfl) rfl (hb hby d2_1) (by decide) (W := 0) (by show 2 * 0 + _ ≤ _; exact Nat.le_of_eq rfl) (by decide)
  have k6 := fun (t : State) (kk : Steps p.tables e below (T5.setTop (mkF m 4 #[.val (.ref ra0), .val (.int p1), .val (.int p2)] [])) t) => k4 t (st5 _ kk)
  have k7 := fun (t : State) (kk : Steps p.tables e below (T5.setTop (mkF m 5 #[.val (.ref ra0), .val (.int p1), .val (.int p2)] [(.int p2)])) t) => k6 t (by
    show Steps p.tables e below (T5.setTop (mkF m 4 #[.val (.ref ra0), .val (.int p1), .val (.int p2)] [])) _
    refine XS.iloadN X5.here hx rfl (hb hby d2_4) rfl ?_
    exact kk)
  have hc5_8 : ¬ (p2 < (0 : Int32)) := hA
  have k9 := fun (t : State) (kk : Steps p.tables e below (T5.setTop (mkF m 10 #[.val (.ref ra0), .val (.int p1), .val (.int p2)] [(.int p1), (.int p2)])) t) => k7 t (by
    show Steps p.tables e below (T5.setTop (mkF m 5 #[.val (.ref ra0), .val (.int p1), .val (.int p2)] [(.int p2)])) _
    refine XS.ifNo X5.here hx rfl (hb hby d2_5) rfl ((if0 _ _).trans (flt hc5_8).1) ?_
    show Steps p.tables e below (T5.setTop (mkF m 8 #[.val (.ref ra0), .val (.int p1), .val (.int p2)] [])) _
    refine XS.iloadN X5.here hx rfl (hb hby d2_8) rfl ?_
    show Steps p.tables e below (T5.setTop (mkF m 9 #[.val (.ref ra0), .val (.int p1), .val (.int p2)] [(.int p2)])) _
    refine XS.iloadN X5.here hx rfl (hb hby d2_9) rfl ?_
    exact kk)
  have hc10_10 : p2 < p1 := hB
  have k11 := fun (t : State) (kk : Steps p.tables e below (T5.setTop (mkF m 30 #[.val (.ref ra0), .val (.int p1), .val (.int p2)] [(.int p1), (.ref ra0)])) t) => k9 t (by
    show Steps p.tables e below (T5.setTop (mkF m 10 #[.val (.ref ra0), .val (.int p1), .val (.int p2)] [(.int p1), (.int p2)])) _
    refine XS.icmpYes X5.here hx rfl (pc0 := 10) (pc' := 28) rfl (hb hby d2_10) rfl (tlt hc10_10).1 (by decide) (by decide) ?_
    show Steps p.tables e below (T5.setTop (mkF m 28 #[.val (.ref ra0), .val (.int p1), .val (.int p2)] [])) _
    refine XS.aloadN X5.here hx rfl (hb hby d2_28) rfl rfl ?_
    show Steps p.tables e below (T5.setTop (mkF m 29 #[.val (.ref ra0), .val (.int p1), .val (.int p2)] [(.ref ra0)])) _
    refine XS.iloadN X5.here hx rfl (hb hby d2_29) rfl ?_
    exact kk)
  obtain ⟨T12, h12, X12, e12, W12, st12⟩ := putF X5 hx hZ hown (host := "") (Or.inl (hw _ (List.mem_of_getElem? (i := 14) rfl))) Via.refl e5 F_cells_ra0 E_ra0 (Or.inr ⟨(hw _ (List.mem_of_getElem? (i := 15) rfl)), rfl, hnm⟩) (hw _ (List.mem_of_getElem? (i := 6) rfl)) (ty := .int) (by decide) rfl rfl (g := (mkF m 30 #[.val (.ref ra0), .val (.int p1), .val (.int p2)] [(.int p1), (.ref ra0)])) rfl rfl (hb hby d2_30)
  have Fw12 := F_cells_ra0.same W12
  have K12 : Keep h0 h12 [ra0] := KC0.wr W12 (Or.inl (List.mem_of_getElem? (i := 0) rfl))
  have N12 := Fr.snoc X12 N0 g_ra0
  have k13 := fun (t : State) (kk : Steps p.tables e below (T12.setTop (mkF m 33 #[.val (.ref ra0), .val (.int p1), .val (.int p2)] [])) t) => k11 t (st12 _ kk)
  have k14 := fun (t : State) (kk : Steps p.tables e below (T12.setTop (mkF m 35 #[.val (.ref ra0), .val (.int p1), .val (.int p2)] [(.int p2), (.ref ra0)])) t) => k13 t (by
    show Steps p.tables e below (T12.setTop (mkF m 33 #[.val (.ref ra0), .val (.int p1), .val (.int p2)] [])) _
    refine XS.aloadN X12.here hx rfl (hb hby d2_33) rfl rfl ?_
    show Steps p.tables e below (T12.setTop (mkF m 34 #[.val (.ref ra0), .val (.int p1), .val (.int p2)] [(.ref ra0)])) _
    refine XS.iloadN X12.here hx rfl (hb hby d2_34) rfl ?_
    exact kk)
  have f15 := (E_ra0.wr W12)
  have f16 := (F_cell_ra0.other W12 (Or.inr (slot_ne (Or.inr (hw _ (List.mem_of_getElem? (i := 17) rfl))) (Or.inr (hw _ (List.mem_of_getElem? (i := 15) rfl))) (by decide) (t := .int) (t' := .int) (by decide) (by decide))))
  obtain ⟨T17, h17, X17, e17, W17, st17⟩ := putF X12 hx hZ hown (host := "") (Or.inl (hw _ (List.mem_of_getElem? (i := 16) rfl))) Via.refl e12 f16 f15 (Or.inr ⟨(hw _ (List.mem_of_getElem? (i := 17) rfl)), rfl, hnm⟩) (hw _ (List.mem_of_getElem? (i := 6) rfl)) (ty := .int) (by decide) rfl rfl (g := (mkF m 35 #[.val (.ref ra0), .val (.int p1), .val (.int p2)] [(.int p2), (.ref ra0)])) rfl rfl (hb hby d2_35)
  have Fw17 := f16.same W17
  have K17 : Keep h0 h17 [ra0] := K12.wr W17 (Or.inl (List.mem_of_getElem? (i := 0) rfl))
  have N17 := Fr.snoc X17 N12 g_ra0
  have k18 := fun (t : State) (kk : Steps p.tables e below (T17.setTop (mkF m 38 #[.val (.ref ra0), .val (.int p1), .val (.int p2)] [])) t) => k14 t (st17 _ kk)
  obtain ⟨fs, hr, hrun, hended, hW, hsame⟩ := X17.leave (v := none) (fun _ => rfl)
  have f19 := (f15.wr W17)
  have f20 := (Fw12.other W17 (Or.inr (slot_ne (Or.inr (hw _ (List.mem_of_getElem? (i := 15) rfl))) (Or.inr (hw _ (List.mem_of_getElem? (i := 17) rfl))) (by decide) (t := .int) (t' := .int) (by decide) (by decide))))
  refine ⟨_, _, k18 _ ?_, hrun, hended, _, _, rfl, ?_, ⟨_, rfl⟩, hW, hsame.mono (by decide) (by decide)⟩
  · show Steps p.tables e below (T17.setTop (mkF m 38 #[.val (.ref ra0), .val (.int p1), .val (.int p2)] [])) _
    exact X17.returnOut hx Bd.returns (hb hby d2_38) hr
  · show Q2 Z ra0 p1 p2 w_cells_ra0 w_cell_ra0 h0 n0 _ T17.heap _
    rw [e17]
    exact ⟨rfl, N17, K17, f19, f20, Fw17⟩
theorem d4_0 : decode prog_6_method_2_code 0 = .ok (.iload_n 1, 1) := by decide +kernel
theorem d4_1 : decode prog_6_method_2_code 1 = .ok (.aload_n 0, 1) := by decide +kernel
theorem d4_2 : decode prog_6_method_2_code 2 = .ok (.getfield 22, 3) := by decide +kernel
theorem d4_5 : decode prog_6_method_2_code 5 = .ok (.if_icmp .lt 12, 3) := by decide +kernel
theorem d4_8 : decode prog_6_method_2_code 8 = .ok (.iload_n 1, 1) := by decide +kernel
theorem d4_9 : decode prog_6_method_2_code 9 = .ok (.aload_n 0, 1) := by decide +kernel
theorem d4_10 : decode prog_6_method_2_code 10 = .ok (.getfield 22, 3) := by decide +kernel
theorem d4_13 : decode prog_6_method_2_code 13 = .ok (.isub, 1) := by decide +kernel
theorem d4_14 : decode prog_6_method_2_code 14 = .ok (.goto 14, 3) := by decide +kernel
theorem d4_17 : decode prog_6_method_2_code 17 = .ok (.iload_n 1, 1) := by decide +kernel
theorem d4_18 : decode prog_6_method_2_code 18 = .ok (.aload_n 0, 1) := by decide +kernel
theorem d4_19 : decode prog_6_method_2_code 19 = .ok (.getfield 22, 3) := by decide +kernel
theorem d4_22 : decode prog_6_method_2_code 22 = .ok (.isub, 1) := by decide +kernel
theorem d4_23 : decode prog_6_method_2_code 23 = .ok (.aload_n 0, 1) := by decide +kernel
theorem d4_24 : decode prog_6_method_2_code 24 = .ok (.getfield 16, 3) := by decide +kernel
theorem d4_27 : decode prog_6_method_2_code 27 = .ok (.iadd, 1) := by decide +kernel
theorem d4_28 : decode prog_6_method_2_code 28 = .ok (.istore_n 3, 1) := by decide +kernel
theorem d4_29 : decode prog_6_method_2_code 29 = .ok (.aload_n 0, 1) := by decide +kernel
theorem d4_30 : decode prog_6_method_2_code 30 = .ok (.getfield 16, 3) := by decide +kernel
theorem d4_33 : decode prog_6_method_2_code 33 = .ok (.iload_n 3, 1) := by decide +kernel
theorem d4_34 : decode prog_6_method_2_code 34 = .ok (.isub, 1) := by decide +kernel
theorem d4_35 : decode prog_6_method_2_code 35 = .ok (.istore 4, 2) := by decide +kernel
theorem d4_37 : decode prog_6_method_2_code 37 = .ok (.iload_n 2, 1) := by decide +kernel
theorem d4_38 : decode prog_6_method_2_code 38 = .ok (.iload 4, 2) := by decide +kernel
theorem d4_40 : decode prog_6_method_2_code 40 = .ok (.if_icmp .lt 10, 3) := by decide +kernel
theorem d4_43 : decode prog_6_method_2_code 43 = .ok (.iload_n 2, 1) := by decide +kernel
theorem d4_44 : decode prog_6_method_2_code 44 = .ok (.iload 4, 2) := by decide +kernel
theorem d4_46 : decode prog_6_method_2_code 46 = .ok (.isub, 1) := by decide +kernel
theorem d4_47 : decode prog_6_method_2_code 47 = .ok (.goto 6, 3) := by decide +kernel
theorem d4_50 : decode prog_6_method_2_code 50 = .ok (.iload_n 3, 1) := by decide +kernel
theorem d4_51 : decode prog_6_method_2_code 51 = .ok (.iload_n 2, 1) := by decide +kernel
theorem d4_52 : decode prog_6_method_2_code 52 = .ok (.iadd, 1) := by decide +kernel
theorem d4_53 : decode prog_6_method_2_code 53 = .ok (.ireturn, 1) := by decide +kernel
def v4_35_l4 (p1 : Int32) (w_cell_ra0 : Int32) (w_cells_ra0 : Int32) : Int32 := (w_cells_ra0 - ((p1 - w_cell_ra0) + w_cells_ra0))
def v4_40_s0 (p1 : Int32) (p2 : Int32) (w_cell_ra0 : Int32) (w_cells_ra0 : Int32) : Int32 := if p2 < (v4_35_l4 p1 w_cell_ra0 w_cells_ra0) then (((p1 - w_cell_ra0) + w_cells_ra0) + p2) else (p2 - (v4_35_l4 p1 w_cell_ra0 w_cells_ra0))
def v4_40_s0_1 (p1 : Int32) (p2 : Int32) (w_cell_ra0 : Int32) (w_cells_ra0 : Int32) : Int32 := if p2 < (w_cells_ra0 - (p1 - w_cell_ra0)) then ((p1 - w_cell_ra0) + p2) else (p2 - (w_cells_ra0 - (p1 - w_cell_ra0)))
def v4_ret (p1 : Int32) (p2 : Int32) (w_cell_ra0 : Int32) (w_cells_ra0 : Int32) : Int32 := (if p1 < w_cell_ra0 then (v4_40_s0 p1 p2 w_cell_ra0 w_cells_ra0) else (v4_40_s0_1 p1 p2 w_cell_ra0 w_cells_ra0))
theorem ef_rm4 (m : MethodId) (ra0 : Addr) (p1 : Int32) (p2 : Int32) : entryFrame m #[(.ref ra0), (.int p1), (.int p2)] 5 = mkF m 0 #[.val (.ref ra0), .val (.int p1), .val (.int p2), .unset, .unset] [] := by first | (simp [entryFrame, mkF, argsToLocals, Value.category]; done) | rfl
def Q4 (Z : State) (ra0 : Addr) (p1 : Int32) (p2 : Int32) (w_cell_ra0 : Int32) (w_cells_ra0 : Int32) (h0 : Heap) (n0 : Nat) (v : Option Value) (h : Heap) (L : List Loc) : Prop := v = some (.int (v4_ret p1 p2 w_cell_ra0 w_cells_ra0)) ∧ Fr n0 L ∧ h = h0
set_option maxRecDepth 65536 in
set_option maxHeartbeats 40000000 in
theorem rm4 (l : Launch) (Z : State) (a0 : Array Value) (hw : ∀ d ∈ tables_1, d.before a0 Z = true) (ws : List Jvm.Cond) (ra0 : Addr) (p1 : Int32) (p2 : Int32) (w_cell_ra0 : Int32) (w_cells_ra0 : Int32) (h0 : Heap) (n0 : Nat) (Z0 : n0 ≤ h0.size) (F_cell_ra0 : Fld Z h0 ra0 "com/example/lattice_traffic/latticetraffic/Site" "cell" "I" (.int w_cell_ra0)) (F_cells_ra0 : Fld Z h0 ra0 "com/example/lattice_traffic/latticetraffic/Site" "cells" "I" (.int w_cells_ra0)) :
    MetFree l (⟨"com/example/lattice_traffic/latticetraffic/Site", "pastAfter", "(II)I"⟩ : MethodName) (head1 (Jvm.Cond.code (⟨"com/example/lattice_traffic/latticetraffic/Site", "pastAfter", "(II)I"⟩ : MethodName) prog_6_method_2_code 5 (some .int) :: ws) ({ frames := 0, cells := 0, slots := 0, locals := 0 } : Room)) (fun a U => a = #[(.ref ra0), (.int p1), (.int p2)] ∧ Z.Warmed39 U.vm ∧ U.heap = h0) (fun _ _ _ _ _ => True) (fun _ U o U' => ∃ v L, o = .returned v ∧ Q4 Z ra0 p1 p2 w_cell_ra0 w_cells_ra0 h0 n0 v U'.heap L ∧ FrameEnd U o U' L ({ frames := 0, cells := 0, slots := 0, locals := 0 } : Room).cells ({ frames := 0, cells := 0, slots := 0, locals := 0 } : Room).slots) := by
  refine MetFree.of_bodySF (plainFor_of_name pn_24) hisR ?_
  intro p e s m args below meth c s₁ Bd hml0 hP hK
  obtain ⟨rfl, hZ, hh⟩ := hP
  have hx := Bd.exec
  have hby := Bd.bytes
  have hml : c.maxLocals = 5 := hml0
  have hown : s.vm.findClass "com/example/lattice_traffic/latticetraffic/Site" = some m.cls := findClass_of_methodNamed Bd.named
  have hnm := (name_of_methodNamed Bd.named Bd.method).1
  have X0 : Stand p l e ({ frames := 0, cells := 0, slots := 0, locals := 0 } : Room) s m #[(.ref ra0), (.int p1), (.int p2)] below meth c s₁ [] 0 0 := Stand.of_body Bd
  have e0 : s₁.heap = h0 := by rw [← hh, Bd.state]; rfl
  have N0 := Fr.nil n0
  have KC0 := Keep.refl h0 ([] : List Addr)
  have pre0 : ∀ t, Steps p.tables e below (s₁.setTop (mkF m 0 #[.val (.ref ra0), .val (.int p1), .val (.int p2), .unset, .unset] [])) t → Steps p.tables e below (s₁.setTop (entryFrame m #[(.ref ra0), (.int p1), (.int p2)] 5)) t := fun t k => castTop (ef_rm4 m ra0 p1 p2) k
  have k21 := fun (t : State) (kk : Steps p.tables e below (s₁.setTop (mkF m 2 #[.val (.ref ra0), .val (.int p1), .val (.int p2), .unset, .unset] [(.ref ra0), (.int p1)])) t) => pre0 t (by
    show Steps p.tables e below (s₁.setTop (mkF m 0 #[.val (.ref ra0), .val (.int p1), .val (.int p2), .unset, .unset] [])) _
    refine XS.iloadN X0.here hx rfl (hb hby d4_0) rfl ?_
    show Steps p.tables e below (s₁.setTop (mkF m 1 #[.val (.ref ra0), .val (.int p1), .val (.int p2), .unset, .unset] [(.int p1)])) _
    refine XS.aloadN X0.here hx rfl (hb hby d4_1) rfl rfl ?_
    exact kk)
  obtain ⟨T22, X22, e22, st22⟩ := getF X0 hx hZ hown (host := "") (Or.inl (hw _ (List.mem_of_getElem? (i := 16) rfl))) Via.refl e0 F_cell_ra0 (g := (mkF m 2 #[.val (.ref ra0), .val (.int p1), .val (.int p2), .unset, .unset] [(.ref ra0), (.int p1)])) rfl rfl (hb hby d4_2)
  have k23 := fun (t : State) (kk : Steps p.tables e below (T22.setTop (mkF m 5 #[.val (.ref ra0), .val (.int p1), .val (.int p2), .unset, .unset] [(.int w_cell_ra0), (.int p1)])) t) => k21 t (st22 _ kk)
  by_cases hc5_24 : p1 < w_cell_ra0
  · have k25 := fun (t : State) (kk : Steps p.tables e below (T22.setTop (mkF m 19 #[.val (.ref ra0), .val (.int p1), .val (.int p2), .unset, .unset] [(.ref ra0), (.int p1)])) t) => k23 t (by
      show Steps p.tables e below (T22.setTop (mkF m 5 #[.val (.ref ra0), .val (.int p1), .val (.int p2), .unset, .unset] [(.int w_cell_ra0), (.int p1)])) _
      refine XS.icmpYes X22.here hx rfl (pc0 := 5) (pc' := 17) rfl (hb hby d4_5) rfl (tlt hc5_24).1 (by decide) (by decide) ?_
      show Steps p.tables e below (T22.setTop (mkF m 17 #[.val (.ref ra0), .val (.int p1), .val (.int p2), .unset, .unset] [])) _
      refine XS.iloadN X22.here hx rfl (hb hby d4_17) rfl ?_
      show Steps p.tables e below (T22.setTop (mkF m 18 #[.val (.ref ra0), .val (.int p1), .val (.int p2), .unset, .unset] [(.int p1)])) _
      refine XS.aloadN X22.here hx rfl (hb hby d4_18) rfl rfl ?_
      exact kk)
    obtain ⟨T26, X26, e26, st26⟩ := getF X22 hx hZ hown (host := "") (Or.inl (hw _ (List.mem_of_getElem? (i := 16) rfl))) Via.refl e22 F_cell_ra0 (g := (mkF m 19 #[.val (.ref ra0), .val (.int p1), .val (.int p2), .unset, .unset] [(.ref ra0), (.int p1)])) rfl rfl (hb hby d4_19)
    have k27 := fun (t : State) (kk : Steps p.tables e below (T26.setTop (mkF m 22 #[.val (.ref ra0), .val (.int p1), .val (.int p2), .unset, .unset] [(.int w_cell_ra0), (.int p1)])) t) => k25 t (st26 _ kk)
    have k28 := fun (t : State) (kk : Steps p.tables e below (T26.setTop (mkF m 24 #[.val (.ref ra0), .val (.int p1), .val (.int p2), .unset, .unset] [(.ref ra0), (.int (p1 - w_cell_ra0))])) t) => k27 t (by
      show Steps p.tables e below (T26.setTop (mkF m 22 #[.val (.ref ra0), .val (.int p1), .val (.int p2), .unset, .unset] [(.int w_cell_ra0), (.int p1)])) _
      refine XS.isub X26.here hx rfl (hb hby d4_22) rfl ?_
      show Steps p.tables e below (T26.setTop (mkF m 23 #[.val (.ref ra0), .val (.int p1), .val (.int p2), .unset, .unset] [(.int (p1 - w_cell_ra0))])) _
      refine XS.aloadN X26.here hx rfl (hb hby d4_23) rfl rfl ?_
      exact kk)
    obtain ⟨T29, X29, e29, st29⟩ := getF X26 hx hZ hown (host := "") (Or.inl (hw _ (List.mem_of_getElem? (i := 14) rfl))) Via.refl e26 F_cells_ra0 (g := (mkF m 24 #[.val (.ref ra0), .val (.int p1), .val (.int p2), .unset, .unset] [(.ref ra0), (.int (p1 - w_cell_ra0))])) rfl rfl (hb hby d4_24)
    have k30 := fun (t : State) (kk : Steps p.tables e below (T29.setTop (mkF m 27 #[.val (.ref ra0), .val (.int p1), .val (.int p2), .unset, .unset] [(.int w_cells_ra0), (.int (p1 - w_cell_ra0))])) t) => k28 t (st29 _ kk)
    have k31 := fun (t : State) (kk : Steps p.tables e below (T29.setTop (mkF m 30 #[.val (.ref ra0), .val (.int p1), .val (.int p2), .val (.int ((p1 - w_cell_ra0) + w_cells_ra0)), .unset] [(.ref ra0)])) t) => k30 t (by
      show Steps p.tables e below (T29.setTop (mkF m 27 #[.val (.ref ra0), .val (.int p1), .val (.int p2), .unset, .unset] [(.int w_cells_ra0), (.int (p1 - w_cell_ra0))])) _
      refine XS.iadd X29.here hx rfl (hb hby d4_27) rfl ?_
      show Steps p.tables e below (T29.setTop (mkF m 28 #[.val (.ref ra0), .val (.int p1), .val (.int p2), .unset, .unset] [(.int ((p1 - w_cell_ra0) + w_cells_ra0))])) _
      refine XS.istoreN X29.here hx rfl (hb hby d4_28) rfl (l' := #[.val (.ref ra0), .val (.int p1), .val (.int p2), .val (.int ((p1 - w_cell_ra0) + w_cells_ra0)), .unset]) rfl ?_
      show Steps p.tables e below (T29.setTop (mkF m 29 #[.val (.ref ra0), .val (.int p1), .val (.int p2), .val (.int ((p1 - w_cell_ra0) + w_cells_ra0)), .unset] [])) _
      refine XS.aloadN X29.here hx rfl (hb hby d4_29) rfl rfl ?_
      exact kk)
    obtain ⟨T32, X32, e32, st32⟩ := getF X29 hx hZ hown (host := "") (Or.inl (hw _ (List.mem_of_getElem? (i := 14) rfl))) Via.refl e29 F_cells_ra0 (g := (mkF m 30 #[.val (.ref ra0), .val (.int p1), .val (.int p2), .val (.int ((p1 - w_cell_ra0) + w_cells_ra0)), .unset] [(.ref ra0)])) rfl rfl (hb hby d4_30)
    have k33 := fun (t : State) (kk : Steps p.tables e below (T32.setTop (mkF m 33 #[.val (.ref ra0), .val (.int p1), .val (.int p2), .val (.int ((p1 - w_cell_ra0) + w_cells_ra0)), .unset] [(.int w_cells_ra0)])) t) => k31 t (st32 _ kk)
    have k36 := fun (t : State) (kk : Steps p.tables e below (T32.setTop (mkF m 53 #[.val (.ref ra0), .val (.int p1), .val (.int p2), .val (.int ((p1 - w_cell_ra0) + w_cells_ra0)), .val (.int (v4_35_l4 p1 w_cell_ra0 w_cells_ra0))] [(.int (v4_40_s0 p1 p2 w_cell_ra0 w_cells_ra0))])) t) => k33 t (by
      show Steps p.tables e below (T32.setTop (mkF m 33 #[.val (.ref ra0), .val (.int p1), .val (.int p2), .val (.int ((p1 - w_cell_ra0) + w_cells_ra0)), .unset] [(.int w_cells_ra0)])) _
      refine XS.iloadN X32.here hx rfl (hb hby d4_33) rfl ?_
      show Steps p.tables e below (T32.setTop (mkF m 34 #[.val (.ref ra0), .val (.int p1), .val (.int p2), .val (.int ((p1 - w_cell_ra0) + w_cells_ra0)), .unset] [(.int ((p1 - w_cell_ra0) + w_cells_ra0)), (.int w_cells_ra0)])) _
      refine XS.isub X32.here hx rfl (hb hby d4_34) rfl ?_
      show Steps p.tables e below (T32.setTop (mkF m 35 #[.val (.ref ra0), .val (.int p1), .val (.int p2), .val (.int ((p1 - w_cell_ra0) + w_cells_ra0)), .unset] [(.int (w_cells_ra0 - ((p1 - w_cell_ra0) + w_cells_ra0)))])) _
      refine XS.istore X32.here hx rfl (hb hby d4_35) rfl (l' := #[.val (.ref ra0), .val (.int p1), .val (.int p2), .val (.int ((p1 - w_cell_ra0) + w_cells_ra0)), .val (.int (v4_35_l4 p1 w_cell_ra0 w_cells_ra0))]) rfl ?_
      show Steps p.tables e below (T32.setTop (mkF m 37 #[.val (.ref ra0), .val (.int p1), .val (.int p2), .val (.int ((p1 - w_cell_ra0) + w_cells_ra0)), .val (.int (v4_35_l4 p1 w_cell_ra0 w_cells_ra0))] [])) _
      refine XS.iloadN X32.here hx rfl (hb hby d4_37) rfl ?_
      show Steps p.tables e below (T32.setTop (mkF m 38 #[.val (.ref ra0), .val (.int p1), .val (.int p2), .val (.int ((p1 - w_cell_ra0) + w_cells_ra0)), .val (.int (v4_35_l4 p1 w_cell_ra0 w_cells_ra0))] [(.int p2)])) _
      refine XS.iload X32.here hx rfl (hb hby d4_38) rfl ?_
      suffices k35 : Steps p.tables e below (T32.setTop (mkF m 53 #[.val (.ref ra0), .val (.int p1), .val (.int p2), .val (.int ((p1 - w_cell_ra0) + w_cells_ra0)), .val (.int (v4_35_l4 p1 w_cell_ra0 w_cells_ra0))] [(.int (v4_40_s0 p1 p2 w_cell_ra0 w_cells_ra0))])) t by
        by_cases hc40_34 : p2 < (v4_35_l4 p1 w_cell_ra0 w_cells_ra0)
        · rw [(show (v4_40_s0 p1 p2 w_cell_ra0 w_cells_ra0) = (((p1 - w_cell_ra0) + w_cells_ra0) + p2) from if_pos hc40_34)] at k35
          show Steps p.tables e below (T32.setTop (mkF m 40 #[.val (.ref ra0), .val (.int p1), .val (.int p2), .val (.int ((p1 - w_cell_ra0) + w_cells_ra0)), .val (.int (v4_35_l4 p1 w_cell_ra0 w_cells_ra0))] [(.int (v4_35_l4 p1 w_cell_ra0 w_cells_ra0)), (.int p2)])) _
          refine XS.icmpYes X32.here hx rfl (pc0 := 40) (pc' := 50) rfl (hb hby d4_40) rfl (tlt hc40_34).1 (by decide) (by decide) ?_
          show Steps p.tables e below (T32.setTop (mkF m 50 #[.val (.ref ra0), .val (.int p1), .val (.int p2), .val (.int ((p1 - w_cell_ra0) + w_cells_ra0)), .val (.int (v4_35_l4 p1 w_cell_ra0 w_cells_ra0))] [])) _
          refine XS.iloadN X32.here hx rfl (hb hby d4_50) rfl ?_
          show Steps p.tables e below (T32.setTop (mkF m 51 #[.val (.ref ra0), .val (.int p1), .val (.int p2), .val (.int ((p1 - w_cell_ra0) + w_cells_ra0)), .val (.int (v4_35_l4 p1 w_cell_ra0 w_cells_ra0))] [(.int ((p1 - w_cell_ra0) + w_cells_ra0))])) _
          refine XS.iloadN X32.here hx rfl (hb hby d4_51) rfl ?_
          show Steps p.tables e below (T32.setTop (mkF m 52 #[.val (.ref ra0), .val (.int p1), .val (.int p2), .val (.int ((p1 - w_cell_ra0) + w_cells_ra0)), .val (.int (v4_35_l4 p1 w_cell_ra0 w_cells_ra0))] [(.int p2), (.int ((p1 - w_cell_ra0) + w_cells_ra0))])) _
          refine XS.iadd X32.here hx rfl (hb hby d4_52) rfl ?_
          exact k35
        · rw [(show (v4_40_s0 p1 p2 w_cell_ra0 w_cells_ra0) = (p2 - (v4_35_l4 p1 w_cell_ra0 w_cells_ra0)) from if_neg hc40_34)] at k35
          show Steps p.tables e below (T32.setTop (mkF m 40 #[.val (.ref ra0), .val (.int p1), .val (.int p2), .val (.int ((p1 - w_cell_ra0) + w_cells_ra0)), .val (.int (v4_35_l4 p1 w_cell_ra0 w_cells_ra0))] [(.int (v4_35_l4 p1 w_cell_ra0 w_cells_ra0)), (.int p2)])) _
          refine XS.icmpNo X32.here hx rfl (hb hby d4_40) rfl (flt hc40_34).1 ?_
          show Steps p.tables e below (T32.setTop (mkF m 43 #[.val (.ref ra0), .val (.int p1), .val (.int p2), .val (.int ((p1 - w_cell_ra0) + w_cells_ra0)), .val (.int (v4_35_l4 p1 w_cell_ra0 w_cells_ra0))] [])) _
          refine XS.iloadN X32.here hx rfl (hb hby d4_43) rfl ?_
          show Steps p.tables e below (T32.setTop (mkF m 44 #[.val (.ref ra0), .val (.int p1), .val (.int p2), .val (.int ((p1 - w_cell_ra0) + w_cells_ra0)), .val (.int (v4_35_l4 p1 w_cell_ra0 w_cells_ra0))] [(.int p2)])) _
          refine XS.iload X32.here hx rfl (hb hby d4_44) rfl ?_
          show Steps p.tables e below (T32.setTop (mkF m 46 #[.val (.ref ra0), .val (.int p1), .val (.int p2), .val (.int ((p1 - w_cell_ra0) + w_cells_ra0)), .val (.int (v4_35_l4 p1 w_cell_ra0 w_cells_ra0))] [(.int (v4_35_l4 p1 w_cell_ra0 w_cells_ra0)), (.int p2)])) _
          refine XS.isub X32.here hx rfl (hb hby d4_46) rfl ?_
          show Steps p.tables e below (T32.setTop (mkF m 47 #[.val (.ref ra0), .val (.int p1), .val (.int p2), .val (.int ((p1 - w_cell_ra0) + w_cells_ra0)), .val (.int (v4_35_l4 p1 w_cell_ra0 w_cells_ra0))] [(.int (p2 - (v4_35_l4 p1 w_cell_ra0 w_cells_ra0)))])) _
          refine XS.goto X32.here hx rfl (pc0 := 47) (pc' := 53) rfl (hb hby d4_47) (by decide) (by decide) ?_
          exact k35
      exact kk)
    obtain ⟨fs, hr, hrun, hended, hW, hsame⟩ := X32.leave (v := some (.int (v4_40_s0 p1 p2 w_cell_ra0 w_cells_ra0))) (fun h => by rw [Bd.returns] at h; cases h)
    have hv : (v4_ret p1 p2 w_cell_ra0 w_cells_ra0) = (v4_40_s0 p1 p2 w_cell_ra0 w_cells_ra0) := (if_pos hc5_24)
    refine ⟨_, _, k36 _ ?_, hrun, hended, _, _, rfl, ?_, ⟨_, rfl⟩, hW, hsame.mono (by decide) (by decide)⟩
    · show Steps p.tables e below (T32.setTop (mkF m 53 #[.val (.ref ra0), .val (.int p1), .val (.int p2), .val (.int ((p1 - w_cell_ra0) + w_cells_ra0)), .val (.int (v4_35_l4 p1 w_cell_ra0 w_cells_ra0))] [(.int (v4_40_s0 p1 p2 w_cell_ra0 w_cells_ra0))])) _
      exact retI X32 hx Bd.returns (hb hby d4_53) hr
    · show Q4 Z ra0 p1 p2 w_cell_ra0 w_cells_ra0 h0 n0 _ T32.heap _
      rw [e32]
      exact ⟨(congrArg (fun z => some (Value.int z)) hv).symm, N0, rfl⟩
  · have k37 := fun (t : State) (kk : Steps p.tables e below (T22.setTop (mkF m 10 #[.val (.ref ra0), .val (.int p1), .val (.int p2), .unset, .unset] [(.ref ra0), (.int p1)])) t) => k23 t (by
      show Steps p.tables e below (T22.setTop (mkF m 5 #[.val (.ref ra0), .val (.int p1), .val (.int p2), .unset, .unset] [(.int w_cell_ra0), (.int p1)])) _
      refine XS.icmpNo X22.here hx rfl (hb hby d4_5) rfl (flt hc5_24).1 ?_
      show Steps p.tables e below (T22.setTop (mkF m 8 #[.val (.ref ra0), .val (.int p1), .val (.int p2), .unset, .unset] [])) _
      refine XS.iloadN X22.here hx rfl (hb hby d4_8) rfl ?_
      show Steps p.tables e below (T22.setTop (mkF m 9 #[.val (.ref ra0), .val (.int p1), .val (.int p2), .unset, .unset] [(.int p1)])) _
      refine XS.aloadN X22.here hx rfl (hb hby d4_9) rfl rfl ?_
      exact kk)
    obtain ⟨T38, X38, e38, st38⟩ := getF X22 hx hZ hown (host := "") (Or.inl (hw _ (List.mem_of_getElem? (i := 16) rfl))) Via.refl e22 F_cell_ra0 (g := (mkF m 10 #[.val (.ref ra0), .val (.int p1), .val (.int p2), .unset, .unset] [(.ref ra0), (.int p1)])) rfl rfl (hb hby d4_10)
    have k39 := fun (t : State) (kk : Steps p.tables e below (T38.setTop (mkF m 13 #[.val (.ref ra0), .val (.int p1), .val (.int p2), .unset, .unset] [(.int w_cell_ra0), (.int p1)])) t) => k37 t (st38 _ kk)
    have k40 := fun (t : State) (kk : Steps p.tables e below (T38.setTop (mkF m 30 #[.val (.ref ra0), .val (.int p1), .val (.int p2), .val (.int (p1 - w_cell_ra0)), .unset] [(.ref ra0)])) t) => k39 t (by
      show Steps p.tables e below (T38.setTop (mkF m 13 #[.val (.ref ra0), .val (.int p1), .val (.int p2), .unset, .unset] [(.int w_cell_ra0), (.int p1)])) _
      refine XS.isub X38.here hx rfl (hb hby d4_13) rfl ?_
      show Steps p.tables e below (T38.setTop (mkF m 14 #[.val (.ref ra0), .val (.int p1), .val (.int p2), .unset, .unset] [(.int (p1 - w_cell_ra0))])) _
      refine XS.goto X38.here hx rfl (pc0 := 14) (pc' := 28) rfl (hb hby d4_14) (by decide) (by decide) ?_
      show Steps p.tables e below (T38.setTop (mkF m 28 #[.val (.ref ra0), .val (.int p1), .val (.int p2), .unset, .unset] [(.int (p1 - w_cell_ra0))])) _
      refine XS.istoreN X38.here hx rfl (hb hby d4_28) rfl (l' := #[.val (.ref ra0), .val (.int p1), .val (.int p2), .val (.int (p1 - w_cell_ra0)), .unset]) rfl ?_
      show Steps p.tables e below (T38.setTop (mkF m 29 #[.val (.ref ra0), .val (.int p1), .val (.int p2), .val (.int (p1 - w_cell_ra0)), .unset] [])) _
      refine XS.aloadN X38.here hx rfl (hb hby d4_29) rfl rfl ?_
      exact kk)
    obtain ⟨T41, X41, e41, st41⟩ := getF X38 hx hZ hown (host := "") (Or.inl (hw _ (List.mem_of_getElem? (i := 14) rfl))) Via.refl e38 F_cells_ra0 (g := (mkF m 30 #[.val (.ref ra0), .val (.int p1), .val (.int p2), .val (.int (p1 - w_cell_ra0)), .unset] [(.ref ra0)])) rfl rfl (hb hby d4_30)
    have k42 := fun (t : State) (kk : Steps p.tables e below (T41.setTop (mkF m 33 #[.val (.ref ra0), .val (.int p1), .val (.int p2), .val (.int (p1 - w_cell_ra0)), .unset] [(.int w_cells_ra0)])) t) => k40 t (st41 _ kk)
    have k45 := fun (t : State) (kk : Steps p.tables e below (T41.setTop (mkF m 53 #[.val (.ref ra0), .val (.int p1), .val (.int p2), .val (.int (p1 - w_cell_ra0)), .val (.int (w_cells_ra0 - (p1 - w_cell_ra0)))] [(.int (v4_40_s0_1 p1 p2 w_cell_ra0 w_cells_ra0))])) t) => k42 t (by
      show Steps p.tables e below (T41.setTop (mkF m 33 #[.val (.ref ra0), .val (.int p1), .val (.int p2), .val (.int (p1 - w_cell_ra0)), .unset] [(.int w_cells_ra0)])) _
      refine XS.iloadN X41.here hx rfl (hb hby d4_33) rfl ?_
      show Steps p.tables e below (T41.setTop (mkF m 34 #[.val (.ref ra0), .val (.int p1), .val (.int p2), .val (.int (p1 - w_cell_ra0)), .unset] [(.int (p1 - w_cell_ra0)), (.int w_cells_ra0)])) _
      refine XS.isub X41.here hx rfl (hb hby d4_34) rfl ?_
      show Steps p.tables e below (T41.setTop (mkF m 35 #[.val (.ref ra0), .val (.int p1), .val (.int p2), .val (.int (p1 - w_cell_ra0)), .unset] [(.int (w_cells_ra0 - (p1 - w_cell_ra0)))])) _
      refine XS.istore X41.here hx rfl (hb hby d4_35) rfl (l' := #[.val (.ref ra0), .val (.int p1), .val (.int p2), .val (.int (p1 - w_cell_ra0)), .val (.int (w_cells_ra0 - (p1 - w_cell_ra0)))]) rfl ?_
      show Steps p.tables e below (T41.setTop (mkF m 37 #[.val (.ref ra0), .val (.int p1), .val (.int p2), .val (.int (p1 - w_cell_ra0)), .val (.int (w_cells_ra0 - (p1 - w_cell_ra0)))] [])) _
      refine XS.iloadN X41.here hx rfl (hb hby d4_37) rfl ?_
      show Steps p.tables e below (T41.setTop (mkF m 38 #[.val (.ref ra0), .val (.int p1), .val (.int p2), .val (.int (p1 - w_cell_ra0)), .val (.int (w_cells_ra0 - (p1 - w_cell_ra0)))] [(.int p2)])) _
      refine XS.iload X41.here hx rfl (hb hby d4_38) rfl ?_
      suffices k44 : Steps p.tables e below (T41.setTop (mkF m 53 #[.val (.ref ra0), .val (.int p1), .val (.int p2), .val (.int (p1 - w_cell_ra0)), .val (.int (w_cells_ra0 - (p1 - w_cell_ra0)))] [(.int (v4_40_s0_1 p1 p2 w_cell_ra0 w_cells_ra0))])) t by
        by_cases hc40_43 : p2 < (w_cells_ra0 - (p1 - w_cell_ra0))
        · rw [(show (v4_40_s0_1 p1 p2 w_cell_ra0 w_cells_ra0) = ((p1 - w_cell_ra0) + p2) from if_pos hc40_43)] at k44
          show Steps p.tables e below (T41.setTop (mkF m 40 #[.val (.ref ra0), .val (.int p1), .val (.int p2), .val (.int (p1 - w_cell_ra0)), .val (.int (w_cells_ra0 - (p1 - w_cell_ra0)))] [(.int (w_cells_ra0 - (p1 - w_cell_ra0))), (.int p2)])) _
          refine XS.icmpYes X41.here hx rfl (pc0 := 40) (pc' := 50) rfl (hb hby d4_40) rfl (tlt hc40_43).1 (by decide) (by decide) ?_
          show Steps p.tables e below (T41.setTop (mkF m 50 #[.val (.ref ra0), .val (.int p1), .val (.int p2), .val (.int (p1 - w_cell_ra0)), .val (.int (w_cells_ra0 - (p1 - w_cell_ra0)))] [])) _
          refine XS.iloadN X41.here hx rfl (hb hby d4_50) rfl ?_
          show Steps p.tables e below (T41.setTop (mkF m 51 #[.val (.ref ra0), .val (.int p1), .val (.int p2), .val (.int (p1 - w_cell_ra0)), .val (.int (w_cells_ra0 - (p1 - w_cell_ra0)))] [(.int (p1 - w_cell_ra0))])) _
          refine XS.iloadN X41.here hx rfl (hb hby d4_51) rfl ?_
          show Steps p.tables e below (T41.setTop (mkF m 52 #[.val (.ref ra0), .val (.int p1), .val (.int p2), .val (.int (p1 - w_cell_ra0)), .val (.int (w_cells_ra0 - (p1 - w_cell_ra0)))] [(.int p2), (.int (p1 - w_cell_ra0))])) _
          refine XS.iadd X41.here hx rfl (hb hby d4_52) rfl ?_
          exact k44
        · rw [(show (v4_40_s0_1 p1 p2 w_cell_ra0 w_cells_ra0) = (p2 - (w_cells_ra0 - (p1 - w_cell_ra0))) from if_neg hc40_43)] at k44
          show Steps p.tables e below (T41.setTop (mkF m 40 #[.val (.ref ra0), .val (.int p1), .val (.int p2), .val (.int (p1 - w_cell_ra0)), .val (.int (w_cells_ra0 - (p1 - w_cell_ra0)))] [(.int (w_cells_ra0 - (p1 - w_cell_ra0))), (.int p2)])) _
          refine XS.icmpNo X41.here hx rfl (hb hby d4_40) rfl (flt hc40_43).1 ?_
          show Steps p.tables e below (T41.setTop (mkF m 43 #[.val (.ref ra0), .val (.int p1), .val (.int p2), .val (.int (p1 - w_cell_ra0)), .val (.int (w_cells_ra0 - (p1 - w_cell_ra0)))] [])) _
          refine XS.iloadN X41.here hx rfl (hb hby d4_43) rfl ?_
          show Steps p.tables e below (T41.setTop (mkF m 44 #[.val (.ref ra0), .val (.int p1), .val (.int p2), .val (.int (p1 - w_cell_ra0)), .val (.int (w_cells_ra0 - (p1 - w_cell_ra0)))] [(.int p2)])) _
          refine XS.iload X41.here hx rfl (hb hby d4_44) rfl ?_
          show Steps p.tables e below (T41.setTop (mkF m 46 #[.val (.ref ra0), .val (.int p1), .val (.int p2), .val (.int (p1 - w_cell_ra0)), .val (.int (w_cells_ra0 - (p1 - w_cell_ra0)))] [(.int (w_cells_ra0 - (p1 - w_cell_ra0))), (.int p2)])) _
          refine XS.isub X41.here hx rfl (hb hby d4_46) rfl ?_
          show Steps p.tables e below (T41.setTop (mkF m 47 #[.val (.ref ra0), .val (.int p1), .val (.int p2), .val (.int (p1 - w_cell_ra0)), .val (.int (w_cells_ra0 - (p1 - w_cell_ra0)))] [(.int (p2 - (w_cells_ra0 - (p1 - w_cell_ra0))))])) _
          refine XS.goto X41.here hx rfl (pc0 := 47) (pc' := 53) rfl (hb hby d4_47) (by decide) (by decide) ?_
          exact k44
      exact kk)
    obtain ⟨fs, hr, hrun, hended, hW, hsame⟩ := X41.leave (v := some (.int (v4_40_s0_1 p1 p2 w_cell_ra0 w_cells_ra0))) (fun h => by rw [Bd.returns] at h; cases h)
    have hv : (v4_ret p1 p2 w_cell_ra0 w_cells_ra0) = (v4_40_s0_1 p1 p2 w_cell_ra0 w_cells_ra0) := (if_neg hc5_24)
    refine ⟨_, _, k45 _ ?_, hrun, hended, _, _, rfl, ?_, ⟨_, rfl⟩, hW, hsame.mono (by decide) (by decide)⟩
    · show Steps p.tables e below (T41.setTop (mkF m 53 #[.val (.ref ra0), .val (.int p1), .val (.int p2), .val (.int (p1 - w_cell_ra0)), .val (.int (w_cells_ra0 - (p1 - w_cell_ra0)))] [(.int (v4_40_s0_1 p1 p2 w_cell_ra0 w_cells_ra0))])) _
      exact retI X41 hx Bd.returns (hb hby d4_53) hr
    · show Q4 Z ra0 p1 p2 w_cell_ra0 w_cells_ra0 h0 n0 _ T41.heap _
      rw [e41]
      exact ⟨(congrArg (fun z => some (Value.int z)) hv).symm, N0, rfl⟩
theorem pd_0 : parseMethodDescriptor "(II)I" = some ⟨[.int, .int], some .int⟩ := by decide +kernel
theorem pd_1 : parseMethodDescriptor "(II)V" = some ⟨[.int, .int], none⟩ := by decide +kernel
theorem pn_66 : plainName "com/example/lattice_traffic/latticetraffic/SitePastAfterPinLaw" = true := by first | (simp [plainName, overriddenIn]; done) | decide +kernel
def v0_8_l4 (p0 : Int32) : Int32 := (v1_2_s0 (1 : Int32) (p0 &&& (2147483647 : Int32)))
def v0_17_l5 (p0 : Int32) (p1 : Int32) : Int32 := ((p1 &&& (2147483647 : Int32)) % (v0_8_l4 p0))
def v0_26_l6 (p0 : Int32) (p2 : Int32) : Int32 := ((p2 &&& (2147483647 : Int32)) % (v0_8_l4 p0))
def v0_35_l7 (p0 : Int32) (p3 : Int32) : Int32 := ((p3 &&& (2147483647 : Int32)) % (v0_8_l4 p0))
def v0_59_l9 (p0 : Int32) (p1 : Int32) (p2 : Int32) (p3 : Int32) : Int32 := (v4_ret (v0_26_l6 p0 p2) (v0_35_l7 p0 p3) (v0_17_l5 p0 p1) (v0_8_l4 p0))
def v0_72_l10 (p0 : Int32) (p1 : Int32) (p2 : Int32) (p3 : Int32) : Int64 := ((((v0_26_l6 p0 p2).toInt64) + ((v0_35_l7 p0 p3).toInt64)) - ((v0_17_l5 p0 p1).toInt64))
def v0_80_l12 (p0 : Int32) (p1 : Int32) (p2 : Int32) (p3 : Int32) : Int64 := ((v0_72_l10 p0 p1 p2 p3) % ((v0_8_l4 p0).toInt64))
def v0_95_l12 (p0 : Int32) (p1 : Int32) (p2 : Int32) (p3 : Int32) : Int64 := ((v0_80_l12 p0 p1 p2 p3) + ((v0_8_l4 p0).toInt64))
def v0_86_l12 (p0 : Int32) (p1 : Int32) (p2 : Int32) (p3 : Int32) : Int64 := if (v0_80_l12 p0 p1 p2 p3) < (0 : Int64) then (v0_95_l12 p0 p1 p2 p3) else (v0_80_l12 p0 p1 p2 p3)
def v0_103_s0 (p0 : Int32) (p1 : Int32) (p2 : Int32) (p3 : Int32) : Int32 := if ((v0_59_l9 p0 p1 p2 p3).toInt64) = (v0_86_l12 p0 p1 p2 p3) then (1 : Int32) else (0 : Int32)
theorem own_cells (p0 : Int32) : 1 ≤ (v0_8_l4 p0).toInt := by
  unfold v0_8_l4 v1_2_s0
  split
  · rename_i h
    rw [Int32.lt_iff_toInt_lt] at h
    have : (1 : Int32).toInt = 1 := rfl
    omega
  · exact Int.le_refl _
theorem own_nz (p0 : Int32) : v0_8_l4 p0 ≠ 0 := fun h => by
  have := own_cells p0; rw [h] at this; exact absurd this (by decide)
theorem own_nzL (p0 : Int32) : (v0_8_l4 p0).toInt64 ≠ 0 := fun h => by
  have := own_cells p0; rw [← c_i2l, h] at this; exact absurd this (by decide)
theorem own_mod (p0 p : Int32) : 0 ≤ ((p &&& (2147483647 : Int32)) % v0_8_l4 p0).toInt ∧ ((p &&& (2147483647 : Int32)) % v0_8_l4 p0).toInt < (v0_8_l4 p0).toInt := by
  have h1 := own_cells p0
  have h2 := (c_and p (2147483647 : Int32) (by decide)).1
  have h3 := (c_iremV (p &&& 2147483647) (v0_8_l4 p0)).1 h2 (by omega)
  exact ⟨h3.1, h3.2.1⟩
theorem own_hA (p0 p1 : Int32) : ¬ (v0_17_l5 p0 p1) < (0 : Int32) := by
  have := (own_mod p0 p1).1; unfold v0_17_l5; rw [Int32.lt_iff_toInt_lt]; have : (0 : Int32).toInt = 0 := rfl; omega
theorem own_hB (p0 p1 : Int32) : (v0_17_l5 p0 p1) < (v0_8_l4 p0) := by
  have := (own_mod p0 p1).2; unfold v0_17_l5; rw [Int32.lt_iff_toInt_lt]; omega
theorem own_past (f s c A : Int32) (f0 : 0 ≤ f.toInt) (f1 : f.toInt < A.toInt) (s0 : 0 ≤ s.toInt) (s1 : s.toInt < A.toInt) (c0 : 0 ≤ c.toInt) (c1 : c.toInt < A.toInt) :
    0 ≤ (v4_ret f s c A).toInt ∧ (v4_ret f s c A).toInt < A.toInt ∧ ((v4_ret f s c A).toInt = f.toInt + s.toInt - c.toInt ∨ (v4_ret f s c A).toInt = f.toInt + s.toInt - c.toInt + A.toInt ∨ (v4_ret f s c A).toInt = f.toInt + s.toInt - c.toInt - A.toInt) := by
  have rA := rng32 A
  unfold v4_ret v4_40_s0 v4_40_s0_1 v4_35_l4
  by_cases h : f < c
  · rw [if_pos h]
    rw [Int32.lt_iff_toInt_lt] at h
    have e1 := c_isub f c; have r1 := rng32 (f - c)
    have e2 := c_iadd (f - c) A; have r2 := rng32 (f - c + A)
    have e3 := c_isub A (f - c + A); have r3 := rng32 (A - (f - c + A))
    by_cases h2 : s < A - (f - c + A)
    · rw [if_pos h2]; rw [Int32.lt_iff_toInt_lt] at h2
      have e4 := c_iadd (f - c + A) s; have r4 := rng32 (f - c + A + s)
      omega
    · rw [if_neg h2]; rw [Int32.lt_iff_toInt_lt] at h2
      have e4 := c_isub s (A - (f - c + A)); have r4 := rng32 (s - (A - (f - c + A)))
      omega
  · rw [if_neg h]
    rw [Int32.lt_iff_toInt_lt] at h
    have e1 := c_isub f c; have r1 := rng32 (f - c)
    have e3 := c_isub A (f - c); have r3 := rng32 (A - (f - c))
    by_cases h2 : s < A - (f - c)
    · rw [if_pos h2]; rw [Int32.lt_iff_toInt_lt] at h2
      have e4 := c_iadd (f - c) s; have r4 := rng32 (f - c + s)
      omega
    · rw [if_neg h2]; rw [Int32.lt_iff_toInt_lt] at h2
      have e4 := c_isub s (A - (f - c)); have r4 := rng32 (s - (A - (f - c)))
      omega
theorem own_law (p0 p1 p2 p3 : Int32) : (nar .boolean (v0_103_s0 p0 p1 p2 p3)) = 1 := by
  have key : ((v0_59_l9 p0 p1 p2 p3).toInt64) = (v0_86_l12 p0 p1 p2 p3) := by
    have m1 := own_mod p0 p1; have m2 := own_mod p0 p2; have m3 := own_mod p0 p3
    have hA := own_cells p0
    unfold v0_59_l9 v0_86_l12 v0_95_l12 v0_80_l12 v0_72_l10
    have e1 : v0_17_l5 p0 p1 = (p1 &&& (2147483647 : Int32)) % v0_8_l4 p0 := rfl
    have e2 : v0_26_l6 p0 p2 = (p2 &&& (2147483647 : Int32)) % v0_8_l4 p0 := rfl
    have e3 : v0_35_l7 p0 p3 = (p3 &&& (2147483647 : Int32)) % v0_8_l4 p0 := rfl
    rw [e1, e2, e3]
    generalize (p1 &&& (2147483647 : Int32)) % v0_8_l4 p0 = c at *
    generalize (p2 &&& (2147483647 : Int32)) % v0_8_l4 p0 = f at *
    generalize (p3 &&& (2147483647 : Int32)) % v0_8_l4 p0 = s at *
    generalize v0_8_l4 p0 = A at *
    have hp := own_past f s c A m2.1 m2.2 m3.1 m3.2 m1.1 m1.2
    have rA := rng32 A
    have i1 := c_i2l f; have i2 := c_i2l s; have i3 := c_i2l c; have i4 := c_i2l A
    have a1 := c_ladd f.toInt64 s.toInt64; have r1 := rng64 (f.toInt64 + s.toInt64)
    have a2 := c_lsub (f.toInt64 + s.toInt64) c.toInt64; have r2 := rng64 (f.toInt64 + s.toInt64 - c.toInt64)
    have hx : (f.toInt64 + s.toInt64 - c.toInt64).toInt = f.toInt + s.toInt - c.toInt := by omega
    generalize f.toInt64 + s.toInt64 - c.toInt64 = X at *
    have hm : (X % A.toInt64).toInt = X.toInt.tmod A.toInt := by rw [Int64.toInt_mod, i4]
    have t := tr X.toInt A.toInt
    apply Int64.toInt_inj.mp
    rw [c_i2l]
    have e5 := c_ladd (X % A.toInt64) A.toInt64; have r5 := rng64 (X % A.toInt64 + A.toInt64)
    have r6 := rng64 (X % A.toInt64)
    by_cases hneg : X.toInt < 0
    · have t2 := t.2 hneg
      have b1 := Int.emod_lt_of_pos (-X.toInt) (show 0 < A.toInt by omega)
      have b2 := Int.emod_nonneg (-X.toInt) (show A.toInt ≠ 0 by omega)
      have q : (-X.toInt) % A.toInt = -X.toInt := Int.emod_eq_of_lt (by omega) (by omega)
      by_cases hr : X % A.toInt64 < 0
      · rw [if_pos hr]; omega
      · rw [if_neg hr]; rw [Int64.lt_iff_toInt_lt] at hr; have : (0 : Int64).toInt = 0 := rfl; omega
    · have t2 := t.1 (by omega)
      have hr : ¬ X % A.toInt64 < 0 := by
        rw [Int64.lt_iff_toInt_lt, hm, t2]; have := Int.emod_nonneg X.toInt (show A.toInt ≠ 0 by omega); have : (0 : Int64).toInt = 0 := rfl; omega
      rw [if_neg hr, hm, t2]
      by_cases hge : X.toInt < A.toInt
      · rw [Int.emod_eq_of_lt (by omega) hge]; omega
      · have q : X.toInt % A.toInt = X.toInt - A.toInt := by
          rw [← Int.sub_emod_right, Int.emod_eq_of_lt (by omega) (by omega)]
        rw [q]; omega
  have e : v0_103_s0 p0 p1 p2 p3 = 1 := by unfold v0_103_s0; exact if_pos key
  rw [e]; rfl

theorem ef_rm0 (m : MethodId) (p0 : Int32) (p1 : Int32) (p2 : Int32) (p3 : Int32) : entryFrame m #[(.int p0), (.int p1), (.int p2), (.int p3)] maxLocals = mkF m 0 #[.val (.int p0), .val (.int p1), .val (.int p2), .val (.int p3), .unset, .unset, .unset, .unset, .unset, .unset, .unset, .unset, .unset, .unset] [] := by first | (simp [entryFrame, mkF, argsToLocals, Value.category, maxLocals]; done) | rfl
def Q0 (Z : State) (p0 : Int32) (p1 : Int32) (p2 : Int32) (p3 : Int32) (h0 : Heap) (n0 : Nat) (v : Option Value) (h : Heap) (L : List Loc) : Prop := v = some (.int 1) ∧ Fr n0 L
set_option maxRecDepth 65536 in
set_option maxHeartbeats 40000000 in
theorem rm0 (l : Launch) (Z : State) (a0 : Array Value) (hw : ∀ d ∈ tables_1, d.before a0 Z = true) (ws : List Jvm.Cond) (p0 : Int32) (p1 : Int32) (p2 : Int32) (p3 : Int32) (h0 : Heap) (n0 : Nat) (Z0 : n0 ≤ h0.size) :
    MetFree l x (head1 (Jvm.Cond.code x code maxLocals ret :: ws) room_1) (fun a U => a = #[(.int p0), (.int p1), (.int p2), (.int p3)] ∧ Z.Warmed39 U.vm ∧ U.heap = h0) (fun _ _ _ _ _ => True) (fun _ U o U' => ∃ v L, o = .returned v ∧ Q0 Z p0 p1 p2 p3 h0 n0 v U'.heap L ∧ FrameEnd U o U' L room_1.cells room_1.slots) := by
  refine MetFree.of_bodySF (plainFor_of_name pn_66) hisR ?_
  intro p e s m args below meth c s₁ Bd hml0 hP hK
  obtain ⟨rfl, hZ, hh⟩ := hP
  have hx := Bd.exec
  have hby := Bd.bytes
  have hml : c.maxLocals = 14 := hml0
  have hown : s.vm.findClass "com/example/lattice_traffic/latticetraffic/SitePastAfterPinLaw" = some m.cls := findClass_of_methodNamed Bd.named
  have hnm := (name_of_methodNamed Bd.named Bd.method).1
  have X0 : Stand p l e room_1 s m #[(.int p0), (.int p1), (.int p2), (.int p3)] below meth c s₁ [] 0 0 := Stand.of_body Bd
  have e0 : s₁.heap = h0 := by rw [← hh, Bd.state]; rfl
  have N0 := Fr.nil n0
  have KC0 := Keep.refl h0 ([] : List Addr)
  have pre0 : ∀ t, Steps p.tables e below (s₁.setTop (mkF m 0 #[.val (.int p0), .val (.int p1), .val (.int p2), .val (.int p3), .unset, .unset, .unset, .unset, .unset, .unset, .unset, .unset, .unset, .unset] [])) t → Steps p.tables e below (s₁.setTop (entryFrame m #[(.int p0), (.int p1), (.int p2), (.int p3)] maxLocals)) t := fun t k => castTop (ef_rm0 m p0 p1 p2 p3) k
  have k46 := fun (t : State) (kk : Steps p.tables e below (s₁.setTop (mkF m 5 #[.val (.int p0), .val (.int p1), .val (.int p2), .val (.int p3), .unset, .unset, .unset, .unset, .unset, .unset, .unset, .unset, .unset, .unset] [(.int (p0 &&& (2147483647 : Int32))), (.int (1 : Int32))])) t) => pre0 t (by
    show Steps p.tables e below (s₁.setTop (mkF m 0 #[.val (.int p0), .val (.int p1), .val (.int p2), .val (.int p3), .unset, .unset, .unset, .unset, .unset, .unset, .unset, .unset, .unset, .unset] [])) _
    refine XS.iconst X0.here hx rfl (hb hby at_0) ?_
    show Steps p.tables e below (s₁.setTop (mkF m 1 #[.val (.int p0), .val (.int p1), .val (.int p2), .val (.int p3), .unset, .unset, .unset, .unset, .unset, .unset, .unset, .unset, .unset, .unset] [(.int (1 : Int32))])) _
    refine XS.iloadN X0.here hx rfl (hb hby at_1) rfl ?_
    show Steps p.tables e below (s₁.setTop (mkF m 2 #[.val (.int p0), .val (.int p1), .val (.int p2), .val (.int p3), .unset, .unset, .unset, .unset, .unset, .unset, .unset, .unset, .unset, .unset] [(.int p0), (.int (1 : Int32))])) _
    refine X0.ldcInt hx hown (mvT hZ (hw _ (List.mem_of_getElem? (i := 0) rfl))) (g := (mkF m 2 #[.val (.int p0), .val (.int p1), .val (.int p2), .val (.int p3), .unset, .unset, .unset, .unset, .unset, .unset, .unset, .unset, .unset, .unset] [(.int p0), (.int (1 : Int32))])) rfl (hb hby at_2) _ ?_
    show Steps p.tables e below (s₁.setTop (mkF m 4 #[.val (.int p0), .val (.int p1), .val (.int p2), .val (.int p3), .unset, .unset, .unset, .unset, .unset, .unset, .unset, .unset, .unset, .unset] [(.int (2147483647 : Int32)), (.int p0), (.int (1 : Int32))])) _
    refine XS.iand X0.here hx rfl (hb hby at_4) rfl ?_
    exact kk)
  have Zz47 : n0 ≤ h0.size := (Nat.le_trans Z0 KC0.1)
  obtain ⟨_, _, ⟨T47, L47, k47, n47⟩, -, X47, ⟨Lc47, hQ47, l47, y47, z47⟩, st47⟩ := Jvm.LawKit.callS X0 hx (y := (⟨"java/lang/Math", "max", "(II)I"⟩ : MethodName)) hown (mvT hZ (hw _ (List.mem_of_getElem? (i := 1) rfl))) (mvT hZ (hw _ (List.mem_of_getElem? (i := 2) rfl))) (mvT hZ (hw _ (List.mem_of_getElem? (i := 3) rfl))) (mvT hZ (hw _ (List.mem_of_getElem? (i := 4) rfl))) (by decide) (backOf (W := 0) (rm1 l Z a0 hw [] (1 : Int32) (p0 &&& (2147483647 : Int32)) h0 n0 Zz47) hZ (hw _ (List.mem_of_getElem? (i := 4) rfl)) (hw _ (List.mem_of_getElem? (i := 3) rfl)) (by decide) (by decide)) (g := (mkF m 5 #[.val (.int p0), .val (.int p1), .val (.int p2), .val (.int p3), .unset, .unset, .unset, .unset, .unset, .unset, .unset, .unset, .unset, .unset] [(.int (p0 &&& (2147483647 : Int32))), (.int (1 : Int32))])) rfl (by rw [hml]; rfl) (argsL := [(.int (1 : Int32)), (.int (p0 &&& (2147483647 : Int32)))]) (rest := []) (lenOf pd_0 rfl) rfl (by show 2 * 0 + _ ≤ _; exact Nat.le_of_eq rfl) (hb hby at_5) (fun _ _ => ⟨rfl, e0, (by decide : 0 + 0 ≤ _), (by decide : 0 + 0 ≤ _)⟩)
  dsimp only [Pt.U, Pt.locs, Pt.cells, Pt.slots] at X47 l47 y47 z47 st47 hQ47
  subst l47 y47 z47
  obtain ⟨rfl, N47q, e47⟩ := hQ47
  have N47 := Fr.app N0 N47q
  have k48 := fun (t : State) (kk : Steps p.tables e below (T47.setTop (mkF m 8 #[.val (.int p0), .val (.int p1), .val (.int p2), .val (.int p3), .unset, .unset, .unset, .unset, .unset, .unset, .unset, .unset, .unset, .unset] [(.int (v1_2_s0 (1 : Int32) (p0 &&& (2147483647 : Int32))))])) t) => k46 t (st47 _ kk)
  have k49 := fun (t : State) (kk : Steps p.tables e below (T47.setTop (mkF m 37 #[.val (.int p0), .val (.int p1), .val (.int p2), .val (.int p3), .val (.int (v0_8_l4 p0)), .val (.int (v0_17_l5 p0 p1)), .val (.int (v0_26_l6 p0 p2)), .val (.int (v0_35_l7 p0 p3)), .unset, .unset, .unset, .unset, .unset, .unset] [])) t) => k48 t (by
    show Steps p.tables e below (T47.setTop (mkF m 8 #[.val (.int p0), .val (.int p1), .val (.int p2), .val (.int p3), .unset, .unset, .unset, .unset, .unset, .unset, .unset, .unset, .unset, .unset] [(.int (v1_2_s0 (1 : Int32) (p0 &&& (2147483647 : Int32))))])) _
    refine XS.istore X47.here hx rfl (hb hby at_8) rfl (l' := #[.val (.int p0), .val (.int p1), .val (.int p2), .val (.int p3), .val (.int (v0_8_l4 p0)), .unset, .unset, .unset, .unset, .unset, .unset, .unset, .unset, .unset]) rfl ?_
    show Steps p.tables e below (T47.setTop (mkF m 10 #[.val (.int p0), .val (.int p1), .val (.int p2), .val (.int p3), .val (.int (v0_8_l4 p0)), .unset, .unset, .unset, .unset, .unset, .unset, .unset, .unset, .unset] [])) _
    refine XS.iloadN X47.here hx rfl (hb hby at_10) rfl ?_
    show Steps p.tables e below (T47.setTop (mkF m 11 #[.val (.int p0), .val (.int p1), .val (.int p2), .val (.int p3), .val (.int (v0_8_l4 p0)), .unset, .unset, .unset, .unset, .unset, .unset, .unset, .unset, .unset] [(.int p1)])) _
    refine X47.ldcInt hx hown (mvT hZ (hw _ (List.mem_of_getElem? (i := 0) rfl))) (g := (mkF m 11 #[.val (.int p0), .val (.int p1), .val (.int p2), .val (.int p3), .val (.int (v0_8_l4 p0)), .unset, .unset, .unset, .unset, .unset, .unset, .unset, .unset, .unset] [(.int p1)])) rfl (hb hby at_11) _ ?_
    show Steps p.tables e below (T47.setTop (mkF m 13 #[.val (.int p0), .val (.int p1), .val (.int p2), .val (.int p3), .val (.int (v0_8_l4 p0)), .unset, .unset, .unset, .unset, .unset, .unset, .unset, .unset, .unset] [(.int (2147483647 : Int32)), (.int p1)])) _
    refine XS.iand X47.here hx rfl (hb hby at_13) rfl ?_
    show Steps p.tables e below (T47.setTop (mkF m 14 #[.val (.int p0), .val (.int p1), .val (.int p2), .val (.int p3), .val (.int (v0_8_l4 p0)), .unset, .unset, .unset, .unset, .unset, .unset, .unset, .unset, .unset] [(.int (p1 &&& (2147483647 : Int32)))])) _
    refine XS.iload X47.here hx rfl (hb hby at_14) rfl ?_
    show Steps p.tables e below (T47.setTop (mkF m 16 #[.val (.int p0), .val (.int p1), .val (.int p2), .val (.int p3), .val (.int (v0_8_l4 p0)), .unset, .unset, .unset, .unset, .unset, .unset, .unset, .unset, .unset] [(.int (v0_8_l4 p0)), (.int (p1 &&& (2147483647 : Int32)))])) _
    refine iremM X47 hx rfl (hb hby at_16) rfl (own_nz p0) ?_
    show Steps p.tables e below (T47.setTop (mkF m 17 #[.val (.int p0), .val (.int p1), .val (.int p2), .val (.int p3), .val (.int (v0_8_l4 p0)), .unset, .unset, .unset, .unset, .unset, .unset, .unset, .unset, .unset] [(.int ((p1 &&& (2147483647 : Int32)) % (v0_8_l4 p0)))])) _
    refine XS.istore X47.here hx rfl (hb hby at_17) rfl (l' := #[.val (.int p0), .val (.int p1), .val (.int p2), .val (.int p3), .val (.int (v0_8_l4 p0)), .val (.int (v0_17_l5 p0 p1)), .unset, .unset, .unset, .unset, .unset, .unset, .unset, .unset]) rfl ?_
    show Steps p.tables e below (T47.setTop (mkF m 19 #[.val (.int p0), .val (.int p1), .val (.int p2), .val (.int p3), .val (.int (v0_8_l4 p0)), .val (.int (v0_17_l5 p0 p1)), .unset, .unset, .unset, .unset, .unset, .unset, .unset, .unset] [])) _
    refine XS.iloadN X47.here hx rfl (hb hby at_19) rfl ?_
    show Steps p.tables e below (T47.setTop (mkF m 20 #[.val (.int p0), .val (.int p1), .val (.int p2), .val (.int p3), .val (.int (v0_8_l4 p0)), .val (.int (v0_17_l5 p0 p1)), .unset, .unset, .unset, .unset, .unset, .unset, .unset, .unset] [(.int p2)])) _
    refine X47.ldcInt hx hown (mvT hZ (hw _ (List.mem_of_getElem? (i := 0) rfl))) (g := (mkF m 20 #[.val (.int p0), .val (.int p1), .val (.int p2), .val (.int p3), .val (.int (v0_8_l4 p0)), .val (.int (v0_17_l5 p0 p1)), .unset, .unset, .unset, .unset, .unset, .unset, .unset, .unset] [(.int p2)])) rfl (hb hby at_20) _ ?_
    show Steps p.tables e below (T47.setTop (mkF m 22 #[.val (.int p0), .val (.int p1), .val (.int p2), .val (.int p3), .val (.int (v0_8_l4 p0)), .val (.int (v0_17_l5 p0 p1)), .unset, .unset, .unset, .unset, .unset, .unset, .unset, .unset] [(.int (2147483647 : Int32)), (.int p2)])) _
    refine XS.iand X47.here hx rfl (hb hby at_22) rfl ?_
    show Steps p.tables e below (T47.setTop (mkF m 23 #[.val (.int p0), .val (.int p1), .val (.int p2), .val (.int p3), .val (.int (v0_8_l4 p0)), .val (.int (v0_17_l5 p0 p1)), .unset, .unset, .unset, .unset, .unset, .unset, .unset, .unset] [(.int (p2 &&& (2147483647 : Int32)))])) _
    refine XS.iload X47.here hx rfl (hb hby at_23) rfl ?_
    show Steps p.tables e below (T47.setTop (mkF m 25 #[.val (.int p0), .val (.int p1), .val (.int p2), .val (.int p3), .val (.int (v0_8_l4 p0)), .val (.int (v0_17_l5 p0 p1)), .unset, .unset, .unset, .unset, .unset, .unset, .unset, .unset] [(.int (v0_8_l4 p0)), (.int (p2 &&& (2147483647 : Int32)))])) _
    refine iremM X47 hx rfl (hb hby at_25) rfl (own_nz p0) ?_
    show Steps p.tables e below (T47.setTop (mkF m 26 #[.val (.int p0), .val (.int p1), .val (.int p2), .val (.int p3), .val (.int (v0_8_l4 p0)), .val (.int (v0_17_l5 p0 p1)), .unset, .unset, .unset, .unset, .unset, .unset, .unset, .unset] [(.int ((p2 &&& (2147483647 : Int32)) % (v0_8_l4 p0)))])) _
    refine XS.istore X47.here hx rfl (hb hby at_26) rfl (l' := #[.val (.int p0), .val (.int p1), .val (.int p2), .val (.int p3), .val (.int (v0_8_l4 p0)), .val (.int (v0_17_l5 p0 p1)), .val (.int (v0_26_l6 p0 p2)), .unset, .unset, .unset, .unset, .unset, .unset, .unset]) rfl ?_
    show Steps p.tables e below (T47.setTop (mkF m 28 #[.val (.int p0), .val (.int p1), .val (.int p2), .val (.int p3), .val (.int (v0_8_l4 p0)), .val (.int (v0_17_l5 p0 p1)), .val (.int (v0_26_l6 p0 p2)), .unset, .unset, .unset, .unset, .unset, .unset, .unset] [])) _
    refine XS.iloadN X47.here hx rfl (hb hby at_28) rfl ?_
    show Steps p.tables e below (T47.setTop (mkF m 29 #[.val (.int p0), .val (.int p1), .val (.int p2), .val (.int p3), .val (.int (v0_8_l4 p0)), .val (.int (v0_17_l5 p0 p1)), .val (.int (v0_26_l6 p0 p2)), .unset, .unset, .unset, .unset, .unset, .unset, .unset] [(.int p3)])) _
    refine X47.ldcInt hx hown (mvT hZ (hw _ (List.mem_of_getElem? (i := 0) rfl))) (g := (mkF m 29 #[.val (.int p0), .val (.int p1), .val (.int p2), .val (.int p3), .val (.int (v0_8_l4 p0)), .val (.int (v0_17_l5 p0 p1)), .val (.int (v0_26_l6 p0 p2)), .unset, .unset, .unset, .unset, .unset, .unset, .unset] [(.int p3)])) rfl (hb hby at_29) _ ?_
    show Steps p.tables e below (T47.setTop (mkF m 31 #[.val (.int p0), .val (.int p1), .val (.int p2), .val (.int p3), .val (.int (v0_8_l4 p0)), .val (.int (v0_17_l5 p0 p1)), .val (.int (v0_26_l6 p0 p2)), .unset, .unset, .unset, .unset, .unset, .unset, .unset] [(.int (2147483647 : Int32)), (.int p3)])) _
    refine XS.iand X47.here hx rfl (hb hby at_31) rfl ?_
    show Steps p.tables e below (T47.setTop (mkF m 32 #[.val (.int p0), .val (.int p1), .val (.int p2), .val (.int p3), .val (.int (v0_8_l4 p0)), .val (.int (v0_17_l5 p0 p1)), .val (.int (v0_26_l6 p0 p2)), .unset, .unset, .unset, .unset, .unset, .unset, .unset] [(.int (p3 &&& (2147483647 : Int32)))])) _
    refine XS.iload X47.here hx rfl (hb hby at_32) rfl ?_
    show Steps p.tables e below (T47.setTop (mkF m 34 #[.val (.int p0), .val (.int p1), .val (.int p2), .val (.int p3), .val (.int (v0_8_l4 p0)), .val (.int (v0_17_l5 p0 p1)), .val (.int (v0_26_l6 p0 p2)), .unset, .unset, .unset, .unset, .unset, .unset, .unset] [(.int (v0_8_l4 p0)), (.int (p3 &&& (2147483647 : Int32)))])) _
    refine iremM X47 hx rfl (hb hby at_34) rfl (own_nz p0) ?_
    show Steps p.tables e below (T47.setTop (mkF m 35 #[.val (.int p0), .val (.int p1), .val (.int p2), .val (.int p3), .val (.int (v0_8_l4 p0)), .val (.int (v0_17_l5 p0 p1)), .val (.int (v0_26_l6 p0 p2)), .unset, .unset, .unset, .unset, .unset, .unset, .unset] [(.int ((p3 &&& (2147483647 : Int32)) % (v0_8_l4 p0)))])) _
    refine XS.istore X47.here hx rfl (hb hby at_35) rfl (l' := #[.val (.int p0), .val (.int p1), .val (.int p2), .val (.int p3), .val (.int (v0_8_l4 p0)), .val (.int (v0_17_l5 p0 p1)), .val (.int (v0_26_l6 p0 p2)), .val (.int (v0_35_l7 p0 p3)), .unset, .unset, .unset, .unset, .unset, .unset]) rfl ?_
    exact kk)
  obtain ⟨T50, h50, X50, e50, E50, A50, D50, -, st50⟩ := newO X47 hx hZ hown (hw _ (List.mem_of_getElem? (i := 5) rfl)) (hw _ (List.mem_of_getElem? (i := 6) rfl)) (hw _ (List.mem_of_getElem? (i := 7) rfl)) e47 (g := (mkF m 37 #[.val (.int p0), .val (.int p1), .val (.int p2), .val (.int p3), .val (.int (v0_8_l4 p0)), .val (.int (v0_17_l5 p0 p1)), .val (.int (v0_26_l6 p0 p2)), .val (.int (v0_35_l7 p0 p3)), .unset, .unset, .unset, .unset, .unset, .unset] [])) rfl (hb hby at_37) (by decide) (by decide)
  obtain ⟨b50, g50⟩ : ∃ z, z = h0.size := ⟨_, rfl⟩
  rw [← g50] at A50 D50 st50
  have g_b50 : n0 ≤ b50 := Nat.le_trans (Nat.le_trans Z0 KC0.1) (Nat.le_of_eq g50.symm)
  have sz_b50 : h0.size ≤ b50 := Nat.le_trans KC0.1 (Nat.le_of_eq g50.symm)
  have K50 : Keep h0 h50 [] := KC0.ext E50
  have F_cells_b50 : Fld Z h50 b50 "com/example/lattice_traffic/latticetraffic/Site" "cells" "I" (.int (0 : Int32)) := D50 (Or.inr (hw _ (List.mem_of_getElem? (i := 15) rfl))) (ty := .int) (by decide)
  have F_cell_b50 : Fld Z h50 b50 "com/example/lattice_traffic/latticetraffic/Site" "cell" "I" (.int (0 : Int32)) := D50 (Or.inr (hw _ (List.mem_of_getElem? (i := 17) rfl))) (ty := .int) (by decide)
  have k51 := fun (t : State) (kk : Steps p.tables e below (T50.setTop (mkF m 40 #[.val (.int p0), .val (.int p1), .val (.int p2), .val (.int p3), .val (.int (v0_8_l4 p0)), .val (.int (v0_17_l5 p0 p1)), .val (.int (v0_26_l6 p0 p2)), .val (.int (v0_35_l7 p0 p3)), .unset, .unset, .unset, .unset, .unset, .unset] [(.ref b50)])) t) => k49 t (st50 _ kk)
  have k52 := fun (t : State) (kk : Steps p.tables e below (T50.setTop (mkF m 45 #[.val (.int p0), .val (.int p1), .val (.int p2), .val (.int p3), .val (.int (v0_8_l4 p0)), .val (.int (v0_17_l5 p0 p1)), .val (.int (v0_26_l6 p0 p2)), .val (.int (v0_35_l7 p0 p3)), .unset, .unset, .unset, .unset, .unset, .unset] [(.int (v0_17_l5 p0 p1)), (.int (v0_8_l4 p0)), (.ref b50), (.ref b50)])) t) => k51 t (by
    show Steps p.tables e below (T50.setTop (mkF m 40 #[.val (.int p0), .val (.int p1), .val (.int p2), .val (.int p3), .val (.int (v0_8_l4 p0)), .val (.int (v0_17_l5 p0 p1)), .val (.int (v0_26_l6 p0 p2)), .val (.int (v0_35_l7 p0 p3)), .unset, .unset, .unset, .unset, .unset, .unset] [(.ref b50)])) _
    refine XS.dup X50.here hx rfl (hb hby at_40) rfl rfl ?_
    show Steps p.tables e below (T50.setTop (mkF m 41 #[.val (.int p0), .val (.int p1), .val (.int p2), .val (.int p3), .val (.int (v0_8_l4 p0)), .val (.int (v0_17_l5 p0 p1)), .val (.int (v0_26_l6 p0 p2)), .val (.int (v0_35_l7 p0 p3)), .unset, .unset, .unset, .unset, .unset, .unset] [(.ref b50), (.ref b50)])) _
    refine XS.iload X50.here hx rfl (hb hby at_41) rfl ?_
    show Steps p.tables e below (T50.setTop (mkF m 43 #[.val (.int p0), .val (.int p1), .val (.int p2), .val (.int p3), .val (.int (v0_8_l4 p0)), .val (.int (v0_17_l5 p0 p1)), .val (.int (v0_26_l6 p0 p2)), .val (.int (v0_35_l7 p0 p3)), .unset, .unset, .unset, .unset, .unset, .unset] [(.int (v0_8_l4 p0)), (.ref b50), (.ref b50)])) _
    refine XS.iload X50.here hx rfl (hb hby at_43) rfl ?_
    exact kk)
  have Zz53 : n0 ≤ h50.size := (Nat.le_trans Z0 K50.1)
  obtain ⟨_, _, ⟨T53, L53, k53, n53⟩, -, X53, ⟨Lc53, hQ53, l53, y53, z53⟩, st53⟩ := X50.specialBack hx (y := (⟨"com/example/lattice_traffic/latticetraffic/Site", "<init>", "(II)V"⟩ : MethodName)) rfl hown (mvT hZ (hw _ (List.mem_of_getElem? (i := 8) rfl))) (mvT hZ (hw _ (List.mem_of_getElem? (i := 9) rfl))) (mvT hZ (hw _ (List.mem_of_getElem? (i := 10) rfl))) (by decide) (backOf (W := 1) (rm2 l Z a0 hw [] b50 (v0_8_l4 p0) (v0_17_l5 p0 p1) (0 : Int32) (0 : Int32) h50 n0 Zz53 (own_hA p0 p1 : ¬ ((v0_17_l5 p0 p1) < (0 : Int32))) (own_hB p0 p1 : (v0_17_l5 p0 p1) < (v0_8_l4 p0)) A50 F_cells_b50 g_b50 F_cell_b50) hZ (hw _ (List.mem_of_getElem? (i := 10) rfl)) (hw _ (List.mem_of_getElem? (i := 7) rfl)) (by decide) (by decide)) (g := (mkF m 45 #[.val (.int p0), .val (.int p1), .val (.int p2), .val (.int p3), .val (.int (v0_8_l4 p0)), .val (.int (v0_17_l5 p0 p1)), .val (.int (v0_26_l6 p0 p2)), .val (.int (v0_35_l7 p0 p3)), .unset, .unset, .unset, .unset, .unset, .unset] [(.int (v0_17_l5 p0 p1)), (.int (v0_8_l4 p0)), (.ref b50), (.ref b50)])) rfl (by rw [hml]; rfl) (Steps.refl _) (a := b50) (argsL := [(.int (v0_8_l4 p0)), (.int (v0_17_l5 p0 p1))]) (rest := [(.ref b50)]) (lenOf pd_1 rfl) rfl (by show 2 * 0 + _ ≤ _; exact Nat.le_of_eq rfl) (hb hby at_45) (fun _ _ => ⟨rfl, e50, (by decide : 1 + 0 ≤ _), (by decide : 2 + 0 ≤ _)⟩)
  dsimp only [Pt.U, Pt.locs, Pt.cells, Pt.slots] at X53 l53 y53 z53 st53 hQ53
  subst l53 y53 z53
  obtain ⟨rfl, N53q, Kq53, Eq53_0, Fq53_0, Fq53_1⟩ := hQ53
  have K53 : Keep h0 T53.heap [] := K50.trans Kq53 (allS (Or.inr sz_b50) all0)
  have N53 := Fr.app N47 N53q
  have k54 := fun (t : State) (kk : Steps p.tables e below (T53.setTop (mkF m 48 #[.val (.int p0), .val (.int p1), .val (.int p2), .val (.int p3), .val (.int (v0_8_l4 p0)), .val (.int (v0_17_l5 p0 p1)), .val (.int (v0_26_l6 p0 p2)), .val (.int (v0_35_l7 p0 p3)), .unset, .unset, .unset, .unset, .unset, .unset] [(.ref b50)])) t) => k52 t (st53.trans kk)
  have k55 := fun (t : State) (kk : Steps p.tables e below (T53.setTop (mkF m 56 #[.val (.int p0), .val (.int p1), .val (.int p2), .val (.int p3), .val (.int (v0_8_l4 p0)), .val (.int (v0_17_l5 p0 p1)), .val (.int (v0_26_l6 p0 p2)), .val (.int (v0_35_l7 p0 p3)), .val (.ref b50), .unset, .unset, .unset, .unset, .unset] [(.int (v0_35_l7 p0 p3)), (.int (v0_26_l6 p0 p2)), (.ref b50)])) t) => k54 t (by
    show Steps p.tables e below (T53.setTop (mkF m 48 #[.val (.int p0), .val (.int p1), .val (.int p2), .val (.int p3), .val (.int (v0_8_l4 p0)), .val (.int (v0_17_l5 p0 p1)), .val (.int (v0_26_l6 p0 p2)), .val (.int (v0_35_l7 p0 p3)), .unset, .unset, .unset, .unset, .unset, .unset] [(.ref b50)])) _
    refine XS.astore X53.here hx rfl (hb hby at_48) rfl rfl (l' := #[.val (.int p0), .val (.int p1), .val (.int p2), .val (.int p3), .val (.int (v0_8_l4 p0)), .val (.int (v0_17_l5 p0 p1)), .val (.int (v0_26_l6 p0 p2)), .val (.int (v0_35_l7 p0 p3)), .val (.ref b50), .unset, .unset, .unset, .unset, .unset]) rfl ?_
    show Steps p.tables e below (T53.setTop (mkF m 50 #[.val (.int p0), .val (.int p1), .val (.int p2), .val (.int p3), .val (.int (v0_8_l4 p0)), .val (.int (v0_17_l5 p0 p1)), .val (.int (v0_26_l6 p0 p2)), .val (.int (v0_35_l7 p0 p3)), .val (.ref b50), .unset, .unset, .unset, .unset, .unset] [])) _
    refine XS.aload X53.here hx rfl (hb hby at_50) rfl rfl ?_
    show Steps p.tables e below (T53.setTop (mkF m 52 #[.val (.int p0), .val (.int p1), .val (.int p2), .val (.int p3), .val (.int (v0_8_l4 p0)), .val (.int (v0_17_l5 p0 p1)), .val (.int (v0_26_l6 p0 p2)), .val (.int (v0_35_l7 p0 p3)), .val (.ref b50), .unset, .unset, .unset, .unset, .unset] [(.ref b50)])) _
    refine XS.iload X53.here hx rfl (hb hby at_52) rfl ?_
    show Steps p.tables e below (T53.setTop (mkF m 54 #[.val (.int p0), .val (.int p1), .val (.int p2), .val (.int p3), .val (.int (v0_8_l4 p0)), .val (.int (v0_17_l5 p0 p1)), .val (.int (v0_26_l6 p0 p2)), .val (.int (v0_35_l7 p0 p3)), .val (.ref b50), .unset, .unset, .unset, .unset, .unset] [(.int (v0_26_l6 p0 p2)), (.ref b50)])) _
    refine XS.iload X53.here hx rfl (hb hby at_54) rfl ?_
    exact kk)
  have Zz56 : n0 ≤ T53.heap.size := (Nat.le_trans Z0 K53.1)
  obtain ⟨cq56, kq56, q56a, q56b, q56c⟩ := isOf hZ rfl Eq53_0
  obtain ⟨_, _, ⟨T56, L56, k56, n56⟩, -, X56, ⟨Lc56, hQ56, l56, y56, z56⟩, st56⟩ := X53.virtualBack hx (y := (⟨"com/example/lattice_traffic/latticetraffic/Site", "pastAfter", "(II)I"⟩ : MethodName)) (z := (⟨"com/example/lattice_traffic/latticetraffic/Site", "pastAfter", "(II)I"⟩ : MethodName)) hown (mvT hZ (hw _ (List.mem_of_getElem? (i := 18) rfl))) (mvT hZ (hw _ (List.mem_of_getElem? (i := 19) rfl))) (notFace_of_selects (args := #[]) (mvT hZ (hw _ (List.mem_of_getElem? (i := 21) rfl)))) (mvT hZ (hw _ (List.mem_of_getElem? (i := 21) rfl))) (mvT hZ (hw _ (List.mem_of_getElem? (i := 20) rfl))) (by decide) (backOf (W := 0) (rm4 l Z a0 hw [] b50 (v0_26_l6 p0 p2) (v0_35_l7 p0 p3) (v0_17_l5 p0 p1) (v0_8_l4 p0) T53.heap n0 Zz56 Fq53_1 Fq53_0) hZ (hw _ (List.mem_of_getElem? (i := 22) rfl)) (hw _ (List.mem_of_getElem? (i := 7) rfl)) (by decide) (by decide)) q56a q56c (g := (mkF m 56 #[.val (.int p0), .val (.int p1), .val (.int p2), .val (.int p3), .val (.int (v0_8_l4 p0)), .val (.int (v0_17_l5 p0 p1)), .val (.int (v0_26_l6 p0 p2)), .val (.int (v0_35_l7 p0 p3)), .val (.ref b50), .unset, .unset, .unset, .unset, .unset] [(.int (v0_35_l7 p0 p3)), (.int (v0_26_l6 p0 p2)), (.ref b50)])) rfl (by rw [hml]; rfl) (Steps.refl _) (argsL := [(.int (v0_26_l6 p0 p2)), (.int (v0_35_l7 p0 p3))]) (rest := []) (lenOf pd_0 rfl) rfl (by show 2 * 0 + _ ≤ _; exact Nat.le_of_eq rfl) (hb hby at_56) (fun _ _ => ⟨rfl, rfl, (by decide : 1 + 0 ≤ _), (by decide : 2 + 0 ≤ _)⟩)
  dsimp only [Pt.U, Pt.locs, Pt.cells, Pt.slots] at X56 l56 y56 z56 st56 hQ56
  subst l56 y56 z56
  obtain ⟨rfl, N56q, e56⟩ := hQ56
  have N56 := Fr.app N53 N56q
  have k57 := fun (t : State) (kk : Steps p.tables e below (T56.setTop (mkF m 59 #[.val (.int p0), .val (.int p1), .val (.int p2), .val (.int p3), .val (.int (v0_8_l4 p0)), .val (.int (v0_17_l5 p0 p1)), .val (.int (v0_26_l6 p0 p2)), .val (.int (v0_35_l7 p0 p3)), .val (.ref b50), .unset, .unset, .unset, .unset, .unset] [(.int (v4_ret (v0_26_l6 p0 p2) (v0_35_l7 p0 p3) (v0_17_l5 p0 p1) (v0_8_l4 p0)))])) t) => k55 t (st56.trans kk)
  have k62 := fun (t : State) (kk : Steps p.tables e below (T56.setTop (mkF m 111 #[.val (.int p0), .val (.int p1), .val (.int p2), .val (.int p3), .val (.int (v0_8_l4 p0)), .val (.int (v0_17_l5 p0 p1)), .val (.int (v0_26_l6 p0 p2)), .val (.int (v0_35_l7 p0 p3)), .val (.ref b50), .val (.int (v0_59_l9 p0 p1 p2 p3)), .val (.long (v0_72_l10 p0 p1 p2 p3)), .second, .val (.long (v0_86_l12 p0 p1 p2 p3)), .second] [(.int (v0_103_s0 p0 p1 p2 p3))])) t) => k57 t (by
    show Steps p.tables e below (T56.setTop (mkF m 59 #[.val (.int p0), .val (.int p1), .val (.int p2), .val (.int p3), .val (.int (v0_8_l4 p0)), .val (.int (v0_17_l5 p0 p1)), .val (.int (v0_26_l6 p0 p2)), .val (.int (v0_35_l7 p0 p3)), .val (.ref b50), .unset, .unset, .unset, .unset, .unset] [(.int (v4_ret (v0_26_l6 p0 p2) (v0_35_l7 p0 p3) (v0_17_l5 p0 p1) (v0_8_l4 p0)))])) _
    refine XS.istore X56.here hx rfl (hb hby at_59) rfl (l' := #[.val (.int p0), .val (.int p1), .val (.int p2), .val (.int p3), .val (.int (v0_8_l4 p0)), .val (.int (v0_17_l5 p0 p1)), .val (.int (v0_26_l6 p0 p2)), .val (.int (v0_35_l7 p0 p3)), .val (.ref b50), .val (.int (v0_59_l9 p0 p1 p2 p3)), .unset, .unset, .unset, .unset]) rfl ?_
    show Steps p.tables e below (T56.setTop (mkF m 61 #[.val (.int p0), .val (.int p1), .val (.int p2), .val (.int p3), .val (.int (v0_8_l4 p0)), .val (.int (v0_17_l5 p0 p1)), .val (.int (v0_26_l6 p0 p2)), .val (.int (v0_35_l7 p0 p3)), .val (.ref b50), .val (.int (v0_59_l9 p0 p1 p2 p3)), .unset, .unset, .unset, .unset] [])) _
    refine XS.iload X56.here hx rfl (hb hby at_61) rfl ?_
    show Steps p.tables e below (T56.setTop (mkF m 63 #[.val (.int p0), .val (.int p1), .val (.int p2), .val (.int p3), .val (.int (v0_8_l4 p0)), .val (.int (v0_17_l5 p0 p1)), .val (.int (v0_26_l6 p0 p2)), .val (.int (v0_35_l7 p0 p3)), .val (.ref b50), .val (.int (v0_59_l9 p0 p1 p2 p3)), .unset, .unset, .unset, .unset] [(.int (v0_26_l6 p0 p2))])) _
    refine XS.i2l X56.here hx rfl (hb hby at_63) rfl ?_
    show Steps p.tables e below (T56.setTop (mkF m 64 #[.val (.int p0), .val (.int p1), .val (.int p2), .val (.int p3), .val (.int (v0_8_l4 p0)), .val (.int (v0_17_l5 p0 p1)), .val (.int (v0_26_l6 p0 p2)), .val (.int (v0_35_l7 p0 p3)), .val (.ref b50), .val (.int (v0_59_l9 p0 p1 p2 p3)), .unset, .unset, .unset, .unset] [(.long ((v0_26_l6 p0 p2).toInt64))])) _
    refine XS.iload X56.here hx rfl (hb hby at_64) rfl ?_
    show Steps p.tables e below (T56.setTop (mkF m 66 #[.val (.int p0), .val (.int p1), .val (.int p2), .val (.int p3), .val (.int (v0_8_l4 p0)), .val (.int (v0_17_l5 p0 p1)), .val (.int (v0_26_l6 p0 p2)), .val (.int (v0_35_l7 p0 p3)), .val (.ref b50), .val (.int (v0_59_l9 p0 p1 p2 p3)), .unset, .unset, .unset, .unset] [(.int (v0_35_l7 p0 p3)), (.long ((v0_26_l6 p0 p2).toInt64))])) _
    refine XS.i2l X56.here hx rfl (hb hby at_66) rfl ?_
    show Steps p.tables e below (T56.setTop (mkF m 67 #[.val (.int p0), .val (.int p1), .val (.int p2), .val (.int p3), .val (.int (v0_8_l4 p0)), .val (.int (v0_17_l5 p0 p1)), .val (.int (v0_26_l6 p0 p2)), .val (.int (v0_35_l7 p0 p3)), .val (.ref b50), .val (.int (v0_59_l9 p0 p1 p2 p3)), .unset, .unset, .unset, .unset] [(.long ((v0_35_l7 p0 p3).toInt64)), (.long ((v0_26_l6 p0 p2).toInt64))])) _
    refine XS.ladd X56.here hx rfl (hb hby at_67) rfl ?_
    show Steps p.tables e below (T56.setTop (mkF m 68 #[.val (.int p0), .val (.int p1), .val (.int p2), .val (.int p3), .val (.int (v0_8_l4 p0)), .val (.int (v0_17_l5 p0 p1)), .val (.int (v0_26_l6 p0 p2)), .val (.int (v0_35_l7 p0 p3)), .val (.ref b50), .val (.int (v0_59_l9 p0 p1 p2 p3)), .unset, .unset, .unset, .unset] [(.long (((v0_26_l6 p0 p2).toInt64) + ((v0_35_l7 p0 p3).toInt64)))])) _
    refine XS.iload X56.here hx rfl (hb hby at_68) rfl ?_
    show Steps p.tables e below (T56.setTop (mkF m 70 #[.val (.int p0), .val (.int p1), .val (.int p2), .val (.int p3), .val (.int (v0_8_l4 p0)), .val (.int (v0_17_l5 p0 p1)), .val (.int (v0_26_l6 p0 p2)), .val (.int (v0_35_l7 p0 p3)), .val (.ref b50), .val (.int (v0_59_l9 p0 p1 p2 p3)), .unset, .unset, .unset, .unset] [(.int (v0_17_l5 p0 p1)), (.long (((v0_26_l6 p0 p2).toInt64) + ((v0_35_l7 p0 p3).toInt64)))])) _
    refine XS.i2l X56.here hx rfl (hb hby at_70) rfl ?_
    show Steps p.tables e below (T56.setTop (mkF m 71 #[.val (.int p0), .val (.int p1), .val (.int p2), .val (.int p3), .val (.int (v0_8_l4 p0)), .val (.int (v0_17_l5 p0 p1)), .val (.int (v0_26_l6 p0 p2)), .val (.int (v0_35_l7 p0 p3)), .val (.ref b50), .val (.int (v0_59_l9 p0 p1 p2 p3)), .unset, .unset, .unset, .unset] [(.long ((v0_17_l5 p0 p1).toInt64)), (.long (((v0_26_l6 p0 p2).toInt64) + ((v0_35_l7 p0 p3).toInt64)))])) _
    refine XS.lsub X56.here hx rfl (hb hby at_71) rfl ?_
    show Steps p.tables e below (T56.setTop (mkF m 72 #[.val (.int p0), .val (.int p1), .val (.int p2), .val (.int p3), .val (.int (v0_8_l4 p0)), .val (.int (v0_17_l5 p0 p1)), .val (.int (v0_26_l6 p0 p2)), .val (.int (v0_35_l7 p0 p3)), .val (.ref b50), .val (.int (v0_59_l9 p0 p1 p2 p3)), .unset, .unset, .unset, .unset] [(.long ((((v0_26_l6 p0 p2).toInt64) + ((v0_35_l7 p0 p3).toInt64)) - ((v0_17_l5 p0 p1).toInt64)))])) _
    refine XS.lstore X56.here hx rfl (hb hby at_72) rfl (l' := #[.val (.int p0), .val (.int p1), .val (.int p2), .val (.int p3), .val (.int (v0_8_l4 p0)), .val (.int (v0_17_l5 p0 p1)), .val (.int (v0_26_l6 p0 p2)), .val (.int (v0_35_l7 p0 p3)), .val (.ref b50), .val (.int (v0_59_l9 p0 p1 p2 p3)), .val (.long (v0_72_l10 p0 p1 p2 p3)), .second, .unset, .unset]) rfl ?_
    show Steps p.tables e below (T56.setTop (mkF m 74 #[.val (.int p0), .val (.int p1), .val (.int p2), .val (.int p3), .val (.int (v0_8_l4 p0)), .val (.int (v0_17_l5 p0 p1)), .val (.int (v0_26_l6 p0 p2)), .val (.int (v0_35_l7 p0 p3)), .val (.ref b50), .val (.int (v0_59_l9 p0 p1 p2 p3)), .val (.long (v0_72_l10 p0 p1 p2 p3)), .second, .unset, .unset] [])) _
    refine XS.lload X56.here hx rfl (hb hby at_74) rfl ?_
    show Steps p.tables e below (T56.setTop (mkF m 76 #[.val (.int p0), .val (.int p1), .val (.int p2), .val (.int p3), .val (.int (v0_8_l4 p0)), .val (.int (v0_17_l5 p0 p1)), .val (.int (v0_26_l6 p0 p2)), .val (.int (v0_35_l7 p0 p3)), .val (.ref b50), .val (.int (v0_59_l9 p0 p1 p2 p3)), .val (.long (v0_72_l10 p0 p1 p2 p3)), .second, .unset, .unset] [(.long (v0_72_l10 p0 p1 p2 p3))])) _
    refine XS.iload X56.here hx rfl (hb hby at_76) rfl ?_
    show Steps p.tables e below (T56.setTop (mkF m 78 #[.val (.int p0), .val (.int p1), .val (.int p2), .val (.int p3), .val (.int (v0_8_l4 p0)), .val (.int (v0_17_l5 p0 p1)), .val (.int (v0_26_l6 p0 p2)), .val (.int (v0_35_l7 p0 p3)), .val (.ref b50), .val (.int (v0_59_l9 p0 p1 p2 p3)), .val (.long (v0_72_l10 p0 p1 p2 p3)), .second, .unset, .unset] [(.int (v0_8_l4 p0)), (.long (v0_72_l10 p0 p1 p2 p3))])) _
    refine XS.i2l X56.here hx rfl (hb hby at_78) rfl ?_
    show Steps p.tables e below (T56.setTop (mkF m 79 #[.val (.int p0), .val (.int p1), .val (.int p2), .val (.int p3), .val (.int (v0_8_l4 p0)), .val (.int (v0_17_l5 p0 p1)), .val (.int (v0_26_l6 p0 p2)), .val (.int (v0_35_l7 p0 p3)), .val (.ref b50), .val (.int (v0_59_l9 p0 p1 p2 p3)), .val (.long (v0_72_l10 p0 p1 p2 p3)), .second, .unset, .unset] [(.long ((v0_8_l4 p0).toInt64)), (.long (v0_72_l10 p0 p1 p2 p3))])) _
    refine own_lremM X56 hx rfl (hb hby at_79) rfl (own_nzL p0) ?_
    show Steps p.tables e below (T56.setTop (mkF m 80 #[.val (.int p0), .val (.int p1), .val (.int p2), .val (.int p3), .val (.int (v0_8_l4 p0)), .val (.int (v0_17_l5 p0 p1)), .val (.int (v0_26_l6 p0 p2)), .val (.int (v0_35_l7 p0 p3)), .val (.ref b50), .val (.int (v0_59_l9 p0 p1 p2 p3)), .val (.long (v0_72_l10 p0 p1 p2 p3)), .second, .unset, .unset] [(.long ((v0_72_l10 p0 p1 p2 p3) % ((v0_8_l4 p0).toInt64)))])) _
    refine XS.lstore X56.here hx rfl (hb hby at_80) rfl (l' := #[.val (.int p0), .val (.int p1), .val (.int p2), .val (.int p3), .val (.int (v0_8_l4 p0)), .val (.int (v0_17_l5 p0 p1)), .val (.int (v0_26_l6 p0 p2)), .val (.int (v0_35_l7 p0 p3)), .val (.ref b50), .val (.int (v0_59_l9 p0 p1 p2 p3)), .val (.long (v0_72_l10 p0 p1 p2 p3)), .second, .val (.long (v0_80_l12 p0 p1 p2 p3)), .second]) rfl ?_
    show Steps p.tables e below (T56.setTop (mkF m 82 #[.val (.int p0), .val (.int p1), .val (.int p2), .val (.int p3), .val (.int (v0_8_l4 p0)), .val (.int (v0_17_l5 p0 p1)), .val (.int (v0_26_l6 p0 p2)), .val (.int (v0_35_l7 p0 p3)), .val (.ref b50), .val (.int (v0_59_l9 p0 p1 p2 p3)), .val (.long (v0_72_l10 p0 p1 p2 p3)), .second, .val (.long (v0_80_l12 p0 p1 p2 p3)), .second] [])) _
    refine XS.lload X56.here hx rfl (hb hby at_82) rfl ?_
    show Steps p.tables e below (T56.setTop (mkF m 84 #[.val (.int p0), .val (.int p1), .val (.int p2), .val (.int p3), .val (.int (v0_8_l4 p0)), .val (.int (v0_17_l5 p0 p1)), .val (.int (v0_26_l6 p0 p2)), .val (.int (v0_35_l7 p0 p3)), .val (.ref b50), .val (.int (v0_59_l9 p0 p1 p2 p3)), .val (.long (v0_72_l10 p0 p1 p2 p3)), .second, .val (.long (v0_80_l12 p0 p1 p2 p3)), .second] [(.long (v0_80_l12 p0 p1 p2 p3))])) _
    refine XS.lconst X56.here hx rfl (hb hby at_84) ?_
    show Steps p.tables e below (T56.setTop (mkF m 85 #[.val (.int p0), .val (.int p1), .val (.int p2), .val (.int p3), .val (.int (v0_8_l4 p0)), .val (.int (v0_17_l5 p0 p1)), .val (.int (v0_26_l6 p0 p2)), .val (.int (v0_35_l7 p0 p3)), .val (.ref b50), .val (.int (v0_59_l9 p0 p1 p2 p3)), .val (.long (v0_72_l10 p0 p1 p2 p3)), .second, .val (.long (v0_80_l12 p0 p1 p2 p3)), .second] [(.long (0 : Int64)), (.long (v0_80_l12 p0 p1 p2 p3))])) _
    refine XS.lcmp X56.here hx rfl (hb hby at_85) rfl ?_
    suffices k59 : Steps p.tables e below (T56.setTop (mkF m 97 #[.val (.int p0), .val (.int p1), .val (.int p2), .val (.int p3), .val (.int (v0_8_l4 p0)), .val (.int (v0_17_l5 p0 p1)), .val (.int (v0_26_l6 p0 p2)), .val (.int (v0_35_l7 p0 p3)), .val (.ref b50), .val (.int (v0_59_l9 p0 p1 p2 p3)), .val (.long (v0_72_l10 p0 p1 p2 p3)), .second, .val (.long (v0_86_l12 p0 p1 p2 p3)), .second] [])) t by
      by_cases hc86_58 : (v0_80_l12 p0 p1 p2 p3) < (0 : Int64)
      · rw [(show (v0_86_l12 p0 p1 p2 p3) = (v0_95_l12 p0 p1 p2 p3) from if_pos hc86_58)] at k59
        show Steps p.tables e below (T56.setTop (mkF m 86 #[.val (.int p0), .val (.int p1), .val (.int p2), .val (.int p3), .val (.int (v0_8_l4 p0)), .val (.int (v0_17_l5 p0 p1)), .val (.int (v0_26_l6 p0 p2)), .val (.int (v0_35_l7 p0 p3)), .val (.ref b50), .val (.int (v0_59_l9 p0 p1 p2 p3)), .val (.long (v0_72_l10 p0 p1 p2 p3)), .second, .val (.long (v0_80_l12 p0 p1 p2 p3)), .second] [(.int (lcmpW (v0_80_l12 p0 p1 p2 p3) (0 : Int64)))])) _
        refine XS.ifNo X56.here hx rfl (hb hby at_86) rfl ((if0 _ _).trans (tlt ((lw_lt _ _).mpr hc86_58)).2.1) ?_
        show Steps p.tables e below (T56.setTop (mkF m 89 #[.val (.int p0), .val (.int p1), .val (.int p2), .val (.int p3), .val (.int (v0_8_l4 p0)), .val (.int (v0_17_l5 p0 p1)), .val (.int (v0_26_l6 p0 p2)), .val (.int (v0_35_l7 p0 p3)), .val (.ref b50), .val (.int (v0_59_l9 p0 p1 p2 p3)), .val (.long (v0_72_l10 p0 p1 p2 p3)), .second, .val (.long (v0_80_l12 p0 p1 p2 p3)), .second] [])) _
        refine XS.lload X56.here hx rfl (hb hby at_89) rfl ?_
        show Steps p.tables e below (T56.setTop (mkF m 91 #[.val (.int p0), .val (.int p1), .val (.int p2), .val (.int p3), .val (.int (v0_8_l4 p0)), .val (.int (v0_17_l5 p0 p1)), .val (.int (v0_26_l6 p0 p2)), .val (.int (v0_35_l7 p0 p3)), .val (.ref b50), .val (.int (v0_59_l9 p0 p1 p2 p3)), .val (.long (v0_72_l10 p0 p1 p2 p3)), .second, .val (.long (v0_80_l12 p0 p1 p2 p3)), .second] [(.long (v0_80_l12 p0 p1 p2 p3))])) _
        refine XS.iload X56.here hx rfl (hb hby at_91) rfl ?_
        show Steps p.tables e below (T56.setTop (mkF m 93 #[.val (.int p0), .val (.int p1), .val (.int p2), .val (.int p3), .val (.int (v0_8_l4 p0)), .val (.int (v0_17_l5 p0 p1)), .val (.int (v0_26_l6 p0 p2)), .val (.int (v0_35_l7 p0 p3)), .val (.ref b50), .val (.int (v0_59_l9 p0 p1 p2 p3)), .val (.long (v0_72_l10 p0 p1 p2 p3)), .second, .val (.long (v0_80_l12 p0 p1 p2 p3)), .second] [(.int (v0_8_l4 p0)), (.long (v0_80_l12 p0 p1 p2 p3))])) _
        refine XS.i2l X56.here hx rfl (hb hby at_93) rfl ?_
        show Steps p.tables e below (T56.setTop (mkF m 94 #[.val (.int p0), .val (.int p1), .val (.int p2), .val (.int p3), .val (.int (v0_8_l4 p0)), .val (.int (v0_17_l5 p0 p1)), .val (.int (v0_26_l6 p0 p2)), .val (.int (v0_35_l7 p0 p3)), .val (.ref b50), .val (.int (v0_59_l9 p0 p1 p2 p3)), .val (.long (v0_72_l10 p0 p1 p2 p3)), .second, .val (.long (v0_80_l12 p0 p1 p2 p3)), .second] [(.long ((v0_8_l4 p0).toInt64)), (.long (v0_80_l12 p0 p1 p2 p3))])) _
        refine XS.ladd X56.here hx rfl (hb hby at_94) rfl ?_
        show Steps p.tables e below (T56.setTop (mkF m 95 #[.val (.int p0), .val (.int p1), .val (.int p2), .val (.int p3), .val (.int (v0_8_l4 p0)), .val (.int (v0_17_l5 p0 p1)), .val (.int (v0_26_l6 p0 p2)), .val (.int (v0_35_l7 p0 p3)), .val (.ref b50), .val (.int (v0_59_l9 p0 p1 p2 p3)), .val (.long (v0_72_l10 p0 p1 p2 p3)), .second, .val (.long (v0_80_l12 p0 p1 p2 p3)), .second] [(.long ((v0_80_l12 p0 p1 p2 p3) + ((v0_8_l4 p0).toInt64)))])) _
        refine XS.lstore X56.here hx rfl (hb hby at_95) rfl (l' := #[.val (.int p0), .val (.int p1), .val (.int p2), .val (.int p3), .val (.int (v0_8_l4 p0)), .val (.int (v0_17_l5 p0 p1)), .val (.int (v0_26_l6 p0 p2)), .val (.int (v0_35_l7 p0 p3)), .val (.ref b50), .val (.int (v0_59_l9 p0 p1 p2 p3)), .val (.long (v0_72_l10 p0 p1 p2 p3)), .second, .val (.long (v0_95_l12 p0 p1 p2 p3)), .second]) rfl ?_
        exact k59
      · rw [(show (v0_86_l12 p0 p1 p2 p3) = (v0_80_l12 p0 p1 p2 p3) from if_neg hc86_58)] at k59
        show Steps p.tables e below (T56.setTop (mkF m 86 #[.val (.int p0), .val (.int p1), .val (.int p2), .val (.int p3), .val (.int (v0_8_l4 p0)), .val (.int (v0_17_l5 p0 p1)), .val (.int (v0_26_l6 p0 p2)), .val (.int (v0_35_l7 p0 p3)), .val (.ref b50), .val (.int (v0_59_l9 p0 p1 p2 p3)), .val (.long (v0_72_l10 p0 p1 p2 p3)), .second, .val (.long (v0_80_l12 p0 p1 p2 p3)), .second] [(.int (lcmpW (v0_80_l12 p0 p1 p2 p3) (0 : Int64)))])) _
        refine XS.ifYes X56.here hx rfl (pc0 := 86) (pc' := 97) rfl (hb hby at_86) rfl ((if0 _ _).trans (flt (fun q => hc86_58 ((lw_lt _ _).mp q))).2.1) (by decide) (by decide) ?_
        exact k59
    show Steps p.tables e below (T56.setTop (mkF m 97 #[.val (.int p0), .val (.int p1), .val (.int p2), .val (.int p3), .val (.int (v0_8_l4 p0)), .val (.int (v0_17_l5 p0 p1)), .val (.int (v0_26_l6 p0 p2)), .val (.int (v0_35_l7 p0 p3)), .val (.ref b50), .val (.int (v0_59_l9 p0 p1 p2 p3)), .val (.long (v0_72_l10 p0 p1 p2 p3)), .second, .val (.long (v0_86_l12 p0 p1 p2 p3)), .second] [])) _
    refine XS.iload X56.here hx rfl (hb hby at_97) rfl ?_
    show Steps p.tables e below (T56.setTop (mkF m 99 #[.val (.int p0), .val (.int p1), .val (.int p2), .val (.int p3), .val (.int (v0_8_l4 p0)), .val (.int (v0_17_l5 p0 p1)), .val (.int (v0_26_l6 p0 p2)), .val (.int (v0_35_l7 p0 p3)), .val (.ref b50), .val (.int (v0_59_l9 p0 p1 p2 p3)), .val (.long (v0_72_l10 p0 p1 p2 p3)), .second, .val (.long (v0_86_l12 p0 p1 p2 p3)), .second] [(.int (v0_59_l9 p0 p1 p2 p3))])) _
    refine XS.i2l X56.here hx rfl (hb hby at_99) rfl ?_
    show Steps p.tables e below (T56.setTop (mkF m 100 #[.val (.int p0), .val (.int p1), .val (.int p2), .val (.int p3), .val (.int (v0_8_l4 p0)), .val (.int (v0_17_l5 p0 p1)), .val (.int (v0_26_l6 p0 p2)), .val (.int (v0_35_l7 p0 p3)), .val (.ref b50), .val (.int (v0_59_l9 p0 p1 p2 p3)), .val (.long (v0_72_l10 p0 p1 p2 p3)), .second, .val (.long (v0_86_l12 p0 p1 p2 p3)), .second] [(.long ((v0_59_l9 p0 p1 p2 p3).toInt64))])) _
    refine XS.lload X56.here hx rfl (hb hby at_100) rfl ?_
    show Steps p.tables e below (T56.setTop (mkF m 102 #[.val (.int p0), .val (.int p1), .val (.int p2), .val (.int p3), .val (.int (v0_8_l4 p0)), .val (.int (v0_17_l5 p0 p1)), .val (.int (v0_26_l6 p0 p2)), .val (.int (v0_35_l7 p0 p3)), .val (.ref b50), .val (.int (v0_59_l9 p0 p1 p2 p3)), .val (.long (v0_72_l10 p0 p1 p2 p3)), .second, .val (.long (v0_86_l12 p0 p1 p2 p3)), .second] [(.long (v0_86_l12 p0 p1 p2 p3)), (.long ((v0_59_l9 p0 p1 p2 p3).toInt64))])) _
    refine XS.lcmp X56.here hx rfl (hb hby at_102) rfl ?_
    suffices k61 : Steps p.tables e below (T56.setTop (mkF m 111 #[.val (.int p0), .val (.int p1), .val (.int p2), .val (.int p3), .val (.int (v0_8_l4 p0)), .val (.int (v0_17_l5 p0 p1)), .val (.int (v0_26_l6 p0 p2)), .val (.int (v0_35_l7 p0 p3)), .val (.ref b50), .val (.int (v0_59_l9 p0 p1 p2 p3)), .val (.long (v0_72_l10 p0 p1 p2 p3)), .second, .val (.long (v0_86_l12 p0 p1 p2 p3)), .second] [(.int (v0_103_s0 p0 p1 p2 p3))])) t by
      by_cases hc103_60 : ((v0_59_l9 p0 p1 p2 p3).toInt64) = (v0_86_l12 p0 p1 p2 p3)
      · rw [(show (v0_103_s0 p0 p1 p2 p3) = (1 : Int32) from if_pos hc103_60)] at k61
        show Steps p.tables e below (T56.setTop (mkF m 103 #[.val (.int p0), .val (.int p1), .val (.int p2), .val (.int p3), .val (.int (v0_8_l4 p0)), .val (.int (v0_17_l5 p0 p1)), .val (.int (v0_26_l6 p0 p2)), .val (.int (v0_35_l7 p0 p3)), .val (.ref b50), .val (.int (v0_59_l9 p0 p1 p2 p3)), .val (.long (v0_72_l10 p0 p1 p2 p3)), .second, .val (.long (v0_86_l12 p0 p1 p2 p3)), .second] [(.int (lcmpW ((v0_59_l9 p0 p1 p2 p3).toInt64) (v0_86_l12 p0 p1 p2 p3)))])) _
        refine XS.ifNo X56.here hx rfl (hb hby at_103) rfl ((if0 _ _).trans (teq ((lw_eq _ _).mpr hc103_60)).2) ?_
        show Steps p.tables e below (T56.setTop (mkF m 106 #[.val (.int p0), .val (.int p1), .val (.int p2), .val (.int p3), .val (.int (v0_8_l4 p0)), .val (.int (v0_17_l5 p0 p1)), .val (.int (v0_26_l6 p0 p2)), .val (.int (v0_35_l7 p0 p3)), .val (.ref b50), .val (.int (v0_59_l9 p0 p1 p2 p3)), .val (.long (v0_72_l10 p0 p1 p2 p3)), .second, .val (.long (v0_86_l12 p0 p1 p2 p3)), .second] [])) _
        refine XS.iconst X56.here hx rfl (hb hby at_106) ?_
        show Steps p.tables e below (T56.setTop (mkF m 107 #[.val (.int p0), .val (.int p1), .val (.int p2), .val (.int p3), .val (.int (v0_8_l4 p0)), .val (.int (v0_17_l5 p0 p1)), .val (.int (v0_26_l6 p0 p2)), .val (.int (v0_35_l7 p0 p3)), .val (.ref b50), .val (.int (v0_59_l9 p0 p1 p2 p3)), .val (.long (v0_72_l10 p0 p1 p2 p3)), .second, .val (.long (v0_86_l12 p0 p1 p2 p3)), .second] [(.int (1 : Int32))])) _
        refine XS.goto X56.here hx rfl (pc0 := 107) (pc' := 111) rfl (hb hby at_107) (by decide) (by decide) ?_
        exact k61
      · rw [(show (v0_103_s0 p0 p1 p2 p3) = (0 : Int32) from if_neg hc103_60)] at k61
        show Steps p.tables e below (T56.setTop (mkF m 103 #[.val (.int p0), .val (.int p1), .val (.int p2), .val (.int p3), .val (.int (v0_8_l4 p0)), .val (.int (v0_17_l5 p0 p1)), .val (.int (v0_26_l6 p0 p2)), .val (.int (v0_35_l7 p0 p3)), .val (.ref b50), .val (.int (v0_59_l9 p0 p1 p2 p3)), .val (.long (v0_72_l10 p0 p1 p2 p3)), .second, .val (.long (v0_86_l12 p0 p1 p2 p3)), .second] [(.int (lcmpW ((v0_59_l9 p0 p1 p2 p3).toInt64) (v0_86_l12 p0 p1 p2 p3)))])) _
        refine XS.ifYes X56.here hx rfl (pc0 := 103) (pc' := 110) rfl (hb hby at_103) rfl ((if0 _ _).trans (feq (fun q => hc103_60 ((lw_eq _ _).mp q))).2) (by decide) (by decide) ?_
        show Steps p.tables e below (T56.setTop (mkF m 110 #[.val (.int p0), .val (.int p1), .val (.int p2), .val (.int p3), .val (.int (v0_8_l4 p0)), .val (.int (v0_17_l5 p0 p1)), .val (.int (v0_26_l6 p0 p2)), .val (.int (v0_35_l7 p0 p3)), .val (.ref b50), .val (.int (v0_59_l9 p0 p1 p2 p3)), .val (.long (v0_72_l10 p0 p1 p2 p3)), .second, .val (.long (v0_86_l12 p0 p1 p2 p3)), .second] [])) _
        refine XS.iconst X56.here hx rfl (hb hby at_110) ?_
        exact k61
    exact kk)
  obtain ⟨fs, hr, hrun, hended, hW, hsame⟩ := X56.leave (v := some (.int (nar .boolean (v0_103_s0 p0 p1 p2 p3)))) (fun h => by rw [Bd.returns] at h; cases h)
  have hv : (nar .boolean (v0_103_s0 p0 p1 p2 p3)) = (nar .boolean (v0_103_s0 p0 p1 p2 p3)) := rfl
  have hone : (nar .boolean (v0_103_s0 p0 p1 p2 p3)) = 1 := hv.symm.trans (own_law p0 p1 p2 p3)
  refine ⟨_, _, k62 _ ?_, hrun, hended, _, _, rfl, ?_, ⟨_, rfl⟩, hW, hsame.mono (by decide) (by decide)⟩
  · show Steps p.tables e below (T56.setTop (mkF m 111 #[.val (.int p0), .val (.int p1), .val (.int p2), .val (.int p3), .val (.int (v0_8_l4 p0)), .val (.int (v0_17_l5 p0 p1)), .val (.int (v0_26_l6 p0 p2)), .val (.int (v0_35_l7 p0 p3)), .val (.ref b50), .val (.int (v0_59_l9 p0 p1 p2 p3)), .val (.long (v0_72_l10 p0 p1 p2 p3)), .second, .val (.long (v0_86_l12 p0 p1 p2 p3)), .second] [(.int (v0_103_s0 p0 p1 p2 p3))])) _
    exact retN X56 hx (t := .boolean) Bd.returns (by simp) (hb hby at_111) hr
  · show Q0 Z p0 p1 p2 p3 h0 n0 _ T56.heap _
    rw [e56]
    exact ⟨congrArg (fun z => some (Value.int z)) hone, N56⟩
set_option maxRecDepth 65536 in
set_option maxHeartbeats 40000000 in
theorem comes_1 {Post : Tables → Env → Array Value → State → Outcome → State → Prop} (hpost : ∀ tb e args s v u, (limb_1_1.after args s (.returned v) u = true ∧ limb_1_2.after args s (.returned v) u = true ∧ True) → FrameEnd s (.returned v) u (Jvm.fieldLocs frame_1_writes args s ++ Jvm.arrayLocs frame_1_arrays args s ++ Jvm.staticLocs frame_1_statics s) 16 128 → Post tb e args s (.returned v) u) :
    ArmFor flags0 classFile x code maxLocals ret World_1 tables_1 room_1 Calls_1 rest_1 Pre_1 Post := by
  intro l hfl _ _ p e ha hc hk s m args below hf hA hF happ hP
  obtain ⟨hcalls, hrest, hpre⟩ := hP
  obtain ⟨-, -, -, hnamed, -, -, -, hat⟩ := (Spec.applies_iff hf).mp happ
  obtain ⟨hg, hn⟩ := and_e (Cond.before_iff.mp (show (Jvm.Cond.and given_1 narrow_1).before args s = true from hpre))
  obtain ⟨hcnt, hg0⟩ := and_e hg
  obtain ⟨ha0, hg1⟩ := and_e hg0
  obtain ⟨ha1, hg2⟩ := and_e hg1
  obtain ⟨ha2, hg3⟩ := and_e hg2
  have ha3 := hg3
  obtain ⟨w0, w1, w2, w3, rfl⟩ : ∃ w0 w1 w2 w3 : Value, args = #[w0, w1, w2, w3] := by
    have hs : args.size = 4 := by simpa [Cond.value, given_1] using hcnt
    obtain ⟨L⟩ := args
    match L, hs with
    | [w0, w1, w2, w3], _ => exact ⟨w0, w1, w2, w3, rfl⟩
  have hw := fun d (hd : d ∈ tables_1) => atoms_spec (ws := Jvm.Cond.code x code maxLocals ret :: tables_1) hat d (List.mem_cons_of_mem _ hd)
  have hfit : Fit s := fun {y c} hc i hi => by
    obtain ⟨ha, rfl⟩ := Array.getElem?_eq_some_iff.mp hc
    have q := List.all_eq_true.mp ((Array.all_eq_true_iff_forall_mem.mp hF) _ (Array.getElem_mem ha)) i (List.mem_range.mpr hi)
    simpa [Array.getElem?_eq_getElem hi] using q
  obtain ⟨p0, ea0⟩ := is_v ha0
  obtain rfl : w0 = (.int p0) := Option.some.inj ea0
  obtain ⟨p1, ea1⟩ := is_v ha1
  obtain rfl : w1 = (.int p1) := Option.some.inj ea1
  obtain ⟨p2, ea2⟩ := is_v ha2
  obtain rfl : w2 = (.int p2) := Option.some.inj ea2
  obtain ⟨p3, ea3⟩ := is_v ha3
  obtain rfl : w3 = (.int p3) := Option.some.inj ea3
  obtain ⟨n, o, h1, h2, h3, _, L, rfl, ⟨rfl, N⟩, hq⟩ := rm0 l s _ hw tables_1 p0 p1 p2 p3 s.heap s.heap.size (Nat.le_refl _)  p e ha hc hk s m _ below hf ((Spec.applies_iff_loose hf).mp happ).1 ⟨rfl, State.Warmed39.refl s, rfl⟩ trivial
  refine ⟨n, _, h1, h2, h3, hpost _ _ _ _ _ _ ⟨Cond.after_iff.mpr rfl, Cond.after_iff.mpr (eq_i res_at (Term.int_eval (1)) rfl), trivial⟩ ⟨hq.1, hq.2.1, (hq.2.2.sift fun y hy => Or.inr (N y hy)).mono (by decide) (by decide)⟩⟩
theorem main_1_1 : Claimed_1_1 := comes_1 fun _ _ _ _ _ _ h hF => ⟨h.1, hF⟩
theorem main_1_2 : Claimed_1_2 := comes_1 fun _ _ _ _ _ _ h hF => ⟨h.2.1, hF⟩
end Jvm.Pilot.@@N@@
namespace Jvm.Pilot.@@N@@
open Jvm Jvm.ClassFile Sem Op Lib Jvm.Free Jvm.Stand Jvm.Pilot.@@N@@.Jvm.D
/-! MADE BY PROGRAM (witnessworld.py) out of the Statement's table words and the real class files: 10 classes; the members and pool entries that the words name. The judged class is class 1, her method 1. -/
namespace start1
open Jvm.ClassFile
def u (s : String) : CpInfo := .utf8 (stringToUtf16 s)
/-- a pool by its gaps: so many unusable entries, then the entry; so many at the end -/
def gap : Nat → List CpInfo → List CpInfo
  | 0, r => r
  | n + 1, r => .unusable :: gap n r
def poolList (es : List (Nat × CpInfo)) (last : Nat) : List CpInfo := es.foldr (fun e r => gap e.1 (e.2 :: r)) (gap last [])
def pool (es : List (Nat × CpInfo)) (last : Nat) : Array CpInfo := ⟨poolList es last⟩
def fileOf (pool : Array CpInfo) (this : Nat) (attrs : Array Attribute := #[]) (ms : Array MethodInfo := #[]) (fl : Nat := 33) (sup : Nat := 0) (ifs : Array Nat := #[]) (fds : Array FieldInfo := #[]) : ClassFile where
  minorVersion := 0
  majorVersion := 65
  constantPool := pool
  accessFlags := fl
  thisClass := this
  superClass := sup
  interfaces := ifs
  fields := fds
  methods := ms
  attributes := attrs
def plain (name : String) (sup : Option ClassId) : Class where
  name := name
  kind := .ordinary
  loader := none
  accessFlags := 33
  super := sup
  interfaces := #[]
  cf := none
  fields := #[]
  methods := #[]
  instanceTypes := #[]
  staticTypes := #[]
  resolved := #[]
  callSites := []
  init := .initialized
  statics := none
  mirror := none

def pool0 : Array CpInfo := pool [(5, u "<init>"), (0, u "()V"), (1, .class_ 10), (1, u "java/lang/Object")] 113

def k0c0 : Code := { maxStack := 0, maxLocals := 1, code := object_method_1_code, exceptionTable := #[], attributes := #[] }
def k0m0 : Method := { name := "<init>", desc := "()V", sig := { parameters := [], returnType := none }, accessFlags := 1, code := some k0c0 }
/-- java/lang/Object -/
def k0 : Class := { plain "java/lang/Object" none with
  accessFlags := 33
  interfaces := #[]
  cf := some (fileOf pool0 8 #[] #[{ accessFlags := 1, nameIndex := 5, descriptorIndex := 6, attributes := #[] }] 33 0 #[] #[])
  fields := #[]
  methods := #[k0m0]
  instanceTypes := #[]
  staticTypes := #[]
  resolved := Array.replicate 124 none
  statics := none }

def pool1 : Array CpInfo := pool [(2, .class_ 4), (1, u "java/lang/Object"), (0, u "<init>"), (0, u "()V"), (0, .integer 2147483647), (0, .methodref 9 10), (0, .class_ 11), (0, .nameAndType 12 13), (0, u "java/lang/Math"), (0, u "max"), (0, u "(II)I"), (0, .class_ 15), (0, u "com/example/lattice_traffic/latticetraffic/Site"), (0, .methodref 14 17), (0, .nameAndType 5 18), (0, u "(II)V"), (0, .methodref 14 20), (0, .nameAndType 21 13), (0, u "pastAfter"), (0, .class_ 23), (0, u "com/example/lattice_traffic/latticetraffic/SitePastAfterPinLaw"), (2, u "law"), (0, u "(IIII)Z")] 3

def k1m0 : Method := { name := "<init>", desc := "()V", sig := { parameters := [], returnType := none }, accessFlags := 2, code := none }
def k1c1 : Code := { maxStack := 4, maxLocals := 14, code := code, exceptionTable := #[], attributes := #[] }
def k1m1 : Method := { name := "law", desc := "(IIII)Z", sig := { parameters := [.int, .int, .int, .int], returnType := some .boolean }, accessFlags := 9, code := some k1c1 }
/-- com/example/lattice_traffic/latticetraffic/SitePastAfterPinLaw -/
def k1 : Class := { plain "com/example/lattice_traffic/latticetraffic/SitePastAfterPinLaw" (some 0) with
  accessFlags := 49
  interfaces := #[]
  cf := some (fileOf pool1 22 #[] #[{ accessFlags := 2, nameIndex := 5, descriptorIndex := 6, attributes := #[] }, { accessFlags := 9, nameIndex := 26, descriptorIndex := 27, attributes := #[] }] 49 2 #[] #[])
  fields := #[]
  methods := #[k1m0, k1m1]
  instanceTypes := #[]
  staticTypes := #[]
  resolved := Array.replicate 31 none
  statics := none }

def pool2 : Array CpInfo := pool [(1, .class_ 2), (0, u "java/lang/Math"), (1, .class_ 6), (1, u "java/lang/Object"), (0, u "<init>"), (0, u "()V"), (89, .class_ 100), (1, u "java/lang/Math$RandomNumberGeneratorHolder"), (71, u "negativeZeroFloatBits"), (0, u "J"), (2, u "negativeZeroDoubleBits"), (21, u "max"), (46, u "$assertionsDisabled"), (0, u "Z"), (88, u "(II)I"), (2, u "twoToTheDoubleScaleDown"), (0, u "D"), (4, u "twoToTheDoubleScaleUp"), (9, u "E"), (3, u "PI"), (2, u "TAU"), (2, u "DEGREES_TO_RADIANS"), (0, u "RADIANS_TO_DEGREES")] 94

def k2m0 : Method := { name := "<init>", desc := "()V", sig := { parameters := [], returnType := none }, accessFlags := 2, code := none }
def k2c1 : Code := { maxStack := 2, maxLocals := 2, code := jdk_29_method_65_code, exceptionTable := #[], attributes := #[] }
def k2m1 : Method := { name := "max", desc := "(II)I", sig := { parameters := [.int, .int], returnType := some .int }, accessFlags := 9, code := some k2c1 }
/-- java/lang/Math -/
def k2 : Class := { plain "java/lang/Math" (some 0) with
  accessFlags := 49
  interfaces := #[]
  cf := some (fileOf pool2 1 #[.nestMembers #[98]] #[{ accessFlags := 2, nameIndex := 7, descriptorIndex := 8, attributes := #[] }, { accessFlags := 9, nameIndex := 198, descriptorIndex := 335, attributes := #[] }] 49 4 #[] #[{ accessFlags := 25, nameIndex := 354, descriptorIndex := 339, attributes := #[] }, { accessFlags := 25, nameIndex := 358, descriptorIndex := 339, attributes := #[] }, { accessFlags := 25, nameIndex := 361, descriptorIndex := 339, attributes := #[] }, { accessFlags := 26, nameIndex := 364, descriptorIndex := 339, attributes := #[] }, { accessFlags := 26, nameIndex := 365, descriptorIndex := 339, attributes := #[] }, { accessFlags := 26, nameIndex := 172, descriptorIndex := 173, attributes := #[] }, { accessFlags := 26, nameIndex := 176, descriptorIndex := 173, attributes := #[] }, { accessFlags := 8, nameIndex := 344, descriptorIndex := 339, attributes := #[] }, { accessFlags := 8, nameIndex := 338, descriptorIndex := 339, attributes := #[] }, { accessFlags := 4120, nameIndex := 245, descriptorIndex := 246, attributes := #[] }])
  fields := #[{ name := "E", type := .double, accessFlags := 25, slot := 0, constantValue := 0 }, { name := "PI", type := .double, accessFlags := 25, slot := 1, constantValue := 0 }, { name := "TAU", type := .double, accessFlags := 25, slot := 2, constantValue := 0 }, { name := "DEGREES_TO_RADIANS", type := .double, accessFlags := 26, slot := 3, constantValue := 0 }, { name := "RADIANS_TO_DEGREES", type := .double, accessFlags := 26, slot := 4, constantValue := 0 }, { name := "negativeZeroFloatBits", type := .long, accessFlags := 26, slot := 5, constantValue := 0 }, { name := "negativeZeroDoubleBits", type := .long, accessFlags := 26, slot := 6, constantValue := 0 }, { name := "twoToTheDoubleScaleUp", type := .double, accessFlags := 8, slot := 7, constantValue := 0 }, { name := "twoToTheDoubleScaleDown", type := .double, accessFlags := 8, slot := 8, constantValue := 0 }, { name := "$assertionsDisabled", type := .boolean, accessFlags := 4120, slot := 9, constantValue := 0 }]
  methods := #[k2m0, k2m1]
  instanceTypes := #[]
  staticTypes := #[.double, .double, .double, .double, .double, .long, .long, .double, .double, .boolean]
  resolved := Array.replicate 460 none
  statics := none }

def pool3 : Array CpInfo := pool [(1, .methodref 2 3), (0, .class_ 4), (0, .nameAndType 5 6), (0, u "java/lang/Object"), (0, u "<init>"), (0, u "()V"), (9, .fieldref 17 18), (0, .class_ 19), (0, .nameAndType 20 21), (0, u "com/example/lattice_traffic/latticetraffic/Site"), (0, u "cells"), (0, u "I"), (0, .fieldref 17 23), (0, .nameAndType 24 21), (0, u "cell"), (2, u "pastAfter"), (0, u "(II)I"), (0, u "(II)V")] 22

def k3c0 : Code := { maxStack := 4, maxLocals := 3, code := prog_6_method_1_code, exceptionTable := #[], attributes := #[] }
def k3m0 : Method := { name := "<init>", desc := "(II)V", sig := { parameters := [.int, .int], returnType := none }, accessFlags := 0, code := some k3c0 }
def k3c1 : Code := { maxStack := 2, maxLocals := 5, code := prog_6_method_2_code, exceptionTable := #[], attributes := #[] }
def k3m1 : Method := { name := "pastAfter", desc := "(II)I", sig := { parameters := [.int, .int], returnType := some .int }, accessFlags := 0, code := some k3c1 }
/-- com/example/lattice_traffic/latticetraffic/Site -/
def k3 : Class := { plain "com/example/lattice_traffic/latticetraffic/Site" (some 0) with
  accessFlags := 48
  interfaces := #[]
  cf := some (fileOf pool3 17 #[] #[{ accessFlags := 0, nameIndex := 5, descriptorIndex := 29, attributes := #[] }, { accessFlags := 0, nameIndex := 27, descriptorIndex := 28, attributes := #[] }] 48 2 #[] #[{ accessFlags := 18, nameIndex := 20, descriptorIndex := 21, attributes := #[] }, { accessFlags := 18, nameIndex := 24, descriptorIndex := 21, attributes := #[] }])
  fields := #[{ name := "cells", type := .int, accessFlags := 18, slot := 0, constantValue := 0 }, { name := "cell", type := .int, accessFlags := 18, slot := 1, constantValue := 0 }]
  methods := #[k3m0, k3m1]
  instanceTypes := #[.int, .int]
  staticTypes := #[]
  resolved := Array.replicate 52 none
  statics := none }

def pool4 : Array CpInfo := pool [(1, u "java/lang/Cloneable"), (0, .class_ 1), (0, u "java/lang/Object"), (0, .class_ 3)] 3

/-- java/lang/Cloneable -/
def k4 : Class := { plain "java/lang/Cloneable" (some 0) with
  accessFlags := 1537
  interfaces := #[]
  cf := some (fileOf pool4 2 #[] #[] 1537 4 #[] #[])
  fields := #[]
  methods := #[]
  instanceTypes := #[]
  staticTypes := #[]
  resolved := Array.replicate 8 none
  statics := none }

def pool5 : Array CpInfo := pool [(1, u "java/io/Serializable"), (0, .class_ 1), (0, u "java/lang/Object"), (0, .class_ 3)] 3

/-- java/io/Serializable -/
def k5 : Class := { plain "java/io/Serializable" (some 0) with
  accessFlags := 1537
  interfaces := #[]
  cf := some (fileOf pool5 2 #[] #[] 1537 4 #[] #[])
  fields := #[]
  methods := #[]
  instanceTypes := #[]
  staticTypes := #[]
  resolved := Array.replicate 8 none
  statics := none }

/-- the primitive byte -/
def k6 : Class := { plain "byte" none with kind := .primitive 'B', accessFlags := 0x411 }
/-- [B -/
def k7 : Class := { plain "[B" (some 0) with kind := .array 6 .byte, interfaces := #[4, 5], accessFlags := 1041 }

/-- the primitive int -/
def k8 : Class := { plain "int" none with kind := .primitive 'I', accessFlags := 0x411 }
/-- [I -/
def k9 : Class := { plain "[I" (some 0) with kind := .array 8 .int, interfaces := #[4, 5], accessFlags := 1041 }

def heap : Heap := #[]
def classes : Array Class := #[k0, k1, k2, k3, k4, k5, k6, k7, k8, k9]
def interned : List (Array UInt16 × Addr) := []
def slotsUsed : Nat := 0
def theMethod : MethodId := ⟨1, 1⟩
def args0 : Array Value := #[.int 1, .int 2, .int 3, .int 4]
def aboutOver (below : List Frame) : State where
  vm := { classes := classes, interned := interned.toArray }
  heap := heap
  slotsUsed := slotsUsed
  threads := #[{ frames := .invoking theMethod args0 :: below }]
def below0 : List Frame := [.native { method := ⟨0, 0⟩, args := #[] }]
def about1 : State := aboutOver below0
def p0 : Program := .bare "" "" ""
def e0 : Env := launch0.env 0 0 0
theorem w_frames : about1.frames = Frame.invoking theMethod args0 :: below0 := rfl
set_option maxRecDepth 65536 in
theorem w_args : argsFit about1.vm theMethod args0 = true := by decide +kernel
set_option maxRecDepth 65536 in
theorem w_heap : heapFits about1 = true := by decide +kernel
set_option maxRecDepth 65536 in
theorem w_runnable : about1.curStatus? = some .runnable := by decide +kernel
set_option maxRecDepth 65536 in
theorem w_alone : about1.alone = true := by decide +kernel
set_option maxRecDepth 65536 in
theorem w_named : about1.methodNamed? x = some theMethod := by decide +kernel
set_option maxRecDepth 65536 in
theorem w_hears : about1.hears theMethod below0 = true := by decide +kernel
set_option maxRecDepth 65536 in
theorem w_ripe : about1.ripe theMethod args0 below0 = true := by decide +kernel
theorem w_running : about1.status = .running := rfl
set_option maxRecDepth 65536 in
theorem w_room : about1.hasRoom e0.platform room_1 = true :=
  launch0.hasRoom_least _ room_1 (by decide +kernel) (by decide +kernel) (by decide +kernel) (by decide +kernel) (by decide +kernel) (by decide +kernel)
theorem allAtoms_all (ts : List Jvm.Cond) (a : Array Jvm.Value) (st : Jvm.State) : (allAtoms ts).before a st = ts.all (fun c => c.before a st) := by
  induction ts with
  | nil => rfl
  | cons c t ih =>
    show (Jvm.Cond.and c (allAtoms t)).before a st = _
    rw [Jvm.Cond.before_and, ih, List.all_cons]
def words1 : List Jvm.Cond := Jvm.Cond.code x code maxLocals ret :: tables_1
/-- a 'code' word, met by the world's own term for the bytes: nothing is compared byte by byte -/
theorem code_word {y : MethodName} {bytes : ByteArray} {mx : Nat} {rt : Option FieldType} {a : Array Value} {s : State} {m : MethodId} {meth : Method} {c : Code} (h1 : s.methodNamed? y = some m) (h2 : s.vm.method? m = some meth) (h3 : meth.code = some c) (h4 : c.code = bytes)
    (h5 : (c.maxLocals == mx && c.exceptionTable.isEmpty && decide (c.maxStack ≤ mostOperands) && decide (meth.sig.returnType = rt) && !meth.locks && decide (parseMethodDescriptor y.desc = some meth.sig)) = true) : (Jvm.Cond.code y bytes mx rt).before a s = true := by
  simp only [Bool.and_eq_true, beq_iff_eq, Bool.not_eq_true', decide_eq_true_eq] at h5
  obtain ⟨⟨⟨⟨⟨g1, g2⟩, g3⟩, g4⟩, g5⟩, g6⟩ := h5
  simp [Cond.before, Cond.holds, Cond.value, h1, h2, h3, h4, g1, g2, g3, g4, g5, g6]
def isCode : Jvm.Cond → Bool
  | .code _ _ _ _ => true
  | _ => false
theorem all_split {L : List Jvm.Cond} {P : Jvm.Cond → Bool} (h1 : L.all (fun c => isCode c || P c) = true) (h2 : ∀ c ∈ L.filter isCode, P c = true) : L.all P = true := by
  refine List.all_eq_true.mpr fun c hc => ?_
  have h := List.all_eq_true.mp h1 c hc
  rcases Bool.eq_false_or_eq_true (isCode c) with hi | hi
  · exact h2 c (List.mem_filter.mpr ⟨hc, hi⟩)
  · simpa [hi] using h
set_option maxRecDepth 65536 in
theorem w_c0 : (Jvm.Cond.code x code maxLocals ret).before args0 about1 = true := code_word (m := ⟨1, 1⟩) (meth := k1m1) (c := k1c1) (by decide +kernel) rfl rfl rfl (by decide +kernel)
set_option maxRecDepth 65536 in
theorem w_c1 : (Jvm.Cond.code ({ cls := "java/lang/Math", name := "max", desc := "(II)I" } : Jvm.MethodName) jdk_29_method_65_code (2 : Nat) (Option.some Jvm.ClassFile.FieldType.int)).before args0 about1 = true := code_word (m := ⟨2, 1⟩) (meth := k2m1) (c := k2c1) (by decide +kernel) rfl rfl rfl (by decide +kernel)
set_option maxRecDepth 65536 in
theorem w_c2 : (Jvm.Cond.code ({ cls := "com/example/lattice_traffic/latticetraffic/Site", name := "<init>", desc := "(II)V" } : Jvm.MethodName) prog_6_method_1_code (3 : Nat) (Option.none : Option Jvm.ClassFile.FieldType)).before args0 about1 = true := code_word (m := ⟨3, 0⟩) (meth := k3m0) (c := k3c0) (by decide +kernel) rfl rfl rfl (by decide +kernel)
set_option maxRecDepth 65536 in
theorem w_c3 : (Jvm.Cond.code ({ cls := "java/lang/Object", name := "<init>", desc := "()V" } : Jvm.MethodName) object_method_1_code (1 : Nat) (Option.none : Option Jvm.ClassFile.FieldType)).before args0 about1 = true := code_word (m := ⟨0, 0⟩) (meth := k0m0) (c := k0c0) (by decide +kernel) rfl rfl rfl (by decide +kernel)
set_option maxRecDepth 65536 in
theorem w_c4 : (Jvm.Cond.code ({ cls := "com/example/lattice_traffic/latticetraffic/Site", name := "pastAfter", desc := "(II)I" } : Jvm.MethodName) prog_6_method_2_code (5 : Nat) (Option.some Jvm.ClassFile.FieldType.int)).before args0 about1 = true := code_word (m := ⟨3, 1⟩) (meth := k3m1) (c := k3c1) (by decide +kernel) rfl rfl rfl (by decide +kernel)
def codes1 : List Jvm.Cond := [Jvm.Cond.code x code maxLocals ret, Jvm.Cond.code ({ cls := "java/lang/Math", name := "max", desc := "(II)I" } : Jvm.MethodName) jdk_29_method_65_code (2 : Nat) (Option.some Jvm.ClassFile.FieldType.int), Jvm.Cond.code ({ cls := "com/example/lattice_traffic/latticetraffic/Site", name := "<init>", desc := "(II)V" } : Jvm.MethodName) prog_6_method_1_code (3 : Nat) (Option.none : Option Jvm.ClassFile.FieldType), Jvm.Cond.code ({ cls := "java/lang/Object", name := "<init>", desc := "()V" } : Jvm.MethodName) object_method_1_code (1 : Nat) (Option.none : Option Jvm.ClassFile.FieldType), Jvm.Cond.code ({ cls := "com/example/lattice_traffic/latticetraffic/Site", name := "pastAfter", desc := "(II)I" } : Jvm.MethodName) prog_6_method_2_code (5 : Nat) (Option.some Jvm.ClassFile.FieldType.int)]
set_option maxRecDepth 65536 in
theorem codes_eq : words1.filter isCode = codes1 := rfl
theorem w_codes : ∀ c ∈ words1.filter isCode, c.before args0 about1 = true := by
  rw [codes_eq]
  intro c hc
  simp only [codes1, List.mem_cons, List.not_mem_nil, or_false] at hc
  rcases hc with rfl | rfl | rfl | rfl | rfl
  · exact w_c0
  · exact w_c1
  · exact w_c2
  · exact w_c3
  · exact w_c4
set_option maxRecDepth 65536 in
theorem w_t1 : words1.all (fun c => isCode c || c.before args0 about1) = true := by decide +kernel
theorem w_tables : (allAtoms (Jvm.Cond.code x code maxLocals ret :: tables_1)).before args0 about1 = true := by
  rw [allAtoms_all]
  show words1.all (fun c => c.before args0 about1) = true
  refine all_split ?_ w_codes
  rw [w_t1]
set_option maxRecDepth 65536 in
theorem w_case : (Jvm.Cond.and given_1 narrow_1).before args0 about1 = true := by decide +kernel
theorem w_applies : (headSpec (Jvm.Cond.code x code maxLocals ret :: tables_1) room_1).applies x e0.platform about1 = true :=
  (Spec.applies_iff w_frames).mpr ⟨w_running, w_runnable, w_alone, w_named, w_hears, w_ripe, w_room, w_tables⟩
theorem atStart : AtStart classFile x code maxLocals ret World_1 tables_1 room_1 Calls_1 rest_1 Pre_1 launch0 p0 e0 about1 theMethod args0 below0 :=
  ⟨lists_1, trivial, launch0.admits_env _ _ _, launch0.least_env, fairChoices_fair.cas, fairChoices_fair.clock, w_frames, w_args, w_heap, w_applies, trivial, trivial, w_case⟩
end start1
theorem witness_1 : WitnessClaimed_1 := ⟨start1.p0, start1.e0, start1.about1, start1.theMethod, start1.args0, start1.below0, start1.atStart⟩
end Jvm.Pilot.@@N@@
