import JvmDerived
import JvmDerived.Pilot.@@N@@Statement
import JvmDerived.Pilot.@@N@@Code
set_option linter.unusedVariables false
set_option linter.unusedSimpArgs false
namespace Jvm.RoadKit
open Sem ClassFile Op Lib Jvm.Stand Jvm.Free Jvm.LawKit
section New
variable {p : Program} {l : Launch} {e : Env} {R : Room} {s : State} {m : MethodId} {args : Array Value} {below : List Frame} {meth : Method} {c : Code} {T : State} {locs : List Loc} {cells slots : Nat}
theorem retI (X : Stand p l e R s m args below meth c T locs cells slots) (hx : p.tables.exec = Jvm.exec) {pc : Nat} {Ls : Array Slot} {z : Int32} {rest : List Value} (hret : meth.sig.returnType = some .int) (hd : decode c.code pc = .ok (.ireturn, 1)) {fs : List Frame}
    (hl : ∀ (f : JFrame) (acts : List Action), f.method = m → f.locked = none → f.entered = [] → (doReturn e (T.setTop f) acts (some (.int z))).1 = T.setFrames fs) : Steps p.tables e below (T.setTop (mkF m pc Ls (.int z :: rest))) (T.setFrames fs) := by
  have hm' : T.vm.method? m = some meth := X.method'
  have hn : narrow .int (.int z) = .int z := rfl
  show Steps p.tables e below (T.setTop { method := m, pc := pc, locals := Ls, stack := _ :: rest, locked := none }) _
  jvm_step X.here [X.here.top, hx, hd, hm', hret, hn]
  first | (intro acts; rw [hl _ acts rfl rfl rfl]) | rw [hl _ _ rfl rfl rfl]
  exact Steps.refl _
theorem own_lremM {g : JFrame} {target : State} (X : Stand p l e R s m args below meth c T locs cells slots) (hx : p.tables.exec = Jvm.exec) (hg : g.method = m) {x y : Int64} {rest : List Value} (hd : decode c.code g.pc = .ok (.lrem, 1)) (hs : g.stack = .long y :: .long x :: rest) (hy : y ≠ 0)
    (hr : Steps p.tables e below (T.setTop { g with pc := g.pc + 1, stack := .long (x % y) :: rest }) target) : Steps p.tables e below (T.setTop g) target := by
  have q : x - x / y * y = x % y := lrem_mod x y
  exact XS.lrem X.here hx hg hd hs hy (by rw [q]; exact hr)
theorem own_getD_int (L : List Int32) (n : Nat) (d : Int32) : (L.map Value.int).getD n (.int d) = .int (L.getD n d) := by simp [List.getD_eq_getElem?_getD, List.getElem?_map]
theorem own_getD_long (L : List Int64) (n : Nat) (d : Int64) : (L.map Value.long).getD n (.long d) = .long (L.getD n d) := by simp [List.getD_eq_getElem?_getD, List.getElem?_map]
theorem own_lt_nat {j z : Int32} (h : ¬ j < 0) (q : j < z) : j.toNatClampNeg < z.toNatClampNeg := by
  rw [Int32.lt_iff_toInt_lt] at h q; have : (0 : Int32).toInt = 0 := rfl
  simp only [Int32.toNatClampNeg]; omega
theorem own_eq_int {t : Term} {v : Int32} {args : Array Value} {s : State} (h : (Cond.eq t (.int v)).value args s none s [] = some true) : t.eval args s none [] s = some (.int v) := by
  simp only [Cond.value, Term.eval] at h
  cases ht : t.eval args s none [] s with
  | none => simp [ht] at h
  | some x => cases x <;> simp [ht] at h ⊢; exact h
theorem own_eq_long {t : Term} {v : Int64} {args : Array Value} {s : State} (h : (Cond.eq t (.long v)).value args s none s [] = some true) : t.eval args s none [] s = some (.long v) := by
  simp only [Cond.value, Term.eval] at h
  cases ht : t.eval args s none [] s with
  | none => simp [ht] at h
  | some x => cases x <;> simp [ht] at h ⊢; exact h
theorem own_selpriv {s : State} {args : Array Value} {y : MethodName} {n : Nat} (wi : (Cond.instantiable y.cls n).before args s = true) (hpriv : s.PrivateAt y) (hinst : (Cond.instanceMethod y).before args s = true) (hy : y.cls ≠ "java/lang/invoke/MethodHandle" ∧ y.cls ≠ "java/lang/invoke/VarHandle") : (Cond.selects y.cls y y).before args s = true := by
  obtain ⟨c, k, h1, h2, -, h4, -⟩ := Cond.instantiable_spec wi
  exact Jvm.Stand.selects_self_of_private h1 h2 (Bool.or_eq_false_iff.mp h4).1 hpriv hinst hy
theorem own_narb (P : Prop) [Decidable P] : nar .boolean (if P then (1 : Int32) else (0 : Int32)) = if P then (1 : Int32) else (0 : Int32) := by by_cases h : P <;> simp only [h, if_true, if_false] <;> rfl
end New
end Jvm.RoadKit
namespace Jvm.Pilot.@@N@@
open Jvm Jvm.ClassFile Sem Op Lib Jvm.Free Jvm.Stand Jvm.LawKit Jvm.RoadKit Bundle Jvm.Pilot.@@N@@.Jvm.D
theorem d1_0 : decode prog_35_method_5_code 0 = .ok (.aload_n 0, 1) := by decide +kernel
theorem d1_1 : decode prog_35_method_5_code 1 = .ok (.getfield 41, 3) := by decide +kernel
theorem d1_4 : decode prog_35_method_5_code 4 = .ok (.iconst (-1), 1) := by decide +kernel
theorem d1_5 : decode prog_35_method_5_code 5 = .ok (.if_icmp .ne 7, 3) := by decide +kernel
theorem d1_8 : decode prog_35_method_5_code 8 = .ok (.iconst 0, 1) := by decide +kernel
theorem d1_9 : decode prog_35_method_5_code 9 = .ok (.goto 20, 3) := by decide +kernel
theorem d1_12 : decode prog_35_method_5_code 12 = .ok (.aload_n 0, 1) := by decide +kernel
theorem d1_13 : decode prog_35_method_5_code 13 = .ok (.getfield 41, 3) := by decide +kernel
theorem d1_16 : decode prog_35_method_5_code 16 = .ok (.i2l, 1) := by decide +kernel
theorem d1_17 : decode prog_35_method_5_code 17 = .ok (.iload_n 1, 1) := by decide +kernel
theorem d1_18 : decode prog_35_method_5_code 18 = .ok (.i2l, 1) := by decide +kernel
theorem d1_19 : decode prog_35_method_5_code 19 = .ok (.lmul, 1) := by decide +kernel
theorem d1_20 : decode prog_35_method_5_code 20 = .ok (.ldc2_w 51, 3) := by decide +kernel
theorem d1_23 : decode prog_35_method_5_code 23 = .ok (.ladd, 1) := by decide +kernel
theorem d1_24 : decode prog_35_method_5_code 24 = .ok (.ldc2_w 53, 3) := by decide +kernel
theorem d1_27 : decode prog_35_method_5_code 27 = .ok (.ldiv, 1) := by decide +kernel
theorem d1_28 : decode prog_35_method_5_code 28 = .ok (.l2i, 1) := by decide +kernel
theorem d1_29 : decode prog_35_method_5_code 29 = .ok (.ireturn, 1) := by decide +kernel
theorem pn_19 : plainName "com/example/slabrun/slabrun/core/UsageList" = true := by first | (simp [plainName, overriddenIn]; done) | decide +kernel
def v1_ret (p1 : Int32) (w_lowest_ra0 : Int32) : Int32 := (if w_lowest_ra0 = (-1 : Int32) then (0 : Int32) else (((((w_lowest_ra0.toInt64) * (p1.toInt64)) + (99 : Int64)) / (100 : Int64)).toInt32))
theorem ef_rm1 (m : MethodId) (ra0 : Addr) (p1 : Int32) : entryFrame m #[(.ref ra0), (.int p1)] 2 = mkF m 0 #[.val (.ref ra0), .val (.int p1)] [] := by first | (simp [entryFrame, mkF, argsToLocals, Value.category]; done) | rfl
def Q1 (Z : State) (ra0 : Addr) (p1 : Int32) (w_lowest_ra0 : Int32) (h0 : Heap) (n0 : Nat) (v : Option Value) (h : Heap) (L : List Loc) : Prop := v = some (.int (v1_ret p1 w_lowest_ra0)) ∧ Fr n0 L ∧ h = h0
set_option maxRecDepth 65536 in
set_option maxHeartbeats 40000000 in
theorem rm1 (l : Launch) (Z : State) (a0 : Array Value) (hw : ∀ d ∈ tables_1, d.before a0 Z = true) (ws : List Jvm.Cond) (ra0 : Addr) (p1 : Int32) (w_lowest_ra0 : Int32) (h0 : Heap) (n0 : Nat) (Z0 : n0 ≤ h0.size) (F_lowest_ra0 : Fld Z h0 ra0 "com/example/slabrun/slabrun/core/UsageList" "lowest" "I" (.int w_lowest_ra0)) :
    MetFree l (⟨"com/example/slabrun/slabrun/core/UsageList", "stayFrom", "(I)I"⟩ : MethodName) (head1 (Jvm.Cond.code (⟨"com/example/slabrun/slabrun/core/UsageList", "stayFrom", "(I)I"⟩ : MethodName) prog_35_method_5_code 2 (some .int) :: ws) ({ frames := 0, cells := 0, slots := 0, locals := 0 } : Room)) (fun a U => a = #[(.ref ra0), (.int p1)] ∧ Z.Warmed39 U.vm ∧ U.heap = h0) (fun _ _ _ _ _ => True) (fun _ U o U' => ∃ v L, o = .returned v ∧ Q1 Z ra0 p1 w_lowest_ra0 h0 n0 v U'.heap L ∧ FrameEnd U o U' L ({ frames := 0, cells := 0, slots := 0, locals := 0 } : Room).cells ({ frames := 0, cells := 0, slots := 0, locals := 0 } : Room).slots) := by
  refine MetFree.of_bodySF (plainFor_of_name pn_19) hisR ?_
  intro p e s m args below meth c s₁ Bd hml0 hP hK
  obtain ⟨rfl, hZ, hh⟩ := hP
  have hx := Bd.exec
  have hby := Bd.bytes
  have hml : c.maxLocals = 2 := hml0
  have hown : s.vm.findClass "com/example/slabrun/slabrun/core/UsageList" = some m.cls := findClass_of_methodNamed Bd.named
  have hnm := (name_of_methodNamed Bd.named Bd.method).1
  have X0 : Stand p l e ({ frames := 0, cells := 0, slots := 0, locals := 0 } : Room) s m #[(.ref ra0), (.int p1)] below meth c s₁ [] 0 0 := Stand.of_body Bd
  have e0 : s₁.heap = h0 := by rw [← hh, Bd.state]; rfl
  have N0 := Fr.nil n0
  have KC0 := Keep.refl h0 ([] : List Addr)
  have pre0 : ∀ t, Steps p.tables e below (s₁.setTop (mkF m 0 #[.val (.ref ra0), .val (.int p1)] [])) t → Steps p.tables e below (s₁.setTop (entryFrame m #[(.ref ra0), (.int p1)] 2)) t := fun t k => castTop (ef_rm1 m ra0 p1) k
  have k1 := fun (t : State) (kk : Steps p.tables e below (s₁.setTop (mkF m 1 #[.val (.ref ra0), .val (.int p1)] [(.ref ra0)])) t) => pre0 t (by
    show Steps p.tables e below (s₁.setTop (mkF m 0 #[.val (.ref ra0), .val (.int p1)] [])) _
    refine XS.aloadN X0.here hx rfl (hb hby d1_0) rfl rfl ?_
    exact kk)
  obtain ⟨T2, X2, e2, st2⟩ := getF X0 hx hZ hown (host := "") (Or.inl (hw _ (List.mem_of_getElem? (i := 10) rfl))) Via.refl e0 F_lowest_ra0 (g := (mkF m 1 #[.val (.ref ra0), .val (.int p1)] [(.ref ra0)])) rfl rfl (hb hby d1_1)
  have k3 := fun (t : State) (kk : Steps p.tables e below (T2.setTop (mkF m 4 #[.val (.ref ra0), .val (.int p1)] [(.int w_lowest_ra0)])) t) => k1 t (st2 _ kk)
  have k4 := fun (t : State) (kk : Steps p.tables e below (T2.setTop (mkF m 5 #[.val (.ref ra0), .val (.int p1)] [(.int (-1 : Int32)), (.int w_lowest_ra0)])) t) => k3 t (by
    show Steps p.tables e below (T2.setTop (mkF m 4 #[.val (.ref ra0), .val (.int p1)] [(.int w_lowest_ra0)])) _
    refine XS.iconst X2.here hx rfl (hb hby d1_4) ?_
    exact kk)
  by_cases hc5_5 : w_lowest_ra0 = (-1 : Int32)
  · have k6 := fun (t : State) (kk : Steps p.tables e below (T2.setTop (mkF m 29 #[.val (.ref ra0), .val (.int p1)] [(.int (0 : Int32))])) t) => k4 t (by
      show Steps p.tables e below (T2.setTop (mkF m 5 #[.val (.ref ra0), .val (.int p1)] [(.int (-1 : Int32)), (.int w_lowest_ra0)])) _
      refine XS.icmpNo X2.here hx rfl (hb hby d1_5) rfl (teq hc5_5).2 ?_
      show Steps p.tables e below (T2.setTop (mkF m 8 #[.val (.ref ra0), .val (.int p1)] [])) _
      refine XS.iconst X2.here hx rfl (hb hby d1_8) ?_
      show Steps p.tables e below (T2.setTop (mkF m 9 #[.val (.ref ra0), .val (.int p1)] [(.int (0 : Int32))])) _
      refine XS.goto X2.here hx rfl (pc0 := 9) (pc' := 29) rfl (hb hby d1_9) (by decide) (by decide) ?_
      exact kk)
    obtain ⟨fs, hr, hrun, hended, hW, hsame⟩ := X2.leave (v := some (.int (0 : Int32))) (fun h => by rw [Bd.returns] at h; cases h)
    have hv : (v1_ret p1 w_lowest_ra0) = (0 : Int32) := (if_pos hc5_5)
    refine ⟨_, _, k6 _ ?_, hrun, hended, _, _, rfl, ?_, ⟨_, rfl⟩, hW, hsame.mono (by decide) (by decide)⟩
    · show Steps p.tables e below (T2.setTop (mkF m 29 #[.val (.ref ra0), .val (.int p1)] [(.int (0 : Int32))])) _
      exact retI X2 hx Bd.returns (hb hby d1_29) hr
    · show Q1 Z ra0 p1 w_lowest_ra0 h0 n0 _ T2.heap _
      rw [e2]
      exact ⟨(congrArg (fun z => some (Value.int z)) hv).symm, N0, rfl⟩
  · have k7 := fun (t : State) (kk : Steps p.tables e below (T2.setTop (mkF m 13 #[.val (.ref ra0), .val (.int p1)] [(.ref ra0)])) t) => k4 t (by
      show Steps p.tables e below (T2.setTop (mkF m 5 #[.val (.ref ra0), .val (.int p1)] [(.int (-1 : Int32)), (.int w_lowest_ra0)])) _
      refine XS.icmpYes X2.here hx rfl (pc0 := 5) (pc' := 12) rfl (hb hby d1_5) rfl (feq hc5_5).2 (by decide) (by decide) ?_
      show Steps p.tables e below (T2.setTop (mkF m 12 #[.val (.ref ra0), .val (.int p1)] [])) _
      refine XS.aloadN X2.here hx rfl (hb hby d1_12) rfl rfl ?_
      exact kk)
    obtain ⟨T8, X8, e8, st8⟩ := getF X2 hx hZ hown (host := "") (Or.inl (hw _ (List.mem_of_getElem? (i := 10) rfl))) Via.refl e2 F_lowest_ra0 (g := (mkF m 13 #[.val (.ref ra0), .val (.int p1)] [(.ref ra0)])) rfl rfl (hb hby d1_13)
    have k9 := fun (t : State) (kk : Steps p.tables e below (T8.setTop (mkF m 16 #[.val (.ref ra0), .val (.int p1)] [(.int w_lowest_ra0)])) t) => k7 t (st8 _ kk)
    have k10 := fun (t : State) (kk : Steps p.tables e below (T8.setTop (mkF m 29 #[.val (.ref ra0), .val (.int p1)] [(.int (((((w_lowest_ra0.toInt64) * (p1.toInt64)) + (99 : Int64)) / (100 : Int64)).toInt32))])) t) => k9 t (by
      show Steps p.tables e below (T8.setTop (mkF m 16 #[.val (.ref ra0), .val (.int p1)] [(.int w_lowest_ra0)])) _
      refine XS.i2l X8.here hx rfl (hb hby d1_16) rfl ?_
      show Steps p.tables e below (T8.setTop (mkF m 17 #[.val (.ref ra0), .val (.int p1)] [(.long (w_lowest_ra0.toInt64))])) _
      refine XS.iloadN X8.here hx rfl (hb hby d1_17) rfl ?_
      show Steps p.tables e below (T8.setTop (mkF m 18 #[.val (.ref ra0), .val (.int p1)] [(.int p1), (.long (w_lowest_ra0.toInt64))])) _
      refine XS.i2l X8.here hx rfl (hb hby d1_18) rfl ?_
      show Steps p.tables e below (T8.setTop (mkF m 19 #[.val (.ref ra0), .val (.int p1)] [(.long (p1.toInt64)), (.long (w_lowest_ra0.toInt64))])) _
      refine XS.lmul X8.here hx rfl (hb hby d1_19) rfl ?_
      show Steps p.tables e below (T8.setTop (mkF m 20 #[.val (.ref ra0), .val (.int p1)] [(.long ((w_lowest_ra0.toInt64) * (p1.toInt64)))])) _
      refine X8.ldc2Long hx hown (mvT hZ (hw _ (List.mem_of_getElem? (i := 15) rfl))) (g := (mkF m 20 #[.val (.ref ra0), .val (.int p1)] [(.long ((w_lowest_ra0.toInt64) * (p1.toInt64)))])) rfl (hb hby d1_20) _ ?_
      show Steps p.tables e below (T8.setTop (mkF m 23 #[.val (.ref ra0), .val (.int p1)] [(.long (99 : Int64)), (.long ((w_lowest_ra0.toInt64) * (p1.toInt64)))])) _
      refine XS.ladd X8.here hx rfl (hb hby d1_23) rfl ?_
      show Steps p.tables e below (T8.setTop (mkF m 24 #[.val (.ref ra0), .val (.int p1)] [(.long (((w_lowest_ra0.toInt64) * (p1.toInt64)) + (99 : Int64)))])) _
      refine X8.ldc2Long hx hown (mvT hZ (hw _ (List.mem_of_getElem? (i := 16) rfl))) (g := (mkF m 24 #[.val (.ref ra0), .val (.int p1)] [(.long (((w_lowest_ra0.toInt64) * (p1.toInt64)) + (99 : Int64)))])) rfl (hb hby d1_24) _ ?_
      show Steps p.tables e below (T8.setTop (mkF m 27 #[.val (.ref ra0), .val (.int p1)] [(.long (100 : Int64)), (.long (((w_lowest_ra0.toInt64) * (p1.toInt64)) + (99 : Int64)))])) _
      refine XS.ldiv X8.here hx rfl (hb hby d1_27) rfl (by decide) ?_
      show Steps p.tables e below (T8.setTop (mkF m 28 #[.val (.ref ra0), .val (.int p1)] [(.long ((((w_lowest_ra0.toInt64) * (p1.toInt64)) + (99 : Int64)) / (100 : Int64)))])) _
      refine XS.l2i X8.here hx rfl (hb hby d1_28) rfl ?_
      exact kk)
    obtain ⟨fs, hr, hrun, hended, hW, hsame⟩ := X8.leave (v := some (.int (((((w_lowest_ra0.toInt64) * (p1.toInt64)) + (99 : Int64)) / (100 : Int64)).toInt32))) (fun h => by rw [Bd.returns] at h; cases h)
    have hv : (v1_ret p1 w_lowest_ra0) = (((((w_lowest_ra0.toInt64) * (p1.toInt64)) + (99 : Int64)) / (100 : Int64)).toInt32) := (if_neg hc5_5)
    refine ⟨_, _, k10 _ ?_, hrun, hended, _, _, rfl, ?_, ⟨_, rfl⟩, hW, hsame.mono (by decide) (by decide)⟩
    · show Steps p.tables e below (T8.setTop (mkF m 29 #[.val (.ref ra0), .val (.int p1)] [(.int (((((w_lowest_ra0.toInt64) * (p1.toInt64)) + (99 : Int64)) / (100 : Int64)).toInt32))])) _
      exact retI X8 hx Bd.returns (hb hby d1_29) hr
    · show Q1 Z ra0 p1 w_lowest_ra0 h0 n0 _ T8.heap _
      rw [e8]
      exact ⟨(congrArg (fun z => some (Value.int z)) hv).symm, N0, rfl⟩
theorem pd_0 : parseMethodDescriptor "(I)I" = some ⟨[.int], some .int⟩ := by decide +kernel
theorem pn_23 : plainName "com/example/slabrun/slabrun/core/UsageListStayFromPinLaw" = true := by first | (simp [plainName, overriddenIn]; done) | decide +kernel
def v0_7_l2 (p0 : Int32) : Int32 := ((p0 &&& (2147483647 : Int32)) % (6 : Int32))
def v0_116_l7 (p1 : Int32) : Int32 := (v1_ret (p1 &&& (2147483647 : Int32)) (-1 : Int32))
def v0_127_s0 (p1 : Int32) : Int32 := if (v0_116_l7 p1) = (0 : Int32) then (1 : Int32) else (0 : Int32)
def v0_116_l7_1 (p1 : Int32) : Int32 := (v1_ret (p1 &&& (2147483647 : Int32)) (1 : Int32))
def v0_141_l8 (p1 : Int32) : Int64 := ((1 : Int64) * ((p1 &&& (2147483647 : Int32)).toInt64))
def v0_171_s0 (p1 : Int32) : Int32 := if ((((v0_116_l7_1 p1).toInt64) - (1 : Int64)) * (100 : Int64)) < (v0_141_l8 p1) then (1 : Int32) else (0 : Int32)
def v0_157_s0 (p1 : Int32) : Int32 := if (((v0_116_l7_1 p1).toInt64) * (100 : Int64)) < (v0_141_l8 p1) then (0 : Int32) else (v0_171_s0 p1)
def v0_116_l7_2 (p1 : Int32) : Int32 := (v1_ret (p1 &&& (2147483647 : Int32)) (25 : Int32))
def v0_141_l8_1 (p1 : Int32) : Int64 := ((25 : Int64) * ((p1 &&& (2147483647 : Int32)).toInt64))
def v0_171_s0_1 (p1 : Int32) : Int32 := if ((((v0_116_l7_2 p1).toInt64) - (1 : Int64)) * (100 : Int64)) < (v0_141_l8_1 p1) then (1 : Int32) else (0 : Int32)
def v0_157_s0_1 (p1 : Int32) : Int32 := if (((v0_116_l7_2 p1).toInt64) * (100 : Int64)) < (v0_141_l8_1 p1) then (0 : Int32) else (v0_171_s0_1 p1)
def v0_116_l7_3 (p1 : Int32) : Int32 := (v1_ret (p1 &&& (2147483647 : Int32)) (50 : Int32))
def v0_141_l8_2 (p1 : Int32) : Int64 := ((50 : Int64) * ((p1 &&& (2147483647 : Int32)).toInt64))
def v0_171_s0_2 (p1 : Int32) : Int32 := if ((((v0_116_l7_3 p1).toInt64) - (1 : Int64)) * (100 : Int64)) < (v0_141_l8_2 p1) then (1 : Int32) else (0 : Int32)
def v0_157_s0_2 (p1 : Int32) : Int32 := if (((v0_116_l7_3 p1).toInt64) * (100 : Int64)) < (v0_141_l8_2 p1) then (0 : Int32) else (v0_171_s0_2 p1)
def v0_116_l7_4 (p1 : Int32) : Int32 := (v1_ret (p1 &&& (2147483647 : Int32)) (75 : Int32))
def v0_141_l8_3 (p1 : Int32) : Int64 := ((75 : Int64) * ((p1 &&& (2147483647 : Int32)).toInt64))
def v0_171_s0_3 (p1 : Int32) : Int32 := if ((((v0_116_l7_4 p1).toInt64) - (1 : Int64)) * (100 : Int64)) < (v0_141_l8_3 p1) then (1 : Int32) else (0 : Int32)
def v0_157_s0_3 (p1 : Int32) : Int32 := if (((v0_116_l7_4 p1).toInt64) * (100 : Int64)) < (v0_141_l8_3 p1) then (0 : Int32) else (v0_171_s0_3 p1)
def v0_116_l7_5 (p1 : Int32) : Int32 := (v1_ret (p1 &&& (2147483647 : Int32)) (100 : Int32))
def v0_141_l8_4 (p1 : Int32) : Int64 := ((100 : Int64) * ((p1 &&& (2147483647 : Int32)).toInt64))
def v0_171_s0_4 (p1 : Int32) : Int32 := if ((((v0_116_l7_5 p1).toInt64) - (1 : Int64)) * (100 : Int64)) < (v0_141_l8_4 p1) then (1 : Int32) else (0 : Int32)
def v0_157_s0_4 (p1 : Int32) : Int32 := if (((v0_116_l7_5 p1).toInt64) * (100 : Int64)) < (v0_141_l8_4 p1) then (0 : Int32) else (v0_171_s0_4 p1)
def v0_ret (p0 : Int32) (p1 : Int32) : Int32 := (if (v0_7_l2 p0) = (0 : Int32) then (nar .boolean (v0_127_s0 p1)) else (if (v0_7_l2 p0) = (1 : Int32) then (nar .boolean (v0_157_s0 p1)) else (if (v0_7_l2 p0) = (2 : Int32) then (nar .boolean (v0_157_s0_1 p1)) else (if (v0_7_l2 p0) = (3 : Int32) then (nar .boolean (v0_157_s0_2 p1)) else (if (v0_7_l2 p0) = (4 : Int32) then (nar .boolean (v0_157_s0_3 p1)) else (nar .boolean (v0_157_s0_4 p1)))))))
theorem own_ceil (k : Int64) (P : Int32) (K : Int) (hk : k.toInt = K) (k0 : 0 ≤ K) (k1 : K ≤ 100) (h0 : 0 ≤ P.toInt) :
    ¬ (((((k * P.toInt64) + (99 : Int64)) / (100 : Int64)).toInt32).toInt64 * (100 : Int64)) < (k * P.toInt64) ∧ ((((((k * P.toInt64) + (99 : Int64)) / (100 : Int64)).toInt32).toInt64 - (1 : Int64)) * (100 : Int64)) < (k * P.toInt64) := by
  have rP := rng32 P
  have m1 := c_lmul k P.toInt64; have r1 := rng64 (k * P.toInt64)
  rw [hk, c_i2l] at m1
  have b0 : 0 ≤ K * P.toInt := Int.mul_nonneg k0 h0
  have b1 : K * P.toInt ≤ 100 * P.toInt := Int.mul_le_mul_of_nonneg_right k1 h0
  have e1 : (k * P.toInt64).toInt = K * P.toInt := by omega
  generalize k * P.toInt64 = N at *
  generalize K * P.toInt = M at *
  have a1 := c_ladd N (99 : Int64); have r2 := rng64 (N + 99)
  have n99 : (99 : Int64).toInt = 99 := rfl
  have n1 : (1 : Int64).toInt = 1 := rfl
  have n100 : (100 : Int64).toInt = 100 := rfl
  have e2 : (N + 99).toInt = M + 99 := by omega
  have d1 := (c_ldiv (N + 99) (100 : Int64) 100 rfl (by decide)).1 (by omega)
  have c1 := c_l2i ((N + 99) / 100); have r3 := rng32 ((N + 99) / 100).toInt32
  have e3 : (((N + 99) / 100).toInt32).toInt = (M + 99) / 100 := by omega
  have e4 := c_i2l (((N + 99) / 100).toInt32)
  generalize (((N + 99) / 100).toInt32).toInt64 = R at *
  have m2 := c_lmul R (100 : Int64); have r4 := rng64 (R * 100)
  have s1 := c_lsub R (1 : Int64); have r5 := rng64 (R - 1)
  have m3 := c_lmul (R - 1) (100 : Int64); have r6 := rng64 ((R - 1) * 100)
  rw [n100] at m2 m3
  rw [Int64.lt_iff_toInt_lt, Int64.lt_iff_toInt_lt]
  omega
theorem own_pages (p : Int32) : 0 ≤ (p &&& (2147483647 : Int32)).toInt := (c_and p (2147483647 : Int32) (by decide)).1
theorem own_one (k : Int32) (k' : Int64) (K : Int) (P : Int32) (hk : k.toInt = K) (e : k.toInt64 = k') (k0 : 0 ≤ K) (k1 : K ≤ 100) (h0 : 0 ≤ P.toInt) (hne : ¬ k = -1) :
    ¬ ((v1_ret P k).toInt64 * (100 : Int64)) < (k' * P.toInt64) ∧ (((v1_ret P k).toInt64 - (1 : Int64)) * (100 : Int64)) < (k' * P.toInt64) := by
  subst e
  unfold v1_ret
  rw [if_neg hne]
  exact own_ceil k.toInt64 P K ((c_i2l k).trans hk) k0 k1 h0
theorem own_law (p0 p1 : Int32) : (v0_ret p0 p1) = 1 := by
  have hp := own_pages p1
  have c0 : v0_127_s0 p1 = 1 := by unfold v0_127_s0 v0_116_l7 v1_ret; rw [if_pos rfl, if_pos rfl]
  have c1 : v0_157_s0 p1 = 1 := by
    have c := own_one 1 1 1 _ rfl rfl (by decide) (by decide) hp (by decide)
    unfold v0_157_s0 v0_171_s0 v0_116_l7_1 v0_141_l8; rw [if_neg c.1, if_pos c.2]
  have c2 : v0_157_s0_1 p1 = 1 := by
    have c := own_one 25 25 25 _ rfl rfl (by decide) (by decide) hp (by decide)
    unfold v0_157_s0_1 v0_171_s0_1 v0_116_l7_2 v0_141_l8_1; rw [if_neg c.1, if_pos c.2]
  have c3 : v0_157_s0_2 p1 = 1 := by
    have c := own_one 50 50 50 _ rfl rfl (by decide) (by decide) hp (by decide)
    unfold v0_157_s0_2 v0_171_s0_2 v0_116_l7_3 v0_141_l8_2; rw [if_neg c.1, if_pos c.2]
  have c4 : v0_157_s0_3 p1 = 1 := by
    have c := own_one 75 75 75 _ rfl rfl (by decide) (by decide) hp (by decide)
    unfold v0_157_s0_3 v0_171_s0_3 v0_116_l7_4 v0_141_l8_3; rw [if_neg c.1, if_pos c.2]
  have c5 : v0_157_s0_4 p1 = 1 := by
    have c := own_one 100 100 100 _ rfl rfl (by decide) (by decide) hp (by decide)
    unfold v0_157_s0_4 v0_171_s0_4 v0_116_l7_5 v0_141_l8_4; rw [if_neg c.1, if_pos c.2]
  unfold v0_ret
  rw [c0, c1, c2, c3, c4, c5]
  generalize v0_7_l2 p0 = K
  split
  · rfl
  split
  · rfl
  split
  · rfl
  split
  · rfl
  split <;> rfl

theorem ef_rm0 (m : MethodId) (p0 : Int32) (p1 : Int32) : entryFrame m #[(.int p0), (.int p1)] maxLocals = mkF m 0 #[.val (.int p0), .val (.int p1), .unset, .unset, .unset, .unset, .unset, .unset, .unset, .unset, .unset, .unset] [] := by first | (simp [entryFrame, mkF, argsToLocals, Value.category, maxLocals]; done) | rfl
def Q0 (Z : State) (p0 : Int32) (p1 : Int32) (o_INIT : Addr) (o_U0 : Addr) (o_U25 : Addr) (o_U50 : Addr) (o_U75 : Addr) (o_U100 : Addr) (h0 : Heap) (n0 : Nat) (v : Option Value) (h : Heap) (L : List Loc) : Prop := v = some (.int 1) ∧ Fr n0 L
set_option maxRecDepth 65536 in
set_option maxHeartbeats 40000000 in
theorem rm0 (l : Launch) (Z : State) (a0 : Array Value) (hw : ∀ d ∈ tables_1, d.before a0 Z = true) (ws : List Jvm.Cond) (p0 : Int32) (p1 : Int32) (o_INIT : Addr) (o_U0 : Addr) (o_U25 : Addr) (o_U50 : Addr) (o_U75 : Addr) (o_U100 : Addr) (h0 : Heap) (n0 : Nat) (Z0 : n0 ≤ h0.size) (S_INIT : Sta Z h0 "com/example/slabrun/slabrun/core/UsageList" "INIT" "Lcom/example/slabrun/slabrun/core/UsageList;" (.ref o_INIT)) (F_lowest_o_INIT : Fld Z h0 o_INIT "com/example/slabrun/slabrun/core/UsageList" "lowest" "I" (.int (-1 : Int32))) (E_o_INIT : Exa Z h0 o_INIT "com/example/slabrun/slabrun/core/UsageList") (S_U0 : Sta Z h0 "com/example/slabrun/slabrun/core/UsageList" "U0" "Lcom/example/slabrun/slabrun/core/UsageList;" (.ref o_U0)) (F_lowest_o_U0 : Fld Z h0 o_U0 "com/example/slabrun/slabrun/core/UsageList" "lowest" "I" (.int (1 : Int32))) (E_o_U0 : Exa Z h0 o_U0 "com/example/slabrun/slabrun/core/UsageList") (S_U25 : Sta Z h0 "com/example/slabrun/slabrun/core/UsageList" "U25" "Lcom/example/slabrun/slabrun/core/UsageList;" (.ref o_U25)) (F_lowest_o_U25 : Fld Z h0 o_U25 "com/example/slabrun/slabrun/core/UsageList" "lowest" "I" (.int (25 : Int32))) (E_o_U25 : Exa Z h0 o_U25 "com/example/slabrun/slabrun/core/UsageList") (S_U50 : Sta Z h0 "com/example/slabrun/slabrun/core/UsageList" "U50" "Lcom/example/slabrun/slabrun/core/UsageList;" (.ref o_U50)) (F_lowest_o_U50 : Fld Z h0 o_U50 "com/example/slabrun/slabrun/core/UsageList" "lowest" "I" (.int (50 : Int32))) (E_o_U50 : Exa Z h0 o_U50 "com/example/slabrun/slabrun/core/UsageList") (S_U75 : Sta Z h0 "com/example/slabrun/slabrun/core/UsageList" "U75" "Lcom/example/slabrun/slabrun/core/UsageList;" (.ref o_U75)) (F_lowest_o_U75 : Fld Z h0 o_U75 "com/example/slabrun/slabrun/core/UsageList" "lowest" "I" (.int (75 : Int32))) (E_o_U75 : Exa Z h0 o_U75 "com/example/slabrun/slabrun/core/UsageList") (S_U100 : Sta Z h0 "com/example/slabrun/slabrun/core/UsageList" "U100" "Lcom/example/slabrun/slabrun/core/UsageList;" (.ref o_U100)) (F_lowest_o_U100 : Fld Z h0 o_U100 "com/example/slabrun/slabrun/core/UsageList" "lowest" "I" (.int (100 : Int32))) (E_o_U100 : Exa Z h0 o_U100 "com/example/slabrun/slabrun/core/UsageList") :
    MetFree l x (head1 (Jvm.Cond.code x code maxLocals ret :: ws) room_1) (fun a U => a = #[(.int p0), (.int p1)] ∧ Z.Warmed39 U.vm ∧ U.heap = h0) (fun _ _ _ _ _ => True) (fun _ U o U' => ∃ v L, o = .returned v ∧ Q0 Z p0 p1 o_INIT o_U0 o_U25 o_U50 o_U75 o_U100 h0 n0 v U'.heap L ∧ FrameEnd U o U' L room_1.cells room_1.slots) := by
  refine MetFree.of_bodySF (plainFor_of_name pn_23) hisR ?_
  intro p e s m args below meth c s₁ Bd hml0 hP hK
  obtain ⟨rfl, hZ, hh⟩ := hP
  have hx := Bd.exec
  have hby := Bd.bytes
  have hml : c.maxLocals = 12 := hml0
  have hown : s.vm.findClass "com/example/slabrun/slabrun/core/UsageListStayFromPinLaw" = some m.cls := findClass_of_methodNamed Bd.named
  have hnm := (name_of_methodNamed Bd.named Bd.method).1
  have X0 : Stand p l e room_1 s m #[(.int p0), (.int p1)] below meth c s₁ [] 0 0 := Stand.of_body Bd
  have e0 : s₁.heap = h0 := by rw [← hh, Bd.state]; rfl
  have N0 := Fr.nil n0
  have KC0 := Keep.refl h0 ([] : List Addr)
  have pre0 : ∀ t, Steps p.tables e below (s₁.setTop (mkF m 0 #[.val (.int p0), .val (.int p1), .unset, .unset, .unset, .unset, .unset, .unset, .unset, .unset, .unset, .unset] [])) t → Steps p.tables e below (s₁.setTop (entryFrame m #[(.int p0), (.int p1)] maxLocals)) t := fun t k => castTop (ef_rm0 m p0 p1) k
  have k11 := fun (t : State) (kk : Steps p.tables e below (s₁.setTop (mkF m 14 #[.val (.int p0), .val (.int p1), .val (.int (v0_7_l2 p0)), .val (.int (p1 &&& (2147483647 : Int32))), .unset, .unset, .unset, .unset, .unset, .unset, .unset, .unset] [(.int (v0_7_l2 p0))])) t) => pre0 t (by
    show Steps p.tables e below (s₁.setTop (mkF m 0 #[.val (.int p0), .val (.int p1), .unset, .unset, .unset, .unset, .unset, .unset, .unset, .unset, .unset, .unset] [])) _
    refine XS.iloadN X0.here hx rfl (hb hby at_0) rfl ?_
    show Steps p.tables e below (s₁.setTop (mkF m 1 #[.val (.int p0), .val (.int p1), .unset, .unset, .unset, .unset, .unset, .unset, .unset, .unset, .unset, .unset] [(.int p0)])) _
    refine X0.ldcInt hx hown (mvT hZ (hw _ (List.mem_of_getElem? (i := 0) rfl))) (g := (mkF m 1 #[.val (.int p0), .val (.int p1), .unset, .unset, .unset, .unset, .unset, .unset, .unset, .unset, .unset, .unset] [(.int p0)])) rfl (hb hby at_1) _ ?_
    show Steps p.tables e below (s₁.setTop (mkF m 3 #[.val (.int p0), .val (.int p1), .unset, .unset, .unset, .unset, .unset, .unset, .unset, .unset, .unset, .unset] [(.int (2147483647 : Int32)), (.int p0)])) _
    refine XS.iand X0.here hx rfl (hb hby at_3) rfl ?_
    show Steps p.tables e below (s₁.setTop (mkF m 4 #[.val (.int p0), .val (.int p1), .unset, .unset, .unset, .unset, .unset, .unset, .unset, .unset, .unset, .unset] [(.int (p0 &&& (2147483647 : Int32)))])) _
    refine XS.bipush X0.here hx rfl (hb hby at_4) ?_
    show Steps p.tables e below (s₁.setTop (mkF m 6 #[.val (.int p0), .val (.int p1), .unset, .unset, .unset, .unset, .unset, .unset, .unset, .unset, .unset, .unset] [(.int (6 : Int32)), (.int (p0 &&& (2147483647 : Int32)))])) _
    refine iremM X0 hx rfl (hb hby at_6) rfl (by decide) ?_
    show Steps p.tables e below (s₁.setTop (mkF m 7 #[.val (.int p0), .val (.int p1), .unset, .unset, .unset, .unset, .unset, .unset, .unset, .unset, .unset, .unset] [(.int ((p0 &&& (2147483647 : Int32)) % (6 : Int32)))])) _
    refine XS.istoreN X0.here hx rfl (hb hby at_7) rfl (l' := #[.val (.int p0), .val (.int p1), .val (.int (v0_7_l2 p0)), .unset, .unset, .unset, .unset, .unset, .unset, .unset, .unset, .unset]) rfl ?_
    show Steps p.tables e below (s₁.setTop (mkF m 8 #[.val (.int p0), .val (.int p1), .val (.int (v0_7_l2 p0)), .unset, .unset, .unset, .unset, .unset, .unset, .unset, .unset, .unset] [])) _
    refine XS.iloadN X0.here hx rfl (hb hby at_8) rfl ?_
    show Steps p.tables e below (s₁.setTop (mkF m 9 #[.val (.int p0), .val (.int p1), .val (.int (v0_7_l2 p0)), .unset, .unset, .unset, .unset, .unset, .unset, .unset, .unset, .unset] [(.int p1)])) _
    refine X0.ldcInt hx hown (mvT hZ (hw _ (List.mem_of_getElem? (i := 0) rfl))) (g := (mkF m 9 #[.val (.int p0), .val (.int p1), .val (.int (v0_7_l2 p0)), .unset, .unset, .unset, .unset, .unset, .unset, .unset, .unset, .unset] [(.int p1)])) rfl (hb hby at_9) _ ?_
    show Steps p.tables e below (s₁.setTop (mkF m 11 #[.val (.int p0), .val (.int p1), .val (.int (v0_7_l2 p0)), .unset, .unset, .unset, .unset, .unset, .unset, .unset, .unset, .unset] [(.int (2147483647 : Int32)), (.int p1)])) _
    refine XS.iand X0.here hx rfl (hb hby at_11) rfl ?_
    show Steps p.tables e below (s₁.setTop (mkF m 12 #[.val (.int p0), .val (.int p1), .val (.int (v0_7_l2 p0)), .unset, .unset, .unset, .unset, .unset, .unset, .unset, .unset, .unset] [(.int (p1 &&& (2147483647 : Int32)))])) _
    refine XS.istoreN X0.here hx rfl (hb hby at_12) rfl (l' := #[.val (.int p0), .val (.int p1), .val (.int (v0_7_l2 p0)), .val (.int (p1 &&& (2147483647 : Int32))), .unset, .unset, .unset, .unset, .unset, .unset, .unset, .unset]) rfl ?_
    show Steps p.tables e below (s₁.setTop (mkF m 13 #[.val (.int p0), .val (.int p1), .val (.int (v0_7_l2 p0)), .val (.int (p1 &&& (2147483647 : Int32))), .unset, .unset, .unset, .unset, .unset, .unset, .unset, .unset] [])) _
    refine XS.iloadN X0.here hx rfl (hb hby at_13) rfl ?_
    exact kk)
  by_cases hc14_12 : (v0_7_l2 p0) = (0 : Int32)
  · have k13 := fun (t : State) (kk : Steps p.tables e below (s₁.setTop (mkF m 17 #[.val (.int p0), .val (.int p1), .val (.int (v0_7_l2 p0)), .val (.int (p1 &&& (2147483647 : Int32))), .unset, .unset, .unset, .unset, .unset, .unset, .unset, .unset] [])) t) => k11 t (by
      show Steps p.tables e below (s₁.setTop (mkF m 14 #[.val (.int p0), .val (.int p1), .val (.int (v0_7_l2 p0)), .val (.int (p1 &&& (2147483647 : Int32))), .unset, .unset, .unset, .unset, .unset, .unset, .unset, .unset] [(.int (v0_7_l2 p0))])) _
      refine XS.ifNo X0.here hx rfl (hb hby at_14) rfl ((if0 _ _).trans (teq hc14_12).2) ?_
      exact kk)
    obtain ⟨T14, X14, e14, st14⟩ := getS2 X0 hx hZ hown (host := "") (Or.inl (hw _ (List.mem_of_getElem? (i := 1) rfl))) Via.refl e0 S_INIT (g := (mkF m 17 #[.val (.int p0), .val (.int p1), .val (.int (v0_7_l2 p0)), .val (.int (p1 &&& (2147483647 : Int32))), .unset, .unset, .unset, .unset, .unset, .unset, .unset, .unset] [])) rfl (hb hby at_17)
    have k15 := fun (t : State) (kk : Steps p.tables e below (T14.setTop (mkF m 20 #[.val (.int p0), .val (.int p1), .val (.int (v0_7_l2 p0)), .val (.int (p1 &&& (2147483647 : Int32))), .unset, .unset, .unset, .unset, .unset, .unset, .unset, .unset] [(.ref o_INIT)])) t) => k13 t (st14 _ kk)
    have k16 := fun (t : State) (kk : Steps p.tables e below (T14.setTop (mkF m 113 #[.val (.int p0), .val (.int p1), .val (.int (v0_7_l2 p0)), .val (.int (p1 &&& (2147483647 : Int32))), .val (.ref o_INIT), .val (.long (-1 : Int64)), .second, .unset, .unset, .unset, .unset, .unset] [(.int (p1 &&& (2147483647 : Int32))), (.ref o_INIT)])) t) => k15 t (by
      show Steps p.tables e below (T14.setTop (mkF m 20 #[.val (.int p0), .val (.int p1), .val (.int (v0_7_l2 p0)), .val (.int (p1 &&& (2147483647 : Int32))), .unset, .unset, .unset, .unset, .unset, .unset, .unset, .unset] [(.ref o_INIT)])) _
      refine XS.astore X14.here hx rfl (hb hby at_20) rfl rfl (l' := #[.val (.int p0), .val (.int p1), .val (.int (v0_7_l2 p0)), .val (.int (p1 &&& (2147483647 : Int32))), .val (.ref o_INIT), .unset, .unset, .unset, .unset, .unset, .unset, .unset]) rfl ?_
      show Steps p.tables e below (T14.setTop (mkF m 22 #[.val (.int p0), .val (.int p1), .val (.int (v0_7_l2 p0)), .val (.int (p1 &&& (2147483647 : Int32))), .val (.ref o_INIT), .unset, .unset, .unset, .unset, .unset, .unset, .unset] [])) _
      refine X14.ldc2Long hx hown (mvT hZ (hw _ (List.mem_of_getElem? (i := 4) rfl))) (g := (mkF m 22 #[.val (.int p0), .val (.int p1), .val (.int (v0_7_l2 p0)), .val (.int (p1 &&& (2147483647 : Int32))), .val (.ref o_INIT), .unset, .unset, .unset, .unset, .unset, .unset, .unset] [])) rfl (hb hby at_22) _ ?_
      show Steps p.tables e below (T14.setTop (mkF m 25 #[.val (.int p0), .val (.int p1), .val (.int (v0_7_l2 p0)), .val (.int (p1 &&& (2147483647 : Int32))), .val (.ref o_INIT), .unset, .unset, .unset, .unset, .unset, .unset, .unset] [(.long (-1 : Int64))])) _
      refine XS.lstore X14.here hx rfl (hb hby at_25) rfl (l' := #[.val (.int p0), .val (.int p1), .val (.int (v0_7_l2 p0)), .val (.int (p1 &&& (2147483647 : Int32))), .val (.ref o_INIT), .val (.long (-1 : Int64)), .second, .unset, .unset, .unset, .unset, .unset]) rfl ?_
      show Steps p.tables e below (T14.setTop (mkF m 27 #[.val (.int p0), .val (.int p1), .val (.int (v0_7_l2 p0)), .val (.int (p1 &&& (2147483647 : Int32))), .val (.ref o_INIT), .val (.long (-1 : Int64)), .second, .unset, .unset, .unset, .unset, .unset] [])) _
      refine XS.goto X14.here hx rfl (pc0 := 27) (pc' := 110) rfl (hb hby at_27) (by decide) (by decide) ?_
      show Steps p.tables e below (T14.setTop (mkF m 110 #[.val (.int p0), .val (.int p1), .val (.int (v0_7_l2 p0)), .val (.int (p1 &&& (2147483647 : Int32))), .val (.ref o_INIT), .val (.long (-1 : Int64)), .second, .unset, .unset, .unset, .unset, .unset] [])) _
      refine XS.aload X14.here hx rfl (hb hby at_110) rfl rfl ?_
      show Steps p.tables e below (T14.setTop (mkF m 112 #[.val (.int p0), .val (.int p1), .val (.int (v0_7_l2 p0)), .val (.int (p1 &&& (2147483647 : Int32))), .val (.ref o_INIT), .val (.long (-1 : Int64)), .second, .unset, .unset, .unset, .unset, .unset] [(.ref o_INIT)])) _
      refine XS.iloadN X14.here hx rfl (hb hby at_112) rfl ?_
      exact kk)
    have Zz17 : n0 ≤ h0.size := (Nat.le_trans Z0 KC0.1)
    obtain ⟨cq17, kq17, q17a, q17b, q17c⟩ := isOf hZ e14 E_o_INIT
    obtain ⟨_, _, ⟨T17, L17, k17, n17⟩, -, X17, ⟨Lc17, hQ17, l17, y17, z17⟩, st17⟩ := X14.virtualBack hx (y := (⟨"com/example/slabrun/slabrun/core/UsageList", "stayFrom", "(I)I"⟩ : MethodName)) (z := (⟨"com/example/slabrun/slabrun/core/UsageList", "stayFrom", "(I)I"⟩ : MethodName)) hown (mvT hZ (hw _ (List.mem_of_getElem? (i := 5) rfl))) (mvT hZ (hw _ (List.mem_of_getElem? (i := 6) rfl))) (notFace_of_selects (args := #[]) (mvT hZ (hw _ (List.mem_of_getElem? (i := 8) rfl)))) (mvT hZ (hw _ (List.mem_of_getElem? (i := 8) rfl))) (mvT hZ (hw _ (List.mem_of_getElem? (i := 7) rfl))) (by decide) (backOf (W := 0) (rm1 l Z a0 hw [] o_INIT (p1 &&& (2147483647 : Int32)) (-1 : Int32) h0 n0 Zz17 F_lowest_o_INIT) hZ (hw _ (List.mem_of_getElem? (i := 9) rfl)) (hw _ (List.mem_of_getElem? (i := 2) rfl)) (by decide) (by decide)) q17a q17c (g := (mkF m 113 #[.val (.int p0), .val (.int p1), .val (.int (v0_7_l2 p0)), .val (.int (p1 &&& (2147483647 : Int32))), .val (.ref o_INIT), .val (.long (-1 : Int64)), .second, .unset, .unset, .unset, .unset, .unset] [(.int (p1 &&& (2147483647 : Int32))), (.ref o_INIT)])) rfl (by rw [hml]; rfl) (Steps.refl _) (argsL := [(.int (p1 &&& (2147483647 : Int32)))]) (rest := []) (lenOf pd_0 rfl) rfl (by show 2 * 0 + _ ≤ _; exact Nat.le_of_eq rfl) (hb hby at_113) (fun _ _ => ⟨rfl, e14, (by decide : 0 + 0 ≤ _), (by decide : 0 + 0 ≤ _)⟩)
    dsimp only [Pt.U, Pt.locs, Pt.cells, Pt.slots] at X17 l17 y17 z17 st17 hQ17
    subst l17 y17 z17
    obtain ⟨rfl, N17q, e17⟩ := hQ17
    have N17 := Fr.app N0 N17q
    have k18 := fun (t : State) (kk : Steps p.tables e below (T17.setTop (mkF m 116 #[.val (.int p0), .val (.int p1), .val (.int (v0_7_l2 p0)), .val (.int (p1 &&& (2147483647 : Int32))), .val (.ref o_INIT), .val (.long (-1 : Int64)), .second, .unset, .unset, .unset, .unset, .unset] [(.int (v1_ret (p1 &&& (2147483647 : Int32)) (-1 : Int32)))])) t) => k16 t (st17.trans kk)
    have k21 := fun (t : State) (kk : Steps p.tables e below (T17.setTop (mkF m 135 #[.val (.int p0), .val (.int p1), .val (.int (v0_7_l2 p0)), .val (.int (p1 &&& (2147483647 : Int32))), .val (.ref o_INIT), .val (.long (-1 : Int64)), .second, .val (.int (v0_116_l7 p1)), .unset, .unset, .unset, .unset] [(.int (v0_127_s0 p1))])) t) => k18 t (by
      show Steps p.tables e below (T17.setTop (mkF m 116 #[.val (.int p0), .val (.int p1), .val (.int (v0_7_l2 p0)), .val (.int (p1 &&& (2147483647 : Int32))), .val (.ref o_INIT), .val (.long (-1 : Int64)), .second, .unset, .unset, .unset, .unset, .unset] [(.int (v1_ret (p1 &&& (2147483647 : Int32)) (-1 : Int32)))])) _
      refine XS.istore X17.here hx rfl (hb hby at_116) rfl (l' := #[.val (.int p0), .val (.int p1), .val (.int (v0_7_l2 p0)), .val (.int (p1 &&& (2147483647 : Int32))), .val (.ref o_INIT), .val (.long (-1 : Int64)), .second, .val (.int (v0_116_l7 p1)), .unset, .unset, .unset, .unset]) rfl ?_
      show Steps p.tables e below (T17.setTop (mkF m 118 #[.val (.int p0), .val (.int p1), .val (.int (v0_7_l2 p0)), .val (.int (p1 &&& (2147483647 : Int32))), .val (.ref o_INIT), .val (.long (-1 : Int64)), .second, .val (.int (v0_116_l7 p1)), .unset, .unset, .unset, .unset] [])) _
      refine XS.lload X17.here hx rfl (hb hby at_118) rfl ?_
      show Steps p.tables e below (T17.setTop (mkF m 120 #[.val (.int p0), .val (.int p1), .val (.int (v0_7_l2 p0)), .val (.int (p1 &&& (2147483647 : Int32))), .val (.ref o_INIT), .val (.long (-1 : Int64)), .second, .val (.int (v0_116_l7 p1)), .unset, .unset, .unset, .unset] [(.long (-1 : Int64))])) _
      refine XS.lconst X17.here hx rfl (hb hby at_120) ?_
      show Steps p.tables e below (T17.setTop (mkF m 121 #[.val (.int p0), .val (.int p1), .val (.int (v0_7_l2 p0)), .val (.int (p1 &&& (2147483647 : Int32))), .val (.ref o_INIT), .val (.long (-1 : Int64)), .second, .val (.int (v0_116_l7 p1)), .unset, .unset, .unset, .unset] [(.long (0 : Int64)), (.long (-1 : Int64))])) _
      refine XS.lcmp X17.here hx rfl (hb hby at_121) rfl ?_
      show Steps p.tables e below (T17.setTop (mkF m 122 #[.val (.int p0), .val (.int p1), .val (.int (v0_7_l2 p0)), .val (.int (p1 &&& (2147483647 : Int32))), .val (.ref o_INIT), .val (.long (-1 : Int64)), .second, .val (.int (v0_116_l7 p1)), .unset, .unset, .unset, .unset] [(.int (lcmpW (-1 : Int64) (0 : Int64)))])) _
      refine XS.ifNo X17.here hx rfl (hb hby at_122) rfl ((if0 _ _).trans (tlt ((lw_lt _ _).mpr (by decide : (-1 : Int64) < (0 : Int64)))).2.1) ?_
      show Steps p.tables e below (T17.setTop (mkF m 125 #[.val (.int p0), .val (.int p1), .val (.int (v0_7_l2 p0)), .val (.int (p1 &&& (2147483647 : Int32))), .val (.ref o_INIT), .val (.long (-1 : Int64)), .second, .val (.int (v0_116_l7 p1)), .unset, .unset, .unset, .unset] [])) _
      refine XS.iload X17.here hx rfl (hb hby at_125) rfl ?_
      suffices k20 : Steps p.tables e below (T17.setTop (mkF m 135 #[.val (.int p0), .val (.int p1), .val (.int (v0_7_l2 p0)), .val (.int (p1 &&& (2147483647 : Int32))), .val (.ref o_INIT), .val (.long (-1 : Int64)), .second, .val (.int (v0_116_l7 p1)), .unset, .unset, .unset, .unset] [(.int (v0_127_s0 p1))])) t by
        by_cases hc127_19 : (v0_116_l7 p1) = (0 : Int32)
        · rw [(show (v0_127_s0 p1) = (1 : Int32) from if_pos hc127_19)] at k20
          show Steps p.tables e below (T17.setTop (mkF m 127 #[.val (.int p0), .val (.int p1), .val (.int (v0_7_l2 p0)), .val (.int (p1 &&& (2147483647 : Int32))), .val (.ref o_INIT), .val (.long (-1 : Int64)), .second, .val (.int (v0_116_l7 p1)), .unset, .unset, .unset, .unset] [(.int (v0_116_l7 p1))])) _
          refine XS.ifNo X17.here hx rfl (hb hby at_127) rfl ((if0 _ _).trans (teq hc127_19).2) ?_
          show Steps p.tables e below (T17.setTop (mkF m 130 #[.val (.int p0), .val (.int p1), .val (.int (v0_7_l2 p0)), .val (.int (p1 &&& (2147483647 : Int32))), .val (.ref o_INIT), .val (.long (-1 : Int64)), .second, .val (.int (v0_116_l7 p1)), .unset, .unset, .unset, .unset] [])) _
          refine XS.iconst X17.here hx rfl (hb hby at_130) ?_
          show Steps p.tables e below (T17.setTop (mkF m 131 #[.val (.int p0), .val (.int p1), .val (.int (v0_7_l2 p0)), .val (.int (p1 &&& (2147483647 : Int32))), .val (.ref o_INIT), .val (.long (-1 : Int64)), .second, .val (.int (v0_116_l7 p1)), .unset, .unset, .unset, .unset] [(.int (1 : Int32))])) _
          refine XS.goto X17.here hx rfl (pc0 := 131) (pc' := 135) rfl (hb hby at_131) (by decide) (by decide) ?_
          exact k20
        · rw [(show (v0_127_s0 p1) = (0 : Int32) from if_neg hc127_19)] at k20
          show Steps p.tables e below (T17.setTop (mkF m 127 #[.val (.int p0), .val (.int p1), .val (.int (v0_7_l2 p0)), .val (.int (p1 &&& (2147483647 : Int32))), .val (.ref o_INIT), .val (.long (-1 : Int64)), .second, .val (.int (v0_116_l7 p1)), .unset, .unset, .unset, .unset] [(.int (v0_116_l7 p1))])) _
          refine XS.ifYes X17.here hx rfl (pc0 := 127) (pc' := 134) rfl (hb hby at_127) rfl ((if0 _ _).trans (feq hc127_19).2) (by decide) (by decide) ?_
          show Steps p.tables e below (T17.setTop (mkF m 134 #[.val (.int p0), .val (.int p1), .val (.int (v0_7_l2 p0)), .val (.int (p1 &&& (2147483647 : Int32))), .val (.ref o_INIT), .val (.long (-1 : Int64)), .second, .val (.int (v0_116_l7 p1)), .unset, .unset, .unset, .unset] [])) _
          refine XS.iconst X17.here hx rfl (hb hby at_134) ?_
          exact k20
      exact kk)
    obtain ⟨fs, hr, hrun, hended, hW, hsame⟩ := X17.leave (v := some (.int (nar .boolean (v0_127_s0 p1)))) (fun h => by rw [Bd.returns] at h; cases h)
    have hv : (v0_ret p0 p1) = (nar .boolean (v0_127_s0 p1)) := (if_pos hc14_12)
    have hone : (nar .boolean (v0_127_s0 p1)) = 1 := hv.symm.trans (own_law p0 p1)
    refine ⟨_, _, k21 _ ?_, hrun, hended, _, _, rfl, ?_, ⟨_, rfl⟩, hW, hsame.mono (by decide) (by decide)⟩
    · show Steps p.tables e below (T17.setTop (mkF m 135 #[.val (.int p0), .val (.int p1), .val (.int (v0_7_l2 p0)), .val (.int (p1 &&& (2147483647 : Int32))), .val (.ref o_INIT), .val (.long (-1 : Int64)), .second, .val (.int (v0_116_l7 p1)), .unset, .unset, .unset, .unset] [(.int (v0_127_s0 p1))])) _
      exact retN X17 hx (t := .boolean) Bd.returns (by simp) (hb hby at_135) hr
    · show Q0 Z p0 p1 o_INIT o_U0 o_U25 o_U50 o_U75 o_U100 h0 n0 _ T17.heap _
      rw [e17]
      exact ⟨congrArg (fun z => some (Value.int z)) hone, N17⟩
  · have k22 := fun (t : State) (kk : Steps p.tables e below (s₁.setTop (mkF m 32 #[.val (.int p0), .val (.int p1), .val (.int (v0_7_l2 p0)), .val (.int (p1 &&& (2147483647 : Int32))), .unset, .unset, .unset, .unset, .unset, .unset, .unset, .unset] [(.int (1 : Int32)), (.int (v0_7_l2 p0))])) t) => k11 t (by
      show Steps p.tables e below (s₁.setTop (mkF m 14 #[.val (.int p0), .val (.int p1), .val (.int (v0_7_l2 p0)), .val (.int (p1 &&& (2147483647 : Int32))), .unset, .unset, .unset, .unset, .unset, .unset, .unset, .unset] [(.int (v0_7_l2 p0))])) _
      refine XS.ifYes X0.here hx rfl (pc0 := 14) (pc' := 30) rfl (hb hby at_14) rfl ((if0 _ _).trans (feq hc14_12).2) (by decide) (by decide) ?_
      show Steps p.tables e below (s₁.setTop (mkF m 30 #[.val (.int p0), .val (.int p1), .val (.int (v0_7_l2 p0)), .val (.int (p1 &&& (2147483647 : Int32))), .unset, .unset, .unset, .unset, .unset, .unset, .unset, .unset] [])) _
      refine XS.iloadN X0.here hx rfl (hb hby at_30) rfl ?_
      show Steps p.tables e below (s₁.setTop (mkF m 31 #[.val (.int p0), .val (.int p1), .val (.int (v0_7_l2 p0)), .val (.int (p1 &&& (2147483647 : Int32))), .unset, .unset, .unset, .unset, .unset, .unset, .unset, .unset] [(.int (v0_7_l2 p0))])) _
      refine XS.iconst X0.here hx rfl (hb hby at_31) ?_
      exact kk)
    by_cases hc32_23 : (v0_7_l2 p0) = (1 : Int32)
    · have k24 := fun (t : State) (kk : Steps p.tables e below (s₁.setTop (mkF m 35 #[.val (.int p0), .val (.int p1), .val (.int (v0_7_l2 p0)), .val (.int (p1 &&& (2147483647 : Int32))), .unset, .unset, .unset, .unset, .unset, .unset, .unset, .unset] [])) t) => k22 t (by
        show Steps p.tables e below (s₁.setTop (mkF m 32 #[.val (.int p0), .val (.int p1), .val (.int (v0_7_l2 p0)), .val (.int (p1 &&& (2147483647 : Int32))), .unset, .unset, .unset, .unset, .unset, .unset, .unset, .unset] [(.int (1 : Int32)), (.int (v0_7_l2 p0))])) _
        refine XS.icmpNo X0.here hx rfl (hb hby at_32) rfl (teq hc32_23).2 ?_
        exact kk)
      obtain ⟨T25, X25, e25, st25⟩ := getS2 X0 hx hZ hown (host := "") (Or.inl (hw _ (List.mem_of_getElem? (i := 21) rfl))) Via.refl e0 S_U0 (g := (mkF m 35 #[.val (.int p0), .val (.int p1), .val (.int (v0_7_l2 p0)), .val (.int (p1 &&& (2147483647 : Int32))), .unset, .unset, .unset, .unset, .unset, .unset, .unset, .unset] [])) rfl (hb hby at_35)
      have k26 := fun (t : State) (kk : Steps p.tables e below (T25.setTop (mkF m 38 #[.val (.int p0), .val (.int p1), .val (.int (v0_7_l2 p0)), .val (.int (p1 &&& (2147483647 : Int32))), .unset, .unset, .unset, .unset, .unset, .unset, .unset, .unset] [(.ref o_U0)])) t) => k24 t (st25 _ kk)
      have k27 := fun (t : State) (kk : Steps p.tables e below (T25.setTop (mkF m 113 #[.val (.int p0), .val (.int p1), .val (.int (v0_7_l2 p0)), .val (.int (p1 &&& (2147483647 : Int32))), .val (.ref o_U0), .val (.long (1 : Int64)), .second, .unset, .unset, .unset, .unset, .unset] [(.int (p1 &&& (2147483647 : Int32))), (.ref o_U0)])) t) => k26 t (by
        show Steps p.tables e below (T25.setTop (mkF m 38 #[.val (.int p0), .val (.int p1), .val (.int (v0_7_l2 p0)), .val (.int (p1 &&& (2147483647 : Int32))), .unset, .unset, .unset, .unset, .unset, .unset, .unset, .unset] [(.ref o_U0)])) _
        refine XS.astore X25.here hx rfl (hb hby at_38) rfl rfl (l' := #[.val (.int p0), .val (.int p1), .val (.int (v0_7_l2 p0)), .val (.int (p1 &&& (2147483647 : Int32))), .val (.ref o_U0), .unset, .unset, .unset, .unset, .unset, .unset, .unset]) rfl ?_
        show Steps p.tables e below (T25.setTop (mkF m 40 #[.val (.int p0), .val (.int p1), .val (.int (v0_7_l2 p0)), .val (.int (p1 &&& (2147483647 : Int32))), .val (.ref o_U0), .unset, .unset, .unset, .unset, .unset, .unset, .unset] [])) _
        refine XS.lconst X25.here hx rfl (hb hby at_40) ?_
        show Steps p.tables e below (T25.setTop (mkF m 41 #[.val (.int p0), .val (.int p1), .val (.int (v0_7_l2 p0)), .val (.int (p1 &&& (2147483647 : Int32))), .val (.ref o_U0), .unset, .unset, .unset, .unset, .unset, .unset, .unset] [(.long (1 : Int64))])) _
        refine XS.lstore X25.here hx rfl (hb hby at_41) rfl (l' := #[.val (.int p0), .val (.int p1), .val (.int (v0_7_l2 p0)), .val (.int (p1 &&& (2147483647 : Int32))), .val (.ref o_U0), .val (.long (1 : Int64)), .second, .unset, .unset, .unset, .unset, .unset]) rfl ?_
        show Steps p.tables e below (T25.setTop (mkF m 43 #[.val (.int p0), .val (.int p1), .val (.int (v0_7_l2 p0)), .val (.int (p1 &&& (2147483647 : Int32))), .val (.ref o_U0), .val (.long (1 : Int64)), .second, .unset, .unset, .unset, .unset, .unset] [])) _
        refine XS.goto X25.here hx rfl (pc0 := 43) (pc' := 110) rfl (hb hby at_43) (by decide) (by decide) ?_
        show Steps p.tables e below (T25.setTop (mkF m 110 #[.val (.int p0), .val (.int p1), .val (.int (v0_7_l2 p0)), .val (.int (p1 &&& (2147483647 : Int32))), .val (.ref o_U0), .val (.long (1 : Int64)), .second, .unset, .unset, .unset, .unset, .unset] [])) _
        refine XS.aload X25.here hx rfl (hb hby at_110) rfl rfl ?_
        show Steps p.tables e below (T25.setTop (mkF m 112 #[.val (.int p0), .val (.int p1), .val (.int (v0_7_l2 p0)), .val (.int (p1 &&& (2147483647 : Int32))), .val (.ref o_U0), .val (.long (1 : Int64)), .second, .unset, .unset, .unset, .unset, .unset] [(.ref o_U0)])) _
        refine XS.iloadN X25.here hx rfl (hb hby at_112) rfl ?_
        exact kk)
      have Zz28 : n0 ≤ h0.size := (Nat.le_trans Z0 KC0.1)
      obtain ⟨cq28, kq28, q28a, q28b, q28c⟩ := isOf hZ e25 E_o_U0
      obtain ⟨_, _, ⟨T28, L28, k28, n28⟩, -, X28, ⟨Lc28, hQ28, l28, y28, z28⟩, st28⟩ := X25.virtualBack hx (y := (⟨"com/example/slabrun/slabrun/core/UsageList", "stayFrom", "(I)I"⟩ : MethodName)) (z := (⟨"com/example/slabrun/slabrun/core/UsageList", "stayFrom", "(I)I"⟩ : MethodName)) hown (mvT hZ (hw _ (List.mem_of_getElem? (i := 5) rfl))) (mvT hZ (hw _ (List.mem_of_getElem? (i := 6) rfl))) (notFace_of_selects (args := #[]) (mvT hZ (hw _ (List.mem_of_getElem? (i := 8) rfl)))) (mvT hZ (hw _ (List.mem_of_getElem? (i := 8) rfl))) (mvT hZ (hw _ (List.mem_of_getElem? (i := 7) rfl))) (by decide) (backOf (W := 0) (rm1 l Z a0 hw [] o_U0 (p1 &&& (2147483647 : Int32)) (1 : Int32) h0 n0 Zz28 F_lowest_o_U0) hZ (hw _ (List.mem_of_getElem? (i := 9) rfl)) (hw _ (List.mem_of_getElem? (i := 2) rfl)) (by decide) (by decide)) q28a q28c (g := (mkF m 113 #[.val (.int p0), .val (.int p1), .val (.int (v0_7_l2 p0)), .val (.int (p1 &&& (2147483647 : Int32))), .val (.ref o_U0), .val (.long (1 : Int64)), .second, .unset, .unset, .unset, .unset, .unset] [(.int (p1 &&& (2147483647 : Int32))), (.ref o_U0)])) rfl (by rw [hml]; rfl) (Steps.refl _) (argsL := [(.int (p1 &&& (2147483647 : Int32)))]) (rest := []) (lenOf pd_0 rfl) rfl (by show 2 * 0 + _ ≤ _; exact Nat.le_of_eq rfl) (hb hby at_113) (fun _ _ => ⟨rfl, e25, (by decide : 0 + 0 ≤ _), (by decide : 0 + 0 ≤ _)⟩)
      dsimp only [Pt.U, Pt.locs, Pt.cells, Pt.slots] at X28 l28 y28 z28 st28 hQ28
      subst l28 y28 z28
      obtain ⟨rfl, N28q, e28⟩ := hQ28
      have N28 := Fr.app N0 N28q
      have k29 := fun (t : State) (kk : Steps p.tables e below (T28.setTop (mkF m 116 #[.val (.int p0), .val (.int p1), .val (.int (v0_7_l2 p0)), .val (.int (p1 &&& (2147483647 : Int32))), .val (.ref o_U0), .val (.long (1 : Int64)), .second, .unset, .unset, .unset, .unset, .unset] [(.int (v1_ret (p1 &&& (2147483647 : Int32)) (1 : Int32)))])) t) => k27 t (st28.trans kk)
      have k34 := fun (t : State) (kk : Steps p.tables e below (T28.setTop (mkF m 179 #[.val (.int p0), .val (.int p1), .val (.int (v0_7_l2 p0)), .val (.int (p1 &&& (2147483647 : Int32))), .val (.ref o_U0), .val (.long (1 : Int64)), .second, .val (.int (v0_116_l7_1 p1)), .val (.long (v0_141_l8 p1)), .second, .val (.long ((v0_116_l7_1 p1).toInt64)), .second] [(.int (v0_157_s0 p1))])) t) => k29 t (by
        show Steps p.tables e below (T28.setTop (mkF m 116 #[.val (.int p0), .val (.int p1), .val (.int (v0_7_l2 p0)), .val (.int (p1 &&& (2147483647 : Int32))), .val (.ref o_U0), .val (.long (1 : Int64)), .second, .unset, .unset, .unset, .unset, .unset] [(.int (v1_ret (p1 &&& (2147483647 : Int32)) (1 : Int32)))])) _
        refine XS.istore X28.here hx rfl (hb hby at_116) rfl (l' := #[.val (.int p0), .val (.int p1), .val (.int (v0_7_l2 p0)), .val (.int (p1 &&& (2147483647 : Int32))), .val (.ref o_U0), .val (.long (1 : Int64)), .second, .val (.int (v0_116_l7_1 p1)), .unset, .unset, .unset, .unset]) rfl ?_
        show Steps p.tables e below (T28.setTop (mkF m 118 #[.val (.int p0), .val (.int p1), .val (.int (v0_7_l2 p0)), .val (.int (p1 &&& (2147483647 : Int32))), .val (.ref o_U0), .val (.long (1 : Int64)), .second, .val (.int (v0_116_l7_1 p1)), .unset, .unset, .unset, .unset] [])) _
        refine XS.lload X28.here hx rfl (hb hby at_118) rfl ?_
        show Steps p.tables e below (T28.setTop (mkF m 120 #[.val (.int p0), .val (.int p1), .val (.int (v0_7_l2 p0)), .val (.int (p1 &&& (2147483647 : Int32))), .val (.ref o_U0), .val (.long (1 : Int64)), .second, .val (.int (v0_116_l7_1 p1)), .unset, .unset, .unset, .unset] [(.long (1 : Int64))])) _
        refine XS.lconst X28.here hx rfl (hb hby at_120) ?_
        show Steps p.tables e below (T28.setTop (mkF m 121 #[.val (.int p0), .val (.int p1), .val (.int (v0_7_l2 p0)), .val (.int (p1 &&& (2147483647 : Int32))), .val (.ref o_U0), .val (.long (1 : Int64)), .second, .val (.int (v0_116_l7_1 p1)), .unset, .unset, .unset, .unset] [(.long (0 : Int64)), (.long (1 : Int64))])) _
        refine XS.lcmp X28.here hx rfl (hb hby at_121) rfl ?_
        show Steps p.tables e below (T28.setTop (mkF m 122 #[.val (.int p0), .val (.int p1), .val (.int (v0_7_l2 p0)), .val (.int (p1 &&& (2147483647 : Int32))), .val (.ref o_U0), .val (.long (1 : Int64)), .second, .val (.int (v0_116_l7_1 p1)), .unset, .unset, .unset, .unset] [(.int (lcmpW (1 : Int64) (0 : Int64)))])) _
        refine XS.ifYes X28.here hx rfl (pc0 := 122) (pc' := 136) rfl (hb hby at_122) rfl ((if0 _ _).trans (flt (fun q => (by decide : ¬ ((1 : Int64) < (0 : Int64))) ((lw_lt _ _).mp q))).2.1) (by decide) (by decide) ?_
        show Steps p.tables e below (T28.setTop (mkF m 136 #[.val (.int p0), .val (.int p1), .val (.int (v0_7_l2 p0)), .val (.int (p1 &&& (2147483647 : Int32))), .val (.ref o_U0), .val (.long (1 : Int64)), .second, .val (.int (v0_116_l7_1 p1)), .unset, .unset, .unset, .unset] [])) _
        refine XS.lload X28.here hx rfl (hb hby at_136) rfl ?_
        show Steps p.tables e below (T28.setTop (mkF m 138 #[.val (.int p0), .val (.int p1), .val (.int (v0_7_l2 p0)), .val (.int (p1 &&& (2147483647 : Int32))), .val (.ref o_U0), .val (.long (1 : Int64)), .second, .val (.int (v0_116_l7_1 p1)), .unset, .unset, .unset, .unset] [(.long (1 : Int64))])) _
        refine XS.iloadN X28.here hx rfl (hb hby at_138) rfl ?_
        show Steps p.tables e below (T28.setTop (mkF m 139 #[.val (.int p0), .val (.int p1), .val (.int (v0_7_l2 p0)), .val (.int (p1 &&& (2147483647 : Int32))), .val (.ref o_U0), .val (.long (1 : Int64)), .second, .val (.int (v0_116_l7_1 p1)), .unset, .unset, .unset, .unset] [(.int (p1 &&& (2147483647 : Int32))), (.long (1 : Int64))])) _
        refine XS.i2l X28.here hx rfl (hb hby at_139) rfl ?_
        show Steps p.tables e below (T28.setTop (mkF m 140 #[.val (.int p0), .val (.int p1), .val (.int (v0_7_l2 p0)), .val (.int (p1 &&& (2147483647 : Int32))), .val (.ref o_U0), .val (.long (1 : Int64)), .second, .val (.int (v0_116_l7_1 p1)), .unset, .unset, .unset, .unset] [(.long ((p1 &&& (2147483647 : Int32)).toInt64)), (.long (1 : Int64))])) _
        refine XS.lmul X28.here hx rfl (hb hby at_140) rfl ?_
        show Steps p.tables e below (T28.setTop (mkF m 141 #[.val (.int p0), .val (.int p1), .val (.int (v0_7_l2 p0)), .val (.int (p1 &&& (2147483647 : Int32))), .val (.ref o_U0), .val (.long (1 : Int64)), .second, .val (.int (v0_116_l7_1 p1)), .unset, .unset, .unset, .unset] [(.long ((1 : Int64) * ((p1 &&& (2147483647 : Int32)).toInt64)))])) _
        refine XS.lstore X28.here hx rfl (hb hby at_141) rfl (l' := #[.val (.int p0), .val (.int p1), .val (.int (v0_7_l2 p0)), .val (.int (p1 &&& (2147483647 : Int32))), .val (.ref o_U0), .val (.long (1 : Int64)), .second, .val (.int (v0_116_l7_1 p1)), .val (.long (v0_141_l8 p1)), .second, .unset, .unset]) rfl ?_
        show Steps p.tables e below (T28.setTop (mkF m 143 #[.val (.int p0), .val (.int p1), .val (.int (v0_7_l2 p0)), .val (.int (p1 &&& (2147483647 : Int32))), .val (.ref o_U0), .val (.long (1 : Int64)), .second, .val (.int (v0_116_l7_1 p1)), .val (.long (v0_141_l8 p1)), .second, .unset, .unset] [])) _
        refine XS.iload X28.here hx rfl (hb hby at_143) rfl ?_
        show Steps p.tables e below (T28.setTop (mkF m 145 #[.val (.int p0), .val (.int p1), .val (.int (v0_7_l2 p0)), .val (.int (p1 &&& (2147483647 : Int32))), .val (.ref o_U0), .val (.long (1 : Int64)), .second, .val (.int (v0_116_l7_1 p1)), .val (.long (v0_141_l8 p1)), .second, .unset, .unset] [(.int (v0_116_l7_1 p1))])) _
        refine XS.i2l X28.here hx rfl (hb hby at_145) rfl ?_
        show Steps p.tables e below (T28.setTop (mkF m 146 #[.val (.int p0), .val (.int p1), .val (.int (v0_7_l2 p0)), .val (.int (p1 &&& (2147483647 : Int32))), .val (.ref o_U0), .val (.long (1 : Int64)), .second, .val (.int (v0_116_l7_1 p1)), .val (.long (v0_141_l8 p1)), .second, .unset, .unset] [(.long ((v0_116_l7_1 p1).toInt64))])) _
        refine XS.lstore X28.here hx rfl (hb hby at_146) rfl (l' := #[.val (.int p0), .val (.int p1), .val (.int (v0_7_l2 p0)), .val (.int (p1 &&& (2147483647 : Int32))), .val (.ref o_U0), .val (.long (1 : Int64)), .second, .val (.int (v0_116_l7_1 p1)), .val (.long (v0_141_l8 p1)), .second, .val (.long ((v0_116_l7_1 p1).toInt64)), .second]) rfl ?_
        show Steps p.tables e below (T28.setTop (mkF m 148 #[.val (.int p0), .val (.int p1), .val (.int (v0_7_l2 p0)), .val (.int (p1 &&& (2147483647 : Int32))), .val (.ref o_U0), .val (.long (1 : Int64)), .second, .val (.int (v0_116_l7_1 p1)), .val (.long (v0_141_l8 p1)), .second, .val (.long ((v0_116_l7_1 p1).toInt64)), .second] [])) _
        refine XS.lload X28.here hx rfl (hb hby at_148) rfl ?_
        show Steps p.tables e below (T28.setTop (mkF m 150 #[.val (.int p0), .val (.int p1), .val (.int (v0_7_l2 p0)), .val (.int (p1 &&& (2147483647 : Int32))), .val (.ref o_U0), .val (.long (1 : Int64)), .second, .val (.int (v0_116_l7_1 p1)), .val (.long (v0_141_l8 p1)), .second, .val (.long ((v0_116_l7_1 p1).toInt64)), .second] [(.long ((v0_116_l7_1 p1).toInt64))])) _
        refine X28.ldc2Long hx hown (mvT hZ (hw _ (List.mem_of_getElem? (i := 17) rfl))) (g := (mkF m 150 #[.val (.int p0), .val (.int p1), .val (.int (v0_7_l2 p0)), .val (.int (p1 &&& (2147483647 : Int32))), .val (.ref o_U0), .val (.long (1 : Int64)), .second, .val (.int (v0_116_l7_1 p1)), .val (.long (v0_141_l8 p1)), .second, .val (.long ((v0_116_l7_1 p1).toInt64)), .second] [(.long ((v0_116_l7_1 p1).toInt64))])) rfl (hb hby at_150) _ ?_
        show Steps p.tables e below (T28.setTop (mkF m 153 #[.val (.int p0), .val (.int p1), .val (.int (v0_7_l2 p0)), .val (.int (p1 &&& (2147483647 : Int32))), .val (.ref o_U0), .val (.long (1 : Int64)), .second, .val (.int (v0_116_l7_1 p1)), .val (.long (v0_141_l8 p1)), .second, .val (.long ((v0_116_l7_1 p1).toInt64)), .second] [(.long (100 : Int64)), (.long ((v0_116_l7_1 p1).toInt64))])) _
        refine XS.lmul X28.here hx rfl (hb hby at_153) rfl ?_
        show Steps p.tables e below (T28.setTop (mkF m 154 #[.val (.int p0), .val (.int p1), .val (.int (v0_7_l2 p0)), .val (.int (p1 &&& (2147483647 : Int32))), .val (.ref o_U0), .val (.long (1 : Int64)), .second, .val (.int (v0_116_l7_1 p1)), .val (.long (v0_141_l8 p1)), .second, .val (.long ((v0_116_l7_1 p1).toInt64)), .second] [(.long (((v0_116_l7_1 p1).toInt64) * (100 : Int64)))])) _
        refine XS.lload X28.here hx rfl (hb hby at_154) rfl ?_
        show Steps p.tables e below (T28.setTop (mkF m 156 #[.val (.int p0), .val (.int p1), .val (.int (v0_7_l2 p0)), .val (.int (p1 &&& (2147483647 : Int32))), .val (.ref o_U0), .val (.long (1 : Int64)), .second, .val (.int (v0_116_l7_1 p1)), .val (.long (v0_141_l8 p1)), .second, .val (.long ((v0_116_l7_1 p1).toInt64)), .second] [(.long (v0_141_l8 p1)), (.long (((v0_116_l7_1 p1).toInt64) * (100 : Int64)))])) _
        refine XS.lcmp X28.here hx rfl (hb hby at_156) rfl ?_
        suffices k33 : Steps p.tables e below (T28.setTop (mkF m 179 #[.val (.int p0), .val (.int p1), .val (.int (v0_7_l2 p0)), .val (.int (p1 &&& (2147483647 : Int32))), .val (.ref o_U0), .val (.long (1 : Int64)), .second, .val (.int (v0_116_l7_1 p1)), .val (.long (v0_141_l8 p1)), .second, .val (.long ((v0_116_l7_1 p1).toInt64)), .second] [(.int (v0_157_s0 p1))])) t by
          by_cases hc157_30 : (((v0_116_l7_1 p1).toInt64) * (100 : Int64)) < (v0_141_l8 p1)
          · rw [(show (v0_157_s0 p1) = (0 : Int32) from if_pos hc157_30)] at k33
            show Steps p.tables e below (T28.setTop (mkF m 157 #[.val (.int p0), .val (.int p1), .val (.int (v0_7_l2 p0)), .val (.int (p1 &&& (2147483647 : Int32))), .val (.ref o_U0), .val (.long (1 : Int64)), .second, .val (.int (v0_116_l7_1 p1)), .val (.long (v0_141_l8 p1)), .second, .val (.long ((v0_116_l7_1 p1).toInt64)), .second] [(.int (lcmpW (((v0_116_l7_1 p1).toInt64) * (100 : Int64)) (v0_141_l8 p1)))])) _
            refine XS.ifYes X28.here hx rfl (pc0 := 157) (pc' := 178) rfl (hb hby at_157) rfl ((if0 _ _).trans (tlt ((lw_lt _ _).mpr hc157_30)).1) (by decide) (by decide) ?_
            show Steps p.tables e below (T28.setTop (mkF m 178 #[.val (.int p0), .val (.int p1), .val (.int (v0_7_l2 p0)), .val (.int (p1 &&& (2147483647 : Int32))), .val (.ref o_U0), .val (.long (1 : Int64)), .second, .val (.int (v0_116_l7_1 p1)), .val (.long (v0_141_l8 p1)), .second, .val (.long ((v0_116_l7_1 p1).toInt64)), .second] [])) _
            refine XS.iconst X28.here hx rfl (hb hby at_178) ?_
            exact k33
          · rw [(show (v0_157_s0 p1) = (v0_171_s0 p1) from if_neg hc157_30)] at k33
            show Steps p.tables e below (T28.setTop (mkF m 157 #[.val (.int p0), .val (.int p1), .val (.int (v0_7_l2 p0)), .val (.int (p1 &&& (2147483647 : Int32))), .val (.ref o_U0), .val (.long (1 : Int64)), .second, .val (.int (v0_116_l7_1 p1)), .val (.long (v0_141_l8 p1)), .second, .val (.long ((v0_116_l7_1 p1).toInt64)), .second] [(.int (lcmpW (((v0_116_l7_1 p1).toInt64) * (100 : Int64)) (v0_141_l8 p1)))])) _
            refine XS.ifNo X28.here hx rfl (hb hby at_157) rfl ((if0 _ _).trans (flt (fun q => hc157_30 ((lw_lt _ _).mp q))).1) ?_
            show Steps p.tables e below (T28.setTop (mkF m 160 #[.val (.int p0), .val (.int p1), .val (.int (v0_7_l2 p0)), .val (.int (p1 &&& (2147483647 : Int32))), .val (.ref o_U0), .val (.long (1 : Int64)), .second, .val (.int (v0_116_l7_1 p1)), .val (.long (v0_141_l8 p1)), .second, .val (.long ((v0_116_l7_1 p1).toInt64)), .second] [])) _
            refine XS.lload X28.here hx rfl (hb hby at_160) rfl ?_
            show Steps p.tables e below (T28.setTop (mkF m 162 #[.val (.int p0), .val (.int p1), .val (.int (v0_7_l2 p0)), .val (.int (p1 &&& (2147483647 : Int32))), .val (.ref o_U0), .val (.long (1 : Int64)), .second, .val (.int (v0_116_l7_1 p1)), .val (.long (v0_141_l8 p1)), .second, .val (.long ((v0_116_l7_1 p1).toInt64)), .second] [(.long ((v0_116_l7_1 p1).toInt64))])) _
            refine XS.lconst X28.here hx rfl (hb hby at_162) ?_
            show Steps p.tables e below (T28.setTop (mkF m 163 #[.val (.int p0), .val (.int p1), .val (.int (v0_7_l2 p0)), .val (.int (p1 &&& (2147483647 : Int32))), .val (.ref o_U0), .val (.long (1 : Int64)), .second, .val (.int (v0_116_l7_1 p1)), .val (.long (v0_141_l8 p1)), .second, .val (.long ((v0_116_l7_1 p1).toInt64)), .second] [(.long (1 : Int64)), (.long ((v0_116_l7_1 p1).toInt64))])) _
            refine XS.lsub X28.here hx rfl (hb hby at_163) rfl ?_
            show Steps p.tables e below (T28.setTop (mkF m 164 #[.val (.int p0), .val (.int p1), .val (.int (v0_7_l2 p0)), .val (.int (p1 &&& (2147483647 : Int32))), .val (.ref o_U0), .val (.long (1 : Int64)), .second, .val (.int (v0_116_l7_1 p1)), .val (.long (v0_141_l8 p1)), .second, .val (.long ((v0_116_l7_1 p1).toInt64)), .second] [(.long (((v0_116_l7_1 p1).toInt64) - (1 : Int64)))])) _
            refine X28.ldc2Long hx hown (mvT hZ (hw _ (List.mem_of_getElem? (i := 17) rfl))) (g := (mkF m 164 #[.val (.int p0), .val (.int p1), .val (.int (v0_7_l2 p0)), .val (.int (p1 &&& (2147483647 : Int32))), .val (.ref o_U0), .val (.long (1 : Int64)), .second, .val (.int (v0_116_l7_1 p1)), .val (.long (v0_141_l8 p1)), .second, .val (.long ((v0_116_l7_1 p1).toInt64)), .second] [(.long (((v0_116_l7_1 p1).toInt64) - (1 : Int64)))])) rfl (hb hby at_164) _ ?_
            show Steps p.tables e below (T28.setTop (mkF m 167 #[.val (.int p0), .val (.int p1), .val (.int (v0_7_l2 p0)), .val (.int (p1 &&& (2147483647 : Int32))), .val (.ref o_U0), .val (.long (1 : Int64)), .second, .val (.int (v0_116_l7_1 p1)), .val (.long (v0_141_l8 p1)), .second, .val (.long ((v0_116_l7_1 p1).toInt64)), .second] [(.long (100 : Int64)), (.long (((v0_116_l7_1 p1).toInt64) - (1 : Int64)))])) _
            refine XS.lmul X28.here hx rfl (hb hby at_167) rfl ?_
            show Steps p.tables e below (T28.setTop (mkF m 168 #[.val (.int p0), .val (.int p1), .val (.int (v0_7_l2 p0)), .val (.int (p1 &&& (2147483647 : Int32))), .val (.ref o_U0), .val (.long (1 : Int64)), .second, .val (.int (v0_116_l7_1 p1)), .val (.long (v0_141_l8 p1)), .second, .val (.long ((v0_116_l7_1 p1).toInt64)), .second] [(.long ((((v0_116_l7_1 p1).toInt64) - (1 : Int64)) * (100 : Int64)))])) _
            refine XS.lload X28.here hx rfl (hb hby at_168) rfl ?_
            show Steps p.tables e below (T28.setTop (mkF m 170 #[.val (.int p0), .val (.int p1), .val (.int (v0_7_l2 p0)), .val (.int (p1 &&& (2147483647 : Int32))), .val (.ref o_U0), .val (.long (1 : Int64)), .second, .val (.int (v0_116_l7_1 p1)), .val (.long (v0_141_l8 p1)), .second, .val (.long ((v0_116_l7_1 p1).toInt64)), .second] [(.long (v0_141_l8 p1)), (.long ((((v0_116_l7_1 p1).toInt64) - (1 : Int64)) * (100 : Int64)))])) _
            refine XS.lcmp X28.here hx rfl (hb hby at_170) rfl ?_
            suffices k32 : Steps p.tables e below (T28.setTop (mkF m 179 #[.val (.int p0), .val (.int p1), .val (.int (v0_7_l2 p0)), .val (.int (p1 &&& (2147483647 : Int32))), .val (.ref o_U0), .val (.long (1 : Int64)), .second, .val (.int (v0_116_l7_1 p1)), .val (.long (v0_141_l8 p1)), .second, .val (.long ((v0_116_l7_1 p1).toInt64)), .second] [(.int (v0_171_s0 p1))])) t by
              by_cases hc171_31 : ((((v0_116_l7_1 p1).toInt64) - (1 : Int64)) * (100 : Int64)) < (v0_141_l8 p1)
              · rw [(show (v0_171_s0 p1) = (1 : Int32) from if_pos hc171_31)] at k32
                show Steps p.tables e below (T28.setTop (mkF m 171 #[.val (.int p0), .val (.int p1), .val (.int (v0_7_l2 p0)), .val (.int (p1 &&& (2147483647 : Int32))), .val (.ref o_U0), .val (.long (1 : Int64)), .second, .val (.int (v0_116_l7_1 p1)), .val (.long (v0_141_l8 p1)), .second, .val (.long ((v0_116_l7_1 p1).toInt64)), .second] [(.int (lcmpW ((((v0_116_l7_1 p1).toInt64) - (1 : Int64)) * (100 : Int64)) (v0_141_l8 p1)))])) _
                refine XS.ifNo X28.here hx rfl (hb hby at_171) rfl ((if0 _ _).trans (tlt ((lw_lt _ _).mpr hc171_31)).2.1) ?_
                show Steps p.tables e below (T28.setTop (mkF m 174 #[.val (.int p0), .val (.int p1), .val (.int (v0_7_l2 p0)), .val (.int (p1 &&& (2147483647 : Int32))), .val (.ref o_U0), .val (.long (1 : Int64)), .second, .val (.int (v0_116_l7_1 p1)), .val (.long (v0_141_l8 p1)), .second, .val (.long ((v0_116_l7_1 p1).toInt64)), .second] [])) _
                refine XS.iconst X28.here hx rfl (hb hby at_174) ?_
                show Steps p.tables e below (T28.setTop (mkF m 175 #[.val (.int p0), .val (.int p1), .val (.int (v0_7_l2 p0)), .val (.int (p1 &&& (2147483647 : Int32))), .val (.ref o_U0), .val (.long (1 : Int64)), .second, .val (.int (v0_116_l7_1 p1)), .val (.long (v0_141_l8 p1)), .second, .val (.long ((v0_116_l7_1 p1).toInt64)), .second] [(.int (1 : Int32))])) _
                refine XS.goto X28.here hx rfl (pc0 := 175) (pc' := 179) rfl (hb hby at_175) (by decide) (by decide) ?_
                exact k32
              · rw [(show (v0_171_s0 p1) = (0 : Int32) from if_neg hc171_31)] at k32
                show Steps p.tables e below (T28.setTop (mkF m 171 #[.val (.int p0), .val (.int p1), .val (.int (v0_7_l2 p0)), .val (.int (p1 &&& (2147483647 : Int32))), .val (.ref o_U0), .val (.long (1 : Int64)), .second, .val (.int (v0_116_l7_1 p1)), .val (.long (v0_141_l8 p1)), .second, .val (.long ((v0_116_l7_1 p1).toInt64)), .second] [(.int (lcmpW ((((v0_116_l7_1 p1).toInt64) - (1 : Int64)) * (100 : Int64)) (v0_141_l8 p1)))])) _
                refine XS.ifYes X28.here hx rfl (pc0 := 171) (pc' := 178) rfl (hb hby at_171) rfl ((if0 _ _).trans (flt (fun q => hc171_31 ((lw_lt _ _).mp q))).2.1) (by decide) (by decide) ?_
                show Steps p.tables e below (T28.setTop (mkF m 178 #[.val (.int p0), .val (.int p1), .val (.int (v0_7_l2 p0)), .val (.int (p1 &&& (2147483647 : Int32))), .val (.ref o_U0), .val (.long (1 : Int64)), .second, .val (.int (v0_116_l7_1 p1)), .val (.long (v0_141_l8 p1)), .second, .val (.long ((v0_116_l7_1 p1).toInt64)), .second] [])) _
                refine XS.iconst X28.here hx rfl (hb hby at_178) ?_
                exact k32
            exact k33
        exact kk)
      obtain ⟨fs, hr, hrun, hended, hW, hsame⟩ := X28.leave (v := some (.int (nar .boolean (v0_157_s0 p1)))) (fun h => by rw [Bd.returns] at h; cases h)
      have hv : (v0_ret p0 p1) = (nar .boolean (v0_157_s0 p1)) := ((if_neg hc14_12).trans (if_pos hc32_23))
      have hone : (nar .boolean (v0_157_s0 p1)) = 1 := hv.symm.trans (own_law p0 p1)
      refine ⟨_, _, k34 _ ?_, hrun, hended, _, _, rfl, ?_, ⟨_, rfl⟩, hW, hsame.mono (by decide) (by decide)⟩
      · show Steps p.tables e below (T28.setTop (mkF m 179 #[.val (.int p0), .val (.int p1), .val (.int (v0_7_l2 p0)), .val (.int (p1 &&& (2147483647 : Int32))), .val (.ref o_U0), .val (.long (1 : Int64)), .second, .val (.int (v0_116_l7_1 p1)), .val (.long (v0_141_l8 p1)), .second, .val (.long ((v0_116_l7_1 p1).toInt64)), .second] [(.int (v0_157_s0 p1))])) _
        exact retN X28 hx (t := .boolean) Bd.returns (by simp) (hb hby at_179) hr
      · show Q0 Z p0 p1 o_INIT o_U0 o_U25 o_U50 o_U75 o_U100 h0 n0 _ T28.heap _
        rw [e28]
        exact ⟨congrArg (fun z => some (Value.int z)) hone, N28⟩
    · have k35 := fun (t : State) (kk : Steps p.tables e below (s₁.setTop (mkF m 48 #[.val (.int p0), .val (.int p1), .val (.int (v0_7_l2 p0)), .val (.int (p1 &&& (2147483647 : Int32))), .unset, .unset, .unset, .unset, .unset, .unset, .unset, .unset] [(.int (2 : Int32)), (.int (v0_7_l2 p0))])) t) => k22 t (by
        show Steps p.tables e below (s₁.setTop (mkF m 32 #[.val (.int p0), .val (.int p1), .val (.int (v0_7_l2 p0)), .val (.int (p1 &&& (2147483647 : Int32))), .unset, .unset, .unset, .unset, .unset, .unset, .unset, .unset] [(.int (1 : Int32)), (.int (v0_7_l2 p0))])) _
        refine XS.icmpYes X0.here hx rfl (pc0 := 32) (pc' := 46) rfl (hb hby at_32) rfl (feq hc32_23).2 (by decide) (by decide) ?_
        show Steps p.tables e below (s₁.setTop (mkF m 46 #[.val (.int p0), .val (.int p1), .val (.int (v0_7_l2 p0)), .val (.int (p1 &&& (2147483647 : Int32))), .unset, .unset, .unset, .unset, .unset, .unset, .unset, .unset] [])) _
        refine XS.iloadN X0.here hx rfl (hb hby at_46) rfl ?_
        show Steps p.tables e below (s₁.setTop (mkF m 47 #[.val (.int p0), .val (.int p1), .val (.int (v0_7_l2 p0)), .val (.int (p1 &&& (2147483647 : Int32))), .unset, .unset, .unset, .unset, .unset, .unset, .unset, .unset] [(.int (v0_7_l2 p0))])) _
        refine XS.iconst X0.here hx rfl (hb hby at_47) ?_
        exact kk)
      by_cases hc48_36 : (v0_7_l2 p0) = (2 : Int32)
      · have k37 := fun (t : State) (kk : Steps p.tables e below (s₁.setTop (mkF m 51 #[.val (.int p0), .val (.int p1), .val (.int (v0_7_l2 p0)), .val (.int (p1 &&& (2147483647 : Int32))), .unset, .unset, .unset, .unset, .unset, .unset, .unset, .unset] [])) t) => k35 t (by
          show Steps p.tables e below (s₁.setTop (mkF m 48 #[.val (.int p0), .val (.int p1), .val (.int (v0_7_l2 p0)), .val (.int (p1 &&& (2147483647 : Int32))), .unset, .unset, .unset, .unset, .unset, .unset, .unset, .unset] [(.int (2 : Int32)), (.int (v0_7_l2 p0))])) _
          refine XS.icmpNo X0.here hx rfl (hb hby at_48) rfl (teq hc48_36).2 ?_
          exact kk)
        obtain ⟨T38, X38, e38, st38⟩ := getS2 X0 hx hZ hown (host := "") (Or.inl (hw _ (List.mem_of_getElem? (i := 12) rfl))) Via.refl e0 S_U25 (g := (mkF m 51 #[.val (.int p0), .val (.int p1), .val (.int (v0_7_l2 p0)), .val (.int (p1 &&& (2147483647 : Int32))), .unset, .unset, .unset, .unset, .unset, .unset, .unset, .unset] [])) rfl (hb hby at_51)
        have k39 := fun (t : State) (kk : Steps p.tables e below (T38.setTop (mkF m 54 #[.val (.int p0), .val (.int p1), .val (.int (v0_7_l2 p0)), .val (.int (p1 &&& (2147483647 : Int32))), .unset, .unset, .unset, .unset, .unset, .unset, .unset, .unset] [(.ref o_U25)])) t) => k37 t (st38 _ kk)
        have k40 := fun (t : State) (kk : Steps p.tables e below (T38.setTop (mkF m 113 #[.val (.int p0), .val (.int p1), .val (.int (v0_7_l2 p0)), .val (.int (p1 &&& (2147483647 : Int32))), .val (.ref o_U25), .val (.long (25 : Int64)), .second, .unset, .unset, .unset, .unset, .unset] [(.int (p1 &&& (2147483647 : Int32))), (.ref o_U25)])) t) => k39 t (by
          show Steps p.tables e below (T38.setTop (mkF m 54 #[.val (.int p0), .val (.int p1), .val (.int (v0_7_l2 p0)), .val (.int (p1 &&& (2147483647 : Int32))), .unset, .unset, .unset, .unset, .unset, .unset, .unset, .unset] [(.ref o_U25)])) _
          refine XS.astore X38.here hx rfl (hb hby at_54) rfl rfl (l' := #[.val (.int p0), .val (.int p1), .val (.int (v0_7_l2 p0)), .val (.int (p1 &&& (2147483647 : Int32))), .val (.ref o_U25), .unset, .unset, .unset, .unset, .unset, .unset, .unset]) rfl ?_
          show Steps p.tables e below (T38.setTop (mkF m 56 #[.val (.int p0), .val (.int p1), .val (.int (v0_7_l2 p0)), .val (.int (p1 &&& (2147483647 : Int32))), .val (.ref o_U25), .unset, .unset, .unset, .unset, .unset, .unset, .unset] [])) _
          refine X38.ldc2Long hx hown (mvT hZ (hw _ (List.mem_of_getElem? (i := 14) rfl))) (g := (mkF m 56 #[.val (.int p0), .val (.int p1), .val (.int (v0_7_l2 p0)), .val (.int (p1 &&& (2147483647 : Int32))), .val (.ref o_U25), .unset, .unset, .unset, .unset, .unset, .unset, .unset] [])) rfl (hb hby at_56) _ ?_
          show Steps p.tables e below (T38.setTop (mkF m 59 #[.val (.int p0), .val (.int p1), .val (.int (v0_7_l2 p0)), .val (.int (p1 &&& (2147483647 : Int32))), .val (.ref o_U25), .unset, .unset, .unset, .unset, .unset, .unset, .unset] [(.long (25 : Int64))])) _
          refine XS.lstore X38.here hx rfl (hb hby at_59) rfl (l' := #[.val (.int p0), .val (.int p1), .val (.int (v0_7_l2 p0)), .val (.int (p1 &&& (2147483647 : Int32))), .val (.ref o_U25), .val (.long (25 : Int64)), .second, .unset, .unset, .unset, .unset, .unset]) rfl ?_
          show Steps p.tables e below (T38.setTop (mkF m 61 #[.val (.int p0), .val (.int p1), .val (.int (v0_7_l2 p0)), .val (.int (p1 &&& (2147483647 : Int32))), .val (.ref o_U25), .val (.long (25 : Int64)), .second, .unset, .unset, .unset, .unset, .unset] [])) _
          refine XS.goto X38.here hx rfl (pc0 := 61) (pc' := 110) rfl (hb hby at_61) (by decide) (by decide) ?_
          show Steps p.tables e below (T38.setTop (mkF m 110 #[.val (.int p0), .val (.int p1), .val (.int (v0_7_l2 p0)), .val (.int (p1 &&& (2147483647 : Int32))), .val (.ref o_U25), .val (.long (25 : Int64)), .second, .unset, .unset, .unset, .unset, .unset] [])) _
          refine XS.aload X38.here hx rfl (hb hby at_110) rfl rfl ?_
          show Steps p.tables e below (T38.setTop (mkF m 112 #[.val (.int p0), .val (.int p1), .val (.int (v0_7_l2 p0)), .val (.int (p1 &&& (2147483647 : Int32))), .val (.ref o_U25), .val (.long (25 : Int64)), .second, .unset, .unset, .unset, .unset, .unset] [(.ref o_U25)])) _
          refine XS.iloadN X38.here hx rfl (hb hby at_112) rfl ?_
          exact kk)
        have Zz41 : n0 ≤ h0.size := (Nat.le_trans Z0 KC0.1)
        obtain ⟨cq41, kq41, q41a, q41b, q41c⟩ := isOf hZ e38 E_o_U25
        obtain ⟨_, _, ⟨T41, L41, k41, n41⟩, -, X41, ⟨Lc41, hQ41, l41, y41, z41⟩, st41⟩ := X38.virtualBack hx (y := (⟨"com/example/slabrun/slabrun/core/UsageList", "stayFrom", "(I)I"⟩ : MethodName)) (z := (⟨"com/example/slabrun/slabrun/core/UsageList", "stayFrom", "(I)I"⟩ : MethodName)) hown (mvT hZ (hw _ (List.mem_of_getElem? (i := 5) rfl))) (mvT hZ (hw _ (List.mem_of_getElem? (i := 6) rfl))) (notFace_of_selects (args := #[]) (mvT hZ (hw _ (List.mem_of_getElem? (i := 8) rfl)))) (mvT hZ (hw _ (List.mem_of_getElem? (i := 8) rfl))) (mvT hZ (hw _ (List.mem_of_getElem? (i := 7) rfl))) (by decide) (backOf (W := 0) (rm1 l Z a0 hw [] o_U25 (p1 &&& (2147483647 : Int32)) (25 : Int32) h0 n0 Zz41 F_lowest_o_U25) hZ (hw _ (List.mem_of_getElem? (i := 9) rfl)) (hw _ (List.mem_of_getElem? (i := 2) rfl)) (by decide) (by decide)) q41a q41c (g := (mkF m 113 #[.val (.int p0), .val (.int p1), .val (.int (v0_7_l2 p0)), .val (.int (p1 &&& (2147483647 : Int32))), .val (.ref o_U25), .val (.long (25 : Int64)), .second, .unset, .unset, .unset, .unset, .unset] [(.int (p1 &&& (2147483647 : Int32))), (.ref o_U25)])) rfl (by rw [hml]; rfl) (Steps.refl _) (argsL := [(.int (p1 &&& (2147483647 : Int32)))]) (rest := []) (lenOf pd_0 rfl) rfl (by show 2 * 0 + _ ≤ _; exact Nat.le_of_eq rfl) (hb hby at_113) (fun _ _ => ⟨rfl, e38, (by decide : 0 + 0 ≤ _), (by decide : 0 + 0 ≤ _)⟩)
        dsimp only [Pt.U, Pt.locs, Pt.cells, Pt.slots] at X41 l41 y41 z41 st41 hQ41
        subst l41 y41 z41
        obtain ⟨rfl, N41q, e41⟩ := hQ41
        have N41 := Fr.app N0 N41q
        have k42 := fun (t : State) (kk : Steps p.tables e below (T41.setTop (mkF m 116 #[.val (.int p0), .val (.int p1), .val (.int (v0_7_l2 p0)), .val (.int (p1 &&& (2147483647 : Int32))), .val (.ref o_U25), .val (.long (25 : Int64)), .second, .unset, .unset, .unset, .unset, .unset] [(.int (v1_ret (p1 &&& (2147483647 : Int32)) (25 : Int32)))])) t) => k40 t (st41.trans kk)
        have k47 := fun (t : State) (kk : Steps p.tables e below (T41.setTop (mkF m 179 #[.val (.int p0), .val (.int p1), .val (.int (v0_7_l2 p0)), .val (.int (p1 &&& (2147483647 : Int32))), .val (.ref o_U25), .val (.long (25 : Int64)), .second, .val (.int (v0_116_l7_2 p1)), .val (.long (v0_141_l8_1 p1)), .second, .val (.long ((v0_116_l7_2 p1).toInt64)), .second] [(.int (v0_157_s0_1 p1))])) t) => k42 t (by
          show Steps p.tables e below (T41.setTop (mkF m 116 #[.val (.int p0), .val (.int p1), .val (.int (v0_7_l2 p0)), .val (.int (p1 &&& (2147483647 : Int32))), .val (.ref o_U25), .val (.long (25 : Int64)), .second, .unset, .unset, .unset, .unset, .unset] [(.int (v1_ret (p1 &&& (2147483647 : Int32)) (25 : Int32)))])) _
          refine XS.istore X41.here hx rfl (hb hby at_116) rfl (l' := #[.val (.int p0), .val (.int p1), .val (.int (v0_7_l2 p0)), .val (.int (p1 &&& (2147483647 : Int32))), .val (.ref o_U25), .val (.long (25 : Int64)), .second, .val (.int (v0_116_l7_2 p1)), .unset, .unset, .unset, .unset]) rfl ?_
          show Steps p.tables e below (T41.setTop (mkF m 118 #[.val (.int p0), .val (.int p1), .val (.int (v0_7_l2 p0)), .val (.int (p1 &&& (2147483647 : Int32))), .val (.ref o_U25), .val (.long (25 : Int64)), .second, .val (.int (v0_116_l7_2 p1)), .unset, .unset, .unset, .unset] [])) _
          refine XS.lload X41.here hx rfl (hb hby at_118) rfl ?_
          show Steps p.tables e below (T41.setTop (mkF m 120 #[.val (.int p0), .val (.int p1), .val (.int (v0_7_l2 p0)), .val (.int (p1 &&& (2147483647 : Int32))), .val (.ref o_U25), .val (.long (25 : Int64)), .second, .val (.int (v0_116_l7_2 p1)), .unset, .unset, .unset, .unset] [(.long (25 : Int64))])) _
          refine XS.lconst X41.here hx rfl (hb hby at_120) ?_
          show Steps p.tables e below (T41.setTop (mkF m 121 #[.val (.int p0), .val (.int p1), .val (.int (v0_7_l2 p0)), .val (.int (p1 &&& (2147483647 : Int32))), .val (.ref o_U25), .val (.long (25 : Int64)), .second, .val (.int (v0_116_l7_2 p1)), .unset, .unset, .unset, .unset] [(.long (0 : Int64)), (.long (25 : Int64))])) _
          refine XS.lcmp X41.here hx rfl (hb hby at_121) rfl ?_
          show Steps p.tables e below (T41.setTop (mkF m 122 #[.val (.int p0), .val (.int p1), .val (.int (v0_7_l2 p0)), .val (.int (p1 &&& (2147483647 : Int32))), .val (.ref o_U25), .val (.long (25 : Int64)), .second, .val (.int (v0_116_l7_2 p1)), .unset, .unset, .unset, .unset] [(.int (lcmpW (25 : Int64) (0 : Int64)))])) _
          refine XS.ifYes X41.here hx rfl (pc0 := 122) (pc' := 136) rfl (hb hby at_122) rfl ((if0 _ _).trans (flt (fun q => (by decide : ¬ ((25 : Int64) < (0 : Int64))) ((lw_lt _ _).mp q))).2.1) (by decide) (by decide) ?_
          show Steps p.tables e below (T41.setTop (mkF m 136 #[.val (.int p0), .val (.int p1), .val (.int (v0_7_l2 p0)), .val (.int (p1 &&& (2147483647 : Int32))), .val (.ref o_U25), .val (.long (25 : Int64)), .second, .val (.int (v0_116_l7_2 p1)), .unset, .unset, .unset, .unset] [])) _
          refine XS.lload X41.here hx rfl (hb hby at_136) rfl ?_
          show Steps p.tables e below (T41.setTop (mkF m 138 #[.val (.int p0), .val (.int p1), .val (.int (v0_7_l2 p0)), .val (.int (p1 &&& (2147483647 : Int32))), .val (.ref o_U25), .val (.long (25 : Int64)), .second, .val (.int (v0_116_l7_2 p1)), .unset, .unset, .unset, .unset] [(.long (25 : Int64))])) _
          refine XS.iloadN X41.here hx rfl (hb hby at_138) rfl ?_
          show Steps p.tables e below (T41.setTop (mkF m 139 #[.val (.int p0), .val (.int p1), .val (.int (v0_7_l2 p0)), .val (.int (p1 &&& (2147483647 : Int32))), .val (.ref o_U25), .val (.long (25 : Int64)), .second, .val (.int (v0_116_l7_2 p1)), .unset, .unset, .unset, .unset] [(.int (p1 &&& (2147483647 : Int32))), (.long (25 : Int64))])) _
          refine XS.i2l X41.here hx rfl (hb hby at_139) rfl ?_
          show Steps p.tables e below (T41.setTop (mkF m 140 #[.val (.int p0), .val (.int p1), .val (.int (v0_7_l2 p0)), .val (.int (p1 &&& (2147483647 : Int32))), .val (.ref o_U25), .val (.long (25 : Int64)), .second, .val (.int (v0_116_l7_2 p1)), .unset, .unset, .unset, .unset] [(.long ((p1 &&& (2147483647 : Int32)).toInt64)), (.long (25 : Int64))])) _
          refine XS.lmul X41.here hx rfl (hb hby at_140) rfl ?_
          show Steps p.tables e below (T41.setTop (mkF m 141 #[.val (.int p0), .val (.int p1), .val (.int (v0_7_l2 p0)), .val (.int (p1 &&& (2147483647 : Int32))), .val (.ref o_U25), .val (.long (25 : Int64)), .second, .val (.int (v0_116_l7_2 p1)), .unset, .unset, .unset, .unset] [(.long ((25 : Int64) * ((p1 &&& (2147483647 : Int32)).toInt64)))])) _
          refine XS.lstore X41.here hx rfl (hb hby at_141) rfl (l' := #[.val (.int p0), .val (.int p1), .val (.int (v0_7_l2 p0)), .val (.int (p1 &&& (2147483647 : Int32))), .val (.ref o_U25), .val (.long (25 : Int64)), .second, .val (.int (v0_116_l7_2 p1)), .val (.long (v0_141_l8_1 p1)), .second, .unset, .unset]) rfl ?_
          show Steps p.tables e below (T41.setTop (mkF m 143 #[.val (.int p0), .val (.int p1), .val (.int (v0_7_l2 p0)), .val (.int (p1 &&& (2147483647 : Int32))), .val (.ref o_U25), .val (.long (25 : Int64)), .second, .val (.int (v0_116_l7_2 p1)), .val (.long (v0_141_l8_1 p1)), .second, .unset, .unset] [])) _
          refine XS.iload X41.here hx rfl (hb hby at_143) rfl ?_
          show Steps p.tables e below (T41.setTop (mkF m 145 #[.val (.int p0), .val (.int p1), .val (.int (v0_7_l2 p0)), .val (.int (p1 &&& (2147483647 : Int32))), .val (.ref o_U25), .val (.long (25 : Int64)), .second, .val (.int (v0_116_l7_2 p1)), .val (.long (v0_141_l8_1 p1)), .second, .unset, .unset] [(.int (v0_116_l7_2 p1))])) _
          refine XS.i2l X41.here hx rfl (hb hby at_145) rfl ?_
          show Steps p.tables e below (T41.setTop (mkF m 146 #[.val (.int p0), .val (.int p1), .val (.int (v0_7_l2 p0)), .val (.int (p1 &&& (2147483647 : Int32))), .val (.ref o_U25), .val (.long (25 : Int64)), .second, .val (.int (v0_116_l7_2 p1)), .val (.long (v0_141_l8_1 p1)), .second, .unset, .unset] [(.long ((v0_116_l7_2 p1).toInt64))])) _
          refine XS.lstore X41.here hx rfl (hb hby at_146) rfl (l' := #[.val (.int p0), .val (.int p1), .val (.int (v0_7_l2 p0)), .val (.int (p1 &&& (2147483647 : Int32))), .val (.ref o_U25), .val (.long (25 : Int64)), .second, .val (.int (v0_116_l7_2 p1)), .val (.long (v0_141_l8_1 p1)), .second, .val (.long ((v0_116_l7_2 p1).toInt64)), .second]) rfl ?_
          show Steps p.tables e below (T41.setTop (mkF m 148 #[.val (.int p0), .val (.int p1), .val (.int (v0_7_l2 p0)), .val (.int (p1 &&& (2147483647 : Int32))), .val (.ref o_U25), .val (.long (25 : Int64)), .second, .val (.int (v0_116_l7_2 p1)), .val (.long (v0_141_l8_1 p1)), .second, .val (.long ((v0_116_l7_2 p1).toInt64)), .second] [])) _
          refine XS.lload X41.here hx rfl (hb hby at_148) rfl ?_
          show Steps p.tables e below (T41.setTop (mkF m 150 #[.val (.int p0), .val (.int p1), .val (.int (v0_7_l2 p0)), .val (.int (p1 &&& (2147483647 : Int32))), .val (.ref o_U25), .val (.long (25 : Int64)), .second, .val (.int (v0_116_l7_2 p1)), .val (.long (v0_141_l8_1 p1)), .second, .val (.long ((v0_116_l7_2 p1).toInt64)), .second] [(.long ((v0_116_l7_2 p1).toInt64))])) _
          refine X41.ldc2Long hx hown (mvT hZ (hw _ (List.mem_of_getElem? (i := 17) rfl))) (g := (mkF m 150 #[.val (.int p0), .val (.int p1), .val (.int (v0_7_l2 p0)), .val (.int (p1 &&& (2147483647 : Int32))), .val (.ref o_U25), .val (.long (25 : Int64)), .second, .val (.int (v0_116_l7_2 p1)), .val (.long (v0_141_l8_1 p1)), .second, .val (.long ((v0_116_l7_2 p1).toInt64)), .second] [(.long ((v0_116_l7_2 p1).toInt64))])) rfl (hb hby at_150) _ ?_
          show Steps p.tables e below (T41.setTop (mkF m 153 #[.val (.int p0), .val (.int p1), .val (.int (v0_7_l2 p0)), .val (.int (p1 &&& (2147483647 : Int32))), .val (.ref o_U25), .val (.long (25 : Int64)), .second, .val (.int (v0_116_l7_2 p1)), .val (.long (v0_141_l8_1 p1)), .second, .val (.long ((v0_116_l7_2 p1).toInt64)), .second] [(.long (100 : Int64)), (.long ((v0_116_l7_2 p1).toInt64))])) _
          refine XS.lmul X41.here hx rfl (hb hby at_153) rfl ?_
          show Steps p.tables e below (T41.setTop (mkF m 154 #[.val (.int p0), .val (.int p1), .val (.int (v0_7_l2 p0)), .val (.int (p1 &&& (2147483647 : Int32))), .val (.ref o_U25), .val (.long (25 : Int64)), .second, .val (.int (v0_116_l7_2 p1)), .val (.long (v0_141_l8_1 p1)), .second, .val (.long ((v0_116_l7_2 p1).toInt64)), .second] [(.long (((v0_116_l7_2 p1).toInt64) * (100 : Int64)))])) _
          refine XS.lload X41.here hx rfl (hb hby at_154) rfl ?_
          show Steps p.tables e below (T41.setTop (mkF m 156 #[.val (.int p0), .val (.int p1), .val (.int (v0_7_l2 p0)), .val (.int (p1 &&& (2147483647 : Int32))), .val (.ref o_U25), .val (.long (25 : Int64)), .second, .val (.int (v0_116_l7_2 p1)), .val (.long (v0_141_l8_1 p1)), .second, .val (.long ((v0_116_l7_2 p1).toInt64)), .second] [(.long (v0_141_l8_1 p1)), (.long (((v0_116_l7_2 p1).toInt64) * (100 : Int64)))])) _
          refine XS.lcmp X41.here hx rfl (hb hby at_156) rfl ?_
          suffices k46 : Steps p.tables e below (T41.setTop (mkF m 179 #[.val (.int p0), .val (.int p1), .val (.int (v0_7_l2 p0)), .val (.int (p1 &&& (2147483647 : Int32))), .val (.ref o_U25), .val (.long (25 : Int64)), .second, .val (.int (v0_116_l7_2 p1)), .val (.long (v0_141_l8_1 p1)), .second, .val (.long ((v0_116_l7_2 p1).toInt64)), .second] [(.int (v0_157_s0_1 p1))])) t by
            by_cases hc157_43 : (((v0_116_l7_2 p1).toInt64) * (100 : Int64)) < (v0_141_l8_1 p1)
            · rw [(show (v0_157_s0_1 p1) = (0 : Int32) from if_pos hc157_43)] at k46
              show Steps p.tables e below (T41.setTop (mkF m 157 #[.val (.int p0), .val (.int p1), .val (.int (v0_7_l2 p0)), .val (.int (p1 &&& (2147483647 : Int32))), .val (.ref o_U25), .val (.long (25 : Int64)), .second, .val (.int (v0_116_l7_2 p1)), .val (.long (v0_141_l8_1 p1)), .second, .val (.long ((v0_116_l7_2 p1).toInt64)), .second] [(.int (lcmpW (((v0_116_l7_2 p1).toInt64) * (100 : Int64)) (v0_141_l8_1 p1)))])) _
              refine XS.ifYes X41.here hx rfl (pc0 := 157) (pc' := 178) rfl (hb hby at_157) rfl ((if0 _ _).trans (tlt ((lw_lt _ _).mpr hc157_43)).1) (by decide) (by decide) ?_
              show Steps p.tables e below (T41.setTop (mkF m 178 #[.val (.int p0), .val (.int p1), .val (.int (v0_7_l2 p0)), .val (.int (p1 &&& (2147483647 : Int32))), .val (.ref o_U25), .val (.long (25 : Int64)), .second, .val (.int (v0_116_l7_2 p1)), .val (.long (v0_141_l8_1 p1)), .second, .val (.long ((v0_116_l7_2 p1).toInt64)), .second] [])) _
              refine XS.iconst X41.here hx rfl (hb hby at_178) ?_
              exact k46
            · rw [(show (v0_157_s0_1 p1) = (v0_171_s0_1 p1) from if_neg hc157_43)] at k46
              show Steps p.tables e below (T41.setTop (mkF m 157 #[.val (.int p0), .val (.int p1), .val (.int (v0_7_l2 p0)), .val (.int (p1 &&& (2147483647 : Int32))), .val (.ref o_U25), .val (.long (25 : Int64)), .second, .val (.int (v0_116_l7_2 p1)), .val (.long (v0_141_l8_1 p1)), .second, .val (.long ((v0_116_l7_2 p1).toInt64)), .second] [(.int (lcmpW (((v0_116_l7_2 p1).toInt64) * (100 : Int64)) (v0_141_l8_1 p1)))])) _
              refine XS.ifNo X41.here hx rfl (hb hby at_157) rfl ((if0 _ _).trans (flt (fun q => hc157_43 ((lw_lt _ _).mp q))).1) ?_
              show Steps p.tables e below (T41.setTop (mkF m 160 #[.val (.int p0), .val (.int p1), .val (.int (v0_7_l2 p0)), .val (.int (p1 &&& (2147483647 : Int32))), .val (.ref o_U25), .val (.long (25 : Int64)), .second, .val (.int (v0_116_l7_2 p1)), .val (.long (v0_141_l8_1 p1)), .second, .val (.long ((v0_116_l7_2 p1).toInt64)), .second] [])) _
              refine XS.lload X41.here hx rfl (hb hby at_160) rfl ?_
              show Steps p.tables e below (T41.setTop (mkF m 162 #[.val (.int p0), .val (.int p1), .val (.int (v0_7_l2 p0)), .val (.int (p1 &&& (2147483647 : Int32))), .val (.ref o_U25), .val (.long (25 : Int64)), .second, .val (.int (v0_116_l7_2 p1)), .val (.long (v0_141_l8_1 p1)), .second, .val (.long ((v0_116_l7_2 p1).toInt64)), .second] [(.long ((v0_116_l7_2 p1).toInt64))])) _
              refine XS.lconst X41.here hx rfl (hb hby at_162) ?_
              show Steps p.tables e below (T41.setTop (mkF m 163 #[.val (.int p0), .val (.int p1), .val (.int (v0_7_l2 p0)), .val (.int (p1 &&& (2147483647 : Int32))), .val (.ref o_U25), .val (.long (25 : Int64)), .second, .val (.int (v0_116_l7_2 p1)), .val (.long (v0_141_l8_1 p1)), .second, .val (.long ((v0_116_l7_2 p1).toInt64)), .second] [(.long (1 : Int64)), (.long ((v0_116_l7_2 p1).toInt64))])) _
              refine XS.lsub X41.here hx rfl (hb hby at_163) rfl ?_
              show Steps p.tables e below (T41.setTop (mkF m 164 #[.val (.int p0), .val (.int p1), .val (.int (v0_7_l2 p0)), .val (.int (p1 &&& (2147483647 : Int32))), .val (.ref o_U25), .val (.long (25 : Int64)), .second, .val (.int (v0_116_l7_2 p1)), .val (.long (v0_141_l8_1 p1)), .second, .val (.long ((v0_116_l7_2 p1).toInt64)), .second] [(.long (((v0_116_l7_2 p1).toInt64) - (1 : Int64)))])) _
              refine X41.ldc2Long hx hown (mvT hZ (hw _ (List.mem_of_getElem? (i := 17) rfl))) (g := (mkF m 164 #[.val (.int p0), .val (.int p1), .val (.int (v0_7_l2 p0)), .val (.int (p1 &&& (2147483647 : Int32))), .val (.ref o_U25), .val (.long (25 : Int64)), .second, .val (.int (v0_116_l7_2 p1)), .val (.long (v0_141_l8_1 p1)), .second, .val (.long ((v0_116_l7_2 p1).toInt64)), .second] [(.long (((v0_116_l7_2 p1).toInt64) - (1 : Int64)))])) rfl (hb hby at_164) _ ?_
              show Steps p.tables e below (T41.setTop (mkF m 167 #[.val (.int p0), .val (.int p1), .val (.int (v0_7_l2 p0)), .val (.int (p1 &&& (2147483647 : Int32))), .val (.ref o_U25), .val (.long (25 : Int64)), .second, .val (.int (v0_116_l7_2 p1)), .val (.long (v0_141_l8_1 p1)), .second, .val (.long ((v0_116_l7_2 p1).toInt64)), .second] [(.long (100 : Int64)), (.long (((v0_116_l7_2 p1).toInt64) - (1 : Int64)))])) _
              refine XS.lmul X41.here hx rfl (hb hby at_167) rfl ?_
              show Steps p.tables e below (T41.setTop (mkF m 168 #[.val (.int p0), .val (.int p1), .val (.int (v0_7_l2 p0)), .val (.int (p1 &&& (2147483647 : Int32))), .val (.ref o_U25), .val (.long (25 : Int64)), .second, .val (.int (v0_116_l7_2 p1)), .val (.long (v0_141_l8_1 p1)), .second, .val (.long ((v0_116_l7_2 p1).toInt64)), .second] [(.long ((((v0_116_l7_2 p1).toInt64) - (1 : Int64)) * (100 : Int64)))])) _
              refine XS.lload X41.here hx rfl (hb hby at_168) rfl ?_
              show Steps p.tables e below (T41.setTop (mkF m 170 #[.val (.int p0), .val (.int p1), .val (.int (v0_7_l2 p0)), .val (.int (p1 &&& (2147483647 : Int32))), .val (.ref o_U25), .val (.long (25 : Int64)), .second, .val (.int (v0_116_l7_2 p1)), .val (.long (v0_141_l8_1 p1)), .second, .val (.long ((v0_116_l7_2 p1).toInt64)), .second] [(.long (v0_141_l8_1 p1)), (.long ((((v0_116_l7_2 p1).toInt64) - (1 : Int64)) * (100 : Int64)))])) _
              refine XS.lcmp X41.here hx rfl (hb hby at_170) rfl ?_
              suffices k45 : Steps p.tables e below (T41.setTop (mkF m 179 #[.val (.int p0), .val (.int p1), .val (.int (v0_7_l2 p0)), .val (.int (p1 &&& (2147483647 : Int32))), .val (.ref o_U25), .val (.long (25 : Int64)), .second, .val (.int (v0_116_l7_2 p1)), .val (.long (v0_141_l8_1 p1)), .second, .val (.long ((v0_116_l7_2 p1).toInt64)), .second] [(.int (v0_171_s0_1 p1))])) t by
                by_cases hc171_44 : ((((v0_116_l7_2 p1).toInt64) - (1 : Int64)) * (100 : Int64)) < (v0_141_l8_1 p1)
                · rw [(show (v0_171_s0_1 p1) = (1 : Int32) from if_pos hc171_44)] at k45
                  show Steps p.tables e below (T41.setTop (mkF m 171 #[.val (.int p0), .val (.int p1), .val (.int (v0_7_l2 p0)), .val (.int (p1 &&& (2147483647 : Int32))), .val (.ref o_U25), .val (.long (25 : Int64)), .second, .val (.int (v0_116_l7_2 p1)), .val (.long (v0_141_l8_1 p1)), .second, .val (.long ((v0_116_l7_2 p1).toInt64)), .second] [(.int (lcmpW ((((v0_116_l7_2 p1).toInt64) - (1 : Int64)) * (100 : Int64)) (v0_141_l8_1 p1)))])) _
                  refine XS.ifNo X41.here hx rfl (hb hby at_171) rfl ((if0 _ _).trans (tlt ((lw_lt _ _).mpr hc171_44)).2.1) ?_
                  show Steps p.tables e below (T41.setTop (mkF m 174 #[.val (.int p0), .val (.int p1), .val (.int (v0_7_l2 p0)), .val (.int (p1 &&& (2147483647 : Int32))), .val (.ref o_U25), .val (.long (25 : Int64)), .second, .val (.int (v0_116_l7_2 p1)), .val (.long (v0_141_l8_1 p1)), .second, .val (.long ((v0_116_l7_2 p1).toInt64)), .second] [])) _
                  refine XS.iconst X41.here hx rfl (hb hby at_174) ?_
                  show Steps p.tables e below (T41.setTop (mkF m 175 #[.val (.int p0), .val (.int p1), .val (.int (v0_7_l2 p0)), .val (.int (p1 &&& (2147483647 : Int32))), .val (.ref o_U25), .val (.long (25 : Int64)), .second, .val (.int (v0_116_l7_2 p1)), .val (.long (v0_141_l8_1 p1)), .second, .val (.long ((v0_116_l7_2 p1).toInt64)), .second] [(.int (1 : Int32))])) _
                  refine XS.goto X41.here hx rfl (pc0 := 175) (pc' := 179) rfl (hb hby at_175) (by decide) (by decide) ?_
                  exact k45
                · rw [(show (v0_171_s0_1 p1) = (0 : Int32) from if_neg hc171_44)] at k45
                  show Steps p.tables e below (T41.setTop (mkF m 171 #[.val (.int p0), .val (.int p1), .val (.int (v0_7_l2 p0)), .val (.int (p1 &&& (2147483647 : Int32))), .val (.ref o_U25), .val (.long (25 : Int64)), .second, .val (.int (v0_116_l7_2 p1)), .val (.long (v0_141_l8_1 p1)), .second, .val (.long ((v0_116_l7_2 p1).toInt64)), .second] [(.int (lcmpW ((((v0_116_l7_2 p1).toInt64) - (1 : Int64)) * (100 : Int64)) (v0_141_l8_1 p1)))])) _
                  refine XS.ifYes X41.here hx rfl (pc0 := 171) (pc' := 178) rfl (hb hby at_171) rfl ((if0 _ _).trans (flt (fun q => hc171_44 ((lw_lt _ _).mp q))).2.1) (by decide) (by decide) ?_
                  show Steps p.tables e below (T41.setTop (mkF m 178 #[.val (.int p0), .val (.int p1), .val (.int (v0_7_l2 p0)), .val (.int (p1 &&& (2147483647 : Int32))), .val (.ref o_U25), .val (.long (25 : Int64)), .second, .val (.int (v0_116_l7_2 p1)), .val (.long (v0_141_l8_1 p1)), .second, .val (.long ((v0_116_l7_2 p1).toInt64)), .second] [])) _
                  refine XS.iconst X41.here hx rfl (hb hby at_178) ?_
                  exact k45
              exact k46
          exact kk)
        obtain ⟨fs, hr, hrun, hended, hW, hsame⟩ := X41.leave (v := some (.int (nar .boolean (v0_157_s0_1 p1)))) (fun h => by rw [Bd.returns] at h; cases h)
        have hv : (v0_ret p0 p1) = (nar .boolean (v0_157_s0_1 p1)) := ((if_neg hc14_12).trans ((if_neg hc32_23).trans (if_pos hc48_36)))
        have hone : (nar .boolean (v0_157_s0_1 p1)) = 1 := hv.symm.trans (own_law p0 p1)
        refine ⟨_, _, k47 _ ?_, hrun, hended, _, _, rfl, ?_, ⟨_, rfl⟩, hW, hsame.mono (by decide) (by decide)⟩
        · show Steps p.tables e below (T41.setTop (mkF m 179 #[.val (.int p0), .val (.int p1), .val (.int (v0_7_l2 p0)), .val (.int (p1 &&& (2147483647 : Int32))), .val (.ref o_U25), .val (.long (25 : Int64)), .second, .val (.int (v0_116_l7_2 p1)), .val (.long (v0_141_l8_1 p1)), .second, .val (.long ((v0_116_l7_2 p1).toInt64)), .second] [(.int (v0_157_s0_1 p1))])) _
          exact retN X41 hx (t := .boolean) Bd.returns (by simp) (hb hby at_179) hr
        · show Q0 Z p0 p1 o_INIT o_U0 o_U25 o_U50 o_U75 o_U100 h0 n0 _ T41.heap _
          rw [e41]
          exact ⟨congrArg (fun z => some (Value.int z)) hone, N41⟩
      · have k48 := fun (t : State) (kk : Steps p.tables e below (s₁.setTop (mkF m 66 #[.val (.int p0), .val (.int p1), .val (.int (v0_7_l2 p0)), .val (.int (p1 &&& (2147483647 : Int32))), .unset, .unset, .unset, .unset, .unset, .unset, .unset, .unset] [(.int (3 : Int32)), (.int (v0_7_l2 p0))])) t) => k35 t (by
          show Steps p.tables e below (s₁.setTop (mkF m 48 #[.val (.int p0), .val (.int p1), .val (.int (v0_7_l2 p0)), .val (.int (p1 &&& (2147483647 : Int32))), .unset, .unset, .unset, .unset, .unset, .unset, .unset, .unset] [(.int (2 : Int32)), (.int (v0_7_l2 p0))])) _
          refine XS.icmpYes X0.here hx rfl (pc0 := 48) (pc' := 64) rfl (hb hby at_48) rfl (feq hc48_36).2 (by decide) (by decide) ?_
          show Steps p.tables e below (s₁.setTop (mkF m 64 #[.val (.int p0), .val (.int p1), .val (.int (v0_7_l2 p0)), .val (.int (p1 &&& (2147483647 : Int32))), .unset, .unset, .unset, .unset, .unset, .unset, .unset, .unset] [])) _
          refine XS.iloadN X0.here hx rfl (hb hby at_64) rfl ?_
          show Steps p.tables e below (s₁.setTop (mkF m 65 #[.val (.int p0), .val (.int p1), .val (.int (v0_7_l2 p0)), .val (.int (p1 &&& (2147483647 : Int32))), .unset, .unset, .unset, .unset, .unset, .unset, .unset, .unset] [(.int (v0_7_l2 p0))])) _
          refine XS.iconst X0.here hx rfl (hb hby at_65) ?_
          exact kk)
        by_cases hc66_49 : (v0_7_l2 p0) = (3 : Int32)
        · have k50 := fun (t : State) (kk : Steps p.tables e below (s₁.setTop (mkF m 69 #[.val (.int p0), .val (.int p1), .val (.int (v0_7_l2 p0)), .val (.int (p1 &&& (2147483647 : Int32))), .unset, .unset, .unset, .unset, .unset, .unset, .unset, .unset] [])) t) => k48 t (by
            show Steps p.tables e below (s₁.setTop (mkF m 66 #[.val (.int p0), .val (.int p1), .val (.int (v0_7_l2 p0)), .val (.int (p1 &&& (2147483647 : Int32))), .unset, .unset, .unset, .unset, .unset, .unset, .unset, .unset] [(.int (3 : Int32)), (.int (v0_7_l2 p0))])) _
            refine XS.icmpNo X0.here hx rfl (hb hby at_66) rfl (teq hc66_49).2 ?_
            exact kk)
          obtain ⟨T51, X51, e51, st51⟩ := getS2 X0 hx hZ hown (host := "") (Or.inl (hw _ (List.mem_of_getElem? (i := 25) rfl))) Via.refl e0 S_U50 (g := (mkF m 69 #[.val (.int p0), .val (.int p1), .val (.int (v0_7_l2 p0)), .val (.int (p1 &&& (2147483647 : Int32))), .unset, .unset, .unset, .unset, .unset, .unset, .unset, .unset] [])) rfl (hb hby at_69)
          have k52 := fun (t : State) (kk : Steps p.tables e below (T51.setTop (mkF m 72 #[.val (.int p0), .val (.int p1), .val (.int (v0_7_l2 p0)), .val (.int (p1 &&& (2147483647 : Int32))), .unset, .unset, .unset, .unset, .unset, .unset, .unset, .unset] [(.ref o_U50)])) t) => k50 t (st51 _ kk)
          have k53 := fun (t : State) (kk : Steps p.tables e below (T51.setTop (mkF m 113 #[.val (.int p0), .val (.int p1), .val (.int (v0_7_l2 p0)), .val (.int (p1 &&& (2147483647 : Int32))), .val (.ref o_U50), .val (.long (50 : Int64)), .second, .unset, .unset, .unset, .unset, .unset] [(.int (p1 &&& (2147483647 : Int32))), (.ref o_U50)])) t) => k52 t (by
            show Steps p.tables e below (T51.setTop (mkF m 72 #[.val (.int p0), .val (.int p1), .val (.int (v0_7_l2 p0)), .val (.int (p1 &&& (2147483647 : Int32))), .unset, .unset, .unset, .unset, .unset, .unset, .unset, .unset] [(.ref o_U50)])) _
            refine XS.astore X51.here hx rfl (hb hby at_72) rfl rfl (l' := #[.val (.int p0), .val (.int p1), .val (.int (v0_7_l2 p0)), .val (.int (p1 &&& (2147483647 : Int32))), .val (.ref o_U50), .unset, .unset, .unset, .unset, .unset, .unset, .unset]) rfl ?_
            show Steps p.tables e below (T51.setTop (mkF m 74 #[.val (.int p0), .val (.int p1), .val (.int (v0_7_l2 p0)), .val (.int (p1 &&& (2147483647 : Int32))), .val (.ref o_U50), .unset, .unset, .unset, .unset, .unset, .unset, .unset] [])) _
            refine X51.ldc2Long hx hown (mvT hZ (hw _ (List.mem_of_getElem? (i := 27) rfl))) (g := (mkF m 74 #[.val (.int p0), .val (.int p1), .val (.int (v0_7_l2 p0)), .val (.int (p1 &&& (2147483647 : Int32))), .val (.ref o_U50), .unset, .unset, .unset, .unset, .unset, .unset, .unset] [])) rfl (hb hby at_74) _ ?_
            show Steps p.tables e below (T51.setTop (mkF m 77 #[.val (.int p0), .val (.int p1), .val (.int (v0_7_l2 p0)), .val (.int (p1 &&& (2147483647 : Int32))), .val (.ref o_U50), .unset, .unset, .unset, .unset, .unset, .unset, .unset] [(.long (50 : Int64))])) _
            refine XS.lstore X51.here hx rfl (hb hby at_77) rfl (l' := #[.val (.int p0), .val (.int p1), .val (.int (v0_7_l2 p0)), .val (.int (p1 &&& (2147483647 : Int32))), .val (.ref o_U50), .val (.long (50 : Int64)), .second, .unset, .unset, .unset, .unset, .unset]) rfl ?_
            show Steps p.tables e below (T51.setTop (mkF m 79 #[.val (.int p0), .val (.int p1), .val (.int (v0_7_l2 p0)), .val (.int (p1 &&& (2147483647 : Int32))), .val (.ref o_U50), .val (.long (50 : Int64)), .second, .unset, .unset, .unset, .unset, .unset] [])) _
            refine XS.goto X51.here hx rfl (pc0 := 79) (pc' := 110) rfl (hb hby at_79) (by decide) (by decide) ?_
            show Steps p.tables e below (T51.setTop (mkF m 110 #[.val (.int p0), .val (.int p1), .val (.int (v0_7_l2 p0)), .val (.int (p1 &&& (2147483647 : Int32))), .val (.ref o_U50), .val (.long (50 : Int64)), .second, .unset, .unset, .unset, .unset, .unset] [])) _
            refine XS.aload X51.here hx rfl (hb hby at_110) rfl rfl ?_
            show Steps p.tables e below (T51.setTop (mkF m 112 #[.val (.int p0), .val (.int p1), .val (.int (v0_7_l2 p0)), .val (.int (p1 &&& (2147483647 : Int32))), .val (.ref o_U50), .val (.long (50 : Int64)), .second, .unset, .unset, .unset, .unset, .unset] [(.ref o_U50)])) _
            refine XS.iloadN X51.here hx rfl (hb hby at_112) rfl ?_
            exact kk)
          have Zz54 : n0 ≤ h0.size := (Nat.le_trans Z0 KC0.1)
          obtain ⟨cq54, kq54, q54a, q54b, q54c⟩ := isOf hZ e51 E_o_U50
          obtain ⟨_, _, ⟨T54, L54, k54, n54⟩, -, X54, ⟨Lc54, hQ54, l54, y54, z54⟩, st54⟩ := X51.virtualBack hx (y := (⟨"com/example/slabrun/slabrun/core/UsageList", "stayFrom", "(I)I"⟩ : MethodName)) (z := (⟨"com/example/slabrun/slabrun/core/UsageList", "stayFrom", "(I)I"⟩ : MethodName)) hown (mvT hZ (hw _ (List.mem_of_getElem? (i := 5) rfl))) (mvT hZ (hw _ (List.mem_of_getElem? (i := 6) rfl))) (notFace_of_selects (args := #[]) (mvT hZ (hw _ (List.mem_of_getElem? (i := 8) rfl)))) (mvT hZ (hw _ (List.mem_of_getElem? (i := 8) rfl))) (mvT hZ (hw _ (List.mem_of_getElem? (i := 7) rfl))) (by decide) (backOf (W := 0) (rm1 l Z a0 hw [] o_U50 (p1 &&& (2147483647 : Int32)) (50 : Int32) h0 n0 Zz54 F_lowest_o_U50) hZ (hw _ (List.mem_of_getElem? (i := 9) rfl)) (hw _ (List.mem_of_getElem? (i := 2) rfl)) (by decide) (by decide)) q54a q54c (g := (mkF m 113 #[.val (.int p0), .val (.int p1), .val (.int (v0_7_l2 p0)), .val (.int (p1 &&& (2147483647 : Int32))), .val (.ref o_U50), .val (.long (50 : Int64)), .second, .unset, .unset, .unset, .unset, .unset] [(.int (p1 &&& (2147483647 : Int32))), (.ref o_U50)])) rfl (by rw [hml]; rfl) (Steps.refl _) (argsL := [(.int (p1 &&& (2147483647 : Int32)))]) (rest := []) (lenOf pd_0 rfl) rfl (by show 2 * 0 + _ ≤ _; exact Nat.le_of_eq rfl) (hb hby at_113) (fun _ _ => ⟨rfl, e51, (by decide : 0 + 0 ≤ _), (by decide : 0 + 0 ≤ _)⟩)
          dsimp only [Pt.U, Pt.locs, Pt.cells, Pt.slots] at X54 l54 y54 z54 st54 hQ54
          subst l54 y54 z54
          obtain ⟨rfl, N54q, e54⟩ := hQ54
          have N54 := Fr.app N0 N54q
          have k55 := fun (t : State) (kk : Steps p.tables e below (T54.setTop (mkF m 116 #[.val (.int p0), .val (.int p1), .val (.int (v0_7_l2 p0)), .val (.int (p1 &&& (2147483647 : Int32))), .val (.ref o_U50), .val (.long (50 : Int64)), .second, .unset, .unset, .unset, .unset, .unset] [(.int (v1_ret (p1 &&& (2147483647 : Int32)) (50 : Int32)))])) t) => k53 t (st54.trans kk)
          have k60 := fun (t : State) (kk : Steps p.tables e below (T54.setTop (mkF m 179 #[.val (.int p0), .val (.int p1), .val (.int (v0_7_l2 p0)), .val (.int (p1 &&& (2147483647 : Int32))), .val (.ref o_U50), .val (.long (50 : Int64)), .second, .val (.int (v0_116_l7_3 p1)), .val (.long (v0_141_l8_2 p1)), .second, .val (.long ((v0_116_l7_3 p1).toInt64)), .second] [(.int (v0_157_s0_2 p1))])) t) => k55 t (by
            show Steps p.tables e below (T54.setTop (mkF m 116 #[.val (.int p0), .val (.int p1), .val (.int (v0_7_l2 p0)), .val (.int (p1 &&& (2147483647 : Int32))), .val (.ref o_U50), .val (.long (50 : Int64)), .second, .unset, .unset, .unset, .unset, .unset] [(.int (v1_ret (p1 &&& (2147483647 : Int32)) (50 : Int32)))])) _
            refine XS.istore X54.here hx rfl (hb hby at_116) rfl (l' := #[.val (.int p0), .val (.int p1), .val (.int (v0_7_l2 p0)), .val (.int (p1 &&& (2147483647 : Int32))), .val (.ref o_U50), .val (.long (50 : Int64)), .second, .val (.int (v0_116_l7_3 p1)), .unset, .unset, .unset, .unset]) rfl ?_
            show Steps p.tables e below (T54.setTop (mkF m 118 #[.val (.int p0), .val (.int p1), .val (.int (v0_7_l2 p0)), .val (.int (p1 &&& (2147483647 : Int32))), .val (.ref o_U50), .val (.long (50 : Int64)), .second, .val (.int (v0_116_l7_3 p1)), .unset, .unset, .unset, .unset] [])) _
            refine XS.lload X54.here hx rfl (hb hby at_118) rfl ?_
            show Steps p.tables e below (T54.setTop (mkF m 120 #[.val (.int p0), .val (.int p1), .val (.int (v0_7_l2 p0)), .val (.int (p1 &&& (2147483647 : Int32))), .val (.ref o_U50), .val (.long (50 : Int64)), .second, .val (.int (v0_116_l7_3 p1)), .unset, .unset, .unset, .unset] [(.long (50 : Int64))])) _
            refine XS.lconst X54.here hx rfl (hb hby at_120) ?_
            show Steps p.tables e below (T54.setTop (mkF m 121 #[.val (.int p0), .val (.int p1), .val (.int (v0_7_l2 p0)), .val (.int (p1 &&& (2147483647 : Int32))), .val (.ref o_U50), .val (.long (50 : Int64)), .second, .val (.int (v0_116_l7_3 p1)), .unset, .unset, .unset, .unset] [(.long (0 : Int64)), (.long (50 : Int64))])) _
            refine XS.lcmp X54.here hx rfl (hb hby at_121) rfl ?_
            show Steps p.tables e below (T54.setTop (mkF m 122 #[.val (.int p0), .val (.int p1), .val (.int (v0_7_l2 p0)), .val (.int (p1 &&& (2147483647 : Int32))), .val (.ref o_U50), .val (.long (50 : Int64)), .second, .val (.int (v0_116_l7_3 p1)), .unset, .unset, .unset, .unset] [(.int (lcmpW (50 : Int64) (0 : Int64)))])) _
            refine XS.ifYes X54.here hx rfl (pc0 := 122) (pc' := 136) rfl (hb hby at_122) rfl ((if0 _ _).trans (flt (fun q => (by decide : ¬ ((50 : Int64) < (0 : Int64))) ((lw_lt _ _).mp q))).2.1) (by decide) (by decide) ?_
            show Steps p.tables e below (T54.setTop (mkF m 136 #[.val (.int p0), .val (.int p1), .val (.int (v0_7_l2 p0)), .val (.int (p1 &&& (2147483647 : Int32))), .val (.ref o_U50), .val (.long (50 : Int64)), .second, .val (.int (v0_116_l7_3 p1)), .unset, .unset, .unset, .unset] [])) _
            refine XS.lload X54.here hx rfl (hb hby at_136) rfl ?_
            show Steps p.tables e below (T54.setTop (mkF m 138 #[.val (.int p0), .val (.int p1), .val (.int (v0_7_l2 p0)), .val (.int (p1 &&& (2147483647 : Int32))), .val (.ref o_U50), .val (.long (50 : Int64)), .second, .val (.int (v0_116_l7_3 p1)), .unset, .unset, .unset, .unset] [(.long (50 : Int64))])) _
            refine XS.iloadN X54.here hx rfl (hb hby at_138) rfl ?_
            show Steps p.tables e below (T54.setTop (mkF m 139 #[.val (.int p0), .val (.int p1), .val (.int (v0_7_l2 p0)), .val (.int (p1 &&& (2147483647 : Int32))), .val (.ref o_U50), .val (.long (50 : Int64)), .second, .val (.int (v0_116_l7_3 p1)), .unset, .unset, .unset, .unset] [(.int (p1 &&& (2147483647 : Int32))), (.long (50 : Int64))])) _
            refine XS.i2l X54.here hx rfl (hb hby at_139) rfl ?_
            show Steps p.tables e below (T54.setTop (mkF m 140 #[.val (.int p0), .val (.int p1), .val (.int (v0_7_l2 p0)), .val (.int (p1 &&& (2147483647 : Int32))), .val (.ref o_U50), .val (.long (50 : Int64)), .second, .val (.int (v0_116_l7_3 p1)), .unset, .unset, .unset, .unset] [(.long ((p1 &&& (2147483647 : Int32)).toInt64)), (.long (50 : Int64))])) _
            refine XS.lmul X54.here hx rfl (hb hby at_140) rfl ?_
            show Steps p.tables e below (T54.setTop (mkF m 141 #[.val (.int p0), .val (.int p1), .val (.int (v0_7_l2 p0)), .val (.int (p1 &&& (2147483647 : Int32))), .val (.ref o_U50), .val (.long (50 : Int64)), .second, .val (.int (v0_116_l7_3 p1)), .unset, .unset, .unset, .unset] [(.long ((50 : Int64) * ((p1 &&& (2147483647 : Int32)).toInt64)))])) _
            refine XS.lstore X54.here hx rfl (hb hby at_141) rfl (l' := #[.val (.int p0), .val (.int p1), .val (.int (v0_7_l2 p0)), .val (.int (p1 &&& (2147483647 : Int32))), .val (.ref o_U50), .val (.long (50 : Int64)), .second, .val (.int (v0_116_l7_3 p1)), .val (.long (v0_141_l8_2 p1)), .second, .unset, .unset]) rfl ?_
            show Steps p.tables e below (T54.setTop (mkF m 143 #[.val (.int p0), .val (.int p1), .val (.int (v0_7_l2 p0)), .val (.int (p1 &&& (2147483647 : Int32))), .val (.ref o_U50), .val (.long (50 : Int64)), .second, .val (.int (v0_116_l7_3 p1)), .val (.long (v0_141_l8_2 p1)), .second, .unset, .unset] [])) _
            refine XS.iload X54.here hx rfl (hb hby at_143) rfl ?_
            show Steps p.tables e below (T54.setTop (mkF m 145 #[.val (.int p0), .val (.int p1), .val (.int (v0_7_l2 p0)), .val (.int (p1 &&& (2147483647 : Int32))), .val (.ref o_U50), .val (.long (50 : Int64)), .second, .val (.int (v0_116_l7_3 p1)), .val (.long (v0_141_l8_2 p1)), .second, .unset, .unset] [(.int (v0_116_l7_3 p1))])) _
            refine XS.i2l X54.here hx rfl (hb hby at_145) rfl ?_
            show Steps p.tables e below (T54.setTop (mkF m 146 #[.val (.int p0), .val (.int p1), .val (.int (v0_7_l2 p0)), .val (.int (p1 &&& (2147483647 : Int32))), .val (.ref o_U50), .val (.long (50 : Int64)), .second, .val (.int (v0_116_l7_3 p1)), .val (.long (v0_141_l8_2 p1)), .second, .unset, .unset] [(.long ((v0_116_l7_3 p1).toInt64))])) _
            refine XS.lstore X54.here hx rfl (hb hby at_146) rfl (l' := #[.val (.int p0), .val (.int p1), .val (.int (v0_7_l2 p0)), .val (.int (p1 &&& (2147483647 : Int32))), .val (.ref o_U50), .val (.long (50 : Int64)), .second, .val (.int (v0_116_l7_3 p1)), .val (.long (v0_141_l8_2 p1)), .second, .val (.long ((v0_116_l7_3 p1).toInt64)), .second]) rfl ?_
            show Steps p.tables e below (T54.setTop (mkF m 148 #[.val (.int p0), .val (.int p1), .val (.int (v0_7_l2 p0)), .val (.int (p1 &&& (2147483647 : Int32))), .val (.ref o_U50), .val (.long (50 : Int64)), .second, .val (.int (v0_116_l7_3 p1)), .val (.long (v0_141_l8_2 p1)), .second, .val (.long ((v0_116_l7_3 p1).toInt64)), .second] [])) _
            refine XS.lload X54.here hx rfl (hb hby at_148) rfl ?_
            show Steps p.tables e below (T54.setTop (mkF m 150 #[.val (.int p0), .val (.int p1), .val (.int (v0_7_l2 p0)), .val (.int (p1 &&& (2147483647 : Int32))), .val (.ref o_U50), .val (.long (50 : Int64)), .second, .val (.int (v0_116_l7_3 p1)), .val (.long (v0_141_l8_2 p1)), .second, .val (.long ((v0_116_l7_3 p1).toInt64)), .second] [(.long ((v0_116_l7_3 p1).toInt64))])) _
            refine X54.ldc2Long hx hown (mvT hZ (hw _ (List.mem_of_getElem? (i := 17) rfl))) (g := (mkF m 150 #[.val (.int p0), .val (.int p1), .val (.int (v0_7_l2 p0)), .val (.int (p1 &&& (2147483647 : Int32))), .val (.ref o_U50), .val (.long (50 : Int64)), .second, .val (.int (v0_116_l7_3 p1)), .val (.long (v0_141_l8_2 p1)), .second, .val (.long ((v0_116_l7_3 p1).toInt64)), .second] [(.long ((v0_116_l7_3 p1).toInt64))])) rfl (hb hby at_150) _ ?_
            show Steps p.tables e below (T54.setTop (mkF m 153 #[.val (.int p0), .val (.int p1), .val (.int (v0_7_l2 p0)), .val (.int (p1 &&& (2147483647 : Int32))), .val (.ref o_U50), .val (.long (50 : Int64)), .second, .val (.int (v0_116_l7_3 p1)), .val (.long (v0_141_l8_2 p1)), .second, .val (.long ((v0_116_l7_3 p1).toInt64)), .second] [(.long (100 : Int64)), (.long ((v0_116_l7_3 p1).toInt64))])) _
            refine XS.lmul X54.here hx rfl (hb hby at_153) rfl ?_
            show Steps p.tables e below (T54.setTop (mkF m 154 #[.val (.int p0), .val (.int p1), .val (.int (v0_7_l2 p0)), .val (.int (p1 &&& (2147483647 : Int32))), .val (.ref o_U50), .val (.long (50 : Int64)), .second, .val (.int (v0_116_l7_3 p1)), .val (.long (v0_141_l8_2 p1)), .second, .val (.long ((v0_116_l7_3 p1).toInt64)), .second] [(.long (((v0_116_l7_3 p1).toInt64) * (100 : Int64)))])) _
            refine XS.lload X54.here hx rfl (hb hby at_154) rfl ?_
            show Steps p.tables e below (T54.setTop (mkF m 156 #[.val (.int p0), .val (.int p1), .val (.int (v0_7_l2 p0)), .val (.int (p1 &&& (2147483647 : Int32))), .val (.ref o_U50), .val (.long (50 : Int64)), .second, .val (.int (v0_116_l7_3 p1)), .val (.long (v0_141_l8_2 p1)), .second, .val (.long ((v0_116_l7_3 p1).toInt64)), .second] [(.long (v0_141_l8_2 p1)), (.long (((v0_116_l7_3 p1).toInt64) * (100 : Int64)))])) _
            refine XS.lcmp X54.here hx rfl (hb hby at_156) rfl ?_
            suffices k59 : Steps p.tables e below (T54.setTop (mkF m 179 #[.val (.int p0), .val (.int p1), .val (.int (v0_7_l2 p0)), .val (.int (p1 &&& (2147483647 : Int32))), .val (.ref o_U50), .val (.long (50 : Int64)), .second, .val (.int (v0_116_l7_3 p1)), .val (.long (v0_141_l8_2 p1)), .second, .val (.long ((v0_116_l7_3 p1).toInt64)), .second] [(.int (v0_157_s0_2 p1))])) t by
              by_cases hc157_56 : (((v0_116_l7_3 p1).toInt64) * (100 : Int64)) < (v0_141_l8_2 p1)
              · rw [(show (v0_157_s0_2 p1) = (0 : Int32) from if_pos hc157_56)] at k59
                show Steps p.tables e below (T54.setTop (mkF m 157 #[.val (.int p0), .val (.int p1), .val (.int (v0_7_l2 p0)), .val (.int (p1 &&& (2147483647 : Int32))), .val (.ref o_U50), .val (.long (50 : Int64)), .second, .val (.int (v0_116_l7_3 p1)), .val (.long (v0_141_l8_2 p1)), .second, .val (.long ((v0_116_l7_3 p1).toInt64)), .second] [(.int (lcmpW (((v0_116_l7_3 p1).toInt64) * (100 : Int64)) (v0_141_l8_2 p1)))])) _
                refine XS.ifYes X54.here hx rfl (pc0 := 157) (pc' := 178) rfl (hb hby at_157) rfl ((if0 _ _).trans (tlt ((lw_lt _ _).mpr hc157_56)).1) (by decide) (by decide) ?_
                show Steps p.tables e below (T54.setTop (mkF m 178 #[.val (.int p0), .val (.int p1), .val (.int (v0_7_l2 p0)), .val (.int (p1 &&& (2147483647 : Int32))), .val (.ref o_U50), .val (.long (50 : Int64)), .second, .val (.int (v0_116_l7_3 p1)), .val (.long (v0_141_l8_2 p1)), .second, .val (.long ((v0_116_l7_3 p1).toInt64)), .second] [])) _
                refine XS.iconst X54.here hx rfl (hb hby at_178) ?_
                exact k59
              · rw [(show (v0_157_s0_2 p1) = (v0_171_s0_2 p1) from if_neg hc157_56)] at k59
                show Steps p.tables e below (T54.setTop (mkF m 157 #[.val (.int p0), .val (.int p1), .val (.int (v0_7_l2 p0)), .val (.int (p1 &&& (2147483647 : Int32))), .val (.ref o_U50), .val (.long (50 : Int64)), .second, .val (.int (v0_116_l7_3 p1)), .val (.long (v0_141_l8_2 p1)), .second, .val (.long ((v0_116_l7_3 p1).toInt64)), .second] [(.int (lcmpW (((v0_116_l7_3 p1).toInt64) * (100 : Int64)) (v0_141_l8_2 p1)))])) _
                refine XS.ifNo X54.here hx rfl (hb hby at_157) rfl ((if0 _ _).trans (flt (fun q => hc157_56 ((lw_lt _ _).mp q))).1) ?_
                show Steps p.tables e below (T54.setTop (mkF m 160 #[.val (.int p0), .val (.int p1), .val (.int (v0_7_l2 p0)), .val (.int (p1 &&& (2147483647 : Int32))), .val (.ref o_U50), .val (.long (50 : Int64)), .second, .val (.int (v0_116_l7_3 p1)), .val (.long (v0_141_l8_2 p1)), .second, .val (.long ((v0_116_l7_3 p1).toInt64)), .second] [])) _
                refine XS.lload X54.here hx rfl (hb hby at_160) rfl ?_
                show Steps p.tables e below (T54.setTop (mkF m 162 #[.val (.int p0), .val (.int p1), .val (.int (v0_7_l2 p0)), .val (.int (p1 &&& (2147483647 : Int32))), .val (.ref o_U50), .val (.long (50 : Int64)), .second, .val (.int (v0_116_l7_3 p1)), .val (.long (v0_141_l8_2 p1)), .second, .val (.long ((v0_116_l7_3 p1).toInt64)), .second] [(.long ((v0_116_l7_3 p1).toInt64))])) _
                refine XS.lconst X54.here hx rfl (hb hby at_162) ?_
                show Steps p.tables e below (T54.setTop (mkF m 163 #[.val (.int p0), .val (.int p1), .val (.int (v0_7_l2 p0)), .val (.int (p1 &&& (2147483647 : Int32))), .val (.ref o_U50), .val (.long (50 : Int64)), .second, .val (.int (v0_116_l7_3 p1)), .val (.long (v0_141_l8_2 p1)), .second, .val (.long ((v0_116_l7_3 p1).toInt64)), .second] [(.long (1 : Int64)), (.long ((v0_116_l7_3 p1).toInt64))])) _
                refine XS.lsub X54.here hx rfl (hb hby at_163) rfl ?_
                show Steps p.tables e below (T54.setTop (mkF m 164 #[.val (.int p0), .val (.int p1), .val (.int (v0_7_l2 p0)), .val (.int (p1 &&& (2147483647 : Int32))), .val (.ref o_U50), .val (.long (50 : Int64)), .second, .val (.int (v0_116_l7_3 p1)), .val (.long (v0_141_l8_2 p1)), .second, .val (.long ((v0_116_l7_3 p1).toInt64)), .second] [(.long (((v0_116_l7_3 p1).toInt64) - (1 : Int64)))])) _
                refine X54.ldc2Long hx hown (mvT hZ (hw _ (List.mem_of_getElem? (i := 17) rfl))) (g := (mkF m 164 #[.val (.int p0), .val (.int p1), .val (.int (v0_7_l2 p0)), .val (.int (p1 &&& (2147483647 : Int32))), .val (.ref o_U50), .val (.long (50 : Int64)), .second, .val (.int (v0_116_l7_3 p1)), .val (.long (v0_141_l8_2 p1)), .second, .val (.long ((v0_116_l7_3 p1).toInt64)), .second] [(.long (((v0_116_l7_3 p1).toInt64) - (1 : Int64)))])) rfl (hb hby at_164) _ ?_
                show Steps p.tables e below (T54.setTop (mkF m 167 #[.val (.int p0), .val (.int p1), .val (.int (v0_7_l2 p0)), .val (.int (p1 &&& (2147483647 : Int32))), .val (.ref o_U50), .val (.long (50 : Int64)), .second, .val (.int (v0_116_l7_3 p1)), .val (.long (v0_141_l8_2 p1)), .second, .val (.long ((v0_116_l7_3 p1).toInt64)), .second] [(.long (100 : Int64)), (.long (((v0_116_l7_3 p1).toInt64) - (1 : Int64)))])) _
                refine XS.lmul X54.here hx rfl (hb hby at_167) rfl ?_
                show Steps p.tables e below (T54.setTop (mkF m 168 #[.val (.int p0), .val (.int p1), .val (.int (v0_7_l2 p0)), .val (.int (p1 &&& (2147483647 : Int32))), .val (.ref o_U50), .val (.long (50 : Int64)), .second, .val (.int (v0_116_l7_3 p1)), .val (.long (v0_141_l8_2 p1)), .second, .val (.long ((v0_116_l7_3 p1).toInt64)), .second] [(.long ((((v0_116_l7_3 p1).toInt64) - (1 : Int64)) * (100 : Int64)))])) _
                refine XS.lload X54.here hx rfl (hb hby at_168) rfl ?_
                show Steps p.tables e below (T54.setTop (mkF m 170 #[.val (.int p0), .val (.int p1), .val (.int (v0_7_l2 p0)), .val (.int (p1 &&& (2147483647 : Int32))), .val (.ref o_U50), .val (.long (50 : Int64)), .second, .val (.int (v0_116_l7_3 p1)), .val (.long (v0_141_l8_2 p1)), .second, .val (.long ((v0_116_l7_3 p1).toInt64)), .second] [(.long (v0_141_l8_2 p1)), (.long ((((v0_116_l7_3 p1).toInt64) - (1 : Int64)) * (100 : Int64)))])) _
                refine XS.lcmp X54.here hx rfl (hb hby at_170) rfl ?_
                suffices k58 : Steps p.tables e below (T54.setTop (mkF m 179 #[.val (.int p0), .val (.int p1), .val (.int (v0_7_l2 p0)), .val (.int (p1 &&& (2147483647 : Int32))), .val (.ref o_U50), .val (.long (50 : Int64)), .second, .val (.int (v0_116_l7_3 p1)), .val (.long (v0_141_l8_2 p1)), .second, .val (.long ((v0_116_l7_3 p1).toInt64)), .second] [(.int (v0_171_s0_2 p1))])) t by
                  by_cases hc171_57 : ((((v0_116_l7_3 p1).toInt64) - (1 : Int64)) * (100 : Int64)) < (v0_141_l8_2 p1)
                  · rw [(show (v0_171_s0_2 p1) = (1 : Int32) from if_pos hc171_57)] at k58
                    show Steps p.tables e below (T54.setTop (mkF m 171 #[.val (.int p0), .val (.int p1), .val (.int (v0_7_l2 p0)), .val (.int (p1 &&& (2147483647 : Int32))), .val (.ref o_U50), .val (.long (50 : Int64)), .second, .val (.int (v0_116_l7_3 p1)), .val (.long (v0_141_l8_2 p1)), .second, .val (.long ((v0_116_l7_3 p1).toInt64)), .second] [(.int (lcmpW ((((v0_116_l7_3 p1).toInt64) - (1 : Int64)) * (100 : Int64)) (v0_141_l8_2 p1)))])) _
                    refine XS.ifNo X54.here hx rfl (hb hby at_171) rfl ((if0 _ _).trans (tlt ((lw_lt _ _).mpr hc171_57)).2.1) ?_
                    show Steps p.tables e below (T54.setTop (mkF m 174 #[.val (.int p0), .val (.int p1), .val (.int (v0_7_l2 p0)), .val (.int (p1 &&& (2147483647 : Int32))), .val (.ref o_U50), .val (.long (50 : Int64)), .second, .val (.int (v0_116_l7_3 p1)), .val (.long (v0_141_l8_2 p1)), .second, .val (.long ((v0_116_l7_3 p1).toInt64)), .second] [])) _
                    refine XS.iconst X54.here hx rfl (hb hby at_174) ?_
                    show Steps p.tables e below (T54.setTop (mkF m 175 #[.val (.int p0), .val (.int p1), .val (.int (v0_7_l2 p0)), .val (.int (p1 &&& (2147483647 : Int32))), .val (.ref o_U50), .val (.long (50 : Int64)), .second, .val (.int (v0_116_l7_3 p1)), .val (.long (v0_141_l8_2 p1)), .second, .val (.long ((v0_116_l7_3 p1).toInt64)), .second] [(.int (1 : Int32))])) _
                    refine XS.goto X54.here hx rfl (pc0 := 175) (pc' := 179) rfl (hb hby at_175) (by decide) (by decide) ?_
                    exact k58
                  · rw [(show (v0_171_s0_2 p1) = (0 : Int32) from if_neg hc171_57)] at k58
                    show Steps p.tables e below (T54.setTop (mkF m 171 #[.val (.int p0), .val (.int p1), .val (.int (v0_7_l2 p0)), .val (.int (p1 &&& (2147483647 : Int32))), .val (.ref o_U50), .val (.long (50 : Int64)), .second, .val (.int (v0_116_l7_3 p1)), .val (.long (v0_141_l8_2 p1)), .second, .val (.long ((v0_116_l7_3 p1).toInt64)), .second] [(.int (lcmpW ((((v0_116_l7_3 p1).toInt64) - (1 : Int64)) * (100 : Int64)) (v0_141_l8_2 p1)))])) _
                    refine XS.ifYes X54.here hx rfl (pc0 := 171) (pc' := 178) rfl (hb hby at_171) rfl ((if0 _ _).trans (flt (fun q => hc171_57 ((lw_lt _ _).mp q))).2.1) (by decide) (by decide) ?_
                    show Steps p.tables e below (T54.setTop (mkF m 178 #[.val (.int p0), .val (.int p1), .val (.int (v0_7_l2 p0)), .val (.int (p1 &&& (2147483647 : Int32))), .val (.ref o_U50), .val (.long (50 : Int64)), .second, .val (.int (v0_116_l7_3 p1)), .val (.long (v0_141_l8_2 p1)), .second, .val (.long ((v0_116_l7_3 p1).toInt64)), .second] [])) _
                    refine XS.iconst X54.here hx rfl (hb hby at_178) ?_
                    exact k58
                exact k59
            exact kk)
          obtain ⟨fs, hr, hrun, hended, hW, hsame⟩ := X54.leave (v := some (.int (nar .boolean (v0_157_s0_2 p1)))) (fun h => by rw [Bd.returns] at h; cases h)
          have hv : (v0_ret p0 p1) = (nar .boolean (v0_157_s0_2 p1)) := ((if_neg hc14_12).trans ((if_neg hc32_23).trans ((if_neg hc48_36).trans (if_pos hc66_49))))
          have hone : (nar .boolean (v0_157_s0_2 p1)) = 1 := hv.symm.trans (own_law p0 p1)
          refine ⟨_, _, k60 _ ?_, hrun, hended, _, _, rfl, ?_, ⟨_, rfl⟩, hW, hsame.mono (by decide) (by decide)⟩
          · show Steps p.tables e below (T54.setTop (mkF m 179 #[.val (.int p0), .val (.int p1), .val (.int (v0_7_l2 p0)), .val (.int (p1 &&& (2147483647 : Int32))), .val (.ref o_U50), .val (.long (50 : Int64)), .second, .val (.int (v0_116_l7_3 p1)), .val (.long (v0_141_l8_2 p1)), .second, .val (.long ((v0_116_l7_3 p1).toInt64)), .second] [(.int (v0_157_s0_2 p1))])) _
            exact retN X54 hx (t := .boolean) Bd.returns (by simp) (hb hby at_179) hr
          · show Q0 Z p0 p1 o_INIT o_U0 o_U25 o_U50 o_U75 o_U100 h0 n0 _ T54.heap _
            rw [e54]
            exact ⟨congrArg (fun z => some (Value.int z)) hone, N54⟩
        · have k61 := fun (t : State) (kk : Steps p.tables e below (s₁.setTop (mkF m 84 #[.val (.int p0), .val (.int p1), .val (.int (v0_7_l2 p0)), .val (.int (p1 &&& (2147483647 : Int32))), .unset, .unset, .unset, .unset, .unset, .unset, .unset, .unset] [(.int (4 : Int32)), (.int (v0_7_l2 p0))])) t) => k48 t (by
            show Steps p.tables e below (s₁.setTop (mkF m 66 #[.val (.int p0), .val (.int p1), .val (.int (v0_7_l2 p0)), .val (.int (p1 &&& (2147483647 : Int32))), .unset, .unset, .unset, .unset, .unset, .unset, .unset, .unset] [(.int (3 : Int32)), (.int (v0_7_l2 p0))])) _
            refine XS.icmpYes X0.here hx rfl (pc0 := 66) (pc' := 82) rfl (hb hby at_66) rfl (feq hc66_49).2 (by decide) (by decide) ?_
            show Steps p.tables e below (s₁.setTop (mkF m 82 #[.val (.int p0), .val (.int p1), .val (.int (v0_7_l2 p0)), .val (.int (p1 &&& (2147483647 : Int32))), .unset, .unset, .unset, .unset, .unset, .unset, .unset, .unset] [])) _
            refine XS.iloadN X0.here hx rfl (hb hby at_82) rfl ?_
            show Steps p.tables e below (s₁.setTop (mkF m 83 #[.val (.int p0), .val (.int p1), .val (.int (v0_7_l2 p0)), .val (.int (p1 &&& (2147483647 : Int32))), .unset, .unset, .unset, .unset, .unset, .unset, .unset, .unset] [(.int (v0_7_l2 p0))])) _
            refine XS.iconst X0.here hx rfl (hb hby at_83) ?_
            exact kk)
          by_cases hc84_62 : (v0_7_l2 p0) = (4 : Int32)
          · have k63 := fun (t : State) (kk : Steps p.tables e below (s₁.setTop (mkF m 87 #[.val (.int p0), .val (.int p1), .val (.int (v0_7_l2 p0)), .val (.int (p1 &&& (2147483647 : Int32))), .unset, .unset, .unset, .unset, .unset, .unset, .unset, .unset] [])) t) => k61 t (by
              show Steps p.tables e below (s₁.setTop (mkF m 84 #[.val (.int p0), .val (.int p1), .val (.int (v0_7_l2 p0)), .val (.int (p1 &&& (2147483647 : Int32))), .unset, .unset, .unset, .unset, .unset, .unset, .unset, .unset] [(.int (4 : Int32)), (.int (v0_7_l2 p0))])) _
              refine XS.icmpNo X0.here hx rfl (hb hby at_84) rfl (teq hc84_62).2 ?_
              exact kk)
            obtain ⟨T64, X64, e64, st64⟩ := getS2 X0 hx hZ hown (host := "") (Or.inl (hw _ (List.mem_of_getElem? (i := 18) rfl))) Via.refl e0 S_U75 (g := (mkF m 87 #[.val (.int p0), .val (.int p1), .val (.int (v0_7_l2 p0)), .val (.int (p1 &&& (2147483647 : Int32))), .unset, .unset, .unset, .unset, .unset, .unset, .unset, .unset] [])) rfl (hb hby at_87)
            have k65 := fun (t : State) (kk : Steps p.tables e below (T64.setTop (mkF m 90 #[.val (.int p0), .val (.int p1), .val (.int (v0_7_l2 p0)), .val (.int (p1 &&& (2147483647 : Int32))), .unset, .unset, .unset, .unset, .unset, .unset, .unset, .unset] [(.ref o_U75)])) t) => k63 t (st64 _ kk)
            have k66 := fun (t : State) (kk : Steps p.tables e below (T64.setTop (mkF m 113 #[.val (.int p0), .val (.int p1), .val (.int (v0_7_l2 p0)), .val (.int (p1 &&& (2147483647 : Int32))), .val (.ref o_U75), .val (.long (75 : Int64)), .second, .unset, .unset, .unset, .unset, .unset] [(.int (p1 &&& (2147483647 : Int32))), (.ref o_U75)])) t) => k65 t (by
              show Steps p.tables e below (T64.setTop (mkF m 90 #[.val (.int p0), .val (.int p1), .val (.int (v0_7_l2 p0)), .val (.int (p1 &&& (2147483647 : Int32))), .unset, .unset, .unset, .unset, .unset, .unset, .unset, .unset] [(.ref o_U75)])) _
              refine XS.astore X64.here hx rfl (hb hby at_90) rfl rfl (l' := #[.val (.int p0), .val (.int p1), .val (.int (v0_7_l2 p0)), .val (.int (p1 &&& (2147483647 : Int32))), .val (.ref o_U75), .unset, .unset, .unset, .unset, .unset, .unset, .unset]) rfl ?_
              show Steps p.tables e below (T64.setTop (mkF m 92 #[.val (.int p0), .val (.int p1), .val (.int (v0_7_l2 p0)), .val (.int (p1 &&& (2147483647 : Int32))), .val (.ref o_U75), .unset, .unset, .unset, .unset, .unset, .unset, .unset] [])) _
              refine X64.ldc2Long hx hown (mvT hZ (hw _ (List.mem_of_getElem? (i := 20) rfl))) (g := (mkF m 92 #[.val (.int p0), .val (.int p1), .val (.int (v0_7_l2 p0)), .val (.int (p1 &&& (2147483647 : Int32))), .val (.ref o_U75), .unset, .unset, .unset, .unset, .unset, .unset, .unset] [])) rfl (hb hby at_92) _ ?_
              show Steps p.tables e below (T64.setTop (mkF m 95 #[.val (.int p0), .val (.int p1), .val (.int (v0_7_l2 p0)), .val (.int (p1 &&& (2147483647 : Int32))), .val (.ref o_U75), .unset, .unset, .unset, .unset, .unset, .unset, .unset] [(.long (75 : Int64))])) _
              refine XS.lstore X64.here hx rfl (hb hby at_95) rfl (l' := #[.val (.int p0), .val (.int p1), .val (.int (v0_7_l2 p0)), .val (.int (p1 &&& (2147483647 : Int32))), .val (.ref o_U75), .val (.long (75 : Int64)), .second, .unset, .unset, .unset, .unset, .unset]) rfl ?_
              show Steps p.tables e below (T64.setTop (mkF m 97 #[.val (.int p0), .val (.int p1), .val (.int (v0_7_l2 p0)), .val (.int (p1 &&& (2147483647 : Int32))), .val (.ref o_U75), .val (.long (75 : Int64)), .second, .unset, .unset, .unset, .unset, .unset] [])) _
              refine XS.goto X64.here hx rfl (pc0 := 97) (pc' := 110) rfl (hb hby at_97) (by decide) (by decide) ?_
              show Steps p.tables e below (T64.setTop (mkF m 110 #[.val (.int p0), .val (.int p1), .val (.int (v0_7_l2 p0)), .val (.int (p1 &&& (2147483647 : Int32))), .val (.ref o_U75), .val (.long (75 : Int64)), .second, .unset, .unset, .unset, .unset, .unset] [])) _
              refine XS.aload X64.here hx rfl (hb hby at_110) rfl rfl ?_
              show Steps p.tables e below (T64.setTop (mkF m 112 #[.val (.int p0), .val (.int p1), .val (.int (v0_7_l2 p0)), .val (.int (p1 &&& (2147483647 : Int32))), .val (.ref o_U75), .val (.long (75 : Int64)), .second, .unset, .unset, .unset, .unset, .unset] [(.ref o_U75)])) _
              refine XS.iloadN X64.here hx rfl (hb hby at_112) rfl ?_
              exact kk)
            have Zz67 : n0 ≤ h0.size := (Nat.le_trans Z0 KC0.1)
            obtain ⟨cq67, kq67, q67a, q67b, q67c⟩ := isOf hZ e64 E_o_U75
            obtain ⟨_, _, ⟨T67, L67, k67, n67⟩, -, X67, ⟨Lc67, hQ67, l67, y67, z67⟩, st67⟩ := X64.virtualBack hx (y := (⟨"com/example/slabrun/slabrun/core/UsageList", "stayFrom", "(I)I"⟩ : MethodName)) (z := (⟨"com/example/slabrun/slabrun/core/UsageList", "stayFrom", "(I)I"⟩ : MethodName)) hown (mvT hZ (hw _ (List.mem_of_getElem? (i := 5) rfl))) (mvT hZ (hw _ (List.mem_of_getElem? (i := 6) rfl))) (notFace_of_selects (args := #[]) (mvT hZ (hw _ (List.mem_of_getElem? (i := 8) rfl)))) (mvT hZ (hw _ (List.mem_of_getElem? (i := 8) rfl))) (mvT hZ (hw _ (List.mem_of_getElem? (i := 7) rfl))) (by decide) (backOf (W := 0) (rm1 l Z a0 hw [] o_U75 (p1 &&& (2147483647 : Int32)) (75 : Int32) h0 n0 Zz67 F_lowest_o_U75) hZ (hw _ (List.mem_of_getElem? (i := 9) rfl)) (hw _ (List.mem_of_getElem? (i := 2) rfl)) (by decide) (by decide)) q67a q67c (g := (mkF m 113 #[.val (.int p0), .val (.int p1), .val (.int (v0_7_l2 p0)), .val (.int (p1 &&& (2147483647 : Int32))), .val (.ref o_U75), .val (.long (75 : Int64)), .second, .unset, .unset, .unset, .unset, .unset] [(.int (p1 &&& (2147483647 : Int32))), (.ref o_U75)])) rfl (by rw [hml]; rfl) (Steps.refl _) (argsL := [(.int (p1 &&& (2147483647 : Int32)))]) (rest := []) (lenOf pd_0 rfl) rfl (by show 2 * 0 + _ ≤ _; exact Nat.le_of_eq rfl) (hb hby at_113) (fun _ _ => ⟨rfl, e64, (by decide : 0 + 0 ≤ _), (by decide : 0 + 0 ≤ _)⟩)
            dsimp only [Pt.U, Pt.locs, Pt.cells, Pt.slots] at X67 l67 y67 z67 st67 hQ67
            subst l67 y67 z67
            obtain ⟨rfl, N67q, e67⟩ := hQ67
            have N67 := Fr.app N0 N67q
            have k68 := fun (t : State) (kk : Steps p.tables e below (T67.setTop (mkF m 116 #[.val (.int p0), .val (.int p1), .val (.int (v0_7_l2 p0)), .val (.int (p1 &&& (2147483647 : Int32))), .val (.ref o_U75), .val (.long (75 : Int64)), .second, .unset, .unset, .unset, .unset, .unset] [(.int (v1_ret (p1 &&& (2147483647 : Int32)) (75 : Int32)))])) t) => k66 t (st67.trans kk)
            have k73 := fun (t : State) (kk : Steps p.tables e below (T67.setTop (mkF m 179 #[.val (.int p0), .val (.int p1), .val (.int (v0_7_l2 p0)), .val (.int (p1 &&& (2147483647 : Int32))), .val (.ref o_U75), .val (.long (75 : Int64)), .second, .val (.int (v0_116_l7_4 p1)), .val (.long (v0_141_l8_3 p1)), .second, .val (.long ((v0_116_l7_4 p1).toInt64)), .second] [(.int (v0_157_s0_3 p1))])) t) => k68 t (by
              show Steps p.tables e below (T67.setTop (mkF m 116 #[.val (.int p0), .val (.int p1), .val (.int (v0_7_l2 p0)), .val (.int (p1 &&& (2147483647 : Int32))), .val (.ref o_U75), .val (.long (75 : Int64)), .second, .unset, .unset, .unset, .unset, .unset] [(.int (v1_ret (p1 &&& (2147483647 : Int32)) (75 : Int32)))])) _
              refine XS.istore X67.here hx rfl (hb hby at_116) rfl (l' := #[.val (.int p0), .val (.int p1), .val (.int (v0_7_l2 p0)), .val (.int (p1 &&& (2147483647 : Int32))), .val (.ref o_U75), .val (.long (75 : Int64)), .second, .val (.int (v0_116_l7_4 p1)), .unset, .unset, .unset, .unset]) rfl ?_
              show Steps p.tables e below (T67.setTop (mkF m 118 #[.val (.int p0), .val (.int p1), .val (.int (v0_7_l2 p0)), .val (.int (p1 &&& (2147483647 : Int32))), .val (.ref o_U75), .val (.long (75 : Int64)), .second, .val (.int (v0_116_l7_4 p1)), .unset, .unset, .unset, .unset] [])) _
              refine XS.lload X67.here hx rfl (hb hby at_118) rfl ?_
              show Steps p.tables e below (T67.setTop (mkF m 120 #[.val (.int p0), .val (.int p1), .val (.int (v0_7_l2 p0)), .val (.int (p1 &&& (2147483647 : Int32))), .val (.ref o_U75), .val (.long (75 : Int64)), .second, .val (.int (v0_116_l7_4 p1)), .unset, .unset, .unset, .unset] [(.long (75 : Int64))])) _
              refine XS.lconst X67.here hx rfl (hb hby at_120) ?_
              show Steps p.tables e below (T67.setTop (mkF m 121 #[.val (.int p0), .val (.int p1), .val (.int (v0_7_l2 p0)), .val (.int (p1 &&& (2147483647 : Int32))), .val (.ref o_U75), .val (.long (75 : Int64)), .second, .val (.int (v0_116_l7_4 p1)), .unset, .unset, .unset, .unset] [(.long (0 : Int64)), (.long (75 : Int64))])) _
              refine XS.lcmp X67.here hx rfl (hb hby at_121) rfl ?_
              show Steps p.tables e below (T67.setTop (mkF m 122 #[.val (.int p0), .val (.int p1), .val (.int (v0_7_l2 p0)), .val (.int (p1 &&& (2147483647 : Int32))), .val (.ref o_U75), .val (.long (75 : Int64)), .second, .val (.int (v0_116_l7_4 p1)), .unset, .unset, .unset, .unset] [(.int (lcmpW (75 : Int64) (0 : Int64)))])) _
              refine XS.ifYes X67.here hx rfl (pc0 := 122) (pc' := 136) rfl (hb hby at_122) rfl ((if0 _ _).trans (flt (fun q => (by decide : ¬ ((75 : Int64) < (0 : Int64))) ((lw_lt _ _).mp q))).2.1) (by decide) (by decide) ?_
              show Steps p.tables e below (T67.setTop (mkF m 136 #[.val (.int p0), .val (.int p1), .val (.int (v0_7_l2 p0)), .val (.int (p1 &&& (2147483647 : Int32))), .val (.ref o_U75), .val (.long (75 : Int64)), .second, .val (.int (v0_116_l7_4 p1)), .unset, .unset, .unset, .unset] [])) _
              refine XS.lload X67.here hx rfl (hb hby at_136) rfl ?_
              show Steps p.tables e below (T67.setTop (mkF m 138 #[.val (.int p0), .val (.int p1), .val (.int (v0_7_l2 p0)), .val (.int (p1 &&& (2147483647 : Int32))), .val (.ref o_U75), .val (.long (75 : Int64)), .second, .val (.int (v0_116_l7_4 p1)), .unset, .unset, .unset, .unset] [(.long (75 : Int64))])) _
              refine XS.iloadN X67.here hx rfl (hb hby at_138) rfl ?_
              show Steps p.tables e below (T67.setTop (mkF m 139 #[.val (.int p0), .val (.int p1), .val (.int (v0_7_l2 p0)), .val (.int (p1 &&& (2147483647 : Int32))), .val (.ref o_U75), .val (.long (75 : Int64)), .second, .val (.int (v0_116_l7_4 p1)), .unset, .unset, .unset, .unset] [(.int (p1 &&& (2147483647 : Int32))), (.long (75 : Int64))])) _
              refine XS.i2l X67.here hx rfl (hb hby at_139) rfl ?_
              show Steps p.tables e below (T67.setTop (mkF m 140 #[.val (.int p0), .val (.int p1), .val (.int (v0_7_l2 p0)), .val (.int (p1 &&& (2147483647 : Int32))), .val (.ref o_U75), .val (.long (75 : Int64)), .second, .val (.int (v0_116_l7_4 p1)), .unset, .unset, .unset, .unset] [(.long ((p1 &&& (2147483647 : Int32)).toInt64)), (.long (75 : Int64))])) _
              refine XS.lmul X67.here hx rfl (hb hby at_140) rfl ?_
              show Steps p.tables e below (T67.setTop (mkF m 141 #[.val (.int p0), .val (.int p1), .val (.int (v0_7_l2 p0)), .val (.int (p1 &&& (2147483647 : Int32))), .val (.ref o_U75), .val (.long (75 : Int64)), .second, .val (.int (v0_116_l7_4 p1)), .unset, .unset, .unset, .unset] [(.long ((75 : Int64) * ((p1 &&& (2147483647 : Int32)).toInt64)))])) _
              refine XS.lstore X67.here hx rfl (hb hby at_141) rfl (l' := #[.val (.int p0), .val (.int p1), .val (.int (v0_7_l2 p0)), .val (.int (p1 &&& (2147483647 : Int32))), .val (.ref o_U75), .val (.long (75 : Int64)), .second, .val (.int (v0_116_l7_4 p1)), .val (.long (v0_141_l8_3 p1)), .second, .unset, .unset]) rfl ?_
              show Steps p.tables e below (T67.setTop (mkF m 143 #[.val (.int p0), .val (.int p1), .val (.int (v0_7_l2 p0)), .val (.int (p1 &&& (2147483647 : Int32))), .val (.ref o_U75), .val (.long (75 : Int64)), .second, .val (.int (v0_116_l7_4 p1)), .val (.long (v0_141_l8_3 p1)), .second, .unset, .unset] [])) _
              refine XS.iload X67.here hx rfl (hb hby at_143) rfl ?_
              show Steps p.tables e below (T67.setTop (mkF m 145 #[.val (.int p0), .val (.int p1), .val (.int (v0_7_l2 p0)), .val (.int (p1 &&& (2147483647 : Int32))), .val (.ref o_U75), .val (.long (75 : Int64)), .second, .val (.int (v0_116_l7_4 p1)), .val (.long (v0_141_l8_3 p1)), .second, .unset, .unset] [(.int (v0_116_l7_4 p1))])) _
              refine XS.i2l X67.here hx rfl (hb hby at_145) rfl ?_
              show Steps p.tables e below (T67.setTop (mkF m 146 #[.val (.int p0), .val (.int p1), .val (.int (v0_7_l2 p0)), .val (.int (p1 &&& (2147483647 : Int32))), .val (.ref o_U75), .val (.long (75 : Int64)), .second, .val (.int (v0_116_l7_4 p1)), .val (.long (v0_141_l8_3 p1)), .second, .unset, .unset] [(.long ((v0_116_l7_4 p1).toInt64))])) _
              refine XS.lstore X67.here hx rfl (hb hby at_146) rfl (l' := #[.val (.int p0), .val (.int p1), .val (.int (v0_7_l2 p0)), .val (.int (p1 &&& (2147483647 : Int32))), .val (.ref o_U75), .val (.long (75 : Int64)), .second, .val (.int (v0_116_l7_4 p1)), .val (.long (v0_141_l8_3 p1)), .second, .val (.long ((v0_116_l7_4 p1).toInt64)), .second]) rfl ?_
              show Steps p.tables e below (T67.setTop (mkF m 148 #[.val (.int p0), .val (.int p1), .val (.int (v0_7_l2 p0)), .val (.int (p1 &&& (2147483647 : Int32))), .val (.ref o_U75), .val (.long (75 : Int64)), .second, .val (.int (v0_116_l7_4 p1)), .val (.long (v0_141_l8_3 p1)), .second, .val (.long ((v0_116_l7_4 p1).toInt64)), .second] [])) _
              refine XS.lload X67.here hx rfl (hb hby at_148) rfl ?_
              show Steps p.tables e below (T67.setTop (mkF m 150 #[.val (.int p0), .val (.int p1), .val (.int (v0_7_l2 p0)), .val (.int (p1 &&& (2147483647 : Int32))), .val (.ref o_U75), .val (.long (75 : Int64)), .second, .val (.int (v0_116_l7_4 p1)), .val (.long (v0_141_l8_3 p1)), .second, .val (.long ((v0_116_l7_4 p1).toInt64)), .second] [(.long ((v0_116_l7_4 p1).toInt64))])) _
              refine X67.ldc2Long hx hown (mvT hZ (hw _ (List.mem_of_getElem? (i := 17) rfl))) (g := (mkF m 150 #[.val (.int p0), .val (.int p1), .val (.int (v0_7_l2 p0)), .val (.int (p1 &&& (2147483647 : Int32))), .val (.ref o_U75), .val (.long (75 : Int64)), .second, .val (.int (v0_116_l7_4 p1)), .val (.long (v0_141_l8_3 p1)), .second, .val (.long ((v0_116_l7_4 p1).toInt64)), .second] [(.long ((v0_116_l7_4 p1).toInt64))])) rfl (hb hby at_150) _ ?_
              show Steps p.tables e below (T67.setTop (mkF m 153 #[.val (.int p0), .val (.int p1), .val (.int (v0_7_l2 p0)), .val (.int (p1 &&& (2147483647 : Int32))), .val (.ref o_U75), .val (.long (75 : Int64)), .second, .val (.int (v0_116_l7_4 p1)), .val (.long (v0_141_l8_3 p1)), .second, .val (.long ((v0_116_l7_4 p1).toInt64)), .second] [(.long (100 : Int64)), (.long ((v0_116_l7_4 p1).toInt64))])) _
              refine XS.lmul X67.here hx rfl (hb hby at_153) rfl ?_
              show Steps p.tables e below (T67.setTop (mkF m 154 #[.val (.int p0), .val (.int p1), .val (.int (v0_7_l2 p0)), .val (.int (p1 &&& (2147483647 : Int32))), .val (.ref o_U75), .val (.long (75 : Int64)), .second, .val (.int (v0_116_l7_4 p1)), .val (.long (v0_141_l8_3 p1)), .second, .val (.long ((v0_116_l7_4 p1).toInt64)), .second] [(.long (((v0_116_l7_4 p1).toInt64) * (100 : Int64)))])) _
              refine XS.lload X67.here hx rfl (hb hby at_154) rfl ?_
              show Steps p.tables e below (T67.setTop (mkF m 156 #[.val (.int p0), .val (.int p1), .val (.int (v0_7_l2 p0)), .val (.int (p1 &&& (2147483647 : Int32))), .val (.ref o_U75), .val (.long (75 : Int64)), .second, .val (.int (v0_116_l7_4 p1)), .val (.long (v0_141_l8_3 p1)), .second, .val (.long ((v0_116_l7_4 p1).toInt64)), .second] [(.long (v0_141_l8_3 p1)), (.long (((v0_116_l7_4 p1).toInt64) * (100 : Int64)))])) _
              refine XS.lcmp X67.here hx rfl (hb hby at_156) rfl ?_
              suffices k72 : Steps p.tables e below (T67.setTop (mkF m 179 #[.val (.int p0), .val (.int p1), .val (.int (v0_7_l2 p0)), .val (.int (p1 &&& (2147483647 : Int32))), .val (.ref o_U75), .val (.long (75 : Int64)), .second, .val (.int (v0_116_l7_4 p1)), .val (.long (v0_141_l8_3 p1)), .second, .val (.long ((v0_116_l7_4 p1).toInt64)), .second] [(.int (v0_157_s0_3 p1))])) t by
                by_cases hc157_69 : (((v0_116_l7_4 p1).toInt64) * (100 : Int64)) < (v0_141_l8_3 p1)
                · rw [(show (v0_157_s0_3 p1) = (0 : Int32) from if_pos hc157_69)] at k72
                  show Steps p.tables e below (T67.setTop (mkF m 157 #[.val (.int p0), .val (.int p1), .val (.int (v0_7_l2 p0)), .val (.int (p1 &&& (2147483647 : Int32))), .val (.ref o_U75), .val (.long (75 : Int64)), .second, .val (.int (v0_116_l7_4 p1)), .val (.long (v0_141_l8_3 p1)), .second, .val (.long ((v0_116_l7_4 p1).toInt64)), .second] [(.int (lcmpW (((v0_116_l7_4 p1).toInt64) * (100 : Int64)) (v0_141_l8_3 p1)))])) _
                  refine XS.ifYes X67.here hx rfl (pc0 := 157) (pc' := 178) rfl (hb hby at_157) rfl ((if0 _ _).trans (tlt ((lw_lt _ _).mpr hc157_69)).1) (by decide) (by decide) ?_
                  show Steps p.tables e below (T67.setTop (mkF m 178 #[.val (.int p0), .val (.int p1), .val (.int (v0_7_l2 p0)), .val (.int (p1 &&& (2147483647 : Int32))), .val (.ref o_U75), .val (.long (75 : Int64)), .second, .val (.int (v0_116_l7_4 p1)), .val (.long (v0_141_l8_3 p1)), .second, .val (.long ((v0_116_l7_4 p1).toInt64)), .second] [])) _
                  refine XS.iconst X67.here hx rfl (hb hby at_178) ?_
                  exact k72
                · rw [(show (v0_157_s0_3 p1) = (v0_171_s0_3 p1) from if_neg hc157_69)] at k72
                  show Steps p.tables e below (T67.setTop (mkF m 157 #[.val (.int p0), .val (.int p1), .val (.int (v0_7_l2 p0)), .val (.int (p1 &&& (2147483647 : Int32))), .val (.ref o_U75), .val (.long (75 : Int64)), .second, .val (.int (v0_116_l7_4 p1)), .val (.long (v0_141_l8_3 p1)), .second, .val (.long ((v0_116_l7_4 p1).toInt64)), .second] [(.int (lcmpW (((v0_116_l7_4 p1).toInt64) * (100 : Int64)) (v0_141_l8_3 p1)))])) _
                  refine XS.ifNo X67.here hx rfl (hb hby at_157) rfl ((if0 _ _).trans (flt (fun q => hc157_69 ((lw_lt _ _).mp q))).1) ?_
                  show Steps p.tables e below (T67.setTop (mkF m 160 #[.val (.int p0), .val (.int p1), .val (.int (v0_7_l2 p0)), .val (.int (p1 &&& (2147483647 : Int32))), .val (.ref o_U75), .val (.long (75 : Int64)), .second, .val (.int (v0_116_l7_4 p1)), .val (.long (v0_141_l8_3 p1)), .second, .val (.long ((v0_116_l7_4 p1).toInt64)), .second] [])) _
                  refine XS.lload X67.here hx rfl (hb hby at_160) rfl ?_
                  show Steps p.tables e below (T67.setTop (mkF m 162 #[.val (.int p0), .val (.int p1), .val (.int (v0_7_l2 p0)), .val (.int (p1 &&& (2147483647 : Int32))), .val (.ref o_U75), .val (.long (75 : Int64)), .second, .val (.int (v0_116_l7_4 p1)), .val (.long (v0_141_l8_3 p1)), .second, .val (.long ((v0_116_l7_4 p1).toInt64)), .second] [(.long ((v0_116_l7_4 p1).toInt64))])) _
                  refine XS.lconst X67.here hx rfl (hb hby at_162) ?_
                  show Steps p.tables e below (T67.setTop (mkF m 163 #[.val (.int p0), .val (.int p1), .val (.int (v0_7_l2 p0)), .val (.int (p1 &&& (2147483647 : Int32))), .val (.ref o_U75), .val (.long (75 : Int64)), .second, .val (.int (v0_116_l7_4 p1)), .val (.long (v0_141_l8_3 p1)), .second, .val (.long ((v0_116_l7_4 p1).toInt64)), .second] [(.long (1 : Int64)), (.long ((v0_116_l7_4 p1).toInt64))])) _
                  refine XS.lsub X67.here hx rfl (hb hby at_163) rfl ?_
                  show Steps p.tables e below (T67.setTop (mkF m 164 #[.val (.int p0), .val (.int p1), .val (.int (v0_7_l2 p0)), .val (.int (p1 &&& (2147483647 : Int32))), .val (.ref o_U75), .val (.long (75 : Int64)), .second, .val (.int (v0_116_l7_4 p1)), .val (.long (v0_141_l8_3 p1)), .second, .val (.long ((v0_116_l7_4 p1).toInt64)), .second] [(.long (((v0_116_l7_4 p1).toInt64) - (1 : Int64)))])) _
                  refine X67.ldc2Long hx hown (mvT hZ (hw _ (List.mem_of_getElem? (i := 17) rfl))) (g := (mkF m 164 #[.val (.int p0), .val (.int p1), .val (.int (v0_7_l2 p0)), .val (.int (p1 &&& (2147483647 : Int32))), .val (.ref o_U75), .val (.long (75 : Int64)), .second, .val (.int (v0_116_l7_4 p1)), .val (.long (v0_141_l8_3 p1)), .second, .val (.long ((v0_116_l7_4 p1).toInt64)), .second] [(.long (((v0_116_l7_4 p1).toInt64) - (1 : Int64)))])) rfl (hb hby at_164) _ ?_
                  show Steps p.tables e below (T67.setTop (mkF m 167 #[.val (.int p0), .val (.int p1), .val (.int (v0_7_l2 p0)), .val (.int (p1 &&& (2147483647 : Int32))), .val (.ref o_U75), .val (.long (75 : Int64)), .second, .val (.int (v0_116_l7_4 p1)), .val (.long (v0_141_l8_3 p1)), .second, .val (.long ((v0_116_l7_4 p1).toInt64)), .second] [(.long (100 : Int64)), (.long (((v0_116_l7_4 p1).toInt64) - (1 : Int64)))])) _
                  refine XS.lmul X67.here hx rfl (hb hby at_167) rfl ?_
                  show Steps p.tables e below (T67.setTop (mkF m 168 #[.val (.int p0), .val (.int p1), .val (.int (v0_7_l2 p0)), .val (.int (p1 &&& (2147483647 : Int32))), .val (.ref o_U75), .val (.long (75 : Int64)), .second, .val (.int (v0_116_l7_4 p1)), .val (.long (v0_141_l8_3 p1)), .second, .val (.long ((v0_116_l7_4 p1).toInt64)), .second] [(.long ((((v0_116_l7_4 p1).toInt64) - (1 : Int64)) * (100 : Int64)))])) _
                  refine XS.lload X67.here hx rfl (hb hby at_168) rfl ?_
                  show Steps p.tables e below (T67.setTop (mkF m 170 #[.val (.int p0), .val (.int p1), .val (.int (v0_7_l2 p0)), .val (.int (p1 &&& (2147483647 : Int32))), .val (.ref o_U75), .val (.long (75 : Int64)), .second, .val (.int (v0_116_l7_4 p1)), .val (.long (v0_141_l8_3 p1)), .second, .val (.long ((v0_116_l7_4 p1).toInt64)), .second] [(.long (v0_141_l8_3 p1)), (.long ((((v0_116_l7_4 p1).toInt64) - (1 : Int64)) * (100 : Int64)))])) _
                  refine XS.lcmp X67.here hx rfl (hb hby at_170) rfl ?_
                  suffices k71 : Steps p.tables e below (T67.setTop (mkF m 179 #[.val (.int p0), .val (.int p1), .val (.int (v0_7_l2 p0)), .val (.int (p1 &&& (2147483647 : Int32))), .val (.ref o_U75), .val (.long (75 : Int64)), .second, .val (.int (v0_116_l7_4 p1)), .val (.long (v0_141_l8_3 p1)), .second, .val (.long ((v0_116_l7_4 p1).toInt64)), .second] [(.int (v0_171_s0_3 p1))])) t by
                    by_cases hc171_70 : ((((v0_116_l7_4 p1).toInt64) - (1 : Int64)) * (100 : Int64)) < (v0_141_l8_3 p1)
                    · rw [(show (v0_171_s0_3 p1) = (1 : Int32) from if_pos hc171_70)] at k71
                      show Steps p.tables e below (T67.setTop (mkF m 171 #[.val (.int p0), .val (.int p1), .val (.int (v0_7_l2 p0)), .val (.int (p1 &&& (2147483647 : Int32))), .val (.ref o_U75), .val (.long (75 : Int64)), .second, .val (.int (v0_116_l7_4 p1)), .val (.long (v0_141_l8_3 p1)), .second, .val (.long ((v0_116_l7_4 p1).toInt64)), .second] [(.int (lcmpW ((((v0_116_l7_4 p1).toInt64) - (1 : Int64)) * (100 : Int64)) (v0_141_l8_3 p1)))])) _
                      refine XS.ifNo X67.here hx rfl (hb hby at_171) rfl ((if0 _ _).trans (tlt ((lw_lt _ _).mpr hc171_70)).2.1) ?_
                      show Steps p.tables e below (T67.setTop (mkF m 174 #[.val (.int p0), .val (.int p1), .val (.int (v0_7_l2 p0)), .val (.int (p1 &&& (2147483647 : Int32))), .val (.ref o_U75), .val (.long (75 : Int64)), .second, .val (.int (v0_116_l7_4 p1)), .val (.long (v0_141_l8_3 p1)), .second, .val (.long ((v0_116_l7_4 p1).toInt64)), .second] [])) _
                      refine XS.iconst X67.here hx rfl (hb hby at_174) ?_
                      show Steps p.tables e below (T67.setTop (mkF m 175 #[.val (.int p0), .val (.int p1), .val (.int (v0_7_l2 p0)), .val (.int (p1 &&& (2147483647 : Int32))), .val (.ref o_U75), .val (.long (75 : Int64)), .second, .val (.int (v0_116_l7_4 p1)), .val (.long (v0_141_l8_3 p1)), .second, .val (.long ((v0_116_l7_4 p1).toInt64)), .second] [(.int (1 : Int32))])) _
                      refine XS.goto X67.here hx rfl (pc0 := 175) (pc' := 179) rfl (hb hby at_175) (by decide) (by decide) ?_
                      exact k71
                    · rw [(show (v0_171_s0_3 p1) = (0 : Int32) from if_neg hc171_70)] at k71
                      show Steps p.tables e below (T67.setTop (mkF m 171 #[.val (.int p0), .val (.int p1), .val (.int (v0_7_l2 p0)), .val (.int (p1 &&& (2147483647 : Int32))), .val (.ref o_U75), .val (.long (75 : Int64)), .second, .val (.int (v0_116_l7_4 p1)), .val (.long (v0_141_l8_3 p1)), .second, .val (.long ((v0_116_l7_4 p1).toInt64)), .second] [(.int (lcmpW ((((v0_116_l7_4 p1).toInt64) - (1 : Int64)) * (100 : Int64)) (v0_141_l8_3 p1)))])) _
                      refine XS.ifYes X67.here hx rfl (pc0 := 171) (pc' := 178) rfl (hb hby at_171) rfl ((if0 _ _).trans (flt (fun q => hc171_70 ((lw_lt _ _).mp q))).2.1) (by decide) (by decide) ?_
                      show Steps p.tables e below (T67.setTop (mkF m 178 #[.val (.int p0), .val (.int p1), .val (.int (v0_7_l2 p0)), .val (.int (p1 &&& (2147483647 : Int32))), .val (.ref o_U75), .val (.long (75 : Int64)), .second, .val (.int (v0_116_l7_4 p1)), .val (.long (v0_141_l8_3 p1)), .second, .val (.long ((v0_116_l7_4 p1).toInt64)), .second] [])) _
                      refine XS.iconst X67.here hx rfl (hb hby at_178) ?_
                      exact k71
                  exact k72
              exact kk)
            obtain ⟨fs, hr, hrun, hended, hW, hsame⟩ := X67.leave (v := some (.int (nar .boolean (v0_157_s0_3 p1)))) (fun h => by rw [Bd.returns] at h; cases h)
            have hv : (v0_ret p0 p1) = (nar .boolean (v0_157_s0_3 p1)) := ((if_neg hc14_12).trans ((if_neg hc32_23).trans ((if_neg hc48_36).trans ((if_neg hc66_49).trans (if_pos hc84_62)))))
            have hone : (nar .boolean (v0_157_s0_3 p1)) = 1 := hv.symm.trans (own_law p0 p1)
            refine ⟨_, _, k73 _ ?_, hrun, hended, _, _, rfl, ?_, ⟨_, rfl⟩, hW, hsame.mono (by decide) (by decide)⟩
            · show Steps p.tables e below (T67.setTop (mkF m 179 #[.val (.int p0), .val (.int p1), .val (.int (v0_7_l2 p0)), .val (.int (p1 &&& (2147483647 : Int32))), .val (.ref o_U75), .val (.long (75 : Int64)), .second, .val (.int (v0_116_l7_4 p1)), .val (.long (v0_141_l8_3 p1)), .second, .val (.long ((v0_116_l7_4 p1).toInt64)), .second] [(.int (v0_157_s0_3 p1))])) _
              exact retN X67 hx (t := .boolean) Bd.returns (by simp) (hb hby at_179) hr
            · show Q0 Z p0 p1 o_INIT o_U0 o_U25 o_U50 o_U75 o_U100 h0 n0 _ T67.heap _
              rw [e67]
              exact ⟨congrArg (fun z => some (Value.int z)) hone, N67⟩
          · have k74 := fun (t : State) (kk : Steps p.tables e below (s₁.setTop (mkF m 100 #[.val (.int p0), .val (.int p1), .val (.int (v0_7_l2 p0)), .val (.int (p1 &&& (2147483647 : Int32))), .unset, .unset, .unset, .unset, .unset, .unset, .unset, .unset] [])) t) => k61 t (by
              show Steps p.tables e below (s₁.setTop (mkF m 84 #[.val (.int p0), .val (.int p1), .val (.int (v0_7_l2 p0)), .val (.int (p1 &&& (2147483647 : Int32))), .unset, .unset, .unset, .unset, .unset, .unset, .unset, .unset] [(.int (4 : Int32)), (.int (v0_7_l2 p0))])) _
              refine XS.icmpYes X0.here hx rfl (pc0 := 84) (pc' := 100) rfl (hb hby at_84) rfl (feq hc84_62).2 (by decide) (by decide) ?_
              exact kk)
            obtain ⟨T75, X75, e75, st75⟩ := getS2 X0 hx hZ hown (host := "") (Or.inl (hw _ (List.mem_of_getElem? (i := 23) rfl))) Via.refl e0 S_U100 (g := (mkF m 100 #[.val (.int p0), .val (.int p1), .val (.int (v0_7_l2 p0)), .val (.int (p1 &&& (2147483647 : Int32))), .unset, .unset, .unset, .unset, .unset, .unset, .unset, .unset] [])) rfl (hb hby at_100)
            have k76 := fun (t : State) (kk : Steps p.tables e below (T75.setTop (mkF m 103 #[.val (.int p0), .val (.int p1), .val (.int (v0_7_l2 p0)), .val (.int (p1 &&& (2147483647 : Int32))), .unset, .unset, .unset, .unset, .unset, .unset, .unset, .unset] [(.ref o_U100)])) t) => k74 t (st75 _ kk)
            have k77 := fun (t : State) (kk : Steps p.tables e below (T75.setTop (mkF m 113 #[.val (.int p0), .val (.int p1), .val (.int (v0_7_l2 p0)), .val (.int (p1 &&& (2147483647 : Int32))), .val (.ref o_U100), .val (.long (100 : Int64)), .second, .unset, .unset, .unset, .unset, .unset] [(.int (p1 &&& (2147483647 : Int32))), (.ref o_U100)])) t) => k76 t (by
              show Steps p.tables e below (T75.setTop (mkF m 103 #[.val (.int p0), .val (.int p1), .val (.int (v0_7_l2 p0)), .val (.int (p1 &&& (2147483647 : Int32))), .unset, .unset, .unset, .unset, .unset, .unset, .unset, .unset] [(.ref o_U100)])) _
              refine XS.astore X75.here hx rfl (hb hby at_103) rfl rfl (l' := #[.val (.int p0), .val (.int p1), .val (.int (v0_7_l2 p0)), .val (.int (p1 &&& (2147483647 : Int32))), .val (.ref o_U100), .unset, .unset, .unset, .unset, .unset, .unset, .unset]) rfl ?_
              show Steps p.tables e below (T75.setTop (mkF m 105 #[.val (.int p0), .val (.int p1), .val (.int (v0_7_l2 p0)), .val (.int (p1 &&& (2147483647 : Int32))), .val (.ref o_U100), .unset, .unset, .unset, .unset, .unset, .unset, .unset] [])) _
              refine X75.ldc2Long hx hown (mvT hZ (hw _ (List.mem_of_getElem? (i := 17) rfl))) (g := (mkF m 105 #[.val (.int p0), .val (.int p1), .val (.int (v0_7_l2 p0)), .val (.int (p1 &&& (2147483647 : Int32))), .val (.ref o_U100), .unset, .unset, .unset, .unset, .unset, .unset, .unset] [])) rfl (hb hby at_105) _ ?_
              show Steps p.tables e below (T75.setTop (mkF m 108 #[.val (.int p0), .val (.int p1), .val (.int (v0_7_l2 p0)), .val (.int (p1 &&& (2147483647 : Int32))), .val (.ref o_U100), .unset, .unset, .unset, .unset, .unset, .unset, .unset] [(.long (100 : Int64))])) _
              refine XS.lstore X75.here hx rfl (hb hby at_108) rfl (l' := #[.val (.int p0), .val (.int p1), .val (.int (v0_7_l2 p0)), .val (.int (p1 &&& (2147483647 : Int32))), .val (.ref o_U100), .val (.long (100 : Int64)), .second, .unset, .unset, .unset, .unset, .unset]) rfl ?_
              show Steps p.tables e below (T75.setTop (mkF m 110 #[.val (.int p0), .val (.int p1), .val (.int (v0_7_l2 p0)), .val (.int (p1 &&& (2147483647 : Int32))), .val (.ref o_U100), .val (.long (100 : Int64)), .second, .unset, .unset, .unset, .unset, .unset] [])) _
              refine XS.aload X75.here hx rfl (hb hby at_110) rfl rfl ?_
              show Steps p.tables e below (T75.setTop (mkF m 112 #[.val (.int p0), .val (.int p1), .val (.int (v0_7_l2 p0)), .val (.int (p1 &&& (2147483647 : Int32))), .val (.ref o_U100), .val (.long (100 : Int64)), .second, .unset, .unset, .unset, .unset, .unset] [(.ref o_U100)])) _
              refine XS.iloadN X75.here hx rfl (hb hby at_112) rfl ?_
              exact kk)
            have Zz78 : n0 ≤ h0.size := (Nat.le_trans Z0 KC0.1)
            obtain ⟨cq78, kq78, q78a, q78b, q78c⟩ := isOf hZ e75 E_o_U100
            obtain ⟨_, _, ⟨T78, L78, k78, n78⟩, -, X78, ⟨Lc78, hQ78, l78, y78, z78⟩, st78⟩ := X75.virtualBack hx (y := (⟨"com/example/slabrun/slabrun/core/UsageList", "stayFrom", "(I)I"⟩ : MethodName)) (z := (⟨"com/example/slabrun/slabrun/core/UsageList", "stayFrom", "(I)I"⟩ : MethodName)) hown (mvT hZ (hw _ (List.mem_of_getElem? (i := 5) rfl))) (mvT hZ (hw _ (List.mem_of_getElem? (i := 6) rfl))) (notFace_of_selects (args := #[]) (mvT hZ (hw _ (List.mem_of_getElem? (i := 8) rfl)))) (mvT hZ (hw _ (List.mem_of_getElem? (i := 8) rfl))) (mvT hZ (hw _ (List.mem_of_getElem? (i := 7) rfl))) (by decide) (backOf (W := 0) (rm1 l Z a0 hw [] o_U100 (p1 &&& (2147483647 : Int32)) (100 : Int32) h0 n0 Zz78 F_lowest_o_U100) hZ (hw _ (List.mem_of_getElem? (i := 9) rfl)) (hw _ (List.mem_of_getElem? (i := 2) rfl)) (by decide) (by decide)) q78a q78c (g := (mkF m 113 #[.val (.int p0), .val (.int p1), .val (.int (v0_7_l2 p0)), .val (.int (p1 &&& (2147483647 : Int32))), .val (.ref o_U100), .val (.long (100 : Int64)), .second, .unset, .unset, .unset, .unset, .unset] [(.int (p1 &&& (2147483647 : Int32))), (.ref o_U100)])) rfl (by rw [hml]; rfl) (Steps.refl _) (argsL := [(.int (p1 &&& (2147483647 : Int32)))]) (rest := []) (lenOf pd_0 rfl) rfl (by show 2 * 0 + _ ≤ _; exact Nat.le_of_eq rfl) (hb hby at_113) (fun _ _ => ⟨rfl, e75, (by decide : 0 + 0 ≤ _), (by decide : 0 + 0 ≤ _)⟩)
            dsimp only [Pt.U, Pt.locs, Pt.cells, Pt.slots] at X78 l78 y78 z78 st78 hQ78
            subst l78 y78 z78
            obtain ⟨rfl, N78q, e78⟩ := hQ78
            have N78 := Fr.app N0 N78q
            have k79 := fun (t : State) (kk : Steps p.tables e below (T78.setTop (mkF m 116 #[.val (.int p0), .val (.int p1), .val (.int (v0_7_l2 p0)), .val (.int (p1 &&& (2147483647 : Int32))), .val (.ref o_U100), .val (.long (100 : Int64)), .second, .unset, .unset, .unset, .unset, .unset] [(.int (v1_ret (p1 &&& (2147483647 : Int32)) (100 : Int32)))])) t) => k77 t (st78.trans kk)
            have k84 := fun (t : State) (kk : Steps p.tables e below (T78.setTop (mkF m 179 #[.val (.int p0), .val (.int p1), .val (.int (v0_7_l2 p0)), .val (.int (p1 &&& (2147483647 : Int32))), .val (.ref o_U100), .val (.long (100 : Int64)), .second, .val (.int (v0_116_l7_5 p1)), .val (.long (v0_141_l8_4 p1)), .second, .val (.long ((v0_116_l7_5 p1).toInt64)), .second] [(.int (v0_157_s0_4 p1))])) t) => k79 t (by
              show Steps p.tables e below (T78.setTop (mkF m 116 #[.val (.int p0), .val (.int p1), .val (.int (v0_7_l2 p0)), .val (.int (p1 &&& (2147483647 : Int32))), .val (.ref o_U100), .val (.long (100 : Int64)), .second, .unset, .unset, .unset, .unset, .unset] [(.int (v1_ret (p1 &&& (2147483647 : Int32)) (100 : Int32)))])) _
              refine XS.istore X78.here hx rfl (hb hby at_116) rfl (l' := #[.val (.int p0), .val (.int p1), .val (.int (v0_7_l2 p0)), .val (.int (p1 &&& (2147483647 : Int32))), .val (.ref o_U100), .val (.long (100 : Int64)), .second, .val (.int (v0_116_l7_5 p1)), .unset, .unset, .unset, .unset]) rfl ?_
              show Steps p.tables e below (T78.setTop (mkF m 118 #[.val (.int p0), .val (.int p1), .val (.int (v0_7_l2 p0)), .val (.int (p1 &&& (2147483647 : Int32))), .val (.ref o_U100), .val (.long (100 : Int64)), .second, .val (.int (v0_116_l7_5 p1)), .unset, .unset, .unset, .unset] [])) _
              refine XS.lload X78.here hx rfl (hb hby at_118) rfl ?_
              show Steps p.tables e below (T78.setTop (mkF m 120 #[.val (.int p0), .val (.int p1), .val (.int (v0_7_l2 p0)), .val (.int (p1 &&& (2147483647 : Int32))), .val (.ref o_U100), .val (.long (100 : Int64)), .second, .val (.int (v0_116_l7_5 p1)), .unset, .unset, .unset, .unset] [(.long (100 : Int64))])) _
              refine XS.lconst X78.here hx rfl (hb hby at_120) ?_
              show Steps p.tables e below (T78.setTop (mkF m 121 #[.val (.int p0), .val (.int p1), .val (.int (v0_7_l2 p0)), .val (.int (p1 &&& (2147483647 : Int32))), .val (.ref o_U100), .val (.long (100 : Int64)), .second, .val (.int (v0_116_l7_5 p1)), .unset, .unset, .unset, .unset] [(.long (0 : Int64)), (.long (100 : Int64))])) _
              refine XS.lcmp X78.here hx rfl (hb hby at_121) rfl ?_
              show Steps p.tables e below (T78.setTop (mkF m 122 #[.val (.int p0), .val (.int p1), .val (.int (v0_7_l2 p0)), .val (.int (p1 &&& (2147483647 : Int32))), .val (.ref o_U100), .val (.long (100 : Int64)), .second, .val (.int (v0_116_l7_5 p1)), .unset, .unset, .unset, .unset] [(.int (lcmpW (100 : Int64) (0 : Int64)))])) _
              refine XS.ifYes X78.here hx rfl (pc0 := 122) (pc' := 136) rfl (hb hby at_122) rfl ((if0 _ _).trans (flt (fun q => (by decide : ¬ ((100 : Int64) < (0 : Int64))) ((lw_lt _ _).mp q))).2.1) (by decide) (by decide) ?_
              show Steps p.tables e below (T78.setTop (mkF m 136 #[.val (.int p0), .val (.int p1), .val (.int (v0_7_l2 p0)), .val (.int (p1 &&& (2147483647 : Int32))), .val (.ref o_U100), .val (.long (100 : Int64)), .second, .val (.int (v0_116_l7_5 p1)), .unset, .unset, .unset, .unset] [])) _
              refine XS.lload X78.here hx rfl (hb hby at_136) rfl ?_
              show Steps p.tables e below (T78.setTop (mkF m 138 #[.val (.int p0), .val (.int p1), .val (.int (v0_7_l2 p0)), .val (.int (p1 &&& (2147483647 : Int32))), .val (.ref o_U100), .val (.long (100 : Int64)), .second, .val (.int (v0_116_l7_5 p1)), .unset, .unset, .unset, .unset] [(.long (100 : Int64))])) _
              refine XS.iloadN X78.here hx rfl (hb hby at_138) rfl ?_
              show Steps p.tables e below (T78.setTop (mkF m 139 #[.val (.int p0), .val (.int p1), .val (.int (v0_7_l2 p0)), .val (.int (p1 &&& (2147483647 : Int32))), .val (.ref o_U100), .val (.long (100 : Int64)), .second, .val (.int (v0_116_l7_5 p1)), .unset, .unset, .unset, .unset] [(.int (p1 &&& (2147483647 : Int32))), (.long (100 : Int64))])) _
              refine XS.i2l X78.here hx rfl (hb hby at_139) rfl ?_
              show Steps p.tables e below (T78.setTop (mkF m 140 #[.val (.int p0), .val (.int p1), .val (.int (v0_7_l2 p0)), .val (.int (p1 &&& (2147483647 : Int32))), .val (.ref o_U100), .val (.long (100 : Int64)), .second, .val (.int (v0_116_l7_5 p1)), .unset, .unset, .unset, .unset] [(.long ((p1 &&& (2147483647 : Int32)).toInt64)), (.long (100 : Int64))])) _
              refine XS.lmul X78.here hx rfl (hb hby at_140) rfl ?_
              show Steps p.tables e below (T78.setTop (mkF m 141 #[.val (.int p0), .val (.int p1), .val (.int (v0_7_l2 p0)), .val (.int (p1 &&& (2147483647 : Int32))), .val (.ref o_U100), .val (.long (100 : Int64)), .second, .val (.int (v0_116_l7_5 p1)), .unset, .unset, .unset, .unset] [(.long ((100 : Int64) * ((p1 &&& (2147483647 : Int32)).toInt64)))])) _
              refine XS.lstore X78.here hx rfl (hb hby at_141) rfl (l' := #[.val (.int p0), .val (.int p1), .val (.int (v0_7_l2 p0)), .val (.int (p1 &&& (2147483647 : Int32))), .val (.ref o_U100), .val (.long (100 : Int64)), .second, .val (.int (v0_116_l7_5 p1)), .val (.long (v0_141_l8_4 p1)), .second, .unset, .unset]) rfl ?_
              show Steps p.tables e below (T78.setTop (mkF m 143 #[.val (.int p0), .val (.int p1), .val (.int (v0_7_l2 p0)), .val (.int (p1 &&& (2147483647 : Int32))), .val (.ref o_U100), .val (.long (100 : Int64)), .second, .val (.int (v0_116_l7_5 p1)), .val (.long (v0_141_l8_4 p1)), .second, .unset, .unset] [])) _
              refine XS.iload X78.here hx rfl (hb hby at_143) rfl ?_
              show Steps p.tables e below (T78.setTop (mkF m 145 #[.val (.int p0), .val (.int p1), .val (.int (v0_7_l2 p0)), .val (.int (p1 &&& (2147483647 : Int32))), .val (.ref o_U100), .val (.long (100 : Int64)), .second, .val (.int (v0_116_l7_5 p1)), .val (.long (v0_141_l8_4 p1)), .second, .unset, .unset] [(.int (v0_116_l7_5 p1))])) _
              refine XS.i2l X78.here hx rfl (hb hby at_145) rfl ?_
              show Steps p.tables e below (T78.setTop (mkF m 146 #[.val (.int p0), .val (.int p1), .val (.int (v0_7_l2 p0)), .val (.int (p1 &&& (2147483647 : Int32))), .val (.ref o_U100), .val (.long (100 : Int64)), .second, .val (.int (v0_116_l7_5 p1)), .val (.long (v0_141_l8_4 p1)), .second, .unset, .unset] [(.long ((v0_116_l7_5 p1).toInt64))])) _
              refine XS.lstore X78.here hx rfl (hb hby at_146) rfl (l' := #[.val (.int p0), .val (.int p1), .val (.int (v0_7_l2 p0)), .val (.int (p1 &&& (2147483647 : Int32))), .val (.ref o_U100), .val (.long (100 : Int64)), .second, .val (.int (v0_116_l7_5 p1)), .val (.long (v0_141_l8_4 p1)), .second, .val (.long ((v0_116_l7_5 p1).toInt64)), .second]) rfl ?_
              show Steps p.tables e below (T78.setTop (mkF m 148 #[.val (.int p0), .val (.int p1), .val (.int (v0_7_l2 p0)), .val (.int (p1 &&& (2147483647 : Int32))), .val (.ref o_U100), .val (.long (100 : Int64)), .second, .val (.int (v0_116_l7_5 p1)), .val (.long (v0_141_l8_4 p1)), .second, .val (.long ((v0_116_l7_5 p1).toInt64)), .second] [])) _
              refine XS.lload X78.here hx rfl (hb hby at_148) rfl ?_
              show Steps p.tables e below (T78.setTop (mkF m 150 #[.val (.int p0), .val (.int p1), .val (.int (v0_7_l2 p0)), .val (.int (p1 &&& (2147483647 : Int32))), .val (.ref o_U100), .val (.long (100 : Int64)), .second, .val (.int (v0_116_l7_5 p1)), .val (.long (v0_141_l8_4 p1)), .second, .val (.long ((v0_116_l7_5 p1).toInt64)), .second] [(.long ((v0_116_l7_5 p1).toInt64))])) _
              refine X78.ldc2Long hx hown (mvT hZ (hw _ (List.mem_of_getElem? (i := 17) rfl))) (g := (mkF m 150 #[.val (.int p0), .val (.int p1), .val (.int (v0_7_l2 p0)), .val (.int (p1 &&& (2147483647 : Int32))), .val (.ref o_U100), .val (.long (100 : Int64)), .second, .val (.int (v0_116_l7_5 p1)), .val (.long (v0_141_l8_4 p1)), .second, .val (.long ((v0_116_l7_5 p1).toInt64)), .second] [(.long ((v0_116_l7_5 p1).toInt64))])) rfl (hb hby at_150) _ ?_
              show Steps p.tables e below (T78.setTop (mkF m 153 #[.val (.int p0), .val (.int p1), .val (.int (v0_7_l2 p0)), .val (.int (p1 &&& (2147483647 : Int32))), .val (.ref o_U100), .val (.long (100 : Int64)), .second, .val (.int (v0_116_l7_5 p1)), .val (.long (v0_141_l8_4 p1)), .second, .val (.long ((v0_116_l7_5 p1).toInt64)), .second] [(.long (100 : Int64)), (.long ((v0_116_l7_5 p1).toInt64))])) _
              refine XS.lmul X78.here hx rfl (hb hby at_153) rfl ?_
              show Steps p.tables e below (T78.setTop (mkF m 154 #[.val (.int p0), .val (.int p1), .val (.int (v0_7_l2 p0)), .val (.int (p1 &&& (2147483647 : Int32))), .val (.ref o_U100), .val (.long (100 : Int64)), .second, .val (.int (v0_116_l7_5 p1)), .val (.long (v0_141_l8_4 p1)), .second, .val (.long ((v0_116_l7_5 p1).toInt64)), .second] [(.long (((v0_116_l7_5 p1).toInt64) * (100 : Int64)))])) _
              refine XS.lload X78.here hx rfl (hb hby at_154) rfl ?_
              show Steps p.tables e below (T78.setTop (mkF m 156 #[.val (.int p0), .val (.int p1), .val (.int (v0_7_l2 p0)), .val (.int (p1 &&& (2147483647 : Int32))), .val (.ref o_U100), .val (.long (100 : Int64)), .second, .val (.int (v0_116_l7_5 p1)), .val (.long (v0_141_l8_4 p1)), .second, .val (.long ((v0_116_l7_5 p1).toInt64)), .second] [(.long (v0_141_l8_4 p1)), (.long (((v0_116_l7_5 p1).toInt64) * (100 : Int64)))])) _
              refine XS.lcmp X78.here hx rfl (hb hby at_156) rfl ?_
              suffices k83 : Steps p.tables e below (T78.setTop (mkF m 179 #[.val (.int p0), .val (.int p1), .val (.int (v0_7_l2 p0)), .val (.int (p1 &&& (2147483647 : Int32))), .val (.ref o_U100), .val (.long (100 : Int64)), .second, .val (.int (v0_116_l7_5 p1)), .val (.long (v0_141_l8_4 p1)), .second, .val (.long ((v0_116_l7_5 p1).toInt64)), .second] [(.int (v0_157_s0_4 p1))])) t by
                by_cases hc157_80 : (((v0_116_l7_5 p1).toInt64) * (100 : Int64)) < (v0_141_l8_4 p1)
                · rw [(show (v0_157_s0_4 p1) = (0 : Int32) from if_pos hc157_80)] at k83
                  show Steps p.tables e below (T78.setTop (mkF m 157 #[.val (.int p0), .val (.int p1), .val (.int (v0_7_l2 p0)), .val (.int (p1 &&& (2147483647 : Int32))), .val (.ref o_U100), .val (.long (100 : Int64)), .second, .val (.int (v0_116_l7_5 p1)), .val (.long (v0_141_l8_4 p1)), .second, .val (.long ((v0_116_l7_5 p1).toInt64)), .second] [(.int (lcmpW (((v0_116_l7_5 p1).toInt64) * (100 : Int64)) (v0_141_l8_4 p1)))])) _
                  refine XS.ifYes X78.here hx rfl (pc0 := 157) (pc' := 178) rfl (hb hby at_157) rfl ((if0 _ _).trans (tlt ((lw_lt _ _).mpr hc157_80)).1) (by decide) (by decide) ?_
                  show Steps p.tables e below (T78.setTop (mkF m 178 #[.val (.int p0), .val (.int p1), .val (.int (v0_7_l2 p0)), .val (.int (p1 &&& (2147483647 : Int32))), .val (.ref o_U100), .val (.long (100 : Int64)), .second, .val (.int (v0_116_l7_5 p1)), .val (.long (v0_141_l8_4 p1)), .second, .val (.long ((v0_116_l7_5 p1).toInt64)), .second] [])) _
                  refine XS.iconst X78.here hx rfl (hb hby at_178) ?_
                  exact k83
                · rw [(show (v0_157_s0_4 p1) = (v0_171_s0_4 p1) from if_neg hc157_80)] at k83
                  show Steps p.tables e below (T78.setTop (mkF m 157 #[.val (.int p0), .val (.int p1), .val (.int (v0_7_l2 p0)), .val (.int (p1 &&& (2147483647 : Int32))), .val (.ref o_U100), .val (.long (100 : Int64)), .second, .val (.int (v0_116_l7_5 p1)), .val (.long (v0_141_l8_4 p1)), .second, .val (.long ((v0_116_l7_5 p1).toInt64)), .second] [(.int (lcmpW (((v0_116_l7_5 p1).toInt64) * (100 : Int64)) (v0_141_l8_4 p1)))])) _
                  refine XS.ifNo X78.here hx rfl (hb hby at_157) rfl ((if0 _ _).trans (flt (fun q => hc157_80 ((lw_lt _ _).mp q))).1) ?_
                  show Steps p.tables e below (T78.setTop (mkF m 160 #[.val (.int p0), .val (.int p1), .val (.int (v0_7_l2 p0)), .val (.int (p1 &&& (2147483647 : Int32))), .val (.ref o_U100), .val (.long (100 : Int64)), .second, .val (.int (v0_116_l7_5 p1)), .val (.long (v0_141_l8_4 p1)), .second, .val (.long ((v0_116_l7_5 p1).toInt64)), .second] [])) _
                  refine XS.lload X78.here hx rfl (hb hby at_160) rfl ?_
                  show Steps p.tables e below (T78.setTop (mkF m 162 #[.val (.int p0), .val (.int p1), .val (.int (v0_7_l2 p0)), .val (.int (p1 &&& (2147483647 : Int32))), .val (.ref o_U100), .val (.long (100 : Int64)), .second, .val (.int (v0_116_l7_5 p1)), .val (.long (v0_141_l8_4 p1)), .second, .val (.long ((v0_116_l7_5 p1).toInt64)), .second] [(.long ((v0_116_l7_5 p1).toInt64))])) _
                  refine XS.lconst X78.here hx rfl (hb hby at_162) ?_
                  show Steps p.tables e below (T78.setTop (mkF m 163 #[.val (.int p0), .val (.int p1), .val (.int (v0_7_l2 p0)), .val (.int (p1 &&& (2147483647 : Int32))), .val (.ref o_U100), .val (.long (100 : Int64)), .second, .val (.int (v0_116_l7_5 p1)), .val (.long (v0_141_l8_4 p1)), .second, .val (.long ((v0_116_l7_5 p1).toInt64)), .second] [(.long (1 : Int64)), (.long ((v0_116_l7_5 p1).toInt64))])) _
                  refine XS.lsub X78.here hx rfl (hb hby at_163) rfl ?_
                  show Steps p.tables e below (T78.setTop (mkF m 164 #[.val (.int p0), .val (.int p1), .val (.int (v0_7_l2 p0)), .val (.int (p1 &&& (2147483647 : Int32))), .val (.ref o_U100), .val (.long (100 : Int64)), .second, .val (.int (v0_116_l7_5 p1)), .val (.long (v0_141_l8_4 p1)), .second, .val (.long ((v0_116_l7_5 p1).toInt64)), .second] [(.long (((v0_116_l7_5 p1).toInt64) - (1 : Int64)))])) _
                  refine X78.ldc2Long hx hown (mvT hZ (hw _ (List.mem_of_getElem? (i := 17) rfl))) (g := (mkF m 164 #[.val (.int p0), .val (.int p1), .val (.int (v0_7_l2 p0)), .val (.int (p1 &&& (2147483647 : Int32))), .val (.ref o_U100), .val (.long (100 : Int64)), .second, .val (.int (v0_116_l7_5 p1)), .val (.long (v0_141_l8_4 p1)), .second, .val (.long ((v0_116_l7_5 p1).toInt64)), .second] [(.long (((v0_116_l7_5 p1).toInt64) - (1 : Int64)))])) rfl (hb hby at_164) _ ?_
                  show Steps p.tables e below (T78.setTop (mkF m 167 #[.val (.int p0), .val (.int p1), .val (.int (v0_7_l2 p0)), .val (.int (p1 &&& (2147483647 : Int32))), .val (.ref o_U100), .val (.long (100 : Int64)), .second, .val (.int (v0_116_l7_5 p1)), .val (.long (v0_141_l8_4 p1)), .second, .val (.long ((v0_116_l7_5 p1).toInt64)), .second] [(.long (100 : Int64)), (.long (((v0_116_l7_5 p1).toInt64) - (1 : Int64)))])) _
                  refine XS.lmul X78.here hx rfl (hb hby at_167) rfl ?_
                  show Steps p.tables e below (T78.setTop (mkF m 168 #[.val (.int p0), .val (.int p1), .val (.int (v0_7_l2 p0)), .val (.int (p1 &&& (2147483647 : Int32))), .val (.ref o_U100), .val (.long (100 : Int64)), .second, .val (.int (v0_116_l7_5 p1)), .val (.long (v0_141_l8_4 p1)), .second, .val (.long ((v0_116_l7_5 p1).toInt64)), .second] [(.long ((((v0_116_l7_5 p1).toInt64) - (1 : Int64)) * (100 : Int64)))])) _
                  refine XS.lload X78.here hx rfl (hb hby at_168) rfl ?_
                  show Steps p.tables e below (T78.setTop (mkF m 170 #[.val (.int p0), .val (.int p1), .val (.int (v0_7_l2 p0)), .val (.int (p1 &&& (2147483647 : Int32))), .val (.ref o_U100), .val (.long (100 : Int64)), .second, .val (.int (v0_116_l7_5 p1)), .val (.long (v0_141_l8_4 p1)), .second, .val (.long ((v0_116_l7_5 p1).toInt64)), .second] [(.long (v0_141_l8_4 p1)), (.long ((((v0_116_l7_5 p1).toInt64) - (1 : Int64)) * (100 : Int64)))])) _
                  refine XS.lcmp X78.here hx rfl (hb hby at_170) rfl ?_
                  suffices k82 : Steps p.tables e below (T78.setTop (mkF m 179 #[.val (.int p0), .val (.int p1), .val (.int (v0_7_l2 p0)), .val (.int (p1 &&& (2147483647 : Int32))), .val (.ref o_U100), .val (.long (100 : Int64)), .second, .val (.int (v0_116_l7_5 p1)), .val (.long (v0_141_l8_4 p1)), .second, .val (.long ((v0_116_l7_5 p1).toInt64)), .second] [(.int (v0_171_s0_4 p1))])) t by
                    by_cases hc171_81 : ((((v0_116_l7_5 p1).toInt64) - (1 : Int64)) * (100 : Int64)) < (v0_141_l8_4 p1)
                    · rw [(show (v0_171_s0_4 p1) = (1 : Int32) from if_pos hc171_81)] at k82
                      show Steps p.tables e below (T78.setTop (mkF m 171 #[.val (.int p0), .val (.int p1), .val (.int (v0_7_l2 p0)), .val (.int (p1 &&& (2147483647 : Int32))), .val (.ref o_U100), .val (.long (100 : Int64)), .second, .val (.int (v0_116_l7_5 p1)), .val (.long (v0_141_l8_4 p1)), .second, .val (.long ((v0_116_l7_5 p1).toInt64)), .second] [(.int (lcmpW ((((v0_116_l7_5 p1).toInt64) - (1 : Int64)) * (100 : Int64)) (v0_141_l8_4 p1)))])) _
                      refine XS.ifNo X78.here hx rfl (hb hby at_171) rfl ((if0 _ _).trans (tlt ((lw_lt _ _).mpr hc171_81)).2.1) ?_
                      show Steps p.tables e below (T78.setTop (mkF m 174 #[.val (.int p0), .val (.int p1), .val (.int (v0_7_l2 p0)), .val (.int (p1 &&& (2147483647 : Int32))), .val (.ref o_U100), .val (.long (100 : Int64)), .second, .val (.int (v0_116_l7_5 p1)), .val (.long (v0_141_l8_4 p1)), .second, .val (.long ((v0_116_l7_5 p1).toInt64)), .second] [])) _
                      refine XS.iconst X78.here hx rfl (hb hby at_174) ?_
                      show Steps p.tables e below (T78.setTop (mkF m 175 #[.val (.int p0), .val (.int p1), .val (.int (v0_7_l2 p0)), .val (.int (p1 &&& (2147483647 : Int32))), .val (.ref o_U100), .val (.long (100 : Int64)), .second, .val (.int (v0_116_l7_5 p1)), .val (.long (v0_141_l8_4 p1)), .second, .val (.long ((v0_116_l7_5 p1).toInt64)), .second] [(.int (1 : Int32))])) _
                      refine XS.goto X78.here hx rfl (pc0 := 175) (pc' := 179) rfl (hb hby at_175) (by decide) (by decide) ?_
                      exact k82
                    · rw [(show (v0_171_s0_4 p1) = (0 : Int32) from if_neg hc171_81)] at k82
                      show Steps p.tables e below (T78.setTop (mkF m 171 #[.val (.int p0), .val (.int p1), .val (.int (v0_7_l2 p0)), .val (.int (p1 &&& (2147483647 : Int32))), .val (.ref o_U100), .val (.long (100 : Int64)), .second, .val (.int (v0_116_l7_5 p1)), .val (.long (v0_141_l8_4 p1)), .second, .val (.long ((v0_116_l7_5 p1).toInt64)), .second] [(.int (lcmpW ((((v0_116_l7_5 p1).toInt64) - (1 : Int64)) * (100 : Int64)) (v0_141_l8_4 p1)))])) _
                      refine XS.ifYes X78.here hx rfl (pc0 := 171) (pc' := 178) rfl (hb hby at_171) rfl ((if0 _ _).trans (flt (fun q => hc171_81 ((lw_lt _ _).mp q))).2.1) (by decide) (by decide) ?_
                      show Steps p.tables e below (T78.setTop (mkF m 178 #[.val (.int p0), .val (.int p1), .val (.int (v0_7_l2 p0)), .val (.int (p1 &&& (2147483647 : Int32))), .val (.ref o_U100), .val (.long (100 : Int64)), .second, .val (.int (v0_116_l7_5 p1)), .val (.long (v0_141_l8_4 p1)), .second, .val (.long ((v0_116_l7_5 p1).toInt64)), .second] [])) _
                      refine XS.iconst X78.here hx rfl (hb hby at_178) ?_
                      exact k82
                  exact k83
              exact kk)
            obtain ⟨fs, hr, hrun, hended, hW, hsame⟩ := X78.leave (v := some (.int (nar .boolean (v0_157_s0_4 p1)))) (fun h => by rw [Bd.returns] at h; cases h)
            have hv : (v0_ret p0 p1) = (nar .boolean (v0_157_s0_4 p1)) := ((if_neg hc14_12).trans ((if_neg hc32_23).trans ((if_neg hc48_36).trans ((if_neg hc66_49).trans (if_neg hc84_62)))))
            have hone : (nar .boolean (v0_157_s0_4 p1)) = 1 := hv.symm.trans (own_law p0 p1)
            refine ⟨_, _, k84 _ ?_, hrun, hended, _, _, rfl, ?_, ⟨_, rfl⟩, hW, hsame.mono (by decide) (by decide)⟩
            · show Steps p.tables e below (T78.setTop (mkF m 179 #[.val (.int p0), .val (.int p1), .val (.int (v0_7_l2 p0)), .val (.int (p1 &&& (2147483647 : Int32))), .val (.ref o_U100), .val (.long (100 : Int64)), .second, .val (.int (v0_116_l7_5 p1)), .val (.long (v0_141_l8_4 p1)), .second, .val (.long ((v0_116_l7_5 p1).toInt64)), .second] [(.int (v0_157_s0_4 p1))])) _
              exact retN X78 hx (t := .boolean) Bd.returns (by simp) (hb hby at_179) hr
            · show Q0 Z p0 p1 o_INIT o_U0 o_U25 o_U50 o_U75 o_U100 h0 n0 _ T78.heap _
              rw [e78]
              exact ⟨congrArg (fun z => some (Value.int z)) hone, N78⟩
set_option maxRecDepth 65536 in
set_option maxHeartbeats 40000000 in
theorem comes_1 {Post : Tables → Env → Array Value → State → Outcome → State → Prop} (hpost : ∀ tb e args s v u, (limb_1_1.after args s (.returned v) u = true ∧ limb_1_2.after args s (.returned v) u = true ∧ True) → FrameEnd s (.returned v) u (Jvm.fieldLocs frame_1_writes args s ++ Jvm.arrayLocs frame_1_arrays args s ++ Jvm.staticLocs frame_1_statics s) 0 0 → Post tb e args s (.returned v) u) :
    ArmFor flags0 classFile x code maxLocals ret World_1 tables_1 room_1 Calls_1 rest_1 Pre_1 Post := by
  intro l hfl _ _ p e ha hc hk s m args below hf hA hF happ hP
  obtain ⟨hcalls, hrest, hpre⟩ := hP
  obtain ⟨-, -, -, hnamed, -, -, -, hat⟩ := (Spec.applies_iff hf).mp happ
  obtain ⟨hg, hn⟩ := and_e (Cond.before_iff.mp (show (Jvm.Cond.and given_1 narrow_1).before args s = true from hpre))
  obtain ⟨hcnt, hg0⟩ := and_e hg
  obtain ⟨ha0, hg1⟩ := and_e hg0
  have ha1 := hg1
  obtain ⟨w0, w1, rfl⟩ : ∃ w0 w1 : Value, args = #[w0, w1] := by
    have hs : args.size = 2 := by simpa [Cond.value, given_1] using hcnt
    obtain ⟨L⟩ := args
    match L, hs with
    | [w0, w1], _ => exact ⟨w0, w1, rfl⟩
  have hw := fun d (hd : d ∈ tables_1) => atoms_spec (ws := Jvm.Cond.code x code maxLocals ret :: tables_1) hat d (List.mem_cons_of_mem _ hd)
  have hfit : Fit s := fun {y c} hc i hi => by
    obtain ⟨ha, rfl⟩ := Array.getElem?_eq_some_iff.mp hc
    have q := List.all_eq_true.mp ((Array.all_eq_true_iff_forall_mem.mp hF) _ (Array.getElem_mem ha)) i (List.mem_range.mpr hi)
    simpa [Array.getElem?_eq_getElem hi] using q
  obtain ⟨p0, ea0⟩ := is_v ha0
  obtain rfl : w0 = (.int p0) := Option.some.inj ea0
  obtain ⟨p1, ea1⟩ := is_v ha1
  obtain rfl : w1 = (.int p1) := Option.some.inj ea1
  obtain ⟨na1, nb1⟩ := and_e hn
  obtain ⟨na2, nb2⟩ := and_e nb1
  obtain ⟨na3, nb3⟩ := and_e nb2
  obtain ⟨na4, nb4⟩ := and_e nb3
  obtain ⟨na5, nb5⟩ := and_e nb4
  obtain ⟨na6, nb6⟩ := and_e nb5
  obtain ⟨na7, nb7⟩ := and_e nb6
  obtain ⟨na8, nb8⟩ := and_e nb7
  obtain ⟨na9, nb9⟩ := and_e nb8
  obtain ⟨na10, nb10⟩ := and_e nb9
  obtain ⟨na11, nb11⟩ := and_e nb10
  obtain ⟨o_INIT, ev_INIT⟩ := exa_v na1
  have S_INIT := Sta.start ev_INIT (Or.inr ⟨(hw _ (List.mem_of_getElem? (i := 2) rfl)), (hw _ (List.mem_of_getElem? (i := 3) rfl))⟩)
  have E_o_INIT := Exa.start ev_INIT na1
  obtain ⟨o_U25, ev_U25⟩ := exa_v na3
  have S_U25 := Sta.start ev_U25 (Or.inr ⟨(hw _ (List.mem_of_getElem? (i := 2) rfl)), (hw _ (List.mem_of_getElem? (i := 13) rfl))⟩)
  have E_o_U25 := Exa.start ev_U25 na3
  obtain ⟨o_U75, ev_U75⟩ := exa_v na5
  have S_U75 := Sta.start ev_U75 (Or.inr ⟨(hw _ (List.mem_of_getElem? (i := 2) rfl)), (hw _ (List.mem_of_getElem? (i := 19) rfl))⟩)
  have E_o_U75 := Exa.start ev_U75 na5
  obtain ⟨o_U0, ev_U0⟩ := exa_v na7
  have S_U0 := Sta.start ev_U0 (Or.inr ⟨(hw _ (List.mem_of_getElem? (i := 2) rfl)), (hw _ (List.mem_of_getElem? (i := 22) rfl))⟩)
  have E_o_U0 := Exa.start ev_U0 na7
  obtain ⟨o_U100, ev_U100⟩ := exa_v na9
  have S_U100 := Sta.start ev_U100 (Or.inr ⟨(hw _ (List.mem_of_getElem? (i := 2) rfl)), (hw _ (List.mem_of_getElem? (i := 24) rfl))⟩)
  have E_o_U100 := Exa.start ev_U100 na9
  obtain ⟨o_U50, ev_U50⟩ := exa_v na11
  have S_U50 := Sta.start ev_U50 (Or.inr ⟨(hw _ (List.mem_of_getElem? (i := 2) rfl)), (hw _ (List.mem_of_getElem? (i := 26) rfl))⟩)
  have E_o_U50 := Exa.start ev_U50 na11
  have F_lowest_o_INIT := Fld.start ((fld_at ev_INIT).symm.trans (own_eq_int na2))
  have F_lowest_o_U25 := Fld.start ((fld_at ev_U25).symm.trans (own_eq_int na4))
  have F_lowest_o_U75 := Fld.start ((fld_at ev_U75).symm.trans (own_eq_int na6))
  have F_lowest_o_U0 := Fld.start ((fld_at ev_U0).symm.trans (own_eq_int na8))
  have F_lowest_o_U100 := Fld.start ((fld_at ev_U100).symm.trans (own_eq_int na10))
  have F_lowest_o_U50 := Fld.start ((fld_at ev_U50).symm.trans (own_eq_int nb11))
  obtain ⟨n, o, h1, h2, h3, _, L, rfl, ⟨rfl, N⟩, hq⟩ := rm0 l s _ hw tables_1 p0 p1 o_INIT o_U0 o_U25 o_U50 o_U75 o_U100 s.heap s.heap.size (Nat.le_refl _) S_INIT F_lowest_o_INIT E_o_INIT S_U0 F_lowest_o_U0 E_o_U0 S_U25 F_lowest_o_U25 E_o_U25 S_U50 F_lowest_o_U50 E_o_U50 S_U75 F_lowest_o_U75 E_o_U75 S_U100 F_lowest_o_U100 E_o_U100 p e ha hc hk s m _ below hf ((Spec.applies_iff_loose hf).mp happ).1 ⟨rfl, State.Warmed39.refl s, rfl⟩ trivial
  refine ⟨n, _, h1, h2, h3, hpost _ _ _ _ _ _ ⟨Cond.after_iff.mpr rfl, Cond.after_iff.mpr (eq_i res_at (Term.int_eval (1)) rfl), trivial⟩ ⟨hq.1, hq.2.1, (hq.2.2.sift fun y hy => Or.inr (N y hy)).mono (by decide) (by decide)⟩⟩
theorem main_1_1 : Claimed_1_1 := comes_1 fun _ _ _ _ _ _ h hF => ⟨h.1, hF⟩
theorem main_1_2 : Claimed_1_2 := comes_1 fun _ _ _ _ _ _ h hF => ⟨h.2.1, hF⟩
end Jvm.Pilot.@@N@@
namespace Jvm.Pilot.@@N@@
open Jvm Jvm.ClassFile Sem Op Lib Jvm.Free Jvm.Stand Jvm.Pilot.@@N@@.Jvm.D
/-! MADE BY PROGRAM (witnessworld.py) out of the Statement's table words and the real class files: 12 classes; the members and pool entries that the words name. The judged class is class 1, her method 1. -/
namespace start1
open Jvm.ClassFile
def u (s : String) : CpInfo := .utf8 (stringToUtf16 s)
/-- a pool by its gaps: so many unusable entries, then the entry; so many at the end -/
def gap : Nat → List CpInfo → List CpInfo
  | 0, r => r
  | n + 1, r => .unusable :: gap n r
def poolList (es : List (Nat × CpInfo)) (last : Nat) : List CpInfo := es.foldr (fun e r => gap e.1 (e.2 :: r)) (gap last [])
def pool (es : List (Nat × CpInfo)) (last : Nat) : Array CpInfo := ⟨poolList es last⟩
def fileOf (pool : Array CpInfo) (this : Nat) (attrs : Array Attribute := #[]) (ms : Array MethodInfo := #[]) (fl : Nat := 33) (sup : Nat := 0) (ifs : Array Nat := #[]) (fds : Array FieldInfo := #[]) : ClassFile where
  minorVersion := 0
  majorVersion := 65
  constantPool := pool
  accessFlags := fl
  thisClass := this
  superClass := sup
  interfaces := ifs
  fields := fds
  methods := ms
  attributes := attrs
def plain (name : String) (sup : Option ClassId) : Class where
  name := name
  kind := .ordinary
  loader := none
  accessFlags := 33
  super := sup
  interfaces := #[]
  cf := none
  fields := #[]
  methods := #[]
  instanceTypes := #[]
  staticTypes := #[]
  resolved := #[]
  callSites := []
  init := .initialized
  statics := none
  mirror := none

def pool0 : Array CpInfo := pool [(5, u "<init>"), (0, u "()V"), (1, .class_ 10), (1, u "java/lang/Object")] 113

def k0m0 : Method := { name := "<init>", desc := "()V", sig := { parameters := [], returnType := none }, accessFlags := 1, code := none }
/-- java/lang/Object -/
def k0 : Class := { plain "java/lang/Object" none with
  accessFlags := 33
  interfaces := #[]
  cf := some (fileOf pool0 8 #[] #[{ accessFlags := 1, nameIndex := 5, descriptorIndex := 6, attributes := #[] }] 33 0 #[] #[])
  fields := #[]
  methods := #[k0m0]
  instanceTypes := #[]
  staticTypes := #[]
  resolved := Array.replicate 124 none
  statics := none }

def pool1 : Array CpInfo := pool [(2, .class_ 4), (1, u "java/lang/Object"), (0, u "<init>"), (0, u "()V"), (0, .integer 2147483647), (0, .fieldref 9 10), (0, .class_ 11), (0, .nameAndType 12 13), (0, u "com/example/slabrun/slabrun/core/UsageList"), (0, u "INIT"), (0, u "Lcom/example/slabrun/slabrun/core/UsageList;"), (0, .long 18446744073709551615), (1, .fieldref 9 17), (0, .nameAndType 18 13), (0, u "U0"), (0, .fieldref 9 20), (0, .nameAndType 21 13), (0, u "U25"), (0, .long 25), (1, .fieldref 9 25), (0, .nameAndType 26 13), (0, u "U50"), (0, .long 50), (1, .fieldref 9 30), (0, .nameAndType 31 13), (0, u "U75"), (0, .long 75), (1, .fieldref 9 35), (0, .nameAndType 36 13), (0, u "U100"), (0, .long 100), (1, .methodref 9 40), (0, .nameAndType 41 42), (0, u "stayFrom"), (0, u "(I)I"), (0, .class_ 44), (0, u "com/example/slabrun/slabrun/core/UsageListStayFromPinLaw"), (2, u "law"), (0, u "(II)Z")] 3

def k1m0 : Method := { name := "<init>", desc := "()V", sig := { parameters := [], returnType := none }, accessFlags := 1, code := none }
def k1c1 : Code := { maxStack := 4, maxLocals := 12, code := code, exceptionTable := #[], attributes := #[] }
def k1m1 : Method := { name := "law", desc := "(II)Z", sig := { parameters := [.int, .int], returnType := some .boolean }, accessFlags := 9, code := some k1c1 }
/-- com/example/slabrun/slabrun/core/UsageListStayFromPinLaw -/
def k1 : Class := { plain "com/example/slabrun/slabrun/core/UsageListStayFromPinLaw" (some 0) with
  accessFlags := 49
  interfaces := #[]
  cf := some (fileOf pool1 43 #[] #[{ accessFlags := 1, nameIndex := 5, descriptorIndex := 6, attributes := #[] }, { accessFlags := 9, nameIndex := 47, descriptorIndex := 48, attributes := #[] }] 49 2 #[] #[])
  fields := #[]
  methods := #[k1m0, k1m1]
  instanceTypes := #[]
  staticTypes := #[]
  resolved := Array.replicate 52 none
  statics := none }

def pool2 : Array CpInfo := pool [(1, .class_ 2), (0, u "java/lang/constant/Constable"), (0, .class_ 4), (0, u "java/lang/Object")] 6

/-- java/lang/constant/Constable -/
def k2 : Class := { plain "java/lang/constant/Constable" (some 0) with
  accessFlags := 1537
  interfaces := #[]
  cf := some (fileOf pool2 1 #[] #[] 1537 3 #[] #[])
  fields := #[]
  methods := #[]
  instanceTypes := #[]
  staticTypes := #[]
  resolved := Array.replicate 11 none
  statics := none }

def pool3 : Array CpInfo := pool [(1, .class_ 2), (0, u "java/lang/Comparable"), (0, .class_ 4), (0, u "java/lang/Object")] 7

/-- java/lang/Comparable -/
def k3 : Class := { plain "java/lang/Comparable" (some 0) with
  accessFlags := 1537
  interfaces := #[]
  cf := some (fileOf pool3 1 #[] #[] 1537 3 #[] #[])
  fields := #[]
  methods := #[]
  instanceTypes := #[]
  staticTypes := #[]
  resolved := Array.replicate 12 none
  statics := none }

def pool4 : Array CpInfo := pool [(1, .class_ 2), (0, u "java/io/Serializable"), (0, .class_ 4), (0, u "java/lang/Object")] 2

/-- java/io/Serializable -/
def k4 : Class := { plain "java/io/Serializable" (some 0) with
  accessFlags := 1537
  interfaces := #[]
  cf := some (fileOf pool4 1 #[] #[] 1537 3 #[] #[])
  fields := #[]
  methods := #[]
  instanceTypes := #[]
  staticTypes := #[]
  resolved := Array.replicate 7 none
  statics := none }

def pool5 : Array CpInfo := pool [(2, .class_ 4), (1, u "java/lang/Enum"), (0, u "name"), (0, u "Ljava/lang/String;"), (2, u "ordinal"), (0, u "I"), (1, .class_ 14), (1, u "java/lang/Object"), (4, u "hash"), (86, .class_ 108), (1, u "java/lang/Enum$EnumDesc"), (2, .class_ 112), (0, u "java/lang/constant/Constable"), (0, .class_ 114), (0, u "java/lang/Comparable"), (0, .class_ 116), (0, u "java/io/Serializable")] 87

/-- java/lang/Enum -/
def k5 : Class := { plain "java/lang/Enum" (some 0) with
  accessFlags := 1057
  interfaces := #[2, 3, 4]
  cf := some (fileOf pool5 2 #[.nestMembers #[106]] #[] 1057 12 #[111, 113, 115] #[{ accessFlags := 18, nameIndex := 5, descriptorIndex := 6, attributes := #[] }, { accessFlags := 18, nameIndex := 9, descriptorIndex := 10, attributes := #[] }, { accessFlags := 2, nameIndex := 19, descriptorIndex := 10, attributes := #[] }])
  fields := #[{ name := "name", type := (.object "java/lang/String"), accessFlags := 18, slot := 0, constantValue := 0 }, { name := "ordinal", type := .int, accessFlags := 18, slot := 1, constantValue := 0 }, { name := "hash", type := .int, accessFlags := 2, slot := 2, constantValue := 0 }]
  methods := #[]
  instanceTypes := #[(.object "java/lang/String"), .int, .int]
  staticTypes := #[]
  resolved := Array.replicate 204 none
  statics := none }

def pool6 : Array CpInfo := pool [(1, .class_ 2), (0, u "com/example/slabrun/slabrun/core/UsageList"), (2, u "INIT"), (0, u "Lcom/example/slabrun/slabrun/core/UsageList;"), (2, u "U0"), (2, u "U25"), (2, u "U50"), (2, u "U75"), (2, u "U100"), (2, u "$VALUES"), (0, u "[Lcom/example/slabrun/slabrun/core/UsageList;"), (6, .class_ 34), (1, u "java/lang/Enum"), (6, .fieldref 1 42), (0, .nameAndType 43 44), (0, u "lowest"), (0, u "I"), (2, u "highest"), (3, .long 99), (1, .long 100), (3, u "LISTS"), (25, u "SEARCH_ORDER"), (0, u "Ljava/util/List;"), (5, u "NONE"), (8, u "(I)I"), (1, u "stayFrom")] 8

def k6c0 : Code := { maxStack := 4, maxLocals := 2, code := prog_35_method_5_code, exceptionTable := #[], attributes := #[] }
def k6m0 : Method := { name := "stayFrom", desc := "(I)I", sig := { parameters := [.int], returnType := some .int }, accessFlags := 0, code := some k6c0 }
/-- com/example/slabrun/slabrun/core/UsageList -/
def k6 : Class := { plain "com/example/slabrun/slabrun/core/UsageList" (some 5) with
  accessFlags := 16432
  interfaces := #[]
  cf := some (fileOf pool6 1 #[] #[{ accessFlags := 0, nameIndex := 101, descriptorIndex := 99, attributes := #[] }] 16432 32 #[] #[{ accessFlags := 16409, nameIndex := 5, descriptorIndex := 6, attributes := #[] }, { accessFlags := 16409, nameIndex := 9, descriptorIndex := 6, attributes := #[] }, { accessFlags := 16409, nameIndex := 12, descriptorIndex := 6, attributes := #[] }, { accessFlags := 16409, nameIndex := 15, descriptorIndex := 6, attributes := #[] }, { accessFlags := 16409, nameIndex := 18, descriptorIndex := 6, attributes := #[] }, { accessFlags := 16409, nameIndex := 21, descriptorIndex := 6, attributes := #[] }, { accessFlags := 24, nameIndex := 83, descriptorIndex := 84, attributes := #[] }, { accessFlags := 26, nameIndex := 90, descriptorIndex := 44, attributes := #[] }, { accessFlags := 26, nameIndex := 57, descriptorIndex := 25, attributes := #[] }, { accessFlags := 18, nameIndex := 43, descriptorIndex := 44, attributes := #[] }, { accessFlags := 18, nameIndex := 47, descriptorIndex := 44, attributes := #[] }, { accessFlags := 4122, nameIndex := 24, descriptorIndex := 25, attributes := #[] }])
  fields := #[{ name := "INIT", type := (.object "com/example/slabrun/slabrun/core/UsageList"), accessFlags := 16409, slot := 0, constantValue := 0 }, { name := "U0", type := (.object "com/example/slabrun/slabrun/core/UsageList"), accessFlags := 16409, slot := 1, constantValue := 0 }, { name := "U25", type := (.object "com/example/slabrun/slabrun/core/UsageList"), accessFlags := 16409, slot := 2, constantValue := 0 }, { name := "U50", type := (.object "com/example/slabrun/slabrun/core/UsageList"), accessFlags := 16409, slot := 3, constantValue := 0 }, { name := "U75", type := (.object "com/example/slabrun/slabrun/core/UsageList"), accessFlags := 16409, slot := 4, constantValue := 0 }, { name := "U100", type := (.object "com/example/slabrun/slabrun/core/UsageList"), accessFlags := 16409, slot := 5, constantValue := 0 }, { name := "SEARCH_ORDER", type := (.object "java/util/List"), accessFlags := 24, slot := 6, constantValue := 0 }, { name := "NONE", type := .int, accessFlags := 26, slot := 7, constantValue := 0 }, { name := "LISTS", type := (.array (.object "com/example/slabrun/slabrun/core/UsageList")), accessFlags := 26, slot := 8, constantValue := 0 }, { name := "lowest", type := .int, accessFlags := 18, slot := 3, constantValue := 0 }, { name := "highest", type := .int, accessFlags := 18, slot := 4, constantValue := 0 }, { name := "$VALUES", type := (.array (.object "com/example/slabrun/slabrun/core/UsageList")), accessFlags := 4122, slot := 9, constantValue := 0 }]
  methods := #[k6m0]
  instanceTypes := #[(.object "java/lang/String"), .int, .int, .int, .int]
  staticTypes := #[(.object "com/example/slabrun/slabrun/core/UsageList"), (.object "com/example/slabrun/slabrun/core/UsageList"), (.object "com/example/slabrun/slabrun/core/UsageList"), (.object "com/example/slabrun/slabrun/core/UsageList"), (.object "com/example/slabrun/slabrun/core/UsageList"), (.object "com/example/slabrun/slabrun/core/UsageList"), (.object "java/util/List"), .int, (.array (.object "com/example/slabrun/slabrun/core/UsageList")), (.array (.object "com/example/slabrun/slabrun/core/UsageList"))]
  resolved := Array.replicate 110 none
  statics := some 0 }

def pool7 : Array CpInfo := pool [(1, u "java/lang/Cloneable"), (0, .class_ 1), (0, u "java/lang/Object"), (0, .class_ 3)] 3

/-- java/lang/Cloneable -/
def k7 : Class := { plain "java/lang/Cloneable" (some 0) with
  accessFlags := 1537
  interfaces := #[]
  cf := some (fileOf pool7 2 #[] #[] 1537 4 #[] #[])
  fields := #[]
  methods := #[]
  instanceTypes := #[]
  staticTypes := #[]
  resolved := Array.replicate 8 none
  statics := none }

/-- the primitive byte -/
def k8 : Class := { plain "byte" none with kind := .primitive 'B', accessFlags := 0x411 }
/-- [B -/
def k9 : Class := { plain "[B" (some 0) with kind := .array 8 .byte, interfaces := #[7, 4], accessFlags := 1041 }

/-- the primitive int -/
def k10 : Class := { plain "int" none with kind := .primitive 'I', accessFlags := 0x411 }
/-- [I -/
def k11 : Class := { plain "[I" (some 0) with kind := .array 10 .int, interfaces := #[7, 4], accessFlags := 1041 }

def heap : Heap := #[{ cls := 6, slots := #[.ref 1, .ref 2, .ref 3, .ref 4, .ref 5, .ref 6, .null, .int 0, .null, .null], vm := .statics 6 },
  { cls := 6, slots := #[.null, .int 0, .int 0, .int (-1), .int (25)], vm := .none },
  { cls := 6, slots := #[.null, .int 1, .int 0, .int (1), .int (50)], vm := .none },
  { cls := 6, slots := #[.null, .int 2, .int 0, .int (25), .int (75)], vm := .none },
  { cls := 6, slots := #[.null, .int 3, .int 0, .int (50), .int (100)], vm := .none },
  { cls := 6, slots := #[.null, .int 4, .int 0, .int (75), .int (100)], vm := .none },
  { cls := 6, slots := #[.null, .int 5, .int 0, .int (100), .int (-1)], vm := .none }]
def classes : Array Class := #[k0, k1, k2, k3, k4, k5, k6, k7, k8, k9, k10, k11]
def interned : List (Array UInt16 × Addr) := []
def slotsUsed : Nat := 40
def theMethod : MethodId := ⟨1, 1⟩
def args0 : Array Value := #[.int 1, .int 5]
def aboutOver (below : List Frame) : State where
  vm := { classes := classes, interned := interned.toArray }
  heap := heap
  slotsUsed := slotsUsed
  threads := #[{ frames := .invoking theMethod args0 :: below }]
def below0 : List Frame := [.native { method := ⟨0, 0⟩, args := #[] }]
def about1 : State := aboutOver below0
def p0 : Program := .bare "" "" ""
def e0 : Env := launch0.env 0 0 0
theorem w_frames : about1.frames = Frame.invoking theMethod args0 :: below0 := rfl
set_option maxRecDepth 65536 in
theorem w_args : argsFit about1.vm theMethod args0 = true := by decide +kernel
set_option maxRecDepth 65536 in
theorem w_heap : heapFits about1 = true := by decide +kernel
set_option maxRecDepth 65536 in
theorem w_runnable : about1.curStatus? = some .runnable := by decide +kernel
set_option maxRecDepth 65536 in
theorem w_alone : about1.alone = true := by decide +kernel
set_option maxRecDepth 65536 in
theorem w_named : about1.methodNamed? x = some theMethod := by decide +kernel
set_option maxRecDepth 65536 in
theorem w_hears : about1.hears theMethod below0 = true := by decide +kernel
set_option maxRecDepth 65536 in
theorem w_ripe : about1.ripe theMethod args0 below0 = true := by decide +kernel
theorem w_running : about1.status = .running := rfl
set_option maxRecDepth 65536 in
theorem w_room : about1.hasRoom e0.platform room_1 = true :=
  launch0.hasRoom_least _ room_1 (by decide +kernel) (by decide +kernel) (by decide +kernel) (by decide +kernel) (by decide +kernel) (by decide +kernel)
theorem allAtoms_all (ts : List Jvm.Cond) (a : Array Jvm.Value) (st : Jvm.State) : (allAtoms ts).before a st = ts.all (fun c => c.before a st) := by
  induction ts with
  | nil => rfl
  | cons c t ih =>
    show (Jvm.Cond.and c (allAtoms t)).before a st = _
    rw [Jvm.Cond.before_and, ih, List.all_cons]
def words1 : List Jvm.Cond := Jvm.Cond.code x code maxLocals ret :: tables_1
/-- a 'code' word, met by the world's own term for the bytes: nothing is compared byte by byte -/
theorem code_word {y : MethodName} {bytes : ByteArray} {mx : Nat} {rt : Option FieldType} {a : Array Value} {s : State} {m : MethodId} {meth : Method} {c : Code} (h1 : s.methodNamed? y = some m) (h2 : s.vm.method? m = some meth) (h3 : meth.code = some c) (h4 : c.code = bytes)
    (h5 : (c.maxLocals == mx && c.exceptionTable.isEmpty && decide (c.maxStack ≤ mostOperands) && decide (meth.sig.returnType = rt) && !meth.locks && decide (parseMethodDescriptor y.desc = some meth.sig)) = true) : (Jvm.Cond.code y bytes mx rt).before a s = true := by
  simp only [Bool.and_eq_true, beq_iff_eq, Bool.not_eq_true', decide_eq_true_eq] at h5
  obtain ⟨⟨⟨⟨⟨g1, g2⟩, g3⟩, g4⟩, g5⟩, g6⟩ := h5
  simp [Cond.before, Cond.holds, Cond.value, h1, h2, h3, h4, g1, g2, g3, g4, g5, g6]
def isCode : Jvm.Cond → Bool
  | .code _ _ _ _ => true
  | _ => false
theorem all_split {L : List Jvm.Cond} {P : Jvm.Cond → Bool} (h1 : L.all (fun c => isCode c || P c) = true) (h2 : ∀ c ∈ L.filter isCode, P c = true) : L.all P = true := by
  refine List.all_eq_true.mpr fun c hc => ?_
  have h := List.all_eq_true.mp h1 c hc
  rcases Bool.eq_false_or_eq_true (isCode c) with hi | hi
  · exact h2 c (List.mem_filter.mpr ⟨hc, hi⟩)
  · simpa [hi] using h
set_option maxRecDepth 65536 in
theorem w_c0 : (Jvm.Cond.code x code maxLocals ret).before args0 about1 = true := code_word (m := ⟨1, 1⟩) (meth := k1m1) (c := k1c1) (by decide +kernel) rfl rfl rfl (by decide +kernel)
set_option maxRecDepth 65536 in
theorem w_c1 : (Jvm.Cond.code ({ cls := "com/example/slabrun/slabrun/core/UsageList", name := "stayFrom", desc := "(I)I" } : Jvm.MethodName) prog_35_method_5_code (2 : Nat) (Option.some Jvm.ClassFile.FieldType.int)).before args0 about1 = true := code_word (m := ⟨6, 0⟩) (meth := k6m0) (c := k6c0) (by decide +kernel) rfl rfl rfl (by decide +kernel)
def codes1 : List Jvm.Cond := [Jvm.Cond.code x code maxLocals ret, Jvm.Cond.code ({ cls := "com/example/slabrun/slabrun/core/UsageList", name := "stayFrom", desc := "(I)I" } : Jvm.MethodName) prog_35_method_5_code (2 : Nat) (Option.some Jvm.ClassFile.FieldType.int)]
set_option maxRecDepth 65536 in
theorem codes_eq : words1.filter isCode = codes1 := rfl
theorem w_codes : ∀ c ∈ words1.filter isCode, c.before args0 about1 = true := by
  rw [codes_eq]
  intro c hc
  simp only [codes1, List.mem_cons, List.not_mem_nil, or_false] at hc
  rcases hc with rfl | rfl
  · exact w_c0
  · exact w_c1
set_option maxRecDepth 65536 in
theorem w_t1 : (words1.take 24).all (fun c => isCode c || c.before args0 about1) = true := by decide +kernel
set_option maxRecDepth 65536 in
theorem w_t2 : (words1.drop 24).all (fun c => isCode c || c.before args0 about1) = true := by decide +kernel
theorem w_tables : (allAtoms (Jvm.Cond.code x code maxLocals ret :: tables_1)).before args0 about1 = true := by
  rw [allAtoms_all]
  show words1.all (fun c => c.before args0 about1) = true
  refine all_split ?_ w_codes
  rw [← List.take_append_drop 24 words1, List.all_append, w_t1, w_t2]
  rfl
set_option maxRecDepth 65536 in
theorem w_case : (Jvm.Cond.and given_1 narrow_1).before args0 about1 = true := by decide +kernel
theorem w_applies : (headSpec (Jvm.Cond.code x code maxLocals ret :: tables_1) room_1).applies x e0.platform about1 = true :=
  (Spec.applies_iff w_frames).mpr ⟨w_running, w_runnable, w_alone, w_named, w_hears, w_ripe, w_room, w_tables⟩
theorem atStart : AtStart classFile x code maxLocals ret World_1 tables_1 room_1 Calls_1 rest_1 Pre_1 launch0 p0 e0 about1 theMethod args0 below0 :=
  ⟨lists_1, trivial, launch0.admits_env _ _ _, launch0.least_env, fairChoices_fair.cas, fairChoices_fair.clock, w_frames, w_args, w_heap, w_applies, trivial, trivial, w_case⟩
end start1
theorem witness_1 : WitnessClaimed_1 := ⟨start1.p0, start1.e0, start1.about1, start1.theMethod, start1.args0, start1.below0, start1.atStart⟩
end Jvm.Pilot.@@N@@
