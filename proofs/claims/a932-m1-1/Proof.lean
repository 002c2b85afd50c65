import JvmDerived
import JvmDerived.Pilot.@@N@@Statement
import JvmDerived.Pilot.@@N@@Code
set_option linter.unusedVariables false
set_option linter.unusedSimpArgs false
namespace Jvm.RoadKit
open Sem ClassFile Op Lib Jvm.Stand Jvm.Free Jvm.LawKit
section New
variable {p : Program} {l : Launch} {e : Env} {R : Room} {s : State} {m : MethodId} {args : Array Value} {below : List Frame} {meth : Method} {c : Code} {T : State} {locs : List Loc} {cells slots : Nat}
theorem retI (X : Stand p l e R s m args below meth c T locs cells slots) (hx : p.tables.exec = Jvm.exec) {pc : Nat} {Ls : Array Slot} {z : Int32} {rest : List Value} (hret : meth.sig.returnType = some .int) (hd : decode c.code pc = .ok (.ireturn, 1)) {fs : List Frame}
    (hl : ∀ (f : JFrame) (acts : List Action), f.method = m → f.locked = none → f.entered = [] → (doReturn e (T.setTop f) acts (some (.int z))).1 = T.setFrames fs) : Steps p.tables e below (T.setTop (mkF m pc Ls (.int z :: rest))) (T.setFrames fs) := by
  have hm' : T.vm.method? m = some meth := X.method'
  have hn : narrow .int (.int z) = .int z := rfl
  show Steps p.tables e below (T.setTop { method := m, pc := pc, locals := Ls, stack := _ :: rest, locked := none }) _
  jvm_step X.here [X.here.top, hx, hd, hm', hret, hn]
  first | (intro acts; rw [hl _ acts rfl rfl rfl]) | rw [hl _ _ rfl rfl rfl]
  exact Steps.refl _
theorem own_lremM {g : JFrame} {target : State} (X : Stand p l e R s m args below meth c T locs cells slots) (hx : p.tables.exec = Jvm.exec) (hg : g.method = m) {x y : Int64} {rest : List Value} (hd : decode c.code g.pc = .ok (.lrem, 1)) (hs : g.stack = .long y :: .long x :: rest) (hy : y ≠ 0)
    (hr : Steps p.tables e below (T.setTop { g with pc := g.pc + 1, stack := .long (x % y) :: rest }) target) : Steps p.tables e below (T.setTop g) target := by
  have q : x - x / y * y = x % y := lrem_mod x y
  exact XS.lrem X.here hx hg hd hs hy (by rw [q]; exact hr)
theorem own_getD_int (L : List Int32) (n : Nat) (d : Int32) : (L.map Value.int).getD n (.int d) = .int (L.getD n d) := by simp [List.getD_eq_getElem?_getD, List.getElem?_map]
theorem own_getD_long (L : List Int64) (n : Nat) (d : Int64) : (L.map Value.long).getD n (.long d) = .long (L.getD n d) := by simp [List.getD_eq_getElem?_getD, List.getElem?_map]
theorem own_lt_nat {j z : Int32} (h : ¬ j < 0) (q : j < z) : j.toNatClampNeg < z.toNatClampNeg := by
  rw [Int32.lt_iff_toInt_lt] at h q; have : (0 : Int32).toInt = 0 := rfl
  simp only [Int32.toNatClampNeg]; omega
theorem own_eq_int {t : Term} {v : Int32} {args : Array Value} {s : State} (h : (Cond.eq t (.int v)).value args s none s [] = some true) : t.eval args s none [] s = some (.int v) := by
  simp only [Cond.value, Term.eval] at h
  cases ht : t.eval args s none [] s with
  | none => simp [ht] at h
  | some x => cases x <;> simp [ht] at h ⊢; exact h
theorem own_eq_long {t : Term} {v : Int64} {args : Array Value} {s : State} (h : (Cond.eq t (.long v)).value args s none s [] = some true) : t.eval args s none [] s = some (.long v) := by
  simp only [Cond.value, Term.eval] at h
  cases ht : t.eval args s none [] s with
  | none => simp [ht] at h
  | some x => cases x <;> simp [ht] at h ⊢; exact h
theorem own_selpriv {s : State} {args : Array Value} {y : MethodName} {n : Nat} (wi : (Cond.instantiable y.cls n).before args s = true) (hpriv : s.PrivateAt y) (hinst : (Cond.instanceMethod y).before args s = true) (hy : y.cls ≠ "java/lang/invoke/MethodHandle" ∧ y.cls ≠ "java/lang/invoke/VarHandle") : (Cond.selects y.cls y y).before args s = true := by
  obtain ⟨c, k, h1, h2, -, h4, -⟩ := Cond.instantiable_spec wi
  exact Jvm.Stand.selects_self_of_private h1 h2 (Bool.or_eq_false_iff.mp h4).1 hpriv hinst hy
theorem own_narb (P : Prop) [Decidable P] : nar .boolean (if P then (1 : Int32) else (0 : Int32)) = if P then (1 : Int32) else (0 : Int32) := by by_cases h : P <;> simp only [h, if_true, if_false] <;> rfl
end New
end Jvm.RoadKit
namespace Jvm.Pilot.@@N@@
open Jvm Jvm.ClassFile Sem Op Lib Jvm.Free Jvm.Stand Jvm.LawKit Jvm.RoadKit Bundle Jvm.Pilot.@@N@@.Jvm.D
theorem d1_0 : decode prog_94_method_3_code 0 = .ok (.iload_n 0, 1) := by decide +kernel
theorem d1_1 : decode prog_94_method_3_code 1 = .ok (.bipush 10, 2) := by decide +kernel
theorem d1_3 : decode prog_94_method_3_code 3 = .ok (.if_icmp .eq 23, 3) := by decide +kernel
theorem d1_6 : decode prog_94_method_3_code 6 = .ok (.iload_n 0, 1) := by decide +kernel
theorem d1_7 : decode prog_94_method_3_code 7 = .ok (.bipush 13, 2) := by decide +kernel
theorem d1_9 : decode prog_94_method_3_code 9 = .ok (.if_icmp .eq 17, 3) := by decide +kernel
theorem d1_12 : decode prog_94_method_3_code 12 = .ok (.iload_n 0, 1) := by decide +kernel
theorem d1_13 : decode prog_94_method_3_code 13 = .ok (.sipush 8232, 3) := by decide +kernel
theorem d1_16 : decode prog_94_method_3_code 16 = .ok (.if_icmp .eq 10, 3) := by decide +kernel
theorem d1_19 : decode prog_94_method_3_code 19 = .ok (.iload_n 0, 1) := by decide +kernel
theorem d1_20 : decode prog_94_method_3_code 20 = .ok (.sipush 8233, 3) := by decide +kernel
theorem d1_23 : decode prog_94_method_3_code 23 = .ok (.if_icmp .ne 7, 3) := by decide +kernel
theorem d1_26 : decode prog_94_method_3_code 26 = .ok (.iconst 1, 1) := by decide +kernel
theorem d1_27 : decode prog_94_method_3_code 27 = .ok (.goto 4, 3) := by decide +kernel
theorem d1_30 : decode prog_94_method_3_code 30 = .ok (.iconst 0, 1) := by decide +kernel
theorem d1_31 : decode prog_94_method_3_code 31 = .ok (.ireturn, 1) := by decide +kernel
theorem pn_17 : plainName "com/example/protoscope/protoscope/source/LineStarts" = true := by first | (simp [plainName, overriddenIn]; done) | decide +kernel
def v1_23_s0 (p0 : Int32) : Int32 := if p0 = (8233 : Int32) then (1 : Int32) else (0 : Int32)
def v1_16_s0 (p0 : Int32) : Int32 := if p0 = (8232 : Int32) then (1 : Int32) else (v1_23_s0 p0)
def v1_9_s0 (p0 : Int32) : Int32 := if p0 = (13 : Int32) then (1 : Int32) else (v1_16_s0 p0)
def v1_3_s0 (p0 : Int32) : Int32 := if p0 = (10 : Int32) then (1 : Int32) else (v1_9_s0 p0)
theorem ef_rm1 (m : MethodId) (p0 : Int32) : entryFrame m #[(.int p0)] 1 = mkF m 0 #[.val (.int p0)] [] := by first | (simp [entryFrame, mkF, argsToLocals, Value.category]; done) | rfl
def Q1 (Z : State) (p0 : Int32) (h0 : Heap) (n0 : Nat) (v : Option Value) (h : Heap) (L : List Loc) : Prop := v = some (.int (nar .boolean (v1_3_s0 p0))) ∧ Fr n0 L ∧ h = h0
set_option maxRecDepth 65536 in
set_option maxHeartbeats 40000000 in
theorem rm1 (l : Launch) (Z : State) (a0 : Array Value) (hw : ∀ d ∈ tables_1, d.before a0 Z = true) (ws : List Jvm.Cond) (p0 : Int32) (h0 : Heap) (n0 : Nat) (Z0 : n0 ≤ h0.size) :
    MetFree l (⟨"com/example/protoscope/protoscope/source/LineStarts", "isTerminator", "(C)Z"⟩ : MethodName) (head1 (Jvm.Cond.code (⟨"com/example/protoscope/protoscope/source/LineStarts", "isTerminator", "(C)Z"⟩ : MethodName) prog_94_method_3_code 1 (some .boolean) :: ws) ({ frames := 0, cells := 0, slots := 0, locals := 0 } : Room)) (fun a U => a = #[(.int p0)] ∧ Z.Warmed39 U.vm ∧ U.heap = h0) (fun _ _ _ _ _ => True) (fun _ U o U' => ∃ v L, o = .returned v ∧ Q1 Z p0 h0 n0 v U'.heap L ∧ FrameEnd U o U' L ({ frames := 0, cells := 0, slots := 0, locals := 0 } : Room).cells ({ frames := 0, cells := 0, slots := 0, locals := 0 } : Room).slots) := by
  refine MetFree.of_bodySF (plainFor_of_name pn_17) hisR ?_
  intro p e s m args below meth c s₁ Bd hml0 hP hK
  obtain ⟨rfl, hZ, hh⟩ := hP
  have hx := Bd.exec
  have hby := Bd.bytes
  have hml : c.maxLocals = 1 := hml0
  have hown : s.vm.findClass "com/example/protoscope/protoscope/source/LineStarts" = some m.cls := findClass_of_methodNamed Bd.named
  have hnm := (name_of_methodNamed Bd.named Bd.method).1
  have X0 : Stand p l e ({ frames := 0, cells := 0, slots := 0, locals := 0 } : Room) s m #[(.int p0)] below meth c s₁ [] 0 0 := Stand.of_body Bd
  have e0 : s₁.heap = h0 := by rw [← hh, Bd.state]; rfl
  have N0 := Fr.nil n0
  have KC0 := Keep.refl h0 ([] : List Addr)
  have pre0 : ∀ t, Steps p.tables e below (s₁.setTop (mkF m 0 #[.val (.int p0)] [])) t → Steps p.tables e below (s₁.setTop (entryFrame m #[(.int p0)] 1)) t := fun t k => castTop (ef_rm1 m p0) k
  have k9 := fun (t : State) (kk : Steps p.tables e below (s₁.setTop (mkF m 31 #[.val (.int p0)] [(.int (v1_3_s0 p0))])) t) => pre0 t (by
    show Steps p.tables e below (s₁.setTop (mkF m 0 #[.val (.int p0)] [])) _
    refine XS.iloadN X0.here hx rfl (hb hby d1_0) rfl ?_
    show Steps p.tables e below (s₁.setTop (mkF m 1 #[.val (.int p0)] [(.int p0)])) _
    refine XS.bipush X0.here hx rfl (hb hby d1_1) ?_
    suffices k8 : Steps p.tables e below (s₁.setTop (mkF m 31 #[.val (.int p0)] [(.int (v1_3_s0 p0))])) t by
      by_cases hc3_1 : p0 = (10 : Int32)
      · rw [(show (v1_3_s0 p0) = (1 : Int32) from if_pos hc3_1)] at k8
        show Steps p.tables e below (s₁.setTop (mkF m 3 #[.val (.int p0)] [(.int (10 : Int32)), (.int p0)])) _
        refine XS.icmpYes X0.here hx rfl (pc0 := 3) (pc' := 26) rfl (hb hby d1_3) rfl (teq hc3_1).1 (by decide) (by decide) ?_
        show Steps p.tables e below (s₁.setTop (mkF m 26 #[.val (.int p0)] [])) _
        refine XS.iconst X0.here hx rfl (hb hby d1_26) ?_
        show Steps p.tables e below (s₁.setTop (mkF m 27 #[.val (.int p0)] [(.int (1 : Int32))])) _
        refine XS.goto X0.here hx rfl (pc0 := 27) (pc' := 31) rfl (hb hby d1_27) (by decide) (by decide) ?_
        exact k8
      · rw [(show (v1_3_s0 p0) = (v1_9_s0 p0) from if_neg hc3_1)] at k8
        show Steps p.tables e below (s₁.setTop (mkF m 3 #[.val (.int p0)] [(.int (10 : Int32)), (.int p0)])) _
        refine XS.icmpNo X0.here hx rfl (hb hby d1_3) rfl (feq hc3_1).1 ?_
        show Steps p.tables e below (s₁.setTop (mkF m 6 #[.val (.int p0)] [])) _
        refine XS.iloadN X0.here hx rfl (hb hby d1_6) rfl ?_
        show Steps p.tables e below (s₁.setTop (mkF m 7 #[.val (.int p0)] [(.int p0)])) _
        refine XS.bipush X0.here hx rfl (hb hby d1_7) ?_
        suffices k7 : Steps p.tables e below (s₁.setTop (mkF m 31 #[.val (.int p0)] [(.int (v1_9_s0 p0))])) t by
          by_cases hc9_2 : p0 = (13 : Int32)
          · rw [(show (v1_9_s0 p0) = (1 : Int32) from if_pos hc9_2)] at k7
            show Steps p.tables e below (s₁.setTop (mkF m 9 #[.val (.int p0)] [(.int (13 : Int32)), (.int p0)])) _
            refine XS.icmpYes X0.here hx rfl (pc0 := 9) (pc' := 26) rfl (hb hby d1_9) rfl (teq hc9_2).1 (by decide) (by decide) ?_
            show Steps p.tables e below (s₁.setTop (mkF m 26 #[.val (.int p0)] [])) _
            refine XS.iconst X0.here hx rfl (hb hby d1_26) ?_
            show Steps p.tables e below (s₁.setTop (mkF m 27 #[.val (.int p0)] [(.int (1 : Int32))])) _
            refine XS.goto X0.here hx rfl (pc0 := 27) (pc' := 31) rfl (hb hby d1_27) (by decide) (by decide) ?_
            exact k7
          · rw [(show (v1_9_s0 p0) = (v1_16_s0 p0) from if_neg hc9_2)] at k7
            show Steps p.tables e below (s₁.setTop (mkF m 9 #[.val (.int p0)] [(.int (13 : Int32)), (.int p0)])) _
            refine XS.icmpNo X0.here hx rfl (hb hby d1_9) rfl (feq hc9_2).1 ?_
            show Steps p.tables e below (s₁.setTop (mkF m 12 #[.val (.int p0)] [])) _
            refine XS.iloadN X0.here hx rfl (hb hby d1_12) rfl ?_
            show Steps p.tables e below (s₁.setTop (mkF m 13 #[.val (.int p0)] [(.int p0)])) _
            refine XS.sipush X0.here hx rfl (hb hby d1_13) ?_
            suffices k6 : Steps p.tables e below (s₁.setTop (mkF m 31 #[.val (.int p0)] [(.int (v1_16_s0 p0))])) t by
              by_cases hc16_3 : p0 = (8232 : Int32)
              · rw [(show (v1_16_s0 p0) = (1 : Int32) from if_pos hc16_3)] at k6
                show Steps p.tables e below (s₁.setTop (mkF m 16 #[.val (.int p0)] [(.int (8232 : Int32)), (.int p0)])) _
                refine XS.icmpYes X0.here hx rfl (pc0 := 16) (pc' := 26) rfl (hb hby d1_16) rfl (teq hc16_3).1 (by decide) (by decide) ?_
                show Steps p.tables e below (s₁.setTop (mkF m 26 #[.val (.int p0)] [])) _
                refine XS.iconst X0.here hx rfl (hb hby d1_26) ?_
                show Steps p.tables e below (s₁.setTop (mkF m 27 #[.val (.int p0)] [(.int (1 : Int32))])) _
                refine XS.goto X0.here hx rfl (pc0 := 27) (pc' := 31) rfl (hb hby d1_27) (by decide) (by decide) ?_
                exact k6
              · rw [(show (v1_16_s0 p0) = (v1_23_s0 p0) from if_neg hc16_3)] at k6
                show Steps p.tables e below (s₁.setTop (mkF m 16 #[.val (.int p0)] [(.int (8232 : Int32)), (.int p0)])) _
                refine XS.icmpNo X0.here hx rfl (hb hby d1_16) rfl (feq hc16_3).1 ?_
                show Steps p.tables e below (s₁.setTop (mkF m 19 #[.val (.int p0)] [])) _
                refine XS.iloadN X0.here hx rfl (hb hby d1_19) rfl ?_
                show Steps p.tables e below (s₁.setTop (mkF m 20 #[.val (.int p0)] [(.int p0)])) _
                refine XS.sipush X0.here hx rfl (hb hby d1_20) ?_
                suffices k5 : Steps p.tables e below (s₁.setTop (mkF m 31 #[.val (.int p0)] [(.int (v1_23_s0 p0))])) t by
                  by_cases hc23_4 : p0 = (8233 : Int32)
                  · rw [(show (v1_23_s0 p0) = (1 : Int32) from if_pos hc23_4)] at k5
                    show Steps p.tables e below (s₁.setTop (mkF m 23 #[.val (.int p0)] [(.int (8233 : Int32)), (.int p0)])) _
                    refine XS.icmpNo X0.here hx rfl (hb hby d1_23) rfl (teq hc23_4).2 ?_
                    show Steps p.tables e below (s₁.setTop (mkF m 26 #[.val (.int p0)] [])) _
                    refine XS.iconst X0.here hx rfl (hb hby d1_26) ?_
                    show Steps p.tables e below (s₁.setTop (mkF m 27 #[.val (.int p0)] [(.int (1 : Int32))])) _
                    refine XS.goto X0.here hx rfl (pc0 := 27) (pc' := 31) rfl (hb hby d1_27) (by decide) (by decide) ?_
                    exact k5
                  · rw [(show (v1_23_s0 p0) = (0 : Int32) from if_neg hc23_4)] at k5
                    show Steps p.tables e below (s₁.setTop (mkF m 23 #[.val (.int p0)] [(.int (8233 : Int32)), (.int p0)])) _
                    refine XS.icmpYes X0.here hx rfl (pc0 := 23) (pc' := 30) rfl (hb hby d1_23) rfl (feq hc23_4).2 (by decide) (by decide) ?_
                    show Steps p.tables e below (s₁.setTop (mkF m 30 #[.val (.int p0)] [])) _
                    refine XS.iconst X0.here hx rfl (hb hby d1_30) ?_
                    exact k5
                exact k6
            exact k7
        exact k8
    exact kk)
  obtain ⟨fs, hr, hrun, hended, hW, hsame⟩ := X0.leave (v := some (.int (nar .boolean (v1_3_s0 p0)))) (fun h => by rw [Bd.returns] at h; cases h)
  refine ⟨_, _, k9 _ ?_, hrun, hended, _, _, rfl, ?_, ⟨_, rfl⟩, hW, hsame.mono (by decide) (by decide)⟩
  · show Steps p.tables e below (s₁.setTop (mkF m 31 #[.val (.int p0)] [(.int (v1_3_s0 p0))])) _
    exact retN X0 hx (t := .boolean) Bd.returns (by simp) (hb hby d1_31) hr
  · show Q1 Z p0 h0 n0 _ s₁.heap _
    rw [e0]
    exact ⟨rfl, N0, rfl⟩
theorem pd_0 : parseMethodDescriptor "(C)Z" = some ⟨[.char], some .boolean⟩ := by decide +kernel
theorem pn_24 : plainName "com/example/protoscope/protoscope/source/LineStartsIsTerminatorPinLaw" = true := by first | (simp [plainName, overriddenIn]; done) | decide +kernel
def v0_89_at (p1 : Int32) : Int32 := (([(9 : Int32), (10 : Int32), (11 : Int32), (12 : Int32), (13 : Int32), (14 : Int32), (133 : Int32), (8231 : Int32), (8232 : Int32), (8233 : Int32), (8234 : Int32), (65535 : Int32)] : List Int32).getD ((p1 &&& (15 : Int32))).toNatClampNeg (0 : Int32))
def v0_127_s0 (p1 : Int32) : Int32 := if (v0_89_at p1) = (13 : Int32) then (1 : Int32) else (0 : Int32)
def v0_120_s0 (p1 : Int32) : Int32 := if (v0_89_at p1) = (10 : Int32) then (1 : Int32) else (v0_127_s0 p1)
def v0_113_s0 (p1 : Int32) : Int32 := if (8233 : Int32) < (v0_89_at p1) then (v0_120_s0 p1) else (1 : Int32)
def v0_105_s0 (p1 : Int32) : Int32 := if (v0_89_at p1) < (8232 : Int32) then (v0_120_s0 p1) else (v0_113_s0 p1)
def v0_144_s0 (p1 : Int32) : Int32 := if (nar .boolean (v1_3_s0 (v0_89_at p1))) = (v0_105_s0 p1) then (1 : Int32) else (0 : Int32)
def v0_98_l4 (p0 : Int32) : Int32 := ((p0 &&& (65535 : Int32)).toUInt32.toUInt16.toUInt32.toInt32)
def v0_127_s0_1 (p0 : Int32) : Int32 := if (v0_98_l4 p0) = (13 : Int32) then (1 : Int32) else (0 : Int32)
def v0_120_s0_1 (p0 : Int32) : Int32 := if (v0_98_l4 p0) = (10 : Int32) then (1 : Int32) else (v0_127_s0_1 p0)
def v0_113_s0_1 (p0 : Int32) : Int32 := if (8233 : Int32) < (v0_98_l4 p0) then (v0_120_s0_1 p0) else (1 : Int32)
def v0_105_s0_1 (p0 : Int32) : Int32 := if (v0_98_l4 p0) < (8232 : Int32) then (v0_120_s0_1 p0) else (v0_113_s0_1 p0)
def v0_144_s0_1 (p0 : Int32) : Int32 := if (nar .boolean (v1_3_s0 (v0_98_l4 p0))) = (v0_105_s0_1 p0) then (1 : Int32) else (0 : Int32)
def v0_ret (p0 : Int32) (p1 : Int32) : Int32 := (if (p1 &&& (15 : Int32)) < (12 : Int32) then (nar .boolean (v0_144_s0 p1)) else (nar .boolean (v0_144_s0_1 p0)))
theorem own_nn (p1 : Int32) : ¬ (p1 &&& (15 : Int32)) < 0 := by
  have := (c_and p1 (15 : Int32) (by decide)).1
  rw [Int32.lt_iff_toInt_lt]; have : (0 : Int32).toInt = 0 := rfl; omega
theorem own_term (X : Int32) : nar .boolean (v1_3_s0 X) = (if X < (8232 : Int32) then (if X = (10 : Int32) then (1 : Int32) else (if X = (13 : Int32) then (1 : Int32) else (0 : Int32))) else (if (8233 : Int32) < X then (if X = (10 : Int32) then (1 : Int32) else (if X = (13 : Int32) then (1 : Int32) else (0 : Int32))) else (1 : Int32))) := by
  unfold v1_3_s0 v1_9_s0 v1_16_s0 v1_23_s0
  by_cases h1 : X = 10
  · subst h1; rfl
  by_cases h2 : X = 13
  · subst h2; rfl
  by_cases h3 : X = 8232
  · subst h3; rfl
  by_cases h4 : X = 8233
  · subst h4; rfl
  rw [if_neg h1, if_neg h2, if_neg h3, if_neg h4, if_neg h1, if_neg h2]
  by_cases h5 : X < 8232
  · rw [if_pos h5]; rfl
  · have h6 : (8233 : Int32) < X := by
      rw [← Int32.toInt_inj] at h3 h4
      rw [Int32.lt_iff_toInt_lt] at h5 ⊢
      have e1 : (8232 : Int32).toInt = 8232 := rfl
      have e2 : (8233 : Int32).toInt = 8233 := rfl
      omega
    rw [if_neg h5, if_pos h6]; rfl
theorem own_law (p0 p1 : Int32) : (v0_ret p0 p1) = 1 := by
  have e1 : v0_144_s0 p1 = 1 := by
    unfold v0_144_s0 v0_105_s0 v0_113_s0 v0_120_s0 v0_127_s0
    exact if_pos (own_term _)
  have e2 : v0_144_s0_1 p0 = 1 := by
    unfold v0_144_s0_1 v0_105_s0_1 v0_113_s0_1 v0_120_s0_1 v0_127_s0_1
    exact if_pos (own_term _)
  unfold v0_ret
  rw [e1, e2]
  split <;> rfl

theorem ef_rm0 (m : MethodId) (p0 : Int32) (p1 : Int32) : entryFrame m #[(.int p0), (.int p1)] maxLocals = mkF m 0 #[.val (.int p0), .val (.int p1), .unset, .unset, .unset, .unset] [] := by first | (simp [entryFrame, mkF, argsToLocals, Value.category, maxLocals]; done) | rfl
def Q0 (Z : State) (p0 : Int32) (p1 : Int32) (h0 : Heap) (n0 : Nat) (v : Option Value) (h : Heap) (L : List Loc) : Prop := v = some (.int 1) ∧ Fr n0 L
set_option maxRecDepth 65536 in
set_option maxHeartbeats 40000000 in
theorem rm0 (l : Launch) (Z : State) (a0 : Array Value) (hw : ∀ d ∈ tables_1, d.before a0 Z = true) (ws : List Jvm.Cond) (p0 : Int32) (p1 : Int32) (h0 : Heap) (n0 : Nat) (Z0 : n0 ≤ h0.size) :
    MetFree l x (head1 (Jvm.Cond.code x code maxLocals ret :: ws) room_1) (fun a U => a = #[(.int p0), (.int p1)] ∧ Z.Warmed39 U.vm ∧ U.heap = h0) (fun _ _ _ _ _ => True) (fun _ U o U' => ∃ v L, o = .returned v ∧ Q0 Z p0 p1 h0 n0 v U'.heap L ∧ FrameEnd U o U' L room_1.cells room_1.slots) := by
  refine MetFree.of_bodySF (plainFor_of_name pn_24) hisR ?_
  intro p e s m args below meth c s₁ Bd hml0 hP hK
  obtain ⟨rfl, hZ, hh⟩ := hP
  have hx := Bd.exec
  have hby := Bd.bytes
  have hml : c.maxLocals = 6 := hml0
  have hown : s.vm.findClass "com/example/protoscope/protoscope/source/LineStartsIsTerminatorPinLaw" = some m.cls := findClass_of_methodNamed Bd.named
  have hnm := (name_of_methodNamed Bd.named Bd.method).1
  have X0 : Stand p l e room_1 s m #[(.int p0), (.int p1)] below meth c s₁ [] 0 0 := Stand.of_body Bd
  have e0 : s₁.heap = h0 := by rw [← hh, Bd.state]; rfl
  have N0 := Fr.nil n0
  have KC0 := Keep.refl h0 ([] : List Addr)
  have pre0 : ∀ t, Steps p.tables e below (s₁.setTop (mkF m 0 #[.val (.int p0), .val (.int p1), .unset, .unset, .unset, .unset] [])) t → Steps p.tables e below (s₁.setTop (entryFrame m #[(.int p0), (.int p1)] maxLocals)) t := fun t k => castTop (ef_rm0 m p0 p1) k
  have k10 := fun (t : State) (kk : Steps p.tables e below (s₁.setTop (mkF m 2 #[.val (.int p0), .val (.int p1), .unset, .unset, .unset, .unset] [(.int (12 : Int32))])) t) => pre0 t (by
    show Steps p.tables e below (s₁.setTop (mkF m 0 #[.val (.int p0), .val (.int p1), .unset, .unset, .unset, .unset] [])) _
    refine XS.bipush X0.here hx rfl (hb hby at_0) ?_
    exact kk)
  obtain ⟨T11, h11, k11, X11, e11, E11, A11, st11⟩ := newP X0 hx hZ (hw _ (List.mem_of_getElem? (i := 0) rfl)) e0 (g := (mkF m 2 #[.val (.int p0), .val (.int p1), .unset, .unset, .unset, .unset] [(.int (12 : Int32))])) rfl (hb hby at_2) rfl (by decide) (cap := 12) (by decide) (by decide) (by decide) (by decide)
  obtain ⟨b11, g11⟩ : ∃ z, z = h0.size := ⟨_, rfl⟩
  rw [← g11] at A11 st11
  have g_b11 : n0 ≤ b11 := Nat.le_trans (Nat.le_trans Z0 KC0.1) (Nat.le_of_eq g11.symm)
  have sz_b11 : h0.size ≤ b11 := Nat.le_trans KC0.1 (Nat.le_of_eq g11.symm)
  have K11 : Keep h0 h11 [] := KC0.ext E11
  have V11 : Arv Z h11 b11 k11 .char (12 : Int32) (List.map Value.int ([(0 : Int32), (0 : Int32), (0 : Int32), (0 : Int32), (0 : Int32), (0 : Int32), (0 : Int32), (0 : Int32), (0 : Int32), (0 : Int32), (0 : Int32), (0 : Int32)] : List Int32)) (.int (0 : Int32)) := (Arv.new A11 (by decide)).pad (pad_rep [] (.int (0 : Int32)) 12)
  have VL11 : ([(0 : Int32), (0 : Int32), (0 : Int32), (0 : Int32), (0 : Int32), (0 : Int32), (0 : Int32), (0 : Int32), (0 : Int32), (0 : Int32), (0 : Int32), (0 : Int32)] : List Int32).length = ((12 : Int32)).toNatClampNeg := rfl
  have k12 := fun (t : State) (kk : Steps p.tables e below (T11.setTop (mkF m 4 #[.val (.int p0), .val (.int p1), .unset, .unset, .unset, .unset] [(.ref b11)])) t) => k10 t (st11 _ kk)
  have k13 := fun (t : State) (kk : Steps p.tables e below (T11.setTop (mkF m 8 #[.val (.int p0), .val (.int p1), .unset, .unset, .unset, .unset] [(.int (9 : Int32)), (.int (0 : Int32)), (.ref b11), (.ref b11)])) t) => k12 t (by
    show Steps p.tables e below (T11.setTop (mkF m 4 #[.val (.int p0), .val (.int p1), .unset, .unset, .unset, .unset] [(.ref b11)])) _
    refine XS.dup X11.here hx rfl (hb hby at_4) rfl rfl ?_
    show Steps p.tables e below (T11.setTop (mkF m 5 #[.val (.int p0), .val (.int p1), .unset, .unset, .unset, .unset] [(.ref b11), (.ref b11)])) _
    refine XS.iconst X11.here hx rfl (hb hby at_5) ?_
    show Steps p.tables e below (T11.setTop (mkF m 6 #[.val (.int p0), .val (.int p1), .unset, .unset, .unset, .unset] [(.int (0 : Int32)), (.ref b11), (.ref b11)])) _
    refine XS.bipush X11.here hx rfl (hb hby at_6) ?_
    exact kk)
  obtain ⟨cl14, Ar14, q14, S14, Nn14, H14, G14⟩ := V11
  have hb15 : ¬ (0 : Int32) < 0 ∧ (0 : Int32) < (12 : Int32) := ⟨by decide, by decide⟩
  have hin15 : ¬ ((0 : Int32) < 0 ∨ cl14.slots.size ≤ ((0 : Int32)).toNatClampNeg) := inb_of S14 hb15
  obtain ⟨T15, h15, X15, e15, W15, st15⟩ := stC X11 hx hZ e11 Ar14 (j := (0 : Int32)) hin15 (g := (mkF m 8 #[.val (.int p0), .val (.int p1), .unset, .unset, .unset, .unset] [(.int (9 : Int32)), (.int (0 : Int32)), (.ref b11), (.ref b11)])) rfl rfl (hb hby at_8)
  have V15 : Arv Z h15 b11 k11 .char (12 : Int32) (List.map Value.int ([(9 : Int32), (0 : Int32), (0 : Int32), (0 : Int32), (0 : Int32), (0 : Int32), (0 : Int32), (0 : Int32), (0 : Int32), (0 : Int32), (0 : Int32), (0 : Int32)] : List Int32)) (.int (0 : Int32)) := Arv.set Ar14 q14 S14 Nn14 H14 G14 (fits_nar_char _) W15 0 rfl (Nat.le_of_ble_eq_true rfl)
  have VL15 : ([(9 : Int32), (0 : Int32), (0 : Int32), (0 : Int32), (0 : Int32), (0 : Int32), (0 : Int32), (0 : Int32), (0 : Int32), (0 : Int32), (0 : Int32), (0 : Int32)] : List Int32).length = ((12 : Int32)).toNatClampNeg := rfl
  have K15 : Keep h0 h15 [] := K11.wr W15 (Or.inr sz_b11)
  have N15 := Fr.snoc X15 N0 g_b11
  have k16 := fun (t : State) (kk : Steps p.tables e below (T15.setTop (mkF m 9 #[.val (.int p0), .val (.int p1), .unset, .unset, .unset, .unset] [(.ref b11)])) t) => k13 t (st15 _ kk)
  have k17 := fun (t : State) (kk : Steps p.tables e below (T15.setTop (mkF m 13 #[.val (.int p0), .val (.int p1), .unset, .unset, .unset, .unset] [(.int (10 : Int32)), (.int (1 : Int32)), (.ref b11), (.ref b11)])) t) => k16 t (by
    show Steps p.tables e below (T15.setTop (mkF m 9 #[.val (.int p0), .val (.int p1), .unset, .unset, .unset, .unset] [(.ref b11)])) _
    refine XS.dup X15.here hx rfl (hb hby at_9) rfl rfl ?_
    show Steps p.tables e below (T15.setTop (mkF m 10 #[.val (.int p0), .val (.int p1), .unset, .unset, .unset, .unset] [(.ref b11), (.ref b11)])) _
    refine XS.iconst X15.here hx rfl (hb hby at_10) ?_
    show Steps p.tables e below (T15.setTop (mkF m 11 #[.val (.int p0), .val (.int p1), .unset, .unset, .unset, .unset] [(.int (1 : Int32)), (.ref b11), (.ref b11)])) _
    refine XS.bipush X15.here hx rfl (hb hby at_11) ?_
    exact kk)
  obtain ⟨cl18, Ar18, q18, S18, Nn18, H18, G18⟩ := V15
  have hb19 : ¬ (1 : Int32) < 0 ∧ (1 : Int32) < (12 : Int32) := ⟨by decide, by decide⟩
  have hin19 : ¬ ((1 : Int32) < 0 ∨ cl18.slots.size ≤ ((1 : Int32)).toNatClampNeg) := inb_of S18 hb19
  obtain ⟨T19, h19, X19, e19, W19, st19⟩ := stC X15 hx hZ e15 Ar18 (j := (1 : Int32)) hin19 (g := (mkF m 13 #[.val (.int p0), .val (.int p1), .unset, .unset, .unset, .unset] [(.int (10 : Int32)), (.int (1 : Int32)), (.ref b11), (.ref b11)])) rfl rfl (hb hby at_13)
  have V19 : Arv Z h19 b11 k11 .char (12 : Int32) (List.map Value.int ([(9 : Int32), (10 : Int32), (0 : Int32), (0 : Int32), (0 : Int32), (0 : Int32), (0 : Int32), (0 : Int32), (0 : Int32), (0 : Int32), (0 : Int32), (0 : Int32)] : List Int32)) (.int (0 : Int32)) := Arv.set Ar18 q18 S18 Nn18 H18 G18 (fits_nar_char _) W19 1 rfl (Nat.le_of_ble_eq_true rfl)
  have VL19 : ([(9 : Int32), (10 : Int32), (0 : Int32), (0 : Int32), (0 : Int32), (0 : Int32), (0 : Int32), (0 : Int32), (0 : Int32), (0 : Int32), (0 : Int32), (0 : Int32)] : List Int32).length = ((12 : Int32)).toNatClampNeg := rfl
  have K19 : Keep h0 h19 [] := K15.wr W19 (Or.inr sz_b11)
  have N19 := Fr.snoc X19 N15 g_b11
  have k20 := fun (t : State) (kk : Steps p.tables e below (T19.setTop (mkF m 14 #[.val (.int p0), .val (.int p1), .unset, .unset, .unset, .unset] [(.ref b11)])) t) => k17 t (st19 _ kk)
  have k21 := fun (t : State) (kk : Steps p.tables e below (T19.setTop (mkF m 18 #[.val (.int p0), .val (.int p1), .unset, .unset, .unset, .unset] [(.int (11 : Int32)), (.int (2 : Int32)), (.ref b11), (.ref b11)])) t) => k20 t (by
    show Steps p.tables e below (T19.setTop (mkF m 14 #[.val (.int p0), .val (.int p1), .unset, .unset, .unset, .unset] [(.ref b11)])) _
    refine XS.dup X19.here hx rfl (hb hby at_14) rfl rfl ?_
    show Steps p.tables e below (T19.setTop (mkF m 15 #[.val (.int p0), .val (.int p1), .unset, .unset, .unset, .unset] [(.ref b11), (.ref b11)])) _
    refine XS.iconst X19.here hx rfl (hb hby at_15) ?_
    show Steps p.tables e below (T19.setTop (mkF m 16 #[.val (.int p0), .val (.int p1), .unset, .unset, .unset, .unset] [(.int (2 : Int32)), (.ref b11), (.ref b11)])) _
    refine XS.bipush X19.here hx rfl (hb hby at_16) ?_
    exact kk)
  obtain ⟨cl22, Ar22, q22, S22, Nn22, H22, G22⟩ := V19
  have hb23 : ¬ (2 : Int32) < 0 ∧ (2 : Int32) < (12 : Int32) := ⟨by decide, by decide⟩
  have hin23 : ¬ ((2 : Int32) < 0 ∨ cl22.slots.size ≤ ((2 : Int32)).toNatClampNeg) := inb_of S22 hb23
  obtain ⟨T23, h23, X23, e23, W23, st23⟩ := stC X19 hx hZ e19 Ar22 (j := (2 : Int32)) hin23 (g := (mkF m 18 #[.val (.int p0), .val (.int p1), .unset, .unset, .unset, .unset] [(.int (11 : Int32)), (.int (2 : Int32)), (.ref b11), (.ref b11)])) rfl rfl (hb hby at_18)
  have V23 : Arv Z h23 b11 k11 .char (12 : Int32) (List.map Value.int ([(9 : Int32), (10 : Int32), (11 : Int32), (0 : Int32), (0 : Int32), (0 : Int32), (0 : Int32), (0 : Int32), (0 : Int32), (0 : Int32), (0 : Int32), (0 : Int32)] : List Int32)) (.int (0 : Int32)) := Arv.set Ar22 q22 S22 Nn22 H22 G22 (fits_nar_char _) W23 2 rfl (Nat.le_of_ble_eq_true rfl)
  have VL23 : ([(9 : Int32), (10 : Int32), (11 : Int32), (0 : Int32), (0 : Int32), (0 : Int32), (0 : Int32), (0 : Int32), (0 : Int32), (0 : Int32), (0 : Int32), (0 : Int32)] : List Int32).length = ((12 : Int32)).toNatClampNeg := rfl
  have K23 : Keep h0 h23 [] := K19.wr W23 (Or.inr sz_b11)
  have N23 := Fr.snoc X23 N19 g_b11
  have k24 := fun (t : State) (kk : Steps p.tables e below (T23.setTop (mkF m 19 #[.val (.int p0), .val (.int p1), .unset, .unset, .unset, .unset] [(.ref b11)])) t) => k21 t (st23 _ kk)
  have k25 := fun (t : State) (kk : Steps p.tables e below (T23.setTop (mkF m 23 #[.val (.int p0), .val (.int p1), .unset, .unset, .unset, .unset] [(.int (12 : Int32)), (.int (3 : Int32)), (.ref b11), (.ref b11)])) t) => k24 t (by
    show Steps p.tables e below (T23.setTop (mkF m 19 #[.val (.int p0), .val (.int p1), .unset, .unset, .unset, .unset] [(.ref b11)])) _
    refine XS.dup X23.here hx rfl (hb hby at_19) rfl rfl ?_
    show Steps p.tables e below (T23.setTop (mkF m 20 #[.val (.int p0), .val (.int p1), .unset, .unset, .unset, .unset] [(.ref b11), (.ref b11)])) _
    refine XS.iconst X23.here hx rfl (hb hby at_20) ?_
    show Steps p.tables e below (T23.setTop (mkF m 21 #[.val (.int p0), .val (.int p1), .unset, .unset, .unset, .unset] [(.int (3 : Int32)), (.ref b11), (.ref b11)])) _
    refine XS.bipush X23.here hx rfl (hb hby at_21) ?_
    exact kk)
  obtain ⟨cl26, Ar26, q26, S26, Nn26, H26, G26⟩ := V23
  have hb27 : ¬ (3 : Int32) < 0 ∧ (3 : Int32) < (12 : Int32) := ⟨by decide, by decide⟩
  have hin27 : ¬ ((3 : Int32) < 0 ∨ cl26.slots.size ≤ ((3 : Int32)).toNatClampNeg) := inb_of S26 hb27
  obtain ⟨T27, h27, X27, e27, W27, st27⟩ := stC X23 hx hZ e23 Ar26 (j := (3 : Int32)) hin27 (g := (mkF m 23 #[.val (.int p0), .val (.int p1), .unset, .unset, .unset, .unset] [(.int (12 : Int32)), (.int (3 : Int32)), (.ref b11), (.ref b11)])) rfl rfl (hb hby at_23)
  have V27 : Arv Z h27 b11 k11 .char (12 : Int32) (List.map Value.int ([(9 : Int32), (10 : Int32), (11 : Int32), (12 : Int32), (0 : Int32), (0 : Int32), (0 : Int32), (0 : Int32), (0 : Int32), (0 : Int32), (0 : Int32), (0 : Int32)] : List Int32)) (.int (0 : Int32)) := Arv.set Ar26 q26 S26 Nn26 H26 G26 (fits_nar_char _) W27 3 rfl (Nat.le_of_ble_eq_true rfl)
  have VL27 : ([(9 : Int32), (10 : Int32), (11 : Int32), (12 : Int32), (0 : Int32), (0 : Int32), (0 : Int32), (0 : Int32), (0 : Int32), (0 : Int32), (0 : Int32), (0 : Int32)] : List Int32).length = ((12 : Int32)).toNatClampNeg := rfl
  have K27 : Keep h0 h27 [] := K23.wr W27 (Or.inr sz_b11)
  have N27 := Fr.snoc X27 N23 g_b11
  have k28 := fun (t : State) (kk : Steps p.tables e below (T27.setTop (mkF m 24 #[.val (.int p0), .val (.int p1), .unset, .unset, .unset, .unset] [(.ref b11)])) t) => k25 t (st27 _ kk)
  have k29 := fun (t : State) (kk : Steps p.tables e below (T27.setTop (mkF m 28 #[.val (.int p0), .val (.int p1), .unset, .unset, .unset, .unset] [(.int (13 : Int32)), (.int (4 : Int32)), (.ref b11), (.ref b11)])) t) => k28 t (by
    show Steps p.tables e below (T27.setTop (mkF m 24 #[.val (.int p0), .val (.int p1), .unset, .unset, .unset, .unset] [(.ref b11)])) _
    refine XS.dup X27.here hx rfl (hb hby at_24) rfl rfl ?_
    show Steps p.tables e below (T27.setTop (mkF m 25 #[.val (.int p0), .val (.int p1), .unset, .unset, .unset, .unset] [(.ref b11), (.ref b11)])) _
    refine XS.iconst X27.here hx rfl (hb hby at_25) ?_
    show Steps p.tables e below (T27.setTop (mkF m 26 #[.val (.int p0), .val (.int p1), .unset, .unset, .unset, .unset] [(.int (4 : Int32)), (.ref b11), (.ref b11)])) _
    refine XS.bipush X27.here hx rfl (hb hby at_26) ?_
    exact kk)
  obtain ⟨cl30, Ar30, q30, S30, Nn30, H30, G30⟩ := V27
  have hb31 : ¬ (4 : Int32) < 0 ∧ (4 : Int32) < (12 : Int32) := ⟨by decide, by decide⟩
  have hin31 : ¬ ((4 : Int32) < 0 ∨ cl30.slots.size ≤ ((4 : Int32)).toNatClampNeg) := inb_of S30 hb31
  obtain ⟨T31, h31, X31, e31, W31, st31⟩ := stC X27 hx hZ e27 Ar30 (j := (4 : Int32)) hin31 (g := (mkF m 28 #[.val (.int p0), .val (.int p1), .unset, .unset, .unset, .unset] [(.int (13 : Int32)), (.int (4 : Int32)), (.ref b11), (.ref b11)])) rfl rfl (hb hby at_28)
  have V31 : Arv Z h31 b11 k11 .char (12 : Int32) (List.map Value.int ([(9 : Int32), (10 : Int32), (11 : Int32), (12 : Int32), (13 : Int32), (0 : Int32), (0 : Int32), (0 : Int32), (0 : Int32), (0 : Int32), (0 : Int32), (0 : Int32)] : List Int32)) (.int (0 : Int32)) := Arv.set Ar30 q30 S30 Nn30 H30 G30 (fits_nar_char _) W31 4 rfl (Nat.le_of_ble_eq_true rfl)
  have VL31 : ([(9 : Int32), (10 : Int32), (11 : Int32), (12 : Int32), (13 : Int32), (0 : Int32), (0 : Int32), (0 : Int32), (0 : Int32), (0 : Int32), (0 : Int32), (0 : Int32)] : List Int32).length = ((12 : Int32)).toNatClampNeg := rfl
  have K31 : Keep h0 h31 [] := K27.wr W31 (Or.inr sz_b11)
  have N31 := Fr.snoc X31 N27 g_b11
  have k32 := fun (t : State) (kk : Steps p.tables e below (T31.setTop (mkF m 29 #[.val (.int p0), .val (.int p1), .unset, .unset, .unset, .unset] [(.ref b11)])) t) => k29 t (st31 _ kk)
  have k33 := fun (t : State) (kk : Steps p.tables e below (T31.setTop (mkF m 33 #[.val (.int p0), .val (.int p1), .unset, .unset, .unset, .unset] [(.int (14 : Int32)), (.int (5 : Int32)), (.ref b11), (.ref b11)])) t) => k32 t (by
    show Steps p.tables e below (T31.setTop (mkF m 29 #[.val (.int p0), .val (.int p1), .unset, .unset, .unset, .unset] [(.ref b11)])) _
    refine XS.dup X31.here hx rfl (hb hby at_29) rfl rfl ?_
    show Steps p.tables e below (T31.setTop (mkF m 30 #[.val (.int p0), .val (.int p1), .unset, .unset, .unset, .unset] [(.ref b11), (.ref b11)])) _
    refine XS.iconst X31.here hx rfl (hb hby at_30) ?_
    show Steps p.tables e below (T31.setTop (mkF m 31 #[.val (.int p0), .val (.int p1), .unset, .unset, .unset, .unset] [(.int (5 : Int32)), (.ref b11), (.ref b11)])) _
    refine XS.bipush X31.here hx rfl (hb hby at_31) ?_
    exact kk)
  obtain ⟨cl34, Ar34, q34, S34, Nn34, H34, G34⟩ := V31
  have hb35 : ¬ (5 : Int32) < 0 ∧ (5 : Int32) < (12 : Int32) := ⟨by decide, by decide⟩
  have hin35 : ¬ ((5 : Int32) < 0 ∨ cl34.slots.size ≤ ((5 : Int32)).toNatClampNeg) := inb_of S34 hb35
  obtain ⟨T35, h35, X35, e35, W35, st35⟩ := stC X31 hx hZ e31 Ar34 (j := (5 : Int32)) hin35 (g := (mkF m 33 #[.val (.int p0), .val (.int p1), .unset, .unset, .unset, .unset] [(.int (14 : Int32)), (.int (5 : Int32)), (.ref b11), (.ref b11)])) rfl rfl (hb hby at_33)
  have V35 : Arv Z h35 b11 k11 .char (12 : Int32) (List.map Value.int ([(9 : Int32), (10 : Int32), (11 : Int32), (12 : Int32), (13 : Int32), (14 : Int32), (0 : Int32), (0 : Int32), (0 : Int32), (0 : Int32), (0 : Int32), (0 : Int32)] : List Int32)) (.int (0 : Int32)) := Arv.set Ar34 q34 S34 Nn34 H34 G34 (fits_nar_char _) W35 5 rfl (Nat.le_of_ble_eq_true rfl)
  have VL35 : ([(9 : Int32), (10 : Int32), (11 : Int32), (12 : Int32), (13 : Int32), (14 : Int32), (0 : Int32), (0 : Int32), (0 : Int32), (0 : Int32), (0 : Int32), (0 : Int32)] : List Int32).length = ((12 : Int32)).toNatClampNeg := rfl
  have K35 : Keep h0 h35 [] := K31.wr W35 (Or.inr sz_b11)
  have N35 := Fr.snoc X35 N31 g_b11
  have k36 := fun (t : State) (kk : Steps p.tables e below (T35.setTop (mkF m 34 #[.val (.int p0), .val (.int p1), .unset, .unset, .unset, .unset] [(.ref b11)])) t) => k33 t (st35 _ kk)
  have k37 := fun (t : State) (kk : Steps p.tables e below (T35.setTop (mkF m 40 #[.val (.int p0), .val (.int p1), .unset, .unset, .unset, .unset] [(.int (133 : Int32)), (.int (6 : Int32)), (.ref b11), (.ref b11)])) t) => k36 t (by
    show Steps p.tables e below (T35.setTop (mkF m 34 #[.val (.int p0), .val (.int p1), .unset, .unset, .unset, .unset] [(.ref b11)])) _
    refine XS.dup X35.here hx rfl (hb hby at_34) rfl rfl ?_
    show Steps p.tables e below (T35.setTop (mkF m 35 #[.val (.int p0), .val (.int p1), .unset, .unset, .unset, .unset] [(.ref b11), (.ref b11)])) _
    refine XS.bipush X35.here hx rfl (hb hby at_35) ?_
    show Steps p.tables e below (T35.setTop (mkF m 37 #[.val (.int p0), .val (.int p1), .unset, .unset, .unset, .unset] [(.int (6 : Int32)), (.ref b11), (.ref b11)])) _
    refine XS.sipush X35.here hx rfl (hb hby at_37) ?_
    exact kk)
  obtain ⟨cl38, Ar38, q38, S38, Nn38, H38, G38⟩ := V35
  have hb39 : ¬ (6 : Int32) < 0 ∧ (6 : Int32) < (12 : Int32) := ⟨by decide, by decide⟩
  have hin39 : ¬ ((6 : Int32) < 0 ∨ cl38.slots.size ≤ ((6 : Int32)).toNatClampNeg) := inb_of S38 hb39
  obtain ⟨T39, h39, X39, e39, W39, st39⟩ := stC X35 hx hZ e35 Ar38 (j := (6 : Int32)) hin39 (g := (mkF m 40 #[.val (.int p0), .val (.int p1), .unset, .unset, .unset, .unset] [(.int (133 : Int32)), (.int (6 : Int32)), (.ref b11), (.ref b11)])) rfl rfl (hb hby at_40)
  have V39 : Arv Z h39 b11 k11 .char (12 : Int32) (List.map Value.int ([(9 : Int32), (10 : Int32), (11 : Int32), (12 : Int32), (13 : Int32), (14 : Int32), (133 : Int32), (0 : Int32), (0 : Int32), (0 : Int32), (0 : Int32), (0 : Int32)] : List Int32)) (.int (0 : Int32)) := Arv.set Ar38 q38 S38 Nn38 H38 G38 (fits_nar_char _) W39 6 rfl (Nat.le_of_ble_eq_true rfl)
  have VL39 : ([(9 : Int32), (10 : Int32), (11 : Int32), (12 : Int32), (13 : Int32), (14 : Int32), (133 : Int32), (0 : Int32), (0 : Int32), (0 : Int32), (0 : Int32), (0 : Int32)] : List Int32).length = ((12 : Int32)).toNatClampNeg := rfl
  have K39 : Keep h0 h39 [] := K35.wr W39 (Or.inr sz_b11)
  have N39 := Fr.snoc X39 N35 g_b11
  have k40 := fun (t : State) (kk : Steps p.tables e below (T39.setTop (mkF m 41 #[.val (.int p0), .val (.int p1), .unset, .unset, .unset, .unset] [(.ref b11)])) t) => k37 t (st39 _ kk)
  have k41 := fun (t : State) (kk : Steps p.tables e below (T39.setTop (mkF m 47 #[.val (.int p0), .val (.int p1), .unset, .unset, .unset, .unset] [(.int (8231 : Int32)), (.int (7 : Int32)), (.ref b11), (.ref b11)])) t) => k40 t (by
    show Steps p.tables e below (T39.setTop (mkF m 41 #[.val (.int p0), .val (.int p1), .unset, .unset, .unset, .unset] [(.ref b11)])) _
    refine XS.dup X39.here hx rfl (hb hby at_41) rfl rfl ?_
    show Steps p.tables e below (T39.setTop (mkF m 42 #[.val (.int p0), .val (.int p1), .unset, .unset, .unset, .unset] [(.ref b11), (.ref b11)])) _
    refine XS.bipush X39.here hx rfl (hb hby at_42) ?_
    show Steps p.tables e below (T39.setTop (mkF m 44 #[.val (.int p0), .val (.int p1), .unset, .unset, .unset, .unset] [(.int (7 : Int32)), (.ref b11), (.ref b11)])) _
    refine XS.sipush X39.here hx rfl (hb hby at_44) ?_
    exact kk)
  obtain ⟨cl42, Ar42, q42, S42, Nn42, H42, G42⟩ := V39
  have hb43 : ¬ (7 : Int32) < 0 ∧ (7 : Int32) < (12 : Int32) := ⟨by decide, by decide⟩
  have hin43 : ¬ ((7 : Int32) < 0 ∨ cl42.slots.size ≤ ((7 : Int32)).toNatClampNeg) := inb_of S42 hb43
  obtain ⟨T43, h43, X43, e43, W43, st43⟩ := stC X39 hx hZ e39 Ar42 (j := (7 : Int32)) hin43 (g := (mkF m 47 #[.val (.int p0), .val (.int p1), .unset, .unset, .unset, .unset] [(.int (8231 : Int32)), (.int (7 : Int32)), (.ref b11), (.ref b11)])) rfl rfl (hb hby at_47)
  have V43 : Arv Z h43 b11 k11 .char (12 : Int32) (List.map Value.int ([(9 : Int32), (10 : Int32), (11 : Int32), (12 : Int32), (13 : Int32), (14 : Int32), (133 : Int32), (8231 : Int32), (0 : Int32), (0 : Int32), (0 : Int32), (0 : Int32)] : List Int32)) (.int (0 : Int32)) := Arv.set Ar42 q42 S42 Nn42 H42 G42 (fits_nar_char _) W43 7 rfl (Nat.le_of_ble_eq_true rfl)
  have VL43 : ([(9 : Int32), (10 : Int32), (11 : Int32), (12 : Int32), (13 : Int32), (14 : Int32), (133 : Int32), (8231 : Int32), (0 : Int32), (0 : Int32), (0 : Int32), (0 : Int32)] : List Int32).length = ((12 : Int32)).toNatClampNeg := rfl
  have K43 : Keep h0 h43 [] := K39.wr W43 (Or.inr sz_b11)
  have N43 := Fr.snoc X43 N39 g_b11
  have k44 := fun (t : State) (kk : Steps p.tables e below (T43.setTop (mkF m 48 #[.val (.int p0), .val (.int p1), .unset, .unset, .unset, .unset] [(.ref b11)])) t) => k41 t (st43 _ kk)
  have k45 := fun (t : State) (kk : Steps p.tables e below (T43.setTop (mkF m 54 #[.val (.int p0), .val (.int p1), .unset, .unset, .unset, .unset] [(.int (8232 : Int32)), (.int (8 : Int32)), (.ref b11), (.ref b11)])) t) => k44 t (by
    show Steps p.tables e below (T43.setTop (mkF m 48 #[.val (.int p0), .val (.int p1), .unset, .unset, .unset, .unset] [(.ref b11)])) _
    refine XS.dup X43.here hx rfl (hb hby at_48) rfl rfl ?_
    show Steps p.tables e below (T43.setTop (mkF m 49 #[.val (.int p0), .val (.int p1), .unset, .unset, .unset, .unset] [(.ref b11), (.ref b11)])) _
    refine XS.bipush X43.here hx rfl (hb hby at_49) ?_
    show Steps p.tables e below (T43.setTop (mkF m 51 #[.val (.int p0), .val (.int p1), .unset, .unset, .unset, .unset] [(.int (8 : Int32)), (.ref b11), (.ref b11)])) _
    refine XS.sipush X43.here hx rfl (hb hby at_51) ?_
    exact kk)
  obtain ⟨cl46, Ar46, q46, S46, Nn46, H46, G46⟩ := V43
  have hb47 : ¬ (8 : Int32) < 0 ∧ (8 : Int32) < (12 : Int32) := ⟨by decide, by decide⟩
  have hin47 : ¬ ((8 : Int32) < 0 ∨ cl46.slots.size ≤ ((8 : Int32)).toNatClampNeg) := inb_of S46 hb47
  obtain ⟨T47, h47, X47, e47, W47, st47⟩ := stC X43 hx hZ e43 Ar46 (j := (8 : Int32)) hin47 (g := (mkF m 54 #[.val (.int p0), .val (.int p1), .unset, .unset, .unset, .unset] [(.int (8232 : Int32)), (.int (8 : Int32)), (.ref b11), (.ref b11)])) rfl rfl (hb hby at_54)
  have V47 : Arv Z h47 b11 k11 .char (12 : Int32) (List.map Value.int ([(9 : Int32), (10 : Int32), (11 : Int32), (12 : Int32), (13 : Int32), (14 : Int32), (133 : Int32), (8231 : Int32), (8232 : Int32), (0 : Int32), (0 : Int32), (0 : Int32)] : List Int32)) (.int (0 : Int32)) := Arv.set Ar46 q46 S46 Nn46 H46 G46 (fits_nar_char _) W47 8 rfl (Nat.le_of_ble_eq_true rfl)
  have VL47 : ([(9 : Int32), (10 : Int32), (11 : Int32), (12 : Int32), (13 : Int32), (14 : Int32), (133 : Int32), (8231 : Int32), (8232 : Int32), (0 : Int32), (0 : Int32), (0 : Int32)] : List Int32).length = ((12 : Int32)).toNatClampNeg := rfl
  have K47 : Keep h0 h47 [] := K43.wr W47 (Or.inr sz_b11)
  have N47 := Fr.snoc X47 N43 g_b11
  have k48 := fun (t : State) (kk : Steps p.tables e below (T47.setTop (mkF m 55 #[.val (.int p0), .val (.int p1), .unset, .unset, .unset, .unset] [(.ref b11)])) t) => k45 t (st47 _ kk)
  have k49 := fun (t : State) (kk : Steps p.tables e below (T47.setTop (mkF m 61 #[.val (.int p0), .val (.int p1), .unset, .unset, .unset, .unset] [(.int (8233 : Int32)), (.int (9 : Int32)), (.ref b11), (.ref b11)])) t) => k48 t (by
    show Steps p.tables e below (T47.setTop (mkF m 55 #[.val (.int p0), .val (.int p1), .unset, .unset, .unset, .unset] [(.ref b11)])) _
    refine XS.dup X47.here hx rfl (hb hby at_55) rfl rfl ?_
    show Steps p.tables e below (T47.setTop (mkF m 56 #[.val (.int p0), .val (.int p1), .unset, .unset, .unset, .unset] [(.ref b11), (.ref b11)])) _
    refine XS.bipush X47.here hx rfl (hb hby at_56) ?_
    show Steps p.tables e below (T47.setTop (mkF m 58 #[.val (.int p0), .val (.int p1), .unset, .unset, .unset, .unset] [(.int (9 : Int32)), (.ref b11), (.ref b11)])) _
    refine XS.sipush X47.here hx rfl (hb hby at_58) ?_
    exact kk)
  obtain ⟨cl50, Ar50, q50, S50, Nn50, H50, G50⟩ := V47
  have hb51 : ¬ (9 : Int32) < 0 ∧ (9 : Int32) < (12 : Int32) := ⟨by decide, by decide⟩
  have hin51 : ¬ ((9 : Int32) < 0 ∨ cl50.slots.size ≤ ((9 : Int32)).toNatClampNeg) := inb_of S50 hb51
  obtain ⟨T51, h51, X51, e51, W51, st51⟩ := stC X47 hx hZ e47 Ar50 (j := (9 : Int32)) hin51 (g := (mkF m 61 #[.val (.int p0), .val (.int p1), .unset, .unset, .unset, .unset] [(.int (8233 : Int32)), (.int (9 : Int32)), (.ref b11), (.ref b11)])) rfl rfl (hb hby at_61)
  have V51 : Arv Z h51 b11 k11 .char (12 : Int32) (List.map Value.int ([(9 : Int32), (10 : Int32), (11 : Int32), (12 : Int32), (13 : Int32), (14 : Int32), (133 : Int32), (8231 : Int32), (8232 : Int32), (8233 : Int32), (0 : Int32), (0 : Int32)] : List Int32)) (.int (0 : Int32)) := Arv.set Ar50 q50 S50 Nn50 H50 G50 (fits_nar_char _) W51 9 rfl (Nat.le_of_ble_eq_true rfl)
  have VL51 : ([(9 : Int32), (10 : Int32), (11 : Int32), (12 : Int32), (13 : Int32), (14 : Int32), (133 : Int32), (8231 : Int32), (8232 : Int32), (8233 : Int32), (0 : Int32), (0 : Int32)] : List Int32).length = ((12 : Int32)).toNatClampNeg := rfl
  have K51 : Keep h0 h51 [] := K47.wr W51 (Or.inr sz_b11)
  have N51 := Fr.snoc X51 N47 g_b11
  have k52 := fun (t : State) (kk : Steps p.tables e below (T51.setTop (mkF m 62 #[.val (.int p0), .val (.int p1), .unset, .unset, .unset, .unset] [(.ref b11)])) t) => k49 t (st51 _ kk)
  have k53 := fun (t : State) (kk : Steps p.tables e below (T51.setTop (mkF m 68 #[.val (.int p0), .val (.int p1), .unset, .unset, .unset, .unset] [(.int (8234 : Int32)), (.int (10 : Int32)), (.ref b11), (.ref b11)])) t) => k52 t (by
    show Steps p.tables e below (T51.setTop (mkF m 62 #[.val (.int p0), .val (.int p1), .unset, .unset, .unset, .unset] [(.ref b11)])) _
    refine XS.dup X51.here hx rfl (hb hby at_62) rfl rfl ?_
    show Steps p.tables e below (T51.setTop (mkF m 63 #[.val (.int p0), .val (.int p1), .unset, .unset, .unset, .unset] [(.ref b11), (.ref b11)])) _
    refine XS.bipush X51.here hx rfl (hb hby at_63) ?_
    show Steps p.tables e below (T51.setTop (mkF m 65 #[.val (.int p0), .val (.int p1), .unset, .unset, .unset, .unset] [(.int (10 : Int32)), (.ref b11), (.ref b11)])) _
    refine XS.sipush X51.here hx rfl (hb hby at_65) ?_
    exact kk)
  obtain ⟨cl54, Ar54, q54, S54, Nn54, H54, G54⟩ := V51
  have hb55 : ¬ (10 : Int32) < 0 ∧ (10 : Int32) < (12 : Int32) := ⟨by decide, by decide⟩
  have hin55 : ¬ ((10 : Int32) < 0 ∨ cl54.slots.size ≤ ((10 : Int32)).toNatClampNeg) := inb_of S54 hb55
  obtain ⟨T55, h55, X55, e55, W55, st55⟩ := stC X51 hx hZ e51 Ar54 (j := (10 : Int32)) hin55 (g := (mkF m 68 #[.val (.int p0), .val (.int p1), .unset, .unset, .unset, .unset] [(.int (8234 : Int32)), (.int (10 : Int32)), (.ref b11), (.ref b11)])) rfl rfl (hb hby at_68)
  have V55 : Arv Z h55 b11 k11 .char (12 : Int32) (List.map Value.int ([(9 : Int32), (10 : Int32), (11 : Int32), (12 : Int32), (13 : Int32), (14 : Int32), (133 : Int32), (8231 : Int32), (8232 : Int32), (8233 : Int32), (8234 : Int32), (0 : Int32)] : List Int32)) (.int (0 : Int32)) := Arv.set Ar54 q54 S54 Nn54 H54 G54 (fits_nar_char _) W55 10 rfl (Nat.le_of_ble_eq_true rfl)
  have VL55 : ([(9 : Int32), (10 : Int32), (11 : Int32), (12 : Int32), (13 : Int32), (14 : Int32), (133 : Int32), (8231 : Int32), (8232 : Int32), (8233 : Int32), (8234 : Int32), (0 : Int32)] : List Int32).length = ((12 : Int32)).toNatClampNeg := rfl
  have K55 : Keep h0 h55 [] := K51.wr W55 (Or.inr sz_b11)
  have N55 := Fr.snoc X55 N51 g_b11
  have k56 := fun (t : State) (kk : Steps p.tables e below (T55.setTop (mkF m 69 #[.val (.int p0), .val (.int p1), .unset, .unset, .unset, .unset] [(.ref b11)])) t) => k53 t (st55 _ kk)
  have k57 := fun (t : State) (kk : Steps p.tables e below (T55.setTop (mkF m 74 #[.val (.int p0), .val (.int p1), .unset, .unset, .unset, .unset] [(.int (65535 : Int32)), (.int (11 : Int32)), (.ref b11), (.ref b11)])) t) => k56 t (by
    show Steps p.tables e below (T55.setTop (mkF m 69 #[.val (.int p0), .val (.int p1), .unset, .unset, .unset, .unset] [(.ref b11)])) _
    refine XS.dup X55.here hx rfl (hb hby at_69) rfl rfl ?_
    show Steps p.tables e below (T55.setTop (mkF m 70 #[.val (.int p0), .val (.int p1), .unset, .unset, .unset, .unset] [(.ref b11), (.ref b11)])) _
    refine XS.bipush X55.here hx rfl (hb hby at_70) ?_
    show Steps p.tables e below (T55.setTop (mkF m 72 #[.val (.int p0), .val (.int p1), .unset, .unset, .unset, .unset] [(.int (11 : Int32)), (.ref b11), (.ref b11)])) _
    refine X55.ldcInt hx hown (mvT hZ (hw _ (List.mem_of_getElem? (i := 1) rfl))) (g := (mkF m 72 #[.val (.int p0), .val (.int p1), .unset, .unset, .unset, .unset] [(.int (11 : Int32)), (.ref b11), (.ref b11)])) rfl (hb hby at_72) _ ?_
    exact kk)
  obtain ⟨cl58, Ar58, q58, S58, Nn58, H58, G58⟩ := V55
  have hb59 : ¬ (11 : Int32) < 0 ∧ (11 : Int32) < (12 : Int32) := ⟨by decide, by decide⟩
  have hin59 : ¬ ((11 : Int32) < 0 ∨ cl58.slots.size ≤ ((11 : Int32)).toNatClampNeg) := inb_of S58 hb59
  obtain ⟨T59, h59, X59, e59, W59, st59⟩ := stC X55 hx hZ e55 Ar58 (j := (11 : Int32)) hin59 (g := (mkF m 74 #[.val (.int p0), .val (.int p1), .unset, .unset, .unset, .unset] [(.int (65535 : Int32)), (.int (11 : Int32)), (.ref b11), (.ref b11)])) rfl rfl (hb hby at_74)
  have V59 : Arv Z h59 b11 k11 .char (12 : Int32) (List.map Value.int ([(9 : Int32), (10 : Int32), (11 : Int32), (12 : Int32), (13 : Int32), (14 : Int32), (133 : Int32), (8231 : Int32), (8232 : Int32), (8233 : Int32), (8234 : Int32), (65535 : Int32)] : List Int32)) (.int (0 : Int32)) := Arv.set Ar58 q58 S58 Nn58 H58 G58 (fits_nar_char _) W59 11 rfl (Nat.le_of_ble_eq_true rfl)
  have VL59 : ([(9 : Int32), (10 : Int32), (11 : Int32), (12 : Int32), (13 : Int32), (14 : Int32), (133 : Int32), (8231 : Int32), (8232 : Int32), (8233 : Int32), (8234 : Int32), (65535 : Int32)] : List Int32).length = ((12 : Int32)).toNatClampNeg := rfl
  have K59 : Keep h0 h59 [] := K55.wr W59 (Or.inr sz_b11)
  have N59 := Fr.snoc X59 N55 g_b11
  have k60 := fun (t : State) (kk : Steps p.tables e below (T59.setTop (mkF m 75 #[.val (.int p0), .val (.int p1), .unset, .unset, .unset, .unset] [(.ref b11)])) t) => k57 t (st59 _ kk)
  have k61 := fun (t : State) (kk : Steps p.tables e below (T59.setTop (mkF m 84 #[.val (.int p0), .val (.int p1), .val (.ref b11), .val (.int (p1 &&& (15 : Int32))), .unset, .unset] [(.int (12 : Int32)), (.int (p1 &&& (15 : Int32)))])) t) => k60 t (by
    show Steps p.tables e below (T59.setTop (mkF m 75 #[.val (.int p0), .val (.int p1), .unset, .unset, .unset, .unset] [(.ref b11)])) _
    refine XS.astoreN X59.here hx rfl (hb hby at_75) rfl rfl (l' := #[.val (.int p0), .val (.int p1), .val (.ref b11), .unset, .unset, .unset]) rfl ?_
    show Steps p.tables e below (T59.setTop (mkF m 76 #[.val (.int p0), .val (.int p1), .val (.ref b11), .unset, .unset, .unset] [])) _
    refine XS.iloadN X59.here hx rfl (hb hby at_76) rfl ?_
    show Steps p.tables e below (T59.setTop (mkF m 77 #[.val (.int p0), .val (.int p1), .val (.ref b11), .unset, .unset, .unset] [(.int p1)])) _
    refine XS.bipush X59.here hx rfl (hb hby at_77) ?_
    show Steps p.tables e below (T59.setTop (mkF m 79 #[.val (.int p0), .val (.int p1), .val (.ref b11), .unset, .unset, .unset] [(.int (15 : Int32)), (.int p1)])) _
    refine XS.iand X59.here hx rfl (hb hby at_79) rfl ?_
    show Steps p.tables e below (T59.setTop (mkF m 80 #[.val (.int p0), .val (.int p1), .val (.ref b11), .unset, .unset, .unset] [(.int (p1 &&& (15 : Int32)))])) _
    refine XS.istoreN X59.here hx rfl (hb hby at_80) rfl (l' := #[.val (.int p0), .val (.int p1), .val (.ref b11), .val (.int (p1 &&& (15 : Int32))), .unset, .unset]) rfl ?_
    show Steps p.tables e below (T59.setTop (mkF m 81 #[.val (.int p0), .val (.int p1), .val (.ref b11), .val (.int (p1 &&& (15 : Int32))), .unset, .unset] [])) _
    refine XS.iloadN X59.here hx rfl (hb hby at_81) rfl ?_
    show Steps p.tables e below (T59.setTop (mkF m 82 #[.val (.int p0), .val (.int p1), .val (.ref b11), .val (.int (p1 &&& (15 : Int32))), .unset, .unset] [(.int (p1 &&& (15 : Int32)))])) _
    refine XS.bipush X59.here hx rfl (hb hby at_82) ?_
    exact kk)
  by_cases hc84_62 : (p1 &&& (15 : Int32)) < (12 : Int32)
  · have k63 := fun (t : State) (kk : Steps p.tables e below (T59.setTop (mkF m 89 #[.val (.int p0), .val (.int p1), .val (.ref b11), .val (.int (p1 &&& (15 : Int32))), .unset, .unset] [(.int (p1 &&& (15 : Int32))), (.ref b11)])) t) => k61 t (by
      show Steps p.tables e below (T59.setTop (mkF m 84 #[.val (.int p0), .val (.int p1), .val (.ref b11), .val (.int (p1 &&& (15 : Int32))), .unset, .unset] [(.int (12 : Int32)), (.int (p1 &&& (15 : Int32)))])) _
      refine XS.icmpNo X59.here hx rfl (hb hby at_84) rfl (tlt hc84_62).2.1 ?_
      show Steps p.tables e below (T59.setTop (mkF m 87 #[.val (.int p0), .val (.int p1), .val (.ref b11), .val (.int (p1 &&& (15 : Int32))), .unset, .unset] [])) _
      refine XS.aloadN X59.here hx rfl (hb hby at_87) rfl rfl ?_
      show Steps p.tables e below (T59.setTop (mkF m 88 #[.val (.int p0), .val (.int p1), .val (.ref b11), .val (.int (p1 &&& (15 : Int32))), .unset, .unset] [(.ref b11)])) _
      refine XS.iloadN X59.here hx rfl (hb hby at_88) rfl ?_
      exact kk)
    obtain ⟨cl64, Ar64, q64, S64, Nn64, H64, G64⟩ := V59
    have hb65 : ¬ (p1 &&& (15 : Int32)) < 0 ∧ (p1 &&& (15 : Int32)) < (12 : Int32) := ⟨own_nn p1, hc84_62⟩
    have hin65 : ¬ ((p1 &&& (15 : Int32)) < 0 ∨ cl64.slots.size ≤ ((p1 &&& (15 : Int32))).toNatClampNeg) := inb_of S64 hb65
    have hat65 : cl64.slots[((p1 &&& (15 : Int32))).toNatClampNeg]? = some (.int (v0_89_at p1)) := Has.at H64 hin65 (own_getD_int _ _ _)
    have st65 := X59.caload hx (j := (p1 &&& (15 : Int32))) (v := (.int (v0_89_at p1))) (by rw [e59]; exact Ar64.1) (State.isArrayOf_alike hZ.alike Ar64.2.1) Ar64.2.2 hin65 hat65 (g := (mkF m 89 #[.val (.int p0), .val (.int p1), .val (.ref b11), .val (.int (p1 &&& (15 : Int32))), .unset, .unset] [(.int (p1 &&& (15 : Int32))), (.ref b11)])) rfl rfl (hb hby at_89)
    have k66 := fun (t : State) (kk : Steps p.tables e below (T59.setTop (mkF m 90 #[.val (.int p0), .val (.int p1), .val (.ref b11), .val (.int (p1 &&& (15 : Int32))), .unset, .unset] [(.int (v0_89_at p1))])) t) => k63 t (st65 _ kk)
    have k79 := fun (t : State) (kk : Steps p.tables e below (T59.setTop (mkF m 139 #[.val (.int p0), .val (.int p1), .val (.ref b11), .val (.int (p1 &&& (15 : Int32))), .val (.int (v0_89_at p1)), .val (.int (v0_105_s0 p1))] [(.int (v0_89_at p1))])) t) => k66 t (by
      show Steps p.tables e below (T59.setTop (mkF m 90 #[.val (.int p0), .val (.int p1), .val (.ref b11), .val (.int (p1 &&& (15 : Int32))), .unset, .unset] [(.int (v0_89_at p1))])) _
      refine XS.goto X59.here hx rfl (pc0 := 90) (pc' := 98) rfl (hb hby at_90) (by decide) (by decide) ?_
      show Steps p.tables e below (T59.setTop (mkF m 98 #[.val (.int p0), .val (.int p1), .val (.ref b11), .val (.int (p1 &&& (15 : Int32))), .unset, .unset] [(.int (v0_89_at p1))])) _
      refine XS.istore X59.here hx rfl (hb hby at_98) rfl (l' := #[.val (.int p0), .val (.int p1), .val (.ref b11), .val (.int (p1 &&& (15 : Int32))), .val (.int (v0_89_at p1)), .unset]) rfl ?_
      show Steps p.tables e below (T59.setTop (mkF m 100 #[.val (.int p0), .val (.int p1), .val (.ref b11), .val (.int (p1 &&& (15 : Int32))), .val (.int (v0_89_at p1)), .unset] [])) _
      refine XS.iload X59.here hx rfl (hb hby at_100) rfl ?_
      show Steps p.tables e below (T59.setTop (mkF m 102 #[.val (.int p0), .val (.int p1), .val (.ref b11), .val (.int (p1 &&& (15 : Int32))), .val (.int (v0_89_at p1)), .unset] [(.int (v0_89_at p1))])) _
      refine XS.sipush X59.here hx rfl (hb hby at_102) ?_
      suffices k78 : Steps p.tables e below (T59.setTop (mkF m 135 #[.val (.int p0), .val (.int p1), .val (.ref b11), .val (.int (p1 &&& (15 : Int32))), .val (.int (v0_89_at p1)), .unset] [(.int (v0_105_s0 p1))])) t by
        by_cases hc105_67 : (v0_89_at p1) < (8232 : Int32)
        · rw [(show (v0_105_s0 p1) = (v0_120_s0 p1) from if_pos hc105_67)] at k78
          show Steps p.tables e below (T59.setTop (mkF m 105 #[.val (.int p0), .val (.int p1), .val (.ref b11), .val (.int (p1 &&& (15 : Int32))), .val (.int (v0_89_at p1)), .unset] [(.int (8232 : Int32)), (.int (v0_89_at p1))])) _
          refine XS.icmpYes X59.here hx rfl (pc0 := 105) (pc' := 116) rfl (hb hby at_105) rfl (tlt hc105_67).1 (by decide) (by decide) ?_
          show Steps p.tables e below (T59.setTop (mkF m 116 #[.val (.int p0), .val (.int p1), .val (.ref b11), .val (.int (p1 &&& (15 : Int32))), .val (.int (v0_89_at p1)), .unset] [])) _
          refine XS.iload X59.here hx rfl (hb hby at_116) rfl ?_
          show Steps p.tables e below (T59.setTop (mkF m 118 #[.val (.int p0), .val (.int p1), .val (.ref b11), .val (.int (p1 &&& (15 : Int32))), .val (.int (v0_89_at p1)), .unset] [(.int (v0_89_at p1))])) _
          refine XS.bipush X59.here hx rfl (hb hby at_118) ?_
          suffices k71 : Steps p.tables e below (T59.setTop (mkF m 135 #[.val (.int p0), .val (.int p1), .val (.ref b11), .val (.int (p1 &&& (15 : Int32))), .val (.int (v0_89_at p1)), .unset] [(.int (v0_120_s0 p1))])) t by
            by_cases hc120_68 : (v0_89_at p1) = (10 : Int32)
            · rw [(show (v0_120_s0 p1) = (1 : Int32) from if_pos hc120_68)] at k71
              show Steps p.tables e below (T59.setTop (mkF m 120 #[.val (.int p0), .val (.int p1), .val (.ref b11), .val (.int (p1 &&& (15 : Int32))), .val (.int (v0_89_at p1)), .unset] [(.int (10 : Int32)), (.int (v0_89_at p1))])) _
              refine XS.icmpYes X59.here hx rfl (pc0 := 120) (pc' := 130) rfl (hb hby at_120) rfl (teq hc120_68).1 (by decide) (by decide) ?_
              show Steps p.tables e below (T59.setTop (mkF m 130 #[.val (.int p0), .val (.int p1), .val (.ref b11), .val (.int (p1 &&& (15 : Int32))), .val (.int (v0_89_at p1)), .unset] [])) _
              refine XS.iconst X59.here hx rfl (hb hby at_130) ?_
              show Steps p.tables e below (T59.setTop (mkF m 131 #[.val (.int p0), .val (.int p1), .val (.ref b11), .val (.int (p1 &&& (15 : Int32))), .val (.int (v0_89_at p1)), .unset] [(.int (1 : Int32))])) _
              refine XS.goto X59.here hx rfl (pc0 := 131) (pc' := 135) rfl (hb hby at_131) (by decide) (by decide) ?_
              exact k71
            · rw [(show (v0_120_s0 p1) = (v0_127_s0 p1) from if_neg hc120_68)] at k71
              show Steps p.tables e below (T59.setTop (mkF m 120 #[.val (.int p0), .val (.int p1), .val (.ref b11), .val (.int (p1 &&& (15 : Int32))), .val (.int (v0_89_at p1)), .unset] [(.int (10 : Int32)), (.int (v0_89_at p1))])) _
              refine XS.icmpNo X59.here hx rfl (hb hby at_120) rfl (feq hc120_68).1 ?_
              show Steps p.tables e below (T59.setTop (mkF m 123 #[.val (.int p0), .val (.int p1), .val (.ref b11), .val (.int (p1 &&& (15 : Int32))), .val (.int (v0_89_at p1)), .unset] [])) _
              refine XS.iload X59.here hx rfl (hb hby at_123) rfl ?_
              show Steps p.tables e below (T59.setTop (mkF m 125 #[.val (.int p0), .val (.int p1), .val (.ref b11), .val (.int (p1 &&& (15 : Int32))), .val (.int (v0_89_at p1)), .unset] [(.int (v0_89_at p1))])) _
              refine XS.bipush X59.here hx rfl (hb hby at_125) ?_
              suffices k70 : Steps p.tables e below (T59.setTop (mkF m 135 #[.val (.int p0), .val (.int p1), .val (.ref b11), .val (.int (p1 &&& (15 : Int32))), .val (.int (v0_89_at p1)), .unset] [(.int (v0_127_s0 p1))])) t by
                by_cases hc127_69 : (v0_89_at p1) = (13 : Int32)
                · rw [(show (v0_127_s0 p1) = (1 : Int32) from if_pos hc127_69)] at k70
                  show Steps p.tables e below (T59.setTop (mkF m 127 #[.val (.int p0), .val (.int p1), .val (.ref b11), .val (.int (p1 &&& (15 : Int32))), .val (.int (v0_89_at p1)), .unset] [(.int (13 : Int32)), (.int (v0_89_at p1))])) _
                  refine XS.icmpNo X59.here hx rfl (hb hby at_127) rfl (teq hc127_69).2 ?_
                  show Steps p.tables e below (T59.setTop (mkF m 130 #[.val (.int p0), .val (.int p1), .val (.ref b11), .val (.int (p1 &&& (15 : Int32))), .val (.int (v0_89_at p1)), .unset] [])) _
                  refine XS.iconst X59.here hx rfl (hb hby at_130) ?_
                  show Steps p.tables e below (T59.setTop (mkF m 131 #[.val (.int p0), .val (.int p1), .val (.ref b11), .val (.int (p1 &&& (15 : Int32))), .val (.int (v0_89_at p1)), .unset] [(.int (1 : Int32))])) _
                  refine XS.goto X59.here hx rfl (pc0 := 131) (pc' := 135) rfl (hb hby at_131) (by decide) (by decide) ?_
                  exact k70
                · rw [(show (v0_127_s0 p1) = (0 : Int32) from if_neg hc127_69)] at k70
                  show Steps p.tables e below (T59.setTop (mkF m 127 #[.val (.int p0), .val (.int p1), .val (.ref b11), .val (.int (p1 &&& (15 : Int32))), .val (.int (v0_89_at p1)), .unset] [(.int (13 : Int32)), (.int (v0_89_at p1))])) _
                  refine XS.icmpYes X59.here hx rfl (pc0 := 127) (pc' := 134) rfl (hb hby at_127) rfl (feq hc127_69).2 (by decide) (by decide) ?_
                  show Steps p.tables e below (T59.setTop (mkF m 134 #[.val (.int p0), .val (.int p1), .val (.ref b11), .val (.int (p1 &&& (15 : Int32))), .val (.int (v0_89_at p1)), .unset] [])) _
                  refine XS.iconst X59.here hx rfl (hb hby at_134) ?_
                  exact k70
              exact k71
          exact k78
        · rw [(show (v0_105_s0 p1) = (v0_113_s0 p1) from if_neg hc105_67)] at k78
          show Steps p.tables e below (T59.setTop (mkF m 105 #[.val (.int p0), .val (.int p1), .val (.ref b11), .val (.int (p1 &&& (15 : Int32))), .val (.int (v0_89_at p1)), .unset] [(.int (8232 : Int32)), (.int (v0_89_at p1))])) _
          refine XS.icmpNo X59.here hx rfl (hb hby at_105) rfl (flt hc105_67).1 ?_
          show Steps p.tables e below (T59.setTop (mkF m 108 #[.val (.int p0), .val (.int p1), .val (.ref b11), .val (.int (p1 &&& (15 : Int32))), .val (.int (v0_89_at p1)), .unset] [])) _
          refine XS.iload X59.here hx rfl (hb hby at_108) rfl ?_
          show Steps p.tables e below (T59.setTop (mkF m 110 #[.val (.int p0), .val (.int p1), .val (.ref b11), .val (.int (p1 &&& (15 : Int32))), .val (.int (v0_89_at p1)), .unset] [(.int (v0_89_at p1))])) _
          refine XS.sipush X59.here hx rfl (hb hby at_110) ?_
          suffices k77 : Steps p.tables e below (T59.setTop (mkF m 135 #[.val (.int p0), .val (.int p1), .val (.ref b11), .val (.int (p1 &&& (15 : Int32))), .val (.int (v0_89_at p1)), .unset] [(.int (v0_113_s0 p1))])) t by
            by_cases hc113_72 : (8233 : Int32) < (v0_89_at p1)
            · rw [(show (v0_113_s0 p1) = (v0_120_s0 p1) from if_pos hc113_72)] at k77
              show Steps p.tables e below (T59.setTop (mkF m 113 #[.val (.int p0), .val (.int p1), .val (.ref b11), .val (.int (p1 &&& (15 : Int32))), .val (.int (v0_89_at p1)), .unset] [(.int (8233 : Int32)), (.int (v0_89_at p1))])) _
              refine XS.icmpNo X59.here hx rfl (hb hby at_113) rfl (tlt hc113_72).2.2.2 ?_
              show Steps p.tables e below (T59.setTop (mkF m 116 #[.val (.int p0), .val (.int p1), .val (.ref b11), .val (.int (p1 &&& (15 : Int32))), .val (.int (v0_89_at p1)), .unset] [])) _
              refine XS.iload X59.here hx rfl (hb hby at_116) rfl ?_
              show Steps p.tables e below (T59.setTop (mkF m 118 #[.val (.int p0), .val (.int p1), .val (.ref b11), .val (.int (p1 &&& (15 : Int32))), .val (.int (v0_89_at p1)), .unset] [(.int (v0_89_at p1))])) _
              refine XS.bipush X59.here hx rfl (hb hby at_118) ?_
              suffices k76 : Steps p.tables e below (T59.setTop (mkF m 135 #[.val (.int p0), .val (.int p1), .val (.ref b11), .val (.int (p1 &&& (15 : Int32))), .val (.int (v0_89_at p1)), .unset] [(.int (v0_120_s0 p1))])) t by
                by_cases hc120_73 : (v0_89_at p1) = (10 : Int32)
                · rw [(show (v0_120_s0 p1) = (1 : Int32) from if_pos hc120_73)] at k76
                  show Steps p.tables e below (T59.setTop (mkF m 120 #[.val (.int p0), .val (.int p1), .val (.ref b11), .val (.int (p1 &&& (15 : Int32))), .val (.int (v0_89_at p1)), .unset] [(.int (10 : Int32)), (.int (v0_89_at p1))])) _
                  refine XS.icmpYes X59.here hx rfl (pc0 := 120) (pc' := 130) rfl (hb hby at_120) rfl (teq hc120_73).1 (by decide) (by decide) ?_
                  show Steps p.tables e below (T59.setTop (mkF m 130 #[.val (.int p0), .val (.int p1), .val (.ref b11), .val (.int (p1 &&& (15 : Int32))), .val (.int (v0_89_at p1)), .unset] [])) _
                  refine XS.iconst X59.here hx rfl (hb hby at_130) ?_
                  show Steps p.tables e below (T59.setTop (mkF m 131 #[.val (.int p0), .val (.int p1), .val (.ref b11), .val (.int (p1 &&& (15 : Int32))), .val (.int (v0_89_at p1)), .unset] [(.int (1 : Int32))])) _
                  refine XS.goto X59.here hx rfl (pc0 := 131) (pc' := 135) rfl (hb hby at_131) (by decide) (by decide) ?_
                  exact k76
                · rw [(show (v0_120_s0 p1) = (v0_127_s0 p1) from if_neg hc120_73)] at k76
                  show Steps p.tables e below (T59.setTop (mkF m 120 #[.val (.int p0), .val (.int p1), .val (.ref b11), .val (.int (p1 &&& (15 : Int32))), .val (.int (v0_89_at p1)), .unset] [(.int (10 : Int32)), (.int (v0_89_at p1))])) _
                  refine XS.icmpNo X59.here hx rfl (hb hby at_120) rfl (feq hc120_73).1 ?_
                  show Steps p.tables e below (T59.setTop (mkF m 123 #[.val (.int p0), .val (.int p1), .val (.ref b11), .val (.int (p1 &&& (15 : Int32))), .val (.int (v0_89_at p1)), .unset] [])) _
                  refine XS.iload X59.here hx rfl (hb hby at_123) rfl ?_
                  show Steps p.tables e below (T59.setTop (mkF m 125 #[.val (.int p0), .val (.int p1), .val (.ref b11), .val (.int (p1 &&& (15 : Int32))), .val (.int (v0_89_at p1)), .unset] [(.int (v0_89_at p1))])) _
                  refine XS.bipush X59.here hx rfl (hb hby at_125) ?_
                  suffices k75 : Steps p.tables e below (T59.setTop (mkF m 135 #[.val (.int p0), .val (.int p1), .val (.ref b11), .val (.int (p1 &&& (15 : Int32))), .val (.int (v0_89_at p1)), .unset] [(.int (v0_127_s0 p1))])) t by
                    by_cases hc127_74 : (v0_89_at p1) = (13 : Int32)
                    · rw [(show (v0_127_s0 p1) = (1 : Int32) from if_pos hc127_74)] at k75
                      show Steps p.tables e below (T59.setTop (mkF m 127 #[.val (.int p0), .val (.int p1), .val (.ref b11), .val (.int (p1 &&& (15 : Int32))), .val (.int (v0_89_at p1)), .unset] [(.int (13 : Int32)), (.int (v0_89_at p1))])) _
                      refine XS.icmpNo X59.here hx rfl (hb hby at_127) rfl (teq hc127_74).2 ?_
                      show Steps p.tables e below (T59.setTop (mkF m 130 #[.val (.int p0), .val (.int p1), .val (.ref b11), .val (.int (p1 &&& (15 : Int32))), .val (.int (v0_89_at p1)), .unset] [])) _
                      refine XS.iconst X59.here hx rfl (hb hby at_130) ?_
                      show Steps p.tables e below (T59.setTop (mkF m 131 #[.val (.int p0), .val (.int p1), .val (.ref b11), .val (.int (p1 &&& (15 : Int32))), .val (.int (v0_89_at p1)), .unset] [(.int (1 : Int32))])) _
                      refine XS.goto X59.here hx rfl (pc0 := 131) (pc' := 135) rfl (hb hby at_131) (by decide) (by decide) ?_
                      exact k75
                    · rw [(show (v0_127_s0 p1) = (0 : Int32) from if_neg hc127_74)] at k75
                      show Steps p.tables e below (T59.setTop (mkF m 127 #[.val (.int p0), .val (.int p1), .val (.ref b11), .val (.int (p1 &&& (15 : Int32))), .val (.int (v0_89_at p1)), .unset] [(.int (13 : Int32)), (.int (v0_89_at p1))])) _
                      refine XS.icmpYes X59.here hx rfl (pc0 := 127) (pc' := 134) rfl (hb hby at_127) rfl (feq hc127_74).2 (by decide) (by decide) ?_
                      show Steps p.tables e below (T59.setTop (mkF m 134 #[.val (.int p0), .val (.int p1), .val (.ref b11), .val (.int (p1 &&& (15 : Int32))), .val (.int (v0_89_at p1)), .unset] [])) _
                      refine XS.iconst X59.here hx rfl (hb hby at_134) ?_
                      exact k75
                  exact k76
              exact k77
            · rw [(show (v0_113_s0 p1) = (1 : Int32) from if_neg hc113_72)] at k77
              show Steps p.tables e below (T59.setTop (mkF m 113 #[.val (.int p0), .val (.int p1), .val (.ref b11), .val (.int (p1 &&& (15 : Int32))), .val (.int (v0_89_at p1)), .unset] [(.int (8233 : Int32)), (.int (v0_89_at p1))])) _
              refine XS.icmpYes X59.here hx rfl (pc0 := 113) (pc' := 130) rfl (hb hby at_113) rfl (flt hc113_72).2.2.2 (by decide) (by decide) ?_
              show Steps p.tables e below (T59.setTop (mkF m 130 #[.val (.int p0), .val (.int p1), .val (.ref b11), .val (.int (p1 &&& (15 : Int32))), .val (.int (v0_89_at p1)), .unset] [])) _
              refine XS.iconst X59.here hx rfl (hb hby at_130) ?_
              show Steps p.tables e below (T59.setTop (mkF m 131 #[.val (.int p0), .val (.int p1), .val (.ref b11), .val (.int (p1 &&& (15 : Int32))), .val (.int (v0_89_at p1)), .unset] [(.int (1 : Int32))])) _
              refine XS.goto X59.here hx rfl (pc0 := 131) (pc' := 135) rfl (hb hby at_131) (by decide) (by decide) ?_
              exact k77
          exact k78
      show Steps p.tables e below (T59.setTop (mkF m 135 #[.val (.int p0), .val (.int p1), .val (.ref b11), .val (.int (p1 &&& (15 : Int32))), .val (.int (v0_89_at p1)), .unset] [(.int (v0_105_s0 p1))])) _
      refine XS.istore X59.here hx rfl (hb hby at_135) rfl (l' := #[.val (.int p0), .val (.int p1), .val (.ref b11), .val (.int (p1 &&& (15 : Int32))), .val (.int (v0_89_at p1)), .val (.int (v0_105_s0 p1))]) rfl ?_
      show Steps p.tables e below (T59.setTop (mkF m 137 #[.val (.int p0), .val (.int p1), .val (.ref b11), .val (.int (p1 &&& (15 : Int32))), .val (.int (v0_89_at p1)), .val (.int (v0_105_s0 p1))] [])) _
      refine XS.iload X59.here hx rfl (hb hby at_137) rfl ?_
      exact kk)
    have Zz80 : n0 ≤ h59.size := (Nat.le_trans Z0 K59.1)
    obtain ⟨_, _, ⟨T80, L80, k80, n80⟩, -, X80, ⟨Lc80, hQ80, l80, y80, z80⟩, st80⟩ := Jvm.LawKit.callS X59 hx (y := (⟨"com/example/protoscope/protoscope/source/LineStarts", "isTerminator", "(C)Z"⟩ : MethodName)) hown (mvT hZ (hw _ (List.mem_of_getElem? (i := 2) rfl))) (mvT hZ (hw _ (List.mem_of_getElem? (i := 3) rfl))) (mvT hZ (hw _ (List.mem_of_getElem? (i := 4) rfl))) (mvT hZ (hw _ (List.mem_of_getElem? (i := 5) rfl))) (by decide) (backOf (W := 0) (rm1 l Z a0 hw [] (v0_89_at p1) h59 n0 Zz80) hZ (hw _ (List.mem_of_getElem? (i := 5) rfl)) (hw _ (List.mem_of_getElem? (i := 4) rfl)) (by decide) (by decide)) (g := (mkF m 139 #[.val (.int p0), .val (.int p1), .val (.ref b11), .val (.int (p1 &&& (15 : Int32))), .val (.int (v0_89_at p1)), .val (.int (v0_105_s0 p1))] [(.int (v0_89_at p1))])) rfl (by rw [hml]; rfl) (argsL := [(.int (v0_89_at p1))]) (rest := []) (lenOf pd_0 rfl) rfl (by show 2 * 0 + _ ≤ _; exact Nat.le_of_eq rfl) (hb hby at_139) (fun _ _ => ⟨rfl, e59, (by decide : 1 + 0 ≤ _), (by decide : 12 + 0 ≤ _)⟩)
    dsimp only [Pt.U, Pt.locs, Pt.cells, Pt.slots] at X80 l80 y80 z80 st80 hQ80
    subst l80 y80 z80
    obtain ⟨rfl, N80q, e80⟩ := hQ80
    have N80 := Fr.app N59 N80q
    have k81 := fun (t : State) (kk : Steps p.tables e below (T80.setTop (mkF m 142 #[.val (.int p0), .val (.int p1), .val (.ref b11), .val (.int (p1 &&& (15 : Int32))), .val (.int (v0_89_at p1)), .val (.int (v0_105_s0 p1))] [(.int (nar .boolean (v1_3_s0 (v0_89_at p1))))])) t) => k79 t (st80 _ kk)
    have k84 := fun (t : State) (kk : Steps p.tables e below (T80.setTop (mkF m 152 #[.val (.int p0), .val (.int p1), .val (.ref b11), .val (.int (p1 &&& (15 : Int32))), .val (.int (v0_89_at p1)), .val (.int (v0_105_s0 p1))] [(.int (v0_144_s0 p1))])) t) => k81 t (by
      show Steps p.tables e below (T80.setTop (mkF m 142 #[.val (.int p0), .val (.int p1), .val (.ref b11), .val (.int (p1 &&& (15 : Int32))), .val (.int (v0_89_at p1)), .val (.int (v0_105_s0 p1))] [(.int (nar .boolean (v1_3_s0 (v0_89_at p1))))])) _
      refine XS.iload X80.here hx rfl (hb hby at_142) rfl ?_
      suffices k83 : Steps p.tables e below (T80.setTop (mkF m 152 #[.val (.int p0), .val (.int p1), .val (.ref b11), .val (.int (p1 &&& (15 : Int32))), .val (.int (v0_89_at p1)), .val (.int (v0_105_s0 p1))] [(.int (v0_144_s0 p1))])) t by
        by_cases hc144_82 : (nar .boolean (v1_3_s0 (v0_89_at p1))) = (v0_105_s0 p1)
        · rw [(show (v0_144_s0 p1) = (1 : Int32) from if_pos hc144_82)] at k83
          show Steps p.tables e below (T80.setTop (mkF m 144 #[.val (.int p0), .val (.int p1), .val (.ref b11), .val (.int (p1 &&& (15 : Int32))), .val (.int (v0_89_at p1)), .val (.int (v0_105_s0 p1))] [(.int (v0_105_s0 p1)), (.int (nar .boolean (v1_3_s0 (v0_89_at p1))))])) _
          refine XS.icmpNo X80.here hx rfl (hb hby at_144) rfl (teq hc144_82).2 ?_
          show Steps p.tables e below (T80.setTop (mkF m 147 #[.val (.int p0), .val (.int p1), .val (.ref b11), .val (.int (p1 &&& (15 : Int32))), .val (.int (v0_89_at p1)), .val (.int (v0_105_s0 p1))] [])) _
          refine XS.iconst X80.here hx rfl (hb hby at_147) ?_
          show Steps p.tables e below (T80.setTop (mkF m 148 #[.val (.int p0), .val (.int p1), .val (.ref b11), .val (.int (p1 &&& (15 : Int32))), .val (.int (v0_89_at p1)), .val (.int (v0_105_s0 p1))] [(.int (1 : Int32))])) _
          refine XS.goto X80.here hx rfl (pc0 := 148) (pc' := 152) rfl (hb hby at_148) (by decide) (by decide) ?_
          exact k83
        · rw [(show (v0_144_s0 p1) = (0 : Int32) from if_neg hc144_82)] at k83
          show Steps p.tables e below (T80.setTop (mkF m 144 #[.val (.int p0), .val (.int p1), .val (.ref b11), .val (.int (p1 &&& (15 : Int32))), .val (.int (v0_89_at p1)), .val (.int (v0_105_s0 p1))] [(.int (v0_105_s0 p1)), (.int (nar .boolean (v1_3_s0 (v0_89_at p1))))])) _
          refine XS.icmpYes X80.here hx rfl (pc0 := 144) (pc' := 151) rfl (hb hby at_144) rfl (feq hc144_82).2 (by decide) (by decide) ?_
          show Steps p.tables e below (T80.setTop (mkF m 151 #[.val (.int p0), .val (.int p1), .val (.ref b11), .val (.int (p1 &&& (15 : Int32))), .val (.int (v0_89_at p1)), .val (.int (v0_105_s0 p1))] [])) _
          refine XS.iconst X80.here hx rfl (hb hby at_151) ?_
          exact k83
      exact kk)
    obtain ⟨fs, hr, hrun, hended, hW, hsame⟩ := X80.leave (v := some (.int (nar .boolean (v0_144_s0 p1)))) (fun h => by rw [Bd.returns] at h; cases h)
    have hv : (v0_ret p0 p1) = (nar .boolean (v0_144_s0 p1)) := (if_pos hc84_62)
    have hone : (nar .boolean (v0_144_s0 p1)) = 1 := hv.symm.trans (own_law p0 p1)
    refine ⟨_, _, k84 _ ?_, hrun, hended, _, _, rfl, ?_, ⟨_, rfl⟩, hW, hsame.mono (by decide) (by decide)⟩
    · show Steps p.tables e below (T80.setTop (mkF m 152 #[.val (.int p0), .val (.int p1), .val (.ref b11), .val (.int (p1 &&& (15 : Int32))), .val (.int (v0_89_at p1)), .val (.int (v0_105_s0 p1))] [(.int (v0_144_s0 p1))])) _
      exact retN X80 hx (t := .boolean) Bd.returns (by simp) (hb hby at_152) hr
    · show Q0 Z p0 p1 h0 n0 _ T80.heap _
      rw [e80]
      exact ⟨congrArg (fun z => some (Value.int z)) hone, N80⟩
  · have k97 := fun (t : State) (kk : Steps p.tables e below (T59.setTop (mkF m 139 #[.val (.int p0), .val (.int p1), .val (.ref b11), .val (.int (p1 &&& (15 : Int32))), .val (.int (v0_98_l4 p0)), .val (.int (v0_105_s0_1 p0))] [(.int (v0_98_l4 p0))])) t) => k61 t (by
      show Steps p.tables e below (T59.setTop (mkF m 84 #[.val (.int p0), .val (.int p1), .val (.ref b11), .val (.int (p1 &&& (15 : Int32))), .unset, .unset] [(.int (12 : Int32)), (.int (p1 &&& (15 : Int32)))])) _
      refine XS.icmpYes X59.here hx rfl (pc0 := 84) (pc' := 93) rfl (hb hby at_84) rfl (flt hc84_62).2.1 (by decide) (by decide) ?_
      show Steps p.tables e below (T59.setTop (mkF m 93 #[.val (.int p0), .val (.int p1), .val (.ref b11), .val (.int (p1 &&& (15 : Int32))), .unset, .unset] [])) _
      refine XS.iloadN X59.here hx rfl (hb hby at_93) rfl ?_
      show Steps p.tables e below (T59.setTop (mkF m 94 #[.val (.int p0), .val (.int p1), .val (.ref b11), .val (.int (p1 &&& (15 : Int32))), .unset, .unset] [(.int p0)])) _
      refine X59.ldcInt hx hown (mvT hZ (hw _ (List.mem_of_getElem? (i := 1) rfl))) (g := (mkF m 94 #[.val (.int p0), .val (.int p1), .val (.ref b11), .val (.int (p1 &&& (15 : Int32))), .unset, .unset] [(.int p0)])) rfl (hb hby at_94) _ ?_
      show Steps p.tables e below (T59.setTop (mkF m 96 #[.val (.int p0), .val (.int p1), .val (.ref b11), .val (.int (p1 &&& (15 : Int32))), .unset, .unset] [(.int (65535 : Int32)), (.int p0)])) _
      refine XS.iand X59.here hx rfl (hb hby at_96) rfl ?_
      show Steps p.tables e below (T59.setTop (mkF m 97 #[.val (.int p0), .val (.int p1), .val (.ref b11), .val (.int (p1 &&& (15 : Int32))), .unset, .unset] [(.int (p0 &&& (65535 : Int32)))])) _
      refine XS.i2c X59.here hx rfl (hb hby at_97) rfl ?_
      show Steps p.tables e below (T59.setTop (mkF m 98 #[.val (.int p0), .val (.int p1), .val (.ref b11), .val (.int (p1 &&& (15 : Int32))), .unset, .unset] [(.int ((p0 &&& (65535 : Int32)).toUInt32.toUInt16.toUInt32.toInt32))])) _
      refine XS.istore X59.here hx rfl (hb hby at_98) rfl (l' := #[.val (.int p0), .val (.int p1), .val (.ref b11), .val (.int (p1 &&& (15 : Int32))), .val (.int (v0_98_l4 p0)), .unset]) rfl ?_
      show Steps p.tables e below (T59.setTop (mkF m 100 #[.val (.int p0), .val (.int p1), .val (.ref b11), .val (.int (p1 &&& (15 : Int32))), .val (.int (v0_98_l4 p0)), .unset] [])) _
      refine XS.iload X59.here hx rfl (hb hby at_100) rfl ?_
      show Steps p.tables e below (T59.setTop (mkF m 102 #[.val (.int p0), .val (.int p1), .val (.ref b11), .val (.int (p1 &&& (15 : Int32))), .val (.int (v0_98_l4 p0)), .unset] [(.int (v0_98_l4 p0))])) _
      refine XS.sipush X59.here hx rfl (hb hby at_102) ?_
      suffices k96 : Steps p.tables e below (T59.setTop (mkF m 135 #[.val (.int p0), .val (.int p1), .val (.ref b11), .val (.int (p1 &&& (15 : Int32))), .val (.int (v0_98_l4 p0)), .unset] [(.int (v0_105_s0_1 p0))])) t by
        by_cases hc105_85 : (v0_98_l4 p0) < (8232 : Int32)
        · rw [(show (v0_105_s0_1 p0) = (v0_120_s0_1 p0) from if_pos hc105_85)] at k96
          show Steps p.tables e below (T59.setTop (mkF m 105 #[.val (.int p0), .val (.int p1), .val (.ref b11), .val (.int (p1 &&& (15 : Int32))), .val (.int (v0_98_l4 p0)), .unset] [(.int (8232 : Int32)), (.int (v0_98_l4 p0))])) _
          refine XS.icmpYes X59.here hx rfl (pc0 := 105) (pc' := 116) rfl (hb hby at_105) rfl (tlt hc105_85).1 (by decide) (by decide) ?_
          show Steps p.tables e below (T59.setTop (mkF m 116 #[.val (.int p0), .val (.int p1), .val (.ref b11), .val (.int (p1 &&& (15 : Int32))), .val (.int (v0_98_l4 p0)), .unset] [])) _
          refine XS.iload X59.here hx rfl (hb hby at_116) rfl ?_
          show Steps p.tables e below (T59.setTop (mkF m 118 #[.val (.int p0), .val (.int p1), .val (.ref b11), .val (.int (p1 &&& (15 : Int32))), .val (.int (v0_98_l4 p0)), .unset] [(.int (v0_98_l4 p0))])) _
          refine XS.bipush X59.here hx rfl (hb hby at_118) ?_
          suffices k89 : Steps p.tables e below (T59.setTop (mkF m 135 #[.val (.int p0), .val (.int p1), .val (.ref b11), .val (.int (p1 &&& (15 : Int32))), .val (.int (v0_98_l4 p0)), .unset] [(.int (v0_120_s0_1 p0))])) t by
            by_cases hc120_86 : (v0_98_l4 p0) = (10 : Int32)
            · rw [(show (v0_120_s0_1 p0) = (1 : Int32) from if_pos hc120_86)] at k89
              show Steps p.tables e below (T59.setTop (mkF m 120 #[.val (.int p0), .val (.int p1), .val (.ref b11), .val (.int (p1 &&& (15 : Int32))), .val (.int (v0_98_l4 p0)), .unset] [(.int (10 : Int32)), (.int (v0_98_l4 p0))])) _
              refine XS.icmpYes X59.here hx rfl (pc0 := 120) (pc' := 130) rfl (hb hby at_120) rfl (teq hc120_86).1 (by decide) (by decide) ?_
              show Steps p.tables e below (T59.setTop (mkF m 130 #[.val (.int p0), .val (.int p1), .val (.ref b11), .val (.int (p1 &&& (15 : Int32))), .val (.int (v0_98_l4 p0)), .unset] [])) _
              refine XS.iconst X59.here hx rfl (hb hby at_130) ?_
              show Steps p.tables e below (T59.setTop (mkF m 131 #[.val (.int p0), .val (.int p1), .val (.ref b11), .val (.int (p1 &&& (15 : Int32))), .val (.int (v0_98_l4 p0)), .unset] [(.int (1 : Int32))])) _
              refine XS.goto X59.here hx rfl (pc0 := 131) (pc' := 135) rfl (hb hby at_131) (by decide) (by decide) ?_
              exact k89
            · rw [(show (v0_120_s0_1 p0) = (v0_127_s0_1 p0) from if_neg hc120_86)] at k89
              show Steps p.tables e below (T59.setTop (mkF m 120 #[.val (.int p0), .val (.int p1), .val (.ref b11), .val (.int (p1 &&& (15 : Int32))), .val (.int (v0_98_l4 p0)), .unset] [(.int (10 : Int32)), (.int (v0_98_l4 p0))])) _
              refine XS.icmpNo X59.here hx rfl (hb hby at_120) rfl (feq hc120_86).1 ?_
              show Steps p.tables e below (T59.setTop (mkF m 123 #[.val (.int p0), .val (.int p1), .val (.ref b11), .val (.int (p1 &&& (15 : Int32))), .val (.int (v0_98_l4 p0)), .unset] [])) _
              refine XS.iload X59.here hx rfl (hb hby at_123) rfl ?_
              show Steps p.tables e below (T59.setTop (mkF m 125 #[.val (.int p0), .val (.int p1), .val (.ref b11), .val (.int (p1 &&& (15 : Int32))), .val (.int (v0_98_l4 p0)), .unset] [(.int (v0_98_l4 p0))])) _
              refine XS.bipush X59.here hx rfl (hb hby at_125) ?_
              suffices k88 : Steps p.tables e below (T59.setTop (mkF m 135 #[.val (.int p0), .val (.int p1), .val (.ref b11), .val (.int (p1 &&& (15 : Int32))), .val (.int (v0_98_l4 p0)), .unset] [(.int (v0_127_s0_1 p0))])) t by
                by_cases hc127_87 : (v0_98_l4 p0) = (13 : Int32)
                · rw [(show (v0_127_s0_1 p0) = (1 : Int32) from if_pos hc127_87)] at k88
                  show Steps p.tables e below (T59.setTop (mkF m 127 #[.val (.int p0), .val (.int p1), .val (.ref b11), .val (.int (p1 &&& (15 : Int32))), .val (.int (v0_98_l4 p0)), .unset] [(.int (13 : Int32)), (.int (v0_98_l4 p0))])) _
                  refine XS.icmpNo X59.here hx rfl (hb hby at_127) rfl (teq hc127_87).2 ?_
                  show Steps p.tables e below (T59.setTop (mkF m 130 #[.val (.int p0), .val (.int p1), .val (.ref b11), .val (.int (p1 &&& (15 : Int32))), .val (.int (v0_98_l4 p0)), .unset] [])) _
                  refine XS.iconst X59.here hx rfl (hb hby at_130) ?_
                  show Steps p.tables e below (T59.setTop (mkF m 131 #[.val (.int p0), .val (.int p1), .val (.ref b11), .val (.int (p1 &&& (15 : Int32))), .val (.int (v0_98_l4 p0)), .unset] [(.int (1 : Int32))])) _
                  refine XS.goto X59.here hx rfl (pc0 := 131) (pc' := 135) rfl (hb hby at_131) (by decide) (by decide) ?_
                  exact k88
                · rw [(show (v0_127_s0_1 p0) = (0 : Int32) from if_neg hc127_87)] at k88
                  show Steps p.tables e below (T59.setTop (mkF m 127 #[.val (.int p0), .val (.int p1), .val (.ref b11), .val (.int (p1 &&& (15 : Int32))), .val (.int (v0_98_l4 p0)), .unset] [(.int (13 : Int32)), (.int (v0_98_l4 p0))])) _
                  refine XS.icmpYes X59.here hx rfl (pc0 := 127) (pc' := 134) rfl (hb hby at_127) rfl (feq hc127_87).2 (by decide) (by decide) ?_
                  show Steps p.tables e below (T59.setTop (mkF m 134 #[.val (.int p0), .val (.int p1), .val (.ref b11), .val (.int (p1 &&& (15 : Int32))), .val (.int (v0_98_l4 p0)), .unset] [])) _
                  refine XS.iconst X59.here hx rfl (hb hby at_134) ?_
                  exact k88
              exact k89
          exact k96
        · rw [(show (v0_105_s0_1 p0) = (v0_113_s0_1 p0) from if_neg hc105_85)] at k96
          show Steps p.tables e below (T59.setTop (mkF m 105 #[.val (.int p0), .val (.int p1), .val (.ref b11), .val (.int (p1 &&& (15 : Int32))), .val (.int (v0_98_l4 p0)), .unset] [(.int (8232 : Int32)), (.int (v0_98_l4 p0))])) _
          refine XS.icmpNo X59.here hx rfl (hb hby at_105) rfl (flt hc105_85).1 ?_
          show Steps p.tables e below (T59.setTop (mkF m 108 #[.val (.int p0), .val (.int p1), .val (.ref b11), .val (.int (p1 &&& (15 : Int32))), .val (.int (v0_98_l4 p0)), .unset] [])) _
          refine XS.iload X59.here hx rfl (hb hby at_108) rfl ?_
          show Steps p.tables e below (T59.setTop (mkF m 110 #[.val (.int p0), .val (.int p1), .val (.ref b11), .val (.int (p1 &&& (15 : Int32))), .val (.int (v0_98_l4 p0)), .unset] [(.int (v0_98_l4 p0))])) _
          refine XS.sipush X59.here hx rfl (hb hby at_110) ?_
          suffices k95 : Steps p.tables e below (T59.setTop (mkF m 135 #[.val (.int p0), .val (.int p1), .val (.ref b11), .val (.int (p1 &&& (15 : Int32))), .val (.int (v0_98_l4 p0)), .unset] [(.int (v0_113_s0_1 p0))])) t by
            by_cases hc113_90 : (8233 : Int32) < (v0_98_l4 p0)
            · rw [(show (v0_113_s0_1 p0) = (v0_120_s0_1 p0) from if_pos hc113_90)] at k95
              show Steps p.tables e below (T59.setTop (mkF m 113 #[.val (.int p0), .val (.int p1), .val (.ref b11), .val (.int (p1 &&& (15 : Int32))), .val (.int (v0_98_l4 p0)), .unset] [(.int (8233 : Int32)), (.int (v0_98_l4 p0))])) _
              refine XS.icmpNo X59.here hx rfl (hb hby at_113) rfl (tlt hc113_90).2.2.2 ?_
              show Steps p.tables e below (T59.setTop (mkF m 116 #[.val (.int p0), .val (.int p1), .val (.ref b11), .val (.int (p1 &&& (15 : Int32))), .val (.int (v0_98_l4 p0)), .unset] [])) _
              refine XS.iload X59.here hx rfl (hb hby at_116) rfl ?_
              show Steps p.tables e below (T59.setTop (mkF m 118 #[.val (.int p0), .val (.int p1), .val (.ref b11), .val (.int (p1 &&& (15 : Int32))), .val (.int (v0_98_l4 p0)), .unset] [(.int (v0_98_l4 p0))])) _
              refine XS.bipush X59.here hx rfl (hb hby at_118) ?_
              suffices k94 : Steps p.tables e below (T59.setTop (mkF m 135 #[.val (.int p0), .val (.int p1), .val (.ref b11), .val (.int (p1 &&& (15 : Int32))), .val (.int (v0_98_l4 p0)), .unset] [(.int (v0_120_s0_1 p0))])) t by
                by_cases hc120_91 : (v0_98_l4 p0) = (10 : Int32)
                · rw [(show (v0_120_s0_1 p0) = (1 : Int32) from if_pos hc120_91)] at k94
                  show Steps p.tables e below (T59.setTop (mkF m 120 #[.val (.int p0), .val (.int p1), .val (.ref b11), .val (.int (p1 &&& (15 : Int32))), .val (.int (v0_98_l4 p0)), .unset] [(.int (10 : Int32)), (.int (v0_98_l4 p0))])) _
                  refine XS.icmpYes X59.here hx rfl (pc0 := 120) (pc' := 130) rfl (hb hby at_120) rfl (teq hc120_91).1 (by decide) (by decide) ?_
                  show Steps p.tables e below (T59.setTop (mkF m 130 #[.val (.int p0), .val (.int p1), .val (.ref b11), .val (.int (p1 &&& (15 : Int32))), .val (.int (v0_98_l4 p0)), .unset] [])) _
                  refine XS.iconst X59.here hx rfl (hb hby at_130) ?_
                  show Steps p.tables e below (T59.setTop (mkF m 131 #[.val (.int p0), .val (.int p1), .val (.ref b11), .val (.int (p1 &&& (15 : Int32))), .val (.int (v0_98_l4 p0)), .unset] [(.int (1 : Int32))])) _
                  refine XS.goto X59.here hx rfl (pc0 := 131) (pc' := 135) rfl (hb hby at_131) (by decide) (by decide) ?_
                  exact k94
                · rw [(show (v0_120_s0_1 p0) = (v0_127_s0_1 p0) from if_neg hc120_91)] at k94
                  show Steps p.tables e below (T59.setTop (mkF m 120 #[.val (.int p0), .val (.int p1), .val (.ref b11), .val (.int (p1 &&& (15 : Int32))), .val (.int (v0_98_l4 p0)), .unset] [(.int (10 : Int32)), (.int (v0_98_l4 p0))])) _
                  refine XS.icmpNo X59.here hx rfl (hb hby at_120) rfl (feq hc120_91).1 ?_
                  show Steps p.tables e below (T59.setTop (mkF m 123 #[.val (.int p0), .val (.int p1), .val (.ref b11), .val (.int (p1 &&& (15 : Int32))), .val (.int (v0_98_l4 p0)), .unset] [])) _
                  refine XS.iload X59.here hx rfl (hb hby at_123) rfl ?_
                  show Steps p.tables e below (T59.setTop (mkF m 125 #[.val (.int p0), .val (.int p1), .val (.ref b11), .val (.int (p1 &&& (15 : Int32))), .val (.int (v0_98_l4 p0)), .unset] [(.int (v0_98_l4 p0))])) _
                  refine XS.bipush X59.here hx rfl (hb hby at_125) ?_
                  suffices k93 : Steps p.tables e below (T59.setTop (mkF m 135 #[.val (.int p0), .val (.int p1), .val (.ref b11), .val (.int (p1 &&& (15 : Int32))), .val (.int (v0_98_l4 p0)), .unset] [(.int (v0_127_s0_1 p0))])) t by
                    by_cases hc127_92 : (v0_98_l4 p0) = (13 : Int32)
                    · rw [(show (v0_127_s0_1 p0) = (1 : Int32) from if_pos hc127_92)] at k93
                      show Steps p.tables e below (T59.setTop (mkF m 127 #[.val (.int p0), .val (.int p1), .val (.ref b11), .val (.int (p1 &&& (15 : Int32))), .val (.int (v0_98_l4 p0)), .unset] [(.int (13 : Int32)), (.int (v0_98_l4 p0))])) _
                      refine XS.icmpNo X59.here hx rfl (hb hby at_127) rfl (teq hc127_92).2 ?_
                      show Steps p.tables e below (T59.setTop (mkF m 130 #[.val (.int p0), .val (.int p1), .val (.ref b11), .val (.int (p1 &&& (15 : Int32))), .val (.int (v0_98_l4 p0)), .unset] [])) _
                      refine XS.iconst X59.here hx rfl (hb hby at_130) ?_
                      show Steps p.tables e below (T59.setTop (mkF m 131 #[.val (.int p0), .val (.int p1), .val (.ref b11), .val (.int (p1 &&& (15 : Int32))), .val (.int (v0_98_l4 p0)), .unset] [(.int (1 : Int32))])) _
                      refine XS.goto X59.here hx rfl (pc0 := 131) (pc' := 135) rfl (hb hby at_131) (by decide) (by decide) ?_
                      exact k93
                    · rw [(show (v0_127_s0_1 p0) = (0 : Int32) from if_neg hc127_92)] at k93
                      show Steps p.tables e below (T59.setTop (mkF m 127 #[.val (.int p0), .val (.int p1), .val (.ref b11), .val (.int (p1 &&& (15 : Int32))), .val (.int (v0_98_l4 p0)), .unset] [(.int (13 : Int32)), (.int (v0_98_l4 p0))])) _
                      refine XS.icmpYes X59.here hx rfl (pc0 := 127) (pc' := 134) rfl (hb hby at_127) rfl (feq hc127_92).2 (by decide) (by decide) ?_
                      show Steps p.tables e below (T59.setTop (mkF m 134 #[.val (.int p0), .val (.int p1), .val (.ref b11), .val (.int (p1 &&& (15 : Int32))), .val (.int (v0_98_l4 p0)), .unset] [])) _
                      refine XS.iconst X59.here hx rfl (hb hby at_134) ?_
                      exact k93
                  exact k94
              exact k95
            · rw [(show (v0_113_s0_1 p0) = (1 : Int32) from if_neg hc113_90)] at k95
              show Steps p.tables e below (T59.setTop (mkF m 113 #[.val (.int p0), .val (.int p1), .val (.ref b11), .val (.int (p1 &&& (15 : Int32))), .val (.int (v0_98_l4 p0)), .unset] [(.int (8233 : Int32)), (.int (v0_98_l4 p0))])) _
              refine XS.icmpYes X59.here hx rfl (pc0 := 113) (pc' := 130) rfl (hb hby at_113) rfl (flt hc113_90).2.2.2 (by decide) (by decide) ?_
              show Steps p.tables e below (T59.setTop (mkF m 130 #[.val (.int p0), .val (.int p1), .val (.ref b11), .val (.int (p1 &&& (15 : Int32))), .val (.int (v0_98_l4 p0)), .unset] [])) _
              refine XS.iconst X59.here hx rfl (hb hby at_130) ?_
              show Steps p.tables e below (T59.setTop (mkF m 131 #[.val (.int p0), .val (.int p1), .val (.ref b11), .val (.int (p1 &&& (15 : Int32))), .val (.int (v0_98_l4 p0)), .unset] [(.int (1 : Int32))])) _
              refine XS.goto X59.here hx rfl (pc0 := 131) (pc' := 135) rfl (hb hby at_131) (by decide) (by decide) ?_
              exact k95
          exact k96
      show Steps p.tables e below (T59.setTop (mkF m 135 #[.val (.int p0), .val (.int p1), .val (.ref b11), .val (.int (p1 &&& (15 : Int32))), .val (.int (v0_98_l4 p0)), .unset] [(.int (v0_105_s0_1 p0))])) _
      refine XS.istore X59.here hx rfl (hb hby at_135) rfl (l' := #[.val (.int p0), .val (.int p1), .val (.ref b11), .val (.int (p1 &&& (15 : Int32))), .val (.int (v0_98_l4 p0)), .val (.int (v0_105_s0_1 p0))]) rfl ?_
      show Steps p.tables e below (T59.setTop (mkF m 137 #[.val (.int p0), .val (.int p1), .val (.ref b11), .val (.int (p1 &&& (15 : Int32))), .val (.int (v0_98_l4 p0)), .val (.int (v0_105_s0_1 p0))] [])) _
      refine XS.iload X59.here hx rfl (hb hby at_137) rfl ?_
      exact kk)
    have Zz98 : n0 ≤ h59.size := (Nat.le_trans Z0 K59.1)
    obtain ⟨_, _, ⟨T98, L98, k98, n98⟩, -, X98, ⟨Lc98, hQ98, l98, y98, z98⟩, st98⟩ := Jvm.LawKit.callS X59 hx (y := (⟨"com/example/protoscope/protoscope/source/LineStarts", "isTerminator", "(C)Z"⟩ : MethodName)) hown (mvT hZ (hw _ (List.mem_of_getElem? (i := 2) rfl))) (mvT hZ (hw _ (List.mem_of_getElem? (i := 3) rfl))) (mvT hZ (hw _ (List.mem_of_getElem? (i := 4) rfl))) (mvT hZ (hw _ (List.mem_of_getElem? (i := 5) rfl))) (by decide) (backOf (W := 0) (rm1 l Z a0 hw [] (v0_98_l4 p0) h59 n0 Zz98) hZ (hw _ (List.mem_of_getElem? (i := 5) rfl)) (hw _ (List.mem_of_getElem? (i := 4) rfl)) (by decide) (by decide)) (g := (mkF m 139 #[.val (.int p0), .val (.int p1), .val (.ref b11), .val (.int (p1 &&& (15 : Int32))), .val (.int (v0_98_l4 p0)), .val (.int (v0_105_s0_1 p0))] [(.int (v0_98_l4 p0))])) rfl (by rw [hml]; rfl) (argsL := [(.int (v0_98_l4 p0))]) (rest := []) (lenOf pd_0 rfl) rfl (by show 2 * 0 + _ ≤ _; exact Nat.le_of_eq rfl) (hb hby at_139) (fun _ _ => ⟨rfl, e59, (by decide : 1 + 0 ≤ _), (by decide : 12 + 0 ≤ _)⟩)
    dsimp only [Pt.U, Pt.locs, Pt.cells, Pt.slots] at X98 l98 y98 z98 st98 hQ98
    subst l98 y98 z98
    obtain ⟨rfl, N98q, e98⟩ := hQ98
    have N98 := Fr.app N59 N98q
    have k99 := fun (t : State) (kk : Steps p.tables e below (T98.setTop (mkF m 142 #[.val (.int p0), .val (.int p1), .val (.ref b11), .val (.int (p1 &&& (15 : Int32))), .val (.int (v0_98_l4 p0)), .val (.int (v0_105_s0_1 p0))] [(.int (nar .boolean (v1_3_s0 (v0_98_l4 p0))))])) t) => k97 t (st98 _ kk)
    have k102 := fun (t : State) (kk : Steps p.tables e below (T98.setTop (mkF m 152 #[.val (.int p0), .val (.int p1), .val (.ref b11), .val (.int (p1 &&& (15 : Int32))), .val (.int (v0_98_l4 p0)), .val (.int (v0_105_s0_1 p0))] [(.int (v0_144_s0_1 p0))])) t) => k99 t (by
      show Steps p.tables e below (T98.setTop (mkF m 142 #[.val (.int p0), .val (.int p1), .val (.ref b11), .val (.int (p1 &&& (15 : Int32))), .val (.int (v0_98_l4 p0)), .val (.int (v0_105_s0_1 p0))] [(.int (nar .boolean (v1_3_s0 (v0_98_l4 p0))))])) _
      refine XS.iload X98.here hx rfl (hb hby at_142) rfl ?_
      suffices k101 : Steps p.tables e below (T98.setTop (mkF m 152 #[.val (.int p0), .val (.int p1), .val (.ref b11), .val (.int (p1 &&& (15 : Int32))), .val (.int (v0_98_l4 p0)), .val (.int (v0_105_s0_1 p0))] [(.int (v0_144_s0_1 p0))])) t by
        by_cases hc144_100 : (nar .boolean (v1_3_s0 (v0_98_l4 p0))) = (v0_105_s0_1 p0)
        · rw [(show (v0_144_s0_1 p0) = (1 : Int32) from if_pos hc144_100)] at k101
          show Steps p.tables e below (T98.setTop (mkF m 144 #[.val (.int p0), .val (.int p1), .val (.ref b11), .val (.int (p1 &&& (15 : Int32))), .val (.int (v0_98_l4 p0)), .val (.int (v0_105_s0_1 p0))] [(.int (v0_105_s0_1 p0)), (.int (nar .boolean (v1_3_s0 (v0_98_l4 p0))))])) _
          refine XS.icmpNo X98.here hx rfl (hb hby at_144) rfl (teq hc144_100).2 ?_
          show Steps p.tables e below (T98.setTop (mkF m 147 #[.val (.int p0), .val (.int p1), .val (.ref b11), .val (.int (p1 &&& (15 : Int32))), .val (.int (v0_98_l4 p0)), .val (.int (v0_105_s0_1 p0))] [])) _
          refine XS.iconst X98.here hx rfl (hb hby at_147) ?_
          show Steps p.tables e below (T98.setTop (mkF m 148 #[.val (.int p0), .val (.int p1), .val (.ref b11), .val (.int (p1 &&& (15 : Int32))), .val (.int (v0_98_l4 p0)), .val (.int (v0_105_s0_1 p0))] [(.int (1 : Int32))])) _
          refine XS.goto X98.here hx rfl (pc0 := 148) (pc' := 152) rfl (hb hby at_148) (by decide) (by decide) ?_
          exact k101
        · rw [(show (v0_144_s0_1 p0) = (0 : Int32) from if_neg hc144_100)] at k101
          show Steps p.tables e below (T98.setTop (mkF m 144 #[.val (.int p0), .val (.int p1), .val (.ref b11), .val (.int (p1 &&& (15 : Int32))), .val (.int (v0_98_l4 p0)), .val (.int (v0_105_s0_1 p0))] [(.int (v0_105_s0_1 p0)), (.int (nar .boolean (v1_3_s0 (v0_98_l4 p0))))])) _
          refine XS.icmpYes X98.here hx rfl (pc0 := 144) (pc' := 151) rfl (hb hby at_144) rfl (feq hc144_100).2 (by decide) (by decide) ?_
          show Steps p.tables e below (T98.setTop (mkF m 151 #[.val (.int p0), .val (.int p1), .val (.ref b11), .val (.int (p1 &&& (15 : Int32))), .val (.int (v0_98_l4 p0)), .val (.int (v0_105_s0_1 p0))] [])) _
          refine XS.iconst X98.here hx rfl (hb hby at_151) ?_
          exact k101
      exact kk)
    obtain ⟨fs, hr, hrun, hended, hW, hsame⟩ := X98.leave (v := some (.int (nar .boolean (v0_144_s0_1 p0)))) (fun h => by rw [Bd.returns] at h; cases h)
    have hv : (v0_ret p0 p1) = (nar .boolean (v0_144_s0_1 p0)) := (if_neg hc84_62)
    have hone : (nar .boolean (v0_144_s0_1 p0)) = 1 := hv.symm.trans (own_law p0 p1)
    refine ⟨_, _, k102 _ ?_, hrun, hended, _, _, rfl, ?_, ⟨_, rfl⟩, hW, hsame.mono (by decide) (by decide)⟩
    · show Steps p.tables e below (T98.setTop (mkF m 152 #[.val (.int p0), .val (.int p1), .val (.ref b11), .val (.int (p1 &&& (15 : Int32))), .val (.int (v0_98_l4 p0)), .val (.int (v0_105_s0_1 p0))] [(.int (v0_144_s0_1 p0))])) _
      exact retN X98 hx (t := .boolean) Bd.returns (by simp) (hb hby at_152) hr
    · show Q0 Z p0 p1 h0 n0 _ T98.heap _
      rw [e98]
      exact ⟨congrArg (fun z => some (Value.int z)) hone, N98⟩
set_option maxRecDepth 65536 in
set_option maxHeartbeats 40000000 in
theorem comes_1 {Post : Tables → Env → Array Value → State → Outcome → State → Prop} (hpost : ∀ tb e args s v u, (limb_1_1.after args s (.returned v) u = true ∧ limb_1_2.after args s (.returned v) u = true ∧ True) → FrameEnd s (.returned v) u (Jvm.fieldLocs frame_1_writes args s ++ Jvm.arrayLocs frame_1_arrays args s ++ Jvm.staticLocs frame_1_statics s) 16 128 → Post tb e args s (.returned v) u) :
    ArmFor flags0 classFile x code maxLocals ret World_1 tables_1 room_1 Calls_1 rest_1 Pre_1 Post := by
  intro l hfl _ _ p e ha hc hk s m args below hf hA hF happ hP
  obtain ⟨hcalls, hrest, hpre⟩ := hP
  obtain ⟨-, -, -, hnamed, -, -, -, hat⟩ := (Spec.applies_iff hf).mp happ
  obtain ⟨hg, hn⟩ := and_e (Cond.before_iff.mp (show (Jvm.Cond.and given_1 narrow_1).before args s = true from hpre))
  obtain ⟨hcnt, hg0⟩ := and_e hg
  obtain ⟨ha0, hg1⟩ := and_e hg0
  have ha1 := hg1
  obtain ⟨w0, w1, rfl⟩ : ∃ w0 w1 : Value, args = #[w0, w1] := by
    have hs : args.size = 2 := by simpa [Cond.value, given_1] using hcnt
    obtain ⟨L⟩ := args
    match L, hs with
    | [w0, w1], _ => exact ⟨w0, w1, rfl⟩
  have hw := fun d (hd : d ∈ tables_1) => atoms_spec (ws := Jvm.Cond.code x code maxLocals ret :: tables_1) hat d (List.mem_cons_of_mem _ hd)
  have hfit : Fit s := fun {y c} hc i hi => by
    obtain ⟨ha, rfl⟩ := Array.getElem?_eq_some_iff.mp hc
    have q := List.all_eq_true.mp ((Array.all_eq_true_iff_forall_mem.mp hF) _ (Array.getElem_mem ha)) i (List.mem_range.mpr hi)
    simpa [Array.getElem?_eq_getElem hi] using q
  obtain ⟨p0, ea0⟩ := is_v ha0
  obtain rfl : w0 = (.int p0) := Option.some.inj ea0
  obtain ⟨p1, ea1⟩ := is_v ha1
  obtain rfl : w1 = (.int p1) := Option.some.inj ea1
  obtain ⟨n, o, h1, h2, h3, _, L, rfl, ⟨rfl, N⟩, hq⟩ := rm0 l s _ hw tables_1 p0 p1 s.heap s.heap.size (Nat.le_refl _)  p e ha hc hk s m _ below hf ((Spec.applies_iff_loose hf).mp happ).1 ⟨rfl, State.Warmed39.refl s, rfl⟩ trivial
  refine ⟨n, _, h1, h2, h3, hpost _ _ _ _ _ _ ⟨Cond.after_iff.mpr rfl, Cond.after_iff.mpr (eq_i res_at (Term.int_eval (1)) rfl), trivial⟩ ⟨hq.1, hq.2.1, (hq.2.2.sift fun y hy => Or.inr (N y hy)).mono (by decide) (by decide)⟩⟩
theorem main_1_1 : Claimed_1_1 := comes_1 fun _ _ _ _ _ _ h hF => ⟨h.1, hF⟩
theorem main_1_2 : Claimed_1_2 := comes_1 fun _ _ _ _ _ _ h hF => ⟨h.2.1, hF⟩
end Jvm.Pilot.@@N@@
namespace Jvm.Pilot.@@N@@
open Jvm Jvm.ClassFile Sem Op Lib Jvm.Free Jvm.Stand Jvm.Pilot.@@N@@.Jvm.D
/-! MADE BY PROGRAM (witnessworld.py) out of the Statement's table words and the real class files: 11 classes; the members and pool entries that the words name. The judged class is class 1, her method 1. -/
namespace start1
open Jvm.ClassFile
def u (s : String) : CpInfo := .utf8 (stringToUtf16 s)
/-- a pool by its gaps: so many unusable entries, then the entry; so many at the end -/
def gap : Nat → List CpInfo → List CpInfo
  | 0, r => r
  | n + 1, r => .unusable :: gap n r
def poolList (es : List (Nat × CpInfo)) (last : Nat) : List CpInfo := es.foldr (fun e r => gap e.1 (e.2 :: r)) (gap last [])
def pool (es : List (Nat × CpInfo)) (last : Nat) : Array CpInfo := ⟨poolList es last⟩
def fileOf (pool : Array CpInfo) (this : Nat) (attrs : Array Attribute := #[]) (ms : Array MethodInfo := #[]) (fl : Nat := 33) (sup : Nat := 0) (ifs : Array Nat := #[]) (fds : Array FieldInfo := #[]) : ClassFile where
  minorVersion := 0
  majorVersion := 65
  constantPool := pool
  accessFlags := fl
  thisClass := this
  superClass := sup
  interfaces := ifs
  fields := fds
  methods := ms
  attributes := attrs
def plain (name : String) (sup : Option ClassId) : Class where
  name := name
  kind := .ordinary
  loader := none
  accessFlags := 33
  super := sup
  interfaces := #[]
  cf := none
  fields := #[]
  methods := #[]
  instanceTypes := #[]
  staticTypes := #[]
  resolved := #[]
  callSites := []
  init := .initialized
  statics := none
  mirror := none

def pool0 : Array CpInfo := pool [(5, u "<init>"), (0, u "()V"), (1, .class_ 10), (1, u "java/lang/Object")] 113

def k0m0 : Method := { name := "<init>", desc := "()V", sig := { parameters := [], returnType := none }, accessFlags := 1, code := none }
/-- java/lang/Object -/
def k0 : Class := { plain "java/lang/Object" none with
  accessFlags := 33
  interfaces := #[]
  cf := some (fileOf pool0 8 #[] #[{ accessFlags := 1, nameIndex := 5, descriptorIndex := 6, attributes := #[] }] 33 0 #[] #[])
  fields := #[]
  methods := #[k0m0]
  instanceTypes := #[]
  staticTypes := #[]
  resolved := Array.replicate 124 none
  statics := none }

def pool1 : Array CpInfo := pool [(2, .class_ 4), (1, u "java/lang/Object"), (0, u "<init>"), (0, u "()V"), (0, .integer 65535), (0, .methodref 9 10), (0, .class_ 11), (0, .nameAndType 12 13), (0, u "com/example/protoscope/protoscope/source/LineStarts"), (0, u "isTerminator"), (0, u "(C)Z"), (0, .class_ 15), (0, u "com/example/protoscope/protoscope/source/LineStartsIsTerminatorPinLaw"), (2, u "law"), (0, u "(II)Z")] 5

def k1m0 : Method := { name := "<init>", desc := "()V", sig := { parameters := [], returnType := none }, accessFlags := 1, code := none }
def k1c1 : Code := { maxStack := 4, maxLocals := 6, code := code, exceptionTable := #[], attributes := #[] }
def k1m1 : Method := { name := "law", desc := "(II)Z", sig := { parameters := [.int, .int], returnType := some .boolean }, accessFlags := 9, code := some k1c1 }
/-- com/example/protoscope/protoscope/source/LineStartsIsTerminatorPinLaw -/
def k1 : Class := { plain "com/example/protoscope/protoscope/source/LineStartsIsTerminatorPinLaw" (some 0) with
  accessFlags := 49
  interfaces := #[]
  cf := some (fileOf pool1 14 #[] #[{ accessFlags := 1, nameIndex := 5, descriptorIndex := 6, attributes := #[] }, { accessFlags := 9, nameIndex := 18, descriptorIndex := 19, attributes := #[] }] 49 2 #[] #[])
  fields := #[]
  methods := #[k1m0, k1m1]
  instanceTypes := #[]
  staticTypes := #[]
  resolved := Array.replicate 25 none
  statics := none }

def pool2 : Array CpInfo := pool [(2, .class_ 4), (1, u "java/lang/Object"), (3, .class_ 10), (1, u "com/example/protoscope/protoscope/source/LineStarts"), (0, u "starts"), (0, u "[I"), (2, u "longest"), (0, u "I"), (12, u "isTerminator"), (0, u "(C)Z")] 42

def k2c0 : Code := { maxStack := 2, maxLocals := 1, code := prog_94_method_3_code, exceptionTable := #[], attributes := #[] }
def k2m0 : Method := { name := "isTerminator", desc := "(C)Z", sig := { parameters := [.char], returnType := some .boolean }, accessFlags := 8, code := some k2c0 }
/-- com/example/protoscope/protoscope/source/LineStarts -/
def k2 : Class := { plain "com/example/protoscope/protoscope/source/LineStarts" (some 0) with
  accessFlags := 48
  interfaces := #[]
  cf := some (fileOf pool2 8 #[] #[{ accessFlags := 8, nameIndex := 29, descriptorIndex := 30, attributes := #[] }] 48 2 #[] #[{ accessFlags := 18, nameIndex := 11, descriptorIndex := 12, attributes := #[] }, { accessFlags := 18, nameIndex := 15, descriptorIndex := 16, attributes := #[] }])
  fields := #[{ name := "starts", type := (.array .int), accessFlags := 18, slot := 0, constantValue := 0 }, { name := "longest", type := .int, accessFlags := 18, slot := 1, constantValue := 0 }]
  methods := #[k2m0]
  instanceTypes := #[(.array .int), .int]
  staticTypes := #[]
  resolved := Array.replicate 73 none
  statics := none }

def pool3 : Array CpInfo := pool [(1, u "java/lang/Cloneable"), (0, .class_ 1), (0, u "java/lang/Object"), (0, .class_ 3)] 3

/-- java/lang/Cloneable -/
def k3 : Class := { plain "java/lang/Cloneable" (some 0) with
  accessFlags := 1537
  interfaces := #[]
  cf := some (fileOf pool3 2 #[] #[] 1537 4 #[] #[])
  fields := #[]
  methods := #[]
  instanceTypes := #[]
  staticTypes := #[]
  resolved := Array.replicate 8 none
  statics := none }

def pool4 : Array CpInfo := pool [(1, u "java/io/Serializable"), (0, .class_ 1), (0, u "java/lang/Object"), (0, .class_ 3)] 3

/-- java/io/Serializable -/
def k4 : Class := { plain "java/io/Serializable" (some 0) with
  accessFlags := 1537
  interfaces := #[]
  cf := some (fileOf pool4 2 #[] #[] 1537 4 #[] #[])
  fields := #[]
  methods := #[]
  instanceTypes := #[]
  staticTypes := #[]
  resolved := Array.replicate 8 none
  statics := none }

/-- the primitive byte -/
def k5 : Class := { plain "byte" none with kind := .primitive 'B', accessFlags := 0x411 }
/-- [B -/
def k6 : Class := { plain "[B" (some 0) with kind := .array 5 .byte, interfaces := #[3, 4], accessFlags := 1041 }

/-- the primitive char -/
def k7 : Class := { plain "char" none with kind := .primitive 'C', accessFlags := 0x411 }
/-- [C -/
def k8 : Class := { plain "[C" (some 0) with kind := .array 7 .char, interfaces := #[3, 4], accessFlags := 1041 }

/-- the primitive int -/
def k9 : Class := { plain "int" none with kind := .primitive 'I', accessFlags := 0x411 }
/-- [I -/
def k10 : Class := { plain "[I" (some 0) with kind := .array 9 .int, interfaces := #[3, 4], accessFlags := 1041 }

def heap : Heap := #[]
def classes : Array Class := #[k0, k1, k2, k3, k4, k5, k6, k7, k8, k9, k10]
def interned : List (Array UInt16 × Addr) := []
def slotsUsed : Nat := 0
def theMethod : MethodId := ⟨1, 1⟩
def args0 : Array Value := #[.int 5, .int 3]
def aboutOver (below : List Frame) : State where
  vm := { classes := classes, interned := interned.toArray }
  heap := heap
  slotsUsed := slotsUsed
  threads := #[{ frames := .invoking theMethod args0 :: below }]
def below0 : List Frame := [.native { method := ⟨0, 0⟩, args := #[] }]
def about1 : State := aboutOver below0
def p0 : Program := .bare "" "" ""
def e0 : Env := launch0.env 0 0 0
theorem w_frames : about1.frames = Frame.invoking theMethod args0 :: below0 := rfl
set_option maxRecDepth 65536 in
theorem w_args : argsFit about1.vm theMethod args0 = true := by decide +kernel
set_option maxRecDepth 65536 in
theorem w_heap : heapFits about1 = true := by decide +kernel
set_option maxRecDepth 65536 in
theorem w_runnable : about1.curStatus? = some .runnable := by decide +kernel
set_option maxRecDepth 65536 in
theorem w_alone : about1.alone = true := by decide +kernel
set_option maxRecDepth 65536 in
theorem w_named : about1.methodNamed? x = some theMethod := by decide +kernel
set_option maxRecDepth 65536 in
theorem w_hears : about1.hears theMethod below0 = true := by decide +kernel
set_option maxRecDepth 65536 in
theorem w_ripe : about1.ripe theMethod args0 below0 = true := by decide +kernel
theorem w_running : about1.status = .running := rfl
set_option maxRecDepth 65536 in
theorem w_room : about1.hasRoom e0.platform room_1 = true :=
  launch0.hasRoom_least _ room_1 (by decide +kernel) (by decide +kernel) (by decide +kernel) (by decide +kernel) (by decide +kernel) (by decide +kernel)
theorem allAtoms_all (ts : List Jvm.Cond) (a : Array Jvm.Value) (st : Jvm.State) : (allAtoms ts).before a st = ts.all (fun c => c.before a st) := by
  induction ts with
  | nil => rfl
  | cons c t ih =>
    show (Jvm.Cond.and c (allAtoms t)).before a st = _
    rw [Jvm.Cond.before_and, ih, List.all_cons]
def words1 : List Jvm.Cond := Jvm.Cond.code x code maxLocals ret :: tables_1
/-- a 'code' word, met by the world's own term for the bytes: nothing is compared byte by byte -/
theorem code_word {y : MethodName} {bytes : ByteArray} {mx : Nat} {rt : Option FieldType} {a : Array Value} {s : State} {m : MethodId} {meth : Method} {c : Code} (h1 : s.methodNamed? y = some m) (h2 : s.vm.method? m = some meth) (h3 : meth.code = some c) (h4 : c.code = bytes)
    (h5 : (c.maxLocals == mx && c.exceptionTable.isEmpty && decide (c.maxStack ≤ mostOperands) && decide (meth.sig.returnType = rt) && !meth.locks && decide (parseMethodDescriptor y.desc = some meth.sig)) = true) : (Jvm.Cond.code y bytes mx rt).before a s = true := by
  simp only [Bool.and_eq_true, beq_iff_eq, Bool.not_eq_true', decide_eq_true_eq] at h5
  obtain ⟨⟨⟨⟨⟨g1, g2⟩, g3⟩, g4⟩, g5⟩, g6⟩ := h5
  simp [Cond.before, Cond.holds, Cond.value, h1, h2, h3, h4, g1, g2, g3, g4, g5, g6]
def isCode : Jvm.Cond → Bool
  | .code _ _ _ _ => true
  | _ => false
theorem all_split {L : List Jvm.Cond} {P : Jvm.Cond → Bool} (h1 : L.all (fun c => isCode c || P c) = true) (h2 : ∀ c ∈ L.filter isCode, P c = true) : L.all P = true := by
  refine List.all_eq_true.mpr fun c hc => ?_
  have h := List.all_eq_true.mp h1 c hc
  rcases Bool.eq_false_or_eq_true (isCode c) with hi | hi
  · exact h2 c (List.mem_filter.mpr ⟨hc, hi⟩)
  · simpa [hi] using h
set_option maxRecDepth 65536 in
theorem w_c0 : (Jvm.Cond.code x code maxLocals ret).before args0 about1 = true := code_word (m := ⟨1, 1⟩) (meth := k1m1) (c := k1c1) (by decide +kernel) rfl rfl rfl (by decide +kernel)
set_option maxRecDepth 65536 in
theorem w_c1 : (Jvm.Cond.code ({ cls := "com/example/protoscope/protoscope/source/LineStarts", name := "isTerminator", desc := "(C)Z" } : Jvm.MethodName) prog_94_method_3_code (1 : Nat) (Option.some Jvm.ClassFile.FieldType.boolean)).before args0 about1 = true := code_word (m := ⟨2, 0⟩) (meth := k2m0) (c := k2c0) (by decide +kernel) rfl rfl rfl (by decide +kernel)
def codes1 : List Jvm.Cond := [Jvm.Cond.code x code maxLocals ret, Jvm.Cond.code ({ cls := "com/example/protoscope/protoscope/source/LineStarts", name := "isTerminator", desc := "(C)Z" } : Jvm.MethodName) prog_94_method_3_code (1 : Nat) (Option.some Jvm.ClassFile.FieldType.boolean)]
set_option maxRecDepth 65536 in
theorem codes_eq : words1.filter isCode = codes1 := rfl
theorem w_codes : ∀ c ∈ words1.filter isCode, c.before args0 about1 = true := by
  rw [codes_eq]
  intro c hc
  simp only [codes1, List.mem_cons, List.not_mem_nil, or_false] at hc
  rcases hc with rfl | rfl
  · exact w_c0
  · exact w_c1
set_option maxRecDepth 65536 in
theorem w_t1 : words1.all (fun c => isCode c || c.before args0 about1) = true := by decide +kernel
theorem w_tables : (allAtoms (Jvm.Cond.code x code maxLocals ret :: tables_1)).before args0 about1 = true := by
  rw [allAtoms_all]
  show words1.all (fun c => c.before args0 about1) = true
  refine all_split ?_ w_codes
  rw [w_t1]
set_option maxRecDepth 65536 in
theorem w_case : (Jvm.Cond.and given_1 narrow_1).before args0 about1 = true := by decide +kernel
theorem w_applies : (headSpec (Jvm.Cond.code x code maxLocals ret :: tables_1) room_1).applies x e0.platform about1 = true :=
  (Spec.applies_iff w_frames).mpr ⟨w_running, w_runnable, w_alone, w_named, w_hears, w_ripe, w_room, w_tables⟩
theorem atStart : AtStart classFile x code maxLocals ret World_1 tables_1 room_1 Calls_1 rest_1 Pre_1 launch0 p0 e0 about1 theMethod args0 below0 :=
  ⟨lists_1, trivial, launch0.admits_env _ _ _, launch0.least_env, fairChoices_fair.cas, fairChoices_fair.clock, w_frames, w_args, w_heap, w_applies, trivial, trivial, w_case⟩
end start1
theorem witness_1 : WitnessClaimed_1 := ⟨start1.p0, start1.e0, start1.about1, start1.theMethod, start1.args0, start1.below0, start1.atStart⟩
end Jvm.Pilot.@@N@@
