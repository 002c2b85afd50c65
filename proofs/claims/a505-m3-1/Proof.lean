import JvmDerived
import JvmDerived.Pilot.@@N@@Statement
import JvmDerived.Pilot.@@N@@Code
set_option linter.unusedVariables false
set_option linter.unusedSimpArgs false
namespace Jvm.RoadKit
open Sem ClassFile Op Lib Jvm.Stand Jvm.Free Jvm.LawKit
section New
variable {p : Program} {l : Launch} {e : Env} {R : Room} {s : State} {m : MethodId} {args : Array Value} {below : List Frame} {meth : Method} {c : Code} {T : State} {locs : List Loc} {cells slots : Nat}
theorem retI (X : Stand p l e R s m args below meth c T locs cells slots) (hx : p.tables.exec = Jvm.exec) {pc : Nat} {Ls : Array Slot} {z : Int32} {rest : List Value} (hret : meth.sig.returnType = some .int) (hd : decode c.code pc = .ok (.ireturn, 1)) {fs : List Frame}
    (hl : ∀ (f : JFrame) (acts : List Action), f.method = m → f.locked = none → f.entered = [] → (doReturn e (T.setTop f) acts (some (.int z))).1 = T.setFrames fs) : Steps p.tables e below (T.setTop (mkF m pc Ls (.int z :: rest))) (T.setFrames fs) := by
  have hm' : T.vm.method? m = some meth := X.method'
  have hn : narrow .int (.int z) = .int z := rfl
  show Steps p.tables e below (T.setTop { method := m, pc := pc, locals := Ls, stack := _ :: rest, locked := none }) _
  jvm_step X.here [X.here.top, hx, hd, hm', hret, hn]
  first | (intro acts; rw [hl _ acts rfl rfl rfl]) | rw [hl _ _ rfl rfl rfl]
  exact Steps.refl _
theorem own_lremM {g : JFrame} {target : State} (X : Stand p l e R s m args below meth c T locs cells slots) (hx : p.tables.exec = Jvm.exec) (hg : g.method = m) {x y : Int64} {rest : List Value} (hd : decode c.code g.pc = .ok (.lrem, 1)) (hs : g.stack = .long y :: .long x :: rest) (hy : y ≠ 0)
    (hr : Steps p.tables e below (T.setTop { g with pc := g.pc + 1, stack := .long (x % y) :: rest }) target) : Steps p.tables e below (T.setTop g) target := by
  have q : x - x / y * y = x % y := lrem_mod x y
  exact XS.lrem X.here hx hg hd hs hy (by rw [q]; exact hr)
theorem own_getD_int (L : List Int32) (n : Nat) (d : Int32) : (L.map Value.int).getD n (.int d) = .int (L.getD n d) := by simp [List.getD_eq_getElem?_getD, List.getElem?_map]
theorem own_getD_long (L : List Int64) (n : Nat) (d : Int64) : (L.map Value.long).getD n (.long d) = .long (L.getD n d) := by simp [List.getD_eq_getElem?_getD, List.getElem?_map]
theorem own_lt_nat {j z : Int32} (h : ¬ j < 0) (q : j < z) : j.toNatClampNeg < z.toNatClampNeg := by
  rw [Int32.lt_iff_toInt_lt] at h q; have : (0 : Int32).toInt = 0 := rfl
  simp only [Int32.toNatClampNeg]; omega
theorem own_eq_int {t : Term} {v : Int32} {args : Array Value} {s : State} (h : (Cond.eq t (.int v)).value args s none s [] = some true) : t.eval args s none [] s = some (.int v) := by
  simp only [Cond.value, Term.eval] at h
  cases ht : t.eval args s none [] s with
  | none => simp [ht] at h
  | some x => cases x <;> simp [ht] at h ⊢; exact h
theorem own_eq_long {t : Term} {v : Int64} {args : Array Value} {s : State} (h : (Cond.eq t (.long v)).value args s none s [] = some true) : t.eval args s none [] s = some (.long v) := by
  simp only [Cond.value, Term.eval] at h
  cases ht : t.eval args s none [] s with
  | none => simp [ht] at h
  | some x => cases x <;> simp [ht] at h ⊢; exact h
theorem own_selpriv {s : State} {args : Array Value} {y : MethodName} {n : Nat} (wi : (Cond.instantiable y.cls n).before args s = true) (hpriv : s.PrivateAt y) (hinst : (Cond.instanceMethod y).before args s = true) (hy : y.cls ≠ "java/lang/invoke/MethodHandle" ∧ y.cls ≠ "java/lang/invoke/VarHandle") : (Cond.selects y.cls y y).before args s = true := by
  obtain ⟨c, k, h1, h2, -, h4, -⟩ := Cond.instantiable_spec wi
  exact Jvm.Stand.selects_self_of_private h1 h2 (Bool.or_eq_false_iff.mp h4).1 hpriv hinst hy
theorem own_len {t : Term} {x : Addr} {z : Int32} {cl : Cell} {args : Array Value} {s : State} (ht : t.eval args s none [] s = some (.ref x)) (h : (Term.length t).eval args s none [] s = some (.int z)) (ha : s.arrayAt? x = some cl) : cl.slots.size < 2 ^ 31 ∧ cl.slots.size.toInt32 = z := by
  by_cases q : cl.slots.size < 2 ^ 31
  · refine ⟨q, ?_⟩
    rw [len_f ht ha q] at h
    simpa using h
  · exfalso
    simp [Term.eval, ht, ha, q] at h
theorem own_narb (P : Prop) [Decidable P] : nar .boolean (if P then (1 : Int32) else (0 : Int32)) = if P then (1 : Int32) else (0 : Int32) := by by_cases h : P <;> simp only [h, if_true, if_false] <;> rfl
end New
end Jvm.RoadKit
namespace Jvm.Pilot.@@N@@
open Jvm Jvm.ClassFile Sem Op Lib Jvm.Free Jvm.Stand Jvm.LawKit Jvm.RoadKit Bundle Jvm.Pilot.@@N@@.Jvm.D
theorem d1_0 : decode method_2_code 0 = .ok (.iload_n 0, 1) := by decide +kernel
theorem d1_1 : decode method_2_code 1 = .ok (.ifCond .ne 5, 3) := by decide +kernel
theorem d1_4 : decode method_2_code 4 = .ok (.lconst 1, 1) := by decide +kernel
theorem d1_5 : decode method_2_code 5 = .ok (.lreturn, 1) := by decide +kernel
theorem d1_6 : decode method_2_code 6 = .ok (.iload_n 0, 1) := by decide +kernel
theorem d1_7 : decode method_2_code 7 = .ok (.iconst 1, 1) := by decide +kernel
theorem d1_8 : decode method_2_code 8 = .ok (.if_icmp .ne 7, 3) := by decide +kernel
theorem d1_11 : decode method_2_code 11 = .ok (.ldc2_w 7, 3) := by decide +kernel
theorem d1_14 : decode method_2_code 14 = .ok (.lreturn, 1) := by decide +kernel
theorem d1_15 : decode method_2_code 15 = .ok (.iload_n 0, 1) := by decide +kernel
theorem d1_16 : decode method_2_code 16 = .ok (.iconst 2, 1) := by decide +kernel
theorem d1_17 : decode method_2_code 17 = .ok (.if_icmp .ne 7, 3) := by decide +kernel
theorem d1_20 : decode method_2_code 20 = .ok (.ldc2_w 9, 3) := by decide +kernel
theorem d1_23 : decode method_2_code 23 = .ok (.lreturn, 1) := by decide +kernel
theorem d1_24 : decode method_2_code 24 = .ok (.iload_n 0, 1) := by decide +kernel
theorem d1_25 : decode method_2_code 25 = .ok (.iconst 3, 1) := by decide +kernel
theorem d1_26 : decode method_2_code 26 = .ok (.if_icmp .ne 7, 3) := by decide +kernel
theorem d1_29 : decode method_2_code 29 = .ok (.ldc2_w 11, 3) := by decide +kernel
theorem d1_32 : decode method_2_code 32 = .ok (.lreturn, 1) := by decide +kernel
theorem d1_33 : decode method_2_code 33 = .ok (.iload_n 0, 1) := by decide +kernel
theorem d1_34 : decode method_2_code 34 = .ok (.iconst 4, 1) := by decide +kernel
theorem d1_35 : decode method_2_code 35 = .ok (.if_icmp .ne 7, 3) := by decide +kernel
theorem d1_38 : decode method_2_code 38 = .ok (.ldc2_w 13, 3) := by decide +kernel
theorem d1_41 : decode method_2_code 41 = .ok (.lreturn, 1) := by decide +kernel
theorem d1_42 : decode method_2_code 42 = .ok (.iload_n 0, 1) := by decide +kernel
theorem d1_43 : decode method_2_code 43 = .ok (.iconst 5, 1) := by decide +kernel
theorem d1_44 : decode method_2_code 44 = .ok (.if_icmp .ne 7, 3) := by decide +kernel
theorem d1_47 : decode method_2_code 47 = .ok (.ldc2_w 15, 3) := by decide +kernel
theorem d1_50 : decode method_2_code 50 = .ok (.lreturn, 1) := by decide +kernel
theorem d1_51 : decode method_2_code 51 = .ok (.iload_n 0, 1) := by decide +kernel
theorem d1_52 : decode method_2_code 52 = .ok (.bipush 6, 2) := by decide +kernel
theorem d1_54 : decode method_2_code 54 = .ok (.if_icmp .ne 7, 3) := by decide +kernel
theorem d1_57 : decode method_2_code 57 = .ok (.ldc2_w 17, 3) := by decide +kernel
theorem d1_60 : decode method_2_code 60 = .ok (.lreturn, 1) := by decide +kernel
theorem d1_61 : decode method_2_code 61 = .ok (.iload_n 0, 1) := by decide +kernel
theorem d1_62 : decode method_2_code 62 = .ok (.bipush 7, 2) := by decide +kernel
theorem d1_64 : decode method_2_code 64 = .ok (.if_icmp .ne 7, 3) := by decide +kernel
theorem d1_67 : decode method_2_code 67 = .ok (.ldc2_w 19, 3) := by decide +kernel
theorem d1_70 : decode method_2_code 70 = .ok (.lreturn, 1) := by decide +kernel
theorem d1_71 : decode method_2_code 71 = .ok (.ldc2_w 21, 3) := by decide +kernel
theorem d1_74 : decode method_2_code 74 = .ok (.lreturn, 1) := by decide +kernel
theorem pn_42 : plainName "com/example/gavelbook/gavelbook/DecimalsUnitsPinLaw" = true := by first | (simp [plainName, overriddenIn]; done) | decide +kernel
def v1_ret (p0 : Int32) : Int64 := (if p0 = (0 : Int32) then (1 : Int64) else (if p0 = (1 : Int32) then (10 : Int64) else (if p0 = (2 : Int32) then (100 : Int64) else (if p0 = (3 : Int32) then (1000 : Int64) else (if p0 = (4 : Int32) then (10000 : Int64) else (if p0 = (5 : Int32) then (100000 : Int64) else (if p0 = (6 : Int32) then (1000000 : Int64) else (if p0 = (7 : Int32) then (10000000 : Int64) else (100000000 : Int64)))))))))
theorem ef_rm1 (m : MethodId) (p0 : Int32) : entryFrame m #[(.int p0)] 1 = mkF m 0 #[.val (.int p0)] [] := by first | (simp [entryFrame, mkF, argsToLocals, Value.category]; done) | rfl
def Q1 (Z : State) (p0 : Int32) (h0 : Heap) (n0 : Nat) (v : Option Value) (h : Heap) (L : List Loc) : Prop := v = some (.long (v1_ret p0)) ∧ Fr n0 L ∧ h = h0
set_option maxRecDepth 65536 in
set_option maxHeartbeats 40000000 in
theorem rm1 (l : Launch) (Z : State) (a0 : Array Value) (hw : ∀ d ∈ tables_1, d.before a0 Z = true) (ws : List Jvm.Cond) (p0 : Int32) (h0 : Heap) (n0 : Nat) (Z0 : n0 ≤ h0.size) :
    MetFree l (⟨"com/example/gavelbook/gavelbook/DecimalsUnitsPinLaw", "pow", "(I)J"⟩ : MethodName) (head1 (Jvm.Cond.code (⟨"com/example/gavelbook/gavelbook/DecimalsUnitsPinLaw", "pow", "(I)J"⟩ : MethodName) method_2_code 1 (some .long) :: ws) ({ frames := 0, cells := 0, slots := 0, locals := 0 } : Room)) (fun a U => a = #[(.int p0)] ∧ Z.Warmed39 U.vm ∧ U.heap = h0) (fun _ _ _ _ _ => True) (fun _ U o U' => ∃ v L, o = .returned v ∧ Q1 Z p0 h0 n0 v U'.heap L ∧ FrameEnd U o U' L ({ frames := 0, cells := 0, slots := 0, locals := 0 } : Room).cells ({ frames := 0, cells := 0, slots := 0, locals := 0 } : Room).slots) := by
  refine MetFree.of_bodySF (plainFor_of_name pn_42) hisR ?_
  intro p e s m args below meth c s₁ Bd hml0 hP hK
  obtain ⟨rfl, hZ, hh⟩ := hP
  have hx := Bd.exec
  have hby := Bd.bytes
  have hml : c.maxLocals = 1 := hml0
  have hown : s.vm.findClass "com/example/gavelbook/gavelbook/DecimalsUnitsPinLaw" = some m.cls := findClass_of_methodNamed Bd.named
  have hnm := (name_of_methodNamed Bd.named Bd.method).1
  have X0 : Stand p l e ({ frames := 0, cells := 0, slots := 0, locals := 0 } : Room) s m #[(.int p0)] below meth c s₁ [] 0 0 := Stand.of_body Bd
  have e0 : s₁.heap = h0 := by rw [← hh, Bd.state]; rfl
  have N0 := Fr.nil n0
  have KC0 := Keep.refl h0 ([] : List Addr)
  have pre0 : ∀ t, Steps p.tables e below (s₁.setTop (mkF m 0 #[.val (.int p0)] [])) t → Steps p.tables e below (s₁.setTop (entryFrame m #[(.int p0)] 1)) t := fun t k => castTop (ef_rm1 m p0) k
  have k1 := fun (t : State) (kk : Steps p.tables e below (s₁.setTop (mkF m 1 #[.val (.int p0)] [(.int p0)])) t) => pre0 t (by
    show Steps p.tables e below (s₁.setTop (mkF m 0 #[.val (.int p0)] [])) _
    refine XS.iloadN X0.here hx rfl (hb hby d1_0) rfl ?_
    exact kk)
  by_cases hc1_2 : p0 = (0 : Int32)
  · have k3 := fun (t : State) (kk : Steps p.tables e below (s₁.setTop (mkF m 5 #[.val (.int p0)] [(.long (1 : Int64))])) t) => k1 t (by
      show Steps p.tables e below (s₁.setTop (mkF m 1 #[.val (.int p0)] [(.int p0)])) _
      refine XS.ifNo X0.here hx rfl (hb hby d1_1) rfl ((if0 _ _).trans (teq hc1_2).2) ?_
      show Steps p.tables e below (s₁.setTop (mkF m 4 #[.val (.int p0)] [])) _
      refine XS.lconst X0.here hx rfl (hb hby d1_4) ?_
      exact kk)
    obtain ⟨fs, hr, hrun, hended, hW, hsame⟩ := X0.leave (v := some (.long (1 : Int64))) (fun h => by rw [Bd.returns] at h; cases h)
    have hv : (v1_ret p0) = (1 : Int64) := (if_pos hc1_2)
    refine ⟨_, _, k3 _ ?_, hrun, hended, _, _, rfl, ?_, ⟨_, rfl⟩, hW, hsame.mono (by decide) (by decide)⟩
    · show Steps p.tables e below (s₁.setTop (mkF m 5 #[.val (.int p0)] [(.long (1 : Int64))])) _
      exact retOut X0 hx (t := .long) Bd.returns rfl (Or.inr (Or.inl ⟨rfl, rfl, _, rfl⟩)) (hb hby d1_5) hr
    · show Q1 Z p0 h0 n0 _ s₁.heap _
      rw [e0]
      exact ⟨(congrArg (fun z => some (Value.long z)) hv).symm, N0, rfl⟩
  · have k4 := fun (t : State) (kk : Steps p.tables e below (s₁.setTop (mkF m 8 #[.val (.int p0)] [(.int (1 : Int32)), (.int p0)])) t) => k1 t (by
      show Steps p.tables e below (s₁.setTop (mkF m 1 #[.val (.int p0)] [(.int p0)])) _
      refine XS.ifYes X0.here hx rfl (pc0 := 1) (pc' := 6) rfl (hb hby d1_1) rfl ((if0 _ _).trans (feq hc1_2).2) (by decide) (by decide) ?_
      show Steps p.tables e below (s₁.setTop (mkF m 6 #[.val (.int p0)] [])) _
      refine XS.iloadN X0.here hx rfl (hb hby d1_6) rfl ?_
      show Steps p.tables e below (s₁.setTop (mkF m 7 #[.val (.int p0)] [(.int p0)])) _
      refine XS.iconst X0.here hx rfl (hb hby d1_7) ?_
      exact kk)
    by_cases hc8_5 : p0 = (1 : Int32)
    · have k6 := fun (t : State) (kk : Steps p.tables e below (s₁.setTop (mkF m 14 #[.val (.int p0)] [(.long (10 : Int64))])) t) => k4 t (by
        show Steps p.tables e below (s₁.setTop (mkF m 8 #[.val (.int p0)] [(.int (1 : Int32)), (.int p0)])) _
        refine XS.icmpNo X0.here hx rfl (hb hby d1_8) rfl (teq hc8_5).2 ?_
        show Steps p.tables e below (s₁.setTop (mkF m 11 #[.val (.int p0)] [])) _
        refine X0.ldc2Long hx hown (mvT hZ (hw _ (List.mem_of_getElem? (i := 24) rfl))) (g := (mkF m 11 #[.val (.int p0)] [])) rfl (hb hby d1_11) _ ?_
        exact kk)
      obtain ⟨fs, hr, hrun, hended, hW, hsame⟩ := X0.leave (v := some (.long (10 : Int64))) (fun h => by rw [Bd.returns] at h; cases h)
      have hv : (v1_ret p0) = (10 : Int64) := ((if_neg hc1_2).trans (if_pos hc8_5))
      refine ⟨_, _, k6 _ ?_, hrun, hended, _, _, rfl, ?_, ⟨_, rfl⟩, hW, hsame.mono (by decide) (by decide)⟩
      · show Steps p.tables e below (s₁.setTop (mkF m 14 #[.val (.int p0)] [(.long (10 : Int64))])) _
        exact retOut X0 hx (t := .long) Bd.returns rfl (Or.inr (Or.inl ⟨rfl, rfl, _, rfl⟩)) (hb hby d1_14) hr
      · show Q1 Z p0 h0 n0 _ s₁.heap _
        rw [e0]
        exact ⟨(congrArg (fun z => some (Value.long z)) hv).symm, N0, rfl⟩
    · have k7 := fun (t : State) (kk : Steps p.tables e below (s₁.setTop (mkF m 17 #[.val (.int p0)] [(.int (2 : Int32)), (.int p0)])) t) => k4 t (by
        show Steps p.tables e below (s₁.setTop (mkF m 8 #[.val (.int p0)] [(.int (1 : Int32)), (.int p0)])) _
        refine XS.icmpYes X0.here hx rfl (pc0 := 8) (pc' := 15) rfl (hb hby d1_8) rfl (feq hc8_5).2 (by decide) (by decide) ?_
        show Steps p.tables e below (s₁.setTop (mkF m 15 #[.val (.int p0)] [])) _
        refine XS.iloadN X0.here hx rfl (hb hby d1_15) rfl ?_
        show Steps p.tables e below (s₁.setTop (mkF m 16 #[.val (.int p0)] [(.int p0)])) _
        refine XS.iconst X0.here hx rfl (hb hby d1_16) ?_
        exact kk)
      by_cases hc17_8 : p0 = (2 : Int32)
      · have k9 := fun (t : State) (kk : Steps p.tables e below (s₁.setTop (mkF m 23 #[.val (.int p0)] [(.long (100 : Int64))])) t) => k7 t (by
          show Steps p.tables e below (s₁.setTop (mkF m 17 #[.val (.int p0)] [(.int (2 : Int32)), (.int p0)])) _
          refine XS.icmpNo X0.here hx rfl (hb hby d1_17) rfl (teq hc17_8).2 ?_
          show Steps p.tables e below (s₁.setTop (mkF m 20 #[.val (.int p0)] [])) _
          refine X0.ldc2Long hx hown (mvT hZ (hw _ (List.mem_of_getElem? (i := 21) rfl))) (g := (mkF m 20 #[.val (.int p0)] [])) rfl (hb hby d1_20) _ ?_
          exact kk)
        obtain ⟨fs, hr, hrun, hended, hW, hsame⟩ := X0.leave (v := some (.long (100 : Int64))) (fun h => by rw [Bd.returns] at h; cases h)
        have hv : (v1_ret p0) = (100 : Int64) := ((if_neg hc1_2).trans ((if_neg hc8_5).trans (if_pos hc17_8)))
        refine ⟨_, _, k9 _ ?_, hrun, hended, _, _, rfl, ?_, ⟨_, rfl⟩, hW, hsame.mono (by decide) (by decide)⟩
        · show Steps p.tables e below (s₁.setTop (mkF m 23 #[.val (.int p0)] [(.long (100 : Int64))])) _
          exact retOut X0 hx (t := .long) Bd.returns rfl (Or.inr (Or.inl ⟨rfl, rfl, _, rfl⟩)) (hb hby d1_23) hr
        · show Q1 Z p0 h0 n0 _ s₁.heap _
          rw [e0]
          exact ⟨(congrArg (fun z => some (Value.long z)) hv).symm, N0, rfl⟩
      · have k10 := fun (t : State) (kk : Steps p.tables e below (s₁.setTop (mkF m 26 #[.val (.int p0)] [(.int (3 : Int32)), (.int p0)])) t) => k7 t (by
          show Steps p.tables e below (s₁.setTop (mkF m 17 #[.val (.int p0)] [(.int (2 : Int32)), (.int p0)])) _
          refine XS.icmpYes X0.here hx rfl (pc0 := 17) (pc' := 24) rfl (hb hby d1_17) rfl (feq hc17_8).2 (by decide) (by decide) ?_
          show Steps p.tables e below (s₁.setTop (mkF m 24 #[.val (.int p0)] [])) _
          refine XS.iloadN X0.here hx rfl (hb hby d1_24) rfl ?_
          show Steps p.tables e below (s₁.setTop (mkF m 25 #[.val (.int p0)] [(.int p0)])) _
          refine XS.iconst X0.here hx rfl (hb hby d1_25) ?_
          exact kk)
        by_cases hc26_11 : p0 = (3 : Int32)
        · have k12 := fun (t : State) (kk : Steps p.tables e below (s₁.setTop (mkF m 32 #[.val (.int p0)] [(.long (1000 : Int64))])) t) => k10 t (by
            show Steps p.tables e below (s₁.setTop (mkF m 26 #[.val (.int p0)] [(.int (3 : Int32)), (.int p0)])) _
            refine XS.icmpNo X0.here hx rfl (hb hby d1_26) rfl (teq hc26_11).2 ?_
            show Steps p.tables e below (s₁.setTop (mkF m 29 #[.val (.int p0)] [])) _
            refine X0.ldc2Long hx hown (mvT hZ (hw _ (List.mem_of_getElem? (i := 20) rfl))) (g := (mkF m 29 #[.val (.int p0)] [])) rfl (hb hby d1_29) _ ?_
            exact kk)
          obtain ⟨fs, hr, hrun, hended, hW, hsame⟩ := X0.leave (v := some (.long (1000 : Int64))) (fun h => by rw [Bd.returns] at h; cases h)
          have hv : (v1_ret p0) = (1000 : Int64) := ((if_neg hc1_2).trans ((if_neg hc8_5).trans ((if_neg hc17_8).trans (if_pos hc26_11))))
          refine ⟨_, _, k12 _ ?_, hrun, hended, _, _, rfl, ?_, ⟨_, rfl⟩, hW, hsame.mono (by decide) (by decide)⟩
          · show Steps p.tables e below (s₁.setTop (mkF m 32 #[.val (.int p0)] [(.long (1000 : Int64))])) _
            exact retOut X0 hx (t := .long) Bd.returns rfl (Or.inr (Or.inl ⟨rfl, rfl, _, rfl⟩)) (hb hby d1_32) hr
          · show Q1 Z p0 h0 n0 _ s₁.heap _
            rw [e0]
            exact ⟨(congrArg (fun z => some (Value.long z)) hv).symm, N0, rfl⟩
        · have k13 := fun (t : State) (kk : Steps p.tables e below (s₁.setTop (mkF m 35 #[.val (.int p0)] [(.int (4 : Int32)), (.int p0)])) t) => k10 t (by
            show Steps p.tables e below (s₁.setTop (mkF m 26 #[.val (.int p0)] [(.int (3 : Int32)), (.int p0)])) _
            refine XS.icmpYes X0.here hx rfl (pc0 := 26) (pc' := 33) rfl (hb hby d1_26) rfl (feq hc26_11).2 (by decide) (by decide) ?_
            show Steps p.tables e below (s₁.setTop (mkF m 33 #[.val (.int p0)] [])) _
            refine XS.iloadN X0.here hx rfl (hb hby d1_33) rfl ?_
            show Steps p.tables e below (s₁.setTop (mkF m 34 #[.val (.int p0)] [(.int p0)])) _
            refine XS.iconst X0.here hx rfl (hb hby d1_34) ?_
            exact kk)
          by_cases hc35_14 : p0 = (4 : Int32)
          · have k15 := fun (t : State) (kk : Steps p.tables e below (s₁.setTop (mkF m 41 #[.val (.int p0)] [(.long (10000 : Int64))])) t) => k13 t (by
              show Steps p.tables e below (s₁.setTop (mkF m 35 #[.val (.int p0)] [(.int (4 : Int32)), (.int p0)])) _
              refine XS.icmpNo X0.here hx rfl (hb hby d1_35) rfl (teq hc35_14).2 ?_
              show Steps p.tables e below (s₁.setTop (mkF m 38 #[.val (.int p0)] [])) _
              refine X0.ldc2Long hx hown (mvT hZ (hw _ (List.mem_of_getElem? (i := 25) rfl))) (g := (mkF m 38 #[.val (.int p0)] [])) rfl (hb hby d1_38) _ ?_
              exact kk)
            obtain ⟨fs, hr, hrun, hended, hW, hsame⟩ := X0.leave (v := some (.long (10000 : Int64))) (fun h => by rw [Bd.returns] at h; cases h)
            have hv : (v1_ret p0) = (10000 : Int64) := ((if_neg hc1_2).trans ((if_neg hc8_5).trans ((if_neg hc17_8).trans ((if_neg hc26_11).trans (if_pos hc35_14)))))
            refine ⟨_, _, k15 _ ?_, hrun, hended, _, _, rfl, ?_, ⟨_, rfl⟩, hW, hsame.mono (by decide) (by decide)⟩
            · show Steps p.tables e below (s₁.setTop (mkF m 41 #[.val (.int p0)] [(.long (10000 : Int64))])) _
              exact retOut X0 hx (t := .long) Bd.returns rfl (Or.inr (Or.inl ⟨rfl, rfl, _, rfl⟩)) (hb hby d1_41) hr
            · show Q1 Z p0 h0 n0 _ s₁.heap _
              rw [e0]
              exact ⟨(congrArg (fun z => some (Value.long z)) hv).symm, N0, rfl⟩
          · have k16 := fun (t : State) (kk : Steps p.tables e below (s₁.setTop (mkF m 44 #[.val (.int p0)] [(.int (5 : Int32)), (.int p0)])) t) => k13 t (by
              show Steps p.tables e below (s₁.setTop (mkF m 35 #[.val (.int p0)] [(.int (4 : Int32)), (.int p0)])) _
              refine XS.icmpYes X0.here hx rfl (pc0 := 35) (pc' := 42) rfl (hb hby d1_35) rfl (feq hc35_14).2 (by decide) (by decide) ?_
              show Steps p.tables e below (s₁.setTop (mkF m 42 #[.val (.int p0)] [])) _
              refine XS.iloadN X0.here hx rfl (hb hby d1_42) rfl ?_
              show Steps p.tables e below (s₁.setTop (mkF m 43 #[.val (.int p0)] [(.int p0)])) _
              refine XS.iconst X0.here hx rfl (hb hby d1_43) ?_
              exact kk)
            by_cases hc44_17 : p0 = (5 : Int32)
            · have k18 := fun (t : State) (kk : Steps p.tables e below (s₁.setTop (mkF m 50 #[.val (.int p0)] [(.long (100000 : Int64))])) t) => k16 t (by
                show Steps p.tables e below (s₁.setTop (mkF m 44 #[.val (.int p0)] [(.int (5 : Int32)), (.int p0)])) _
                refine XS.icmpNo X0.here hx rfl (hb hby d1_44) rfl (teq hc44_17).2 ?_
                show Steps p.tables e below (s₁.setTop (mkF m 47 #[.val (.int p0)] [])) _
                refine X0.ldc2Long hx hown (mvT hZ (hw _ (List.mem_of_getElem? (i := 22) rfl))) (g := (mkF m 47 #[.val (.int p0)] [])) rfl (hb hby d1_47) _ ?_
                exact kk)
              obtain ⟨fs, hr, hrun, hended, hW, hsame⟩ := X0.leave (v := some (.long (100000 : Int64))) (fun h => by rw [Bd.returns] at h; cases h)
              have hv : (v1_ret p0) = (100000 : Int64) := ((if_neg hc1_2).trans ((if_neg hc8_5).trans ((if_neg hc17_8).trans ((if_neg hc26_11).trans ((if_neg hc35_14).trans (if_pos hc44_17))))))
              refine ⟨_, _, k18 _ ?_, hrun, hended, _, _, rfl, ?_, ⟨_, rfl⟩, hW, hsame.mono (by decide) (by decide)⟩
              · show Steps p.tables e below (s₁.setTop (mkF m 50 #[.val (.int p0)] [(.long (100000 : Int64))])) _
                exact retOut X0 hx (t := .long) Bd.returns rfl (Or.inr (Or.inl ⟨rfl, rfl, _, rfl⟩)) (hb hby d1_50) hr
              · show Q1 Z p0 h0 n0 _ s₁.heap _
                rw [e0]
                exact ⟨(congrArg (fun z => some (Value.long z)) hv).symm, N0, rfl⟩
            · have k19 := fun (t : State) (kk : Steps p.tables e below (s₁.setTop (mkF m 54 #[.val (.int p0)] [(.int (6 : Int32)), (.int p0)])) t) => k16 t (by
                show Steps p.tables e below (s₁.setTop (mkF m 44 #[.val (.int p0)] [(.int (5 : Int32)), (.int p0)])) _
                refine XS.icmpYes X0.here hx rfl (pc0 := 44) (pc' := 51) rfl (hb hby d1_44) rfl (feq hc44_17).2 (by decide) (by decide) ?_
                show Steps p.tables e below (s₁.setTop (mkF m 51 #[.val (.int p0)] [])) _
                refine XS.iloadN X0.here hx rfl (hb hby d1_51) rfl ?_
                show Steps p.tables e below (s₁.setTop (mkF m 52 #[.val (.int p0)] [(.int p0)])) _
                refine XS.bipush X0.here hx rfl (hb hby d1_52) ?_
                exact kk)
              by_cases hc54_20 : p0 = (6 : Int32)
              · have k21 := fun (t : State) (kk : Steps p.tables e below (s₁.setTop (mkF m 60 #[.val (.int p0)] [(.long (1000000 : Int64))])) t) => k19 t (by
                  show Steps p.tables e below (s₁.setTop (mkF m 54 #[.val (.int p0)] [(.int (6 : Int32)), (.int p0)])) _
                  refine XS.icmpNo X0.here hx rfl (hb hby d1_54) rfl (teq hc54_20).2 ?_
                  show Steps p.tables e below (s₁.setTop (mkF m 57 #[.val (.int p0)] [])) _
                  refine X0.ldc2Long hx hown (mvT hZ (hw _ (List.mem_of_getElem? (i := 5) rfl))) (g := (mkF m 57 #[.val (.int p0)] [])) rfl (hb hby d1_57) _ ?_
                  exact kk)
                obtain ⟨fs, hr, hrun, hended, hW, hsame⟩ := X0.leave (v := some (.long (1000000 : Int64))) (fun h => by rw [Bd.returns] at h; cases h)
                have hv : (v1_ret p0) = (1000000 : Int64) := ((if_neg hc1_2).trans ((if_neg hc8_5).trans ((if_neg hc17_8).trans ((if_neg hc26_11).trans ((if_neg hc35_14).trans ((if_neg hc44_17).trans (if_pos hc54_20)))))))
                refine ⟨_, _, k21 _ ?_, hrun, hended, _, _, rfl, ?_, ⟨_, rfl⟩, hW, hsame.mono (by decide) (by decide)⟩
                · show Steps p.tables e below (s₁.setTop (mkF m 60 #[.val (.int p0)] [(.long (1000000 : Int64))])) _
                  exact retOut X0 hx (t := .long) Bd.returns rfl (Or.inr (Or.inl ⟨rfl, rfl, _, rfl⟩)) (hb hby d1_60) hr
                · show Q1 Z p0 h0 n0 _ s₁.heap _
                  rw [e0]
                  exact ⟨(congrArg (fun z => some (Value.long z)) hv).symm, N0, rfl⟩
              · have k22 := fun (t : State) (kk : Steps p.tables e below (s₁.setTop (mkF m 64 #[.val (.int p0)] [(.int (7 : Int32)), (.int p0)])) t) => k19 t (by
                  show Steps p.tables e below (s₁.setTop (mkF m 54 #[.val (.int p0)] [(.int (6 : Int32)), (.int p0)])) _
                  refine XS.icmpYes X0.here hx rfl (pc0 := 54) (pc' := 61) rfl (hb hby d1_54) rfl (feq hc54_20).2 (by decide) (by decide) ?_
                  show Steps p.tables e below (s₁.setTop (mkF m 61 #[.val (.int p0)] [])) _
                  refine XS.iloadN X0.here hx rfl (hb hby d1_61) rfl ?_
                  show Steps p.tables e below (s₁.setTop (mkF m 62 #[.val (.int p0)] [(.int p0)])) _
                  refine XS.bipush X0.here hx rfl (hb hby d1_62) ?_
                  exact kk)
                by_cases hc64_23 : p0 = (7 : Int32)
                · have k24 := fun (t : State) (kk : Steps p.tables e below (s₁.setTop (mkF m 70 #[.val (.int p0)] [(.long (10000000 : Int64))])) t) => k22 t (by
                    show Steps p.tables e below (s₁.setTop (mkF m 64 #[.val (.int p0)] [(.int (7 : Int32)), (.int p0)])) _
                    refine XS.icmpNo X0.here hx rfl (hb hby d1_64) rfl (teq hc64_23).2 ?_
                    show Steps p.tables e below (s₁.setTop (mkF m 67 #[.val (.int p0)] [])) _
                    refine X0.ldc2Long hx hown (mvT hZ (hw _ (List.mem_of_getElem? (i := 17) rfl))) (g := (mkF m 67 #[.val (.int p0)] [])) rfl (hb hby d1_67) _ ?_
                    exact kk)
                  obtain ⟨fs, hr, hrun, hended, hW, hsame⟩ := X0.leave (v := some (.long (10000000 : Int64))) (fun h => by rw [Bd.returns] at h; cases h)
                  have hv : (v1_ret p0) = (10000000 : Int64) := ((if_neg hc1_2).trans ((if_neg hc8_5).trans ((if_neg hc17_8).trans ((if_neg hc26_11).trans ((if_neg hc35_14).trans ((if_neg hc44_17).trans ((if_neg hc54_20).trans (if_pos hc64_23))))))))
                  refine ⟨_, _, k24 _ ?_, hrun, hended, _, _, rfl, ?_, ⟨_, rfl⟩, hW, hsame.mono (by decide) (by decide)⟩
                  · show Steps p.tables e below (s₁.setTop (mkF m 70 #[.val (.int p0)] [(.long (10000000 : Int64))])) _
                    exact retOut X0 hx (t := .long) Bd.returns rfl (Or.inr (Or.inl ⟨rfl, rfl, _, rfl⟩)) (hb hby d1_70) hr
                  · show Q1 Z p0 h0 n0 _ s₁.heap _
                    rw [e0]
                    exact ⟨(congrArg (fun z => some (Value.long z)) hv).symm, N0, rfl⟩
                · have k25 := fun (t : State) (kk : Steps p.tables e below (s₁.setTop (mkF m 74 #[.val (.int p0)] [(.long (100000000 : Int64))])) t) => k22 t (by
                    show Steps p.tables e below (s₁.setTop (mkF m 64 #[.val (.int p0)] [(.int (7 : Int32)), (.int p0)])) _
                    refine XS.icmpYes X0.here hx rfl (pc0 := 64) (pc' := 71) rfl (hb hby d1_64) rfl (feq hc64_23).2 (by decide) (by decide) ?_
                    show Steps p.tables e below (s₁.setTop (mkF m 71 #[.val (.int p0)] [])) _
                    refine X0.ldc2Long hx hown (mvT hZ (hw _ (List.mem_of_getElem? (i := 23) rfl))) (g := (mkF m 71 #[.val (.int p0)] [])) rfl (hb hby d1_71) _ ?_
                    exact kk)
                  obtain ⟨fs, hr, hrun, hended, hW, hsame⟩ := X0.leave (v := some (.long (100000000 : Int64))) (fun h => by rw [Bd.returns] at h; cases h)
                  have hv : (v1_ret p0) = (100000000 : Int64) := ((if_neg hc1_2).trans ((if_neg hc8_5).trans ((if_neg hc17_8).trans ((if_neg hc26_11).trans ((if_neg hc35_14).trans ((if_neg hc44_17).trans ((if_neg hc54_20).trans (if_neg hc64_23))))))))
                  refine ⟨_, _, k25 _ ?_, hrun, hended, _, _, rfl, ?_, ⟨_, rfl⟩, hW, hsame.mono (by decide) (by decide)⟩
                  · show Steps p.tables e below (s₁.setTop (mkF m 74 #[.val (.int p0)] [(.long (100000000 : Int64))])) _
                    exact retOut X0 hx (t := .long) Bd.returns rfl (Or.inr (Or.inl ⟨rfl, rfl, _, rfl⟩)) (hb hby d1_74) hr
                  · show Q1 Z p0 h0 n0 _ s₁.heap _
                    rw [e0]
                    exact ⟨(congrArg (fun z => some (Value.long z)) hv).symm, N0, rfl⟩
theorem d2_0 : decode prog_15_method_5_code 0 = .ok (.lload_n 0, 1) := by decide +kernel
theorem d2_1 : decode prog_15_method_5_code 1 = .ok (.iconst 4, 1) := by decide +kernel
theorem d2_2 : decode prog_15_method_5_code 2 = .ok (.lushr, 1) := by decide +kernel
theorem d2_3 : decode prog_15_method_5_code 3 = .ok (.lstore_n 2, 1) := by decide +kernel
theorem d2_4 : decode prog_15_method_5_code 4 = .ok (.bipush 8, 2) := by decide +kernel
theorem d2_6 : decode prog_15_method_5_code 6 = .ok (.lload_n 0, 1) := by decide +kernel
theorem d2_7 : decode prog_15_method_5_code 7 = .ok (.ldc2_w 15, 3) := by decide +kernel
theorem d2_10 : decode prog_15_method_5_code 10 = .ok (.land, 1) := by decide +kernel
theorem d2_11 : decode prog_15_method_5_code 11 = .ok (.l2i, 1) := by decide +kernel
theorem d2_12 : decode prog_15_method_5_code 12 = .ok (.isub, 1) := by decide +kernel
theorem d2_13 : decode prog_15_method_5_code 13 = .ok (.istore 4, 2) := by decide +kernel
theorem d2_15 : decode prog_15_method_5_code 15 = .ok (.lload_n 2, 1) := by decide +kernel
theorem d2_16 : decode prog_15_method_5_code 16 = .ok (.getstatic 23, 3) := by decide +kernel
theorem d2_19 : decode prog_15_method_5_code 19 = .ok (.iload 4, 2) := by decide +kernel
theorem d2_21 : decode prog_15_method_5_code 21 = .ok (.laload, 1) := by decide +kernel
theorem d2_22 : decode prog_15_method_5_code 22 = .ok (.lcmp, 1) := by decide +kernel
theorem d2_23 : decode prog_15_method_5_code 23 = .ok (.ifCond .le 9, 3) := by decide +kernel
theorem d2_26 : decode prog_15_method_5_code 26 = .ok (.ldc2_w 11, 3) := by decide +kernel
theorem d2_29 : decode prog_15_method_5_code 29 = .ok (.goto 11, 3) := by decide +kernel
theorem d2_32 : decode prog_15_method_5_code 32 = .ok (.lload_n 2, 1) := by decide +kernel
theorem d2_33 : decode prog_15_method_5_code 33 = .ok (.getstatic 27, 3) := by decide +kernel
theorem d2_36 : decode prog_15_method_5_code 36 = .ok (.iload 4, 2) := by decide +kernel
theorem d2_38 : decode prog_15_method_5_code 38 = .ok (.laload, 1) := by decide +kernel
theorem d2_39 : decode prog_15_method_5_code 39 = .ok (.lmul, 1) := by decide +kernel
theorem d2_40 : decode prog_15_method_5_code 40 = .ok (.lreturn, 1) := by decide +kernel
theorem pn_70 : plainName "com/example/gavelbook/gavelbook/Decimals" = true := by first | (simp [plainName, overriddenIn]; done) | decide +kernel
def v2_3_l2 (q0 : Int64) : Int64 := ((q0.toUInt64 >>> ((4 : Int32) &&& 0x3f).toInt64.toUInt64).toInt64)
def v2_13_l4 (q0 : Int64) : Int32 := ((8 : Int32) - ((q0 &&& (15 : Int64)).toInt32))
def v2_21_at (q0 : Int64) : Int64 := (([(9223372036854775807 : Int64), (922337203685477580 : Int64), (92233720368547758 : Int64), (9223372036854775 : Int64), (922337203685477 : Int64), (92233720368547 : Int64), (9223372036854 : Int64), (922337203685 : Int64), (92233720368 : Int64)] : List Int64).getD ((v2_13_l4 q0)).toNatClampNeg (0 : Int64))
def v2_38_at (q0 : Int64) : Int64 := (([(1 : Int64), (10 : Int64), (100 : Int64), (1000 : Int64), (10000 : Int64), (100000 : Int64), (1000000 : Int64), (10000000 : Int64), (100000000 : Int64)] : List Int64).getD ((v2_13_l4 q0)).toNatClampNeg (0 : Int64))
def v2_ret (q0 : Int64) : Int64 := (if (v2_21_at q0) < (v2_3_l2 q0) then (-1 : Int64) else ((v2_3_l2 q0) * (v2_38_at q0)))
theorem ef_rm2 (m : MethodId) (q0 : Int64) : entryFrame m #[(.long q0)] 5 = mkF m 0 #[.val (.long q0), .second, .unset, .unset, .unset] [] := by first | (simp [entryFrame, mkF, argsToLocals, Value.category]; done) | rfl
def Q2 (Z : State) (q0 : Int64) (o_MOST_UNSCALED : Addr) (k_o_MOST_UNSCALED : ClassId) (o_POWERS_OF_TEN : Addr) (k_o_POWERS_OF_TEN : ClassId) (h0 : Heap) (n0 : Nat) (v : Option Value) (h : Heap) (L : List Loc) : Prop := v = some (.long (v2_ret q0)) ∧ Fr n0 L ∧ h = h0
set_option maxRecDepth 65536 in
set_option maxHeartbeats 40000000 in
theorem rm2 (l : Launch) (Z : State) (a0 : Array Value) (hw : ∀ d ∈ tables_1, d.before a0 Z = true) (ws : List Jvm.Cond) (q0 : Int64) (o_MOST_UNSCALED : Addr) (k_o_MOST_UNSCALED : ClassId) (o_POWERS_OF_TEN : Addr) (k_o_POWERS_OF_TEN : ClassId) (h0 : Heap) (n0 : Nat) (Z0 : n0 ≤ h0.size) (hI : ¬ ((8 : Int32) - ((q0 &&& (15 : Int64)).toInt32)) < 0 ∧ ((8 : Int32) - ((q0 &&& (15 : Int64)).toInt32)) < (9 : Int32)) (S_MOST_UNSCALED : Sta Z h0 "com/example/gavelbook/gavelbook/Decimals" "MOST_UNSCALED" "[J" (.ref o_MOST_UNSCALED)) (V_o_MOST_UNSCALED : Arv Z h0 o_MOST_UNSCALED k_o_MOST_UNSCALED .long (9 : Int32) (List.map Value.long ([(9223372036854775807 : Int64), (922337203685477580 : Int64), (92233720368547758 : Int64), (9223372036854775 : Int64), (922337203685477 : Int64), (92233720368547 : Int64), (9223372036854 : Int64), (922337203685 : Int64), (92233720368 : Int64)] : List Int64)) (.long (0 : Int64))) (S_POWERS_OF_TEN : Sta Z h0 "com/example/gavelbook/gavelbook/Decimals" "POWERS_OF_TEN" "[J" (.ref o_POWERS_OF_TEN)) (V_o_POWERS_OF_TEN : Arv Z h0 o_POWERS_OF_TEN k_o_POWERS_OF_TEN .long (9 : Int32) (List.map Value.long ([(1 : Int64), (10 : Int64), (100 : Int64), (1000 : Int64), (10000 : Int64), (100000 : Int64), (1000000 : Int64), (10000000 : Int64), (100000000 : Int64)] : List Int64)) (.long (0 : Int64))) :
    MetFree l (⟨"com/example/gavelbook/gavelbook/Decimals", "units", "(J)J"⟩ : MethodName) (head1 (Jvm.Cond.code (⟨"com/example/gavelbook/gavelbook/Decimals", "units", "(J)J"⟩ : MethodName) prog_15_method_5_code 5 (some .long) :: ws) ({ frames := 0, cells := 0, slots := 0, locals := 0 } : Room)) (fun a U => a = #[(.long q0)] ∧ Z.Warmed39 U.vm ∧ U.heap = h0) (fun _ _ _ _ _ => True) (fun _ U o U' => ∃ v L, o = .returned v ∧ Q2 Z q0 o_MOST_UNSCALED k_o_MOST_UNSCALED o_POWERS_OF_TEN k_o_POWERS_OF_TEN h0 n0 v U'.heap L ∧ FrameEnd U o U' L ({ frames := 0, cells := 0, slots := 0, locals := 0 } : Room).cells ({ frames := 0, cells := 0, slots := 0, locals := 0 } : Room).slots) := by
  refine MetFree.of_bodySF (plainFor_of_name pn_70) hisR ?_
  intro p e s m args below meth c s₁ Bd hml0 hP hK
  obtain ⟨rfl, hZ, hh⟩ := hP
  have hx := Bd.exec
  have hby := Bd.bytes
  have hml : c.maxLocals = 5 := hml0
  have hown : s.vm.findClass "com/example/gavelbook/gavelbook/Decimals" = some m.cls := findClass_of_methodNamed Bd.named
  have hnm := (name_of_methodNamed Bd.named Bd.method).1
  have X0 : Stand p l e ({ frames := 0, cells := 0, slots := 0, locals := 0 } : Room) s m #[(.long q0)] below meth c s₁ [] 0 0 := Stand.of_body Bd
  have e0 : s₁.heap = h0 := by rw [← hh, Bd.state]; rfl
  have N0 := Fr.nil n0
  have KC0 := Keep.refl h0 ([] : List Addr)
  have pre0 : ∀ t, Steps p.tables e below (s₁.setTop (mkF m 0 #[.val (.long q0), .second, .unset, .unset, .unset] [])) t → Steps p.tables e below (s₁.setTop (entryFrame m #[(.long q0)] 5)) t := fun t k => castTop (ef_rm2 m q0) k
  have k26 := fun (t : State) (kk : Steps p.tables e below (s₁.setTop (mkF m 16 #[.val (.long q0), .second, .val (.long (v2_3_l2 q0)), .second, .val (.int (v2_13_l4 q0))] [(.long (v2_3_l2 q0))])) t) => pre0 t (by
    show Steps p.tables e below (s₁.setTop (mkF m 0 #[.val (.long q0), .second, .unset, .unset, .unset] [])) _
    refine XS.lloadN X0.here hx rfl (hb hby d2_0) rfl ?_
    show Steps p.tables e below (s₁.setTop (mkF m 1 #[.val (.long q0), .second, .unset, .unset, .unset] [(.long q0)])) _
    refine XS.iconst X0.here hx rfl (hb hby d2_1) ?_
    show Steps p.tables e below (s₁.setTop (mkF m 2 #[.val (.long q0), .second, .unset, .unset, .unset] [(.int (4 : Int32)), (.long q0)])) _
    refine XS.lushr X0.here hx rfl (hb hby d2_2) rfl ?_
    show Steps p.tables e below (s₁.setTop (mkF m 3 #[.val (.long q0), .second, .unset, .unset, .unset] [(.long ((q0.toUInt64 >>> ((4 : Int32) &&& 0x3f).toInt64.toUInt64).toInt64))])) _
    refine XS.lstoreN X0.here hx rfl (hb hby d2_3) rfl (l' := #[.val (.long q0), .second, .val (.long (v2_3_l2 q0)), .second, .unset]) rfl ?_
    show Steps p.tables e below (s₁.setTop (mkF m 4 #[.val (.long q0), .second, .val (.long (v2_3_l2 q0)), .second, .unset] [])) _
    refine XS.bipush X0.here hx rfl (hb hby d2_4) ?_
    show Steps p.tables e below (s₁.setTop (mkF m 6 #[.val (.long q0), .second, .val (.long (v2_3_l2 q0)), .second, .unset] [(.int (8 : Int32))])) _
    refine XS.lloadN X0.here hx rfl (hb hby d2_6) rfl ?_
    show Steps p.tables e below (s₁.setTop (mkF m 7 #[.val (.long q0), .second, .val (.long (v2_3_l2 q0)), .second, .unset] [(.long q0), (.int (8 : Int32))])) _
    refine X0.ldc2Long hx hown (mvT hZ (hw _ (List.mem_of_getElem? (i := 12) rfl))) (g := (mkF m 7 #[.val (.long q0), .second, .val (.long (v2_3_l2 q0)), .second, .unset] [(.long q0), (.int (8 : Int32))])) rfl (hb hby d2_7) _ ?_
    show Steps p.tables e below (s₁.setTop (mkF m 10 #[.val (.long q0), .second, .val (.long (v2_3_l2 q0)), .second, .unset] [(.long (15 : Int64)), (.long q0), (.int (8 : Int32))])) _
    refine XS.land X0.here hx rfl (hb hby d2_10) rfl ?_
    show Steps p.tables e below (s₁.setTop (mkF m 11 #[.val (.long q0), .second, .val (.long (v2_3_l2 q0)), .second, .unset] [(.long (q0 &&& (15 : Int64))), (.int (8 : Int32))])) _
    refine XS.l2i X0.here hx rfl (hb hby d2_11) rfl ?_
    show Steps p.tables e below (s₁.setTop (mkF m 12 #[.val (.long q0), .second, .val (.long (v2_3_l2 q0)), .second, .unset] [(.int ((q0 &&& (15 : Int64)).toInt32)), (.int (8 : Int32))])) _
    refine XS.isub X0.here hx rfl (hb hby d2_12) rfl ?_
    show Steps p.tables e below (s₁.setTop (mkF m 13 #[.val (.long q0), .second, .val (.long (v2_3_l2 q0)), .second, .unset] [(.int ((8 : Int32) - ((q0 &&& (15 : Int64)).toInt32)))])) _
    refine XS.istore X0.here hx rfl (hb hby d2_13) rfl (l' := #[.val (.long q0), .second, .val (.long (v2_3_l2 q0)), .second, .val (.int (v2_13_l4 q0))]) rfl ?_
    show Steps p.tables e below (s₁.setTop (mkF m 15 #[.val (.long q0), .second, .val (.long (v2_3_l2 q0)), .second, .val (.int (v2_13_l4 q0))] [])) _
    refine XS.lloadN X0.here hx rfl (hb hby d2_15) rfl ?_
    exact kk)
  obtain ⟨T27, X27, e27, st27⟩ := getS2 X0 hx hZ hown (host := "") (Or.inl (hw _ (List.mem_of_getElem? (i := 13) rfl))) Via.refl e0 S_MOST_UNSCALED (g := (mkF m 16 #[.val (.long q0), .second, .val (.long (v2_3_l2 q0)), .second, .val (.int (v2_13_l4 q0))] [(.long (v2_3_l2 q0))])) rfl (hb hby d2_16)
  have k28 := fun (t : State) (kk : Steps p.tables e below (T27.setTop (mkF m 19 #[.val (.long q0), .second, .val (.long (v2_3_l2 q0)), .second, .val (.int (v2_13_l4 q0))] [(.ref o_MOST_UNSCALED), (.long (v2_3_l2 q0))])) t) => k26 t (st27 _ kk)
  have k29 := fun (t : State) (kk : Steps p.tables e below (T27.setTop (mkF m 21 #[.val (.long q0), .second, .val (.long (v2_3_l2 q0)), .second, .val (.int (v2_13_l4 q0))] [(.int (v2_13_l4 q0)), (.ref o_MOST_UNSCALED), (.long (v2_3_l2 q0))])) t) => k28 t (by
    show Steps p.tables e below (T27.setTop (mkF m 19 #[.val (.long q0), .second, .val (.long (v2_3_l2 q0)), .second, .val (.int (v2_13_l4 q0))] [(.ref o_MOST_UNSCALED), (.long (v2_3_l2 q0))])) _
    refine XS.iload X27.here hx rfl (hb hby d2_19) rfl ?_
    exact kk)
  have hV30 := V_o_MOST_UNSCALED
  obtain ⟨cl30, Ar30, q30, S30, Nn30, H30, G30⟩ := hV30
  have hb31 : ¬ (v2_13_l4 q0) < 0 ∧ (v2_13_l4 q0) < (9 : Int32) := hI
  have hin31 : ¬ ((v2_13_l4 q0) < 0 ∨ cl30.slots.size ≤ ((v2_13_l4 q0)).toNatClampNeg) := inb_of S30 hb31
  have hat31 : cl30.slots[((v2_13_l4 q0)).toNatClampNeg]? = some (.long (v2_21_at q0)) := Has.at H30 hin31 (own_getD_long _ _ _)
  have st31 := X27.laload hx (j := (v2_13_l4 q0)) (v := (.long (v2_21_at q0))) (by rw [e27]; exact Ar30.1) (State.isArrayOf_alike hZ.alike Ar30.2.1) Ar30.2.2 hin31 hat31 (g := (mkF m 21 #[.val (.long q0), .second, .val (.long (v2_3_l2 q0)), .second, .val (.int (v2_13_l4 q0))] [(.int (v2_13_l4 q0)), (.ref o_MOST_UNSCALED), (.long (v2_3_l2 q0))])) rfl rfl (hb hby d2_21)
  have k32 := fun (t : State) (kk : Steps p.tables e below (T27.setTop (mkF m 22 #[.val (.long q0), .second, .val (.long (v2_3_l2 q0)), .second, .val (.int (v2_13_l4 q0))] [(.long (v2_21_at q0)), (.long (v2_3_l2 q0))])) t) => k29 t (st31 _ kk)
  have k33 := fun (t : State) (kk : Steps p.tables e below (T27.setTop (mkF m 23 #[.val (.long q0), .second, .val (.long (v2_3_l2 q0)), .second, .val (.int (v2_13_l4 q0))] [(.int (lcmpW (v2_3_l2 q0) (v2_21_at q0)))])) t) => k32 t (by
    show Steps p.tables e below (T27.setTop (mkF m 22 #[.val (.long q0), .second, .val (.long (v2_3_l2 q0)), .second, .val (.int (v2_13_l4 q0))] [(.long (v2_21_at q0)), (.long (v2_3_l2 q0))])) _
    refine XS.lcmp X27.here hx rfl (hb hby d2_22) rfl ?_
    exact kk)
  by_cases hc23_34 : (v2_21_at q0) < (v2_3_l2 q0)
  · have k35 := fun (t : State) (kk : Steps p.tables e below (T27.setTop (mkF m 40 #[.val (.long q0), .second, .val (.long (v2_3_l2 q0)), .second, .val (.int (v2_13_l4 q0))] [(.long (-1 : Int64))])) t) => k33 t (by
      show Steps p.tables e below (T27.setTop (mkF m 23 #[.val (.long q0), .second, .val (.long (v2_3_l2 q0)), .second, .val (.int (v2_13_l4 q0))] [(.int (lcmpW (v2_3_l2 q0) (v2_21_at q0)))])) _
      refine XS.ifNo X27.here hx rfl (hb hby d2_23) rfl ((if0 _ _).trans (tlt ((lw_gt _ _).mpr hc23_34)).2.2.2) ?_
      show Steps p.tables e below (T27.setTop (mkF m 26 #[.val (.long q0), .second, .val (.long (v2_3_l2 q0)), .second, .val (.int (v2_13_l4 q0))] [])) _
      refine X27.ldc2Long hx hown (mvT hZ (hw _ (List.mem_of_getElem? (i := 19) rfl))) (g := (mkF m 26 #[.val (.long q0), .second, .val (.long (v2_3_l2 q0)), .second, .val (.int (v2_13_l4 q0))] [])) rfl (hb hby d2_26) _ ?_
      show Steps p.tables e below (T27.setTop (mkF m 29 #[.val (.long q0), .second, .val (.long (v2_3_l2 q0)), .second, .val (.int (v2_13_l4 q0))] [(.long (-1 : Int64))])) _
      refine XS.goto X27.here hx rfl (pc0 := 29) (pc' := 40) rfl (hb hby d2_29) (by decide) (by decide) ?_
      exact kk)
    obtain ⟨fs, hr, hrun, hended, hW, hsame⟩ := X27.leave (v := some (.long (-1 : Int64))) (fun h => by rw [Bd.returns] at h; cases h)
    have hv : (v2_ret q0) = (-1 : Int64) := (if_pos hc23_34)
    refine ⟨_, _, k35 _ ?_, hrun, hended, _, _, rfl, ?_, ⟨_, rfl⟩, hW, hsame.mono (by decide) (by decide)⟩
    · show Steps p.tables e below (T27.setTop (mkF m 40 #[.val (.long q0), .second, .val (.long (v2_3_l2 q0)), .second, .val (.int (v2_13_l4 q0))] [(.long (-1 : Int64))])) _
      exact retOut X27 hx (t := .long) Bd.returns rfl (Or.inr (Or.inl ⟨rfl, rfl, _, rfl⟩)) (hb hby d2_40) hr
    · show Q2 Z q0 o_MOST_UNSCALED k_o_MOST_UNSCALED o_POWERS_OF_TEN k_o_POWERS_OF_TEN h0 n0 _ T27.heap _
      rw [e27]
      exact ⟨(congrArg (fun z => some (Value.long z)) hv).symm, N0, rfl⟩
  · have k36 := fun (t : State) (kk : Steps p.tables e below (T27.setTop (mkF m 33 #[.val (.long q0), .second, .val (.long (v2_3_l2 q0)), .second, .val (.int (v2_13_l4 q0))] [(.long (v2_3_l2 q0))])) t) => k33 t (by
      show Steps p.tables e below (T27.setTop (mkF m 23 #[.val (.long q0), .second, .val (.long (v2_3_l2 q0)), .second, .val (.int (v2_13_l4 q0))] [(.int (lcmpW (v2_3_l2 q0) (v2_21_at q0)))])) _
      refine XS.ifYes X27.here hx rfl (pc0 := 23) (pc' := 32) rfl (hb hby d2_23) rfl ((if0 _ _).trans (flt (fun q => hc23_34 ((lw_gt _ _).mp q))).2.2.2) (by decide) (by decide) ?_
      show Steps p.tables e below (T27.setTop (mkF m 32 #[.val (.long q0), .second, .val (.long (v2_3_l2 q0)), .second, .val (.int (v2_13_l4 q0))] [])) _
      refine XS.lloadN X27.here hx rfl (hb hby d2_32) rfl ?_
      exact kk)
    obtain ⟨T37, X37, e37, st37⟩ := getS2 X27 hx hZ hown (host := "") (Or.inl (hw _ (List.mem_of_getElem? (i := 15) rfl))) Via.refl e27 S_POWERS_OF_TEN (g := (mkF m 33 #[.val (.long q0), .second, .val (.long (v2_3_l2 q0)), .second, .val (.int (v2_13_l4 q0))] [(.long (v2_3_l2 q0))])) rfl (hb hby d2_33)
    have k38 := fun (t : State) (kk : Steps p.tables e below (T37.setTop (mkF m 36 #[.val (.long q0), .second, .val (.long (v2_3_l2 q0)), .second, .val (.int (v2_13_l4 q0))] [(.ref o_POWERS_OF_TEN), (.long (v2_3_l2 q0))])) t) => k36 t (st37 _ kk)
    have k39 := fun (t : State) (kk : Steps p.tables e below (T37.setTop (mkF m 38 #[.val (.long q0), .second, .val (.long (v2_3_l2 q0)), .second, .val (.int (v2_13_l4 q0))] [(.int (v2_13_l4 q0)), (.ref o_POWERS_OF_TEN), (.long (v2_3_l2 q0))])) t) => k38 t (by
      show Steps p.tables e below (T37.setTop (mkF m 36 #[.val (.long q0), .second, .val (.long (v2_3_l2 q0)), .second, .val (.int (v2_13_l4 q0))] [(.ref o_POWERS_OF_TEN), (.long (v2_3_l2 q0))])) _
      refine XS.iload X37.here hx rfl (hb hby d2_36) rfl ?_
      exact kk)
    have hV40 := V_o_POWERS_OF_TEN
    obtain ⟨cl40, Ar40, q40, S40, Nn40, H40, G40⟩ := hV40
    have hb41 : ¬ (v2_13_l4 q0) < 0 ∧ (v2_13_l4 q0) < (9 : Int32) := hI
    have hin41 : ¬ ((v2_13_l4 q0) < 0 ∨ cl40.slots.size ≤ ((v2_13_l4 q0)).toNatClampNeg) := inb_of S40 hb41
    have hat41 : cl40.slots[((v2_13_l4 q0)).toNatClampNeg]? = some (.long (v2_38_at q0)) := Has.at H40 hin41 (own_getD_long _ _ _)
    have st41 := X37.laload hx (j := (v2_13_l4 q0)) (v := (.long (v2_38_at q0))) (by rw [e37]; exact Ar40.1) (State.isArrayOf_alike hZ.alike Ar40.2.1) Ar40.2.2 hin41 hat41 (g := (mkF m 38 #[.val (.long q0), .second, .val (.long (v2_3_l2 q0)), .second, .val (.int (v2_13_l4 q0))] [(.int (v2_13_l4 q0)), (.ref o_POWERS_OF_TEN), (.long (v2_3_l2 q0))])) rfl rfl (hb hby d2_38)
    have k42 := fun (t : State) (kk : Steps p.tables e below (T37.setTop (mkF m 39 #[.val (.long q0), .second, .val (.long (v2_3_l2 q0)), .second, .val (.int (v2_13_l4 q0))] [(.long (v2_38_at q0)), (.long (v2_3_l2 q0))])) t) => k39 t (st41 _ kk)
    have k43 := fun (t : State) (kk : Steps p.tables e below (T37.setTop (mkF m 40 #[.val (.long q0), .second, .val (.long (v2_3_l2 q0)), .second, .val (.int (v2_13_l4 q0))] [(.long ((v2_3_l2 q0) * (v2_38_at q0)))])) t) => k42 t (by
      show Steps p.tables e below (T37.setTop (mkF m 39 #[.val (.long q0), .second, .val (.long (v2_3_l2 q0)), .second, .val (.int (v2_13_l4 q0))] [(.long (v2_38_at q0)), (.long (v2_3_l2 q0))])) _
      refine XS.lmul X37.here hx rfl (hb hby d2_39) rfl ?_
      exact kk)
    obtain ⟨fs, hr, hrun, hended, hW, hsame⟩ := X37.leave (v := some (.long ((v2_3_l2 q0) * (v2_38_at q0)))) (fun h => by rw [Bd.returns] at h; cases h)
    have hv : (v2_ret q0) = ((v2_3_l2 q0) * (v2_38_at q0)) := (if_neg hc23_34)
    refine ⟨_, _, k43 _ ?_, hrun, hended, _, _, rfl, ?_, ⟨_, rfl⟩, hW, hsame.mono (by decide) (by decide)⟩
    · show Steps p.tables e below (T37.setTop (mkF m 40 #[.val (.long q0), .second, .val (.long (v2_3_l2 q0)), .second, .val (.int (v2_13_l4 q0))] [(.long ((v2_3_l2 q0) * (v2_38_at q0)))])) _
      exact retOut X37 hx (t := .long) Bd.returns rfl (Or.inr (Or.inl ⟨rfl, rfl, _, rfl⟩)) (hb hby d2_40) hr
    · show Q2 Z q0 o_MOST_UNSCALED k_o_MOST_UNSCALED o_POWERS_OF_TEN k_o_POWERS_OF_TEN h0 n0 _ T37.heap _
      rw [e37]
      exact ⟨(congrArg (fun z => some (Value.long z)) hv).symm, N0, rfl⟩
theorem pd_0 : parseMethodDescriptor "(I)J" = some ⟨[.int], some .long⟩ := by decide +kernel
theorem pd_1 : parseMethodDescriptor "(J)J" = some ⟨[.long], some .long⟩ := by decide +kernel
def v0_7_l5 (p1 : Int32) : Int32 := ((p1 &&& (2147483647 : Int32)) % (9 : Int32))
def v0_17_l6 (p1 : Int32) : Int64 := (v1_ret ((8 : Int32) - (v0_7_l5 p1)))
def v0_39_l8 (p1 : Int32) (p3 : Int32) : Int64 := (((9223372036854775807 : Int64) / (v0_17_l6 p1)) + (((p3 &&& (3 : Int32)) - (1 : Int32)).toInt64))
def v0_22_l8 (q0 : Int64) (p1 : Int32) (p2 : Int32) (p3 : Int32) : Int64 := if (p2 &&& (1 : Int32)) = (0 : Int32) then q0 else (v0_39_l8 p1 p3)
def v0_53_l10 (q0 : Int64) (p1 : Int32) (p2 : Int32) (p3 : Int32) : Int64 := ((v0_22_l8 q0 p1 p2 p3) &&& (1152921504606846975 : Int64))
def v0_63_l12 (q0 : Int64) (p1 : Int32) (p2 : Int32) (p3 : Int32) : Int64 := (((v0_53_l10 q0 p1 p2 p3) <<< ((4 : Int32) &&& 0x3f).toInt64) ||| ((v0_7_l5 p1).toInt64))
def v0_70_l14 (q0 : Int64) (p1 : Int32) (p2 : Int32) (p3 : Int32) : Int64 := ((v0_53_l10 q0 p1 p2 p3) * (v0_17_l6 p1))
def v0_87_s0 (q0 : Int64) (p1 : Int32) (p2 : Int32) (p3 : Int32) : Int64 := if ((v0_70_l14 q0 p1 p2 p3) / (v0_17_l6 p1)) = (v0_53_l10 q0 p1 p2 p3) then (v0_70_l14 q0 p1 p2 p3) else (-1 : Int64)
def v0_76_s0 (q0 : Int64) (p1 : Int32) (p2 : Int32) (p3 : Int32) : Int64 := if (v0_70_l14 q0 p1 p2 p3) < (0 : Int64) then (-1 : Int64) else (v0_87_s0 q0 p1 p2 p3)
def v0_108_s0 (q0 : Int64) (p1 : Int32) (p2 : Int32) (p3 : Int32) : Int32 := if (v2_ret (v0_63_l12 q0 p1 p2 p3)) = (v0_76_s0 q0 p1 p2 p3) then (1 : Int32) else (0 : Int32)
theorem own_s (p1 : Int32) : 0 ≤ (v0_7_l5 p1).toInt ∧ (v0_7_l5 p1).toInt < 9 := by
  have h2 := (c_and p1 (2147483647 : Int32) (by decide)).1
  have h3 := (c_iremV (p1 &&& 2147483647) (9 : Int32)).1 h2 (by decide)
  exact ⟨h3.1, h3.2.1⟩
theorem own_nz (p1 : Int32) : v0_17_l6 p1 ≠ 0 := by
  unfold v0_17_l6 v1_ret
  repeat' split
  all_goals decide
theorem own_un (q0 : Int64) (p1 p2 p3 : Int32) : 0 ≤ (v0_53_l10 q0 p1 p2 p3).toInt ∧ (v0_53_l10 q0 p1 p2 p3).toInt < 1152921504606846976 := by
  unfold v0_53_l10
  have h := c_maskL (v0_22_l8 q0 p1 p2 p3) (1152921504606846975 : Int64) 60 (by decide) (by decide)
  have e : ((2 ^ 60 : Nat) : Int) = 1152921504606846976 := rfl
  rw [h, e]; omega
theorem own_packed (U : Int64) (s : Int32) (h0 : 0 ≤ U.toInt) (h1 : U.toInt < 1152921504606846976) (s0 : 0 ≤ s.toInt) (s1 : s.toInt < 9) :
    v2_3_l2 ((U <<< ((4 : Int32) &&& 0x3f).toInt64) ||| s.toInt64) = U ∧ v2_13_l4 ((U <<< ((4 : Int32) &&& 0x3f).toInt64) ||| s.toInt64) = 8 - s := by
  have e1 := c_lshl U (4 : Int32) 4 (by decide)
  have q : ((2 ^ 4 : Nat) : Int) = 16 := rfl
  rw [q] at e1
  have i1 := c_i2l s
  have e2 := c_orL (U <<< ((4 : Int32) &&& 0x3f).toInt64) s.toInt64 4 (by decide) 16 rfl (by omega) (by omega) (by omega)
  generalize hP : (U <<< ((4 : Int32) &&& 0x3f).toInt64) ||| s.toInt64 = P at *
  constructor
  · apply Int64.toInt_inj.mp
    unfold v2_3_l2
    rw [c_lushr P (4 : Int32) 4 (by decide) (by decide), q]
    omega
  · apply Int32.toInt_inj.mp
    unfold v2_13_l4
    have m := c_maskL P (15 : Int64) 4 (by decide) (by decide)
    rw [q] at m
    have l := c_l2i (P &&& 15); have r := rng32 (P &&& 15).toInt32
    have a := c_isub (8 : Int32) (P &&& 15).toInt32; have ra := rng32 ((8 : Int32) - (P &&& 15).toInt32)
    have b := c_isub (8 : Int32) s; have rb := rng32 ((8 : Int32) - s)
    have n8 : (8 : Int32).toInt = 8 := rfl
    omega
theorem own_hI (q0 : Int64) (p1 p2 p3 : Int32) : ¬ ((8 : Int32) - (((v0_63_l12 q0 p1 p2 p3) &&& (15 : Int64)).toInt32)) < 0 ∧ ((8 : Int32) - (((v0_63_l12 q0 p1 p2 p3) &&& (15 : Int64)).toInt32)) < (9 : Int32) := by
  have hs := own_s p1; have hU := own_un q0 p1 p2 p3
  have h := (own_packed _ _ hU.1 hU.2 hs.1 hs.2).2
  have h' : ((8 : Int32) - (((v0_63_l12 q0 p1 p2 p3) &&& (15 : Int64)).toInt32)) = 8 - v0_7_l5 p1 := h
  rw [h', Int32.lt_iff_toInt_lt, Int32.lt_iff_toInt_lt]
  have b := c_isub (8 : Int32) (v0_7_l5 p1); have rb := rng32 ((8 : Int32) - v0_7_l5 p1)
  have n8 : (8 : Int32).toInt = 8 := rfl
  have n9 : (9 : Int32).toInt = 9 := rfl
  have n0 : (0 : Int32).toInt = 0 := rfl
  omega
theorem own_fin (U p M : Int64) (P K : Int) (hp : p.toInt = P) (hM : M.toInt = K) (hP : 1 ≤ P ∧ P ≤ 100000000) (hK : K = 9223372036854775807 / P) (u0 : 0 ≤ U.toInt) (u1 : U.toInt < 1152921504606846976) :
    (if M < U then (-1 : Int64) else U * p) = (if U * p < (0 : Int64) then (-1 : Int64) else (if (U * p) / p = U then U * p else (-1 : Int64))) := by
  have m := c_lmul U p; have rm := rng64 (U * p)
  rw [hp] at m
  have hne : p ≠ -1 := fun h => by rw [h] at hp; have : (-1 : Int64).toInt = -1 := rfl; omega
  have d := c_ldiv (U * p) p P hp hne
  have z0 : (0 : Int64).toInt = 0 := rfl
  have e1 : K * P ≤ 9223372036854775807 := by rw [hK]; exact Int.ediv_mul_le _ (by omega)
  have e2 : 9223372036854775807 < (K + 1) * P := by rw [hK]; exact Int.lt_ediv_add_one_mul_self _ (by omega)
  by_cases h : M < U
  · rw [if_pos h]
    rw [Int64.lt_iff_toInt_lt, hM] at h
    by_cases hn : U * p < 0
    · rw [if_pos hn]
    · rw [if_neg hn]
      rw [Int64.lt_iff_toInt_lt, z0] at hn
      by_cases hq : U * p / p = U
      · exfalso
        have d1 := d.1 (by omega)
        rw [hq] at d1
        have f1 := Int.ediv_mul_le (U * p).toInt (show P ≠ 0 by omega)
        have f2 : (K + 1) * P ≤ U.toInt * P := Int.mul_le_mul_of_nonneg_right (by omega) (by omega)
        rw [← d1] at f1
        omega
      · rw [if_neg hq]
  · rw [if_neg h]
    rw [Int64.lt_iff_toInt_lt, hM] at h
    have f2 : U.toInt * P ≤ K * P := Int.mul_le_mul_of_nonneg_right (by omega) (by omega)
    have f3 : 0 ≤ U.toInt * P := Int.mul_nonneg u0 (by omega)
    have e : (U * p).toInt = U.toInt * P := by omega
    have hn : ¬ U * p < 0 := by rw [Int64.lt_iff_toInt_lt, z0, e]; omega
    have hq : U * p / p = U := by
      apply Int64.toInt_inj.mp
      rw [d.1 (by omega), e]
      exact Int.mul_ediv_cancel _ (by omega)
    rw [if_neg hn, if_pos hq]
theorem own_law (q0 : Int64) (p1 p2 p3 : Int32) : (nar .boolean (v0_108_s0 q0 p1 p2 p3)) = 1 := by
  have key : v2_ret (v0_63_l12 q0 p1 p2 p3) = v0_76_s0 q0 p1 p2 p3 := by
    have hs := own_s p1; have hU := own_un q0 p1 p2 p3
    have hk := own_packed _ _ hU.1 hU.2 hs.1 hs.2
    have h1 : v2_3_l2 (v0_63_l12 q0 p1 p2 p3) = v0_53_l10 q0 p1 p2 p3 := hk.1
    have h2 : v2_13_l4 (v0_63_l12 q0 p1 p2 p3) = 8 - v0_7_l5 p1 := hk.2
    unfold v2_ret v2_21_at v2_38_at v0_76_s0 v0_87_s0 v0_70_l14 v0_17_l6
    rw [h1, h2]
    generalize v0_53_l10 q0 p1 p2 p3 = U at *
    have hc : (8 : Int32) - v0_7_l5 p1 = 0 ∨ (8 : Int32) - v0_7_l5 p1 = 1 ∨ (8 : Int32) - v0_7_l5 p1 = 2 ∨ (8 : Int32) - v0_7_l5 p1 = 3 ∨ (8 : Int32) - v0_7_l5 p1 = 4 ∨ (8 : Int32) - v0_7_l5 p1 = 5 ∨ (8 : Int32) - v0_7_l5 p1 = 6 ∨ (8 : Int32) - v0_7_l5 p1 = 7 ∨ (8 : Int32) - v0_7_l5 p1 = 8 := by
      have b := c_isub (8 : Int32) (v0_7_l5 p1); have rb := rng32 ((8 : Int32) - v0_7_l5 p1)
      have n8 : (8 : Int32).toInt = 8 := rfl
      simp only [← Int32.toInt_inj]
      have n0 : (0 : Int32).toInt = 0 := rfl
      have n1 : (1 : Int32).toInt = 1 := rfl
      have n2 : (2 : Int32).toInt = 2 := rfl
      have n3 : (3 : Int32).toInt = 3 := rfl
      have n4 : (4 : Int32).toInt = 4 := rfl
      have n5 : (5 : Int32).toInt = 5 := rfl
      have n6 : (6 : Int32).toInt = 6 := rfl
      have n7 : (7 : Int32).toInt = 7 := rfl
      omega
    generalize (8 : Int32) - v0_7_l5 p1 = i at *
    rcases hc with rfl | rfl | rfl | rfl | rfl | rfl | rfl | rfl | rfl
    · exact own_fin U (1 : Int64) (9223372036854775807 : Int64) 1 9223372036854775807 rfl rfl (by decide) (by decide) hU.1 hU.2
    · exact own_fin U (10 : Int64) (922337203685477580 : Int64) 10 922337203685477580 rfl rfl (by decide) (by decide) hU.1 hU.2
    · exact own_fin U (100 : Int64) (92233720368547758 : Int64) 100 92233720368547758 rfl rfl (by decide) (by decide) hU.1 hU.2
    · exact own_fin U (1000 : Int64) (9223372036854775 : Int64) 1000 9223372036854775 rfl rfl (by decide) (by decide) hU.1 hU.2
    · exact own_fin U (10000 : Int64) (922337203685477 : Int64) 10000 922337203685477 rfl rfl (by decide) (by decide) hU.1 hU.2
    · exact own_fin U (100000 : Int64) (92233720368547 : Int64) 100000 92233720368547 rfl rfl (by decide) (by decide) hU.1 hU.2
    · exact own_fin U (1000000 : Int64) (9223372036854 : Int64) 1000000 9223372036854 rfl rfl (by decide) (by decide) hU.1 hU.2
    · exact own_fin U (10000000 : Int64) (922337203685 : Int64) 10000000 922337203685 rfl rfl (by decide) (by decide) hU.1 hU.2
    · exact own_fin U (100000000 : Int64) (92233720368 : Int64) 100000000 92233720368 rfl rfl (by decide) (by decide) hU.1 hU.2
  have e : v0_108_s0 q0 p1 p2 p3 = 1 := by unfold v0_108_s0; exact if_pos key
  rw [e]; rfl

theorem ef_rm0 (m : MethodId) (q0 : Int64) (p1 : Int32) (p2 : Int32) (p3 : Int32) : entryFrame m #[(.long q0), (.int p1), (.int p2), (.int p3)] maxLocals = mkF m 0 #[.val (.long q0), .second, .val (.int p1), .val (.int p2), .val (.int p3), .unset, .unset, .unset, .unset, .unset, .unset, .unset, .unset, .unset, .unset, .unset, .unset, .unset] [] := by first | (simp [entryFrame, mkF, argsToLocals, Value.category, maxLocals]; done) | rfl
def Q0 (Z : State) (q0 : Int64) (p1 : Int32) (p2 : Int32) (p3 : Int32) (o_MOST_UNSCALED : Addr) (k_o_MOST_UNSCALED : ClassId) (o_POWERS_OF_TEN : Addr) (k_o_POWERS_OF_TEN : ClassId) (h0 : Heap) (n0 : Nat) (v : Option Value) (h : Heap) (L : List Loc) : Prop := v = some (.int 1) ∧ Fr n0 L
set_option maxRecDepth 65536 in
set_option maxHeartbeats 40000000 in
theorem rm0 (l : Launch) (Z : State) (a0 : Array Value) (hw : ∀ d ∈ tables_1, d.before a0 Z = true) (ws : List Jvm.Cond) (q0 : Int64) (p1 : Int32) (p2 : Int32) (p3 : Int32) (o_MOST_UNSCALED : Addr) (k_o_MOST_UNSCALED : ClassId) (o_POWERS_OF_TEN : Addr) (k_o_POWERS_OF_TEN : ClassId) (h0 : Heap) (n0 : Nat) (Z0 : n0 ≤ h0.size) (S_MOST_UNSCALED : Sta Z h0 "com/example/gavelbook/gavelbook/Decimals" "MOST_UNSCALED" "[J" (.ref o_MOST_UNSCALED)) (V_o_MOST_UNSCALED : Arv Z h0 o_MOST_UNSCALED k_o_MOST_UNSCALED .long (9 : Int32) (List.map Value.long ([(9223372036854775807 : Int64), (922337203685477580 : Int64), (92233720368547758 : Int64), (9223372036854775 : Int64), (922337203685477 : Int64), (92233720368547 : Int64), (9223372036854 : Int64), (922337203685 : Int64), (92233720368 : Int64)] : List Int64)) (.long (0 : Int64))) (S_POWERS_OF_TEN : Sta Z h0 "com/example/gavelbook/gavelbook/Decimals" "POWERS_OF_TEN" "[J" (.ref o_POWERS_OF_TEN)) (V_o_POWERS_OF_TEN : Arv Z h0 o_POWERS_OF_TEN k_o_POWERS_OF_TEN .long (9 : Int32) (List.map Value.long ([(1 : Int64), (10 : Int64), (100 : Int64), (1000 : Int64), (10000 : Int64), (100000 : Int64), (1000000 : Int64), (10000000 : Int64), (100000000 : Int64)] : List Int64)) (.long (0 : Int64))) :
    MetFree l x (head1 (Jvm.Cond.code x code maxLocals ret :: ws) room_1) (fun a U => a = #[(.long q0), (.int p1), (.int p2), (.int p3)] ∧ Z.Warmed39 U.vm ∧ U.heap = h0) (fun _ _ _ _ _ => True) (fun _ U o U' => ∃ v L, o = .returned v ∧ Q0 Z q0 p1 p2 p3 o_MOST_UNSCALED k_o_MOST_UNSCALED o_POWERS_OF_TEN k_o_POWERS_OF_TEN h0 n0 v U'.heap L ∧ FrameEnd U o U' L room_1.cells room_1.slots) := by
  refine MetFree.of_bodySF (plainFor_of_name pn_42) hisR ?_
  intro p e s m args below meth c s₁ Bd hml0 hP hK
  obtain ⟨rfl, hZ, hh⟩ := hP
  have hx := Bd.exec
  have hby := Bd.bytes
  have hml : c.maxLocals = 18 := hml0
  have hown : s.vm.findClass "com/example/gavelbook/gavelbook/DecimalsUnitsPinLaw" = some m.cls := findClass_of_methodNamed Bd.named
  have hnm := (name_of_methodNamed Bd.named Bd.method).1
  have X0 : Stand p l e room_1 s m #[(.long q0), (.int p1), (.int p2), (.int p3)] below meth c s₁ [] 0 0 := Stand.of_body Bd
  have e0 : s₁.heap = h0 := by rw [← hh, Bd.state]; rfl
  have N0 := Fr.nil n0
  have KC0 := Keep.refl h0 ([] : List Addr)
  have pre0 : ∀ t, Steps p.tables e below (s₁.setTop (mkF m 0 #[.val (.long q0), .second, .val (.int p1), .val (.int p2), .val (.int p3), .unset, .unset, .unset, .unset, .unset, .unset, .unset, .unset, .unset, .unset, .unset, .unset, .unset] [])) t → Steps p.tables e below (s₁.setTop (entryFrame m #[(.long q0), (.int p1), (.int p2), (.int p3)] maxLocals)) t := fun t k => castTop (ef_rm0 m q0 p1 p2 p3) k
  have k44 := fun (t : State) (kk : Steps p.tables e below (s₁.setTop (mkF m 14 #[.val (.long q0), .second, .val (.int p1), .val (.int p2), .val (.int p3), .val (.int (v0_7_l5 p1)), .unset, .unset, .unset, .unset, .unset, .unset, .unset, .unset, .unset, .unset, .unset, .unset] [(.int ((8 : Int32) - (v0_7_l5 p1)))])) t) => pre0 t (by
    show Steps p.tables e below (s₁.setTop (mkF m 0 #[.val (.long q0), .second, .val (.int p1), .val (.int p2), .val (.int p3), .unset, .unset, .unset, .unset, .unset, .unset, .unset, .unset, .unset, .unset, .unset, .unset, .unset] [])) _
    refine XS.iloadN X0.here hx rfl (hb hby at_0) rfl ?_
    show Steps p.tables e below (s₁.setTop (mkF m 1 #[.val (.long q0), .second, .val (.int p1), .val (.int p2), .val (.int p3), .unset, .unset, .unset, .unset, .unset, .unset, .unset, .unset, .unset, .unset, .unset, .unset, .unset] [(.int p1)])) _
    refine X0.ldcInt hx hown (mvT hZ (hw _ (List.mem_of_getElem? (i := 0) rfl))) (g := (mkF m 1 #[.val (.long q0), .second, .val (.int p1), .val (.int p2), .val (.int p3), .unset, .unset, .unset, .unset, .unset, .unset, .unset, .unset, .unset, .unset, .unset, .unset, .unset] [(.int p1)])) rfl (hb hby at_1) _ ?_
    show Steps p.tables e below (s₁.setTop (mkF m 3 #[.val (.long q0), .second, .val (.int p1), .val (.int p2), .val (.int p3), .unset, .unset, .unset, .unset, .unset, .unset, .unset, .unset, .unset, .unset, .unset, .unset, .unset] [(.int (2147483647 : Int32)), (.int p1)])) _
    refine XS.iand X0.here hx rfl (hb hby at_3) rfl ?_
    show Steps p.tables e below (s₁.setTop (mkF m 4 #[.val (.long q0), .second, .val (.int p1), .val (.int p2), .val (.int p3), .unset, .unset, .unset, .unset, .unset, .unset, .unset, .unset, .unset, .unset, .unset, .unset, .unset] [(.int (p1 &&& (2147483647 : Int32)))])) _
    refine XS.bipush X0.here hx rfl (hb hby at_4) ?_
    show Steps p.tables e below (s₁.setTop (mkF m 6 #[.val (.long q0), .second, .val (.int p1), .val (.int p2), .val (.int p3), .unset, .unset, .unset, .unset, .unset, .unset, .unset, .unset, .unset, .unset, .unset, .unset, .unset] [(.int (9 : Int32)), (.int (p1 &&& (2147483647 : Int32)))])) _
    refine iremM X0 hx rfl (hb hby at_6) rfl (by decide) ?_
    show Steps p.tables e below (s₁.setTop (mkF m 7 #[.val (.long q0), .second, .val (.int p1), .val (.int p2), .val (.int p3), .unset, .unset, .unset, .unset, .unset, .unset, .unset, .unset, .unset, .unset, .unset, .unset, .unset] [(.int ((p1 &&& (2147483647 : Int32)) % (9 : Int32)))])) _
    refine XS.istore X0.here hx rfl (hb hby at_7) rfl (l' := #[.val (.long q0), .second, .val (.int p1), .val (.int p2), .val (.int p3), .val (.int (v0_7_l5 p1)), .unset, .unset, .unset, .unset, .unset, .unset, .unset, .unset, .unset, .unset, .unset, .unset]) rfl ?_
    show Steps p.tables e below (s₁.setTop (mkF m 9 #[.val (.long q0), .second, .val (.int p1), .val (.int p2), .val (.int p3), .val (.int (v0_7_l5 p1)), .unset, .unset, .unset, .unset, .unset, .unset, .unset, .unset, .unset, .unset, .unset, .unset] [])) _
    refine XS.bipush X0.here hx rfl (hb hby at_9) ?_
    show Steps p.tables e below (s₁.setTop (mkF m 11 #[.val (.long q0), .second, .val (.int p1), .val (.int p2), .val (.int p3), .val (.int (v0_7_l5 p1)), .unset, .unset, .unset, .unset, .unset, .unset, .unset, .unset, .unset, .unset, .unset, .unset] [(.int (8 : Int32))])) _
    refine XS.iload X0.here hx rfl (hb hby at_11) rfl ?_
    show Steps p.tables e below (s₁.setTop (mkF m 13 #[.val (.long q0), .second, .val (.int p1), .val (.int p2), .val (.int p3), .val (.int (v0_7_l5 p1)), .unset, .unset, .unset, .unset, .unset, .unset, .unset, .unset, .unset, .unset, .unset, .unset] [(.int (v0_7_l5 p1)), (.int (8 : Int32))])) _
    refine XS.isub X0.here hx rfl (hb hby at_13) rfl ?_
    exact kk)
  have Zz45 : n0 ≤ h0.size := (Nat.le_trans Z0 KC0.1)
  obtain ⟨_, _, ⟨T45, L45, k45, n45⟩, -, X45, ⟨Lc45, hQ45, l45, y45, z45⟩, st45⟩ := Jvm.LawKit.callS X0 hx (y := (⟨"com/example/gavelbook/gavelbook/DecimalsUnitsPinLaw", "pow", "(I)J"⟩ : MethodName)) hown (mvT hZ (hw _ (List.mem_of_getElem? (i := 1) rfl))) (mvT hZ (hw _ (List.mem_of_getElem? (i := 2) rfl))) (mvT hZ (hw _ (List.mem_of_getElem? (i := 3) rfl))) (mvT hZ (hw _ (List.mem_of_getElem? (i := 4) rfl))) (by decide) (backOf (W := 0) (rm1 l Z a0 hw [] ((8 : Int32) - (v0_7_l5 p1)) h0 n0 Zz45) hZ (hw _ (List.mem_of_getElem? (i := 4) rfl)) (hw _ (List.mem_of_getElem? (i := 3) rfl)) (by decide) (by decide)) (g := (mkF m 14 #[.val (.long q0), .second, .val (.int p1), .val (.int p2), .val (.int p3), .val (.int (v0_7_l5 p1)), .unset, .unset, .unset, .unset, .unset, .unset, .unset, .unset, .unset, .unset, .unset, .unset] [(.int ((8 : Int32) - (v0_7_l5 p1)))])) rfl (by rw [hml]; rfl) (argsL := [(.int ((8 : Int32) - (v0_7_l5 p1)))]) (rest := []) (lenOf pd_0 rfl) rfl (by show 2 * 0 + _ ≤ _; exact Nat.le_of_eq rfl) (hb hby at_14) (fun _ _ => ⟨rfl, e0, (by decide : 0 + 0 ≤ _), (by decide : 0 + 0 ≤ _)⟩)
  dsimp only [Pt.U, Pt.locs, Pt.cells, Pt.slots] at X45 l45 y45 z45 st45 hQ45
  subst l45 y45 z45
  obtain ⟨rfl, N45q, e45⟩ := hQ45
  have N45 := Fr.app N0 N45q
  have k46 := fun (t : State) (kk : Steps p.tables e below (T45.setTop (mkF m 17 #[.val (.long q0), .second, .val (.int p1), .val (.int p2), .val (.int p3), .val (.int (v0_7_l5 p1)), .unset, .unset, .unset, .unset, .unset, .unset, .unset, .unset, .unset, .unset, .unset, .unset] [(.long (v1_ret ((8 : Int32) - (v0_7_l5 p1))))])) t) => k44 t (st45 _ kk)
  have k53 := fun (t : State) (kk : Steps p.tables e below (T45.setTop (mkF m 102 #[.val (.long q0), .second, .val (.int p1), .val (.int p2), .val (.int p3), .val (.int (v0_7_l5 p1)), .val (.long (v0_17_l6 p1)), .second, .val (.long (v0_22_l8 q0 p1 p2 p3)), .second, .val (.long (v0_53_l10 q0 p1 p2 p3)), .second, .val (.long (v0_63_l12 q0 p1 p2 p3)), .second, .val (.long (v0_70_l14 q0 p1 p2 p3)), .second, .val (.long (v0_76_s0 q0 p1 p2 p3)), .second] [(.long (v0_63_l12 q0 p1 p2 p3))])) t) => k46 t (by
    show Steps p.tables e below (T45.setTop (mkF m 17 #[.val (.long q0), .second, .val (.int p1), .val (.int p2), .val (.int p3), .val (.int (v0_7_l5 p1)), .unset, .unset, .unset, .unset, .unset, .unset, .unset, .unset, .unset, .unset, .unset, .unset] [(.long (v1_ret ((8 : Int32) - (v0_7_l5 p1))))])) _
    refine XS.lstore X45.here hx rfl (hb hby at_17) rfl (l' := #[.val (.long q0), .second, .val (.int p1), .val (.int p2), .val (.int p3), .val (.int (v0_7_l5 p1)), .val (.long (v0_17_l6 p1)), .second, .unset, .unset, .unset, .unset, .unset, .unset, .unset, .unset, .unset, .unset]) rfl ?_
    show Steps p.tables e below (T45.setTop (mkF m 19 #[.val (.long q0), .second, .val (.int p1), .val (.int p2), .val (.int p3), .val (.int (v0_7_l5 p1)), .val (.long (v0_17_l6 p1)), .second, .unset, .unset, .unset, .unset, .unset, .unset, .unset, .unset, .unset, .unset] [])) _
    refine XS.iloadN X45.here hx rfl (hb hby at_19) rfl ?_
    show Steps p.tables e below (T45.setTop (mkF m 20 #[.val (.long q0), .second, .val (.int p1), .val (.int p2), .val (.int p3), .val (.int (v0_7_l5 p1)), .val (.long (v0_17_l6 p1)), .second, .unset, .unset, .unset, .unset, .unset, .unset, .unset, .unset, .unset, .unset] [(.int p2)])) _
    refine XS.iconst X45.here hx rfl (hb hby at_20) ?_
    show Steps p.tables e below (T45.setTop (mkF m 21 #[.val (.long q0), .second, .val (.int p1), .val (.int p2), .val (.int p3), .val (.int (v0_7_l5 p1)), .val (.long (v0_17_l6 p1)), .second, .unset, .unset, .unset, .unset, .unset, .unset, .unset, .unset, .unset, .unset] [(.int (1 : Int32)), (.int p2)])) _
    refine XS.iand X45.here hx rfl (hb hby at_21) rfl ?_
    suffices k48 : Steps p.tables e below (T45.setTop (mkF m 47 #[.val (.long q0), .second, .val (.int p1), .val (.int p2), .val (.int p3), .val (.int (v0_7_l5 p1)), .val (.long (v0_17_l6 p1)), .second, .val (.long (v0_22_l8 q0 p1 p2 p3)), .second, .unset, .unset, .unset, .unset, .unset, .unset, .unset, .unset] [])) t by
      by_cases hc22_47 : (p2 &&& (1 : Int32)) = (0 : Int32)
      · rw [(show (v0_22_l8 q0 p1 p2 p3) = q0 from if_pos hc22_47)] at k48
        show Steps p.tables e below (T45.setTop (mkF m 22 #[.val (.long q0), .second, .val (.int p1), .val (.int p2), .val (.int p3), .val (.int (v0_7_l5 p1)), .val (.long (v0_17_l6 p1)), .second, .unset, .unset, .unset, .unset, .unset, .unset, .unset, .unset, .unset, .unset] [(.int (p2 &&& (1 : Int32)))])) _
        refine XS.ifYes X45.here hx rfl (pc0 := 22) (pc' := 44) rfl (hb hby at_22) rfl ((if0 _ _).trans (teq hc22_47).1) (by decide) (by decide) ?_
        show Steps p.tables e below (T45.setTop (mkF m 44 #[.val (.long q0), .second, .val (.int p1), .val (.int p2), .val (.int p3), .val (.int (v0_7_l5 p1)), .val (.long (v0_17_l6 p1)), .second, .unset, .unset, .unset, .unset, .unset, .unset, .unset, .unset, .unset, .unset] [])) _
        refine XS.lloadN X45.here hx rfl (hb hby at_44) rfl ?_
        show Steps p.tables e below (T45.setTop (mkF m 45 #[.val (.long q0), .second, .val (.int p1), .val (.int p2), .val (.int p3), .val (.int (v0_7_l5 p1)), .val (.long (v0_17_l6 p1)), .second, .unset, .unset, .unset, .unset, .unset, .unset, .unset, .unset, .unset, .unset] [(.long q0)])) _
        refine XS.lstore X45.here hx rfl (hb hby at_45) rfl (l' := #[.val (.long q0), .second, .val (.int p1), .val (.int p2), .val (.int p3), .val (.int (v0_7_l5 p1)), .val (.long (v0_17_l6 p1)), .second, .val (.long q0), .second, .unset, .unset, .unset, .unset, .unset, .unset, .unset, .unset]) rfl ?_
        exact k48
      · rw [(show (v0_22_l8 q0 p1 p2 p3) = (v0_39_l8 p1 p3) from if_neg hc22_47)] at k48
        show Steps p.tables e below (T45.setTop (mkF m 22 #[.val (.long q0), .second, .val (.int p1), .val (.int p2), .val (.int p3), .val (.int (v0_7_l5 p1)), .val (.long (v0_17_l6 p1)), .second, .unset, .unset, .unset, .unset, .unset, .unset, .unset, .unset, .unset, .unset] [(.int (p2 &&& (1 : Int32)))])) _
        refine XS.ifNo X45.here hx rfl (hb hby at_22) rfl ((if0 _ _).trans (feq hc22_47).1) ?_
        show Steps p.tables e below (T45.setTop (mkF m 25 #[.val (.long q0), .second, .val (.int p1), .val (.int p2), .val (.int p3), .val (.int (v0_7_l5 p1)), .val (.long (v0_17_l6 p1)), .second, .unset, .unset, .unset, .unset, .unset, .unset, .unset, .unset, .unset, .unset] [])) _
        refine X45.ldc2Long hx hown (mvT hZ (hw _ (List.mem_of_getElem? (i := 6) rfl))) (g := (mkF m 25 #[.val (.long q0), .second, .val (.int p1), .val (.int p2), .val (.int p3), .val (.int (v0_7_l5 p1)), .val (.long (v0_17_l6 p1)), .second, .unset, .unset, .unset, .unset, .unset, .unset, .unset, .unset, .unset, .unset] [])) rfl (hb hby at_25) _ ?_
        show Steps p.tables e below (T45.setTop (mkF m 28 #[.val (.long q0), .second, .val (.int p1), .val (.int p2), .val (.int p3), .val (.int (v0_7_l5 p1)), .val (.long (v0_17_l6 p1)), .second, .unset, .unset, .unset, .unset, .unset, .unset, .unset, .unset, .unset, .unset] [(.long (9223372036854775807 : Int64))])) _
        refine XS.lload X45.here hx rfl (hb hby at_28) rfl ?_
        show Steps p.tables e below (T45.setTop (mkF m 30 #[.val (.long q0), .second, .val (.int p1), .val (.int p2), .val (.int p3), .val (.int (v0_7_l5 p1)), .val (.long (v0_17_l6 p1)), .second, .unset, .unset, .unset, .unset, .unset, .unset, .unset, .unset, .unset, .unset] [(.long (v0_17_l6 p1)), (.long (9223372036854775807 : Int64))])) _
        refine XS.ldiv X45.here hx rfl (hb hby at_30) rfl (own_nz p1) ?_
        show Steps p.tables e below (T45.setTop (mkF m 31 #[.val (.long q0), .second, .val (.int p1), .val (.int p2), .val (.int p3), .val (.int (v0_7_l5 p1)), .val (.long (v0_17_l6 p1)), .second, .unset, .unset, .unset, .unset, .unset, .unset, .unset, .unset, .unset, .unset] [(.long ((9223372036854775807 : Int64) / (v0_17_l6 p1)))])) _
        refine XS.iload X45.here hx rfl (hb hby at_31) rfl ?_
        show Steps p.tables e below (T45.setTop (mkF m 33 #[.val (.long q0), .second, .val (.int p1), .val (.int p2), .val (.int p3), .val (.int (v0_7_l5 p1)), .val (.long (v0_17_l6 p1)), .second, .unset, .unset, .unset, .unset, .unset, .unset, .unset, .unset, .unset, .unset] [(.int p3), (.long ((9223372036854775807 : Int64) / (v0_17_l6 p1)))])) _
        refine XS.iconst X45.here hx rfl (hb hby at_33) ?_
        show Steps p.tables e below (T45.setTop (mkF m 34 #[.val (.long q0), .second, .val (.int p1), .val (.int p2), .val (.int p3), .val (.int (v0_7_l5 p1)), .val (.long (v0_17_l6 p1)), .second, .unset, .unset, .unset, .unset, .unset, .unset, .unset, .unset, .unset, .unset] [(.int (3 : Int32)), (.int p3), (.long ((9223372036854775807 : Int64) / (v0_17_l6 p1)))])) _
        refine XS.iand X45.here hx rfl (hb hby at_34) rfl ?_
        show Steps p.tables e below (T45.setTop (mkF m 35 #[.val (.long q0), .second, .val (.int p1), .val (.int p2), .val (.int p3), .val (.int (v0_7_l5 p1)), .val (.long (v0_17_l6 p1)), .second, .unset, .unset, .unset, .unset, .unset, .unset, .unset, .unset, .unset, .unset] [(.int (p3 &&& (3 : Int32))), (.long ((9223372036854775807 : Int64) / (v0_17_l6 p1)))])) _
        refine XS.iconst X45.here hx rfl (hb hby at_35) ?_
        show Steps p.tables e below (T45.setTop (mkF m 36 #[.val (.long q0), .second, .val (.int p1), .val (.int p2), .val (.int p3), .val (.int (v0_7_l5 p1)), .val (.long (v0_17_l6 p1)), .second, .unset, .unset, .unset, .unset, .unset, .unset, .unset, .unset, .unset, .unset] [(.int (1 : Int32)), (.int (p3 &&& (3 : Int32))), (.long ((9223372036854775807 : Int64) / (v0_17_l6 p1)))])) _
        refine XS.isub X45.here hx rfl (hb hby at_36) rfl ?_
        show Steps p.tables e below (T45.setTop (mkF m 37 #[.val (.long q0), .second, .val (.int p1), .val (.int p2), .val (.int p3), .val (.int (v0_7_l5 p1)), .val (.long (v0_17_l6 p1)), .second, .unset, .unset, .unset, .unset, .unset, .unset, .unset, .unset, .unset, .unset] [(.int ((p3 &&& (3 : Int32)) - (1 : Int32))), (.long ((9223372036854775807 : Int64) / (v0_17_l6 p1)))])) _
        refine XS.i2l X45.here hx rfl (hb hby at_37) rfl ?_
        show Steps p.tables e below (T45.setTop (mkF m 38 #[.val (.long q0), .second, .val (.int p1), .val (.int p2), .val (.int p3), .val (.int (v0_7_l5 p1)), .val (.long (v0_17_l6 p1)), .second, .unset, .unset, .unset, .unset, .unset, .unset, .unset, .unset, .unset, .unset] [(.long (((p3 &&& (3 : Int32)) - (1 : Int32)).toInt64)), (.long ((9223372036854775807 : Int64) / (v0_17_l6 p1)))])) _
        refine XS.ladd X45.here hx rfl (hb hby at_38) rfl ?_
        show Steps p.tables e below (T45.setTop (mkF m 39 #[.val (.long q0), .second, .val (.int p1), .val (.int p2), .val (.int p3), .val (.int (v0_7_l5 p1)), .val (.long (v0_17_l6 p1)), .second, .unset, .unset, .unset, .unset, .unset, .unset, .unset, .unset, .unset, .unset] [(.long (((9223372036854775807 : Int64) / (v0_17_l6 p1)) + (((p3 &&& (3 : Int32)) - (1 : Int32)).toInt64)))])) _
        refine XS.lstore X45.here hx rfl (hb hby at_39) rfl (l' := #[.val (.long q0), .second, .val (.int p1), .val (.int p2), .val (.int p3), .val (.int (v0_7_l5 p1)), .val (.long (v0_17_l6 p1)), .second, .val (.long (v0_39_l8 p1 p3)), .second, .unset, .unset, .unset, .unset, .unset, .unset, .unset, .unset]) rfl ?_
        show Steps p.tables e below (T45.setTop (mkF m 41 #[.val (.long q0), .second, .val (.int p1), .val (.int p2), .val (.int p3), .val (.int (v0_7_l5 p1)), .val (.long (v0_17_l6 p1)), .second, .val (.long (v0_39_l8 p1 p3)), .second, .unset, .unset, .unset, .unset, .unset, .unset, .unset, .unset] [])) _
        refine XS.goto X45.here hx rfl (pc0 := 41) (pc' := 47) rfl (hb hby at_41) (by decide) (by decide) ?_
        exact k48
    show Steps p.tables e below (T45.setTop (mkF m 47 #[.val (.long q0), .second, .val (.int p1), .val (.int p2), .val (.int p3), .val (.int (v0_7_l5 p1)), .val (.long (v0_17_l6 p1)), .second, .val (.long (v0_22_l8 q0 p1 p2 p3)), .second, .unset, .unset, .unset, .unset, .unset, .unset, .unset, .unset] [])) _
    refine XS.lload X45.here hx rfl (hb hby at_47) rfl ?_
    show Steps p.tables e below (T45.setTop (mkF m 49 #[.val (.long q0), .second, .val (.int p1), .val (.int p2), .val (.int p3), .val (.int (v0_7_l5 p1)), .val (.long (v0_17_l6 p1)), .second, .val (.long (v0_22_l8 q0 p1 p2 p3)), .second, .unset, .unset, .unset, .unset, .unset, .unset, .unset, .unset] [(.long (v0_22_l8 q0 p1 p2 p3))])) _
    refine X45.ldc2Long hx hown (mvT hZ (hw _ (List.mem_of_getElem? (i := 7) rfl))) (g := (mkF m 49 #[.val (.long q0), .second, .val (.int p1), .val (.int p2), .val (.int p3), .val (.int (v0_7_l5 p1)), .val (.long (v0_17_l6 p1)), .second, .val (.long (v0_22_l8 q0 p1 p2 p3)), .second, .unset, .unset, .unset, .unset, .unset, .unset, .unset, .unset] [(.long (v0_22_l8 q0 p1 p2 p3))])) rfl (hb hby at_49) _ ?_
    show Steps p.tables e below (T45.setTop (mkF m 52 #[.val (.long q0), .second, .val (.int p1), .val (.int p2), .val (.int p3), .val (.int (v0_7_l5 p1)), .val (.long (v0_17_l6 p1)), .second, .val (.long (v0_22_l8 q0 p1 p2 p3)), .second, .unset, .unset, .unset, .unset, .unset, .unset, .unset, .unset] [(.long (1152921504606846975 : Int64)), (.long (v0_22_l8 q0 p1 p2 p3))])) _
    refine XS.land X45.here hx rfl (hb hby at_52) rfl ?_
    show Steps p.tables e below (T45.setTop (mkF m 53 #[.val (.long q0), .second, .val (.int p1), .val (.int p2), .val (.int p3), .val (.int (v0_7_l5 p1)), .val (.long (v0_17_l6 p1)), .second, .val (.long (v0_22_l8 q0 p1 p2 p3)), .second, .unset, .unset, .unset, .unset, .unset, .unset, .unset, .unset] [(.long ((v0_22_l8 q0 p1 p2 p3) &&& (1152921504606846975 : Int64)))])) _
    refine XS.lstore X45.here hx rfl (hb hby at_53) rfl (l' := #[.val (.long q0), .second, .val (.int p1), .val (.int p2), .val (.int p3), .val (.int (v0_7_l5 p1)), .val (.long (v0_17_l6 p1)), .second, .val (.long (v0_22_l8 q0 p1 p2 p3)), .second, .val (.long (v0_53_l10 q0 p1 p2 p3)), .second, .unset, .unset, .unset, .unset, .unset, .unset]) rfl ?_
    show Steps p.tables e below (T45.setTop (mkF m 55 #[.val (.long q0), .second, .val (.int p1), .val (.int p2), .val (.int p3), .val (.int (v0_7_l5 p1)), .val (.long (v0_17_l6 p1)), .second, .val (.long (v0_22_l8 q0 p1 p2 p3)), .second, .val (.long (v0_53_l10 q0 p1 p2 p3)), .second, .unset, .unset, .unset, .unset, .unset, .unset] [])) _
    refine XS.lload X45.here hx rfl (hb hby at_55) rfl ?_
    show Steps p.tables e below (T45.setTop (mkF m 57 #[.val (.long q0), .second, .val (.int p1), .val (.int p2), .val (.int p3), .val (.int (v0_7_l5 p1)), .val (.long (v0_17_l6 p1)), .second, .val (.long (v0_22_l8 q0 p1 p2 p3)), .second, .val (.long (v0_53_l10 q0 p1 p2 p3)), .second, .unset, .unset, .unset, .unset, .unset, .unset] [(.long (v0_53_l10 q0 p1 p2 p3))])) _
    refine XS.iconst X45.here hx rfl (hb hby at_57) ?_
    show Steps p.tables e below (T45.setTop (mkF m 58 #[.val (.long q0), .second, .val (.int p1), .val (.int p2), .val (.int p3), .val (.int (v0_7_l5 p1)), .val (.long (v0_17_l6 p1)), .second, .val (.long (v0_22_l8 q0 p1 p2 p3)), .second, .val (.long (v0_53_l10 q0 p1 p2 p3)), .second, .unset, .unset, .unset, .unset, .unset, .unset] [(.int (4 : Int32)), (.long (v0_53_l10 q0 p1 p2 p3))])) _
    refine XS.lshl X45.here hx rfl (hb hby at_58) rfl ?_
    show Steps p.tables e below (T45.setTop (mkF m 59 #[.val (.long q0), .second, .val (.int p1), .val (.int p2), .val (.int p3), .val (.int (v0_7_l5 p1)), .val (.long (v0_17_l6 p1)), .second, .val (.long (v0_22_l8 q0 p1 p2 p3)), .second, .val (.long (v0_53_l10 q0 p1 p2 p3)), .second, .unset, .unset, .unset, .unset, .unset, .unset] [(.long ((v0_53_l10 q0 p1 p2 p3) <<< ((4 : Int32) &&& 0x3f).toInt64))])) _
    refine XS.iload X45.here hx rfl (hb hby at_59) rfl ?_
    show Steps p.tables e below (T45.setTop (mkF m 61 #[.val (.long q0), .second, .val (.int p1), .val (.int p2), .val (.int p3), .val (.int (v0_7_l5 p1)), .val (.long (v0_17_l6 p1)), .second, .val (.long (v0_22_l8 q0 p1 p2 p3)), .second, .val (.long (v0_53_l10 q0 p1 p2 p3)), .second, .unset, .unset, .unset, .unset, .unset, .unset] [(.int (v0_7_l5 p1)), (.long ((v0_53_l10 q0 p1 p2 p3) <<< ((4 : Int32) &&& 0x3f).toInt64))])) _
    refine XS.i2l X45.here hx rfl (hb hby at_61) rfl ?_
    show Steps p.tables e below (T45.setTop (mkF m 62 #[.val (.long q0), .second, .val (.int p1), .val (.int p2), .val (.int p3), .val (.int (v0_7_l5 p1)), .val (.long (v0_17_l6 p1)), .second, .val (.long (v0_22_l8 q0 p1 p2 p3)), .second, .val (.long (v0_53_l10 q0 p1 p2 p3)), .second, .unset, .unset, .unset, .unset, .unset, .unset] [(.long ((v0_7_l5 p1).toInt64)), (.long ((v0_53_l10 q0 p1 p2 p3) <<< ((4 : Int32) &&& 0x3f).toInt64))])) _
    refine XS.lor X45.here hx rfl (hb hby at_62) rfl ?_
    show Steps p.tables e below (T45.setTop (mkF m 63 #[.val (.long q0), .second, .val (.int p1), .val (.int p2), .val (.int p3), .val (.int (v0_7_l5 p1)), .val (.long (v0_17_l6 p1)), .second, .val (.long (v0_22_l8 q0 p1 p2 p3)), .second, .val (.long (v0_53_l10 q0 p1 p2 p3)), .second, .unset, .unset, .unset, .unset, .unset, .unset] [(.long (((v0_53_l10 q0 p1 p2 p3) <<< ((4 : Int32) &&& 0x3f).toInt64) ||| ((v0_7_l5 p1).toInt64)))])) _
    refine XS.lstore X45.here hx rfl (hb hby at_63) rfl (l' := #[.val (.long q0), .second, .val (.int p1), .val (.int p2), .val (.int p3), .val (.int (v0_7_l5 p1)), .val (.long (v0_17_l6 p1)), .second, .val (.long (v0_22_l8 q0 p1 p2 p3)), .second, .val (.long (v0_53_l10 q0 p1 p2 p3)), .second, .val (.long (v0_63_l12 q0 p1 p2 p3)), .second, .unset, .unset, .unset, .unset]) rfl ?_
    show Steps p.tables e below (T45.setTop (mkF m 65 #[.val (.long q0), .second, .val (.int p1), .val (.int p2), .val (.int p3), .val (.int (v0_7_l5 p1)), .val (.long (v0_17_l6 p1)), .second, .val (.long (v0_22_l8 q0 p1 p2 p3)), .second, .val (.long (v0_53_l10 q0 p1 p2 p3)), .second, .val (.long (v0_63_l12 q0 p1 p2 p3)), .second, .unset, .unset, .unset, .unset] [])) _
    refine XS.lload X45.here hx rfl (hb hby at_65) rfl ?_
    show Steps p.tables e below (T45.setTop (mkF m 67 #[.val (.long q0), .second, .val (.int p1), .val (.int p2), .val (.int p3), .val (.int (v0_7_l5 p1)), .val (.long (v0_17_l6 p1)), .second, .val (.long (v0_22_l8 q0 p1 p2 p3)), .second, .val (.long (v0_53_l10 q0 p1 p2 p3)), .second, .val (.long (v0_63_l12 q0 p1 p2 p3)), .second, .unset, .unset, .unset, .unset] [(.long (v0_53_l10 q0 p1 p2 p3))])) _
    refine XS.lload X45.here hx rfl (hb hby at_67) rfl ?_
    show Steps p.tables e below (T45.setTop (mkF m 69 #[.val (.long q0), .second, .val (.int p1), .val (.int p2), .val (.int p3), .val (.int (v0_7_l5 p1)), .val (.long (v0_17_l6 p1)), .second, .val (.long (v0_22_l8 q0 p1 p2 p3)), .second, .val (.long (v0_53_l10 q0 p1 p2 p3)), .second, .val (.long (v0_63_l12 q0 p1 p2 p3)), .second, .unset, .unset, .unset, .unset] [(.long (v0_17_l6 p1)), (.long (v0_53_l10 q0 p1 p2 p3))])) _
    refine XS.lmul X45.here hx rfl (hb hby at_69) rfl ?_
    show Steps p.tables e below (T45.setTop (mkF m 70 #[.val (.long q0), .second, .val (.int p1), .val (.int p2), .val (.int p3), .val (.int (v0_7_l5 p1)), .val (.long (v0_17_l6 p1)), .second, .val (.long (v0_22_l8 q0 p1 p2 p3)), .second, .val (.long (v0_53_l10 q0 p1 p2 p3)), .second, .val (.long (v0_63_l12 q0 p1 p2 p3)), .second, .unset, .unset, .unset, .unset] [(.long ((v0_53_l10 q0 p1 p2 p3) * (v0_17_l6 p1)))])) _
    refine XS.lstore X45.here hx rfl (hb hby at_70) rfl (l' := #[.val (.long q0), .second, .val (.int p1), .val (.int p2), .val (.int p3), .val (.int (v0_7_l5 p1)), .val (.long (v0_17_l6 p1)), .second, .val (.long (v0_22_l8 q0 p1 p2 p3)), .second, .val (.long (v0_53_l10 q0 p1 p2 p3)), .second, .val (.long (v0_63_l12 q0 p1 p2 p3)), .second, .val (.long (v0_70_l14 q0 p1 p2 p3)), .second, .unset, .unset]) rfl ?_
    show Steps p.tables e below (T45.setTop (mkF m 72 #[.val (.long q0), .second, .val (.int p1), .val (.int p2), .val (.int p3), .val (.int (v0_7_l5 p1)), .val (.long (v0_17_l6 p1)), .second, .val (.long (v0_22_l8 q0 p1 p2 p3)), .second, .val (.long (v0_53_l10 q0 p1 p2 p3)), .second, .val (.long (v0_63_l12 q0 p1 p2 p3)), .second, .val (.long (v0_70_l14 q0 p1 p2 p3)), .second, .unset, .unset] [])) _
    refine XS.lload X45.here hx rfl (hb hby at_72) rfl ?_
    show Steps p.tables e below (T45.setTop (mkF m 74 #[.val (.long q0), .second, .val (.int p1), .val (.int p2), .val (.int p3), .val (.int (v0_7_l5 p1)), .val (.long (v0_17_l6 p1)), .second, .val (.long (v0_22_l8 q0 p1 p2 p3)), .second, .val (.long (v0_53_l10 q0 p1 p2 p3)), .second, .val (.long (v0_63_l12 q0 p1 p2 p3)), .second, .val (.long (v0_70_l14 q0 p1 p2 p3)), .second, .unset, .unset] [(.long (v0_70_l14 q0 p1 p2 p3))])) _
    refine XS.lconst X45.here hx rfl (hb hby at_74) ?_
    show Steps p.tables e below (T45.setTop (mkF m 75 #[.val (.long q0), .second, .val (.int p1), .val (.int p2), .val (.int p3), .val (.int (v0_7_l5 p1)), .val (.long (v0_17_l6 p1)), .second, .val (.long (v0_22_l8 q0 p1 p2 p3)), .second, .val (.long (v0_53_l10 q0 p1 p2 p3)), .second, .val (.long (v0_63_l12 q0 p1 p2 p3)), .second, .val (.long (v0_70_l14 q0 p1 p2 p3)), .second, .unset, .unset] [(.long (0 : Int64)), (.long (v0_70_l14 q0 p1 p2 p3))])) _
    refine XS.lcmp X45.here hx rfl (hb hby at_75) rfl ?_
    suffices k52 : Steps p.tables e below (T45.setTop (mkF m 98 #[.val (.long q0), .second, .val (.int p1), .val (.int p2), .val (.int p3), .val (.int (v0_7_l5 p1)), .val (.long (v0_17_l6 p1)), .second, .val (.long (v0_22_l8 q0 p1 p2 p3)), .second, .val (.long (v0_53_l10 q0 p1 p2 p3)), .second, .val (.long (v0_63_l12 q0 p1 p2 p3)), .second, .val (.long (v0_70_l14 q0 p1 p2 p3)), .second, .unset, .unset] [(.long (v0_76_s0 q0 p1 p2 p3))])) t by
      by_cases hc76_49 : (v0_70_l14 q0 p1 p2 p3) < (0 : Int64)
      · rw [(show (v0_76_s0 q0 p1 p2 p3) = (-1 : Int64) from if_pos hc76_49)] at k52
        show Steps p.tables e below (T45.setTop (mkF m 76 #[.val (.long q0), .second, .val (.int p1), .val (.int p2), .val (.int p3), .val (.int (v0_7_l5 p1)), .val (.long (v0_17_l6 p1)), .second, .val (.long (v0_22_l8 q0 p1 p2 p3)), .second, .val (.long (v0_53_l10 q0 p1 p2 p3)), .second, .val (.long (v0_63_l12 q0 p1 p2 p3)), .second, .val (.long (v0_70_l14 q0 p1 p2 p3)), .second, .unset, .unset] [(.int (lcmpW (v0_70_l14 q0 p1 p2 p3) (0 : Int64)))])) _
        refine XS.ifYes X45.here hx rfl (pc0 := 76) (pc' := 95) rfl (hb hby at_76) rfl ((if0 _ _).trans (tlt ((lw_lt _ _).mpr hc76_49)).1) (by decide) (by decide) ?_
        show Steps p.tables e below (T45.setTop (mkF m 95 #[.val (.long q0), .second, .val (.int p1), .val (.int p2), .val (.int p3), .val (.int (v0_7_l5 p1)), .val (.long (v0_17_l6 p1)), .second, .val (.long (v0_22_l8 q0 p1 p2 p3)), .second, .val (.long (v0_53_l10 q0 p1 p2 p3)), .second, .val (.long (v0_63_l12 q0 p1 p2 p3)), .second, .val (.long (v0_70_l14 q0 p1 p2 p3)), .second, .unset, .unset] [])) _
        refine X45.ldc2Long hx hown (mvT hZ (hw _ (List.mem_of_getElem? (i := 18) rfl))) (g := (mkF m 95 #[.val (.long q0), .second, .val (.int p1), .val (.int p2), .val (.int p3), .val (.int (v0_7_l5 p1)), .val (.long (v0_17_l6 p1)), .second, .val (.long (v0_22_l8 q0 p1 p2 p3)), .second, .val (.long (v0_53_l10 q0 p1 p2 p3)), .second, .val (.long (v0_63_l12 q0 p1 p2 p3)), .second, .val (.long (v0_70_l14 q0 p1 p2 p3)), .second, .unset, .unset] [])) rfl (hb hby at_95) _ ?_
        exact k52
      · rw [(show (v0_76_s0 q0 p1 p2 p3) = (v0_87_s0 q0 p1 p2 p3) from if_neg hc76_49)] at k52
        show Steps p.tables e below (T45.setTop (mkF m 76 #[.val (.long q0), .second, .val (.int p1), .val (.int p2), .val (.int p3), .val (.int (v0_7_l5 p1)), .val (.long (v0_17_l6 p1)), .second, .val (.long (v0_22_l8 q0 p1 p2 p3)), .second, .val (.long (v0_53_l10 q0 p1 p2 p3)), .second, .val (.long (v0_63_l12 q0 p1 p2 p3)), .second, .val (.long (v0_70_l14 q0 p1 p2 p3)), .second, .unset, .unset] [(.int (lcmpW (v0_70_l14 q0 p1 p2 p3) (0 : Int64)))])) _
        refine XS.ifNo X45.here hx rfl (hb hby at_76) rfl ((if0 _ _).trans (flt (fun q => hc76_49 ((lw_lt _ _).mp q))).1) ?_
        show Steps p.tables e below (T45.setTop (mkF m 79 #[.val (.long q0), .second, .val (.int p1), .val (.int p2), .val (.int p3), .val (.int (v0_7_l5 p1)), .val (.long (v0_17_l6 p1)), .second, .val (.long (v0_22_l8 q0 p1 p2 p3)), .second, .val (.long (v0_53_l10 q0 p1 p2 p3)), .second, .val (.long (v0_63_l12 q0 p1 p2 p3)), .second, .val (.long (v0_70_l14 q0 p1 p2 p3)), .second, .unset, .unset] [])) _
        refine XS.lload X45.here hx rfl (hb hby at_79) rfl ?_
        show Steps p.tables e below (T45.setTop (mkF m 81 #[.val (.long q0), .second, .val (.int p1), .val (.int p2), .val (.int p3), .val (.int (v0_7_l5 p1)), .val (.long (v0_17_l6 p1)), .second, .val (.long (v0_22_l8 q0 p1 p2 p3)), .second, .val (.long (v0_53_l10 q0 p1 p2 p3)), .second, .val (.long (v0_63_l12 q0 p1 p2 p3)), .second, .val (.long (v0_70_l14 q0 p1 p2 p3)), .second, .unset, .unset] [(.long (v0_70_l14 q0 p1 p2 p3))])) _
        refine XS.lload X45.here hx rfl (hb hby at_81) rfl ?_
        show Steps p.tables e below (T45.setTop (mkF m 83 #[.val (.long q0), .second, .val (.int p1), .val (.int p2), .val (.int p3), .val (.int (v0_7_l5 p1)), .val (.long (v0_17_l6 p1)), .second, .val (.long (v0_22_l8 q0 p1 p2 p3)), .second, .val (.long (v0_53_l10 q0 p1 p2 p3)), .second, .val (.long (v0_63_l12 q0 p1 p2 p3)), .second, .val (.long (v0_70_l14 q0 p1 p2 p3)), .second, .unset, .unset] [(.long (v0_17_l6 p1)), (.long (v0_70_l14 q0 p1 p2 p3))])) _
        refine XS.ldiv X45.here hx rfl (hb hby at_83) rfl (own_nz p1) ?_
        show Steps p.tables e below (T45.setTop (mkF m 84 #[.val (.long q0), .second, .val (.int p1), .val (.int p2), .val (.int p3), .val (.int (v0_7_l5 p1)), .val (.long (v0_17_l6 p1)), .second, .val (.long (v0_22_l8 q0 p1 p2 p3)), .second, .val (.long (v0_53_l10 q0 p1 p2 p3)), .second, .val (.long (v0_63_l12 q0 p1 p2 p3)), .second, .val (.long (v0_70_l14 q0 p1 p2 p3)), .second, .unset, .unset] [(.long ((v0_70_l14 q0 p1 p2 p3) / (v0_17_l6 p1)))])) _
        refine XS.lload X45.here hx rfl (hb hby at_84) rfl ?_
        show Steps p.tables e below (T45.setTop (mkF m 86 #[.val (.long q0), .second, .val (.int p1), .val (.int p2), .val (.int p3), .val (.int (v0_7_l5 p1)), .val (.long (v0_17_l6 p1)), .second, .val (.long (v0_22_l8 q0 p1 p2 p3)), .second, .val (.long (v0_53_l10 q0 p1 p2 p3)), .second, .val (.long (v0_63_l12 q0 p1 p2 p3)), .second, .val (.long (v0_70_l14 q0 p1 p2 p3)), .second, .unset, .unset] [(.long (v0_53_l10 q0 p1 p2 p3)), (.long ((v0_70_l14 q0 p1 p2 p3) / (v0_17_l6 p1)))])) _
        refine XS.lcmp X45.here hx rfl (hb hby at_86) rfl ?_
        suffices k51 : Steps p.tables e below (T45.setTop (mkF m 98 #[.val (.long q0), .second, .val (.int p1), .val (.int p2), .val (.int p3), .val (.int (v0_7_l5 p1)), .val (.long (v0_17_l6 p1)), .second, .val (.long (v0_22_l8 q0 p1 p2 p3)), .second, .val (.long (v0_53_l10 q0 p1 p2 p3)), .second, .val (.long (v0_63_l12 q0 p1 p2 p3)), .second, .val (.long (v0_70_l14 q0 p1 p2 p3)), .second, .unset, .unset] [(.long (v0_87_s0 q0 p1 p2 p3))])) t by
          by_cases hc87_50 : ((v0_70_l14 q0 p1 p2 p3) / (v0_17_l6 p1)) = (v0_53_l10 q0 p1 p2 p3)
          · rw [(show (v0_87_s0 q0 p1 p2 p3) = (v0_70_l14 q0 p1 p2 p3) from if_pos hc87_50)] at k51
            show Steps p.tables e below (T45.setTop (mkF m 87 #[.val (.long q0), .second, .val (.int p1), .val (.int p2), .val (.int p3), .val (.int (v0_7_l5 p1)), .val (.long (v0_17_l6 p1)), .second, .val (.long (v0_22_l8 q0 p1 p2 p3)), .second, .val (.long (v0_53_l10 q0 p1 p2 p3)), .second, .val (.long (v0_63_l12 q0 p1 p2 p3)), .second, .val (.long (v0_70_l14 q0 p1 p2 p3)), .second, .unset, .unset] [(.int (lcmpW ((v0_70_l14 q0 p1 p2 p3) / (v0_17_l6 p1)) (v0_53_l10 q0 p1 p2 p3)))])) _
            refine XS.ifNo X45.here hx rfl (hb hby at_87) rfl ((if0 _ _).trans (teq ((lw_eq _ _).mpr hc87_50)).2) ?_
            show Steps p.tables e below (T45.setTop (mkF m 90 #[.val (.long q0), .second, .val (.int p1), .val (.int p2), .val (.int p3), .val (.int (v0_7_l5 p1)), .val (.long (v0_17_l6 p1)), .second, .val (.long (v0_22_l8 q0 p1 p2 p3)), .second, .val (.long (v0_53_l10 q0 p1 p2 p3)), .second, .val (.long (v0_63_l12 q0 p1 p2 p3)), .second, .val (.long (v0_70_l14 q0 p1 p2 p3)), .second, .unset, .unset] [])) _
            refine XS.lload X45.here hx rfl (hb hby at_90) rfl ?_
            show Steps p.tables e below (T45.setTop (mkF m 92 #[.val (.long q0), .second, .val (.int p1), .val (.int p2), .val (.int p3), .val (.int (v0_7_l5 p1)), .val (.long (v0_17_l6 p1)), .second, .val (.long (v0_22_l8 q0 p1 p2 p3)), .second, .val (.long (v0_53_l10 q0 p1 p2 p3)), .second, .val (.long (v0_63_l12 q0 p1 p2 p3)), .second, .val (.long (v0_70_l14 q0 p1 p2 p3)), .second, .unset, .unset] [(.long (v0_70_l14 q0 p1 p2 p3))])) _
            refine XS.goto X45.here hx rfl (pc0 := 92) (pc' := 98) rfl (hb hby at_92) (by decide) (by decide) ?_
            exact k51
          · rw [(show (v0_87_s0 q0 p1 p2 p3) = (-1 : Int64) from if_neg hc87_50)] at k51
            show Steps p.tables e below (T45.setTop (mkF m 87 #[.val (.long q0), .second, .val (.int p1), .val (.int p2), .val (.int p3), .val (.int (v0_7_l5 p1)), .val (.long (v0_17_l6 p1)), .second, .val (.long (v0_22_l8 q0 p1 p2 p3)), .second, .val (.long (v0_53_l10 q0 p1 p2 p3)), .second, .val (.long (v0_63_l12 q0 p1 p2 p3)), .second, .val (.long (v0_70_l14 q0 p1 p2 p3)), .second, .unset, .unset] [(.int (lcmpW ((v0_70_l14 q0 p1 p2 p3) / (v0_17_l6 p1)) (v0_53_l10 q0 p1 p2 p3)))])) _
            refine XS.ifYes X45.here hx rfl (pc0 := 87) (pc' := 95) rfl (hb hby at_87) rfl ((if0 _ _).trans (feq (fun q => hc87_50 ((lw_eq _ _).mp q))).2) (by decide) (by decide) ?_
            show Steps p.tables e below (T45.setTop (mkF m 95 #[.val (.long q0), .second, .val (.int p1), .val (.int p2), .val (.int p3), .val (.int (v0_7_l5 p1)), .val (.long (v0_17_l6 p1)), .second, .val (.long (v0_22_l8 q0 p1 p2 p3)), .second, .val (.long (v0_53_l10 q0 p1 p2 p3)), .second, .val (.long (v0_63_l12 q0 p1 p2 p3)), .second, .val (.long (v0_70_l14 q0 p1 p2 p3)), .second, .unset, .unset] [])) _
            refine X45.ldc2Long hx hown (mvT hZ (hw _ (List.mem_of_getElem? (i := 18) rfl))) (g := (mkF m 95 #[.val (.long q0), .second, .val (.int p1), .val (.int p2), .val (.int p3), .val (.int (v0_7_l5 p1)), .val (.long (v0_17_l6 p1)), .second, .val (.long (v0_22_l8 q0 p1 p2 p3)), .second, .val (.long (v0_53_l10 q0 p1 p2 p3)), .second, .val (.long (v0_63_l12 q0 p1 p2 p3)), .second, .val (.long (v0_70_l14 q0 p1 p2 p3)), .second, .unset, .unset] [])) rfl (hb hby at_95) _ ?_
            exact k51
        exact k52
    show Steps p.tables e below (T45.setTop (mkF m 98 #[.val (.long q0), .second, .val (.int p1), .val (.int p2), .val (.int p3), .val (.int (v0_7_l5 p1)), .val (.long (v0_17_l6 p1)), .second, .val (.long (v0_22_l8 q0 p1 p2 p3)), .second, .val (.long (v0_53_l10 q0 p1 p2 p3)), .second, .val (.long (v0_63_l12 q0 p1 p2 p3)), .second, .val (.long (v0_70_l14 q0 p1 p2 p3)), .second, .unset, .unset] [(.long (v0_76_s0 q0 p1 p2 p3))])) _
    refine XS.lstore X45.here hx rfl (hb hby at_98) rfl (l' := #[.val (.long q0), .second, .val (.int p1), .val (.int p2), .val (.int p3), .val (.int (v0_7_l5 p1)), .val (.long (v0_17_l6 p1)), .second, .val (.long (v0_22_l8 q0 p1 p2 p3)), .second, .val (.long (v0_53_l10 q0 p1 p2 p3)), .second, .val (.long (v0_63_l12 q0 p1 p2 p3)), .second, .val (.long (v0_70_l14 q0 p1 p2 p3)), .second, .val (.long (v0_76_s0 q0 p1 p2 p3)), .second]) rfl ?_
    show Steps p.tables e below (T45.setTop (mkF m 100 #[.val (.long q0), .second, .val (.int p1), .val (.int p2), .val (.int p3), .val (.int (v0_7_l5 p1)), .val (.long (v0_17_l6 p1)), .second, .val (.long (v0_22_l8 q0 p1 p2 p3)), .second, .val (.long (v0_53_l10 q0 p1 p2 p3)), .second, .val (.long (v0_63_l12 q0 p1 p2 p3)), .second, .val (.long (v0_70_l14 q0 p1 p2 p3)), .second, .val (.long (v0_76_s0 q0 p1 p2 p3)), .second] [])) _
    refine XS.lload X45.here hx rfl (hb hby at_100) rfl ?_
    exact kk)
  have Zz54 : n0 ≤ h0.size := (Nat.le_trans Z0 KC0.1)
  obtain ⟨_, _, ⟨T54, L54, k54, n54⟩, -, X54, ⟨Lc54, hQ54, l54, y54, z54⟩, st54⟩ := Jvm.LawKit.callS X45 hx (y := (⟨"com/example/gavelbook/gavelbook/Decimals", "units", "(J)J"⟩ : MethodName)) hown (mvT hZ (hw _ (List.mem_of_getElem? (i := 8) rfl))) (mvT hZ (hw _ (List.mem_of_getElem? (i := 9) rfl))) (mvT hZ (hw _ (List.mem_of_getElem? (i := 10) rfl))) (mvT hZ (hw _ (List.mem_of_getElem? (i := 11) rfl))) (by decide) (backOf (W := 0) (rm2 l Z a0 hw [] (v0_63_l12 q0 p1 p2 p3) o_MOST_UNSCALED k_o_MOST_UNSCALED o_POWERS_OF_TEN k_o_POWERS_OF_TEN h0 n0 Zz54 (own_hI q0 p1 p2 p3 : ¬ ((8 : Int32) - (((v0_63_l12 q0 p1 p2 p3) &&& (15 : Int64)).toInt32)) < 0 ∧ ((8 : Int32) - (((v0_63_l12 q0 p1 p2 p3) &&& (15 : Int64)).toInt32)) < (9 : Int32)) S_MOST_UNSCALED V_o_MOST_UNSCALED S_POWERS_OF_TEN V_o_POWERS_OF_TEN) hZ (hw _ (List.mem_of_getElem? (i := 11) rfl)) (hw _ (List.mem_of_getElem? (i := 10) rfl)) (by decide) (by decide)) (g := (mkF m 102 #[.val (.long q0), .second, .val (.int p1), .val (.int p2), .val (.int p3), .val (.int (v0_7_l5 p1)), .val (.long (v0_17_l6 p1)), .second, .val (.long (v0_22_l8 q0 p1 p2 p3)), .second, .val (.long (v0_53_l10 q0 p1 p2 p3)), .second, .val (.long (v0_63_l12 q0 p1 p2 p3)), .second, .val (.long (v0_70_l14 q0 p1 p2 p3)), .second, .val (.long (v0_76_s0 q0 p1 p2 p3)), .second] [(.long (v0_63_l12 q0 p1 p2 p3))])) rfl (by rw [hml]; rfl) (argsL := [(.long (v0_63_l12 q0 p1 p2 p3))]) (rest := []) (lenOf pd_1 rfl) rfl (by show 2 * 0 + _ ≤ _; exact Nat.le_of_eq rfl) (hb hby at_102) (fun _ _ => ⟨rfl, e45, (by decide : 0 + 0 ≤ _), (by decide : 0 + 0 ≤ _)⟩)
  dsimp only [Pt.U, Pt.locs, Pt.cells, Pt.slots] at X54 l54 y54 z54 st54 hQ54
  subst l54 y54 z54
  obtain ⟨rfl, N54q, e54⟩ := hQ54
  have N54 := Fr.app N45 N54q
  have k55 := fun (t : State) (kk : Steps p.tables e below (T54.setTop (mkF m 105 #[.val (.long q0), .second, .val (.int p1), .val (.int p2), .val (.int p3), .val (.int (v0_7_l5 p1)), .val (.long (v0_17_l6 p1)), .second, .val (.long (v0_22_l8 q0 p1 p2 p3)), .second, .val (.long (v0_53_l10 q0 p1 p2 p3)), .second, .val (.long (v0_63_l12 q0 p1 p2 p3)), .second, .val (.long (v0_70_l14 q0 p1 p2 p3)), .second, .val (.long (v0_76_s0 q0 p1 p2 p3)), .second] [(.long (v2_ret (v0_63_l12 q0 p1 p2 p3)))])) t) => k53 t (st54 _ kk)
  have k58 := fun (t : State) (kk : Steps p.tables e below (T54.setTop (mkF m 116 #[.val (.long q0), .second, .val (.int p1), .val (.int p2), .val (.int p3), .val (.int (v0_7_l5 p1)), .val (.long (v0_17_l6 p1)), .second, .val (.long (v0_22_l8 q0 p1 p2 p3)), .second, .val (.long (v0_53_l10 q0 p1 p2 p3)), .second, .val (.long (v0_63_l12 q0 p1 p2 p3)), .second, .val (.long (v0_70_l14 q0 p1 p2 p3)), .second, .val (.long (v0_76_s0 q0 p1 p2 p3)), .second] [(.int (v0_108_s0 q0 p1 p2 p3))])) t) => k55 t (by
    show Steps p.tables e below (T54.setTop (mkF m 105 #[.val (.long q0), .second, .val (.int p1), .val (.int p2), .val (.int p3), .val (.int (v0_7_l5 p1)), .val (.long (v0_17_l6 p1)), .second, .val (.long (v0_22_l8 q0 p1 p2 p3)), .second, .val (.long (v0_53_l10 q0 p1 p2 p3)), .second, .val (.long (v0_63_l12 q0 p1 p2 p3)), .second, .val (.long (v0_70_l14 q0 p1 p2 p3)), .second, .val (.long (v0_76_s0 q0 p1 p2 p3)), .second] [(.long (v2_ret (v0_63_l12 q0 p1 p2 p3)))])) _
    refine XS.lload X54.here hx rfl (hb hby at_105) rfl ?_
    show Steps p.tables e below (T54.setTop (mkF m 107 #[.val (.long q0), .second, .val (.int p1), .val (.int p2), .val (.int p3), .val (.int (v0_7_l5 p1)), .val (.long (v0_17_l6 p1)), .second, .val (.long (v0_22_l8 q0 p1 p2 p3)), .second, .val (.long (v0_53_l10 q0 p1 p2 p3)), .second, .val (.long (v0_63_l12 q0 p1 p2 p3)), .second, .val (.long (v0_70_l14 q0 p1 p2 p3)), .second, .val (.long (v0_76_s0 q0 p1 p2 p3)), .second] [(.long (v0_76_s0 q0 p1 p2 p3)), (.long (v2_ret (v0_63_l12 q0 p1 p2 p3)))])) _
    refine XS.lcmp X54.here hx rfl (hb hby at_107) rfl ?_
    suffices k57 : Steps p.tables e below (T54.setTop (mkF m 116 #[.val (.long q0), .second, .val (.int p1), .val (.int p2), .val (.int p3), .val (.int (v0_7_l5 p1)), .val (.long (v0_17_l6 p1)), .second, .val (.long (v0_22_l8 q0 p1 p2 p3)), .second, .val (.long (v0_53_l10 q0 p1 p2 p3)), .second, .val (.long (v0_63_l12 q0 p1 p2 p3)), .second, .val (.long (v0_70_l14 q0 p1 p2 p3)), .second, .val (.long (v0_76_s0 q0 p1 p2 p3)), .second] [(.int (v0_108_s0 q0 p1 p2 p3))])) t by
      by_cases hc108_56 : (v2_ret (v0_63_l12 q0 p1 p2 p3)) = (v0_76_s0 q0 p1 p2 p3)
      · rw [(show (v0_108_s0 q0 p1 p2 p3) = (1 : Int32) from if_pos hc108_56)] at k57
        show Steps p.tables e below (T54.setTop (mkF m 108 #[.val (.long q0), .second, .val (.int p1), .val (.int p2), .val (.int p3), .val (.int (v0_7_l5 p1)), .val (.long (v0_17_l6 p1)), .second, .val (.long (v0_22_l8 q0 p1 p2 p3)), .second, .val (.long (v0_53_l10 q0 p1 p2 p3)), .second, .val (.long (v0_63_l12 q0 p1 p2 p3)), .second, .val (.long (v0_70_l14 q0 p1 p2 p3)), .second, .val (.long (v0_76_s0 q0 p1 p2 p3)), .second] [(.int (lcmpW (v2_ret (v0_63_l12 q0 p1 p2 p3)) (v0_76_s0 q0 p1 p2 p3)))])) _
        refine XS.ifNo X54.here hx rfl (hb hby at_108) rfl ((if0 _ _).trans (teq ((lw_eq _ _).mpr hc108_56)).2) ?_
        show Steps p.tables e below (T54.setTop (mkF m 111 #[.val (.long q0), .second, .val (.int p1), .val (.int p2), .val (.int p3), .val (.int (v0_7_l5 p1)), .val (.long (v0_17_l6 p1)), .second, .val (.long (v0_22_l8 q0 p1 p2 p3)), .second, .val (.long (v0_53_l10 q0 p1 p2 p3)), .second, .val (.long (v0_63_l12 q0 p1 p2 p3)), .second, .val (.long (v0_70_l14 q0 p1 p2 p3)), .second, .val (.long (v0_76_s0 q0 p1 p2 p3)), .second] [])) _
        refine XS.iconst X54.here hx rfl (hb hby at_111) ?_
        show Steps p.tables e below (T54.setTop (mkF m 112 #[.val (.long q0), .second, .val (.int p1), .val (.int p2), .val (.int p3), .val (.int (v0_7_l5 p1)), .val (.long (v0_17_l6 p1)), .second, .val (.long (v0_22_l8 q0 p1 p2 p3)), .second, .val (.long (v0_53_l10 q0 p1 p2 p3)), .second, .val (.long (v0_63_l12 q0 p1 p2 p3)), .second, .val (.long (v0_70_l14 q0 p1 p2 p3)), .second, .val (.long (v0_76_s0 q0 p1 p2 p3)), .second] [(.int (1 : Int32))])) _
        refine XS.goto X54.here hx rfl (pc0 := 112) (pc' := 116) rfl (hb hby at_112) (by decide) (by decide) ?_
        exact k57
      · rw [(show (v0_108_s0 q0 p1 p2 p3) = (0 : Int32) from if_neg hc108_56)] at k57
        show Steps p.tables e below (T54.setTop (mkF m 108 #[.val (.long q0), .second, .val (.int p1), .val (.int p2), .val (.int p3), .val (.int (v0_7_l5 p1)), .val (.long (v0_17_l6 p1)), .second, .val (.long (v0_22_l8 q0 p1 p2 p3)), .second, .val (.long (v0_53_l10 q0 p1 p2 p3)), .second, .val (.long (v0_63_l12 q0 p1 p2 p3)), .second, .val (.long (v0_70_l14 q0 p1 p2 p3)), .second, .val (.long (v0_76_s0 q0 p1 p2 p3)), .second] [(.int (lcmpW (v2_ret (v0_63_l12 q0 p1 p2 p3)) (v0_76_s0 q0 p1 p2 p3)))])) _
        refine XS.ifYes X54.here hx rfl (pc0 := 108) (pc' := 115) rfl (hb hby at_108) rfl ((if0 _ _).trans (feq (fun q => hc108_56 ((lw_eq _ _).mp q))).2) (by decide) (by decide) ?_
        show Steps p.tables e below (T54.setTop (mkF m 115 #[.val (.long q0), .second, .val (.int p1), .val (.int p2), .val (.int p3), .val (.int (v0_7_l5 p1)), .val (.long (v0_17_l6 p1)), .second, .val (.long (v0_22_l8 q0 p1 p2 p3)), .second, .val (.long (v0_53_l10 q0 p1 p2 p3)), .second, .val (.long (v0_63_l12 q0 p1 p2 p3)), .second, .val (.long (v0_70_l14 q0 p1 p2 p3)), .second, .val (.long (v0_76_s0 q0 p1 p2 p3)), .second] [])) _
        refine XS.iconst X54.here hx rfl (hb hby at_115) ?_
        exact k57
    exact kk)
  obtain ⟨fs, hr, hrun, hended, hW, hsame⟩ := X54.leave (v := some (.int (nar .boolean (v0_108_s0 q0 p1 p2 p3)))) (fun h => by rw [Bd.returns] at h; cases h)
  have hv : (nar .boolean (v0_108_s0 q0 p1 p2 p3)) = (nar .boolean (v0_108_s0 q0 p1 p2 p3)) := rfl
  have hone : (nar .boolean (v0_108_s0 q0 p1 p2 p3)) = 1 := hv.symm.trans (own_law q0 p1 p2 p3)
  refine ⟨_, _, k58 _ ?_, hrun, hended, _, _, rfl, ?_, ⟨_, rfl⟩, hW, hsame.mono (by decide) (by decide)⟩
  · show Steps p.tables e below (T54.setTop (mkF m 116 #[.val (.long q0), .second, .val (.int p1), .val (.int p2), .val (.int p3), .val (.int (v0_7_l5 p1)), .val (.long (v0_17_l6 p1)), .second, .val (.long (v0_22_l8 q0 p1 p2 p3)), .second, .val (.long (v0_53_l10 q0 p1 p2 p3)), .second, .val (.long (v0_63_l12 q0 p1 p2 p3)), .second, .val (.long (v0_70_l14 q0 p1 p2 p3)), .second, .val (.long (v0_76_s0 q0 p1 p2 p3)), .second] [(.int (v0_108_s0 q0 p1 p2 p3))])) _
    exact retN X54 hx (t := .boolean) Bd.returns (by simp) (hb hby at_116) hr
  · show Q0 Z q0 p1 p2 p3 o_MOST_UNSCALED k_o_MOST_UNSCALED o_POWERS_OF_TEN k_o_POWERS_OF_TEN h0 n0 _ T54.heap _
    rw [e54]
    exact ⟨congrArg (fun z => some (Value.int z)) hone, N54⟩
set_option maxRecDepth 65536 in
set_option maxHeartbeats 40000000 in
theorem comes_1 {Post : Tables → Env → Array Value → State → Outcome → State → Prop} (hpost : ∀ tb e args s v u, (limb_1_1.after args s (.returned v) u = true ∧ limb_1_2.after args s (.returned v) u = true ∧ True) → FrameEnd s (.returned v) u (Jvm.fieldLocs frame_1_writes args s ++ Jvm.arrayLocs frame_1_arrays args s ++ Jvm.staticLocs frame_1_statics s) 0 0 → Post tb e args s (.returned v) u) :
    ArmFor flags0 classFile x code maxLocals ret World_1 tables_1 room_1 Calls_1 rest_1 Pre_1 Post := by
  intro l hfl _ _ p e ha hc hk s m args below hf hA hF happ hP
  obtain ⟨hcalls, hrest, hpre⟩ := hP
  obtain ⟨-, -, -, hnamed, -, -, -, hat⟩ := (Spec.applies_iff hf).mp happ
  obtain ⟨hg, hn⟩ := and_e (Cond.before_iff.mp (show (Jvm.Cond.and given_1 narrow_1).before args s = true from hpre))
  obtain ⟨hcnt, hg0⟩ := and_e hg
  obtain ⟨ha0, hg1⟩ := and_e hg0
  obtain ⟨ha1, hg2⟩ := and_e hg1
  obtain ⟨ha2, hg3⟩ := and_e hg2
  have ha3 := hg3
  obtain ⟨w0, w1, w2, w3, rfl⟩ : ∃ w0 w1 w2 w3 : Value, args = #[w0, w1, w2, w3] := by
    have hs : args.size = 4 := by simpa [Cond.value, given_1] using hcnt
    obtain ⟨L⟩ := args
    match L, hs with
    | [w0, w1, w2, w3], _ => exact ⟨w0, w1, w2, w3, rfl⟩
  have hw := fun d (hd : d ∈ tables_1) => atoms_spec (ws := Jvm.Cond.code x code maxLocals ret :: tables_1) hat d (List.mem_cons_of_mem _ hd)
  have hfit : Fit s := fun {y c} hc i hi => by
    obtain ⟨ha, rfl⟩ := Array.getElem?_eq_some_iff.mp hc
    have q := List.all_eq_true.mp ((Array.all_eq_true_iff_forall_mem.mp hF) _ (Array.getElem_mem ha)) i (List.mem_range.mpr hi)
    simpa [Array.getElem?_eq_getElem hi] using q
  obtain ⟨q0, ea0⟩ := isL_v ha0
  obtain rfl : w0 = (.long q0) := Option.some.inj ea0
  obtain ⟨p1, ea1⟩ := is_v ha1
  obtain rfl : w1 = (.int p1) := Option.some.inj ea1
  obtain ⟨p2, ea2⟩ := is_v ha2
  obtain rfl : w2 = (.int p2) := Option.some.inj ea2
  obtain ⟨p3, ea3⟩ := is_v ha3
  obtain rfl : w3 = (.int p3) := Option.some.inj ea3
  obtain ⟨na1, nb1⟩ := and_e hn
  obtain ⟨na2, nb2⟩ := and_e nb1
  obtain ⟨na3, nb3⟩ := and_e nb2
  obtain ⟨na4, nb4⟩ := and_e nb3
  obtain ⟨na5, nb5⟩ := and_e nb4
  obtain ⟨na6, nb6⟩ := and_e nb5
  obtain ⟨na7, nb7⟩ := and_e nb6
  obtain ⟨na8, nb8⟩ := and_e nb7
  obtain ⟨na9, nb9⟩ := and_e nb8
  obtain ⟨na10, nb10⟩ := and_e nb9
  obtain ⟨na11, nb11⟩ := and_e nb10
  obtain ⟨na12, nb12⟩ := and_e nb11
  obtain ⟨na13, nb13⟩ := and_e nb12
  obtain ⟨na14, nb14⟩ := and_e nb13
  obtain ⟨na15, nb15⟩ := and_e nb14
  obtain ⟨na16, nb16⟩ := and_e nb15
  obtain ⟨na17, nb17⟩ := and_e nb16
  obtain ⟨na18, nb18⟩ := and_e nb17
  obtain ⟨na19, nb19⟩ := and_e nb18
  obtain ⟨na20, nb20⟩ := and_e nb19
  obtain ⟨na21, nb21⟩ := and_e nb20
  obtain ⟨o_MOST_UNSCALED, ev_MOST_UNSCALED⟩ := arr_v na1
  have S_MOST_UNSCALED := Sta.start ev_MOST_UNSCALED (Or.inr ⟨(hw _ (List.mem_of_getElem? (i := 10) rfl)), (hw _ (List.mem_of_getElem? (i := 14) rfl))⟩)
  obtain ⟨o_POWERS_OF_TEN, ev_POWERS_OF_TEN⟩ := arr_v na3
  have S_POWERS_OF_TEN := Sta.start ev_POWERS_OF_TEN (Or.inr ⟨(hw _ (List.mem_of_getElem? (i := 10) rfl)), (hw _ (List.mem_of_getElem? (i := 16) rfl))⟩)
  obtain ⟨cl_MOST_UNSCALED, A_MOST_UNSCALED⟩ := Arr.start ev_MOST_UNSCALED na1
  have hl_MOST_UNSCALED := own_len ev_MOST_UNSCALED (own_eq_int na2) (A_MOST_UNSCALED.fin (Vm.Alike.refl _))
  have el_MOST_UNSCALED_0 := (elem_in (own_eq_long na5) ev_MOST_UNSCALED (Term.int_eval (0)) A_MOST_UNSCALED.1).2
  have el_MOST_UNSCALED_1 := (elem_in (own_eq_long na6) ev_MOST_UNSCALED (Term.int_eval (1)) A_MOST_UNSCALED.1).2
  have el_MOST_UNSCALED_2 := (elem_in (own_eq_long na7) ev_MOST_UNSCALED (Term.int_eval (2)) A_MOST_UNSCALED.1).2
  have el_MOST_UNSCALED_3 := (elem_in (own_eq_long na8) ev_MOST_UNSCALED (Term.int_eval (3)) A_MOST_UNSCALED.1).2
  have el_MOST_UNSCALED_4 := (elem_in (own_eq_long na9) ev_MOST_UNSCALED (Term.int_eval (4)) A_MOST_UNSCALED.1).2
  have el_MOST_UNSCALED_5 := (elem_in (own_eq_long na10) ev_MOST_UNSCALED (Term.int_eval (5)) A_MOST_UNSCALED.1).2
  have el_MOST_UNSCALED_6 := (elem_in (own_eq_long na11) ev_MOST_UNSCALED (Term.int_eval (6)) A_MOST_UNSCALED.1).2
  have el_MOST_UNSCALED_7 := (elem_in (own_eq_long na12) ev_MOST_UNSCALED (Term.int_eval (7)) A_MOST_UNSCALED.1).2
  have el_MOST_UNSCALED_8 := (elem_in (own_eq_long na13) ev_MOST_UNSCALED (Term.int_eval (8)) A_MOST_UNSCALED.1).2
  have V_o_MOST_UNSCALED := Arv.start (z := (9 : Int32)) (vs := List.map Value.long [(9223372036854775807 : Int64), (922337203685477580 : Int64), (92233720368547758 : Int64), (9223372036854775 : Int64), (922337203685477 : Int64), (92233720368547 : Int64), (9223372036854 : Int64), (922337203685 : Int64), (92233720368 : Int64)]) (dv := .long 0) hfit A_MOST_UNSCALED hl_MOST_UNSCALED.1 hl_MOST_UNSCALED.2 (by decide) rfl ⟨el_MOST_UNSCALED_0, el_MOST_UNSCALED_1, el_MOST_UNSCALED_2, el_MOST_UNSCALED_3, el_MOST_UNSCALED_4, el_MOST_UNSCALED_5, el_MOST_UNSCALED_6, el_MOST_UNSCALED_7, el_MOST_UNSCALED_8, trivial⟩
  obtain ⟨k_o_MOST_UNSCALED, hk_MOST_UNSCALED⟩ : ∃ z, z = cl_MOST_UNSCALED.cls := ⟨_, rfl⟩
  rw [← hk_MOST_UNSCALED] at V_o_MOST_UNSCALED
  obtain ⟨cl_POWERS_OF_TEN, A_POWERS_OF_TEN⟩ := Arr.start ev_POWERS_OF_TEN na3
  have hl_POWERS_OF_TEN := own_len ev_POWERS_OF_TEN (own_eq_int na4) (A_POWERS_OF_TEN.fin (Vm.Alike.refl _))
  have el_POWERS_OF_TEN_0 := (elem_in (own_eq_long na14) ev_POWERS_OF_TEN (Term.int_eval (0)) A_POWERS_OF_TEN.1).2
  have el_POWERS_OF_TEN_1 := (elem_in (own_eq_long na15) ev_POWERS_OF_TEN (Term.int_eval (1)) A_POWERS_OF_TEN.1).2
  have el_POWERS_OF_TEN_2 := (elem_in (own_eq_long na16) ev_POWERS_OF_TEN (Term.int_eval (2)) A_POWERS_OF_TEN.1).2
  have el_POWERS_OF_TEN_3 := (elem_in (own_eq_long na17) ev_POWERS_OF_TEN (Term.int_eval (3)) A_POWERS_OF_TEN.1).2
  have el_POWERS_OF_TEN_4 := (elem_in (own_eq_long na18) ev_POWERS_OF_TEN (Term.int_eval (4)) A_POWERS_OF_TEN.1).2
  have el_POWERS_OF_TEN_5 := (elem_in (own_eq_long na19) ev_POWERS_OF_TEN (Term.int_eval (5)) A_POWERS_OF_TEN.1).2
  have el_POWERS_OF_TEN_6 := (elem_in (own_eq_long na20) ev_POWERS_OF_TEN (Term.int_eval (6)) A_POWERS_OF_TEN.1).2
  have el_POWERS_OF_TEN_7 := (elem_in (own_eq_long na21) ev_POWERS_OF_TEN (Term.int_eval (7)) A_POWERS_OF_TEN.1).2
  have el_POWERS_OF_TEN_8 := (elem_in (own_eq_long nb21) ev_POWERS_OF_TEN (Term.int_eval (8)) A_POWERS_OF_TEN.1).2
  have V_o_POWERS_OF_TEN := Arv.start (z := (9 : Int32)) (vs := List.map Value.long [(1 : Int64), (10 : Int64), (100 : Int64), (1000 : Int64), (10000 : Int64), (100000 : Int64), (1000000 : Int64), (10000000 : Int64), (100000000 : Int64)]) (dv := .long 0) hfit A_POWERS_OF_TEN hl_POWERS_OF_TEN.1 hl_POWERS_OF_TEN.2 (by decide) rfl ⟨el_POWERS_OF_TEN_0, el_POWERS_OF_TEN_1, el_POWERS_OF_TEN_2, el_POWERS_OF_TEN_3, el_POWERS_OF_TEN_4, el_POWERS_OF_TEN_5, el_POWERS_OF_TEN_6, el_POWERS_OF_TEN_7, el_POWERS_OF_TEN_8, trivial⟩
  obtain ⟨k_o_POWERS_OF_TEN, hk_POWERS_OF_TEN⟩ : ∃ z, z = cl_POWERS_OF_TEN.cls := ⟨_, rfl⟩
  rw [← hk_POWERS_OF_TEN] at V_o_POWERS_OF_TEN
  obtain ⟨n, o, h1, h2, h3, _, L, rfl, ⟨rfl, N⟩, hq⟩ := rm0 l s _ hw tables_1 q0 p1 p2 p3 o_MOST_UNSCALED k_o_MOST_UNSCALED o_POWERS_OF_TEN k_o_POWERS_OF_TEN s.heap s.heap.size (Nat.le_refl _) S_MOST_UNSCALED V_o_MOST_UNSCALED S_POWERS_OF_TEN V_o_POWERS_OF_TEN p e ha hc hk s m _ below hf ((Spec.applies_iff_loose hf).mp happ).1 ⟨rfl, State.Warmed39.refl s, rfl⟩ trivial
  refine ⟨n, _, h1, h2, h3, hpost _ _ _ _ _ _ ⟨Cond.after_iff.mpr rfl, Cond.after_iff.mpr (eq_i res_at (Term.int_eval (1)) rfl), trivial⟩ ⟨hq.1, hq.2.1, (hq.2.2.sift fun y hy => Or.inr (N y hy)).mono (by decide) (by decide)⟩⟩
theorem main_1_1 : Claimed_1_1 := comes_1 fun _ _ _ _ _ _ h hF => ⟨h.1, hF⟩
theorem main_1_2 : Claimed_1_2 := comes_1 fun _ _ _ _ _ _ h hF => ⟨h.2.1, hF⟩
end Jvm.Pilot.@@N@@
namespace Jvm.Pilot.@@N@@
open Jvm Jvm.ClassFile Sem Op Lib Jvm.Free Jvm.Stand Jvm.Pilot.@@N@@.Jvm.D
/-! MADE BY PROGRAM (witnessworld.py) out of the Statement's table words and the real class files: 11 classes; the members and pool entries that the words name. The judged class is class 1, her method 2. -/
namespace start1
open Jvm.ClassFile
def u (s : String) : CpInfo := .utf8 (stringToUtf16 s)
/-- a pool by its gaps: so many unusable entries, then the entry; so many at the end -/
def gap : Nat → List CpInfo → List CpInfo
  | 0, r => r
  | n + 1, r => .unusable :: gap n r
def poolList (es : List (Nat × CpInfo)) (last : Nat) : List CpInfo := es.foldr (fun e r => gap e.1 (e.2 :: r)) (gap last [])
def pool (es : List (Nat × CpInfo)) (last : Nat) : Array CpInfo := ⟨poolList es last⟩
def fileOf (pool : Array CpInfo) (this : Nat) (attrs : Array Attribute := #[]) (ms : Array MethodInfo := #[]) (fl : Nat := 33) (sup : Nat := 0) (ifs : Array Nat := #[]) (fds : Array FieldInfo := #[]) : ClassFile where
  minorVersion := 0
  majorVersion := 65
  constantPool := pool
  accessFlags := fl
  thisClass := this
  superClass := sup
  interfaces := ifs
  fields := fds
  methods := ms
  attributes := attrs
def plain (name : String) (sup : Option ClassId) : Class where
  name := name
  kind := .ordinary
  loader := none
  accessFlags := 33
  super := sup
  interfaces := #[]
  cf := none
  fields := #[]
  methods := #[]
  instanceTypes := #[]
  staticTypes := #[]
  resolved := #[]
  callSites := []
  init := .initialized
  statics := none
  mirror := none

def pool0 : Array CpInfo := pool [(5, u "<init>"), (0, u "()V"), (1, .class_ 10), (1, u "java/lang/Object")] 113

def k0m0 : Method := { name := "<init>", desc := "()V", sig := { parameters := [], returnType := none }, accessFlags := 1, code := none }
/-- java/lang/Object -/
def k0 : Class := { plain "java/lang/Object" none with
  accessFlags := 33
  interfaces := #[]
  cf := some (fileOf pool0 8 #[] #[{ accessFlags := 1, nameIndex := 5, descriptorIndex := 6, attributes := #[] }] 33 0 #[] #[])
  fields := #[]
  methods := #[k0m0]
  instanceTypes := #[]
  staticTypes := #[]
  resolved := Array.replicate 124 none
  statics := none }

def pool1 : Array CpInfo := pool [(2, .class_ 4), (1, u "java/lang/Object"), (0, u "<init>"), (0, u "()V"), (0, .long 10), (1, .long 100), (1, .long 1000), (1, .long 10000), (1, .long 100000), (1, .long 1000000), (1, .long 10000000), (1, .long 100000000), (1, .integer 2147483647), (0, .methodref 25 26), (0, .class_ 27), (0, .nameAndType 28 29), (0, u "com/example/gavelbook/gavelbook/DecimalsUnitsPinLaw"), (0, u "pow"), (0, u "(I)J"), (2, .long 9223372036854775807), (1, .long 1152921504606846975), (1, .long 18446744073709551615), (1, .methodref 39 40), (0, .class_ 41), (0, .nameAndType 42 43), (0, u "com/example/gavelbook/gavelbook/Decimals"), (0, u "units"), (0, u "(J)J"), (3, u "law"), (0, u "(JIII)Z")] 2

def k1m0 : Method := { name := "<init>", desc := "()V", sig := { parameters := [], returnType := none }, accessFlags := 2, code := none }
def k1c1 : Code := { maxStack := 2, maxLocals := 1, code := method_2_code, exceptionTable := #[], attributes := #[] }
def k1m1 : Method := { name := "pow", desc := "(I)J", sig := { parameters := [.int], returnType := some .long }, accessFlags := 10, code := some k1c1 }
def k1c2 : Code := { maxStack := 4, maxLocals := 18, code := code, exceptionTable := #[], attributes := #[] }
def k1m2 : Method := { name := "law", desc := "(JIII)Z", sig := { parameters := [.long, .int, .int, .int], returnType := some .boolean }, accessFlags := 9, code := some k1c2 }
/-- com/example/gavelbook/gavelbook/DecimalsUnitsPinLaw -/
def k1 : Class := { plain "com/example/gavelbook/gavelbook/DecimalsUnitsPinLaw" (some 0) with
  accessFlags := 49
  interfaces := #[]
  cf := some (fileOf pool1 25 #[] #[{ accessFlags := 2, nameIndex := 5, descriptorIndex := 6, attributes := #[] }, { accessFlags := 10, nameIndex := 28, descriptorIndex := 29, attributes := #[] }, { accessFlags := 9, nameIndex := 47, descriptorIndex := 48, attributes := #[] }] 49 2 #[] #[])
  fields := #[]
  methods := #[k1m0, k1m1, k1m2]
  instanceTypes := #[]
  staticTypes := #[]
  resolved := Array.replicate 51 none
  statics := none }

def pool2 : Array CpInfo := pool [(2, .class_ 4), (1, u "java/lang/Object"), (0, u "<init>"), (0, u "()V"), (2, .class_ 10), (0, u "com/example/gavelbook/gavelbook/Decimals"), (0, .long 18446744073709551615), (3, .long 15), (7, .fieldref 9 24), (0, .nameAndType 25 26), (0, u "MOST_UNSCALED"), (0, u "[J"), (0, .fieldref 9 28), (0, .nameAndType 29 26), (0, u "POWERS_OF_TEN"), (14, u "MOST_DECIMALS"), (0, u "I"), (2, u "PACKED_DIGITS"), (1, u "ONE"), (0, u "J"), (2, u "MALFORMED"), (0, u "UNPACKED"), (0, u "SCALE_BITS"), (12, u "units"), (0, u "(J)J")] 6

def k2m0 : Method := { name := "<init>", desc := "()V", sig := { parameters := [], returnType := none }, accessFlags := 2, code := none }
def k2c1 : Code := { maxStack := 5, maxLocals := 5, code := prog_15_method_5_code, exceptionTable := #[], attributes := #[] }
def k2m1 : Method := { name := "units", desc := "(J)J", sig := { parameters := [.long], returnType := some .long }, accessFlags := 8, code := some k2c1 }
/-- com/example/gavelbook/gavelbook/Decimals -/
def k2 : Class := { plain "com/example/gavelbook/gavelbook/Decimals" (some 0) with
  accessFlags := 48
  interfaces := #[]
  cf := some (fileOf pool2 9 #[] #[{ accessFlags := 2, nameIndex := 5, descriptorIndex := 6, attributes := #[] }, { accessFlags := 8, nameIndex := 69, descriptorIndex := 70, attributes := #[] }] 48 2 #[] #[{ accessFlags := 24, nameIndex := 44, descriptorIndex := 45, attributes := #[] }, { accessFlags := 24, nameIndex := 48, descriptorIndex := 45, attributes := #[] }, { accessFlags := 24, nameIndex := 50, descriptorIndex := 51, attributes := #[] }, { accessFlags := 24, nameIndex := 54, descriptorIndex := 51, attributes := #[] }, { accessFlags := 24, nameIndex := 55, descriptorIndex := 51, attributes := #[] }, { accessFlags := 26, nameIndex := 56, descriptorIndex := 45, attributes := #[] }, { accessFlags := 26, nameIndex := 29, descriptorIndex := 26, attributes := #[] }, { accessFlags := 26, nameIndex := 25, descriptorIndex := 26, attributes := #[] }])
  fields := #[{ name := "MOST_DECIMALS", type := .int, accessFlags := 24, slot := 0, constantValue := 0 }, { name := "PACKED_DIGITS", type := .int, accessFlags := 24, slot := 1, constantValue := 0 }, { name := "ONE", type := .long, accessFlags := 24, slot := 2, constantValue := 0 }, { name := "MALFORMED", type := .long, accessFlags := 24, slot := 3, constantValue := 0 }, { name := "UNPACKED", type := .long, accessFlags := 24, slot := 4, constantValue := 0 }, { name := "SCALE_BITS", type := .int, accessFlags := 26, slot := 5, constantValue := 0 }, { name := "POWERS_OF_TEN", type := (.array .long), accessFlags := 26, slot := 6, constantValue := 0 }, { name := "MOST_UNSCALED", type := (.array .long), accessFlags := 26, slot := 7, constantValue := 0 }]
  methods := #[k2m0, k2m1]
  instanceTypes := #[]
  staticTypes := #[.int, .int, .long, .long, .long, .int, (.array .long), (.array .long)]
  resolved := Array.replicate 77 none
  statics := some 0 }

def pool3 : Array CpInfo := pool [(1, u "java/lang/Cloneable"), (0, .class_ 1), (0, u "java/lang/Object"), (0, .class_ 3)] 3

/-- java/lang/Cloneable -/
def k3 : Class := { plain "java/lang/Cloneable" (some 0) with
  accessFlags := 1537
  interfaces := #[]
  cf := some (fileOf pool3 2 #[] #[] 1537 4 #[] #[])
  fields := #[]
  methods := #[]
  instanceTypes := #[]
  staticTypes := #[]
  resolved := Array.replicate 8 none
  statics := none }

def pool4 : Array CpInfo := pool [(1, u "java/io/Serializable"), (0, .class_ 1), (0, u "java/lang/Object"), (0, .class_ 3)] 3

/-- java/io/Serializable -/
def k4 : Class := { plain "java/io/Serializable" (some 0) with
  accessFlags := 1537
  interfaces := #[]
  cf := some (fileOf pool4 2 #[] #[] 1537 4 #[] #[])
  fields := #[]
  methods := #[]
  instanceTypes := #[]
  staticTypes := #[]
  resolved := Array.replicate 8 none
  statics := none }

/-- the primitive byte -/
def k5 : Class := { plain "byte" none with kind := .primitive 'B', accessFlags := 0x411 }
/-- [B -/
def k6 : Class := { plain "[B" (some 0) with kind := .array 5 .byte, interfaces := #[3, 4], accessFlags := 1041 }

/-- the primitive int -/
def k7 : Class := { plain "int" none with kind := .primitive 'I', accessFlags := 0x411 }
/-- [I -/
def k8 : Class := { plain "[I" (some 0) with kind := .array 7 .int, interfaces := #[3, 4], accessFlags := 1041 }

/-- the primitive long -/
def k9 : Class := { plain "long" none with kind := .primitive 'J', accessFlags := 0x411 }
/-- [J -/
def k10 : Class := { plain "[J" (some 0) with kind := .array 9 .long, interfaces := #[3, 4], accessFlags := 1041 }

def heap : Heap := #[{ cls := 2, slots := #[.int 0, .int 0, .long 0, .long 0, .long 0, .int 0, .ref 2, .ref 1], vm := .statics 2 },
  { cls := 10, slots := #[.long 9223372036854775807, .long 922337203685477580, .long 92233720368547758, .long 9223372036854775, .long 922337203685477, .long 92233720368547, .long 9223372036854, .long 922337203685, .long 92233720368], vm := .none },
  { cls := 10, slots := #[.long 1, .long 10, .long 100, .long 1000, .long 10000, .long 100000, .long 1000000, .long 10000000, .long 100000000], vm := .none }]
def classes : Array Class := #[k0, k1, k2, k3, k4, k5, k6, k7, k8, k9, k10]
def interned : List (Array UInt16 × Addr) := []
def slotsUsed : Nat := 26
def theMethod : MethodId := ⟨1, 2⟩
def args0 : Array Value := #[.long 5, .int 1, .int 0, .int 2]
def aboutOver (below : List Frame) : State where
  vm := { classes := classes, interned := interned.toArray }
  heap := heap
  slotsUsed := slotsUsed
  threads := #[{ frames := .invoking theMethod args0 :: below }]
def below0 : List Frame := [.native { method := ⟨0, 0⟩, args := #[] }]
def about1 : State := aboutOver below0
def p0 : Program := .bare "" "" ""
def e0 : Env := launch0.env 0 0 0
theorem w_frames : about1.frames = Frame.invoking theMethod args0 :: below0 := rfl
set_option maxRecDepth 65536 in
theorem w_args : argsFit about1.vm theMethod args0 = true := by decide +kernel
set_option maxRecDepth 65536 in
theorem w_heap : heapFits about1 = true := by decide +kernel
set_option maxRecDepth 65536 in
theorem w_runnable : about1.curStatus? = some .runnable := by decide +kernel
set_option maxRecDepth 65536 in
theorem w_alone : about1.alone = true := by decide +kernel
set_option maxRecDepth 65536 in
theorem w_named : about1.methodNamed? x = some theMethod := by decide +kernel
set_option maxRecDepth 65536 in
theorem w_hears : about1.hears theMethod below0 = true := by decide +kernel
set_option maxRecDepth 65536 in
theorem w_ripe : about1.ripe theMethod args0 below0 = true := by decide +kernel
theorem w_running : about1.status = .running := rfl
set_option maxRecDepth 65536 in
theorem w_room : about1.hasRoom e0.platform room_1 = true :=
  launch0.hasRoom_least _ room_1 (by decide +kernel) (by decide +kernel) (by decide +kernel) (by decide +kernel) (by decide +kernel) (by decide +kernel)
theorem allAtoms_all (ts : List Jvm.Cond) (a : Array Jvm.Value) (st : Jvm.State) : (allAtoms ts).before a st = ts.all (fun c => c.before a st) := by
  induction ts with
  | nil => rfl
  | cons c t ih =>
    show (Jvm.Cond.and c (allAtoms t)).before a st = _
    rw [Jvm.Cond.before_and, ih, List.all_cons]
def words1 : List Jvm.Cond := Jvm.Cond.code x code maxLocals ret :: tables_1
/-- a 'code' word, met by the world's own term for the bytes: nothing is compared byte by byte -/
theorem code_word {y : MethodName} {bytes : ByteArray} {mx : Nat} {rt : Option FieldType} {a : Array Value} {s : State} {m : MethodId} {meth : Method} {c : Code} (h1 : s.methodNamed? y = some m) (h2 : s.vm.method? m = some meth) (h3 : meth.code = some c) (h4 : c.code = bytes)
    (h5 : (c.maxLocals == mx && c.exceptionTable.isEmpty && decide (c.maxStack ≤ mostOperands) && decide (meth.sig.returnType = rt) && !meth.locks && decide (parseMethodDescriptor y.desc = some meth.sig)) = true) : (Jvm.Cond.code y bytes mx rt).before a s = true := by
  simp only [Bool.and_eq_true, beq_iff_eq, Bool.not_eq_true', decide_eq_true_eq] at h5
  obtain ⟨⟨⟨⟨⟨g1, g2⟩, g3⟩, g4⟩, g5⟩, g6⟩ := h5
  simp [Cond.before, Cond.holds, Cond.value, h1, h2, h3, h4, g1, g2, g3, g4, g5, g6]
def isCode : Jvm.Cond → Bool
  | .code _ _ _ _ => true
  | _ => false
theorem all_split {L : List Jvm.Cond} {P : Jvm.Cond → Bool} (h1 : L.all (fun c => isCode c || P c) = true) (h2 : ∀ c ∈ L.filter isCode, P c = true) : L.all P = true := by
  refine List.all_eq_true.mpr fun c hc => ?_
  have h := List.all_eq_true.mp h1 c hc
  rcases Bool.eq_false_or_eq_true (isCode c) with hi | hi
  · exact h2 c (List.mem_filter.mpr ⟨hc, hi⟩)
  · simpa [hi] using h
set_option maxRecDepth 65536 in
theorem w_c0 : (Jvm.Cond.code x code maxLocals ret).before args0 about1 = true := code_word (m := ⟨1, 2⟩) (meth := k1m2) (c := k1c2) (by decide +kernel) rfl rfl rfl (by decide +kernel)
set_option maxRecDepth 65536 in
theorem w_c1 : (Jvm.Cond.code ({ cls := "com/example/gavelbook/gavelbook/DecimalsUnitsPinLaw", name := "pow", desc := "(I)J" } : Jvm.MethodName) method_2_code (1 : Nat) (Option.some Jvm.ClassFile.FieldType.long)).before args0 about1 = true := code_word (m := ⟨1, 1⟩) (meth := k1m1) (c := k1c1) (by decide +kernel) rfl rfl rfl (by decide +kernel)
set_option maxRecDepth 65536 in
theorem w_c2 : (Jvm.Cond.code ({ cls := "com/example/gavelbook/gavelbook/Decimals", name := "units", desc := "(J)J" } : Jvm.MethodName) prog_15_method_5_code (5 : Nat) (Option.some Jvm.ClassFile.FieldType.long)).before args0 about1 = true := code_word (m := ⟨2, 1⟩) (meth := k2m1) (c := k2c1) (by decide +kernel) rfl rfl rfl (by decide +kernel)
def codes1 : List Jvm.Cond := [Jvm.Cond.code x code maxLocals ret, Jvm.Cond.code ({ cls := "com/example/gavelbook/gavelbook/DecimalsUnitsPinLaw", name := "pow", desc := "(I)J" } : Jvm.MethodName) method_2_code (1 : Nat) (Option.some Jvm.ClassFile.FieldType.long), Jvm.Cond.code ({ cls := "com/example/gavelbook/gavelbook/Decimals", name := "units", desc := "(J)J" } : Jvm.MethodName) prog_15_method_5_code (5 : Nat) (Option.some Jvm.ClassFile.FieldType.long)]
set_option maxRecDepth 65536 in
theorem codes_eq : words1.filter isCode = codes1 := rfl
theorem w_codes : ∀ c ∈ words1.filter isCode, c.before args0 about1 = true := by
  rw [codes_eq]
  intro c hc
  simp only [codes1, List.mem_cons, List.not_mem_nil, or_false] at hc
  rcases hc with rfl | rfl | rfl
  · exact w_c0
  · exact w_c1
  · exact w_c2
set_option maxRecDepth 65536 in
theorem w_t1 : (words1.take 24).all (fun c => isCode c || c.before args0 about1) = true := by decide +kernel
set_option maxRecDepth 65536 in
theorem w_t2 : (words1.drop 24).all (fun c => isCode c || c.before args0 about1) = true := by decide +kernel
theorem w_tables : (allAtoms (Jvm.Cond.code x code maxLocals ret :: tables_1)).before args0 about1 = true := by
  rw [allAtoms_all]
  show words1.all (fun c => c.before args0 about1) = true
  refine all_split ?_ w_codes
  rw [← List.take_append_drop 24 words1, List.all_append, w_t1, w_t2]
  rfl
set_option maxRecDepth 65536 in
theorem w_case : (Jvm.Cond.and given_1 narrow_1).before args0 about1 = true := by decide +kernel
theorem w_applies : (headSpec (Jvm.Cond.code x code maxLocals ret :: tables_1) room_1).applies x e0.platform about1 = true :=
  (Spec.applies_iff w_frames).mpr ⟨w_running, w_runnable, w_alone, w_named, w_hears, w_ripe, w_room, w_tables⟩
theorem atStart : AtStart classFile x code maxLocals ret World_1 tables_1 room_1 Calls_1 rest_1 Pre_1 launch0 p0 e0 about1 theMethod args0 below0 :=
  ⟨lists_1, trivial, launch0.admits_env _ _ _, launch0.least_env, fairChoices_fair.cas, fairChoices_fair.clock, w_frames, w_args, w_heap, w_applies, trivial, trivial, w_case⟩
end start1
theorem witness_1 : WitnessClaimed_1 := ⟨start1.p0, start1.e0, start1.about1, start1.theMethod, start1.args0, start1.below0, start1.atStart⟩
end Jvm.Pilot.@@N@@
