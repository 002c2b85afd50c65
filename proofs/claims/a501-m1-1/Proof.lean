import JvmDerived
import JvmDerived.Pilot.@@N@@Statement
import JvmDerived.Pilot.@@N@@Code
set_option linter.unusedVariables false
set_option linter.unusedSimpArgs false
namespace Jvm.RoadKit
open Sem ClassFile Op Lib Jvm.Stand Jvm.Free Jvm.LawKit
section New
variable {p : Program} {l : Launch} {e : Env} {R : Room} {s : State} {m : MethodId} {args : Array Value} {below : List Frame} {meth : Method} {c : Code} {T : State} {locs : List Loc} {cells slots : Nat}
theorem retI (X : Stand p l e R s m args below meth c T locs cells slots) (hx : p.tables.exec = Jvm.exec) {pc : Nat} {Ls : Array Slot} {z : Int32} {rest : List Value} (hret : meth.sig.returnType = some .int) (hd : decode c.code pc = .ok (.ireturn, 1)) {fs : List Frame}
    (hl : ∀ (f : JFrame) (acts : List Action), f.method = m → f.locked = none → f.entered = [] → (doReturn e (T.setTop f) acts (some (.int z))).1 = T.setFrames fs) : Steps p.tables e below (T.setTop (mkF m pc Ls (.int z :: rest))) (T.setFrames fs) := by
  have hm' : T.vm.method? m = some meth := X.method'
  have hn : narrow .int (.int z) = .int z := rfl
  show Steps p.tables e below (T.setTop { method := m, pc := pc, locals := Ls, stack := _ :: rest, locked := none }) _
  jvm_step X.here [X.here.top, hx, hd, hm', hret, hn]
  first | (intro acts; rw [hl _ acts rfl rfl rfl]) | rw [hl _ _ rfl rfl rfl]
  exact Steps.refl _
theorem own_lremM {g : JFrame} {target : State} (X : Stand p l e R s m args below meth c T locs cells slots) (hx : p.tables.exec = Jvm.exec) (hg : g.method = m) {x y : Int64} {rest : List Value} (hd : decode c.code g.pc = .ok (.lrem, 1)) (hs : g.stack = .long y :: .long x :: rest) (hy : y ≠ 0)
    (hr : Steps p.tables e below (T.setTop { g with pc := g.pc + 1, stack := .long (x % y) :: rest }) target) : Steps p.tables e below (T.setTop g) target := by
  have q : x - x / y * y = x % y := lrem_mod x y
  exact XS.lrem X.here hx hg hd hs hy (by rw [q]; exact hr)
theorem own_getD_int (L : List Int32) (n : Nat) (d : Int32) : (L.map Value.int).getD n (.int d) = .int (L.getD n d) := by simp [List.getD_eq_getElem?_getD, List.getElem?_map]
theorem own_getD_long (L : List Int64) (n : Nat) (d : Int64) : (L.map Value.long).getD n (.long d) = .long (L.getD n d) := by simp [List.getD_eq_getElem?_getD, List.getElem?_map]
theorem own_lt_nat {j z : Int32} (h : ¬ j < 0) (q : j < z) : j.toNatClampNeg < z.toNatClampNeg := by
  rw [Int32.lt_iff_toInt_lt] at h q; have : (0 : Int32).toInt = 0 := rfl
  simp only [Int32.toNatClampNeg]; omega
theorem own_eq_int {t : Term} {v : Int32} {args : Array Value} {s : State} (h : (Cond.eq t (.int v)).value args s none s [] = some true) : t.eval args s none [] s = some (.int v) := by
  simp only [Cond.value, Term.eval] at h
  cases ht : t.eval args s none [] s with
  | none => simp [ht] at h
  | some x => cases x <;> simp [ht] at h ⊢; exact h
theorem own_eq_long {t : Term} {v : Int64} {args : Array Value} {s : State} (h : (Cond.eq t (.long v)).value args s none s [] = some true) : t.eval args s none [] s = some (.long v) := by
  simp only [Cond.value, Term.eval] at h
  cases ht : t.eval args s none [] s with
  | none => simp [ht] at h
  | some x => cases x <;> simp [ht] at h ⊢; exact h
theorem own_selpriv {s : State} {args : Array Value} {y : MethodName} {n : Nat} (wi : (Cond.instantiable y.cls n).before args s = true) (hpriv : s.PrivateAt y) (hinst : (Cond.instanceMethod y).before args s = true) (hy : y.cls ≠ "java/lang/invoke/MethodHandle" ∧ y.cls ≠ "java/lang/invoke/VarHandle") : (Cond.selects y.cls y y).before args s = true := by
  obtain ⟨c, k, h1, h2, -, h4, -⟩ := Cond.instantiable_spec wi
  exact Jvm.Stand.selects_self_of_private h1 h2 (Bool.or_eq_false_iff.mp h4).1 hpriv hinst hy
theorem own_narb (P : Prop) [Decidable P] : nar .boolean (if P then (1 : Int32) else (0 : Int32)) = if P then (1 : Int32) else (0 : Int32) := by by_cases h : P <;> simp only [h, if_true, if_false] <;> rfl
end New
end Jvm.RoadKit
namespace Jvm.Pilot.@@N@@
open Jvm Jvm.ClassFile Sem Op Lib Jvm.Free Jvm.Stand Jvm.LawKit Jvm.RoadKit Bundle Jvm.Pilot.@@N@@.Jvm.D
theorem d1_0 : decode method_2_code 0 = .ok (.iload_n 0, 1) := by decide +kernel
theorem d1_1 : decode method_2_code 1 = .ok (.ifCond .ne 7, 3) := by decide +kernel
theorem d1_4 : decode method_2_code 4 = .ok (.getstatic 7, 3) := by decide +kernel
theorem d1_7 : decode method_2_code 7 = .ok (.areturn, 1) := by decide +kernel
theorem d1_8 : decode method_2_code 8 = .ok (.iload_n 0, 1) := by decide +kernel
theorem d1_9 : decode method_2_code 9 = .ok (.iconst 1, 1) := by decide +kernel
theorem d1_10 : decode method_2_code 10 = .ok (.if_icmp .ne 7, 3) := by decide +kernel
theorem d1_13 : decode method_2_code 13 = .ok (.getstatic 13, 3) := by decide +kernel
theorem d1_16 : decode method_2_code 16 = .ok (.areturn, 1) := by decide +kernel
theorem d1_17 : decode method_2_code 17 = .ok (.iload_n 0, 1) := by decide +kernel
theorem d1_18 : decode method_2_code 18 = .ok (.iconst 2, 1) := by decide +kernel
theorem d1_19 : decode method_2_code 19 = .ok (.if_icmp .ne 7, 3) := by decide +kernel
theorem d1_22 : decode method_2_code 22 = .ok (.getstatic 16, 3) := by decide +kernel
theorem d1_25 : decode method_2_code 25 = .ok (.areturn, 1) := by decide +kernel
theorem d1_26 : decode method_2_code 26 = .ok (.iload_n 0, 1) := by decide +kernel
theorem d1_27 : decode method_2_code 27 = .ok (.iconst 3, 1) := by decide +kernel
theorem d1_28 : decode method_2_code 28 = .ok (.if_icmp .ne 7, 3) := by decide +kernel
theorem d1_31 : decode method_2_code 31 = .ok (.getstatic 19, 3) := by decide +kernel
theorem d1_34 : decode method_2_code 34 = .ok (.areturn, 1) := by decide +kernel
theorem d1_35 : decode method_2_code 35 = .ok (.iload_n 0, 1) := by decide +kernel
theorem d1_36 : decode method_2_code 36 = .ok (.iconst 4, 1) := by decide +kernel
theorem d1_37 : decode method_2_code 37 = .ok (.if_icmp .ne 7, 3) := by decide +kernel
theorem d1_40 : decode method_2_code 40 = .ok (.getstatic 22, 3) := by decide +kernel
theorem d1_43 : decode method_2_code 43 = .ok (.areturn, 1) := by decide +kernel
theorem d1_44 : decode method_2_code 44 = .ok (.getstatic 25, 3) := by decide +kernel
theorem d1_47 : decode method_2_code 47 = .ok (.areturn, 1) := by decide +kernel
theorem pn_27 : plainName "com/example/slabrun/slabrun/core/UsageListMoveUpAtPinLaw" = true := by first | (simp [plainName, overriddenIn]; done) | decide +kernel
def v1_r_highest (p0 : Int32) : Int32 := (if p0 = (0 : Int32) then (25 : Int32) else (if p0 = (1 : Int32) then (50 : Int32) else (if p0 = (2 : Int32) then (75 : Int32) else (if p0 = (3 : Int32) then (100 : Int32) else (if p0 = (4 : Int32) then (100 : Int32) else (-1 : Int32))))))
theorem ef_rm1 (m : MethodId) (p0 : Int32) : entryFrame m #[(.int p0)] 1 = mkF m 0 #[.val (.int p0)] [] := by first | (simp [entryFrame, mkF, argsToLocals, Value.category]; done) | rfl
def Q1 (Z : State) (p0 : Int32) (o_INIT : Addr) (o_U0 : Addr) (o_U25 : Addr) (o_U50 : Addr) (o_U75 : Addr) (o_U100 : Addr) (h0 : Heap) (n0 : Nat) (v : Option Value) (h : Heap) (L : List Loc) : Prop := ∃ r : Addr, v = some (.ref r) ∧ Fr n0 L ∧ h = h0 ∧ Exa Z h r "com/example/slabrun/slabrun/core/UsageList" ∧ Fld Z h r "com/example/slabrun/slabrun/core/UsageList" "highest" "I" (.int (v1_r_highest p0))
set_option maxRecDepth 65536 in
set_option maxHeartbeats 40000000 in
theorem rm1 (l : Launch) (Z : State) (a0 : Array Value) (hw : ∀ d ∈ tables_1, d.before a0 Z = true) (ws : List Jvm.Cond) (p0 : Int32) (o_INIT : Addr) (o_U0 : Addr) (o_U25 : Addr) (o_U50 : Addr) (o_U75 : Addr) (o_U100 : Addr) (h0 : Heap) (n0 : Nat) (Z0 : n0 ≤ h0.size) (S_INIT : Sta Z h0 "com/example/slabrun/slabrun/core/UsageList" "INIT" "Lcom/example/slabrun/slabrun/core/UsageList;" (.ref o_INIT)) (E_o_INIT : Exa Z h0 o_INIT "com/example/slabrun/slabrun/core/UsageList") (F_highest_o_INIT : Fld Z h0 o_INIT "com/example/slabrun/slabrun/core/UsageList" "highest" "I" (.int (25 : Int32))) (S_U0 : Sta Z h0 "com/example/slabrun/slabrun/core/UsageList" "U0" "Lcom/example/slabrun/slabrun/core/UsageList;" (.ref o_U0)) (E_o_U0 : Exa Z h0 o_U0 "com/example/slabrun/slabrun/core/UsageList") (F_highest_o_U0 : Fld Z h0 o_U0 "com/example/slabrun/slabrun/core/UsageList" "highest" "I" (.int (50 : Int32))) (S_U25 : Sta Z h0 "com/example/slabrun/slabrun/core/UsageList" "U25" "Lcom/example/slabrun/slabrun/core/UsageList;" (.ref o_U25)) (E_o_U25 : Exa Z h0 o_U25 "com/example/slabrun/slabrun/core/UsageList") (F_highest_o_U25 : Fld Z h0 o_U25 "com/example/slabrun/slabrun/core/UsageList" "highest" "I" (.int (75 : Int32))) (S_U50 : Sta Z h0 "com/example/slabrun/slabrun/core/UsageList" "U50" "Lcom/example/slabrun/slabrun/core/UsageList;" (.ref o_U50)) (E_o_U50 : Exa Z h0 o_U50 "com/example/slabrun/slabrun/core/UsageList") (F_highest_o_U50 : Fld Z h0 o_U50 "com/example/slabrun/slabrun/core/UsageList" "highest" "I" (.int (100 : Int32))) (S_U75 : Sta Z h0 "com/example/slabrun/slabrun/core/UsageList" "U75" "Lcom/example/slabrun/slabrun/core/UsageList;" (.ref o_U75)) (E_o_U75 : Exa Z h0 o_U75 "com/example/slabrun/slabrun/core/UsageList") (F_highest_o_U75 : Fld Z h0 o_U75 "com/example/slabrun/slabrun/core/UsageList" "highest" "I" (.int (100 : Int32))) (S_U100 : Sta Z h0 "com/example/slabrun/slabrun/core/UsageList" "U100" "Lcom/example/slabrun/slabrun/core/UsageList;" (.ref o_U100)) (E_o_U100 : Exa Z h0 o_U100 "com/example/slabrun/slabrun/core/UsageList") (F_highest_o_U100 : Fld Z h0 o_U100 "com/example/slabrun/slabrun/core/UsageList" "highest" "I" (.int (-1 : Int32))) :
    MetFree l (⟨"com/example/slabrun/slabrun/core/UsageListMoveUpAtPinLaw", "pick", "(I)Lcom/example/slabrun/slabrun/core/UsageList;"⟩ : MethodName) (head1 (Jvm.Cond.code (⟨"com/example/slabrun/slabrun/core/UsageListMoveUpAtPinLaw", "pick", "(I)Lcom/example/slabrun/slabrun/core/UsageList;"⟩ : MethodName) method_2_code 1 (some (.object "com/example/slabrun/slabrun/core/UsageList")) :: ws) ({ frames := 0, cells := 0, slots := 0, locals := 0 } : Room)) (fun a U => a = #[(.int p0)] ∧ Z.Warmed39 U.vm ∧ U.heap = h0) (fun _ _ _ _ _ => True) (fun _ U o U' => ∃ v L, o = .returned v ∧ Q1 Z p0 o_INIT o_U0 o_U25 o_U50 o_U75 o_U100 h0 n0 v U'.heap L ∧ FrameEnd U o U' L ({ frames := 0, cells := 0, slots := 0, locals := 0 } : Room).cells ({ frames := 0, cells := 0, slots := 0, locals := 0 } : Room).slots) := by
  refine MetFree.of_bodySF (plainFor_of_name pn_27) hisR ?_
  intro p e s m args below meth c s₁ Bd hml0 hP hK
  obtain ⟨rfl, hZ, hh⟩ := hP
  have hx := Bd.exec
  have hby := Bd.bytes
  have hml : c.maxLocals = 1 := hml0
  have hown : s.vm.findClass "com/example/slabrun/slabrun/core/UsageListMoveUpAtPinLaw" = some m.cls := findClass_of_methodNamed Bd.named
  have hnm := (name_of_methodNamed Bd.named Bd.method).1
  have X0 : Stand p l e ({ frames := 0, cells := 0, slots := 0, locals := 0 } : Room) s m #[(.int p0)] below meth c s₁ [] 0 0 := Stand.of_body Bd
  have e0 : s₁.heap = h0 := by rw [← hh, Bd.state]; rfl
  have N0 := Fr.nil n0
  have KC0 := Keep.refl h0 ([] : List Addr)
  have pre0 : ∀ t, Steps p.tables e below (s₁.setTop (mkF m 0 #[.val (.int p0)] [])) t → Steps p.tables e below (s₁.setTop (entryFrame m #[(.int p0)] 1)) t := fun t k => castTop (ef_rm1 m p0) k
  have k1 := fun (t : State) (kk : Steps p.tables e below (s₁.setTop (mkF m 1 #[.val (.int p0)] [(.int p0)])) t) => pre0 t (by
    show Steps p.tables e below (s₁.setTop (mkF m 0 #[.val (.int p0)] [])) _
    refine XS.iloadN X0.here hx rfl (hb hby d1_0) rfl ?_
    exact kk)
  by_cases hc1_2 : p0 = (0 : Int32)
  · have k3 := fun (t : State) (kk : Steps p.tables e below (s₁.setTop (mkF m 4 #[.val (.int p0)] [])) t) => k1 t (by
      show Steps p.tables e below (s₁.setTop (mkF m 1 #[.val (.int p0)] [(.int p0)])) _
      refine XS.ifNo X0.here hx rfl (hb hby d1_1) rfl ((if0 _ _).trans (teq hc1_2).2) ?_
      exact kk)
    obtain ⟨T4, X4, e4, st4⟩ := getS2 X0 hx hZ hown (host := "") (Or.inl (hw _ (List.mem_of_getElem? (i := 5) rfl))) Via.refl e0 S_INIT (g := (mkF m 4 #[.val (.int p0)] [])) rfl (hb hby d1_4)
    have k5 := fun (t : State) (kk : Steps p.tables e below (T4.setTop (mkF m 7 #[.val (.int p0)] [(.ref o_INIT)])) t) => k3 t (st4 _ kk)
    obtain ⟨fs, hr, hrun, hended, hW, hsame⟩ := X4.leave (v := some (.ref o_INIT)) (fun h => by rw [Bd.returns] at h; cases h)
    have hf6 : (v1_r_highest p0) = (25 : Int32) := (if_pos hc1_2)
    refine ⟨_, _, k5 _ ?_, hrun, hended, _, _, rfl, ?_, ⟨_, rfl⟩, hW, hsame.mono (by decide) (by decide)⟩
    · show Steps p.tables e below (T4.setTop (mkF m 7 #[.val (.int p0)] [(.ref o_INIT)])) _
      exact retOut X4 hx (t := (.object "com/example/slabrun/slabrun/core/UsageList")) Bd.returns rfl (Or.inr (Or.inr (Or.inr (Or.inr ⟨rfl, rfl, rfl⟩)))) (hb hby d1_7) hr
    · show Q1 Z p0 o_INIT o_U0 o_U25 o_U50 o_U75 o_U100 h0 n0 _ T4.heap _
      rw [e4]
      exact ⟨o_INIT, rfl, N0, rfl, E_o_INIT, (by rw [hf6]; exact F_highest_o_INIT)⟩
  · have k7 := fun (t : State) (kk : Steps p.tables e below (s₁.setTop (mkF m 10 #[.val (.int p0)] [(.int (1 : Int32)), (.int p0)])) t) => k1 t (by
      show Steps p.tables e below (s₁.setTop (mkF m 1 #[.val (.int p0)] [(.int p0)])) _
      refine XS.ifYes X0.here hx rfl (pc0 := 1) (pc' := 8) rfl (hb hby d1_1) rfl ((if0 _ _).trans (feq hc1_2).2) (by decide) (by decide) ?_
      show Steps p.tables e below (s₁.setTop (mkF m 8 #[.val (.int p0)] [])) _
      refine XS.iloadN X0.here hx rfl (hb hby d1_8) rfl ?_
      show Steps p.tables e below (s₁.setTop (mkF m 9 #[.val (.int p0)] [(.int p0)])) _
      refine XS.iconst X0.here hx rfl (hb hby d1_9) ?_
      exact kk)
    by_cases hc10_8 : p0 = (1 : Int32)
    · have k9 := fun (t : State) (kk : Steps p.tables e below (s₁.setTop (mkF m 13 #[.val (.int p0)] [])) t) => k7 t (by
        show Steps p.tables e below (s₁.setTop (mkF m 10 #[.val (.int p0)] [(.int (1 : Int32)), (.int p0)])) _
        refine XS.icmpNo X0.here hx rfl (hb hby d1_10) rfl (teq hc10_8).2 ?_
        exact kk)
      obtain ⟨T10, X10, e10, st10⟩ := getS2 X0 hx hZ hown (host := "") (Or.inl (hw _ (List.mem_of_getElem? (i := 25) rfl))) Via.refl e0 S_U0 (g := (mkF m 13 #[.val (.int p0)] [])) rfl (hb hby d1_13)
      have k11 := fun (t : State) (kk : Steps p.tables e below (T10.setTop (mkF m 16 #[.val (.int p0)] [(.ref o_U0)])) t) => k9 t (st10 _ kk)
      obtain ⟨fs, hr, hrun, hended, hW, hsame⟩ := X10.leave (v := some (.ref o_U0)) (fun h => by rw [Bd.returns] at h; cases h)
      have hf12 : (v1_r_highest p0) = (50 : Int32) := ((if_neg hc1_2).trans (if_pos hc10_8))
      refine ⟨_, _, k11 _ ?_, hrun, hended, _, _, rfl, ?_, ⟨_, rfl⟩, hW, hsame.mono (by decide) (by decide)⟩
      · show Steps p.tables e below (T10.setTop (mkF m 16 #[.val (.int p0)] [(.ref o_U0)])) _
        exact retOut X10 hx (t := (.object "com/example/slabrun/slabrun/core/UsageList")) Bd.returns rfl (Or.inr (Or.inr (Or.inr (Or.inr ⟨rfl, rfl, rfl⟩)))) (hb hby d1_16) hr
      · show Q1 Z p0 o_INIT o_U0 o_U25 o_U50 o_U75 o_U100 h0 n0 _ T10.heap _
        rw [e10]
        exact ⟨o_U0, rfl, N0, rfl, E_o_U0, (by rw [hf12]; exact F_highest_o_U0)⟩
    · have k13 := fun (t : State) (kk : Steps p.tables e below (s₁.setTop (mkF m 19 #[.val (.int p0)] [(.int (2 : Int32)), (.int p0)])) t) => k7 t (by
        show Steps p.tables e below (s₁.setTop (mkF m 10 #[.val (.int p0)] [(.int (1 : Int32)), (.int p0)])) _
        refine XS.icmpYes X0.here hx rfl (pc0 := 10) (pc' := 17) rfl (hb hby d1_10) rfl (feq hc10_8).2 (by decide) (by decide) ?_
        show Steps p.tables e below (s₁.setTop (mkF m 17 #[.val (.int p0)] [])) _
        refine XS.iloadN X0.here hx rfl (hb hby d1_17) rfl ?_
        show Steps p.tables e below (s₁.setTop (mkF m 18 #[.val (.int p0)] [(.int p0)])) _
        refine XS.iconst X0.here hx rfl (hb hby d1_18) ?_
        exact kk)
      by_cases hc19_14 : p0 = (2 : Int32)
      · have k15 := fun (t : State) (kk : Steps p.tables e below (s₁.setTop (mkF m 22 #[.val (.int p0)] [])) t) => k13 t (by
          show Steps p.tables e below (s₁.setTop (mkF m 19 #[.val (.int p0)] [(.int (2 : Int32)), (.int p0)])) _
          refine XS.icmpNo X0.here hx rfl (hb hby d1_19) rfl (teq hc19_14).2 ?_
          exact kk)
        obtain ⟨T16, X16, e16, st16⟩ := getS2 X0 hx hZ hown (host := "") (Or.inl (hw _ (List.mem_of_getElem? (i := 21) rfl))) Via.refl e0 S_U25 (g := (mkF m 22 #[.val (.int p0)] [])) rfl (hb hby d1_22)
        have k17 := fun (t : State) (kk : Steps p.tables e below (T16.setTop (mkF m 25 #[.val (.int p0)] [(.ref o_U25)])) t) => k15 t (st16 _ kk)
        obtain ⟨fs, hr, hrun, hended, hW, hsame⟩ := X16.leave (v := some (.ref o_U25)) (fun h => by rw [Bd.returns] at h; cases h)
        have hf18 : (v1_r_highest p0) = (75 : Int32) := ((if_neg hc1_2).trans ((if_neg hc10_8).trans (if_pos hc19_14)))
        refine ⟨_, _, k17 _ ?_, hrun, hended, _, _, rfl, ?_, ⟨_, rfl⟩, hW, hsame.mono (by decide) (by decide)⟩
        · show Steps p.tables e below (T16.setTop (mkF m 25 #[.val (.int p0)] [(.ref o_U25)])) _
          exact retOut X16 hx (t := (.object "com/example/slabrun/slabrun/core/UsageList")) Bd.returns rfl (Or.inr (Or.inr (Or.inr (Or.inr ⟨rfl, rfl, rfl⟩)))) (hb hby d1_25) hr
        · show Q1 Z p0 o_INIT o_U0 o_U25 o_U50 o_U75 o_U100 h0 n0 _ T16.heap _
          rw [e16]
          exact ⟨o_U25, rfl, N0, rfl, E_o_U25, (by rw [hf18]; exact F_highest_o_U25)⟩
      · have k19 := fun (t : State) (kk : Steps p.tables e below (s₁.setTop (mkF m 28 #[.val (.int p0)] [(.int (3 : Int32)), (.int p0)])) t) => k13 t (by
          show Steps p.tables e below (s₁.setTop (mkF m 19 #[.val (.int p0)] [(.int (2 : Int32)), (.int p0)])) _
          refine XS.icmpYes X0.here hx rfl (pc0 := 19) (pc' := 26) rfl (hb hby d1_19) rfl (feq hc19_14).2 (by decide) (by decide) ?_
          show Steps p.tables e below (s₁.setTop (mkF m 26 #[.val (.int p0)] [])) _
          refine XS.iloadN X0.here hx rfl (hb hby d1_26) rfl ?_
          show Steps p.tables e below (s₁.setTop (mkF m 27 #[.val (.int p0)] [(.int p0)])) _
          refine XS.iconst X0.here hx rfl (hb hby d1_27) ?_
          exact kk)
        by_cases hc28_20 : p0 = (3 : Int32)
        · have k21 := fun (t : State) (kk : Steps p.tables e below (s₁.setTop (mkF m 31 #[.val (.int p0)] [])) t) => k19 t (by
            show Steps p.tables e below (s₁.setTop (mkF m 28 #[.val (.int p0)] [(.int (3 : Int32)), (.int p0)])) _
            refine XS.icmpNo X0.here hx rfl (hb hby d1_28) rfl (teq hc28_20).2 ?_
            exact kk)
          obtain ⟨T22, X22, e22, st22⟩ := getS2 X0 hx hZ hown (host := "") (Or.inl (hw _ (List.mem_of_getElem? (i := 30) rfl))) Via.refl e0 S_U50 (g := (mkF m 31 #[.val (.int p0)] [])) rfl (hb hby d1_31)
          have k23 := fun (t : State) (kk : Steps p.tables e below (T22.setTop (mkF m 34 #[.val (.int p0)] [(.ref o_U50)])) t) => k21 t (st22 _ kk)
          obtain ⟨fs, hr, hrun, hended, hW, hsame⟩ := X22.leave (v := some (.ref o_U50)) (fun h => by rw [Bd.returns] at h; cases h)
          have hf24 : (v1_r_highest p0) = (100 : Int32) := ((if_neg hc1_2).trans ((if_neg hc10_8).trans ((if_neg hc19_14).trans (if_pos hc28_20))))
          refine ⟨_, _, k23 _ ?_, hrun, hended, _, _, rfl, ?_, ⟨_, rfl⟩, hW, hsame.mono (by decide) (by decide)⟩
          · show Steps p.tables e below (T22.setTop (mkF m 34 #[.val (.int p0)] [(.ref o_U50)])) _
            exact retOut X22 hx (t := (.object "com/example/slabrun/slabrun/core/UsageList")) Bd.returns rfl (Or.inr (Or.inr (Or.inr (Or.inr ⟨rfl, rfl, rfl⟩)))) (hb hby d1_34) hr
          · show Q1 Z p0 o_INIT o_U0 o_U25 o_U50 o_U75 o_U100 h0 n0 _ T22.heap _
            rw [e22]
            exact ⟨o_U50, rfl, N0, rfl, E_o_U50, (by rw [hf24]; exact F_highest_o_U50)⟩
        · have k25 := fun (t : State) (kk : Steps p.tables e below (s₁.setTop (mkF m 37 #[.val (.int p0)] [(.int (4 : Int32)), (.int p0)])) t) => k19 t (by
            show Steps p.tables e below (s₁.setTop (mkF m 28 #[.val (.int p0)] [(.int (3 : Int32)), (.int p0)])) _
            refine XS.icmpYes X0.here hx rfl (pc0 := 28) (pc' := 35) rfl (hb hby d1_28) rfl (feq hc28_20).2 (by decide) (by decide) ?_
            show Steps p.tables e below (s₁.setTop (mkF m 35 #[.val (.int p0)] [])) _
            refine XS.iloadN X0.here hx rfl (hb hby d1_35) rfl ?_
            show Steps p.tables e below (s₁.setTop (mkF m 36 #[.val (.int p0)] [(.int p0)])) _
            refine XS.iconst X0.here hx rfl (hb hby d1_36) ?_
            exact kk)
          by_cases hc37_26 : p0 = (4 : Int32)
          · have k27 := fun (t : State) (kk : Steps p.tables e below (s₁.setTop (mkF m 40 #[.val (.int p0)] [])) t) => k25 t (by
              show Steps p.tables e below (s₁.setTop (mkF m 37 #[.val (.int p0)] [(.int (4 : Int32)), (.int p0)])) _
              refine XS.icmpNo X0.here hx rfl (hb hby d1_37) rfl (teq hc37_26).2 ?_
              exact kk)
            obtain ⟨T28, X28, e28, st28⟩ := getS2 X0 hx hZ hown (host := "") (Or.inl (hw _ (List.mem_of_getElem? (i := 23) rfl))) Via.refl e0 S_U75 (g := (mkF m 40 #[.val (.int p0)] [])) rfl (hb hby d1_40)
            have k29 := fun (t : State) (kk : Steps p.tables e below (T28.setTop (mkF m 43 #[.val (.int p0)] [(.ref o_U75)])) t) => k27 t (st28 _ kk)
            obtain ⟨fs, hr, hrun, hended, hW, hsame⟩ := X28.leave (v := some (.ref o_U75)) (fun h => by rw [Bd.returns] at h; cases h)
            have hf30 : (v1_r_highest p0) = (100 : Int32) := ((if_neg hc1_2).trans ((if_neg hc10_8).trans ((if_neg hc19_14).trans ((if_neg hc28_20).trans (if_pos hc37_26)))))
            refine ⟨_, _, k29 _ ?_, hrun, hended, _, _, rfl, ?_, ⟨_, rfl⟩, hW, hsame.mono (by decide) (by decide)⟩
            · show Steps p.tables e below (T28.setTop (mkF m 43 #[.val (.int p0)] [(.ref o_U75)])) _
              exact retOut X28 hx (t := (.object "com/example/slabrun/slabrun/core/UsageList")) Bd.returns rfl (Or.inr (Or.inr (Or.inr (Or.inr ⟨rfl, rfl, rfl⟩)))) (hb hby d1_43) hr
            · show Q1 Z p0 o_INIT o_U0 o_U25 o_U50 o_U75 o_U100 h0 n0 _ T28.heap _
              rw [e28]
              exact ⟨o_U75, rfl, N0, rfl, E_o_U75, (by rw [hf30]; exact F_highest_o_U75)⟩
          · have k31 := fun (t : State) (kk : Steps p.tables e below (s₁.setTop (mkF m 44 #[.val (.int p0)] [])) t) => k25 t (by
              show Steps p.tables e below (s₁.setTop (mkF m 37 #[.val (.int p0)] [(.int (4 : Int32)), (.int p0)])) _
              refine XS.icmpYes X0.here hx rfl (pc0 := 37) (pc' := 44) rfl (hb hby d1_37) rfl (feq hc37_26).2 (by decide) (by decide) ?_
              exact kk)
            obtain ⟨T32, X32, e32, st32⟩ := getS2 X0 hx hZ hown (host := "") (Or.inl (hw _ (List.mem_of_getElem? (i := 27) rfl))) Via.refl e0 S_U100 (g := (mkF m 44 #[.val (.int p0)] [])) rfl (hb hby d1_44)
            have k33 := fun (t : State) (kk : Steps p.tables e below (T32.setTop (mkF m 47 #[.val (.int p0)] [(.ref o_U100)])) t) => k31 t (st32 _ kk)
            obtain ⟨fs, hr, hrun, hended, hW, hsame⟩ := X32.leave (v := some (.ref o_U100)) (fun h => by rw [Bd.returns] at h; cases h)
            have hf34 : (v1_r_highest p0) = (-1 : Int32) := ((if_neg hc1_2).trans ((if_neg hc10_8).trans ((if_neg hc19_14).trans ((if_neg hc28_20).trans (if_neg hc37_26)))))
            refine ⟨_, _, k33 _ ?_, hrun, hended, _, _, rfl, ?_, ⟨_, rfl⟩, hW, hsame.mono (by decide) (by decide)⟩
            · show Steps p.tables e below (T32.setTop (mkF m 47 #[.val (.int p0)] [(.ref o_U100)])) _
              exact retOut X32 hx (t := (.object "com/example/slabrun/slabrun/core/UsageList")) Bd.returns rfl (Or.inr (Or.inr (Or.inr (Or.inr ⟨rfl, rfl, rfl⟩)))) (hb hby d1_47) hr
            · show Q1 Z p0 o_INIT o_U0 o_U25 o_U50 o_U75 o_U100 h0 n0 _ T32.heap _
              rw [e32]
              exact ⟨o_U100, rfl, N0, rfl, E_o_U100, (by rw [hf34]; exact F_highest_o_U100)⟩
theorem d2_0 : decode prog_35_method_4_code 0 = .ok (.aload_n 0, 1) := by decide +kernel
theorem d2_1 : decode prog_35_method_4_code 1 = .ok (.getfield 45, 3) := by decide +kernel
theorem d2_4 : decode prog_35_method_4_code 4 = .ok (.iconst (-1), 1) := by decide +kernel
theorem d2_5 : decode prog_35_method_4_code 5 = .ok (.if_icmp .ne 8, 3) := by decide +kernel
theorem d2_8 : decode prog_35_method_4_code 8 = .ok (.ldc 50, 2) := by decide +kernel
theorem d2_10 : decode prog_35_method_4_code 10 = .ok (.goto 20, 3) := by decide +kernel
theorem d2_13 : decode prog_35_method_4_code 13 = .ok (.aload_n 0, 1) := by decide +kernel
theorem d2_14 : decode prog_35_method_4_code 14 = .ok (.getfield 45, 3) := by decide +kernel
theorem d2_17 : decode prog_35_method_4_code 17 = .ok (.i2l, 1) := by decide +kernel
theorem d2_18 : decode prog_35_method_4_code 18 = .ok (.iload_n 1, 1) := by decide +kernel
theorem d2_19 : decode prog_35_method_4_code 19 = .ok (.i2l, 1) := by decide +kernel
theorem d2_20 : decode prog_35_method_4_code 20 = .ok (.lmul, 1) := by decide +kernel
theorem d2_21 : decode prog_35_method_4_code 21 = .ok (.ldc2_w 51, 3) := by decide +kernel
theorem d2_24 : decode prog_35_method_4_code 24 = .ok (.ladd, 1) := by decide +kernel
theorem d2_25 : decode prog_35_method_4_code 25 = .ok (.ldc2_w 53, 3) := by decide +kernel
theorem d2_28 : decode prog_35_method_4_code 28 = .ok (.ldiv, 1) := by decide +kernel
theorem d2_29 : decode prog_35_method_4_code 29 = .ok (.l2i, 1) := by decide +kernel
theorem d2_30 : decode prog_35_method_4_code 30 = .ok (.ireturn, 1) := by decide +kernel
theorem pn_48 : plainName "com/example/slabrun/slabrun/core/UsageList" = true := by first | (simp [plainName, overriddenIn]; done) | decide +kernel
def v2_ret (p1 : Int32) (w_highest_ra0 : Int32) : Int32 := (if w_highest_ra0 = (-1 : Int32) then (2147483647 : Int32) else (((((w_highest_ra0.toInt64) * (p1.toInt64)) + (99 : Int64)) / (100 : Int64)).toInt32))
theorem ef_rm2 (m : MethodId) (ra0 : Addr) (p1 : Int32) : entryFrame m #[(.ref ra0), (.int p1)] 2 = mkF m 0 #[.val (.ref ra0), .val (.int p1)] [] := by first | (simp [entryFrame, mkF, argsToLocals, Value.category]; done) | rfl
def Q2 (Z : State) (ra0 : Addr) (p1 : Int32) (w_highest_ra0 : Int32) (h0 : Heap) (n0 : Nat) (v : Option Value) (h : Heap) (L : List Loc) : Prop := v = some (.int (v2_ret p1 w_highest_ra0)) ∧ Fr n0 L ∧ h = h0
set_option maxRecDepth 65536 in
set_option maxHeartbeats 40000000 in
theorem rm2 (l : Launch) (Z : State) (a0 : Array Value) (hw : ∀ d ∈ tables_1, d.before a0 Z = true) (ws : List Jvm.Cond) (ra0 : Addr) (p1 : Int32) (w_highest_ra0 : Int32) (h0 : Heap) (n0 : Nat) (Z0 : n0 ≤ h0.size) (F_highest_ra0 : Fld Z h0 ra0 "com/example/slabrun/slabrun/core/UsageList" "highest" "I" (.int w_highest_ra0)) :
    MetFree l (⟨"com/example/slabrun/slabrun/core/UsageList", "moveUpAt", "(I)I"⟩ : MethodName) (head1 (Jvm.Cond.code (⟨"com/example/slabrun/slabrun/core/UsageList", "moveUpAt", "(I)I"⟩ : MethodName) prog_35_method_4_code 2 (some .int) :: ws) ({ frames := 0, cells := 0, slots := 0, locals := 0 } : Room)) (fun a U => a = #[(.ref ra0), (.int p1)] ∧ Z.Warmed39 U.vm ∧ U.heap = h0) (fun _ _ _ _ _ => True) (fun _ U o U' => ∃ v L, o = .returned v ∧ Q2 Z ra0 p1 w_highest_ra0 h0 n0 v U'.heap L ∧ FrameEnd U o U' L ({ frames := 0, cells := 0, slots := 0, locals := 0 } : Room).cells ({ frames := 0, cells := 0, slots := 0, locals := 0 } : Room).slots) := by
  refine MetFree.of_bodySF (plainFor_of_name pn_48) hisR ?_
  intro p e s m args below meth c s₁ Bd hml0 hP hK
  obtain ⟨rfl, hZ, hh⟩ := hP
  have hx := Bd.exec
  have hby := Bd.bytes
  have hml : c.maxLocals = 2 := hml0
  have hown : s.vm.findClass "com/example/slabrun/slabrun/core/UsageList" = some m.cls := findClass_of_methodNamed Bd.named
  have hnm := (name_of_methodNamed Bd.named Bd.method).1
  have X0 : Stand p l e ({ frames := 0, cells := 0, slots := 0, locals := 0 } : Room) s m #[(.ref ra0), (.int p1)] below meth c s₁ [] 0 0 := Stand.of_body Bd
  have e0 : s₁.heap = h0 := by rw [← hh, Bd.state]; rfl
  have N0 := Fr.nil n0
  have KC0 := Keep.refl h0 ([] : List Addr)
  have pre0 : ∀ t, Steps p.tables e below (s₁.setTop (mkF m 0 #[.val (.ref ra0), .val (.int p1)] [])) t → Steps p.tables e below (s₁.setTop (entryFrame m #[(.ref ra0), (.int p1)] 2)) t := fun t k => castTop (ef_rm2 m ra0 p1) k
  have k35 := fun (t : State) (kk : Steps p.tables e below (s₁.setTop (mkF m 1 #[.val (.ref ra0), .val (.int p1)] [(.ref ra0)])) t) => pre0 t (by
    show Steps p.tables e below (s₁.setTop (mkF m 0 #[.val (.ref ra0), .val (.int p1)] [])) _
    refine XS.aloadN X0.here hx rfl (hb hby d2_0) rfl rfl ?_
    exact kk)
  obtain ⟨T36, X36, e36, st36⟩ := getF X0 hx hZ hown (host := "") (Or.inl (hw _ (List.mem_of_getElem? (i := 13) rfl))) Via.refl e0 F_highest_ra0 (g := (mkF m 1 #[.val (.ref ra0), .val (.int p1)] [(.ref ra0)])) rfl rfl (hb hby d2_1)
  have k37 := fun (t : State) (kk : Steps p.tables e below (T36.setTop (mkF m 4 #[.val (.ref ra0), .val (.int p1)] [(.int w_highest_ra0)])) t) => k35 t (st36 _ kk)
  have k38 := fun (t : State) (kk : Steps p.tables e below (T36.setTop (mkF m 5 #[.val (.ref ra0), .val (.int p1)] [(.int (-1 : Int32)), (.int w_highest_ra0)])) t) => k37 t (by
    show Steps p.tables e below (T36.setTop (mkF m 4 #[.val (.ref ra0), .val (.int p1)] [(.int w_highest_ra0)])) _
    refine XS.iconst X36.here hx rfl (hb hby d2_4) ?_
    exact kk)
  by_cases hc5_39 : w_highest_ra0 = (-1 : Int32)
  · have k40 := fun (t : State) (kk : Steps p.tables e below (T36.setTop (mkF m 30 #[.val (.ref ra0), .val (.int p1)] [(.int (2147483647 : Int32))])) t) => k38 t (by
      show Steps p.tables e below (T36.setTop (mkF m 5 #[.val (.ref ra0), .val (.int p1)] [(.int (-1 : Int32)), (.int w_highest_ra0)])) _
      refine XS.icmpNo X36.here hx rfl (hb hby d2_5) rfl (teq hc5_39).2 ?_
      show Steps p.tables e below (T36.setTop (mkF m 8 #[.val (.ref ra0), .val (.int p1)] [])) _
      refine X36.ldcInt hx hown (mvT hZ (hw _ (List.mem_of_getElem? (i := 29) rfl))) (g := (mkF m 8 #[.val (.ref ra0), .val (.int p1)] [])) rfl (hb hby d2_8) _ ?_
      show Steps p.tables e below (T36.setTop (mkF m 10 #[.val (.ref ra0), .val (.int p1)] [(.int (2147483647 : Int32))])) _
      refine XS.goto X36.here hx rfl (pc0 := 10) (pc' := 30) rfl (hb hby d2_10) (by decide) (by decide) ?_
      exact kk)
    obtain ⟨fs, hr, hrun, hended, hW, hsame⟩ := X36.leave (v := some (.int (2147483647 : Int32))) (fun h => by rw [Bd.returns] at h; cases h)
    have hv : (v2_ret p1 w_highest_ra0) = (2147483647 : Int32) := (if_pos hc5_39)
    refine ⟨_, _, k40 _ ?_, hrun, hended, _, _, rfl, ?_, ⟨_, rfl⟩, hW, hsame.mono (by decide) (by decide)⟩
    · show Steps p.tables e below (T36.setTop (mkF m 30 #[.val (.ref ra0), .val (.int p1)] [(.int (2147483647 : Int32))])) _
      exact retI X36 hx Bd.returns (hb hby d2_30) hr
    · show Q2 Z ra0 p1 w_highest_ra0 h0 n0 _ T36.heap _
      rw [e36]
      exact ⟨(congrArg (fun z => some (Value.int z)) hv).symm, N0, rfl⟩
  · have k41 := fun (t : State) (kk : Steps p.tables e below (T36.setTop (mkF m 14 #[.val (.ref ra0), .val (.int p1)] [(.ref ra0)])) t) => k38 t (by
      show Steps p.tables e below (T36.setTop (mkF m 5 #[.val (.ref ra0), .val (.int p1)] [(.int (-1 : Int32)), (.int w_highest_ra0)])) _
      refine XS.icmpYes X36.here hx rfl (pc0 := 5) (pc' := 13) rfl (hb hby d2_5) rfl (feq hc5_39).2 (by decide) (by decide) ?_
      show Steps p.tables e below (T36.setTop (mkF m 13 #[.val (.ref ra0), .val (.int p1)] [])) _
      refine XS.aloadN X36.here hx rfl (hb hby d2_13) rfl rfl ?_
      exact kk)
    obtain ⟨T42, X42, e42, st42⟩ := getF X36 hx hZ hown (host := "") (Or.inl (hw _ (List.mem_of_getElem? (i := 13) rfl))) Via.refl e36 F_highest_ra0 (g := (mkF m 14 #[.val (.ref ra0), .val (.int p1)] [(.ref ra0)])) rfl rfl (hb hby d2_14)
    have k43 := fun (t : State) (kk : Steps p.tables e below (T42.setTop (mkF m 17 #[.val (.ref ra0), .val (.int p1)] [(.int w_highest_ra0)])) t) => k41 t (st42 _ kk)
    have k44 := fun (t : State) (kk : Steps p.tables e below (T42.setTop (mkF m 30 #[.val (.ref ra0), .val (.int p1)] [(.int (((((w_highest_ra0.toInt64) * (p1.toInt64)) + (99 : Int64)) / (100 : Int64)).toInt32))])) t) => k43 t (by
      show Steps p.tables e below (T42.setTop (mkF m 17 #[.val (.ref ra0), .val (.int p1)] [(.int w_highest_ra0)])) _
      refine XS.i2l X42.here hx rfl (hb hby d2_17) rfl ?_
      show Steps p.tables e below (T42.setTop (mkF m 18 #[.val (.ref ra0), .val (.int p1)] [(.long (w_highest_ra0.toInt64))])) _
      refine XS.iloadN X42.here hx rfl (hb hby d2_18) rfl ?_
      show Steps p.tables e below (T42.setTop (mkF m 19 #[.val (.ref ra0), .val (.int p1)] [(.int p1), (.long (w_highest_ra0.toInt64))])) _
      refine XS.i2l X42.here hx rfl (hb hby d2_19) rfl ?_
      show Steps p.tables e below (T42.setTop (mkF m 20 #[.val (.ref ra0), .val (.int p1)] [(.long (p1.toInt64)), (.long (w_highest_ra0.toInt64))])) _
      refine XS.lmul X42.here hx rfl (hb hby d2_20) rfl ?_
      show Steps p.tables e below (T42.setTop (mkF m 21 #[.val (.ref ra0), .val (.int p1)] [(.long ((w_highest_ra0.toInt64) * (p1.toInt64)))])) _
      refine X42.ldc2Long hx hown (mvT hZ (hw _ (List.mem_of_getElem? (i := 15) rfl))) (g := (mkF m 21 #[.val (.ref ra0), .val (.int p1)] [(.long ((w_highest_ra0.toInt64) * (p1.toInt64)))])) rfl (hb hby d2_21) _ ?_
      show Steps p.tables e below (T42.setTop (mkF m 24 #[.val (.ref ra0), .val (.int p1)] [(.long (99 : Int64)), (.long ((w_highest_ra0.toInt64) * (p1.toInt64)))])) _
      refine XS.ladd X42.here hx rfl (hb hby d2_24) rfl ?_
      show Steps p.tables e below (T42.setTop (mkF m 25 #[.val (.ref ra0), .val (.int p1)] [(.long (((w_highest_ra0.toInt64) * (p1.toInt64)) + (99 : Int64)))])) _
      refine X42.ldc2Long hx hown (mvT hZ (hw _ (List.mem_of_getElem? (i := 16) rfl))) (g := (mkF m 25 #[.val (.ref ra0), .val (.int p1)] [(.long (((w_highest_ra0.toInt64) * (p1.toInt64)) + (99 : Int64)))])) rfl (hb hby d2_25) _ ?_
      show Steps p.tables e below (T42.setTop (mkF m 28 #[.val (.ref ra0), .val (.int p1)] [(.long (100 : Int64)), (.long (((w_highest_ra0.toInt64) * (p1.toInt64)) + (99 : Int64)))])) _
      refine XS.ldiv X42.here hx rfl (hb hby d2_28) rfl (by decide) ?_
      show Steps p.tables e below (T42.setTop (mkF m 29 #[.val (.ref ra0), .val (.int p1)] [(.long ((((w_highest_ra0.toInt64) * (p1.toInt64)) + (99 : Int64)) / (100 : Int64)))])) _
      refine XS.l2i X42.here hx rfl (hb hby d2_29) rfl ?_
      exact kk)
    obtain ⟨fs, hr, hrun, hended, hW, hsame⟩ := X42.leave (v := some (.int (((((w_highest_ra0.toInt64) * (p1.toInt64)) + (99 : Int64)) / (100 : Int64)).toInt32))) (fun h => by rw [Bd.returns] at h; cases h)
    have hv : (v2_ret p1 w_highest_ra0) = (((((w_highest_ra0.toInt64) * (p1.toInt64)) + (99 : Int64)) / (100 : Int64)).toInt32) := (if_neg hc5_39)
    refine ⟨_, _, k44 _ ?_, hrun, hended, _, _, rfl, ?_, ⟨_, rfl⟩, hW, hsame.mono (by decide) (by decide)⟩
    · show Steps p.tables e below (T42.setTop (mkF m 30 #[.val (.ref ra0), .val (.int p1)] [(.int (((((w_highest_ra0.toInt64) * (p1.toInt64)) + (99 : Int64)) / (100 : Int64)).toInt32))])) _
      exact retI X42 hx Bd.returns (hb hby d2_30) hr
    · show Q2 Z ra0 p1 w_highest_ra0 h0 n0 _ T42.heap _
      rw [e42]
      exact ⟨(congrArg (fun z => some (Value.int z)) hv).symm, N0, rfl⟩
theorem d3_0 : decode method_3_code 0 = .ok (.iload_n 0, 1) := by decide +kernel
theorem d3_1 : decode method_3_code 1 = .ok (.ifCond .ne 6, 3) := by decide +kernel
theorem d3_4 : decode method_3_code 4 = .ok (.bipush 25, 2) := by decide +kernel
theorem d3_6 : decode method_3_code 6 = .ok (.ireturn, 1) := by decide +kernel
theorem d3_7 : decode method_3_code 7 = .ok (.iload_n 0, 1) := by decide +kernel
theorem d3_8 : decode method_3_code 8 = .ok (.iconst 1, 1) := by decide +kernel
theorem d3_9 : decode method_3_code 9 = .ok (.if_icmp .ne 6, 3) := by decide +kernel
theorem d3_12 : decode method_3_code 12 = .ok (.bipush 50, 2) := by decide +kernel
theorem d3_14 : decode method_3_code 14 = .ok (.ireturn, 1) := by decide +kernel
theorem d3_15 : decode method_3_code 15 = .ok (.iload_n 0, 1) := by decide +kernel
theorem d3_16 : decode method_3_code 16 = .ok (.iconst 2, 1) := by decide +kernel
theorem d3_17 : decode method_3_code 17 = .ok (.if_icmp .ne 6, 3) := by decide +kernel
theorem d3_20 : decode method_3_code 20 = .ok (.bipush 75, 2) := by decide +kernel
theorem d3_22 : decode method_3_code 22 = .ok (.ireturn, 1) := by decide +kernel
theorem d3_23 : decode method_3_code 23 = .ok (.iload_n 0, 1) := by decide +kernel
theorem d3_24 : decode method_3_code 24 = .ok (.iconst 3, 1) := by decide +kernel
theorem d3_25 : decode method_3_code 25 = .ok (.if_icmp .ne 6, 3) := by decide +kernel
theorem d3_28 : decode method_3_code 28 = .ok (.bipush 100, 2) := by decide +kernel
theorem d3_30 : decode method_3_code 30 = .ok (.ireturn, 1) := by decide +kernel
theorem d3_31 : decode method_3_code 31 = .ok (.iload_n 0, 1) := by decide +kernel
theorem d3_32 : decode method_3_code 32 = .ok (.iconst 4, 1) := by decide +kernel
theorem d3_33 : decode method_3_code 33 = .ok (.if_icmp .ne 6, 3) := by decide +kernel
theorem d3_36 : decode method_3_code 36 = .ok (.bipush 100, 2) := by decide +kernel
theorem d3_38 : decode method_3_code 38 = .ok (.ireturn, 1) := by decide +kernel
theorem d3_39 : decode method_3_code 39 = .ok (.iconst (-1), 1) := by decide +kernel
theorem d3_40 : decode method_3_code 40 = .ok (.ireturn, 1) := by decide +kernel
def v3_ret (p0 : Int32) : Int32 := (if p0 = (0 : Int32) then (25 : Int32) else (if p0 = (1 : Int32) then (50 : Int32) else (if p0 = (2 : Int32) then (75 : Int32) else (if p0 = (3 : Int32) then (100 : Int32) else (if p0 = (4 : Int32) then (100 : Int32) else (-1 : Int32))))))
theorem ef_rm3 (m : MethodId) (p0 : Int32) : entryFrame m #[(.int p0)] 1 = mkF m 0 #[.val (.int p0)] [] := by first | (simp [entryFrame, mkF, argsToLocals, Value.category]; done) | rfl
def Q3 (Z : State) (p0 : Int32) (h0 : Heap) (n0 : Nat) (v : Option Value) (h : Heap) (L : List Loc) : Prop := v = some (.int (v3_ret p0)) ∧ Fr n0 L ∧ h = h0
set_option maxRecDepth 65536 in
set_option maxHeartbeats 40000000 in
theorem rm3 (l : Launch) (Z : State) (a0 : Array Value) (hw : ∀ d ∈ tables_1, d.before a0 Z = true) (ws : List Jvm.Cond) (p0 : Int32) (h0 : Heap) (n0 : Nat) (Z0 : n0 ≤ h0.size) :
    MetFree l (⟨"com/example/slabrun/slabrun/core/UsageListMoveUpAtPinLaw", "highestOf", "(I)I"⟩ : MethodName) (head1 (Jvm.Cond.code (⟨"com/example/slabrun/slabrun/core/UsageListMoveUpAtPinLaw", "highestOf", "(I)I"⟩ : MethodName) method_3_code 1 (some .int) :: ws) ({ frames := 0, cells := 0, slots := 0, locals := 0 } : Room)) (fun a U => a = #[(.int p0)] ∧ Z.Warmed39 U.vm ∧ U.heap = h0) (fun _ _ _ _ _ => True) (fun _ U o U' => ∃ v L, o = .returned v ∧ Q3 Z p0 h0 n0 v U'.heap L ∧ FrameEnd U o U' L ({ frames := 0, cells := 0, slots := 0, locals := 0 } : Room).cells ({ frames := 0, cells := 0, slots := 0, locals := 0 } : Room).slots) := by
  refine MetFree.of_bodySF (plainFor_of_name pn_27) hisR ?_
  intro p e s m args below meth c s₁ Bd hml0 hP hK
  obtain ⟨rfl, hZ, hh⟩ := hP
  have hx := Bd.exec
  have hby := Bd.bytes
  have hml : c.maxLocals = 1 := hml0
  have hown : s.vm.findClass "com/example/slabrun/slabrun/core/UsageListMoveUpAtPinLaw" = some m.cls := findClass_of_methodNamed Bd.named
  have hnm := (name_of_methodNamed Bd.named Bd.method).1
  have X0 : Stand p l e ({ frames := 0, cells := 0, slots := 0, locals := 0 } : Room) s m #[(.int p0)] below meth c s₁ [] 0 0 := Stand.of_body Bd
  have e0 : s₁.heap = h0 := by rw [← hh, Bd.state]; rfl
  have N0 := Fr.nil n0
  have KC0 := Keep.refl h0 ([] : List Addr)
  have pre0 : ∀ t, Steps p.tables e below (s₁.setTop (mkF m 0 #[.val (.int p0)] [])) t → Steps p.tables e below (s₁.setTop (entryFrame m #[(.int p0)] 1)) t := fun t k => castTop (ef_rm3 m p0) k
  have k45 := fun (t : State) (kk : Steps p.tables e below (s₁.setTop (mkF m 1 #[.val (.int p0)] [(.int p0)])) t) => pre0 t (by
    show Steps p.tables e below (s₁.setTop (mkF m 0 #[.val (.int p0)] [])) _
    refine XS.iloadN X0.here hx rfl (hb hby d3_0) rfl ?_
    exact kk)
  by_cases hc1_46 : p0 = (0 : Int32)
  · have k47 := fun (t : State) (kk : Steps p.tables e below (s₁.setTop (mkF m 6 #[.val (.int p0)] [(.int (25 : Int32))])) t) => k45 t (by
      show Steps p.tables e below (s₁.setTop (mkF m 1 #[.val (.int p0)] [(.int p0)])) _
      refine XS.ifNo X0.here hx rfl (hb hby d3_1) rfl ((if0 _ _).trans (teq hc1_46).2) ?_
      show Steps p.tables e below (s₁.setTop (mkF m 4 #[.val (.int p0)] [])) _
      refine XS.bipush X0.here hx rfl (hb hby d3_4) ?_
      exact kk)
    obtain ⟨fs, hr, hrun, hended, hW, hsame⟩ := X0.leave (v := some (.int (25 : Int32))) (fun h => by rw [Bd.returns] at h; cases h)
    have hv : (v3_ret p0) = (25 : Int32) := (if_pos hc1_46)
    refine ⟨_, _, k47 _ ?_, hrun, hended, _, _, rfl, ?_, ⟨_, rfl⟩, hW, hsame.mono (by decide) (by decide)⟩
    · show Steps p.tables e below (s₁.setTop (mkF m 6 #[.val (.int p0)] [(.int (25 : Int32))])) _
      exact retI X0 hx Bd.returns (hb hby d3_6) hr
    · show Q3 Z p0 h0 n0 _ s₁.heap _
      rw [e0]
      exact ⟨(congrArg (fun z => some (Value.int z)) hv).symm, N0, rfl⟩
  · have k48 := fun (t : State) (kk : Steps p.tables e below (s₁.setTop (mkF m 9 #[.val (.int p0)] [(.int (1 : Int32)), (.int p0)])) t) => k45 t (by
      show Steps p.tables e below (s₁.setTop (mkF m 1 #[.val (.int p0)] [(.int p0)])) _
      refine XS.ifYes X0.here hx rfl (pc0 := 1) (pc' := 7) rfl (hb hby d3_1) rfl ((if0 _ _).trans (feq hc1_46).2) (by decide) (by decide) ?_
      show Steps p.tables e below (s₁.setTop (mkF m 7 #[.val (.int p0)] [])) _
      refine XS.iloadN X0.here hx rfl (hb hby d3_7) rfl ?_
      show Steps p.tables e below (s₁.setTop (mkF m 8 #[.val (.int p0)] [(.int p0)])) _
      refine XS.iconst X0.here hx rfl (hb hby d3_8) ?_
      exact kk)
    by_cases hc9_49 : p0 = (1 : Int32)
    · have k50 := fun (t : State) (kk : Steps p.tables e below (s₁.setTop (mkF m 14 #[.val (.int p0)] [(.int (50 : Int32))])) t) => k48 t (by
        show Steps p.tables e below (s₁.setTop (mkF m 9 #[.val (.int p0)] [(.int (1 : Int32)), (.int p0)])) _
        refine XS.icmpNo X0.here hx rfl (hb hby d3_9) rfl (teq hc9_49).2 ?_
        show Steps p.tables e below (s₁.setTop (mkF m 12 #[.val (.int p0)] [])) _
        refine XS.bipush X0.here hx rfl (hb hby d3_12) ?_
        exact kk)
      obtain ⟨fs, hr, hrun, hended, hW, hsame⟩ := X0.leave (v := some (.int (50 : Int32))) (fun h => by rw [Bd.returns] at h; cases h)
      have hv : (v3_ret p0) = (50 : Int32) := ((if_neg hc1_46).trans (if_pos hc9_49))
      refine ⟨_, _, k50 _ ?_, hrun, hended, _, _, rfl, ?_, ⟨_, rfl⟩, hW, hsame.mono (by decide) (by decide)⟩
      · show Steps p.tables e below (s₁.setTop (mkF m 14 #[.val (.int p0)] [(.int (50 : Int32))])) _
        exact retI X0 hx Bd.returns (hb hby d3_14) hr
      · show Q3 Z p0 h0 n0 _ s₁.heap _
        rw [e0]
        exact ⟨(congrArg (fun z => some (Value.int z)) hv).symm, N0, rfl⟩
    · have k51 := fun (t : State) (kk : Steps p.tables e below (s₁.setTop (mkF m 17 #[.val (.int p0)] [(.int (2 : Int32)), (.int p0)])) t) => k48 t (by
        show Steps p.tables e below (s₁.setTop (mkF m 9 #[.val (.int p0)] [(.int (1 : Int32)), (.int p0)])) _
        refine XS.icmpYes X0.here hx rfl (pc0 := 9) (pc' := 15) rfl (hb hby d3_9) rfl (feq hc9_49).2 (by decide) (by decide) ?_
        show Steps p.tables e below (s₁.setTop (mkF m 15 #[.val (.int p0)] [])) _
        refine XS.iloadN X0.here hx rfl (hb hby d3_15) rfl ?_
        show Steps p.tables e below (s₁.setTop (mkF m 16 #[.val (.int p0)] [(.int p0)])) _
        refine XS.iconst X0.here hx rfl (hb hby d3_16) ?_
        exact kk)
      by_cases hc17_52 : p0 = (2 : Int32)
      · have k53 := fun (t : State) (kk : Steps p.tables e below (s₁.setTop (mkF m 22 #[.val (.int p0)] [(.int (75 : Int32))])) t) => k51 t (by
          show Steps p.tables e below (s₁.setTop (mkF m 17 #[.val (.int p0)] [(.int (2 : Int32)), (.int p0)])) _
          refine XS.icmpNo X0.here hx rfl (hb hby d3_17) rfl (teq hc17_52).2 ?_
          show Steps p.tables e below (s₁.setTop (mkF m 20 #[.val (.int p0)] [])) _
          refine XS.bipush X0.here hx rfl (hb hby d3_20) ?_
          exact kk)
        obtain ⟨fs, hr, hrun, hended, hW, hsame⟩ := X0.leave (v := some (.int (75 : Int32))) (fun h => by rw [Bd.returns] at h; cases h)
        have hv : (v3_ret p0) = (75 : Int32) := ((if_neg hc1_46).trans ((if_neg hc9_49).trans (if_pos hc17_52)))
        refine ⟨_, _, k53 _ ?_, hrun, hended, _, _, rfl, ?_, ⟨_, rfl⟩, hW, hsame.mono (by decide) (by decide)⟩
        · show Steps p.tables e below (s₁.setTop (mkF m 22 #[.val (.int p0)] [(.int (75 : Int32))])) _
          exact retI X0 hx Bd.returns (hb hby d3_22) hr
        · show Q3 Z p0 h0 n0 _ s₁.heap _
          rw [e0]
          exact ⟨(congrArg (fun z => some (Value.int z)) hv).symm, N0, rfl⟩
      · have k54 := fun (t : State) (kk : Steps p.tables e below (s₁.setTop (mkF m 25 #[.val (.int p0)] [(.int (3 : Int32)), (.int p0)])) t) => k51 t (by
          show Steps p.tables e below (s₁.setTop (mkF m 17 #[.val (.int p0)] [(.int (2 : Int32)), (.int p0)])) _
          refine XS.icmpYes X0.here hx rfl (pc0 := 17) (pc' := 23) rfl (hb hby d3_17) rfl (feq hc17_52).2 (by decide) (by decide) ?_
          show Steps p.tables e below (s₁.setTop (mkF m 23 #[.val (.int p0)] [])) _
          refine XS.iloadN X0.here hx rfl (hb hby d3_23) rfl ?_
          show Steps p.tables e below (s₁.setTop (mkF m 24 #[.val (.int p0)] [(.int p0)])) _
          refine XS.iconst X0.here hx rfl (hb hby d3_24) ?_
          exact kk)
        by_cases hc25_55 : p0 = (3 : Int32)
        · have k56 := fun (t : State) (kk : Steps p.tables e below (s₁.setTop (mkF m 30 #[.val (.int p0)] [(.int (100 : Int32))])) t) => k54 t (by
            show Steps p.tables e below (s₁.setTop (mkF m 25 #[.val (.int p0)] [(.int (3 : Int32)), (.int p0)])) _
            refine XS.icmpNo X0.here hx rfl (hb hby d3_25) rfl (teq hc25_55).2 ?_
            show Steps p.tables e below (s₁.setTop (mkF m 28 #[.val (.int p0)] [])) _
            refine XS.bipush X0.here hx rfl (hb hby d3_28) ?_
            exact kk)
          obtain ⟨fs, hr, hrun, hended, hW, hsame⟩ := X0.leave (v := some (.int (100 : Int32))) (fun h => by rw [Bd.returns] at h; cases h)
          have hv : (v3_ret p0) = (100 : Int32) := ((if_neg hc1_46).trans ((if_neg hc9_49).trans ((if_neg hc17_52).trans (if_pos hc25_55))))
          refine ⟨_, _, k56 _ ?_, hrun, hended, _, _, rfl, ?_, ⟨_, rfl⟩, hW, hsame.mono (by decide) (by decide)⟩
          · show Steps p.tables e below (s₁.setTop (mkF m 30 #[.val (.int p0)] [(.int (100 : Int32))])) _
            exact retI X0 hx Bd.returns (hb hby d3_30) hr
          · show Q3 Z p0 h0 n0 _ s₁.heap _
            rw [e0]
            exact ⟨(congrArg (fun z => some (Value.int z)) hv).symm, N0, rfl⟩
        · have k57 := fun (t : State) (kk : Steps p.tables e below (s₁.setTop (mkF m 33 #[.val (.int p0)] [(.int (4 : Int32)), (.int p0)])) t) => k54 t (by
            show Steps p.tables e below (s₁.setTop (mkF m 25 #[.val (.int p0)] [(.int (3 : Int32)), (.int p0)])) _
            refine XS.icmpYes X0.here hx rfl (pc0 := 25) (pc' := 31) rfl (hb hby d3_25) rfl (feq hc25_55).2 (by decide) (by decide) ?_
            show Steps p.tables e below (s₁.setTop (mkF m 31 #[.val (.int p0)] [])) _
            refine XS.iloadN X0.here hx rfl (hb hby d3_31) rfl ?_
            show Steps p.tables e below (s₁.setTop (mkF m 32 #[.val (.int p0)] [(.int p0)])) _
            refine XS.iconst X0.here hx rfl (hb hby d3_32) ?_
            exact kk)
          by_cases hc33_58 : p0 = (4 : Int32)
          · have k59 := fun (t : State) (kk : Steps p.tables e below (s₁.setTop (mkF m 38 #[.val (.int p0)] [(.int (100 : Int32))])) t) => k57 t (by
              show Steps p.tables e below (s₁.setTop (mkF m 33 #[.val (.int p0)] [(.int (4 : Int32)), (.int p0)])) _
              refine XS.icmpNo X0.here hx rfl (hb hby d3_33) rfl (teq hc33_58).2 ?_
              show Steps p.tables e below (s₁.setTop (mkF m 36 #[.val (.int p0)] [])) _
              refine XS.bipush X0.here hx rfl (hb hby d3_36) ?_
              exact kk)
            obtain ⟨fs, hr, hrun, hended, hW, hsame⟩ := X0.leave (v := some (.int (100 : Int32))) (fun h => by rw [Bd.returns] at h; cases h)
            have hv : (v3_ret p0) = (100 : Int32) := ((if_neg hc1_46).trans ((if_neg hc9_49).trans ((if_neg hc17_52).trans ((if_neg hc25_55).trans (if_pos hc33_58)))))
            refine ⟨_, _, k59 _ ?_, hrun, hended, _, _, rfl, ?_, ⟨_, rfl⟩, hW, hsame.mono (by decide) (by decide)⟩
            · show Steps p.tables e below (s₁.setTop (mkF m 38 #[.val (.int p0)] [(.int (100 : Int32))])) _
              exact retI X0 hx Bd.returns (hb hby d3_38) hr
            · show Q3 Z p0 h0 n0 _ s₁.heap _
              rw [e0]
              exact ⟨(congrArg (fun z => some (Value.int z)) hv).symm, N0, rfl⟩
          · have k60 := fun (t : State) (kk : Steps p.tables e below (s₁.setTop (mkF m 40 #[.val (.int p0)] [(.int (-1 : Int32))])) t) => k57 t (by
              show Steps p.tables e below (s₁.setTop (mkF m 33 #[.val (.int p0)] [(.int (4 : Int32)), (.int p0)])) _
              refine XS.icmpYes X0.here hx rfl (pc0 := 33) (pc' := 39) rfl (hb hby d3_33) rfl (feq hc33_58).2 (by decide) (by decide) ?_
              show Steps p.tables e below (s₁.setTop (mkF m 39 #[.val (.int p0)] [])) _
              refine XS.iconst X0.here hx rfl (hb hby d3_39) ?_
              exact kk)
            obtain ⟨fs, hr, hrun, hended, hW, hsame⟩ := X0.leave (v := some (.int (-1 : Int32))) (fun h => by rw [Bd.returns] at h; cases h)
            have hv : (v3_ret p0) = (-1 : Int32) := ((if_neg hc1_46).trans ((if_neg hc9_49).trans ((if_neg hc17_52).trans ((if_neg hc25_55).trans (if_neg hc33_58)))))
            refine ⟨_, _, k60 _ ?_, hrun, hended, _, _, rfl, ?_, ⟨_, rfl⟩, hW, hsame.mono (by decide) (by decide)⟩
            · show Steps p.tables e below (s₁.setTop (mkF m 40 #[.val (.int p0)] [(.int (-1 : Int32))])) _
              exact retI X0 hx Bd.returns (hb hby d3_40) hr
            · show Q3 Z p0 h0 n0 _ s₁.heap _
              rw [e0]
              exact ⟨(congrArg (fun z => some (Value.int z)) hv).symm, N0, rfl⟩
theorem pd_0 : parseMethodDescriptor "(I)Lcom/example/slabrun/slabrun/core/UsageList;" = some ⟨[.int], some (.object "com/example/slabrun/slabrun/core/UsageList")⟩ := by decide +kernel
theorem pd_1 : parseMethodDescriptor "(I)I" = some ⟨[.int], some .int⟩ := by decide +kernel
def v0_7_l2 (p0 : Int32) : Int32 := ((p0 &&& (2147483647 : Int32)) % (6 : Int32))
def v0_25_l5 (p0 : Int32) (p1 : Int32) : Int32 := (v2_ret (p1 &&& (2147483647 : Int32)) (v1_r_highest (v0_7_l2 p0)))
def v0_42_s0 (p0 : Int32) (p1 : Int32) : Int32 := if (v0_25_l5 p0 p1) = (2147483647 : Int32) then (1 : Int32) else (0 : Int32)
def v0_57_l7 (p0 : Int32) (p1 : Int32) : Int64 := (((v3_ret (v0_7_l2 p0)).toInt64) * ((p1 &&& (2147483647 : Int32)).toInt64))
def v0_69_s0 (p0 : Int32) (p1 : Int32) : Int32 := if (((v0_25_l5 p0 p1).toInt64) * (100 : Int64)) < (v0_57_l7 p0 p1) then (0 : Int32) else (1 : Int32)
def v0_91_s0 (p0 : Int32) (p1 : Int32) : Int32 := if ((((v0_25_l5 p0 p1).toInt64) - (1 : Int64)) * (100 : Int64)) < (v0_57_l7 p0 p1) then (1 : Int32) else (0 : Int32)
def v0_108_s0 (p0 : Int32) (p1 : Int32) : Int32 := if (v0_91_s0 p0 p1) = (0 : Int32) then (0 : Int32) else (1 : Int32)
def v0_103_s0 (p0 : Int32) (p1 : Int32) : Int32 := if (v0_69_s0 p0 p1) = (0 : Int32) then (0 : Int32) else (v0_108_s0 p0 p1)
def v0_ret (p0 : Int32) (p1 : Int32) : Int32 := (if (v3_ret (v0_7_l2 p0)) < (0 : Int32) then (nar .boolean (v0_42_s0 p0 p1)) else (nar .boolean (v0_103_s0 p0 p1)))
theorem own_ceil (k : Int64) (P : Int32) (K : Int) (hk : k.toInt = K) (k0 : 0 ≤ K) (k1 : K ≤ 100) (h0 : 0 ≤ P.toInt) :
    ¬ (((((k * P.toInt64) + (99 : Int64)) / (100 : Int64)).toInt32).toInt64 * (100 : Int64)) < (k * P.toInt64) ∧ ((((((k * P.toInt64) + (99 : Int64)) / (100 : Int64)).toInt32).toInt64 - (1 : Int64)) * (100 : Int64)) < (k * P.toInt64) := by
  have rP := rng32 P
  have m1 := c_lmul k P.toInt64; have r1 := rng64 (k * P.toInt64)
  rw [hk, c_i2l] at m1
  have b0 : 0 ≤ K * P.toInt := Int.mul_nonneg k0 h0
  have b1 : K * P.toInt ≤ 100 * P.toInt := Int.mul_le_mul_of_nonneg_right k1 h0
  have e1 : (k * P.toInt64).toInt = K * P.toInt := by omega
  generalize k * P.toInt64 = N at *
  generalize K * P.toInt = M at *
  have a1 := c_ladd N (99 : Int64); have r2 := rng64 (N + 99)
  have n99 : (99 : Int64).toInt = 99 := rfl
  have n1 : (1 : Int64).toInt = 1 := rfl
  have n100 : (100 : Int64).toInt = 100 := rfl
  have e2 : (N + 99).toInt = M + 99 := by omega
  have d1 := (c_ldiv (N + 99) (100 : Int64) 100 rfl (by decide)).1 (by omega)
  have c1 := c_l2i ((N + 99) / 100); have r3 := rng32 ((N + 99) / 100).toInt32
  have e3 : (((N + 99) / 100).toInt32).toInt = (M + 99) / 100 := by omega
  have e4 := c_i2l (((N + 99) / 100).toInt32)
  generalize (((N + 99) / 100).toInt32).toInt64 = R at *
  have m2 := c_lmul R (100 : Int64); have r4 := rng64 (R * 100)
  have s1 := c_lsub R (1 : Int64); have r5 := rng64 (R - 1)
  have m3 := c_lmul (R - 1) (100 : Int64); have r6 := rng64 ((R - 1) * 100)
  rw [n100] at m2 m3
  rw [Int64.lt_iff_toInt_lt, Int64.lt_iff_toInt_lt]
  omega
theorem own_pages (p : Int32) : 0 ≤ (p &&& (2147483647 : Int32)).toInt := (c_and p (2147483647 : Int32) (by decide)).1
theorem own_law (p0 p1 : Int32) : (v0_ret p0 p1) = 1 := by
  have hp := own_pages p1
  have hh : v1_r_highest (v0_7_l2 p0) = v3_ret (v0_7_l2 p0) := rfl
  have hc : v3_ret (v0_7_l2 p0) = 25 ∨ v3_ret (v0_7_l2 p0) = 50 ∨ v3_ret (v0_7_l2 p0) = 75 ∨ v3_ret (v0_7_l2 p0) = 100 ∨ v3_ret (v0_7_l2 p0) = -1 := by
    unfold v3_ret
    split
    · exact Or.inl rfl
    split
    · exact Or.inr (Or.inl rfl)
    split
    · exact Or.inr (Or.inr (Or.inl rfl))
    split
    · exact Or.inr (Or.inr (Or.inr (Or.inl rfl)))
    split
    · exact Or.inr (Or.inr (Or.inr (Or.inl rfl)))
    · exact Or.inr (Or.inr (Or.inr (Or.inr rfl)))
  unfold v0_ret v0_42_s0 v0_103_s0 v0_108_s0 v0_91_s0 v0_69_s0 v0_57_l7 v0_25_l5 v2_ret
  rw [hh]
  generalize p1 &&& (2147483647 : Int32) = P at *
  generalize v3_ret (v0_7_l2 p0) = H at *
  rcases hc with rfl | rfl | rfl | rfl | rfl
  · have c := own_ceil ((25 : Int32).toInt64) P 25 rfl (by decide) (by decide) hp
    rw [if_neg (show ¬ (25 : Int32) < 0 by decide), if_neg (show ¬ (25 : Int32) = -1 by decide), if_neg c.1, if_pos c.2]; rfl
  · have c := own_ceil ((50 : Int32).toInt64) P 50 rfl (by decide) (by decide) hp
    rw [if_neg (show ¬ (50 : Int32) < 0 by decide), if_neg (show ¬ (50 : Int32) = -1 by decide), if_neg c.1, if_pos c.2]; rfl
  · have c := own_ceil ((75 : Int32).toInt64) P 75 rfl (by decide) (by decide) hp
    rw [if_neg (show ¬ (75 : Int32) < 0 by decide), if_neg (show ¬ (75 : Int32) = -1 by decide), if_neg c.1, if_pos c.2]; rfl
  · have c := own_ceil ((100 : Int32).toInt64) P 100 rfl (by decide) (by decide) hp
    rw [if_neg (show ¬ (100 : Int32) < 0 by decide), if_neg (show ¬ (100 : Int32) = -1 by decide), if_neg c.1, if_pos c.2]; rfl
  · rw [if_pos (by decide), if_pos rfl, if_pos rfl]; rfl

theorem ef_rm0 (m : MethodId) (p0 : Int32) (p1 : Int32) : entryFrame m #[(.int p0), (.int p1)] maxLocals = mkF m 0 #[.val (.int p0), .val (.int p1), .unset, .unset, .unset, .unset, .unset, .unset, .unset, .unset, .unset] [] := by first | (simp [entryFrame, mkF, argsToLocals, Value.category, maxLocals]; done) | rfl
def Q0 (Z : State) (p0 : Int32) (p1 : Int32) (o_INIT : Addr) (o_U0 : Addr) (o_U25 : Addr) (o_U50 : Addr) (o_U75 : Addr) (o_U100 : Addr) (h0 : Heap) (n0 : Nat) (v : Option Value) (h : Heap) (L : List Loc) : Prop := v = some (.int 1) ∧ Fr n0 L
set_option maxRecDepth 65536 in
set_option maxHeartbeats 40000000 in
theorem rm0 (l : Launch) (Z : State) (a0 : Array Value) (hw : ∀ d ∈ tables_1, d.before a0 Z = true) (ws : List Jvm.Cond) (p0 : Int32) (p1 : Int32) (o_INIT : Addr) (o_U0 : Addr) (o_U25 : Addr) (o_U50 : Addr) (o_U75 : Addr) (o_U100 : Addr) (h0 : Heap) (n0 : Nat) (Z0 : n0 ≤ h0.size) (S_INIT : Sta Z h0 "com/example/slabrun/slabrun/core/UsageList" "INIT" "Lcom/example/slabrun/slabrun/core/UsageList;" (.ref o_INIT)) (S_U0 : Sta Z h0 "com/example/slabrun/slabrun/core/UsageList" "U0" "Lcom/example/slabrun/slabrun/core/UsageList;" (.ref o_U0)) (S_U25 : Sta Z h0 "com/example/slabrun/slabrun/core/UsageList" "U25" "Lcom/example/slabrun/slabrun/core/UsageList;" (.ref o_U25)) (S_U50 : Sta Z h0 "com/example/slabrun/slabrun/core/UsageList" "U50" "Lcom/example/slabrun/slabrun/core/UsageList;" (.ref o_U50)) (S_U75 : Sta Z h0 "com/example/slabrun/slabrun/core/UsageList" "U75" "Lcom/example/slabrun/slabrun/core/UsageList;" (.ref o_U75)) (S_U100 : Sta Z h0 "com/example/slabrun/slabrun/core/UsageList" "U100" "Lcom/example/slabrun/slabrun/core/UsageList;" (.ref o_U100)) (E_o_INIT : Exa Z h0 o_INIT "com/example/slabrun/slabrun/core/UsageList") (F_highest_o_INIT : Fld Z h0 o_INIT "com/example/slabrun/slabrun/core/UsageList" "highest" "I" (.int (25 : Int32))) (E_o_U0 : Exa Z h0 o_U0 "com/example/slabrun/slabrun/core/UsageList") (F_highest_o_U0 : Fld Z h0 o_U0 "com/example/slabrun/slabrun/core/UsageList" "highest" "I" (.int (50 : Int32))) (E_o_U25 : Exa Z h0 o_U25 "com/example/slabrun/slabrun/core/UsageList") (F_highest_o_U25 : Fld Z h0 o_U25 "com/example/slabrun/slabrun/core/UsageList" "highest" "I" (.int (75 : Int32))) (E_o_U50 : Exa Z h0 o_U50 "com/example/slabrun/slabrun/core/UsageList") (F_highest_o_U50 : Fld Z h0 o_U50 "com/example/slabrun/slabrun/core/UsageList" "highest" "I" (.int (100 : Int32))) (E_o_U75 : Exa Z h0 o_U75 "com/example/slabrun/slabrun/core/UsageList") (F_highest_o_U75 : Fld Z h0 o_U75 "com/example/slabrun/slabrun/core/UsageList" "highest" "I" (.int (100 : Int32))) (E_o_U100 : Exa Z h0 o_U100 "com/example/slabrun/slabrun/core/UsageList") (F_highest_o_U100 : Fld Z h0 o_U100 "com/example/slabrun/slabrun/core/UsageList" "highest" "I" (.int (-1 : Int32))) :
    MetFree l x (head1 (Jvm.Cond.code x code maxLocals ret :: ws) room_1) (fun a U => a = #[(.int p0), (.int p1)] ∧ Z.Warmed39 U.vm ∧ U.heap = h0) (fun _ _ _ _ _ => True) (fun _ U o U' => ∃ v L, o = .returned v ∧ Q0 Z p0 p1 o_INIT o_U0 o_U25 o_U50 o_U75 o_U100 h0 n0 v U'.heap L ∧ FrameEnd U o U' L room_1.cells room_1.slots) := by
  refine MetFree.of_bodySF (plainFor_of_name pn_27) hisR ?_
  intro p e s m args below meth c s₁ Bd hml0 hP hK
  obtain ⟨rfl, hZ, hh⟩ := hP
  have hx := Bd.exec
  have hby := Bd.bytes
  have hml : c.maxLocals = 11 := hml0
  have hown : s.vm.findClass "com/example/slabrun/slabrun/core/UsageListMoveUpAtPinLaw" = some m.cls := findClass_of_methodNamed Bd.named
  have hnm := (name_of_methodNamed Bd.named Bd.method).1
  have X0 : Stand p l e room_1 s m #[(.int p0), (.int p1)] below meth c s₁ [] 0 0 := Stand.of_body Bd
  have e0 : s₁.heap = h0 := by rw [← hh, Bd.state]; rfl
  have N0 := Fr.nil n0
  have KC0 := Keep.refl h0 ([] : List Addr)
  have pre0 : ∀ t, Steps p.tables e below (s₁.setTop (mkF m 0 #[.val (.int p0), .val (.int p1), .unset, .unset, .unset, .unset, .unset, .unset, .unset, .unset, .unset] [])) t → Steps p.tables e below (s₁.setTop (entryFrame m #[(.int p0), (.int p1)] maxLocals)) t := fun t k => castTop (ef_rm0 m p0 p1) k
  have k61 := fun (t : State) (kk : Steps p.tables e below (s₁.setTop (mkF m 14 #[.val (.int p0), .val (.int p1), .val (.int (v0_7_l2 p0)), .val (.int (p1 &&& (2147483647 : Int32))), .unset, .unset, .unset, .unset, .unset, .unset, .unset] [(.int (v0_7_l2 p0))])) t) => pre0 t (by
    show Steps p.tables e below (s₁.setTop (mkF m 0 #[.val (.int p0), .val (.int p1), .unset, .unset, .unset, .unset, .unset, .unset, .unset, .unset, .unset] [])) _
    refine XS.iloadN X0.here hx rfl (hb hby at_0) rfl ?_
    show Steps p.tables e below (s₁.setTop (mkF m 1 #[.val (.int p0), .val (.int p1), .unset, .unset, .unset, .unset, .unset, .unset, .unset, .unset, .unset] [(.int p0)])) _
    refine X0.ldcInt hx hown (mvT hZ (hw _ (List.mem_of_getElem? (i := 0) rfl))) (g := (mkF m 1 #[.val (.int p0), .val (.int p1), .unset, .unset, .unset, .unset, .unset, .unset, .unset, .unset, .unset] [(.int p0)])) rfl (hb hby at_1) _ ?_
    show Steps p.tables e below (s₁.setTop (mkF m 3 #[.val (.int p0), .val (.int p1), .unset, .unset, .unset, .unset, .unset, .unset, .unset, .unset, .unset] [(.int (2147483647 : Int32)), (.int p0)])) _
    refine XS.iand X0.here hx rfl (hb hby at_3) rfl ?_
    show Steps p.tables e below (s₁.setTop (mkF m 4 #[.val (.int p0), .val (.int p1), .unset, .unset, .unset, .unset, .unset, .unset, .unset, .unset, .unset] [(.int (p0 &&& (2147483647 : Int32)))])) _
    refine XS.bipush X0.here hx rfl (hb hby at_4) ?_
    show Steps p.tables e below (s₁.setTop (mkF m 6 #[.val (.int p0), .val (.int p1), .unset, .unset, .unset, .unset, .unset, .unset, .unset, .unset, .unset] [(.int (6 : Int32)), (.int (p0 &&& (2147483647 : Int32)))])) _
    refine iremM X0 hx rfl (hb hby at_6) rfl (by decide) ?_
    show Steps p.tables e below (s₁.setTop (mkF m 7 #[.val (.int p0), .val (.int p1), .unset, .unset, .unset, .unset, .unset, .unset, .unset, .unset, .unset] [(.int ((p0 &&& (2147483647 : Int32)) % (6 : Int32)))])) _
    refine XS.istoreN X0.here hx rfl (hb hby at_7) rfl (l' := #[.val (.int p0), .val (.int p1), .val (.int (v0_7_l2 p0)), .unset, .unset, .unset, .unset, .unset, .unset, .unset, .unset]) rfl ?_
    show Steps p.tables e below (s₁.setTop (mkF m 8 #[.val (.int p0), .val (.int p1), .val (.int (v0_7_l2 p0)), .unset, .unset, .unset, .unset, .unset, .unset, .unset, .unset] [])) _
    refine XS.iloadN X0.here hx rfl (hb hby at_8) rfl ?_
    show Steps p.tables e below (s₁.setTop (mkF m 9 #[.val (.int p0), .val (.int p1), .val (.int (v0_7_l2 p0)), .unset, .unset, .unset, .unset, .unset, .unset, .unset, .unset] [(.int p1)])) _
    refine X0.ldcInt hx hown (mvT hZ (hw _ (List.mem_of_getElem? (i := 0) rfl))) (g := (mkF m 9 #[.val (.int p0), .val (.int p1), .val (.int (v0_7_l2 p0)), .unset, .unset, .unset, .unset, .unset, .unset, .unset, .unset] [(.int p1)])) rfl (hb hby at_9) _ ?_
    show Steps p.tables e below (s₁.setTop (mkF m 11 #[.val (.int p0), .val (.int p1), .val (.int (v0_7_l2 p0)), .unset, .unset, .unset, .unset, .unset, .unset, .unset, .unset] [(.int (2147483647 : Int32)), (.int p1)])) _
    refine XS.iand X0.here hx rfl (hb hby at_11) rfl ?_
    show Steps p.tables e below (s₁.setTop (mkF m 12 #[.val (.int p0), .val (.int p1), .val (.int (v0_7_l2 p0)), .unset, .unset, .unset, .unset, .unset, .unset, .unset, .unset] [(.int (p1 &&& (2147483647 : Int32)))])) _
    refine XS.istoreN X0.here hx rfl (hb hby at_12) rfl (l' := #[.val (.int p0), .val (.int p1), .val (.int (v0_7_l2 p0)), .val (.int (p1 &&& (2147483647 : Int32))), .unset, .unset, .unset, .unset, .unset, .unset, .unset]) rfl ?_
    show Steps p.tables e below (s₁.setTop (mkF m 13 #[.val (.int p0), .val (.int p1), .val (.int (v0_7_l2 p0)), .val (.int (p1 &&& (2147483647 : Int32))), .unset, .unset, .unset, .unset, .unset, .unset, .unset] [])) _
    refine XS.iloadN X0.here hx rfl (hb hby at_13) rfl ?_
    exact kk)
  have Zz62 : n0 ≤ h0.size := (Nat.le_trans Z0 KC0.1)
  obtain ⟨_, _, ⟨T62, L62, k62, n62⟩, -, X62, ⟨Lc62, hQ62, l62, y62, z62⟩, st62⟩ := Jvm.LawKit.callS X0 hx (y := (⟨"com/example/slabrun/slabrun/core/UsageListMoveUpAtPinLaw", "pick", "(I)Lcom/example/slabrun/slabrun/core/UsageList;"⟩ : MethodName)) hown (mvT hZ (hw _ (List.mem_of_getElem? (i := 1) rfl))) (mvT hZ (hw _ (List.mem_of_getElem? (i := 2) rfl))) (mvT hZ (hw _ (List.mem_of_getElem? (i := 3) rfl))) (mvT hZ (hw _ (List.mem_of_getElem? (i := 4) rfl))) (by decide) (backOf (W := 0) (rm1 l Z a0 hw [] (v0_7_l2 p0) o_INIT o_U0 o_U25 o_U50 o_U75 o_U100 h0 n0 Zz62 S_INIT E_o_INIT F_highest_o_INIT S_U0 E_o_U0 F_highest_o_U0 S_U25 E_o_U25 F_highest_o_U25 S_U50 E_o_U50 F_highest_o_U50 S_U75 E_o_U75 F_highest_o_U75 S_U100 E_o_U100 F_highest_o_U100) hZ (hw _ (List.mem_of_getElem? (i := 4) rfl)) (hw _ (List.mem_of_getElem? (i := 3) rfl)) (by decide) (by decide)) (g := (mkF m 14 #[.val (.int p0), .val (.int p1), .val (.int (v0_7_l2 p0)), .val (.int (p1 &&& (2147483647 : Int32))), .unset, .unset, .unset, .unset, .unset, .unset, .unset] [(.int (v0_7_l2 p0))])) rfl (by rw [hml]; rfl) (argsL := [(.int (v0_7_l2 p0))]) (rest := []) (lenOf pd_0 rfl) rfl (by show 2 * 0 + _ ≤ _; exact Nat.le_of_eq rfl) (hb hby at_14) (fun _ _ => ⟨rfl, e0, (by decide : 0 + 0 ≤ _), (by decide : 0 + 0 ≤ _)⟩)
  dsimp only [Pt.U, Pt.locs, Pt.cells, Pt.slots] at X62 l62 y62 z62 st62 hQ62
  subst l62 y62 z62
  obtain ⟨r62, rfl, N62q, e62, E_r62, F_highest_r62⟩ := hQ62
  rw [e62] at E_r62 F_highest_r62
  have N62 := Fr.app N0 N62q
  have k63 := fun (t : State) (kk : Steps p.tables e below (T62.setTop (mkF m 17 #[.val (.int p0), .val (.int p1), .val (.int (v0_7_l2 p0)), .val (.int (p1 &&& (2147483647 : Int32))), .unset, .unset, .unset, .unset, .unset, .unset, .unset] [(.ref r62)])) t) => k61 t (st62 _ kk)
  have k64 := fun (t : State) (kk : Steps p.tables e below (T62.setTop (mkF m 22 #[.val (.int p0), .val (.int p1), .val (.int (v0_7_l2 p0)), .val (.int (p1 &&& (2147483647 : Int32))), .val (.ref r62), .unset, .unset, .unset, .unset, .unset, .unset] [(.int (p1 &&& (2147483647 : Int32))), (.ref r62)])) t) => k63 t (by
    show Steps p.tables e below (T62.setTop (mkF m 17 #[.val (.int p0), .val (.int p1), .val (.int (v0_7_l2 p0)), .val (.int (p1 &&& (2147483647 : Int32))), .unset, .unset, .unset, .unset, .unset, .unset, .unset] [(.ref r62)])) _
    refine XS.astore X62.here hx rfl (hb hby at_17) rfl rfl (l' := #[.val (.int p0), .val (.int p1), .val (.int (v0_7_l2 p0)), .val (.int (p1 &&& (2147483647 : Int32))), .val (.ref r62), .unset, .unset, .unset, .unset, .unset, .unset]) rfl ?_
    show Steps p.tables e below (T62.setTop (mkF m 19 #[.val (.int p0), .val (.int p1), .val (.int (v0_7_l2 p0)), .val (.int (p1 &&& (2147483647 : Int32))), .val (.ref r62), .unset, .unset, .unset, .unset, .unset, .unset] [])) _
    refine XS.aload X62.here hx rfl (hb hby at_19) rfl rfl ?_
    show Steps p.tables e below (T62.setTop (mkF m 21 #[.val (.int p0), .val (.int p1), .val (.int (v0_7_l2 p0)), .val (.int (p1 &&& (2147483647 : Int32))), .val (.ref r62), .unset, .unset, .unset, .unset, .unset, .unset] [(.ref r62)])) _
    refine XS.iloadN X62.here hx rfl (hb hby at_21) rfl ?_
    exact kk)
  have Zz65 : n0 ≤ h0.size := (Nat.le_trans Z0 KC0.1)
  obtain ⟨cq65, kq65, q65a, q65b, q65c⟩ := isOf hZ e62 E_r62
  obtain ⟨_, _, ⟨T65, L65, k65, n65⟩, -, X65, ⟨Lc65, hQ65, l65, y65, z65⟩, st65⟩ := X62.virtualBack hx (y := (⟨"com/example/slabrun/slabrun/core/UsageList", "moveUpAt", "(I)I"⟩ : MethodName)) (z := (⟨"com/example/slabrun/slabrun/core/UsageList", "moveUpAt", "(I)I"⟩ : MethodName)) hown (mvT hZ (hw _ (List.mem_of_getElem? (i := 8) rfl))) (mvT hZ (hw _ (List.mem_of_getElem? (i := 9) rfl))) (notFace_of_selects (args := #[]) (mvT hZ (hw _ (List.mem_of_getElem? (i := 11) rfl)))) (mvT hZ (hw _ (List.mem_of_getElem? (i := 11) rfl))) (mvT hZ (hw _ (List.mem_of_getElem? (i := 10) rfl))) (by decide) (backOf (W := 0) (rm2 l Z a0 hw [] r62 (p1 &&& (2147483647 : Int32)) (v1_r_highest (v0_7_l2 p0)) h0 n0 Zz65 F_highest_r62) hZ (hw _ (List.mem_of_getElem? (i := 12) rfl)) (hw _ (List.mem_of_getElem? (i := 6) rfl)) (by decide) (by decide)) q65a q65c (g := (mkF m 22 #[.val (.int p0), .val (.int p1), .val (.int (v0_7_l2 p0)), .val (.int (p1 &&& (2147483647 : Int32))), .val (.ref r62), .unset, .unset, .unset, .unset, .unset, .unset] [(.int (p1 &&& (2147483647 : Int32))), (.ref r62)])) rfl (by rw [hml]; rfl) (Steps.refl _) (argsL := [(.int (p1 &&& (2147483647 : Int32)))]) (rest := []) (lenOf pd_1 rfl) rfl (by show 2 * 0 + _ ≤ _; exact Nat.le_of_eq rfl) (hb hby at_22) (fun _ _ => ⟨rfl, e62, (by decide : 0 + 0 ≤ _), (by decide : 0 + 0 ≤ _)⟩)
  dsimp only [Pt.U, Pt.locs, Pt.cells, Pt.slots] at X65 l65 y65 z65 st65 hQ65
  subst l65 y65 z65
  obtain ⟨rfl, N65q, e65⟩ := hQ65
  have N65 := Fr.app N62 N65q
  have k66 := fun (t : State) (kk : Steps p.tables e below (T65.setTop (mkF m 25 #[.val (.int p0), .val (.int p1), .val (.int (v0_7_l2 p0)), .val (.int (p1 &&& (2147483647 : Int32))), .val (.ref r62), .unset, .unset, .unset, .unset, .unset, .unset] [(.int (v2_ret (p1 &&& (2147483647 : Int32)) (v1_r_highest (v0_7_l2 p0))))])) t) => k64 t (st65.trans kk)
  have k67 := fun (t : State) (kk : Steps p.tables e below (T65.setTop (mkF m 28 #[.val (.int p0), .val (.int p1), .val (.int (v0_7_l2 p0)), .val (.int (p1 &&& (2147483647 : Int32))), .val (.ref r62), .val (.int (v0_25_l5 p0 p1)), .unset, .unset, .unset, .unset, .unset] [(.int (v0_7_l2 p0))])) t) => k66 t (by
    show Steps p.tables e below (T65.setTop (mkF m 25 #[.val (.int p0), .val (.int p1), .val (.int (v0_7_l2 p0)), .val (.int (p1 &&& (2147483647 : Int32))), .val (.ref r62), .unset, .unset, .unset, .unset, .unset, .unset] [(.int (v2_ret (p1 &&& (2147483647 : Int32)) (v1_r_highest (v0_7_l2 p0))))])) _
    refine XS.istore X65.here hx rfl (hb hby at_25) rfl (l' := #[.val (.int p0), .val (.int p1), .val (.int (v0_7_l2 p0)), .val (.int (p1 &&& (2147483647 : Int32))), .val (.ref r62), .val (.int (v0_25_l5 p0 p1)), .unset, .unset, .unset, .unset, .unset]) rfl ?_
    show Steps p.tables e below (T65.setTop (mkF m 27 #[.val (.int p0), .val (.int p1), .val (.int (v0_7_l2 p0)), .val (.int (p1 &&& (2147483647 : Int32))), .val (.ref r62), .val (.int (v0_25_l5 p0 p1)), .unset, .unset, .unset, .unset, .unset] [])) _
    refine XS.iloadN X65.here hx rfl (hb hby at_27) rfl ?_
    exact kk)
  have Zz68 : n0 ≤ h0.size := (Nat.le_trans Z0 KC0.1)
  obtain ⟨_, _, ⟨T68, L68, k68, n68⟩, -, X68, ⟨Lc68, hQ68, l68, y68, z68⟩, st68⟩ := Jvm.LawKit.callS X65 hx (y := (⟨"com/example/slabrun/slabrun/core/UsageListMoveUpAtPinLaw", "highestOf", "(I)I"⟩ : MethodName)) hown (mvT hZ (hw _ (List.mem_of_getElem? (i := 17) rfl))) (mvT hZ (hw _ (List.mem_of_getElem? (i := 18) rfl))) (mvT hZ (hw _ (List.mem_of_getElem? (i := 3) rfl))) (mvT hZ (hw _ (List.mem_of_getElem? (i := 19) rfl))) (by decide) (backOf (W := 0) (rm3 l Z a0 hw [] (v0_7_l2 p0) h0 n0 Zz68) hZ (hw _ (List.mem_of_getElem? (i := 19) rfl)) (hw _ (List.mem_of_getElem? (i := 3) rfl)) (by decide) (by decide)) (g := (mkF m 28 #[.val (.int p0), .val (.int p1), .val (.int (v0_7_l2 p0)), .val (.int (p1 &&& (2147483647 : Int32))), .val (.ref r62), .val (.int (v0_25_l5 p0 p1)), .unset, .unset, .unset, .unset, .unset] [(.int (v0_7_l2 p0))])) rfl (by rw [hml]; rfl) (argsL := [(.int (v0_7_l2 p0))]) (rest := []) (lenOf pd_1 rfl) rfl (by show 2 * 0 + _ ≤ _; exact Nat.le_of_eq rfl) (hb hby at_28) (fun _ _ => ⟨rfl, e65, (by decide : 0 + 0 ≤ _), (by decide : 0 + 0 ≤ _)⟩)
  dsimp only [Pt.U, Pt.locs, Pt.cells, Pt.slots] at X68 l68 y68 z68 st68 hQ68
  subst l68 y68 z68
  obtain ⟨rfl, N68q, e68⟩ := hQ68
  have N68 := Fr.app N65 N68q
  have k69 := fun (t : State) (kk : Steps p.tables e below (T68.setTop (mkF m 31 #[.val (.int p0), .val (.int p1), .val (.int (v0_7_l2 p0)), .val (.int (p1 &&& (2147483647 : Int32))), .val (.ref r62), .val (.int (v0_25_l5 p0 p1)), .unset, .unset, .unset, .unset, .unset] [(.int (v3_ret (v0_7_l2 p0)))])) t) => k67 t (st68 _ kk)
  have k70 := fun (t : State) (kk : Steps p.tables e below (T68.setTop (mkF m 35 #[.val (.int p0), .val (.int p1), .val (.int (v0_7_l2 p0)), .val (.int (p1 &&& (2147483647 : Int32))), .val (.ref r62), .val (.int (v0_25_l5 p0 p1)), .val (.int (v3_ret (v0_7_l2 p0))), .unset, .unset, .unset, .unset] [(.int (v3_ret (v0_7_l2 p0)))])) t) => k69 t (by
    show Steps p.tables e below (T68.setTop (mkF m 31 #[.val (.int p0), .val (.int p1), .val (.int (v0_7_l2 p0)), .val (.int (p1 &&& (2147483647 : Int32))), .val (.ref r62), .val (.int (v0_25_l5 p0 p1)), .unset, .unset, .unset, .unset, .unset] [(.int (v3_ret (v0_7_l2 p0)))])) _
    refine XS.istore X68.here hx rfl (hb hby at_31) rfl (l' := #[.val (.int p0), .val (.int p1), .val (.int (v0_7_l2 p0)), .val (.int (p1 &&& (2147483647 : Int32))), .val (.ref r62), .val (.int (v0_25_l5 p0 p1)), .val (.int (v3_ret (v0_7_l2 p0))), .unset, .unset, .unset, .unset]) rfl ?_
    show Steps p.tables e below (T68.setTop (mkF m 33 #[.val (.int p0), .val (.int p1), .val (.int (v0_7_l2 p0)), .val (.int (p1 &&& (2147483647 : Int32))), .val (.ref r62), .val (.int (v0_25_l5 p0 p1)), .val (.int (v3_ret (v0_7_l2 p0))), .unset, .unset, .unset, .unset] [])) _
    refine XS.iload X68.here hx rfl (hb hby at_33) rfl ?_
    exact kk)
  by_cases hc35_71 : (v3_ret (v0_7_l2 p0)) < (0 : Int32)
  · have k74 := fun (t : State) (kk : Steps p.tables e below (T68.setTop (mkF m 50 #[.val (.int p0), .val (.int p1), .val (.int (v0_7_l2 p0)), .val (.int (p1 &&& (2147483647 : Int32))), .val (.ref r62), .val (.int (v0_25_l5 p0 p1)), .val (.int (v3_ret (v0_7_l2 p0))), .unset, .unset, .unset, .unset] [(.int (v0_42_s0 p0 p1))])) t) => k70 t (by
      show Steps p.tables e below (T68.setTop (mkF m 35 #[.val (.int p0), .val (.int p1), .val (.int (v0_7_l2 p0)), .val (.int (p1 &&& (2147483647 : Int32))), .val (.ref r62), .val (.int (v0_25_l5 p0 p1)), .val (.int (v3_ret (v0_7_l2 p0))), .unset, .unset, .unset, .unset] [(.int (v3_ret (v0_7_l2 p0)))])) _
      refine XS.ifNo X68.here hx rfl (hb hby at_35) rfl ((if0 _ _).trans (tlt hc35_71).2.1) ?_
      show Steps p.tables e below (T68.setTop (mkF m 38 #[.val (.int p0), .val (.int p1), .val (.int (v0_7_l2 p0)), .val (.int (p1 &&& (2147483647 : Int32))), .val (.ref r62), .val (.int (v0_25_l5 p0 p1)), .val (.int (v3_ret (v0_7_l2 p0))), .unset, .unset, .unset, .unset] [])) _
      refine XS.iload X68.here hx rfl (hb hby at_38) rfl ?_
      show Steps p.tables e below (T68.setTop (mkF m 40 #[.val (.int p0), .val (.int p1), .val (.int (v0_7_l2 p0)), .val (.int (p1 &&& (2147483647 : Int32))), .val (.ref r62), .val (.int (v0_25_l5 p0 p1)), .val (.int (v3_ret (v0_7_l2 p0))), .unset, .unset, .unset, .unset] [(.int (v0_25_l5 p0 p1))])) _
      refine X68.ldcInt hx hown (mvT hZ (hw _ (List.mem_of_getElem? (i := 0) rfl))) (g := (mkF m 40 #[.val (.int p0), .val (.int p1), .val (.int (v0_7_l2 p0)), .val (.int (p1 &&& (2147483647 : Int32))), .val (.ref r62), .val (.int (v0_25_l5 p0 p1)), .val (.int (v3_ret (v0_7_l2 p0))), .unset, .unset, .unset, .unset] [(.int (v0_25_l5 p0 p1))])) rfl (hb hby at_40) _ ?_
      suffices k73 : Steps p.tables e below (T68.setTop (mkF m 50 #[.val (.int p0), .val (.int p1), .val (.int (v0_7_l2 p0)), .val (.int (p1 &&& (2147483647 : Int32))), .val (.ref r62), .val (.int (v0_25_l5 p0 p1)), .val (.int (v3_ret (v0_7_l2 p0))), .unset, .unset, .unset, .unset] [(.int (v0_42_s0 p0 p1))])) t by
        by_cases hc42_72 : (v0_25_l5 p0 p1) = (2147483647 : Int32)
        · rw [(show (v0_42_s0 p0 p1) = (1 : Int32) from if_pos hc42_72)] at k73
          show Steps p.tables e below (T68.setTop (mkF m 42 #[.val (.int p0), .val (.int p1), .val (.int (v0_7_l2 p0)), .val (.int (p1 &&& (2147483647 : Int32))), .val (.ref r62), .val (.int (v0_25_l5 p0 p1)), .val (.int (v3_ret (v0_7_l2 p0))), .unset, .unset, .unset, .unset] [(.int (2147483647 : Int32)), (.int (v0_25_l5 p0 p1))])) _
          refine XS.icmpNo X68.here hx rfl (hb hby at_42) rfl (teq hc42_72).2 ?_
          show Steps p.tables e below (T68.setTop (mkF m 45 #[.val (.int p0), .val (.int p1), .val (.int (v0_7_l2 p0)), .val (.int (p1 &&& (2147483647 : Int32))), .val (.ref r62), .val (.int (v0_25_l5 p0 p1)), .val (.int (v3_ret (v0_7_l2 p0))), .unset, .unset, .unset, .unset] [])) _
          refine XS.iconst X68.here hx rfl (hb hby at_45) ?_
          show Steps p.tables e below (T68.setTop (mkF m 46 #[.val (.int p0), .val (.int p1), .val (.int (v0_7_l2 p0)), .val (.int (p1 &&& (2147483647 : Int32))), .val (.ref r62), .val (.int (v0_25_l5 p0 p1)), .val (.int (v3_ret (v0_7_l2 p0))), .unset, .unset, .unset, .unset] [(.int (1 : Int32))])) _
          refine XS.goto X68.here hx rfl (pc0 := 46) (pc' := 50) rfl (hb hby at_46) (by decide) (by decide) ?_
          exact k73
        · rw [(show (v0_42_s0 p0 p1) = (0 : Int32) from if_neg hc42_72)] at k73
          show Steps p.tables e below (T68.setTop (mkF m 42 #[.val (.int p0), .val (.int p1), .val (.int (v0_7_l2 p0)), .val (.int (p1 &&& (2147483647 : Int32))), .val (.ref r62), .val (.int (v0_25_l5 p0 p1)), .val (.int (v3_ret (v0_7_l2 p0))), .unset, .unset, .unset, .unset] [(.int (2147483647 : Int32)), (.int (v0_25_l5 p0 p1))])) _
          refine XS.icmpYes X68.here hx rfl (pc0 := 42) (pc' := 49) rfl (hb hby at_42) rfl (feq hc42_72).2 (by decide) (by decide) ?_
          show Steps p.tables e below (T68.setTop (mkF m 49 #[.val (.int p0), .val (.int p1), .val (.int (v0_7_l2 p0)), .val (.int (p1 &&& (2147483647 : Int32))), .val (.ref r62), .val (.int (v0_25_l5 p0 p1)), .val (.int (v3_ret (v0_7_l2 p0))), .unset, .unset, .unset, .unset] [])) _
          refine XS.iconst X68.here hx rfl (hb hby at_49) ?_
          exact k73
      exact kk)
    obtain ⟨fs, hr, hrun, hended, hW, hsame⟩ := X68.leave (v := some (.int (nar .boolean (v0_42_s0 p0 p1)))) (fun h => by rw [Bd.returns] at h; cases h)
    have hv : (v0_ret p0 p1) = (nar .boolean (v0_42_s0 p0 p1)) := (if_pos hc35_71)
    have hone : (nar .boolean (v0_42_s0 p0 p1)) = 1 := hv.symm.trans (own_law p0 p1)
    refine ⟨_, _, k74 _ ?_, hrun, hended, _, _, rfl, ?_, ⟨_, rfl⟩, hW, hsame.mono (by decide) (by decide)⟩
    · show Steps p.tables e below (T68.setTop (mkF m 50 #[.val (.int p0), .val (.int p1), .val (.int (v0_7_l2 p0)), .val (.int (p1 &&& (2147483647 : Int32))), .val (.ref r62), .val (.int (v0_25_l5 p0 p1)), .val (.int (v3_ret (v0_7_l2 p0))), .unset, .unset, .unset, .unset] [(.int (v0_42_s0 p0 p1))])) _
      exact retN X68 hx (t := .boolean) Bd.returns (by simp) (hb hby at_50) hr
    · show Q0 Z p0 p1 o_INIT o_U0 o_U25 o_U50 o_U75 o_U100 h0 n0 _ T68.heap _
      rw [e68]
      exact ⟨congrArg (fun z => some (Value.int z)) hone, N68⟩
  · have k83 := fun (t : State) (kk : Steps p.tables e below (T68.setTop (mkF m 116 #[.val (.int p0), .val (.int p1), .val (.int (v0_7_l2 p0)), .val (.int (p1 &&& (2147483647 : Int32))), .val (.ref r62), .val (.int (v0_25_l5 p0 p1)), .val (.int (v3_ret (v0_7_l2 p0))), .val (.long (v0_57_l7 p0 p1)), .second, .val (.int (v0_69_s0 p0 p1)), .val (.int (v0_91_s0 p0 p1))] [(.int (v0_103_s0 p0 p1))])) t) => k70 t (by
      show Steps p.tables e below (T68.setTop (mkF m 35 #[.val (.int p0), .val (.int p1), .val (.int (v0_7_l2 p0)), .val (.int (p1 &&& (2147483647 : Int32))), .val (.ref r62), .val (.int (v0_25_l5 p0 p1)), .val (.int (v3_ret (v0_7_l2 p0))), .unset, .unset, .unset, .unset] [(.int (v3_ret (v0_7_l2 p0)))])) _
      refine XS.ifYes X68.here hx rfl (pc0 := 35) (pc' := 51) rfl (hb hby at_35) rfl ((if0 _ _).trans (flt hc35_71).2.1) (by decide) (by decide) ?_
      show Steps p.tables e below (T68.setTop (mkF m 51 #[.val (.int p0), .val (.int p1), .val (.int (v0_7_l2 p0)), .val (.int (p1 &&& (2147483647 : Int32))), .val (.ref r62), .val (.int (v0_25_l5 p0 p1)), .val (.int (v3_ret (v0_7_l2 p0))), .unset, .unset, .unset, .unset] [])) _
      refine XS.iload X68.here hx rfl (hb hby at_51) rfl ?_
      show Steps p.tables e below (T68.setTop (mkF m 53 #[.val (.int p0), .val (.int p1), .val (.int (v0_7_l2 p0)), .val (.int (p1 &&& (2147483647 : Int32))), .val (.ref r62), .val (.int (v0_25_l5 p0 p1)), .val (.int (v3_ret (v0_7_l2 p0))), .unset, .unset, .unset, .unset] [(.int (v3_ret (v0_7_l2 p0)))])) _
      refine XS.i2l X68.here hx rfl (hb hby at_53) rfl ?_
      show Steps p.tables e below (T68.setTop (mkF m 54 #[.val (.int p0), .val (.int p1), .val (.int (v0_7_l2 p0)), .val (.int (p1 &&& (2147483647 : Int32))), .val (.ref r62), .val (.int (v0_25_l5 p0 p1)), .val (.int (v3_ret (v0_7_l2 p0))), .unset, .unset, .unset, .unset] [(.long ((v3_ret (v0_7_l2 p0)).toInt64))])) _
      refine XS.iloadN X68.here hx rfl (hb hby at_54) rfl ?_
      show Steps p.tables e below (T68.setTop (mkF m 55 #[.val (.int p0), .val (.int p1), .val (.int (v0_7_l2 p0)), .val (.int (p1 &&& (2147483647 : Int32))), .val (.ref r62), .val (.int (v0_25_l5 p0 p1)), .val (.int (v3_ret (v0_7_l2 p0))), .unset, .unset, .unset, .unset] [(.int (p1 &&& (2147483647 : Int32))), (.long ((v3_ret (v0_7_l2 p0)).toInt64))])) _
      refine XS.i2l X68.here hx rfl (hb hby at_55) rfl ?_
      show Steps p.tables e below (T68.setTop (mkF m 56 #[.val (.int p0), .val (.int p1), .val (.int (v0_7_l2 p0)), .val (.int (p1 &&& (2147483647 : Int32))), .val (.ref r62), .val (.int (v0_25_l5 p0 p1)), .val (.int (v3_ret (v0_7_l2 p0))), .unset, .unset, .unset, .unset] [(.long ((p1 &&& (2147483647 : Int32)).toInt64)), (.long ((v3_ret (v0_7_l2 p0)).toInt64))])) _
      refine XS.lmul X68.here hx rfl (hb hby at_56) rfl ?_
      show Steps p.tables e below (T68.setTop (mkF m 57 #[.val (.int p0), .val (.int p1), .val (.int (v0_7_l2 p0)), .val (.int (p1 &&& (2147483647 : Int32))), .val (.ref r62), .val (.int (v0_25_l5 p0 p1)), .val (.int (v3_ret (v0_7_l2 p0))), .unset, .unset, .unset, .unset] [(.long (((v3_ret (v0_7_l2 p0)).toInt64) * ((p1 &&& (2147483647 : Int32)).toInt64)))])) _
      refine XS.lstore X68.here hx rfl (hb hby at_57) rfl (l' := #[.val (.int p0), .val (.int p1), .val (.int (v0_7_l2 p0)), .val (.int (p1 &&& (2147483647 : Int32))), .val (.ref r62), .val (.int (v0_25_l5 p0 p1)), .val (.int (v3_ret (v0_7_l2 p0))), .val (.long (v0_57_l7 p0 p1)), .second, .unset, .unset]) rfl ?_
      show Steps p.tables e below (T68.setTop (mkF m 59 #[.val (.int p0), .val (.int p1), .val (.int (v0_7_l2 p0)), .val (.int (p1 &&& (2147483647 : Int32))), .val (.ref r62), .val (.int (v0_25_l5 p0 p1)), .val (.int (v3_ret (v0_7_l2 p0))), .val (.long (v0_57_l7 p0 p1)), .second, .unset, .unset] [])) _
      refine XS.iload X68.here hx rfl (hb hby at_59) rfl ?_
      show Steps p.tables e below (T68.setTop (mkF m 61 #[.val (.int p0), .val (.int p1), .val (.int (v0_7_l2 p0)), .val (.int (p1 &&& (2147483647 : Int32))), .val (.ref r62), .val (.int (v0_25_l5 p0 p1)), .val (.int (v3_ret (v0_7_l2 p0))), .val (.long (v0_57_l7 p0 p1)), .second, .unset, .unset] [(.int (v0_25_l5 p0 p1))])) _
      refine XS.i2l X68.here hx rfl (hb hby at_61) rfl ?_
      show Steps p.tables e below (T68.setTop (mkF m 62 #[.val (.int p0), .val (.int p1), .val (.int (v0_7_l2 p0)), .val (.int (p1 &&& (2147483647 : Int32))), .val (.ref r62), .val (.int (v0_25_l5 p0 p1)), .val (.int (v3_ret (v0_7_l2 p0))), .val (.long (v0_57_l7 p0 p1)), .second, .unset, .unset] [(.long ((v0_25_l5 p0 p1).toInt64))])) _
      refine X68.ldc2Long hx hown (mvT hZ (hw _ (List.mem_of_getElem? (i := 20) rfl))) (g := (mkF m 62 #[.val (.int p0), .val (.int p1), .val (.int (v0_7_l2 p0)), .val (.int (p1 &&& (2147483647 : Int32))), .val (.ref r62), .val (.int (v0_25_l5 p0 p1)), .val (.int (v3_ret (v0_7_l2 p0))), .val (.long (v0_57_l7 p0 p1)), .second, .unset, .unset] [(.long ((v0_25_l5 p0 p1).toInt64))])) rfl (hb hby at_62) _ ?_
      show Steps p.tables e below (T68.setTop (mkF m 65 #[.val (.int p0), .val (.int p1), .val (.int (v0_7_l2 p0)), .val (.int (p1 &&& (2147483647 : Int32))), .val (.ref r62), .val (.int (v0_25_l5 p0 p1)), .val (.int (v3_ret (v0_7_l2 p0))), .val (.long (v0_57_l7 p0 p1)), .second, .unset, .unset] [(.long (100 : Int64)), (.long ((v0_25_l5 p0 p1).toInt64))])) _
      refine XS.lmul X68.here hx rfl (hb hby at_65) rfl ?_
      show Steps p.tables e below (T68.setTop (mkF m 66 #[.val (.int p0), .val (.int p1), .val (.int (v0_7_l2 p0)), .val (.int (p1 &&& (2147483647 : Int32))), .val (.ref r62), .val (.int (v0_25_l5 p0 p1)), .val (.int (v3_ret (v0_7_l2 p0))), .val (.long (v0_57_l7 p0 p1)), .second, .unset, .unset] [(.long (((v0_25_l5 p0 p1).toInt64) * (100 : Int64)))])) _
      refine XS.lload X68.here hx rfl (hb hby at_66) rfl ?_
      show Steps p.tables e below (T68.setTop (mkF m 68 #[.val (.int p0), .val (.int p1), .val (.int (v0_7_l2 p0)), .val (.int (p1 &&& (2147483647 : Int32))), .val (.ref r62), .val (.int (v0_25_l5 p0 p1)), .val (.int (v3_ret (v0_7_l2 p0))), .val (.long (v0_57_l7 p0 p1)), .second, .unset, .unset] [(.long (v0_57_l7 p0 p1)), (.long (((v0_25_l5 p0 p1).toInt64) * (100 : Int64)))])) _
      refine XS.lcmp X68.here hx rfl (hb hby at_68) rfl ?_
      suffices k76 : Steps p.tables e below (T68.setTop (mkF m 77 #[.val (.int p0), .val (.int p1), .val (.int (v0_7_l2 p0)), .val (.int (p1 &&& (2147483647 : Int32))), .val (.ref r62), .val (.int (v0_25_l5 p0 p1)), .val (.int (v3_ret (v0_7_l2 p0))), .val (.long (v0_57_l7 p0 p1)), .second, .unset, .unset] [(.int (v0_69_s0 p0 p1))])) t by
        by_cases hc69_75 : (((v0_25_l5 p0 p1).toInt64) * (100 : Int64)) < (v0_57_l7 p0 p1)
        · rw [(show (v0_69_s0 p0 p1) = (0 : Int32) from if_pos hc69_75)] at k76
          show Steps p.tables e below (T68.setTop (mkF m 69 #[.val (.int p0), .val (.int p1), .val (.int (v0_7_l2 p0)), .val (.int (p1 &&& (2147483647 : Int32))), .val (.ref r62), .val (.int (v0_25_l5 p0 p1)), .val (.int (v3_ret (v0_7_l2 p0))), .val (.long (v0_57_l7 p0 p1)), .second, .unset, .unset] [(.int (lcmpW (((v0_25_l5 p0 p1).toInt64) * (100 : Int64)) (v0_57_l7 p0 p1)))])) _
          refine XS.ifYes X68.here hx rfl (pc0 := 69) (pc' := 76) rfl (hb hby at_69) rfl ((if0 _ _).trans (tlt ((lw_lt _ _).mpr hc69_75)).1) (by decide) (by decide) ?_
          show Steps p.tables e below (T68.setTop (mkF m 76 #[.val (.int p0), .val (.int p1), .val (.int (v0_7_l2 p0)), .val (.int (p1 &&& (2147483647 : Int32))), .val (.ref r62), .val (.int (v0_25_l5 p0 p1)), .val (.int (v3_ret (v0_7_l2 p0))), .val (.long (v0_57_l7 p0 p1)), .second, .unset, .unset] [])) _
          refine XS.iconst X68.here hx rfl (hb hby at_76) ?_
          exact k76
        · rw [(show (v0_69_s0 p0 p1) = (1 : Int32) from if_neg hc69_75)] at k76
          show Steps p.tables e below (T68.setTop (mkF m 69 #[.val (.int p0), .val (.int p1), .val (.int (v0_7_l2 p0)), .val (.int (p1 &&& (2147483647 : Int32))), .val (.ref r62), .val (.int (v0_25_l5 p0 p1)), .val (.int (v3_ret (v0_7_l2 p0))), .val (.long (v0_57_l7 p0 p1)), .second, .unset, .unset] [(.int (lcmpW (((v0_25_l5 p0 p1).toInt64) * (100 : Int64)) (v0_57_l7 p0 p1)))])) _
          refine XS.ifNo X68.here hx rfl (hb hby at_69) rfl ((if0 _ _).trans (flt (fun q => hc69_75 ((lw_lt _ _).mp q))).1) ?_
          show Steps p.tables e below (T68.setTop (mkF m 72 #[.val (.int p0), .val (.int p1), .val (.int (v0_7_l2 p0)), .val (.int (p1 &&& (2147483647 : Int32))), .val (.ref r62), .val (.int (v0_25_l5 p0 p1)), .val (.int (v3_ret (v0_7_l2 p0))), .val (.long (v0_57_l7 p0 p1)), .second, .unset, .unset] [])) _
          refine XS.iconst X68.here hx rfl (hb hby at_72) ?_
          show Steps p.tables e below (T68.setTop (mkF m 73 #[.val (.int p0), .val (.int p1), .val (.int (v0_7_l2 p0)), .val (.int (p1 &&& (2147483647 : Int32))), .val (.ref r62), .val (.int (v0_25_l5 p0 p1)), .val (.int (v3_ret (v0_7_l2 p0))), .val (.long (v0_57_l7 p0 p1)), .second, .unset, .unset] [(.int (1 : Int32))])) _
          refine XS.goto X68.here hx rfl (pc0 := 73) (pc' := 77) rfl (hb hby at_73) (by decide) (by decide) ?_
          exact k76
      show Steps p.tables e below (T68.setTop (mkF m 77 #[.val (.int p0), .val (.int p1), .val (.int (v0_7_l2 p0)), .val (.int (p1 &&& (2147483647 : Int32))), .val (.ref r62), .val (.int (v0_25_l5 p0 p1)), .val (.int (v3_ret (v0_7_l2 p0))), .val (.long (v0_57_l7 p0 p1)), .second, .unset, .unset] [(.int (v0_69_s0 p0 p1))])) _
      refine XS.istore X68.here hx rfl (hb hby at_77) rfl (l' := #[.val (.int p0), .val (.int p1), .val (.int (v0_7_l2 p0)), .val (.int (p1 &&& (2147483647 : Int32))), .val (.ref r62), .val (.int (v0_25_l5 p0 p1)), .val (.int (v3_ret (v0_7_l2 p0))), .val (.long (v0_57_l7 p0 p1)), .second, .val (.int (v0_69_s0 p0 p1)), .unset]) rfl ?_
      show Steps p.tables e below (T68.setTop (mkF m 79 #[.val (.int p0), .val (.int p1), .val (.int (v0_7_l2 p0)), .val (.int (p1 &&& (2147483647 : Int32))), .val (.ref r62), .val (.int (v0_25_l5 p0 p1)), .val (.int (v3_ret (v0_7_l2 p0))), .val (.long (v0_57_l7 p0 p1)), .second, .val (.int (v0_69_s0 p0 p1)), .unset] [])) _
      refine XS.iload X68.here hx rfl (hb hby at_79) rfl ?_
      show Steps p.tables e below (T68.setTop (mkF m 81 #[.val (.int p0), .val (.int p1), .val (.int (v0_7_l2 p0)), .val (.int (p1 &&& (2147483647 : Int32))), .val (.ref r62), .val (.int (v0_25_l5 p0 p1)), .val (.int (v3_ret (v0_7_l2 p0))), .val (.long (v0_57_l7 p0 p1)), .second, .val (.int (v0_69_s0 p0 p1)), .unset] [(.int (v0_25_l5 p0 p1))])) _
      refine XS.i2l X68.here hx rfl (hb hby at_81) rfl ?_
      show Steps p.tables e below (T68.setTop (mkF m 82 #[.val (.int p0), .val (.int p1), .val (.int (v0_7_l2 p0)), .val (.int (p1 &&& (2147483647 : Int32))), .val (.ref r62), .val (.int (v0_25_l5 p0 p1)), .val (.int (v3_ret (v0_7_l2 p0))), .val (.long (v0_57_l7 p0 p1)), .second, .val (.int (v0_69_s0 p0 p1)), .unset] [(.long ((v0_25_l5 p0 p1).toInt64))])) _
      refine XS.lconst X68.here hx rfl (hb hby at_82) ?_
      show Steps p.tables e below (T68.setTop (mkF m 83 #[.val (.int p0), .val (.int p1), .val (.int (v0_7_l2 p0)), .val (.int (p1 &&& (2147483647 : Int32))), .val (.ref r62), .val (.int (v0_25_l5 p0 p1)), .val (.int (v3_ret (v0_7_l2 p0))), .val (.long (v0_57_l7 p0 p1)), .second, .val (.int (v0_69_s0 p0 p1)), .unset] [(.long (1 : Int64)), (.long ((v0_25_l5 p0 p1).toInt64))])) _
      refine XS.lsub X68.here hx rfl (hb hby at_83) rfl ?_
      show Steps p.tables e below (T68.setTop (mkF m 84 #[.val (.int p0), .val (.int p1), .val (.int (v0_7_l2 p0)), .val (.int (p1 &&& (2147483647 : Int32))), .val (.ref r62), .val (.int (v0_25_l5 p0 p1)), .val (.int (v3_ret (v0_7_l2 p0))), .val (.long (v0_57_l7 p0 p1)), .second, .val (.int (v0_69_s0 p0 p1)), .unset] [(.long (((v0_25_l5 p0 p1).toInt64) - (1 : Int64)))])) _
      refine X68.ldc2Long hx hown (mvT hZ (hw _ (List.mem_of_getElem? (i := 20) rfl))) (g := (mkF m 84 #[.val (.int p0), .val (.int p1), .val (.int (v0_7_l2 p0)), .val (.int (p1 &&& (2147483647 : Int32))), .val (.ref r62), .val (.int (v0_25_l5 p0 p1)), .val (.int (v3_ret (v0_7_l2 p0))), .val (.long (v0_57_l7 p0 p1)), .second, .val (.int (v0_69_s0 p0 p1)), .unset] [(.long (((v0_25_l5 p0 p1).toInt64) - (1 : Int64)))])) rfl (hb hby at_84) _ ?_
      show Steps p.tables e below (T68.setTop (mkF m 87 #[.val (.int p0), .val (.int p1), .val (.int (v0_7_l2 p0)), .val (.int (p1 &&& (2147483647 : Int32))), .val (.ref r62), .val (.int (v0_25_l5 p0 p1)), .val (.int (v3_ret (v0_7_l2 p0))), .val (.long (v0_57_l7 p0 p1)), .second, .val (.int (v0_69_s0 p0 p1)), .unset] [(.long (100 : Int64)), (.long (((v0_25_l5 p0 p1).toInt64) - (1 : Int64)))])) _
      refine XS.lmul X68.here hx rfl (hb hby at_87) rfl ?_
      show Steps p.tables e below (T68.setTop (mkF m 88 #[.val (.int p0), .val (.int p1), .val (.int (v0_7_l2 p0)), .val (.int (p1 &&& (2147483647 : Int32))), .val (.ref r62), .val (.int (v0_25_l5 p0 p1)), .val (.int (v3_ret (v0_7_l2 p0))), .val (.long (v0_57_l7 p0 p1)), .second, .val (.int (v0_69_s0 p0 p1)), .unset] [(.long ((((v0_25_l5 p0 p1).toInt64) - (1 : Int64)) * (100 : Int64)))])) _
      refine XS.lload X68.here hx rfl (hb hby at_88) rfl ?_
      show Steps p.tables e below (T68.setTop (mkF m 90 #[.val (.int p0), .val (.int p1), .val (.int (v0_7_l2 p0)), .val (.int (p1 &&& (2147483647 : Int32))), .val (.ref r62), .val (.int (v0_25_l5 p0 p1)), .val (.int (v3_ret (v0_7_l2 p0))), .val (.long (v0_57_l7 p0 p1)), .second, .val (.int (v0_69_s0 p0 p1)), .unset] [(.long (v0_57_l7 p0 p1)), (.long ((((v0_25_l5 p0 p1).toInt64) - (1 : Int64)) * (100 : Int64)))])) _
      refine XS.lcmp X68.here hx rfl (hb hby at_90) rfl ?_
      suffices k78 : Steps p.tables e below (T68.setTop (mkF m 99 #[.val (.int p0), .val (.int p1), .val (.int (v0_7_l2 p0)), .val (.int (p1 &&& (2147483647 : Int32))), .val (.ref r62), .val (.int (v0_25_l5 p0 p1)), .val (.int (v3_ret (v0_7_l2 p0))), .val (.long (v0_57_l7 p0 p1)), .second, .val (.int (v0_69_s0 p0 p1)), .unset] [(.int (v0_91_s0 p0 p1))])) t by
        by_cases hc91_77 : ((((v0_25_l5 p0 p1).toInt64) - (1 : Int64)) * (100 : Int64)) < (v0_57_l7 p0 p1)
        · rw [(show (v0_91_s0 p0 p1) = (1 : Int32) from if_pos hc91_77)] at k78
          show Steps p.tables e below (T68.setTop (mkF m 91 #[.val (.int p0), .val (.int p1), .val (.int (v0_7_l2 p0)), .val (.int (p1 &&& (2147483647 : Int32))), .val (.ref r62), .val (.int (v0_25_l5 p0 p1)), .val (.int (v3_ret (v0_7_l2 p0))), .val (.long (v0_57_l7 p0 p1)), .second, .val (.int (v0_69_s0 p0 p1)), .unset] [(.int (lcmpW ((((v0_25_l5 p0 p1).toInt64) - (1 : Int64)) * (100 : Int64)) (v0_57_l7 p0 p1)))])) _
          refine XS.ifNo X68.here hx rfl (hb hby at_91) rfl ((if0 _ _).trans (tlt ((lw_lt _ _).mpr hc91_77)).2.1) ?_
          show Steps p.tables e below (T68.setTop (mkF m 94 #[.val (.int p0), .val (.int p1), .val (.int (v0_7_l2 p0)), .val (.int (p1 &&& (2147483647 : Int32))), .val (.ref r62), .val (.int (v0_25_l5 p0 p1)), .val (.int (v3_ret (v0_7_l2 p0))), .val (.long (v0_57_l7 p0 p1)), .second, .val (.int (v0_69_s0 p0 p1)), .unset] [])) _
          refine XS.iconst X68.here hx rfl (hb hby at_94) ?_
          show Steps p.tables e below (T68.setTop (mkF m 95 #[.val (.int p0), .val (.int p1), .val (.int (v0_7_l2 p0)), .val (.int (p1 &&& (2147483647 : Int32))), .val (.ref r62), .val (.int (v0_25_l5 p0 p1)), .val (.int (v3_ret (v0_7_l2 p0))), .val (.long (v0_57_l7 p0 p1)), .second, .val (.int (v0_69_s0 p0 p1)), .unset] [(.int (1 : Int32))])) _
          refine XS.goto X68.here hx rfl (pc0 := 95) (pc' := 99) rfl (hb hby at_95) (by decide) (by decide) ?_
          exact k78
        · rw [(show (v0_91_s0 p0 p1) = (0 : Int32) from if_neg hc91_77)] at k78
          show Steps p.tables e below (T68.setTop (mkF m 91 #[.val (.int p0), .val (.int p1), .val (.int (v0_7_l2 p0)), .val (.int (p1 &&& (2147483647 : Int32))), .val (.ref r62), .val (.int (v0_25_l5 p0 p1)), .val (.int (v3_ret (v0_7_l2 p0))), .val (.long (v0_57_l7 p0 p1)), .second, .val (.int (v0_69_s0 p0 p1)), .unset] [(.int (lcmpW ((((v0_25_l5 p0 p1).toInt64) - (1 : Int64)) * (100 : Int64)) (v0_57_l7 p0 p1)))])) _
          refine XS.ifYes X68.here hx rfl (pc0 := 91) (pc' := 98) rfl (hb hby at_91) rfl ((if0 _ _).trans (flt (fun q => hc91_77 ((lw_lt _ _).mp q))).2.1) (by decide) (by decide) ?_
          show Steps p.tables e below (T68.setTop (mkF m 98 #[.val (.int p0), .val (.int p1), .val (.int (v0_7_l2 p0)), .val (.int (p1 &&& (2147483647 : Int32))), .val (.ref r62), .val (.int (v0_25_l5 p0 p1)), .val (.int (v3_ret (v0_7_l2 p0))), .val (.long (v0_57_l7 p0 p1)), .second, .val (.int (v0_69_s0 p0 p1)), .unset] [])) _
          refine XS.iconst X68.here hx rfl (hb hby at_98) ?_
          exact k78
      show Steps p.tables e below (T68.setTop (mkF m 99 #[.val (.int p0), .val (.int p1), .val (.int (v0_7_l2 p0)), .val (.int (p1 &&& (2147483647 : Int32))), .val (.ref r62), .val (.int (v0_25_l5 p0 p1)), .val (.int (v3_ret (v0_7_l2 p0))), .val (.long (v0_57_l7 p0 p1)), .second, .val (.int (v0_69_s0 p0 p1)), .unset] [(.int (v0_91_s0 p0 p1))])) _
      refine XS.istore X68.here hx rfl (hb hby at_99) rfl (l' := #[.val (.int p0), .val (.int p1), .val (.int (v0_7_l2 p0)), .val (.int (p1 &&& (2147483647 : Int32))), .val (.ref r62), .val (.int (v0_25_l5 p0 p1)), .val (.int (v3_ret (v0_7_l2 p0))), .val (.long (v0_57_l7 p0 p1)), .second, .val (.int (v0_69_s0 p0 p1)), .val (.int (v0_91_s0 p0 p1))]) rfl ?_
      show Steps p.tables e below (T68.setTop (mkF m 101 #[.val (.int p0), .val (.int p1), .val (.int (v0_7_l2 p0)), .val (.int (p1 &&& (2147483647 : Int32))), .val (.ref r62), .val (.int (v0_25_l5 p0 p1)), .val (.int (v3_ret (v0_7_l2 p0))), .val (.long (v0_57_l7 p0 p1)), .second, .val (.int (v0_69_s0 p0 p1)), .val (.int (v0_91_s0 p0 p1))] [])) _
      refine XS.iload X68.here hx rfl (hb hby at_101) rfl ?_
      suffices k82 : Steps p.tables e below (T68.setTop (mkF m 116 #[.val (.int p0), .val (.int p1), .val (.int (v0_7_l2 p0)), .val (.int (p1 &&& (2147483647 : Int32))), .val (.ref r62), .val (.int (v0_25_l5 p0 p1)), .val (.int (v3_ret (v0_7_l2 p0))), .val (.long (v0_57_l7 p0 p1)), .second, .val (.int (v0_69_s0 p0 p1)), .val (.int (v0_91_s0 p0 p1))] [(.int (v0_103_s0 p0 p1))])) t by
        by_cases hc103_79 : (v0_69_s0 p0 p1) = (0 : Int32)
        · rw [(show (v0_103_s0 p0 p1) = (0 : Int32) from if_pos hc103_79)] at k82
          show Steps p.tables e below (T68.setTop (mkF m 103 #[.val (.int p0), .val (.int p1), .val (.int (v0_7_l2 p0)), .val (.int (p1 &&& (2147483647 : Int32))), .val (.ref r62), .val (.int (v0_25_l5 p0 p1)), .val (.int (v3_ret (v0_7_l2 p0))), .val (.long (v0_57_l7 p0 p1)), .second, .val (.int (v0_69_s0 p0 p1)), .val (.int (v0_91_s0 p0 p1))] [(.int (v0_69_s0 p0 p1))])) _
          refine XS.ifYes X68.here hx rfl (pc0 := 103) (pc' := 115) rfl (hb hby at_103) rfl ((if0 _ _).trans (teq hc103_79).1) (by decide) (by decide) ?_
          show Steps p.tables e below (T68.setTop (mkF m 115 #[.val (.int p0), .val (.int p1), .val (.int (v0_7_l2 p0)), .val (.int (p1 &&& (2147483647 : Int32))), .val (.ref r62), .val (.int (v0_25_l5 p0 p1)), .val (.int (v3_ret (v0_7_l2 p0))), .val (.long (v0_57_l7 p0 p1)), .second, .val (.int (v0_69_s0 p0 p1)), .val (.int (v0_91_s0 p0 p1))] [])) _
          refine XS.iconst X68.here hx rfl (hb hby at_115) ?_
          exact k82
        · rw [(show (v0_103_s0 p0 p1) = (v0_108_s0 p0 p1) from if_neg hc103_79)] at k82
          show Steps p.tables e below (T68.setTop (mkF m 103 #[.val (.int p0), .val (.int p1), .val (.int (v0_7_l2 p0)), .val (.int (p1 &&& (2147483647 : Int32))), .val (.ref r62), .val (.int (v0_25_l5 p0 p1)), .val (.int (v3_ret (v0_7_l2 p0))), .val (.long (v0_57_l7 p0 p1)), .second, .val (.int (v0_69_s0 p0 p1)), .val (.int (v0_91_s0 p0 p1))] [(.int (v0_69_s0 p0 p1))])) _
          refine XS.ifNo X68.here hx rfl (hb hby at_103) rfl ((if0 _ _).trans (feq hc103_79).1) ?_
          show Steps p.tables e below (T68.setTop (mkF m 106 #[.val (.int p0), .val (.int p1), .val (.int (v0_7_l2 p0)), .val (.int (p1 &&& (2147483647 : Int32))), .val (.ref r62), .val (.int (v0_25_l5 p0 p1)), .val (.int (v3_ret (v0_7_l2 p0))), .val (.long (v0_57_l7 p0 p1)), .second, .val (.int (v0_69_s0 p0 p1)), .val (.int (v0_91_s0 p0 p1))] [])) _
          refine XS.iload X68.here hx rfl (hb hby at_106) rfl ?_
          suffices k81 : Steps p.tables e below (T68.setTop (mkF m 116 #[.val (.int p0), .val (.int p1), .val (.int (v0_7_l2 p0)), .val (.int (p1 &&& (2147483647 : Int32))), .val (.ref r62), .val (.int (v0_25_l5 p0 p1)), .val (.int (v3_ret (v0_7_l2 p0))), .val (.long (v0_57_l7 p0 p1)), .second, .val (.int (v0_69_s0 p0 p1)), .val (.int (v0_91_s0 p0 p1))] [(.int (v0_108_s0 p0 p1))])) t by
            by_cases hc108_80 : (v0_91_s0 p0 p1) = (0 : Int32)
            · rw [(show (v0_108_s0 p0 p1) = (0 : Int32) from if_pos hc108_80)] at k81
              show Steps p.tables e below (T68.setTop (mkF m 108 #[.val (.int p0), .val (.int p1), .val (.int (v0_7_l2 p0)), .val (.int (p1 &&& (2147483647 : Int32))), .val (.ref r62), .val (.int (v0_25_l5 p0 p1)), .val (.int (v3_ret (v0_7_l2 p0))), .val (.long (v0_57_l7 p0 p1)), .second, .val (.int (v0_69_s0 p0 p1)), .val (.int (v0_91_s0 p0 p1))] [(.int (v0_91_s0 p0 p1))])) _
              refine XS.ifYes X68.here hx rfl (pc0 := 108) (pc' := 115) rfl (hb hby at_108) rfl ((if0 _ _).trans (teq hc108_80).1) (by decide) (by decide) ?_
              show Steps p.tables e below (T68.setTop (mkF m 115 #[.val (.int p0), .val (.int p1), .val (.int (v0_7_l2 p0)), .val (.int (p1 &&& (2147483647 : Int32))), .val (.ref r62), .val (.int (v0_25_l5 p0 p1)), .val (.int (v3_ret (v0_7_l2 p0))), .val (.long (v0_57_l7 p0 p1)), .second, .val (.int (v0_69_s0 p0 p1)), .val (.int (v0_91_s0 p0 p1))] [])) _
              refine XS.iconst X68.here hx rfl (hb hby at_115) ?_
              exact k81
            · rw [(show (v0_108_s0 p0 p1) = (1 : Int32) from if_neg hc108_80)] at k81
              show Steps p.tables e below (T68.setTop (mkF m 108 #[.val (.int p0), .val (.int p1), .val (.int (v0_7_l2 p0)), .val (.int (p1 &&& (2147483647 : Int32))), .val (.ref r62), .val (.int (v0_25_l5 p0 p1)), .val (.int (v3_ret (v0_7_l2 p0))), .val (.long (v0_57_l7 p0 p1)), .second, .val (.int (v0_69_s0 p0 p1)), .val (.int (v0_91_s0 p0 p1))] [(.int (v0_91_s0 p0 p1))])) _
              refine XS.ifNo X68.here hx rfl (hb hby at_108) rfl ((if0 _ _).trans (feq hc108_80).1) ?_
              show Steps p.tables e below (T68.setTop (mkF m 111 #[.val (.int p0), .val (.int p1), .val (.int (v0_7_l2 p0)), .val (.int (p1 &&& (2147483647 : Int32))), .val (.ref r62), .val (.int (v0_25_l5 p0 p1)), .val (.int (v3_ret (v0_7_l2 p0))), .val (.long (v0_57_l7 p0 p1)), .second, .val (.int (v0_69_s0 p0 p1)), .val (.int (v0_91_s0 p0 p1))] [])) _
              refine XS.iconst X68.here hx rfl (hb hby at_111) ?_
              show Steps p.tables e below (T68.setTop (mkF m 112 #[.val (.int p0), .val (.int p1), .val (.int (v0_7_l2 p0)), .val (.int (p1 &&& (2147483647 : Int32))), .val (.ref r62), .val (.int (v0_25_l5 p0 p1)), .val (.int (v3_ret (v0_7_l2 p0))), .val (.long (v0_57_l7 p0 p1)), .second, .val (.int (v0_69_s0 p0 p1)), .val (.int (v0_91_s0 p0 p1))] [(.int (1 : Int32))])) _
              refine XS.goto X68.here hx rfl (pc0 := 112) (pc' := 116) rfl (hb hby at_112) (by decide) (by decide) ?_
              exact k81
          exact k82
      exact kk)
    obtain ⟨fs, hr, hrun, hended, hW, hsame⟩ := X68.leave (v := some (.int (nar .boolean (v0_103_s0 p0 p1)))) (fun h => by rw [Bd.returns] at h; cases h)
    have hv : (v0_ret p0 p1) = (nar .boolean (v0_103_s0 p0 p1)) := (if_neg hc35_71)
    have hone : (nar .boolean (v0_103_s0 p0 p1)) = 1 := hv.symm.trans (own_law p0 p1)
    refine ⟨_, _, k83 _ ?_, hrun, hended, _, _, rfl, ?_, ⟨_, rfl⟩, hW, hsame.mono (by decide) (by decide)⟩
    · show Steps p.tables e below (T68.setTop (mkF m 116 #[.val (.int p0), .val (.int p1), .val (.int (v0_7_l2 p0)), .val (.int (p1 &&& (2147483647 : Int32))), .val (.ref r62), .val (.int (v0_25_l5 p0 p1)), .val (.int (v3_ret (v0_7_l2 p0))), .val (.long (v0_57_l7 p0 p1)), .second, .val (.int (v0_69_s0 p0 p1)), .val (.int (v0_91_s0 p0 p1))] [(.int (v0_103_s0 p0 p1))])) _
      exact retN X68 hx (t := .boolean) Bd.returns (by simp) (hb hby at_116) hr
    · show Q0 Z p0 p1 o_INIT o_U0 o_U25 o_U50 o_U75 o_U100 h0 n0 _ T68.heap _
      rw [e68]
      exact ⟨congrArg (fun z => some (Value.int z)) hone, N68⟩
set_option maxRecDepth 65536 in
set_option maxHeartbeats 40000000 in
theorem comes_1 {Post : Tables → Env → Array Value → State → Outcome → State → Prop} (hpost : ∀ tb e args s v u, (limb_1_1.after args s (.returned v) u = true ∧ limb_1_2.after args s (.returned v) u = true ∧ True) → FrameEnd s (.returned v) u (Jvm.fieldLocs frame_1_writes args s ++ Jvm.arrayLocs frame_1_arrays args s ++ Jvm.staticLocs frame_1_statics s) 0 0 → Post tb e args s (.returned v) u) :
    ArmFor flags0 classFile x code maxLocals ret World_1 tables_1 room_1 Calls_1 rest_1 Pre_1 Post := by
  intro l hfl _ _ p e ha hc hk s m args below hf hA hF happ hP
  obtain ⟨hcalls, hrest, hpre⟩ := hP
  obtain ⟨-, -, -, hnamed, -, -, -, hat⟩ := (Spec.applies_iff hf).mp happ
  obtain ⟨hg, hn⟩ := and_e (Cond.before_iff.mp (show (Jvm.Cond.and given_1 narrow_1).before args s = true from hpre))
  obtain ⟨hcnt, hg0⟩ := and_e hg
  obtain ⟨ha0, hg1⟩ := and_e hg0
  have ha1 := hg1
  obtain ⟨w0, w1, rfl⟩ : ∃ w0 w1 : Value, args = #[w0, w1] := by
    have hs : args.size = 2 := by simpa [Cond.value, given_1] using hcnt
    obtain ⟨L⟩ := args
    match L, hs with
    | [w0, w1], _ => exact ⟨w0, w1, rfl⟩
  have hw := fun d (hd : d ∈ tables_1) => atoms_spec (ws := Jvm.Cond.code x code maxLocals ret :: tables_1) hat d (List.mem_cons_of_mem _ hd)
  have hfit : Fit s := fun {y c} hc i hi => by
    obtain ⟨ha, rfl⟩ := Array.getElem?_eq_some_iff.mp hc
    have q := List.all_eq_true.mp ((Array.all_eq_true_iff_forall_mem.mp hF) _ (Array.getElem_mem ha)) i (List.mem_range.mpr hi)
    simpa [Array.getElem?_eq_getElem hi] using q
  obtain ⟨p0, ea0⟩ := is_v ha0
  obtain rfl : w0 = (.int p0) := Option.some.inj ea0
  obtain ⟨p1, ea1⟩ := is_v ha1
  obtain rfl : w1 = (.int p1) := Option.some.inj ea1
  obtain ⟨na1, nb1⟩ := and_e hn
  obtain ⟨na2, nb2⟩ := and_e nb1
  obtain ⟨na3, nb3⟩ := and_e nb2
  obtain ⟨na4, nb4⟩ := and_e nb3
  obtain ⟨na5, nb5⟩ := and_e nb4
  obtain ⟨na6, nb6⟩ := and_e nb5
  obtain ⟨na7, nb7⟩ := and_e nb6
  obtain ⟨na8, nb8⟩ := and_e nb7
  obtain ⟨na9, nb9⟩ := and_e nb8
  obtain ⟨na10, nb10⟩ := and_e nb9
  obtain ⟨na11, nb11⟩ := and_e nb10
  obtain ⟨o_INIT, ev_INIT⟩ := exa_v na1
  have S_INIT := Sta.start ev_INIT (Or.inr ⟨(hw _ (List.mem_of_getElem? (i := 6) rfl)), (hw _ (List.mem_of_getElem? (i := 7) rfl))⟩)
  have E_o_INIT := Exa.start ev_INIT na1
  obtain ⟨o_U25, ev_U25⟩ := exa_v na3
  have S_U25 := Sta.start ev_U25 (Or.inr ⟨(hw _ (List.mem_of_getElem? (i := 6) rfl)), (hw _ (List.mem_of_getElem? (i := 22) rfl))⟩)
  have E_o_U25 := Exa.start ev_U25 na3
  obtain ⟨o_U75, ev_U75⟩ := exa_v na5
  have S_U75 := Sta.start ev_U75 (Or.inr ⟨(hw _ (List.mem_of_getElem? (i := 6) rfl)), (hw _ (List.mem_of_getElem? (i := 24) rfl))⟩)
  have E_o_U75 := Exa.start ev_U75 na5
  obtain ⟨o_U0, ev_U0⟩ := exa_v na7
  have S_U0 := Sta.start ev_U0 (Or.inr ⟨(hw _ (List.mem_of_getElem? (i := 6) rfl)), (hw _ (List.mem_of_getElem? (i := 26) rfl))⟩)
  have E_o_U0 := Exa.start ev_U0 na7
  obtain ⟨o_U100, ev_U100⟩ := exa_v na9
  have S_U100 := Sta.start ev_U100 (Or.inr ⟨(hw _ (List.mem_of_getElem? (i := 6) rfl)), (hw _ (List.mem_of_getElem? (i := 28) rfl))⟩)
  have E_o_U100 := Exa.start ev_U100 na9
  obtain ⟨o_U50, ev_U50⟩ := exa_v na11
  have S_U50 := Sta.start ev_U50 (Or.inr ⟨(hw _ (List.mem_of_getElem? (i := 6) rfl)), (hw _ (List.mem_of_getElem? (i := 31) rfl))⟩)
  have E_o_U50 := Exa.start ev_U50 na11
  have F_highest_o_INIT := Fld.start ((fld_at ev_INIT).symm.trans (own_eq_int na2))
  have F_highest_o_U25 := Fld.start ((fld_at ev_U25).symm.trans (own_eq_int na4))
  have F_highest_o_U75 := Fld.start ((fld_at ev_U75).symm.trans (own_eq_int na6))
  have F_highest_o_U0 := Fld.start ((fld_at ev_U0).symm.trans (own_eq_int na8))
  have F_highest_o_U100 := Fld.start ((fld_at ev_U100).symm.trans (own_eq_int na10))
  have F_highest_o_U50 := Fld.start ((fld_at ev_U50).symm.trans (own_eq_int nb11))
  obtain ⟨n, o, h1, h2, h3, _, L, rfl, ⟨rfl, N⟩, hq⟩ := rm0 l s _ hw tables_1 p0 p1 o_INIT o_U0 o_U25 o_U50 o_U75 o_U100 s.heap s.heap.size (Nat.le_refl _) S_INIT S_U0 S_U25 S_U50 S_U75 S_U100 E_o_INIT F_highest_o_INIT E_o_U0 F_highest_o_U0 E_o_U25 F_highest_o_U25 E_o_U50 F_highest_o_U50 E_o_U75 F_highest_o_U75 E_o_U100 F_highest_o_U100 p e ha hc hk s m _ below hf ((Spec.applies_iff_loose hf).mp happ).1 ⟨rfl, State.Warmed39.refl s, rfl⟩ trivial
  refine ⟨n, _, h1, h2, h3, hpost _ _ _ _ _ _ ⟨Cond.after_iff.mpr rfl, Cond.after_iff.mpr (eq_i res_at (Term.int_eval (1)) rfl), trivial⟩ ⟨hq.1, hq.2.1, (hq.2.2.sift fun y hy => Or.inr (N y hy)).mono (by decide) (by decide)⟩⟩
theorem main_1_1 : Claimed_1_1 := comes_1 fun _ _ _ _ _ _ h hF => ⟨h.1, hF⟩
theorem main_1_2 : Claimed_1_2 := comes_1 fun _ _ _ _ _ _ h hF => ⟨h.2.1, hF⟩
end Jvm.Pilot.@@N@@
namespace Jvm.Pilot.@@N@@
open Jvm Jvm.ClassFile Sem Op Lib Jvm.Free Jvm.Stand Jvm.Pilot.@@N@@.Jvm.D
/-! MADE BY PROGRAM (witnessworld.py) out of the Statement's table words and the real class files: 12 classes; the members and pool entries that the words name. The judged class is class 1, her method 3. -/
namespace start1
open Jvm.ClassFile
def u (s : String) : CpInfo := .utf8 (stringToUtf16 s)
/-- a pool by its gaps: so many unusable entries, then the entry; so many at the end -/
def gap : Nat → List CpInfo → List CpInfo
  | 0, r => r
  | n + 1, r => .unusable :: gap n r
def poolList (es : List (Nat × CpInfo)) (last : Nat) : List CpInfo := es.foldr (fun e r => gap e.1 (e.2 :: r)) (gap last [])
def pool (es : List (Nat × CpInfo)) (last : Nat) : Array CpInfo := ⟨poolList es last⟩
def fileOf (pool : Array CpInfo) (this : Nat) (attrs : Array Attribute := #[]) (ms : Array MethodInfo := #[]) (fl : Nat := 33) (sup : Nat := 0) (ifs : Array Nat := #[]) (fds : Array FieldInfo := #[]) : ClassFile where
  minorVersion := 0
  majorVersion := 65
  constantPool := pool
  accessFlags := fl
  thisClass := this
  superClass := sup
  interfaces := ifs
  fields := fds
  methods := ms
  attributes := attrs
def plain (name : String) (sup : Option ClassId) : Class where
  name := name
  kind := .ordinary
  loader := none
  accessFlags := 33
  super := sup
  interfaces := #[]
  cf := none
  fields := #[]
  methods := #[]
  instanceTypes := #[]
  staticTypes := #[]
  resolved := #[]
  callSites := []
  init := .initialized
  statics := none
  mirror := none

def pool0 : Array CpInfo := pool [(5, u "<init>"), (0, u "()V"), (1, .class_ 10), (1, u "java/lang/Object")] 113

def k0m0 : Method := { name := "<init>", desc := "()V", sig := { parameters := [], returnType := none }, accessFlags := 1, code := none }
/-- java/lang/Object -/
def k0 : Class := { plain "java/lang/Object" none with
  accessFlags := 33
  interfaces := #[]
  cf := some (fileOf pool0 8 #[] #[{ accessFlags := 1, nameIndex := 5, descriptorIndex := 6, attributes := #[] }] 33 0 #[] #[])
  fields := #[]
  methods := #[k0m0]
  instanceTypes := #[]
  staticTypes := #[]
  resolved := Array.replicate 124 none
  statics := none }

def pool1 : Array CpInfo := pool [(2, .class_ 4), (1, u "java/lang/Object"), (0, u "<init>"), (0, u "()V"), (0, .fieldref 8 9), (0, .class_ 10), (0, .nameAndType 11 12), (0, u "com/example/slabrun/slabrun/core/UsageList"), (0, u "INIT"), (0, u "Lcom/example/slabrun/slabrun/core/UsageList;"), (0, .fieldref 8 14), (0, .nameAndType 15 12), (0, u "U0"), (0, .fieldref 8 17), (0, .nameAndType 18 12), (0, u "U25"), (0, .fieldref 8 20), (0, .nameAndType 21 12), (0, u "U50"), (0, .fieldref 8 23), (0, .nameAndType 24 12), (0, u "U75"), (0, .fieldref 8 26), (0, .nameAndType 27 12), (0, u "U100"), (0, .integer 2147483647), (0, .methodref 30 31), (0, .class_ 32), (0, .nameAndType 33 34), (0, u "com/example/slabrun/slabrun/core/UsageListMoveUpAtPinLaw"), (0, u "pick"), (0, u "(I)Lcom/example/slabrun/slabrun/core/UsageList;"), (0, .methodref 8 36), (0, .nameAndType 37 38), (0, u "moveUpAt"), (0, u "(I)I"), (0, .methodref 30 40), (0, .nameAndType 41 38), (0, u "highestOf"), (2, .long 100), (4, u "law"), (0, u "(II)Z")] 2

def k1m0 : Method := { name := "<init>", desc := "()V", sig := { parameters := [], returnType := none }, accessFlags := 1, code := none }
def k1c1 : Code := { maxStack := 2, maxLocals := 1, code := method_2_code, exceptionTable := #[], attributes := #[] }
def k1m1 : Method := { name := "pick", desc := "(I)Lcom/example/slabrun/slabrun/core/UsageList;", sig := { parameters := [.int], returnType := some (.object "com/example/slabrun/slabrun/core/UsageList") }, accessFlags := 10, code := some k1c1 }
def k1c2 : Code := { maxStack := 2, maxLocals := 1, code := method_3_code, exceptionTable := #[], attributes := #[] }
def k1m2 : Method := { name := "highestOf", desc := "(I)I", sig := { parameters := [.int], returnType := some .int }, accessFlags := 10, code := some k1c2 }
def k1c3 : Code := { maxStack := 4, maxLocals := 11, code := code, exceptionTable := #[], attributes := #[] }
def k1m3 : Method := { name := "law", desc := "(II)Z", sig := { parameters := [.int, .int], returnType := some .boolean }, accessFlags := 9, code := some k1c3 }
/-- com/example/slabrun/slabrun/core/UsageListMoveUpAtPinLaw -/
def k1 : Class := { plain "com/example/slabrun/slabrun/core/UsageListMoveUpAtPinLaw" (some 0) with
  accessFlags := 49
  interfaces := #[]
  cf := some (fileOf pool1 30 #[] #[{ accessFlags := 1, nameIndex := 5, descriptorIndex := 6, attributes := #[] }, { accessFlags := 10, nameIndex := 33, descriptorIndex := 34, attributes := #[] }, { accessFlags := 10, nameIndex := 41, descriptorIndex := 38, attributes := #[] }, { accessFlags := 9, nameIndex := 49, descriptorIndex := 50, attributes := #[] }] 49 2 #[] #[])
  fields := #[]
  methods := #[k1m0, k1m1, k1m2, k1m3]
  instanceTypes := #[]
  staticTypes := #[]
  resolved := Array.replicate 53 none
  statics := none }

def pool2 : Array CpInfo := pool [(1, .class_ 2), (0, u "java/lang/constant/Constable"), (0, .class_ 4), (0, u "java/lang/Object")] 6

/-- java/lang/constant/Constable -/
def k2 : Class := { plain "java/lang/constant/Constable" (some 0) with
  accessFlags := 1537
  interfaces := #[]
  cf := some (fileOf pool2 1 #[] #[] 1537 3 #[] #[])
  fields := #[]
  methods := #[]
  instanceTypes := #[]
  staticTypes := #[]
  resolved := Array.replicate 11 none
  statics := none }

def pool3 : Array CpInfo := pool [(1, .class_ 2), (0, u "java/lang/Comparable"), (0, .class_ 4), (0, u "java/lang/Object")] 7

/-- java/lang/Comparable -/
def k3 : Class := { plain "java/lang/Comparable" (some 0) with
  accessFlags := 1537
  interfaces := #[]
  cf := some (fileOf pool3 1 #[] #[] 1537 3 #[] #[])
  fields := #[]
  methods := #[]
  instanceTypes := #[]
  staticTypes := #[]
  resolved := Array.replicate 12 none
  statics := none }

def pool4 : Array CpInfo := pool [(1, .class_ 2), (0, u "java/io/Serializable"), (0, .class_ 4), (0, u "java/lang/Object")] 2

/-- java/io/Serializable -/
def k4 : Class := { plain "java/io/Serializable" (some 0) with
  accessFlags := 1537
  interfaces := #[]
  cf := some (fileOf pool4 1 #[] #[] 1537 3 #[] #[])
  fields := #[]
  methods := #[]
  instanceTypes := #[]
  staticTypes := #[]
  resolved := Array.replicate 7 none
  statics := none }

def pool5 : Array CpInfo := pool [(2, .class_ 4), (1, u "java/lang/Enum"), (0, u "name"), (0, u "Ljava/lang/String;"), (2, u "ordinal"), (0, u "I"), (1, .class_ 14), (1, u "java/lang/Object"), (4, u "hash"), (86, .class_ 108), (1, u "java/lang/Enum$EnumDesc"), (2, .class_ 112), (0, u "java/lang/constant/Constable"), (0, .class_ 114), (0, u "java/lang/Comparable"), (0, .class_ 116), (0, u "java/io/Serializable")] 87

/-- java/lang/Enum -/
def k5 : Class := { plain "java/lang/Enum" (some 0) with
  accessFlags := 1057
  interfaces := #[2, 3, 4]
  cf := some (fileOf pool5 2 #[.nestMembers #[106]] #[] 1057 12 #[111, 113, 115] #[{ accessFlags := 18, nameIndex := 5, descriptorIndex := 6, attributes := #[] }, { accessFlags := 18, nameIndex := 9, descriptorIndex := 10, attributes := #[] }, { accessFlags := 2, nameIndex := 19, descriptorIndex := 10, attributes := #[] }])
  fields := #[{ name := "name", type := (.object "java/lang/String"), accessFlags := 18, slot := 0, constantValue := 0 }, { name := "ordinal", type := .int, accessFlags := 18, slot := 1, constantValue := 0 }, { name := "hash", type := .int, accessFlags := 2, slot := 2, constantValue := 0 }]
  methods := #[]
  instanceTypes := #[(.object "java/lang/String"), .int, .int]
  staticTypes := #[]
  resolved := Array.replicate 204 none
  statics := none }

def pool6 : Array CpInfo := pool [(1, .class_ 2), (0, u "com/example/slabrun/slabrun/core/UsageList"), (2, u "INIT"), (0, u "Lcom/example/slabrun/slabrun/core/UsageList;"), (2, u "U0"), (2, u "U25"), (2, u "U50"), (2, u "U75"), (2, u "U100"), (2, u "$VALUES"), (0, u "[Lcom/example/slabrun/slabrun/core/UsageList;"), (6, .class_ 34), (1, u "java/lang/Enum"), (8, u "lowest"), (0, u "I"), (0, .fieldref 1 46), (0, .nameAndType 47 44), (0, u "highest"), (2, .integer 2147483647), (0, .long 99), (1, .long 100), (3, u "LISTS"), (25, u "SEARCH_ORDER"), (0, u "Ljava/util/List;"), (5, u "NONE"), (7, u "moveUpAt"), (0, u "(I)I")] 10

def k6c0 : Code := { maxStack := 4, maxLocals := 2, code := prog_35_method_4_code, exceptionTable := #[], attributes := #[] }
def k6m0 : Method := { name := "moveUpAt", desc := "(I)I", sig := { parameters := [.int], returnType := some .int }, accessFlags := 0, code := some k6c0 }
/-- com/example/slabrun/slabrun/core/UsageList -/
def k6 : Class := { plain "com/example/slabrun/slabrun/core/UsageList" (some 5) with
  accessFlags := 16432
  interfaces := #[]
  cf := some (fileOf pool6 1 #[] #[{ accessFlags := 0, nameIndex := 98, descriptorIndex := 99, attributes := #[] }] 16432 32 #[] #[{ accessFlags := 16409, nameIndex := 5, descriptorIndex := 6, attributes := #[] }, { accessFlags := 16409, nameIndex := 9, descriptorIndex := 6, attributes := #[] }, { accessFlags := 16409, nameIndex := 12, descriptorIndex := 6, attributes := #[] }, { accessFlags := 16409, nameIndex := 15, descriptorIndex := 6, attributes := #[] }, { accessFlags := 16409, nameIndex := 18, descriptorIndex := 6, attributes := #[] }, { accessFlags := 16409, nameIndex := 21, descriptorIndex := 6, attributes := #[] }, { accessFlags := 24, nameIndex := 83, descriptorIndex := 84, attributes := #[] }, { accessFlags := 26, nameIndex := 90, descriptorIndex := 44, attributes := #[] }, { accessFlags := 26, nameIndex := 57, descriptorIndex := 25, attributes := #[] }, { accessFlags := 18, nameIndex := 43, descriptorIndex := 44, attributes := #[] }, { accessFlags := 18, nameIndex := 47, descriptorIndex := 44, attributes := #[] }, { accessFlags := 4122, nameIndex := 24, descriptorIndex := 25, attributes := #[] }])
  fields := #[{ name := "INIT", type := (.object "com/example/slabrun/slabrun/core/UsageList"), accessFlags := 16409, slot := 0, constantValue := 0 }, { name := "U0", type := (.object "com/example/slabrun/slabrun/core/UsageList"), accessFlags := 16409, slot := 1, constantValue := 0 }, { name := "U25", type := (.object "com/example/slabrun/slabrun/core/UsageList"), accessFlags := 16409, slot := 2, constantValue := 0 }, { name := "U50", type := (.object "com/example/slabrun/slabrun/core/UsageList"), accessFlags := 16409, slot := 3, constantValue := 0 }, { name := "U75", type := (.object "com/example/slabrun/slabrun/core/UsageList"), accessFlags := 16409, slot := 4, constantValue := 0 }, { name := "U100", type := (.object "com/example/slabrun/slabrun/core/UsageList"), accessFlags := 16409, slot := 5, constantValue := 0 }, { name := "SEARCH_ORDER", type := (.object "java/util/List"), accessFlags := 24, slot := 6, constantValue := 0 }, { name := "NONE", type := .int, accessFlags := 26, slot := 7, constantValue := 0 }, { name := "LISTS", type := (.array (.object "com/example/slabrun/slabrun/core/UsageList")), accessFlags := 26, slot := 8, constantValue := 0 }, { name := "lowest", type := .int, accessFlags := 18, slot := 3, constantValue := 0 }, { name := "highest", type := .int, accessFlags := 18, slot := 4, constantValue := 0 }, { name := "$VALUES", type := (.array (.object "com/example/slabrun/slabrun/core/UsageList")), accessFlags := 4122, slot := 9, constantValue := 0 }]
  methods := #[k6m0]
  instanceTypes := #[(.object "java/lang/String"), .int, .int, .int, .int]
  staticTypes := #[(.object "com/example/slabrun/slabrun/core/UsageList"), (.object "com/example/slabrun/slabrun/core/UsageList"), (.object "com/example/slabrun/slabrun/core/UsageList"), (.object "com/example/slabrun/slabrun/core/UsageList"), (.object "com/example/slabrun/slabrun/core/UsageList"), (.object "com/example/slabrun/slabrun/core/UsageList"), (.object "java/util/List"), .int, (.array (.object "com/example/slabrun/slabrun/core/UsageList")), (.array (.object "com/example/slabrun/slabrun/core/UsageList"))]
  resolved := Array.replicate 110 none
  statics := some 0 }

def pool7 : Array CpInfo := pool [(1, u "java/lang/Cloneable"), (0, .class_ 1), (0, u "java/lang/Object"), (0, .class_ 3)] 3

/-- java/lang/Cloneable -/
def k7 : Class := { plain "java/lang/Cloneable" (some 0) with
  accessFlags := 1537
  interfaces := #[]
  cf := some (fileOf pool7 2 #[] #[] 1537 4 #[] #[])
  fields := #[]
  methods := #[]
  instanceTypes := #[]
  staticTypes := #[]
  resolved := Array.replicate 8 none
  statics := none }

/-- the primitive byte -/
def k8 : Class := { plain "byte" none with kind := .primitive 'B', accessFlags := 0x411 }
/-- [B -/
def k9 : Class := { plain "[B" (some 0) with kind := .array 8 .byte, interfaces := #[7, 4], accessFlags := 1041 }

/-- the primitive int -/
def k10 : Class := { plain "int" none with kind := .primitive 'I', accessFlags := 0x411 }
/-- [I -/
def k11 : Class := { plain "[I" (some 0) with kind := .array 10 .int, interfaces := #[7, 4], accessFlags := 1041 }

def heap : Heap := #[{ cls := 6, slots := #[.ref 1, .ref 2, .ref 3, .ref 4, .ref 5, .ref 6, .null, .int 0, .null, .null], vm := .statics 6 },
  { cls := 6, slots := #[.null, .int 0, .int 0, .int (-1), .int (25)], vm := .none },
  { cls := 6, slots := #[.null, .int 1, .int 0, .int (1), .int (50)], vm := .none },
  { cls := 6, slots := #[.null, .int 2, .int 0, .int (25), .int (75)], vm := .none },
  { cls := 6, slots := #[.null, .int 3, .int 0, .int (50), .int (100)], vm := .none },
  { cls := 6, slots := #[.null, .int 4, .int 0, .int (75), .int (100)], vm := .none },
  { cls := 6, slots := #[.null, .int 5, .int 0, .int (100), .int (-1)], vm := .none }]
def classes : Array Class := #[k0, k1, k2, k3, k4, k5, k6, k7, k8, k9, k10, k11]
def interned : List (Array UInt16 × Addr) := []
def slotsUsed : Nat := 40
def theMethod : MethodId := ⟨1, 3⟩
def args0 : Array Value := #[.int 1, .int 5]
def aboutOver (below : List Frame) : State where
  vm := { classes := classes, interned := interned.toArray }
  heap := heap
  slotsUsed := slotsUsed
  threads := #[{ frames := .invoking theMethod args0 :: below }]
def below0 : List Frame := [.native { method := ⟨0, 0⟩, args := #[] }]
def about1 : State := aboutOver below0
def p0 : Program := .bare "" "" ""
def e0 : Env := launch0.env 0 0 0
theorem w_frames : about1.frames = Frame.invoking theMethod args0 :: below0 := rfl
set_option maxRecDepth 65536 in
theorem w_args : argsFit about1.vm theMethod args0 = true := by decide +kernel
set_option maxRecDepth 65536 in
theorem w_heap : heapFits about1 = true := by decide +kernel
set_option maxRecDepth 65536 in
theorem w_runnable : about1.curStatus? = some .runnable := by decide +kernel
set_option maxRecDepth 65536 in
theorem w_alone : about1.alone = true := by decide +kernel
set_option maxRecDepth 65536 in
theorem w_named : about1.methodNamed? x = some theMethod := by decide +kernel
set_option maxRecDepth 65536 in
theorem w_hears : about1.hears theMethod below0 = true := by decide +kernel
set_option maxRecDepth 65536 in
theorem w_ripe : about1.ripe theMethod args0 below0 = true := by decide +kernel
theorem w_running : about1.status = .running := rfl
set_option maxRecDepth 65536 in
theorem w_room : about1.hasRoom e0.platform room_1 = true :=
  launch0.hasRoom_least _ room_1 (by decide +kernel) (by decide +kernel) (by decide +kernel) (by decide +kernel) (by decide +kernel) (by decide +kernel)
theorem allAtoms_all (ts : List Jvm.Cond) (a : Array Jvm.Value) (st : Jvm.State) : (allAtoms ts).before a st = ts.all (fun c => c.before a st) := by
  induction ts with
  | nil => rfl
  | cons c t ih =>
    show (Jvm.Cond.and c (allAtoms t)).before a st = _
    rw [Jvm.Cond.before_and, ih, List.all_cons]
def words1 : List Jvm.Cond := Jvm.Cond.code x code maxLocals ret :: tables_1
/-- a 'code' word, met by the world's own term for the bytes: nothing is compared byte by byte -/
theorem code_word {y : MethodName} {bytes : ByteArray} {mx : Nat} {rt : Option FieldType} {a : Array Value} {s : State} {m : MethodId} {meth : Method} {c : Code} (h1 : s.methodNamed? y = some m) (h2 : s.vm.method? m = some meth) (h3 : meth.code = some c) (h4 : c.code = bytes)
    (h5 : (c.maxLocals == mx && c.exceptionTable.isEmpty && decide (c.maxStack ≤ mostOperands) && decide (meth.sig.returnType = rt) && !meth.locks && decide (parseMethodDescriptor y.desc = some meth.sig)) = true) : (Jvm.Cond.code y bytes mx rt).before a s = true := by
  simp only [Bool.and_eq_true, beq_iff_eq, Bool.not_eq_true', decide_eq_true_eq] at h5
  obtain ⟨⟨⟨⟨⟨g1, g2⟩, g3⟩, g4⟩, g5⟩, g6⟩ := h5
  simp [Cond.before, Cond.holds, Cond.value, h1, h2, h3, h4, g1, g2, g3, g4, g5, g6]
def isCode : Jvm.Cond → Bool
  | .code _ _ _ _ => true
  | _ => false
theorem all_split {L : List Jvm.Cond} {P : Jvm.Cond → Bool} (h1 : L.all (fun c => isCode c || P c) = true) (h2 : ∀ c ∈ L.filter isCode, P c = true) : L.all P = true := by
  refine List.all_eq_true.mpr fun c hc => ?_
  have h := List.all_eq_true.mp h1 c hc
  rcases Bool.eq_false_or_eq_true (isCode c) with hi | hi
  · exact h2 c (List.mem_filter.mpr ⟨hc, hi⟩)
  · simpa [hi] using h
set_option maxRecDepth 65536 in
theorem w_c0 : (Jvm.Cond.code x code maxLocals ret).before args0 about1 = true := code_word (m := ⟨1, 3⟩) (meth := k1m3) (c := k1c3) (by decide +kernel) rfl rfl rfl (by decide +kernel)
set_option maxRecDepth 65536 in
theorem w_c1 : (Jvm.Cond.code ({ cls := "com/example/slabrun/slabrun/core/UsageListMoveUpAtPinLaw", name := "pick", desc := "(I)Lcom/example/slabrun/slabrun/core/UsageList;" } : Jvm.MethodName) method_2_code (1 : Nat) (Option.some (Jvm.ClassFile.FieldType.object "com/example/slabrun/slabrun/core/UsageList"))).before args0 about1 = true := code_word (m := ⟨1, 1⟩) (meth := k1m1) (c := k1c1) (by decide +kernel) rfl rfl rfl (by decide +kernel)
set_option maxRecDepth 65536 in
theorem w_c2 : (Jvm.Cond.code ({ cls := "com/example/slabrun/slabrun/core/UsageList", name := "moveUpAt", desc := "(I)I" } : Jvm.MethodName) prog_35_method_4_code (2 : Nat) (Option.some Jvm.ClassFile.FieldType.int)).before args0 about1 = true := code_word (m := ⟨6, 0⟩) (meth := k6m0) (c := k6c0) (by decide +kernel) rfl rfl rfl (by decide +kernel)
set_option maxRecDepth 65536 in
theorem w_c3 : (Jvm.Cond.code ({ cls := "com/example/slabrun/slabrun/core/UsageListMoveUpAtPinLaw", name := "highestOf", desc := "(I)I" } : Jvm.MethodName) method_3_code (1 : Nat) (Option.some Jvm.ClassFile.FieldType.int)).before args0 about1 = true := code_word (m := ⟨1, 2⟩) (meth := k1m2) (c := k1c2) (by decide +kernel) rfl rfl rfl (by decide +kernel)
def codes1 : List Jvm.Cond := [Jvm.Cond.code x code maxLocals ret, Jvm.Cond.code ({ cls := "com/example/slabrun/slabrun/core/UsageListMoveUpAtPinLaw", name := "pick", desc := "(I)Lcom/example/slabrun/slabrun/core/UsageList;" } : Jvm.MethodName) method_2_code (1 : Nat) (Option.some (Jvm.ClassFile.FieldType.object "com/example/slabrun/slabrun/core/UsageList")), Jvm.Cond.code ({ cls := "com/example/slabrun/slabrun/core/UsageList", name := "moveUpAt", desc := "(I)I" } : Jvm.MethodName) prog_35_method_4_code (2 : Nat) (Option.some Jvm.ClassFile.FieldType.int), Jvm.Cond.code ({ cls := "com/example/slabrun/slabrun/core/UsageListMoveUpAtPinLaw", name := "highestOf", desc := "(I)I" } : Jvm.MethodName) method_3_code (1 : Nat) (Option.some Jvm.ClassFile.FieldType.int)]
set_option maxRecDepth 65536 in
theorem codes_eq : words1.filter isCode = codes1 := rfl
theorem w_codes : ∀ c ∈ words1.filter isCode, c.before args0 about1 = true := by
  rw [codes_eq]
  intro c hc
  simp only [codes1, List.mem_cons, List.not_mem_nil, or_false] at hc
  rcases hc with rfl | rfl | rfl | rfl
  · exact w_c0
  · exact w_c1
  · exact w_c2
  · exact w_c3
set_option maxRecDepth 65536 in
theorem w_t1 : (words1.take 24).all (fun c => isCode c || c.before args0 about1) = true := by decide +kernel
set_option maxRecDepth 65536 in
theorem w_t2 : (words1.drop 24).all (fun c => isCode c || c.before args0 about1) = true := by decide +kernel
theorem w_tables : (allAtoms (Jvm.Cond.code x code maxLocals ret :: tables_1)).before args0 about1 = true := by
  rw [allAtoms_all]
  show words1.all (fun c => c.before args0 about1) = true
  refine all_split ?_ w_codes
  rw [← List.take_append_drop 24 words1, List.all_append, w_t1, w_t2]
  rfl
set_option maxRecDepth 65536 in
theorem w_case : (Jvm.Cond.and given_1 narrow_1).before args0 about1 = true := by decide +kernel
theorem w_applies : (headSpec (Jvm.Cond.code x code maxLocals ret :: tables_1) room_1).applies x e0.platform about1 = true :=
  (Spec.applies_iff w_frames).mpr ⟨w_running, w_runnable, w_alone, w_named, w_hears, w_ripe, w_room, w_tables⟩
theorem atStart : AtStart classFile x code maxLocals ret World_1 tables_1 room_1 Calls_1 rest_1 Pre_1 launch0 p0 e0 about1 theMethod args0 below0 :=
  ⟨lists_1, trivial, launch0.admits_env _ _ _, launch0.least_env, fairChoices_fair.cas, fairChoices_fair.clock, w_frames, w_args, w_heap, w_applies, trivial, trivial, w_case⟩
end start1
theorem witness_1 : WitnessClaimed_1 := ⟨start1.p0, start1.e0, start1.about1, start1.theMethod, start1.args0, start1.below0, start1.atStart⟩
end Jvm.Pilot.@@N@@
