import JvmDerived
import JvmDerived.Pilot.@@N@@Statement
import JvmDerived.Pilot.@@N@@Code
set_option linter.unusedVariables false
set_option linter.unusedSimpArgs false
namespace Jvm.RoadKit
open Sem ClassFile Op Lib Jvm.Stand Jvm.Free Jvm.LawKit
section New
variable {p : Program} {l : Launch} {e : Env} {R : Room} {s : State} {m : MethodId} {args : Array Value} {below : List Frame} {meth : Method} {c : Code} {T : State} {locs : List Loc} {cells slots : Nat}
theorem retI (X : Stand p l e R s m args below meth c T locs cells slots) (hx : p.tables.exec = Jvm.exec) {pc : Nat} {Ls : Array Slot} {z : Int32} {rest : List Value} (hret : meth.sig.returnType = some .int) (hd : decode c.code pc = .ok (.ireturn, 1)) {fs : List Frame}
    (hl : ∀ (f : JFrame) (acts : List Action), f.method = m → f.locked = none → f.entered = [] → (doReturn e (T.setTop f) acts (some (.int z))).1 = T.setFrames fs) : Steps p.tables e below (T.setTop (mkF m pc Ls (.int z :: rest))) (T.setFrames fs) := by
  have hm' : T.vm.method? m = some meth := X.method'
  have hn : narrow .int (.int z) = .int z := rfl
  show Steps p.tables e below (T.setTop { method := m, pc := pc, locals := Ls, stack := _ :: rest, locked := none }) _
  jvm_step X.here [X.here.top, hx, hd, hm', hret, hn]
  first | (intro acts; rw [hl _ acts rfl rfl rfl]) | rw [hl _ _ rfl rfl rfl]
  exact Steps.refl _
theorem own_lremM {g : JFrame} {target : State} (X : Stand p l e R s m args below meth c T locs cells slots) (hx : p.tables.exec = Jvm.exec) (hg : g.method = m) {x y : Int64} {rest : List Value} (hd : decode c.code g.pc = .ok (.lrem, 1)) (hs : g.stack = .long y :: .long x :: rest) (hy : y ≠ 0)
    (hr : Steps p.tables e below (T.setTop { g with pc := g.pc + 1, stack := .long (x % y) :: rest }) target) : Steps p.tables e below (T.setTop g) target := by
  have q : x - x / y * y = x % y := lrem_mod x y
  exact XS.lrem X.here hx hg hd hs hy (by rw [q]; exact hr)
theorem own_getD_int (L : List Int32) (n : Nat) (d : Int32) : (L.map Value.int).getD n (.int d) = .int (L.getD n d) := by simp [List.getD_eq_getElem?_getD, List.getElem?_map]
theorem own_getD_long (L : List Int64) (n : Nat) (d : Int64) : (L.map Value.long).getD n (.long d) = .long (L.getD n d) := by simp [List.getD_eq_getElem?_getD, List.getElem?_map]
theorem own_lt_nat {j z : Int32} (h : ¬ j < 0) (q : j < z) : j.toNatClampNeg < z.toNatClampNeg := by
  rw [Int32.lt_iff_toInt_lt] at h q; have : (0 : Int32).toInt = 0 := rfl
  simp only [Int32.toNatClampNeg]; omega
theorem own_eq_int {t : Term} {v : Int32} {args : Array Value} {s : State} (h : (Cond.eq t (.int v)).value args s none s [] = some true) : t.eval args s none [] s = some (.int v) := by
  simp only [Cond.value, Term.eval] at h
  cases ht : t.eval args s none [] s with
  | none => simp [ht] at h
  | some x => cases x <;> simp [ht] at h ⊢; exact h
theorem own_eq_long {t : Term} {v : Int64} {args : Array Value} {s : State} (h : (Cond.eq t (.long v)).value args s none s [] = some true) : t.eval args s none [] s = some (.long v) := by
  simp only [Cond.value, Term.eval] at h
  cases ht : t.eval args s none [] s with
  | none => simp [ht] at h
  | some x => cases x <;> simp [ht] at h ⊢; exact h
theorem own_selpriv {s : State} {args : Array Value} {y : MethodName} {n : Nat} (wi : (Cond.instantiable y.cls n).before args s = true) (hpriv : s.PrivateAt y) (hinst : (Cond.instanceMethod y).before args s = true) (hy : y.cls ≠ "java/lang/invoke/MethodHandle" ∧ y.cls ≠ "java/lang/invoke/VarHandle") : (Cond.selects y.cls y y).before args s = true := by
  obtain ⟨c, k, h1, h2, -, h4, -⟩ := Cond.instantiable_spec wi
  exact Jvm.Stand.selects_self_of_private h1 h2 (Bool.or_eq_false_iff.mp h4).1 hpriv hinst hy
theorem own_narb (P : Prop) [Decidable P] : nar .boolean (if P then (1 : Int32) else (0 : Int32)) = if P then (1 : Int32) else (0 : Int32) := by by_cases h : P <;> simp only [h, if_true, if_false] <;> rfl
end New
end Jvm.RoadKit
namespace Jvm.Pilot.@@N@@
open Jvm Jvm.ClassFile Sem Op Lib Jvm.Free Jvm.Stand Jvm.LawKit Jvm.RoadKit Bundle Jvm.Pilot.@@N@@.Jvm.D
theorem d1_0 : decode prog_3_method_2_code 0 = .ok (.iload_n 0, 1) := by decide +kernel
theorem d1_1 : decode prog_3_method_2_code 1 = .ok (.ifCond .eq 9, 3) := by decide +kernel
theorem d1_4 : decode prog_3_method_2_code 4 = .ok (.getstatic 17, 3) := by decide +kernel
theorem d1_7 : decode prog_3_method_2_code 7 = .ok (.goto 6, 3) := by decide +kernel
theorem d1_10 : decode prog_3_method_2_code 10 = .ok (.getstatic 21, 3) := by decide +kernel
theorem d1_13 : decode prog_3_method_2_code 13 = .ok (.areturn, 1) := by decide +kernel
theorem pn_7 : plainName "com/example/uperm/uperm/Decision" = true := by first | (simp [plainName, overriddenIn]; done) | decide +kernel
def v1_r_allowed (p0 : Int32) : Int32 := (if p0 = (0 : Int32) then (0 : Int32) else (1 : Int32))
theorem ef_rm1 (m : MethodId) (p0 : Int32) : entryFrame m #[(.int p0)] 1 = mkF m 0 #[.val (.int p0)] [] := by first | (simp [entryFrame, mkF, argsToLocals, Value.category]; done) | rfl
def Q1 (Z : State) (p0 : Int32) (o_DENIED : Addr) (o_ALLOWED : Addr) (h0 : Heap) (n0 : Nat) (v : Option Value) (h : Heap) (L : List Loc) : Prop := ∃ r : Addr, v = some (.ref r) ∧ Fr n0 L ∧ h = h0 ∧ Exa Z h r "com/example/uperm/uperm/Decision" ∧ Fld Z h r "com/example/uperm/uperm/Decision" "allowed" "Z" (.int (v1_r_allowed p0)) ∧ Fld Z h r "com/example/uperm/uperm/Decision" "error" "Ljava/lang/String;" .null
set_option maxRecDepth 65536 in
set_option maxHeartbeats 40000000 in
theorem rm1 (l : Launch) (Z : State) (a0 : Array Value) (hw : ∀ d ∈ tables_1, d.before a0 Z = true) (ws : List Jvm.Cond) (p0 : Int32) (o_DENIED : Addr) (o_ALLOWED : Addr) (h0 : Heap) (n0 : Nat) (Z0 : n0 ≤ h0.size) (S_DENIED : Sta Z h0 "com/example/uperm/uperm/Decision" "DENIED" "Lcom/example/uperm/uperm/Decision;" (.ref o_DENIED)) (E_o_DENIED : Exa Z h0 o_DENIED "com/example/uperm/uperm/Decision") (F_allowed_o_DENIED : Fld Z h0 o_DENIED "com/example/uperm/uperm/Decision" "allowed" "Z" (.int (0 : Int32))) (F_error_o_DENIED : Fld Z h0 o_DENIED "com/example/uperm/uperm/Decision" "error" "Ljava/lang/String;" .null) (S_ALLOWED : Sta Z h0 "com/example/uperm/uperm/Decision" "ALLOWED" "Lcom/example/uperm/uperm/Decision;" (.ref o_ALLOWED)) (E_o_ALLOWED : Exa Z h0 o_ALLOWED "com/example/uperm/uperm/Decision") (F_allowed_o_ALLOWED : Fld Z h0 o_ALLOWED "com/example/uperm/uperm/Decision" "allowed" "Z" (.int (1 : Int32))) (F_error_o_ALLOWED : Fld Z h0 o_ALLOWED "com/example/uperm/uperm/Decision" "error" "Ljava/lang/String;" .null) :
    MetFree l (⟨"com/example/uperm/uperm/Decision", "of", "(Z)Lcom/example/uperm/uperm/Decision;"⟩ : MethodName) (head1 (Jvm.Cond.code (⟨"com/example/uperm/uperm/Decision", "of", "(Z)Lcom/example/uperm/uperm/Decision;"⟩ : MethodName) prog_3_method_2_code 1 (some (.object "com/example/uperm/uperm/Decision")) :: ws) ({ frames := 0, cells := 0, slots := 0, locals := 0 } : Room)) (fun a U => a = #[(.int p0)] ∧ Z.Warmed39 U.vm ∧ U.heap = h0) (fun _ _ _ _ _ => True) (fun _ U o U' => ∃ v L, o = .returned v ∧ Q1 Z p0 o_DENIED o_ALLOWED h0 n0 v U'.heap L ∧ FrameEnd U o U' L ({ frames := 0, cells := 0, slots := 0, locals := 0 } : Room).cells ({ frames := 0, cells := 0, slots := 0, locals := 0 } : Room).slots) := by
  refine MetFree.of_bodySF (plainFor_of_name pn_7) hisR ?_
  intro p e s m args below meth c s₁ Bd hml0 hP hK
  obtain ⟨rfl, hZ, hh⟩ := hP
  have hx := Bd.exec
  have hby := Bd.bytes
  have hml : c.maxLocals = 1 := hml0
  have hown : s.vm.findClass "com/example/uperm/uperm/Decision" = some m.cls := findClass_of_methodNamed Bd.named
  have hnm := (name_of_methodNamed Bd.named Bd.method).1
  have X0 : Stand p l e ({ frames := 0, cells := 0, slots := 0, locals := 0 } : Room) s m #[(.int p0)] below meth c s₁ [] 0 0 := Stand.of_body Bd
  have e0 : s₁.heap = h0 := by rw [← hh, Bd.state]; rfl
  have N0 := Fr.nil n0
  have KC0 := Keep.refl h0 ([] : List Addr)
  have pre0 : ∀ t, Steps p.tables e below (s₁.setTop (mkF m 0 #[.val (.int p0)] [])) t → Steps p.tables e below (s₁.setTop (entryFrame m #[(.int p0)] 1)) t := fun t k => castTop (ef_rm1 m p0) k
  have k1 := fun (t : State) (kk : Steps p.tables e below (s₁.setTop (mkF m 1 #[.val (.int p0)] [(.int p0)])) t) => pre0 t (by
    show Steps p.tables e below (s₁.setTop (mkF m 0 #[.val (.int p0)] [])) _
    refine XS.iloadN X0.here hx rfl (hb hby d1_0) rfl ?_
    exact kk)
  by_cases hc1_2 : p0 = (0 : Int32)
  · have k3 := fun (t : State) (kk : Steps p.tables e below (s₁.setTop (mkF m 10 #[.val (.int p0)] [])) t) => k1 t (by
      show Steps p.tables e below (s₁.setTop (mkF m 1 #[.val (.int p0)] [(.int p0)])) _
      refine XS.ifYes X0.here hx rfl (pc0 := 1) (pc' := 10) rfl (hb hby d1_1) rfl ((if0 _ _).trans (teq hc1_2).1) (by decide) (by decide) ?_
      exact kk)
    obtain ⟨T4, X4, e4, st4⟩ := getS2 X0 hx hZ hown (host := "") (Or.inl (hw _ (List.mem_of_getElem? (i := 4) rfl))) Via.refl e0 S_DENIED (g := (mkF m 10 #[.val (.int p0)] [])) rfl (hb hby d1_10)
    have k5 := fun (t : State) (kk : Steps p.tables e below (T4.setTop (mkF m 13 #[.val (.int p0)] [(.ref o_DENIED)])) t) => k3 t (st4 _ kk)
    obtain ⟨fs, hr, hrun, hended, hW, hsame⟩ := X4.leave (v := some (.ref o_DENIED)) (fun h => by rw [Bd.returns] at h; cases h)
    have hf6 : (v1_r_allowed p0) = (0 : Int32) := (if_pos hc1_2)
    refine ⟨_, _, k5 _ ?_, hrun, hended, _, _, rfl, ?_, ⟨_, rfl⟩, hW, hsame.mono (by decide) (by decide)⟩
    · show Steps p.tables e below (T4.setTop (mkF m 13 #[.val (.int p0)] [(.ref o_DENIED)])) _
      exact retOut X4 hx (t := (.object "com/example/uperm/uperm/Decision")) Bd.returns rfl (Or.inr (Or.inr (Or.inr (Or.inr ⟨rfl, rfl, rfl⟩)))) (hb hby d1_13) hr
    · show Q1 Z p0 o_DENIED o_ALLOWED h0 n0 _ T4.heap _
      rw [e4]
      exact ⟨o_DENIED, rfl, N0, rfl, E_o_DENIED, (by rw [hf6]; exact F_allowed_o_DENIED), F_error_o_DENIED⟩
  · have k7 := fun (t : State) (kk : Steps p.tables e below (s₁.setTop (mkF m 4 #[.val (.int p0)] [])) t) => k1 t (by
      show Steps p.tables e below (s₁.setTop (mkF m 1 #[.val (.int p0)] [(.int p0)])) _
      refine XS.ifNo X0.here hx rfl (hb hby d1_1) rfl ((if0 _ _).trans (feq hc1_2).1) ?_
      exact kk)
    obtain ⟨T8, X8, e8, st8⟩ := getS2 X0 hx hZ hown (host := "") (Or.inl (hw _ (List.mem_of_getElem? (i := 20) rfl))) Via.refl e0 S_ALLOWED (g := (mkF m 4 #[.val (.int p0)] [])) rfl (hb hby d1_4)
    have k9 := fun (t : State) (kk : Steps p.tables e below (T8.setTop (mkF m 7 #[.val (.int p0)] [(.ref o_ALLOWED)])) t) => k7 t (st8 _ kk)
    have k10 := fun (t : State) (kk : Steps p.tables e below (T8.setTop (mkF m 13 #[.val (.int p0)] [(.ref o_ALLOWED)])) t) => k9 t (by
      show Steps p.tables e below (T8.setTop (mkF m 7 #[.val (.int p0)] [(.ref o_ALLOWED)])) _
      refine XS.goto X8.here hx rfl (pc0 := 7) (pc' := 13) rfl (hb hby d1_7) (by decide) (by decide) ?_
      exact kk)
    obtain ⟨fs, hr, hrun, hended, hW, hsame⟩ := X8.leave (v := some (.ref o_ALLOWED)) (fun h => by rw [Bd.returns] at h; cases h)
    have hf11 : (v1_r_allowed p0) = (1 : Int32) := (if_neg hc1_2)
    refine ⟨_, _, k10 _ ?_, hrun, hended, _, _, rfl, ?_, ⟨_, rfl⟩, hW, hsame.mono (by decide) (by decide)⟩
    · show Steps p.tables e below (T8.setTop (mkF m 13 #[.val (.int p0)] [(.ref o_ALLOWED)])) _
      exact retOut X8 hx (t := (.object "com/example/uperm/uperm/Decision")) Bd.returns rfl (Or.inr (Or.inr (Or.inr (Or.inr ⟨rfl, rfl, rfl⟩)))) (hb hby d1_13) hr
    · show Q1 Z p0 o_DENIED o_ALLOWED h0 n0 _ T8.heap _
      rw [e8]
      exact ⟨o_ALLOWED, rfl, N0, rfl, E_o_ALLOWED, (by rw [hf11]; exact F_allowed_o_ALLOWED), F_error_o_ALLOWED⟩
theorem d2_0 : decode prog_3_method_4_code 0 = .ok (.aload_n 0, 1) := by decide +kernel
theorem d2_1 : decode prog_3_method_4_code 1 = .ok (.getfield 7, 3) := by decide +kernel
theorem d2_4 : decode prog_3_method_4_code 4 = .ok (.ireturn, 1) := by decide +kernel
theorem ef_rm2 (m : MethodId) (ra0 : Addr) : entryFrame m #[(.ref ra0)] 1 = mkF m 0 #[.val (.ref ra0)] [] := by first | (simp [entryFrame, mkF, argsToLocals, Value.category]; done) | rfl
def Q2 (Z : State) (ra0 : Addr) (w_allowed_ra0 : Int32) (h0 : Heap) (n0 : Nat) (v : Option Value) (h : Heap) (L : List Loc) : Prop := v = some (.int (nar .boolean w_allowed_ra0)) ∧ Fr n0 L ∧ h = h0
set_option maxRecDepth 65536 in
set_option maxHeartbeats 40000000 in
theorem rm2 (l : Launch) (Z : State) (a0 : Array Value) (hw : ∀ d ∈ tables_1, d.before a0 Z = true) (ws : List Jvm.Cond) (ra0 : Addr) (w_allowed_ra0 : Int32) (h0 : Heap) (n0 : Nat) (Z0 : n0 ≤ h0.size) (F_allowed_ra0 : Fld Z h0 ra0 "com/example/uperm/uperm/Decision" "allowed" "Z" (.int w_allowed_ra0)) :
    MetFree l (⟨"com/example/uperm/uperm/Decision", "allowed", "()Z"⟩ : MethodName) (head1 (Jvm.Cond.code (⟨"com/example/uperm/uperm/Decision", "allowed", "()Z"⟩ : MethodName) prog_3_method_4_code 1 (some .boolean) :: ws) ({ frames := 0, cells := 0, slots := 0, locals := 0 } : Room)) (fun a U => a = #[(.ref ra0)] ∧ Z.Warmed39 U.vm ∧ U.heap = h0) (fun _ _ _ _ _ => True) (fun _ U o U' => ∃ v L, o = .returned v ∧ Q2 Z ra0 w_allowed_ra0 h0 n0 v U'.heap L ∧ FrameEnd U o U' L ({ frames := 0, cells := 0, slots := 0, locals := 0 } : Room).cells ({ frames := 0, cells := 0, slots := 0, locals := 0 } : Room).slots) := by
  refine MetFree.of_bodySF (plainFor_of_name pn_7) hisR ?_
  intro p e s m args below meth c s₁ Bd hml0 hP hK
  obtain ⟨rfl, hZ, hh⟩ := hP
  have hx := Bd.exec
  have hby := Bd.bytes
  have hml : c.maxLocals = 1 := hml0
  have hown : s.vm.findClass "com/example/uperm/uperm/Decision" = some m.cls := findClass_of_methodNamed Bd.named
  have hnm := (name_of_methodNamed Bd.named Bd.method).1
  have X0 : Stand p l e ({ frames := 0, cells := 0, slots := 0, locals := 0 } : Room) s m #[(.ref ra0)] below meth c s₁ [] 0 0 := Stand.of_body Bd
  have e0 : s₁.heap = h0 := by rw [← hh, Bd.state]; rfl
  have N0 := Fr.nil n0
  have KC0 := Keep.refl h0 ([] : List Addr)
  have pre0 : ∀ t, Steps p.tables e below (s₁.setTop (mkF m 0 #[.val (.ref ra0)] [])) t → Steps p.tables e below (s₁.setTop (entryFrame m #[(.ref ra0)] 1)) t := fun t k => castTop (ef_rm2 m ra0) k
  have k12 := fun (t : State) (kk : Steps p.tables e below (s₁.setTop (mkF m 1 #[.val (.ref ra0)] [(.ref ra0)])) t) => pre0 t (by
    show Steps p.tables e below (s₁.setTop (mkF m 0 #[.val (.ref ra0)] [])) _
    refine XS.aloadN X0.here hx rfl (hb hby d2_0) rfl rfl ?_
    exact kk)
  obtain ⟨T13, X13, e13, st13⟩ := getF X0 hx hZ hown (host := "") (Or.inl (hw _ (List.mem_of_getElem? (i := 11) rfl))) Via.refl e0 F_allowed_ra0 (g := (mkF m 1 #[.val (.ref ra0)] [(.ref ra0)])) rfl rfl (hb hby d2_1)
  have k14 := fun (t : State) (kk : Steps p.tables e below (T13.setTop (mkF m 4 #[.val (.ref ra0)] [(.int w_allowed_ra0)])) t) => k12 t (st13 _ kk)
  obtain ⟨fs, hr, hrun, hended, hW, hsame⟩ := X13.leave (v := some (.int (nar .boolean w_allowed_ra0))) (fun h => by rw [Bd.returns] at h; cases h)
  refine ⟨_, _, k14 _ ?_, hrun, hended, _, _, rfl, ?_, ⟨_, rfl⟩, hW, hsame.mono (by decide) (by decide)⟩
  · show Steps p.tables e below (T13.setTop (mkF m 4 #[.val (.ref ra0)] [(.int w_allowed_ra0)])) _
    exact retN X13 hx (t := .boolean) Bd.returns (by simp) (hb hby d2_4) hr
  · show Q2 Z ra0 w_allowed_ra0 h0 n0 _ T13.heap _
    rw [e13]
    exact ⟨rfl, N0, rfl⟩
theorem d3_0 : decode prog_3_method_5_code 0 = .ok (.aload_n 0, 1) := by decide +kernel
theorem d3_1 : decode prog_3_method_5_code 1 = .ok (.getfield 13, 3) := by decide +kernel
theorem d3_4 : decode prog_3_method_5_code 4 = .ok (.areturn, 1) := by decide +kernel
theorem ef_rm3 (m : MethodId) (ra0 : Addr) : entryFrame m #[(.ref ra0)] 1 = mkF m 0 #[.val (.ref ra0)] [] := by first | (simp [entryFrame, mkF, argsToLocals, Value.category]; done) | rfl
def Q3 (Z : State) (ra0 : Addr) (h0 : Heap) (n0 : Nat) (v : Option Value) (h : Heap) (L : List Loc) : Prop := v = some .null ∧ Fr n0 L ∧ h = h0
set_option maxRecDepth 65536 in
set_option maxHeartbeats 40000000 in
theorem rm3 (l : Launch) (Z : State) (a0 : Array Value) (hw : ∀ d ∈ tables_1, d.before a0 Z = true) (ws : List Jvm.Cond) (ra0 : Addr) (h0 : Heap) (n0 : Nat) (Z0 : n0 ≤ h0.size) (F_error_ra0 : Fld Z h0 ra0 "com/example/uperm/uperm/Decision" "error" "Ljava/lang/String;" .null) :
    MetFree l (⟨"com/example/uperm/uperm/Decision", "error", "()Ljava/lang/String;"⟩ : MethodName) (head1 (Jvm.Cond.code (⟨"com/example/uperm/uperm/Decision", "error", "()Ljava/lang/String;"⟩ : MethodName) prog_3_method_5_code 1 (some (.object "java/lang/String")) :: ws) ({ frames := 0, cells := 0, slots := 0, locals := 0 } : Room)) (fun a U => a = #[(.ref ra0)] ∧ Z.Warmed39 U.vm ∧ U.heap = h0) (fun _ _ _ _ _ => True) (fun _ U o U' => ∃ v L, o = .returned v ∧ Q3 Z ra0 h0 n0 v U'.heap L ∧ FrameEnd U o U' L ({ frames := 0, cells := 0, slots := 0, locals := 0 } : Room).cells ({ frames := 0, cells := 0, slots := 0, locals := 0 } : Room).slots) := by
  refine MetFree.of_bodySF (plainFor_of_name pn_7) hisR ?_
  intro p e s m args below meth c s₁ Bd hml0 hP hK
  obtain ⟨rfl, hZ, hh⟩ := hP
  have hx := Bd.exec
  have hby := Bd.bytes
  have hml : c.maxLocals = 1 := hml0
  have hown : s.vm.findClass "com/example/uperm/uperm/Decision" = some m.cls := findClass_of_methodNamed Bd.named
  have hnm := (name_of_methodNamed Bd.named Bd.method).1
  have X0 : Stand p l e ({ frames := 0, cells := 0, slots := 0, locals := 0 } : Room) s m #[(.ref ra0)] below meth c s₁ [] 0 0 := Stand.of_body Bd
  have e0 : s₁.heap = h0 := by rw [← hh, Bd.state]; rfl
  have N0 := Fr.nil n0
  have KC0 := Keep.refl h0 ([] : List Addr)
  have pre0 : ∀ t, Steps p.tables e below (s₁.setTop (mkF m 0 #[.val (.ref ra0)] [])) t → Steps p.tables e below (s₁.setTop (entryFrame m #[(.ref ra0)] 1)) t := fun t k => castTop (ef_rm3 m ra0) k
  have k15 := fun (t : State) (kk : Steps p.tables e below (s₁.setTop (mkF m 1 #[.val (.ref ra0)] [(.ref ra0)])) t) => pre0 t (by
    show Steps p.tables e below (s₁.setTop (mkF m 0 #[.val (.ref ra0)] [])) _
    refine XS.aloadN X0.here hx rfl (hb hby d3_0) rfl rfl ?_
    exact kk)
  obtain ⟨T16, X16, e16, st16⟩ := getF X0 hx hZ hown (host := "") (Or.inl (hw _ (List.mem_of_getElem? (i := 18) rfl))) Via.refl e0 F_error_ra0 (g := (mkF m 1 #[.val (.ref ra0)] [(.ref ra0)])) rfl rfl (hb hby d3_1)
  have k17 := fun (t : State) (kk : Steps p.tables e below (T16.setTop (mkF m 4 #[.val (.ref ra0)] [.null])) t) => k15 t (st16 _ kk)
  obtain ⟨fs, hr, hrun, hended, hW, hsame⟩ := X16.leave (v := some .null) (fun h => by rw [Bd.returns] at h; cases h)
  refine ⟨_, _, k17 _ ?_, hrun, hended, _, _, rfl, ?_, ⟨_, rfl⟩, hW, hsame.mono (by decide) (by decide)⟩
  · show Steps p.tables e below (T16.setTop (mkF m 4 #[.val (.ref ra0)] [.null])) _
    exact retOut X16 hx (t := (.object "java/lang/String")) Bd.returns rfl (Or.inr (Or.inr (Or.inr (Or.inr ⟨rfl, rfl, rfl⟩)))) (hb hby d3_4) hr
  · show Q3 Z ra0 h0 n0 _ T16.heap _
    rw [e16]
    exact ⟨rfl, N0, rfl⟩
theorem pd_0 : parseMethodDescriptor "(Z)Lcom/example/uperm/uperm/Decision;" = some ⟨[.boolean], some (.object "com/example/uperm/uperm/Decision")⟩ := by decide +kernel
theorem pd_1 : parseMethodDescriptor "()Z" = some ⟨[], some .boolean⟩ := by decide +kernel
theorem pd_2 : parseMethodDescriptor "()Ljava/lang/String;" = some ⟨[], some (.object "java/lang/String")⟩ := by decide +kernel
theorem pn_21 : plainName "com/example/uperm/uperm/DecisionOfPinLaw" = true := by first | (simp [plainName, overriddenIn]; done) | decide +kernel
def v0_3_s0 (p0 : Int32) : Int32 := if (p0 &&& (1 : Int32)) = (0 : Int32) then (0 : Int32) else (1 : Int32)
def v0_ret (p0 : Int32) : Int32 := (if (nar .boolean (v1_r_allowed (v0_3_s0 p0))) = (v0_3_s0 p0) then (1 : Int32) else (0 : Int32))
theorem own_law (p0 : Int32) : (v0_ret p0) = 1 := by
  have hb : v0_3_s0 p0 = 0 ∨ v0_3_s0 p0 = 1 := by
    unfold v0_3_s0; split
    · exact Or.inl rfl
    · exact Or.inr rfl
  unfold v0_ret
  rcases hb with h | h <;> rw [h] <;> rfl

theorem ef_rm0 (m : MethodId) (p0 : Int32) : entryFrame m #[(.int p0)] maxLocals = mkF m 0 #[.val (.int p0), .unset, .unset] [] := by first | (simp [entryFrame, mkF, argsToLocals, Value.category, maxLocals]; done) | rfl
def Q0 (Z : State) (p0 : Int32) (o_DENIED : Addr) (o_ALLOWED : Addr) (h0 : Heap) (n0 : Nat) (v : Option Value) (h : Heap) (L : List Loc) : Prop := v = some (.int 1) ∧ Fr n0 L
set_option maxRecDepth 65536 in
set_option maxHeartbeats 40000000 in
theorem rm0 (l : Launch) (Z : State) (a0 : Array Value) (hw : ∀ d ∈ tables_1, d.before a0 Z = true) (ws : List Jvm.Cond) (p0 : Int32) (o_DENIED : Addr) (o_ALLOWED : Addr) (h0 : Heap) (n0 : Nat) (Z0 : n0 ≤ h0.size) (S_DENIED : Sta Z h0 "com/example/uperm/uperm/Decision" "DENIED" "Lcom/example/uperm/uperm/Decision;" (.ref o_DENIED)) (S_ALLOWED : Sta Z h0 "com/example/uperm/uperm/Decision" "ALLOWED" "Lcom/example/uperm/uperm/Decision;" (.ref o_ALLOWED)) (E_o_DENIED : Exa Z h0 o_DENIED "com/example/uperm/uperm/Decision") (F_allowed_o_DENIED : Fld Z h0 o_DENIED "com/example/uperm/uperm/Decision" "allowed" "Z" (.int (0 : Int32))) (F_error_o_DENIED : Fld Z h0 o_DENIED "com/example/uperm/uperm/Decision" "error" "Ljava/lang/String;" .null) (E_o_ALLOWED : Exa Z h0 o_ALLOWED "com/example/uperm/uperm/Decision") (F_allowed_o_ALLOWED : Fld Z h0 o_ALLOWED "com/example/uperm/uperm/Decision" "allowed" "Z" (.int (1 : Int32))) (F_error_o_ALLOWED : Fld Z h0 o_ALLOWED "com/example/uperm/uperm/Decision" "error" "Ljava/lang/String;" .null) :
    MetFree l x (head1 (Jvm.Cond.code x code maxLocals ret :: ws) room_1) (fun a U => a = #[(.int p0)] ∧ Z.Warmed39 U.vm ∧ U.heap = h0) (fun _ _ _ _ _ => True) (fun _ U o U' => ∃ v L, o = .returned v ∧ Q0 Z p0 o_DENIED o_ALLOWED h0 n0 v U'.heap L ∧ FrameEnd U o U' L room_1.cells room_1.slots) := by
  refine MetFree.of_bodySF (plainFor_of_name pn_21) hisR ?_
  intro p e s m args below meth c s₁ Bd hml0 hP hK
  obtain ⟨rfl, hZ, hh⟩ := hP
  have hx := Bd.exec
  have hby := Bd.bytes
  have hml : c.maxLocals = 3 := hml0
  have hown : s.vm.findClass "com/example/uperm/uperm/DecisionOfPinLaw" = some m.cls := findClass_of_methodNamed Bd.named
  have hnm := (name_of_methodNamed Bd.named Bd.method).1
  have X0 : Stand p l e room_1 s m #[(.int p0)] below meth c s₁ [] 0 0 := Stand.of_body Bd
  have e0 : s₁.heap = h0 := by rw [← hh, Bd.state]; rfl
  have N0 := Fr.nil n0
  have KC0 := Keep.refl h0 ([] : List Addr)
  have pre0 : ∀ t, Steps p.tables e below (s₁.setTop (mkF m 0 #[.val (.int p0), .unset, .unset] [])) t → Steps p.tables e below (s₁.setTop (entryFrame m #[(.int p0)] maxLocals)) t := fun t k => castTop (ef_rm0 m p0) k
  have k20 := fun (t : State) (kk : Steps p.tables e below (s₁.setTop (mkF m 13 #[.val (.int p0), .val (.int (v0_3_s0 p0)), .unset] [(.int (v0_3_s0 p0))])) t) => pre0 t (by
    show Steps p.tables e below (s₁.setTop (mkF m 0 #[.val (.int p0), .unset, .unset] [])) _
    refine XS.iloadN X0.here hx rfl (hb hby at_0) rfl ?_
    show Steps p.tables e below (s₁.setTop (mkF m 1 #[.val (.int p0), .unset, .unset] [(.int p0)])) _
    refine XS.iconst X0.here hx rfl (hb hby at_1) ?_
    show Steps p.tables e below (s₁.setTop (mkF m 2 #[.val (.int p0), .unset, .unset] [(.int (1 : Int32)), (.int p0)])) _
    refine XS.iand X0.here hx rfl (hb hby at_2) rfl ?_
    suffices k19 : Steps p.tables e below (s₁.setTop (mkF m 11 #[.val (.int p0), .unset, .unset] [(.int (v0_3_s0 p0))])) t by
      by_cases hc3_18 : (p0 &&& (1 : Int32)) = (0 : Int32)
      · rw [(show (v0_3_s0 p0) = (0 : Int32) from if_pos hc3_18)] at k19
        show Steps p.tables e below (s₁.setTop (mkF m 3 #[.val (.int p0), .unset, .unset] [(.int (p0 &&& (1 : Int32)))])) _
        refine XS.ifYes X0.here hx rfl (pc0 := 3) (pc' := 10) rfl (hb hby at_3) rfl ((if0 _ _).trans (teq hc3_18).1) (by decide) (by decide) ?_
        show Steps p.tables e below (s₁.setTop (mkF m 10 #[.val (.int p0), .unset, .unset] [])) _
        refine XS.iconst X0.here hx rfl (hb hby at_10) ?_
        exact k19
      · rw [(show (v0_3_s0 p0) = (1 : Int32) from if_neg hc3_18)] at k19
        show Steps p.tables e below (s₁.setTop (mkF m 3 #[.val (.int p0), .unset, .unset] [(.int (p0 &&& (1 : Int32)))])) _
        refine XS.ifNo X0.here hx rfl (hb hby at_3) rfl ((if0 _ _).trans (feq hc3_18).1) ?_
        show Steps p.tables e below (s₁.setTop (mkF m 6 #[.val (.int p0), .unset, .unset] [])) _
        refine XS.iconst X0.here hx rfl (hb hby at_6) ?_
        show Steps p.tables e below (s₁.setTop (mkF m 7 #[.val (.int p0), .unset, .unset] [(.int (1 : Int32))])) _
        refine XS.goto X0.here hx rfl (pc0 := 7) (pc' := 11) rfl (hb hby at_7) (by decide) (by decide) ?_
        exact k19
    show Steps p.tables e below (s₁.setTop (mkF m 11 #[.val (.int p0), .unset, .unset] [(.int (v0_3_s0 p0))])) _
    refine XS.istoreN X0.here hx rfl (hb hby at_11) rfl (l' := #[.val (.int p0), .val (.int (v0_3_s0 p0)), .unset]) rfl ?_
    show Steps p.tables e below (s₁.setTop (mkF m 12 #[.val (.int p0), .val (.int (v0_3_s0 p0)), .unset] [])) _
    refine XS.iloadN X0.here hx rfl (hb hby at_12) rfl ?_
    exact kk)
  have Zz21 : n0 ≤ h0.size := (Nat.le_trans Z0 KC0.1)
  obtain ⟨_, _, ⟨T21, L21, k21, n21⟩, -, X21, ⟨Lc21, hQ21, l21, y21, z21⟩, st21⟩ := Jvm.LawKit.callS X0 hx (y := (⟨"com/example/uperm/uperm/Decision", "of", "(Z)Lcom/example/uperm/uperm/Decision;"⟩ : MethodName)) hown (mvT hZ (hw _ (List.mem_of_getElem? (i := 0) rfl))) (mvT hZ (hw _ (List.mem_of_getElem? (i := 1) rfl))) (mvT hZ (hw _ (List.mem_of_getElem? (i := 2) rfl))) (mvT hZ (hw _ (List.mem_of_getElem? (i := 3) rfl))) (by decide) (backOf (W := 0) (rm1 l Z a0 hw [] (v0_3_s0 p0) o_DENIED o_ALLOWED h0 n0 Zz21 S_DENIED E_o_DENIED F_allowed_o_DENIED F_error_o_DENIED S_ALLOWED E_o_ALLOWED F_allowed_o_ALLOWED F_error_o_ALLOWED) hZ (hw _ (List.mem_of_getElem? (i := 3) rfl)) (hw _ (List.mem_of_getElem? (i := 2) rfl)) (by decide) (by decide)) (g := (mkF m 13 #[.val (.int p0), .val (.int (v0_3_s0 p0)), .unset] [(.int (v0_3_s0 p0))])) rfl (by rw [hml]; rfl) (argsL := [(.int (v0_3_s0 p0))]) (rest := []) (lenOf pd_0 rfl) rfl (by show 2 * 0 + _ ≤ _; exact Nat.le_of_eq rfl) (hb hby at_13) (fun _ _ => ⟨rfl, e0, (by decide : 0 + 0 ≤ _), (by decide : 0 + 0 ≤ _)⟩)
  dsimp only [Pt.U, Pt.locs, Pt.cells, Pt.slots] at X21 l21 y21 z21 st21 hQ21
  subst l21 y21 z21
  obtain ⟨r21, rfl, N21q, e21, E_r21, F_allowed_r21, F_error_r21⟩ := hQ21
  rw [e21] at E_r21 F_allowed_r21 F_error_r21
  have N21 := Fr.app N0 N21q
  have k22 := fun (t : State) (kk : Steps p.tables e below (T21.setTop (mkF m 16 #[.val (.int p0), .val (.int (v0_3_s0 p0)), .unset] [(.ref r21)])) t) => k20 t (st21 _ kk)
  have k23 := fun (t : State) (kk : Steps p.tables e below (T21.setTop (mkF m 18 #[.val (.int p0), .val (.int (v0_3_s0 p0)), .val (.ref r21)] [(.ref r21)])) t) => k22 t (by
    show Steps p.tables e below (T21.setTop (mkF m 16 #[.val (.int p0), .val (.int (v0_3_s0 p0)), .unset] [(.ref r21)])) _
    refine XS.astoreN X21.here hx rfl (hb hby at_16) rfl rfl (l' := #[.val (.int p0), .val (.int (v0_3_s0 p0)), .val (.ref r21)]) rfl ?_
    show Steps p.tables e below (T21.setTop (mkF m 17 #[.val (.int p0), .val (.int (v0_3_s0 p0)), .val (.ref r21)] [])) _
    refine XS.aloadN X21.here hx rfl (hb hby at_17) rfl rfl ?_
    exact kk)
  have k24 := fun (t : State) (kk : Steps p.tables e below (T21.setTop (mkF m 24 #[.val (.int p0), .val (.int (v0_3_s0 p0)), .val (.ref r21)] [(.ref r21)])) t) => k23 t (by
    show Steps p.tables e below (T21.setTop (mkF m 18 #[.val (.int p0), .val (.int (v0_3_s0 p0)), .val (.ref r21)] [(.ref r21)])) _
    refine XS.ifnonnullYes X21.here hx rfl (pc0 := 18) (pc' := 23) rfl (hb hby at_18) rfl (by decide) (by decide) ?_
    show Steps p.tables e below (T21.setTop (mkF m 23 #[.val (.int p0), .val (.int (v0_3_s0 p0)), .val (.ref r21)] [])) _
    refine XS.aloadN X21.here hx rfl (hb hby at_23) rfl rfl ?_
    exact kk)
  have Zz25 : n0 ≤ h0.size := (Nat.le_trans Z0 KC0.1)
  obtain ⟨cq25, kq25, q25a, q25b, q25c⟩ := isOf hZ e21 E_r21
  obtain ⟨_, _, ⟨T25, L25, k25, n25⟩, -, X25, ⟨Lc25, hQ25, l25, y25, z25⟩, st25⟩ := X21.virtualBack hx (y := (⟨"com/example/uperm/uperm/Decision", "allowed", "()Z"⟩ : MethodName)) (z := (⟨"com/example/uperm/uperm/Decision", "allowed", "()Z"⟩ : MethodName)) hown (mvT hZ (hw _ (List.mem_of_getElem? (i := 6) rfl))) (mvT hZ (hw _ (List.mem_of_getElem? (i := 7) rfl))) (notFace_of_selects (args := #[]) (mvT hZ (hw _ (List.mem_of_getElem? (i := 9) rfl)))) (mvT hZ (hw _ (List.mem_of_getElem? (i := 9) rfl))) (mvT hZ (hw _ (List.mem_of_getElem? (i := 8) rfl))) (by decide) (backOf (W := 0) (rm2 l Z a0 hw [] r21 (v1_r_allowed (v0_3_s0 p0)) h0 n0 Zz25 F_allowed_r21) hZ (hw _ (List.mem_of_getElem? (i := 10) rfl)) (hw _ (List.mem_of_getElem? (i := 2) rfl)) (by decide) (by decide)) q25a q25c (g := (mkF m 24 #[.val (.int p0), .val (.int (v0_3_s0 p0)), .val (.ref r21)] [(.ref r21)])) rfl (by rw [hml]; rfl) (Steps.refl _) (argsL := []) (rest := []) (lenOf pd_1 rfl) rfl (by show 2 * 0 + _ ≤ _; exact Nat.le_of_eq rfl) (hb hby at_24) (fun _ _ => ⟨rfl, e21, (by decide : 0 + 0 ≤ _), (by decide : 0 + 0 ≤ _)⟩)
  dsimp only [Pt.U, Pt.locs, Pt.cells, Pt.slots] at X25 l25 y25 z25 st25 hQ25
  subst l25 y25 z25
  obtain ⟨rfl, N25q, e25⟩ := hQ25
  have N25 := Fr.app N21 N25q
  have k26 := fun (t : State) (kk : Steps p.tables e below (T25.setTop (mkF m 27 #[.val (.int p0), .val (.int (v0_3_s0 p0)), .val (.ref r21)] [(.int (nar .boolean (v1_r_allowed (v0_3_s0 p0))))])) t) => k24 t (st25.trans kk)
  have k27 := fun (t : State) (kk : Steps p.tables e below (T25.setTop (mkF m 28 #[.val (.int p0), .val (.int (v0_3_s0 p0)), .val (.ref r21)] [(.int (v0_3_s0 p0)), (.int (nar .boolean (v1_r_allowed (v0_3_s0 p0))))])) t) => k26 t (by
    show Steps p.tables e below (T25.setTop (mkF m 27 #[.val (.int p0), .val (.int (v0_3_s0 p0)), .val (.ref r21)] [(.int (nar .boolean (v1_r_allowed (v0_3_s0 p0))))])) _
    refine XS.iloadN X25.here hx rfl (hb hby at_27) rfl ?_
    exact kk)
  by_cases hc28_28 : (nar .boolean (v1_r_allowed (v0_3_s0 p0))) = (v0_3_s0 p0)
  · have k29 := fun (t : State) (kk : Steps p.tables e below (T25.setTop (mkF m 32 #[.val (.int p0), .val (.int (v0_3_s0 p0)), .val (.ref r21)] [(.ref r21)])) t) => k27 t (by
      show Steps p.tables e below (T25.setTop (mkF m 28 #[.val (.int p0), .val (.int (v0_3_s0 p0)), .val (.ref r21)] [(.int (v0_3_s0 p0)), (.int (nar .boolean (v1_r_allowed (v0_3_s0 p0))))])) _
      refine XS.icmpNo X25.here hx rfl (hb hby at_28) rfl (teq hc28_28).2 ?_
      show Steps p.tables e below (T25.setTop (mkF m 31 #[.val (.int p0), .val (.int (v0_3_s0 p0)), .val (.ref r21)] [])) _
      refine XS.aloadN X25.here hx rfl (hb hby at_31) rfl rfl ?_
      exact kk)
    have Zz30 : n0 ≤ h0.size := (Nat.le_trans Z0 KC0.1)
    obtain ⟨cq30, kq30, q30a, q30b, q30c⟩ := isOf hZ e25 E_r21
    obtain ⟨_, _, ⟨T30, L30, k30, n30⟩, -, X30, ⟨Lc30, hQ30, l30, y30, z30⟩, st30⟩ := X25.virtualBack hx (y := (⟨"com/example/uperm/uperm/Decision", "error", "()Ljava/lang/String;"⟩ : MethodName)) (z := (⟨"com/example/uperm/uperm/Decision", "error", "()Ljava/lang/String;"⟩ : MethodName)) hown (mvT hZ (hw _ (List.mem_of_getElem? (i := 13) rfl))) (mvT hZ (hw _ (List.mem_of_getElem? (i := 14) rfl))) (notFace_of_selects (args := #[]) (mvT hZ (hw _ (List.mem_of_getElem? (i := 16) rfl)))) (mvT hZ (hw _ (List.mem_of_getElem? (i := 16) rfl))) (mvT hZ (hw _ (List.mem_of_getElem? (i := 15) rfl))) (by decide) (backOf (W := 0) (rm3 l Z a0 hw [] r21 h0 n0 Zz30 F_error_r21) hZ (hw _ (List.mem_of_getElem? (i := 17) rfl)) (hw _ (List.mem_of_getElem? (i := 2) rfl)) (by decide) (by decide)) q30a q30c (g := (mkF m 32 #[.val (.int p0), .val (.int (v0_3_s0 p0)), .val (.ref r21)] [(.ref r21)])) rfl (by rw [hml]; rfl) (Steps.refl _) (argsL := []) (rest := []) (lenOf pd_2 rfl) rfl (by show 2 * 0 + _ ≤ _; exact Nat.le_of_eq rfl) (hb hby at_32) (fun _ _ => ⟨rfl, e25, (by decide : 0 + 0 ≤ _), (by decide : 0 + 0 ≤ _)⟩)
    dsimp only [Pt.U, Pt.locs, Pt.cells, Pt.slots] at X30 l30 y30 z30 st30 hQ30
    subst l30 y30 z30
    obtain ⟨rfl, N30q, e30⟩ := hQ30
    have N30 := Fr.app N25 N30q
    have k31 := fun (t : State) (kk : Steps p.tables e below (T30.setTop (mkF m 35 #[.val (.int p0), .val (.int (v0_3_s0 p0)), .val (.ref r21)] [.null])) t) => k29 t (st30.trans kk)
    have k32 := fun (t : State) (kk : Steps p.tables e below (T30.setTop (mkF m 43 #[.val (.int p0), .val (.int (v0_3_s0 p0)), .val (.ref r21)] [(.int (1 : Int32))])) t) => k31 t (by
      show Steps p.tables e below (T30.setTop (mkF m 35 #[.val (.int p0), .val (.int (v0_3_s0 p0)), .val (.ref r21)] [.null])) _
      refine XS.ifnonnullNo X30.here hx rfl (hb hby at_35) rfl ?_
      show Steps p.tables e below (T30.setTop (mkF m 38 #[.val (.int p0), .val (.int (v0_3_s0 p0)), .val (.ref r21)] [])) _
      refine XS.iconst X30.here hx rfl (hb hby at_38) ?_
      show Steps p.tables e below (T30.setTop (mkF m 39 #[.val (.int p0), .val (.int (v0_3_s0 p0)), .val (.ref r21)] [(.int (1 : Int32))])) _
      refine XS.goto X30.here hx rfl (pc0 := 39) (pc' := 43) rfl (hb hby at_39) (by decide) (by decide) ?_
      exact kk)
    obtain ⟨fs, hr, hrun, hended, hW, hsame⟩ := X30.leave (v := some (.int (1 : Int32))) (fun h => by rw [Bd.returns] at h; cases h)
    have hv : (v0_ret p0) = (1 : Int32) := (if_pos hc28_28)
    have hone : (1 : Int32) = 1 := hv.symm.trans (own_law p0)
    refine ⟨_, _, k32 _ ?_, hrun, hended, _, _, rfl, ?_, ⟨_, rfl⟩, hW, hsame.mono (by decide) (by decide)⟩
    · show Steps p.tables e below (T30.setTop (mkF m 43 #[.val (.int p0), .val (.int (v0_3_s0 p0)), .val (.ref r21)] [(.int (1 : Int32))])) _
      exact retN X30 hx (t := .boolean) Bd.returns (by simp) (hb hby at_43) hr
    · show Q0 Z p0 o_DENIED o_ALLOWED h0 n0 _ T30.heap _
      rw [e30]
      exact ⟨congrArg (fun z => some (Value.int z)) hone, N30⟩
  · have k33 := fun (t : State) (kk : Steps p.tables e below (T25.setTop (mkF m 43 #[.val (.int p0), .val (.int (v0_3_s0 p0)), .val (.ref r21)] [(.int (0 : Int32))])) t) => k27 t (by
      show Steps p.tables e below (T25.setTop (mkF m 28 #[.val (.int p0), .val (.int (v0_3_s0 p0)), .val (.ref r21)] [(.int (v0_3_s0 p0)), (.int (nar .boolean (v1_r_allowed (v0_3_s0 p0))))])) _
      refine XS.icmpYes X25.here hx rfl (pc0 := 28) (pc' := 42) rfl (hb hby at_28) rfl (feq hc28_28).2 (by decide) (by decide) ?_
      show Steps p.tables e below (T25.setTop (mkF m 42 #[.val (.int p0), .val (.int (v0_3_s0 p0)), .val (.ref r21)] [])) _
      refine XS.iconst X25.here hx rfl (hb hby at_42) ?_
      exact kk)
    obtain ⟨fs, hr, hrun, hended, hW, hsame⟩ := X25.leave (v := some (.int (0 : Int32))) (fun h => by rw [Bd.returns] at h; cases h)
    have hv : (v0_ret p0) = (0 : Int32) := (if_neg hc28_28)
    have hone : (0 : Int32) = 1 := hv.symm.trans (own_law p0)
    exact absurd hone (by decide)
set_option maxRecDepth 65536 in
set_option maxHeartbeats 40000000 in
theorem comes_1 {Post : Tables → Env → Array Value → State → Outcome → State → Prop} (hpost : ∀ tb e args s v u, (limb_1_1.after args s (.returned v) u = true ∧ limb_1_2.after args s (.returned v) u = true ∧ True) → FrameEnd s (.returned v) u (Jvm.fieldLocs frame_1_writes args s ++ Jvm.arrayLocs frame_1_arrays args s ++ Jvm.staticLocs frame_1_statics s) 0 0 → Post tb e args s (.returned v) u) :
    ArmFor flags0 classFile x code maxLocals ret World_1 tables_1 room_1 Calls_1 rest_1 Pre_1 Post := by
  intro l hfl _ _ p e ha hc hk s m args below hf hA hF happ hP
  obtain ⟨hcalls, hrest, hpre⟩ := hP
  obtain ⟨-, -, -, hnamed, -, -, -, hat⟩ := (Spec.applies_iff hf).mp happ
  obtain ⟨hg, hn⟩ := and_e (Cond.before_iff.mp (show (Jvm.Cond.and given_1 narrow_1).before args s = true from hpre))
  obtain ⟨hcnt, hg0⟩ := and_e hg
  have ha0 := hg0
  obtain ⟨w0, rfl⟩ : ∃ w0 : Value, args = #[w0] := by
    have hs : args.size = 1 := by simpa [Cond.value, given_1] using hcnt
    obtain ⟨L⟩ := args
    match L, hs with
    | [w0], _ => exact ⟨w0, rfl⟩
  have hw := fun d (hd : d ∈ tables_1) => atoms_spec (ws := Jvm.Cond.code x code maxLocals ret :: tables_1) hat d (List.mem_cons_of_mem _ hd)
  have hfit : Fit s := fun {y c} hc i hi => by
    obtain ⟨ha, rfl⟩ := Array.getElem?_eq_some_iff.mp hc
    have q := List.all_eq_true.mp ((Array.all_eq_true_iff_forall_mem.mp hF) _ (Array.getElem_mem ha)) i (List.mem_range.mpr hi)
    simpa [Array.getElem?_eq_getElem hi] using q
  obtain ⟨p0, ea0⟩ := is_v ha0
  obtain rfl : w0 = (.int p0) := Option.some.inj ea0
  obtain ⟨na1, nb1⟩ := and_e hn
  obtain ⟨na2, nb2⟩ := and_e nb1
  obtain ⟨na3, nb3⟩ := and_e nb2
  obtain ⟨na4, nb4⟩ := and_e nb3
  obtain ⟨na5, nb5⟩ := and_e nb4
  obtain ⟨o_DENIED, ev_DENIED⟩ := exa_v na1
  have S_DENIED := Sta.start ev_DENIED (Or.inr ⟨(hw _ (List.mem_of_getElem? (i := 2) rfl)), (hw _ (List.mem_of_getElem? (i := 5) rfl))⟩)
  have E_o_DENIED := Exa.start ev_DENIED na1
  obtain ⟨o_ALLOWED, ev_ALLOWED⟩ := exa_v na4
  have S_ALLOWED := Sta.start ev_ALLOWED (Or.inr ⟨(hw _ (List.mem_of_getElem? (i := 2) rfl)), (hw _ (List.mem_of_getElem? (i := 21) rfl))⟩)
  have E_o_ALLOWED := Exa.start ev_ALLOWED na4
  have F_allowed_o_DENIED := Fld.start ((fld_at ev_DENIED).symm.trans (own_eq_int na2))
  have F_error_o_DENIED := Fld.start ((fld_at ev_DENIED).symm.trans (null_v na3))
  have F_allowed_o_ALLOWED := Fld.start ((fld_at ev_ALLOWED).symm.trans (own_eq_int na5))
  have F_error_o_ALLOWED := Fld.start ((fld_at ev_ALLOWED).symm.trans (null_v nb5))
  obtain ⟨n, o, h1, h2, h3, _, L, rfl, ⟨rfl, N⟩, hq⟩ := rm0 l s _ hw tables_1 p0 o_DENIED o_ALLOWED s.heap s.heap.size (Nat.le_refl _) S_DENIED S_ALLOWED E_o_DENIED F_allowed_o_DENIED F_error_o_DENIED E_o_ALLOWED F_allowed_o_ALLOWED F_error_o_ALLOWED p e ha hc hk s m _ below hf ((Spec.applies_iff_loose hf).mp happ).1 ⟨rfl, State.Warmed39.refl s, rfl⟩ trivial
  refine ⟨n, _, h1, h2, h3, hpost _ _ _ _ _ _ ⟨Cond.after_iff.mpr rfl, Cond.after_iff.mpr (eq_i res_at (Term.int_eval (1)) rfl), trivial⟩ ⟨hq.1, hq.2.1, (hq.2.2.sift fun y hy => Or.inr (N y hy)).mono (by decide) (by decide)⟩⟩
theorem main_1_1 : Claimed_1_1 := comes_1 fun _ _ _ _ _ _ h hF => ⟨h.1, hF⟩
theorem main_1_2 : Claimed_1_2 := comes_1 fun _ _ _ _ _ _ h hF => ⟨h.2.1, hF⟩
end Jvm.Pilot.@@N@@
namespace Jvm.Pilot.@@N@@
open Jvm Jvm.ClassFile Sem Op Lib Jvm.Free Jvm.Stand Jvm.Pilot.@@N@@.Jvm.D
/-! MADE BY PROGRAM (witnessworld.py) out of the Statement's table words and the real class files: 9 classes; the members and pool entries that the words name. The judged class is class 1, her method 1. -/
namespace start1
open Jvm.ClassFile
def u (s : String) : CpInfo := .utf8 (stringToUtf16 s)
/-- a pool by its gaps: so many unusable entries, then the entry; so many at the end -/
def gap : Nat → List CpInfo → List CpInfo
  | 0, r => r
  | n + 1, r => .unusable :: gap n r
def poolList (es : List (Nat × CpInfo)) (last : Nat) : List CpInfo := es.foldr (fun e r => gap e.1 (e.2 :: r)) (gap last [])
def pool (es : List (Nat × CpInfo)) (last : Nat) : Array CpInfo := ⟨poolList es last⟩
def fileOf (pool : Array CpInfo) (this : Nat) (attrs : Array Attribute := #[]) (ms : Array MethodInfo := #[]) (fl : Nat := 33) (sup : Nat := 0) (ifs : Array Nat := #[]) (fds : Array FieldInfo := #[]) : ClassFile where
  minorVersion := 0
  majorVersion := 65
  constantPool := pool
  accessFlags := fl
  thisClass := this
  superClass := sup
  interfaces := ifs
  fields := fds
  methods := ms
  attributes := attrs
def plain (name : String) (sup : Option ClassId) : Class where
  name := name
  kind := .ordinary
  loader := none
  accessFlags := 33
  super := sup
  interfaces := #[]
  cf := none
  fields := #[]
  methods := #[]
  instanceTypes := #[]
  staticTypes := #[]
  resolved := #[]
  callSites := []
  init := .initialized
  statics := none
  mirror := none

def pool0 : Array CpInfo := pool [(5, u "<init>"), (0, u "()V"), (1, .class_ 10), (1, u "java/lang/Object")] 113

def k0m0 : Method := { name := "<init>", desc := "()V", sig := { parameters := [], returnType := none }, accessFlags := 1, code := none }
/-- java/lang/Object -/
def k0 : Class := { plain "java/lang/Object" none with
  accessFlags := 33
  interfaces := #[]
  cf := some (fileOf pool0 8 #[] #[{ accessFlags := 1, nameIndex := 5, descriptorIndex := 6, attributes := #[] }] 33 0 #[] #[])
  fields := #[]
  methods := #[k0m0]
  instanceTypes := #[]
  staticTypes := #[]
  resolved := Array.replicate 124 none
  statics := none }

def pool1 : Array CpInfo := pool [(2, .class_ 4), (1, u "java/lang/Object"), (0, u "<init>"), (0, u "()V"), (0, .methodref 8 9), (0, .class_ 10), (0, .nameAndType 11 12), (0, u "com/example/uperm/uperm/Decision"), (0, u "of"), (0, u "(Z)Lcom/example/uperm/uperm/Decision;"), (0, .methodref 8 14), (0, .nameAndType 15 16), (0, u "allowed"), (0, u "()Z"), (0, .methodref 8 18), (0, .nameAndType 19 20), (0, u "error"), (0, u "()Ljava/lang/String;"), (0, .class_ 22), (0, u "com/example/uperm/uperm/DecisionOfPinLaw"), (2, u "law"), (0, u "(I)Z")] 3

def k1m0 : Method := { name := "<init>", desc := "()V", sig := { parameters := [], returnType := none }, accessFlags := 1, code := none }
def k1c1 : Code := { maxStack := 2, maxLocals := 3, code := code, exceptionTable := #[], attributes := #[] }
def k1m1 : Method := { name := "law", desc := "(I)Z", sig := { parameters := [.int], returnType := some .boolean }, accessFlags := 9, code := some k1c1 }
/-- com/example/uperm/uperm/DecisionOfPinLaw -/
def k1 : Class := { plain "com/example/uperm/uperm/DecisionOfPinLaw" (some 0) with
  accessFlags := 49
  interfaces := #[]
  cf := some (fileOf pool1 21 #[] #[{ accessFlags := 1, nameIndex := 5, descriptorIndex := 6, attributes := #[] }, { accessFlags := 9, nameIndex := 25, descriptorIndex := 26, attributes := #[] }] 49 2 #[] #[])
  fields := #[]
  methods := #[k1m0, k1m1]
  instanceTypes := #[]
  staticTypes := #[]
  resolved := Array.replicate 30 none
  statics := none }

def pool2 : Array CpInfo := pool [(2, .class_ 4), (1, u "java/lang/Object"), (2, .fieldref 8 9), (0, .class_ 10), (0, .nameAndType 11 12), (0, u "com/example/uperm/uperm/Decision"), (0, u "allowed"), (0, u "Z"), (0, .fieldref 8 14), (0, .nameAndType 15 16), (0, u "error"), (0, u "Ljava/lang/String;"), (0, .fieldref 8 18), (0, .nameAndType 19 20), (0, u "ALLOWED"), (0, u "Lcom/example/uperm/uperm/Decision;"), (0, .fieldref 8 22), (0, .nameAndType 23 20), (0, u "DENIED"), (35, u "of"), (0, u "(Z)Lcom/example/uperm/uperm/Decision;"), (3, u "()Z"), (0, u "()Ljava/lang/String;")] 22

def k2c0 : Code := { maxStack := 1, maxLocals := 1, code := prog_3_method_2_code, exceptionTable := #[], attributes := #[] }
def k2m0 : Method := { name := "of", desc := "(Z)Lcom/example/uperm/uperm/Decision;", sig := { parameters := [.boolean], returnType := some (.object "com/example/uperm/uperm/Decision") }, accessFlags := 8, code := some k2c0 }
def k2c1 : Code := { maxStack := 1, maxLocals := 1, code := prog_3_method_4_code, exceptionTable := #[], attributes := #[] }
def k2m1 : Method := { name := "allowed", desc := "()Z", sig := { parameters := [], returnType := some .boolean }, accessFlags := 1, code := some k2c1 }
def k2c2 : Code := { maxStack := 1, maxLocals := 1, code := prog_3_method_5_code, exceptionTable := #[], attributes := #[] }
def k2m2 : Method := { name := "error", desc := "()Ljava/lang/String;", sig := { parameters := [], returnType := some (.object "java/lang/String") }, accessFlags := 1, code := some k2c2 }
/-- com/example/uperm/uperm/Decision -/
def k2 : Class := { plain "com/example/uperm/uperm/Decision" (some 0) with
  accessFlags := 49
  interfaces := #[]
  cf := some (fileOf pool2 8 #[] #[{ accessFlags := 8, nameIndex := 59, descriptorIndex := 60, attributes := #[] }, { accessFlags := 1, nameIndex := 11, descriptorIndex := 64, attributes := #[] }, { accessFlags := 1, nameIndex := 15, descriptorIndex := 65, attributes := #[] }] 49 2 #[] #[{ accessFlags := 26, nameIndex := 19, descriptorIndex := 20, attributes := #[] }, { accessFlags := 26, nameIndex := 23, descriptorIndex := 20, attributes := #[] }, { accessFlags := 18, nameIndex := 11, descriptorIndex := 12, attributes := #[] }, { accessFlags := 18, nameIndex := 15, descriptorIndex := 16, attributes := #[] }])
  fields := #[{ name := "ALLOWED", type := (.object "com/example/uperm/uperm/Decision"), accessFlags := 26, slot := 0, constantValue := 0 }, { name := "DENIED", type := (.object "com/example/uperm/uperm/Decision"), accessFlags := 26, slot := 1, constantValue := 0 }, { name := "allowed", type := .boolean, accessFlags := 18, slot := 0, constantValue := 0 }, { name := "error", type := (.object "java/lang/String"), accessFlags := 18, slot := 1, constantValue := 0 }]
  methods := #[k2m0, k2m1, k2m2]
  instanceTypes := #[.boolean, (.object "java/lang/String")]
  staticTypes := #[(.object "com/example/uperm/uperm/Decision"), (.object "com/example/uperm/uperm/Decision")]
  resolved := Array.replicate 88 none
  statics := some 0 }

def pool3 : Array CpInfo := pool [(1, u "java/lang/Cloneable"), (0, .class_ 1), (0, u "java/lang/Object"), (0, .class_ 3)] 3

/-- java/lang/Cloneable -/
def k3 : Class := { plain "java/lang/Cloneable" (some 0) with
  accessFlags := 1537
  interfaces := #[]
  cf := some (fileOf pool3 2 #[] #[] 1537 4 #[] #[])
  fields := #[]
  methods := #[]
  instanceTypes := #[]
  staticTypes := #[]
  resolved := Array.replicate 8 none
  statics := none }

def pool4 : Array CpInfo := pool [(1, u "java/io/Serializable"), (0, .class_ 1), (0, u "java/lang/Object"), (0, .class_ 3)] 3

/-- java/io/Serializable -/
def k4 : Class := { plain "java/io/Serializable" (some 0) with
  accessFlags := 1537
  interfaces := #[]
  cf := some (fileOf pool4 2 #[] #[] 1537 4 #[] #[])
  fields := #[]
  methods := #[]
  instanceTypes := #[]
  staticTypes := #[]
  resolved := Array.replicate 8 none
  statics := none }

/-- the primitive byte -/
def k5 : Class := { plain "byte" none with kind := .primitive 'B', accessFlags := 0x411 }
/-- [B -/
def k6 : Class := { plain "[B" (some 0) with kind := .array 5 .byte, interfaces := #[3, 4], accessFlags := 1041 }

/-- the primitive int -/
def k7 : Class := { plain "int" none with kind := .primitive 'I', accessFlags := 0x411 }
/-- [I -/
def k8 : Class := { plain "[I" (some 0) with kind := .array 7 .int, interfaces := #[3, 4], accessFlags := 1041 }

def heap : Heap := #[{ cls := 2, slots := #[.ref 1, .ref 2], vm := .statics 2 },
  { cls := 2, slots := #[.int 1, .null], vm := .none },
  { cls := 2, slots := #[.int 0, .null], vm := .none }]
def classes : Array Class := #[k0, k1, k2, k3, k4, k5, k6, k7, k8]
def interned : List (Array UInt16 × Addr) := []
def slotsUsed : Nat := 6
def theMethod : MethodId := ⟨1, 1⟩
def args0 : Array Value := #[.int 1]
def aboutOver (below : List Frame) : State where
  vm := { classes := classes, interned := interned.toArray }
  heap := heap
  slotsUsed := slotsUsed
  threads := #[{ frames := .invoking theMethod args0 :: below }]
def below0 : List Frame := [.native { method := ⟨0, 0⟩, args := #[] }]
def about1 : State := aboutOver below0
def p0 : Program := .bare "" "" ""
def e0 : Env := launch0.env 0 0 0
theorem w_frames : about1.frames = Frame.invoking theMethod args0 :: below0 := rfl
set_option maxRecDepth 65536 in
theorem w_args : argsFit about1.vm theMethod args0 = true := by decide +kernel
set_option maxRecDepth 65536 in
theorem w_heap : heapFits about1 = true := by decide +kernel
set_option maxRecDepth 65536 in
theorem w_runnable : about1.curStatus? = some .runnable := by decide +kernel
set_option maxRecDepth 65536 in
theorem w_alone : about1.alone = true := by decide +kernel
set_option maxRecDepth 65536 in
theorem w_named : about1.methodNamed? x = some theMethod := by decide +kernel
set_option maxRecDepth 65536 in
theorem w_hears : about1.hears theMethod below0 = true := by decide +kernel
set_option maxRecDepth 65536 in
theorem w_ripe : about1.ripe theMethod args0 below0 = true := by decide +kernel
theorem w_running : about1.status = .running := rfl
set_option maxRecDepth 65536 in
theorem w_room : about1.hasRoom e0.platform room_1 = true :=
  launch0.hasRoom_least _ room_1 (by decide +kernel) (by decide +kernel) (by decide +kernel) (by decide +kernel) (by decide +kernel) (by decide +kernel)
theorem allAtoms_all (ts : List Jvm.Cond) (a : Array Jvm.Value) (st : Jvm.State) : (allAtoms ts).before a st = ts.all (fun c => c.before a st) := by
  induction ts with
  | nil => rfl
  | cons c t ih =>
    show (Jvm.Cond.and c (allAtoms t)).before a st = _
    rw [Jvm.Cond.before_and, ih, List.all_cons]
def words1 : List Jvm.Cond := Jvm.Cond.code x code maxLocals ret :: tables_1
/-- a 'code' word, met by the world's own term for the bytes: nothing is compared byte by byte -/
theorem code_word {y : MethodName} {bytes : ByteArray} {mx : Nat} {rt : Option FieldType} {a : Array Value} {s : State} {m : MethodId} {meth : Method} {c : Code} (h1 : s.methodNamed? y = some m) (h2 : s.vm.method? m = some meth) (h3 : meth.code = some c) (h4 : c.code = bytes)
    (h5 : (c.maxLocals == mx && c.exceptionTable.isEmpty && decide (c.maxStack ≤ mostOperands) && decide (meth.sig.returnType = rt) && !meth.locks && decide (parseMethodDescriptor y.desc = some meth.sig)) = true) : (Jvm.Cond.code y bytes mx rt).before a s = true := by
  simp only [Bool.and_eq_true, beq_iff_eq, Bool.not_eq_true', decide_eq_true_eq] at h5
  obtain ⟨⟨⟨⟨⟨g1, g2⟩, g3⟩, g4⟩, g5⟩, g6⟩ := h5
  simp [Cond.before, Cond.holds, Cond.value, h1, h2, h3, h4, g1, g2, g3, g4, g5, g6]
def isCode : Jvm.Cond → Bool
  | .code _ _ _ _ => true
  | _ => false
theorem all_split {L : List Jvm.Cond} {P : Jvm.Cond → Bool} (h1 : L.all (fun c => isCode c || P c) = true) (h2 : ∀ c ∈ L.filter isCode, P c = true) : L.all P = true := by
  refine List.all_eq_true.mpr fun c hc => ?_
  have h := List.all_eq_true.mp h1 c hc
  rcases Bool.eq_false_or_eq_true (isCode c) with hi | hi
  · exact h2 c (List.mem_filter.mpr ⟨hc, hi⟩)
  · simpa [hi] using h
set_option maxRecDepth 65536 in
theorem w_c0 : (Jvm.Cond.code x code maxLocals ret).before args0 about1 = true := code_word (m := ⟨1, 1⟩) (meth := k1m1) (c := k1c1) (by decide +kernel) rfl rfl rfl (by decide +kernel)
set_option maxRecDepth 65536 in
theorem w_c1 : (Jvm.Cond.code ({ cls := "com/example/uperm/uperm/Decision", name := "of", desc := "(Z)Lcom/example/uperm/uperm/Decision;" } : Jvm.MethodName) prog_3_method_2_code (1 : Nat) (Option.some (Jvm.ClassFile.FieldType.object "com/example/uperm/uperm/Decision"))).before args0 about1 = true := code_word (m := ⟨2, 0⟩) (meth := k2m0) (c := k2c0) (by decide +kernel) rfl rfl rfl (by decide +kernel)
set_option maxRecDepth 65536 in
theorem w_c2 : (Jvm.Cond.code ({ cls := "com/example/uperm/uperm/Decision", name := "allowed", desc := "()Z" } : Jvm.MethodName) prog_3_method_4_code (1 : Nat) (Option.some Jvm.ClassFile.FieldType.boolean)).before args0 about1 = true := code_word (m := ⟨2, 1⟩) (meth := k2m1) (c := k2c1) (by decide +kernel) rfl rfl rfl (by decide +kernel)
set_option maxRecDepth 65536 in
theorem w_c3 : (Jvm.Cond.code ({ cls := "com/example/uperm/uperm/Decision", name := "error", desc := "()Ljava/lang/String;" } : Jvm.MethodName) prog_3_method_5_code (1 : Nat) (Option.some (Jvm.ClassFile.FieldType.object "java/lang/String"))).before args0 about1 = true := code_word (m := ⟨2, 2⟩) (meth := k2m2) (c := k2c2) (by decide +kernel) rfl rfl rfl (by decide +kernel)
def codes1 : List Jvm.Cond := [Jvm.Cond.code x code maxLocals ret, Jvm.Cond.code ({ cls := "com/example/uperm/uperm/Decision", name := "of", desc := "(Z)Lcom/example/uperm/uperm/Decision;" } : Jvm.MethodName) prog_3_method_2_code (1 : Nat) (Option.some (Jvm.ClassFile.FieldType.object "com/example/uperm/uperm/Decision")), Jvm.Cond.code ({ cls := "com/example/uperm/uperm/Decision", name := "allowed", desc := "()Z" } : Jvm.MethodName) prog_3_method_4_code (1 : Nat) (Option.some Jvm.ClassFile.FieldType.boolean), Jvm.Cond.code ({ cls := "com/example/uperm/uperm/Decision", name := "error", desc := "()Ljava/lang/String;" } : Jvm.MethodName) prog_3_method_5_code (1 : Nat) (Option.some (Jvm.ClassFile.FieldType.object "java/lang/String"))]
set_option maxRecDepth 65536 in
theorem codes_eq : words1.filter isCode = codes1 := rfl
theorem w_codes : ∀ c ∈ words1.filter isCode, c.before args0 about1 = true := by
  rw [codes_eq]
  intro c hc
  simp only [codes1, List.mem_cons, List.not_mem_nil, or_false] at hc
  rcases hc with rfl | rfl | rfl | rfl
  · exact w_c0
  · exact w_c1
  · exact w_c2
  · exact w_c3
set_option maxRecDepth 65536 in
theorem w_t1 : words1.all (fun c => isCode c || c.before args0 about1) = true := by decide +kernel
theorem w_tables : (allAtoms (Jvm.Cond.code x code maxLocals ret :: tables_1)).before args0 about1 = true := by
  rw [allAtoms_all]
  show words1.all (fun c => c.before args0 about1) = true
  refine all_split ?_ w_codes
  rw [w_t1]
set_option maxRecDepth 65536 in
theorem w_case : (Jvm.Cond.and given_1 narrow_1).before args0 about1 = true := by decide +kernel
theorem w_applies : (headSpec (Jvm.Cond.code x code maxLocals ret :: tables_1) room_1).applies x e0.platform about1 = true :=
  (Spec.applies_iff w_frames).mpr ⟨w_running, w_runnable, w_alone, w_named, w_hears, w_ripe, w_room, w_tables⟩
theorem atStart : AtStart classFile x code maxLocals ret World_1 tables_1 room_1 Calls_1 rest_1 Pre_1 launch0 p0 e0 about1 theMethod args0 below0 :=
  ⟨lists_1, trivial, launch0.admits_env _ _ _, launch0.least_env, fairChoices_fair.cas, fairChoices_fair.clock, w_frames, w_args, w_heap, w_applies, trivial, trivial, w_case⟩
end start1
theorem witness_1 : WitnessClaimed_1 := ⟨start1.p0, start1.e0, start1.about1, start1.theMethod, start1.args0, start1.below0, start1.atStart⟩
end Jvm.Pilot.@@N@@
