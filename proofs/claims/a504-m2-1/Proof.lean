import JvmDerived
import JvmDerived.Pilot.@@N@@Statement
import JvmDerived.Pilot.@@N@@Code
set_option linter.unusedVariables false
set_option linter.unusedSimpArgs false
namespace Jvm.RoadKit
open Sem ClassFile Op Lib Jvm.Stand Jvm.Free Jvm.LawKit
section New
variable {p : Program} {l : Launch} {e : Env} {R : Room} {s : State} {m : MethodId} {args : Array Value} {below : List Frame} {meth : Method} {c : Code} {T : State} {locs : List Loc} {cells slots : Nat}
theorem retI (X : Stand p l e R s m args below meth c T locs cells slots) (hx : p.tables.exec = Jvm.exec) {pc : Nat} {Ls : Array Slot} {z : Int32} {rest : List Value} (hret : meth.sig.returnType = some .int) (hd : decode c.code pc = .ok (.ireturn, 1)) {fs : List Frame}
    (hl : ∀ (f : JFrame) (acts : List Action), f.method = m → f.locked = none → f.entered = [] → (doReturn e (T.setTop f) acts (some (.int z))).1 = T.setFrames fs) : Steps p.tables e below (T.setTop (mkF m pc Ls (.int z :: rest))) (T.setFrames fs) := by
  have hm' : T.vm.method? m = some meth := X.method'
  have hn : narrow .int (.int z) = .int z := rfl
  show Steps p.tables e below (T.setTop { method := m, pc := pc, locals := Ls, stack := _ :: rest, locked := none }) _
  jvm_step X.here [X.here.top, hx, hd, hm', hret, hn]
  first | (intro acts; rw [hl _ acts rfl rfl rfl]) | rw [hl _ _ rfl rfl rfl]
  exact Steps.refl _
theorem own_lremM {g : JFrame} {target : State} (X : Stand p l e R s m args below meth c T locs cells slots) (hx : p.tables.exec = Jvm.exec) (hg : g.method = m) {x y : Int64} {rest : List Value} (hd : decode c.code g.pc = .ok (.lrem, 1)) (hs : g.stack = .long y :: .long x :: rest) (hy : y ≠ 0)
    (hr : Steps p.tables e below (T.setTop { g with pc := g.pc + 1, stack := .long (x % y) :: rest }) target) : Steps p.tables e below (T.setTop g) target := by
  have q : x - x / y * y = x % y := lrem_mod x y
  exact XS.lrem X.here hx hg hd hs hy (by rw [q]; exact hr)
theorem own_getD_int (L : List Int32) (n : Nat) (d : Int32) : (L.map Value.int).getD n (.int d) = .int (L.getD n d) := by simp [List.getD_eq_getElem?_getD, List.getElem?_map]
theorem own_getD_long (L : List Int64) (n : Nat) (d : Int64) : (L.map Value.long).getD n (.long d) = .long (L.getD n d) := by simp [List.getD_eq_getElem?_getD, List.getElem?_map]
theorem own_lt_nat {j z : Int32} (h : ¬ j < 0) (q : j < z) : j.toNatClampNeg < z.toNatClampNeg := by
  rw [Int32.lt_iff_toInt_lt] at h q; have : (0 : Int32).toInt = 0 := rfl
  simp only [Int32.toNatClampNeg]; omega
theorem own_eq_int {t : Term} {v : Int32} {args : Array Value} {s : State} (h : (Cond.eq t (.int v)).value args s none s [] = some true) : t.eval args s none [] s = some (.int v) := by
  simp only [Cond.value, Term.eval] at h
  cases ht : t.eval args s none [] s with
  | none => simp [ht] at h
  | some x => cases x <;> simp [ht] at h ⊢; exact h
theorem own_eq_long {t : Term} {v : Int64} {args : Array Value} {s : State} (h : (Cond.eq t (.long v)).value args s none s [] = some true) : t.eval args s none [] s = some (.long v) := by
  simp only [Cond.value, Term.eval] at h
  cases ht : t.eval args s none [] s with
  | none => simp [ht] at h
  | some x => cases x <;> simp [ht] at h ⊢; exact h
theorem own_selpriv {s : State} {args : Array Value} {y : MethodName} {n : Nat} (wi : (Cond.instantiable y.cls n).before args s = true) (hpriv : s.PrivateAt y) (hinst : (Cond.instanceMethod y).before args s = true) (hy : y.cls ≠ "java/lang/invoke/MethodHandle" ∧ y.cls ≠ "java/lang/invoke/VarHandle") : (Cond.selects y.cls y y).before args s = true := by
  obtain ⟨c, k, h1, h2, -, h4, -⟩ := Cond.instantiable_spec wi
  exact Jvm.Stand.selects_self_of_private h1 h2 (Bool.or_eq_false_iff.mp h4).1 hpriv hinst hy
theorem own_narb (P : Prop) [Decidable P] : nar .boolean (if P then (1 : Int32) else (0 : Int32)) = if P then (1 : Int32) else (0 : Int32) := by by_cases h : P <;> simp only [h, if_true, if_false] <;> rfl
end New
end Jvm.RoadKit
namespace Jvm.Pilot.@@N@@
open Jvm Jvm.ClassFile Sem Op Lib Jvm.Free Jvm.Stand Jvm.LawKit Jvm.RoadKit Bundle Jvm.Pilot.@@N@@.Jvm.D
theorem d1_0 : decode prog_16_method_5_code 0 = .ok (.iload_n 1, 1) := by decide +kernel
theorem d1_1 : decode prog_16_method_5_code 1 = .ok (.ifCond .eq 10, 3) := by decide +kernel
theorem d1_4 : decode prog_16_method_5_code 4 = .ok (.aload_n 0, 1) := by decide +kernel
theorem d1_5 : decode prog_16_method_5_code 5 = .ok (.getfield 32, 3) := by decide +kernel
theorem d1_8 : decode prog_16_method_5_code 8 = .ok (.goto 7, 3) := by decide +kernel
theorem d1_11 : decode prog_16_method_5_code 11 = .ok (.aload_n 0, 1) := by decide +kernel
theorem d1_12 : decode prog_16_method_5_code 12 = .ok (.getfield 36, 3) := by decide +kernel
theorem d1_15 : decode prog_16_method_5_code 15 = .ok (.ireturn, 1) := by decide +kernel
theorem pn_9 : plainName "com/example/uperm/uperm/Scope" = true := by first | (simp [plainName, overriddenIn]; done) | decide +kernel
def v1_ret (p1 : Int32) (w_reachesBelow_ra0 : Int32) (w_reachesPath_ra0 : Int32) : Int32 := (if p1 = (0 : Int32) then (nar .boolean w_reachesBelow_ra0) else (nar .boolean w_reachesPath_ra0))
theorem ef_rm1 (m : MethodId) (ra0 : Addr) (p1 : Int32) : entryFrame m #[(.ref ra0), (.int p1)] 2 = mkF m 0 #[.val (.ref ra0), .val (.int p1)] [] := by first | (simp [entryFrame, mkF, argsToLocals, Value.category]; done) | rfl
def Q1 (Z : State) (ra0 : Addr) (p1 : Int32) (w_reachesBelow_ra0 : Int32) (w_reachesPath_ra0 : Int32) (h0 : Heap) (n0 : Nat) (v : Option Value) (h : Heap) (L : List Loc) : Prop := v = some (.int (v1_ret p1 w_reachesBelow_ra0 w_reachesPath_ra0)) ∧ Fr n0 L ∧ h = h0
set_option maxRecDepth 65536 in
set_option maxHeartbeats 40000000 in
theorem rm1 (l : Launch) (Z : State) (a0 : Array Value) (hw : ∀ d ∈ tables_1, d.before a0 Z = true) (ws : List Jvm.Cond) (ra0 : Addr) (p1 : Int32) (w_reachesBelow_ra0 : Int32) (w_reachesPath_ra0 : Int32) (h0 : Heap) (n0 : Nat) (Z0 : n0 ≤ h0.size) (F_reachesBelow_ra0 : Fld Z h0 ra0 "com/example/uperm/uperm/Scope" "reachesBelow" "Z" (.int w_reachesBelow_ra0)) (F_reachesPath_ra0 : Fld Z h0 ra0 "com/example/uperm/uperm/Scope" "reachesPath" "Z" (.int w_reachesPath_ra0)) :
    MetFree l (⟨"com/example/uperm/uperm/Scope", "reaches", "(Z)Z"⟩ : MethodName) (head1 (Jvm.Cond.code (⟨"com/example/uperm/uperm/Scope", "reaches", "(Z)Z"⟩ : MethodName) prog_16_method_5_code 2 (some .boolean) :: ws) ({ frames := 0, cells := 0, slots := 0, locals := 0 } : Room)) (fun a U => a = #[(.ref ra0), (.int p1)] ∧ Z.Warmed39 U.vm ∧ U.heap = h0) (fun _ _ _ _ _ => True) (fun _ U o U' => ∃ v L, o = .returned v ∧ Q1 Z ra0 p1 w_reachesBelow_ra0 w_reachesPath_ra0 h0 n0 v U'.heap L ∧ FrameEnd U o U' L ({ frames := 0, cells := 0, slots := 0, locals := 0 } : Room).cells ({ frames := 0, cells := 0, slots := 0, locals := 0 } : Room).slots) := by
  refine MetFree.of_bodySF (plainFor_of_name pn_9) hisR ?_
  intro p e s m args below meth c s₁ Bd hml0 hP hK
  obtain ⟨rfl, hZ, hh⟩ := hP
  have hx := Bd.exec
  have hby := Bd.bytes
  have hml : c.maxLocals = 2 := hml0
  have hown : s.vm.findClass "com/example/uperm/uperm/Scope" = some m.cls := findClass_of_methodNamed Bd.named
  have hnm := (name_of_methodNamed Bd.named Bd.method).1
  have X0 : Stand p l e ({ frames := 0, cells := 0, slots := 0, locals := 0 } : Room) s m #[(.ref ra0), (.int p1)] below meth c s₁ [] 0 0 := Stand.of_body Bd
  have e0 : s₁.heap = h0 := by rw [← hh, Bd.state]; rfl
  have N0 := Fr.nil n0
  have KC0 := Keep.refl h0 ([] : List Addr)
  have pre0 : ∀ t, Steps p.tables e below (s₁.setTop (mkF m 0 #[.val (.ref ra0), .val (.int p1)] [])) t → Steps p.tables e below (s₁.setTop (entryFrame m #[(.ref ra0), (.int p1)] 2)) t := fun t k => castTop (ef_rm1 m ra0 p1) k
  have k1 := fun (t : State) (kk : Steps p.tables e below (s₁.setTop (mkF m 1 #[.val (.ref ra0), .val (.int p1)] [(.int p1)])) t) => pre0 t (by
    show Steps p.tables e below (s₁.setTop (mkF m 0 #[.val (.ref ra0), .val (.int p1)] [])) _
    refine XS.iloadN X0.here hx rfl (hb hby d1_0) rfl ?_
    exact kk)
  by_cases hc1_2 : p1 = (0 : Int32)
  · have k3 := fun (t : State) (kk : Steps p.tables e below (s₁.setTop (mkF m 12 #[.val (.ref ra0), .val (.int p1)] [(.ref ra0)])) t) => k1 t (by
      show Steps p.tables e below (s₁.setTop (mkF m 1 #[.val (.ref ra0), .val (.int p1)] [(.int p1)])) _
      refine XS.ifYes X0.here hx rfl (pc0 := 1) (pc' := 11) rfl (hb hby d1_1) rfl ((if0 _ _).trans (teq hc1_2).1) (by decide) (by decide) ?_
      show Steps p.tables e below (s₁.setTop (mkF m 11 #[.val (.ref ra0), .val (.int p1)] [])) _
      refine XS.aloadN X0.here hx rfl (hb hby d1_11) rfl rfl ?_
      exact kk)
    obtain ⟨T4, X4, e4, st4⟩ := getF X0 hx hZ hown (host := "") (Or.inl (hw _ (List.mem_of_getElem? (i := 13) rfl))) Via.refl e0 F_reachesBelow_ra0 (g := (mkF m 12 #[.val (.ref ra0), .val (.int p1)] [(.ref ra0)])) rfl rfl (hb hby d1_12)
    have k5 := fun (t : State) (kk : Steps p.tables e below (T4.setTop (mkF m 15 #[.val (.ref ra0), .val (.int p1)] [(.int w_reachesBelow_ra0)])) t) => k3 t (st4 _ kk)
    obtain ⟨fs, hr, hrun, hended, hW, hsame⟩ := X4.leave (v := some (.int (nar .boolean w_reachesBelow_ra0))) (fun h => by rw [Bd.returns] at h; cases h)
    have hv : (v1_ret p1 w_reachesBelow_ra0 w_reachesPath_ra0) = (nar .boolean w_reachesBelow_ra0) := (if_pos hc1_2)
    refine ⟨_, _, k5 _ ?_, hrun, hended, _, _, rfl, ?_, ⟨_, rfl⟩, hW, hsame.mono (by decide) (by decide)⟩
    · show Steps p.tables e below (T4.setTop (mkF m 15 #[.val (.ref ra0), .val (.int p1)] [(.int w_reachesBelow_ra0)])) _
      exact retN X4 hx (t := .boolean) Bd.returns (by simp) (hb hby d1_15) hr
    · show Q1 Z ra0 p1 w_reachesBelow_ra0 w_reachesPath_ra0 h0 n0 _ T4.heap _
      rw [e4]
      exact ⟨(congrArg (fun z => some (Value.int z)) hv).symm, N0, rfl⟩
  · have k6 := fun (t : State) (kk : Steps p.tables e below (s₁.setTop (mkF m 5 #[.val (.ref ra0), .val (.int p1)] [(.ref ra0)])) t) => k1 t (by
      show Steps p.tables e below (s₁.setTop (mkF m 1 #[.val (.ref ra0), .val (.int p1)] [(.int p1)])) _
      refine XS.ifNo X0.here hx rfl (hb hby d1_1) rfl ((if0 _ _).trans (feq hc1_2).1) ?_
      show Steps p.tables e below (s₁.setTop (mkF m 4 #[.val (.ref ra0), .val (.int p1)] [])) _
      refine XS.aloadN X0.here hx rfl (hb hby d1_4) rfl rfl ?_
      exact kk)
    obtain ⟨T7, X7, e7, st7⟩ := getF X0 hx hZ hown (host := "") (Or.inl (hw _ (List.mem_of_getElem? (i := 9) rfl))) Via.refl e0 F_reachesPath_ra0 (g := (mkF m 5 #[.val (.ref ra0), .val (.int p1)] [(.ref ra0)])) rfl rfl (hb hby d1_5)
    have k8 := fun (t : State) (kk : Steps p.tables e below (T7.setTop (mkF m 8 #[.val (.ref ra0), .val (.int p1)] [(.int w_reachesPath_ra0)])) t) => k6 t (st7 _ kk)
    have k9 := fun (t : State) (kk : Steps p.tables e below (T7.setTop (mkF m 15 #[.val (.ref ra0), .val (.int p1)] [(.int w_reachesPath_ra0)])) t) => k8 t (by
      show Steps p.tables e below (T7.setTop (mkF m 8 #[.val (.ref ra0), .val (.int p1)] [(.int w_reachesPath_ra0)])) _
      refine XS.goto X7.here hx rfl (pc0 := 8) (pc' := 15) rfl (hb hby d1_8) (by decide) (by decide) ?_
      exact kk)
    obtain ⟨fs, hr, hrun, hended, hW, hsame⟩ := X7.leave (v := some (.int (nar .boolean w_reachesPath_ra0))) (fun h => by rw [Bd.returns] at h; cases h)
    have hv : (v1_ret p1 w_reachesBelow_ra0 w_reachesPath_ra0) = (nar .boolean w_reachesPath_ra0) := (if_neg hc1_2)
    refine ⟨_, _, k9 _ ?_, hrun, hended, _, _, rfl, ?_, ⟨_, rfl⟩, hW, hsame.mono (by decide) (by decide)⟩
    · show Steps p.tables e below (T7.setTop (mkF m 15 #[.val (.ref ra0), .val (.int p1)] [(.int w_reachesPath_ra0)])) _
      exact retN X7 hx (t := .boolean) Bd.returns (by simp) (hb hby d1_15) hr
    · show Q1 Z ra0 p1 w_reachesBelow_ra0 w_reachesPath_ra0 h0 n0 _ T7.heap _
      rw [e7]
      exact ⟨(congrArg (fun z => some (Value.int z)) hv).symm, N0, rfl⟩
theorem pd_0 : parseMethodDescriptor "(Z)Z" = some ⟨[.boolean], some .boolean⟩ := by decide +kernel
theorem pn_13 : plainName "com/example/uperm/uperm/ScopeReachesPinLaw" = true := by first | (simp [plainName, overriddenIn]; done) | decide +kernel
def v0_6_l2 (p0 : Int32) : Int32 := ((p0 &&& (2147483647 : Int32)) % (3 : Int32))
def v0_10_s0 (p1 : Int32) : Int32 := if (p1 &&& (1 : Int32)) = (0 : Int32) then (0 : Int32) else (1 : Int32)
def v0_74_s0 (p1 : Int32) : Int32 := if (v1_ret (v0_10_s0 p1) (0 : Int32) (1 : Int32)) = (v0_10_s0 p1) then (1 : Int32) else (0 : Int32)
def v0_45_s0 (p1 : Int32) : Int32 := if (v0_10_s0 p1) = (0 : Int32) then (1 : Int32) else (0 : Int32)
def v0_74_s0_1 (p1 : Int32) : Int32 := if (v1_ret (v0_10_s0 p1) (1 : Int32) (0 : Int32)) = (v0_45_s0 p1) then (1 : Int32) else (0 : Int32)
def v0_74_s0_2 (p1 : Int32) : Int32 := if (v1_ret (v0_10_s0 p1) (1 : Int32) (1 : Int32)) = (1 : Int32) then (1 : Int32) else (0 : Int32)
def v0_ret (p0 : Int32) (p1 : Int32) : Int32 := (if (v0_6_l2 p0) = (0 : Int32) then (nar .boolean (v0_74_s0 p1)) else (if (v0_6_l2 p0) = (1 : Int32) then (nar .boolean (v0_74_s0_1 p1)) else (nar .boolean (v0_74_s0_2 p1))))
theorem own_law (p0 p1 : Int32) : (v0_ret p0 p1) = 1 := by
  have hb : v0_10_s0 p1 = 0 ∨ v0_10_s0 p1 = 1 := by
    unfold v0_10_s0; split
    · exact Or.inl rfl
    · exact Or.inr rfl
  have c0 : v0_74_s0 p1 = 1 := by unfold v0_74_s0; rcases hb with h | h <;> rw [h] <;> rfl
  have c1 : v0_74_s0_1 p1 = 1 := by unfold v0_74_s0_1 v0_45_s0; rcases hb with h | h <;> rw [h] <;> rfl
  have c2 : v0_74_s0_2 p1 = 1 := by unfold v0_74_s0_2; rcases hb with h | h <;> rw [h] <;> rfl
  unfold v0_ret
  rw [c0, c1, c2]
  generalize v0_6_l2 p0 = K
  split
  · rfl
  split <;> rfl

theorem ef_rm0 (m : MethodId) (p0 : Int32) (p1 : Int32) : entryFrame m #[(.int p0), (.int p1)] maxLocals = mkF m 0 #[.val (.int p0), .val (.int p1), .unset, .unset, .unset, .unset] [] := by first | (simp [entryFrame, mkF, argsToLocals, Value.category, maxLocals]; done) | rfl
def Q0 (Z : State) (p0 : Int32) (p1 : Int32) (o_SELF : Addr) (o_CHILDREN : Addr) (o_BOTH : Addr) (h0 : Heap) (n0 : Nat) (v : Option Value) (h : Heap) (L : List Loc) : Prop := v = some (.int 1) ∧ Fr n0 L
set_option maxRecDepth 65536 in
set_option maxHeartbeats 40000000 in
theorem rm0 (l : Launch) (Z : State) (a0 : Array Value) (hw : ∀ d ∈ tables_1, d.before a0 Z = true) (ws : List Jvm.Cond) (p0 : Int32) (p1 : Int32) (o_SELF : Addr) (o_CHILDREN : Addr) (o_BOTH : Addr) (h0 : Heap) (n0 : Nat) (Z0 : n0 ≤ h0.size) (S_SELF : Sta Z h0 "com/example/uperm/uperm/Scope" "SELF" "Lcom/example/uperm/uperm/Scope;" (.ref o_SELF)) (F_reachesBelow_o_SELF : Fld Z h0 o_SELF "com/example/uperm/uperm/Scope" "reachesBelow" "Z" (.int (0 : Int32))) (F_reachesPath_o_SELF : Fld Z h0 o_SELF "com/example/uperm/uperm/Scope" "reachesPath" "Z" (.int (1 : Int32))) (E_o_SELF : Exa Z h0 o_SELF "com/example/uperm/uperm/Scope") (S_CHILDREN : Sta Z h0 "com/example/uperm/uperm/Scope" "CHILDREN" "Lcom/example/uperm/uperm/Scope;" (.ref o_CHILDREN)) (F_reachesBelow_o_CHILDREN : Fld Z h0 o_CHILDREN "com/example/uperm/uperm/Scope" "reachesBelow" "Z" (.int (1 : Int32))) (F_reachesPath_o_CHILDREN : Fld Z h0 o_CHILDREN "com/example/uperm/uperm/Scope" "reachesPath" "Z" (.int (0 : Int32))) (E_o_CHILDREN : Exa Z h0 o_CHILDREN "com/example/uperm/uperm/Scope") (S_BOTH : Sta Z h0 "com/example/uperm/uperm/Scope" "BOTH" "Lcom/example/uperm/uperm/Scope;" (.ref o_BOTH)) (F_reachesBelow_o_BOTH : Fld Z h0 o_BOTH "com/example/uperm/uperm/Scope" "reachesBelow" "Z" (.int (1 : Int32))) (F_reachesPath_o_BOTH : Fld Z h0 o_BOTH "com/example/uperm/uperm/Scope" "reachesPath" "Z" (.int (1 : Int32))) (E_o_BOTH : Exa Z h0 o_BOTH "com/example/uperm/uperm/Scope") :
    MetFree l x (head1 (Jvm.Cond.code x code maxLocals ret :: ws) room_1) (fun a U => a = #[(.int p0), (.int p1)] ∧ Z.Warmed39 U.vm ∧ U.heap = h0) (fun _ _ _ _ _ => True) (fun _ U o U' => ∃ v L, o = .returned v ∧ Q0 Z p0 p1 o_SELF o_CHILDREN o_BOTH h0 n0 v U'.heap L ∧ FrameEnd U o U' L room_1.cells room_1.slots) := by
  refine MetFree.of_bodySF (plainFor_of_name pn_13) hisR ?_
  intro p e s m args below meth c s₁ Bd hml0 hP hK
  obtain ⟨rfl, hZ, hh⟩ := hP
  have hx := Bd.exec
  have hby := Bd.bytes
  have hml : c.maxLocals = 6 := hml0
  have hown : s.vm.findClass "com/example/uperm/uperm/ScopeReachesPinLaw" = some m.cls := findClass_of_methodNamed Bd.named
  have hnm := (name_of_methodNamed Bd.named Bd.method).1
  have X0 : Stand p l e room_1 s m #[(.int p0), (.int p1)] below meth c s₁ [] 0 0 := Stand.of_body Bd
  have e0 : s₁.heap = h0 := by rw [← hh, Bd.state]; rfl
  have N0 := Fr.nil n0
  have KC0 := Keep.refl h0 ([] : List Addr)
  have pre0 : ∀ t, Steps p.tables e below (s₁.setTop (mkF m 0 #[.val (.int p0), .val (.int p1), .unset, .unset, .unset, .unset] [])) t → Steps p.tables e below (s₁.setTop (entryFrame m #[(.int p0), (.int p1)] maxLocals)) t := fun t k => castTop (ef_rm0 m p0 p1) k
  have k12 := fun (t : State) (kk : Steps p.tables e below (s₁.setTop (mkF m 20 #[.val (.int p0), .val (.int p1), .val (.int (v0_6_l2 p0)), .val (.int (v0_10_s0 p1)), .unset, .unset] [(.int (v0_6_l2 p0))])) t) => pre0 t (by
    show Steps p.tables e below (s₁.setTop (mkF m 0 #[.val (.int p0), .val (.int p1), .unset, .unset, .unset, .unset] [])) _
    refine XS.iloadN X0.here hx rfl (hb hby at_0) rfl ?_
    show Steps p.tables e below (s₁.setTop (mkF m 1 #[.val (.int p0), .val (.int p1), .unset, .unset, .unset, .unset] [(.int p0)])) _
    refine X0.ldcInt hx hown (mvT hZ (hw _ (List.mem_of_getElem? (i := 0) rfl))) (g := (mkF m 1 #[.val (.int p0), .val (.int p1), .unset, .unset, .unset, .unset] [(.int p0)])) rfl (hb hby at_1) _ ?_
    show Steps p.tables e below (s₁.setTop (mkF m 3 #[.val (.int p0), .val (.int p1), .unset, .unset, .unset, .unset] [(.int (2147483647 : Int32)), (.int p0)])) _
    refine XS.iand X0.here hx rfl (hb hby at_3) rfl ?_
    show Steps p.tables e below (s₁.setTop (mkF m 4 #[.val (.int p0), .val (.int p1), .unset, .unset, .unset, .unset] [(.int (p0 &&& (2147483647 : Int32)))])) _
    refine XS.iconst X0.here hx rfl (hb hby at_4) ?_
    show Steps p.tables e below (s₁.setTop (mkF m 5 #[.val (.int p0), .val (.int p1), .unset, .unset, .unset, .unset] [(.int (3 : Int32)), (.int (p0 &&& (2147483647 : Int32)))])) _
    refine iremM X0 hx rfl (hb hby at_5) rfl (by decide) ?_
    show Steps p.tables e below (s₁.setTop (mkF m 6 #[.val (.int p0), .val (.int p1), .unset, .unset, .unset, .unset] [(.int ((p0 &&& (2147483647 : Int32)) % (3 : Int32)))])) _
    refine XS.istoreN X0.here hx rfl (hb hby at_6) rfl (l' := #[.val (.int p0), .val (.int p1), .val (.int (v0_6_l2 p0)), .unset, .unset, .unset]) rfl ?_
    show Steps p.tables e below (s₁.setTop (mkF m 7 #[.val (.int p0), .val (.int p1), .val (.int (v0_6_l2 p0)), .unset, .unset, .unset] [])) _
    refine XS.iloadN X0.here hx rfl (hb hby at_7) rfl ?_
    show Steps p.tables e below (s₁.setTop (mkF m 8 #[.val (.int p0), .val (.int p1), .val (.int (v0_6_l2 p0)), .unset, .unset, .unset] [(.int p1)])) _
    refine XS.iconst X0.here hx rfl (hb hby at_8) ?_
    show Steps p.tables e below (s₁.setTop (mkF m 9 #[.val (.int p0), .val (.int p1), .val (.int (v0_6_l2 p0)), .unset, .unset, .unset] [(.int (1 : Int32)), (.int p1)])) _
    refine XS.iand X0.here hx rfl (hb hby at_9) rfl ?_
    suffices k11 : Steps p.tables e below (s₁.setTop (mkF m 18 #[.val (.int p0), .val (.int p1), .val (.int (v0_6_l2 p0)), .unset, .unset, .unset] [(.int (v0_10_s0 p1))])) t by
      by_cases hc10_10 : (p1 &&& (1 : Int32)) = (0 : Int32)
      · rw [(show (v0_10_s0 p1) = (0 : Int32) from if_pos hc10_10)] at k11
        show Steps p.tables e below (s₁.setTop (mkF m 10 #[.val (.int p0), .val (.int p1), .val (.int (v0_6_l2 p0)), .unset, .unset, .unset] [(.int (p1 &&& (1 : Int32)))])) _
        refine XS.ifYes X0.here hx rfl (pc0 := 10) (pc' := 17) rfl (hb hby at_10) rfl ((if0 _ _).trans (teq hc10_10).1) (by decide) (by decide) ?_
        show Steps p.tables e below (s₁.setTop (mkF m 17 #[.val (.int p0), .val (.int p1), .val (.int (v0_6_l2 p0)), .unset, .unset, .unset] [])) _
        refine XS.iconst X0.here hx rfl (hb hby at_17) ?_
        exact k11
      · rw [(show (v0_10_s0 p1) = (1 : Int32) from if_neg hc10_10)] at k11
        show Steps p.tables e below (s₁.setTop (mkF m 10 #[.val (.int p0), .val (.int p1), .val (.int (v0_6_l2 p0)), .unset, .unset, .unset] [(.int (p1 &&& (1 : Int32)))])) _
        refine XS.ifNo X0.here hx rfl (hb hby at_10) rfl ((if0 _ _).trans (feq hc10_10).1) ?_
        show Steps p.tables e below (s₁.setTop (mkF m 13 #[.val (.int p0), .val (.int p1), .val (.int (v0_6_l2 p0)), .unset, .unset, .unset] [])) _
        refine XS.iconst X0.here hx rfl (hb hby at_13) ?_
        show Steps p.tables e below (s₁.setTop (mkF m 14 #[.val (.int p0), .val (.int p1), .val (.int (v0_6_l2 p0)), .unset, .unset, .unset] [(.int (1 : Int32))])) _
        refine XS.goto X0.here hx rfl (pc0 := 14) (pc' := 18) rfl (hb hby at_14) (by decide) (by decide) ?_
        exact k11
    show Steps p.tables e below (s₁.setTop (mkF m 18 #[.val (.int p0), .val (.int p1), .val (.int (v0_6_l2 p0)), .unset, .unset, .unset] [(.int (v0_10_s0 p1))])) _
    refine XS.istoreN X0.here hx rfl (hb hby at_18) rfl (l' := #[.val (.int p0), .val (.int p1), .val (.int (v0_6_l2 p0)), .val (.int (v0_10_s0 p1)), .unset, .unset]) rfl ?_
    show Steps p.tables e below (s₁.setTop (mkF m 19 #[.val (.int p0), .val (.int p1), .val (.int (v0_6_l2 p0)), .val (.int (v0_10_s0 p1)), .unset, .unset] [])) _
    refine XS.iloadN X0.here hx rfl (hb hby at_19) rfl ?_
    exact kk)
  by_cases hc20_13 : (v0_6_l2 p0) = (0 : Int32)
  · have k14 := fun (t : State) (kk : Steps p.tables e below (s₁.setTop (mkF m 23 #[.val (.int p0), .val (.int p1), .val (.int (v0_6_l2 p0)), .val (.int (v0_10_s0 p1)), .unset, .unset] [])) t) => k12 t (by
      show Steps p.tables e below (s₁.setTop (mkF m 20 #[.val (.int p0), .val (.int p1), .val (.int (v0_6_l2 p0)), .val (.int (v0_10_s0 p1)), .unset, .unset] [(.int (v0_6_l2 p0))])) _
      refine XS.ifNo X0.here hx rfl (hb hby at_20) rfl ((if0 _ _).trans (teq hc20_13).2) ?_
      exact kk)
    obtain ⟨T15, X15, e15, st15⟩ := getS2 X0 hx hZ hown (host := "") (Or.inl (hw _ (List.mem_of_getElem? (i := 1) rfl))) Via.refl e0 S_SELF (g := (mkF m 23 #[.val (.int p0), .val (.int p1), .val (.int (v0_6_l2 p0)), .val (.int (v0_10_s0 p1)), .unset, .unset] [])) rfl (hb hby at_23)
    have k16 := fun (t : State) (kk : Steps p.tables e below (T15.setTop (mkF m 26 #[.val (.int p0), .val (.int p1), .val (.int (v0_6_l2 p0)), .val (.int (v0_10_s0 p1)), .unset, .unset] [(.ref o_SELF)])) t) => k14 t (st15 _ kk)
    have k17 := fun (t : State) (kk : Steps p.tables e below (T15.setTop (mkF m 69 #[.val (.int p0), .val (.int p1), .val (.int (v0_6_l2 p0)), .val (.int (v0_10_s0 p1)), .val (.ref o_SELF), .val (.int (v0_10_s0 p1))] [(.int (v0_10_s0 p1)), (.ref o_SELF)])) t) => k16 t (by
      show Steps p.tables e below (T15.setTop (mkF m 26 #[.val (.int p0), .val (.int p1), .val (.int (v0_6_l2 p0)), .val (.int (v0_10_s0 p1)), .unset, .unset] [(.ref o_SELF)])) _
      refine XS.astore X15.here hx rfl (hb hby at_26) rfl rfl (l' := #[.val (.int p0), .val (.int p1), .val (.int (v0_6_l2 p0)), .val (.int (v0_10_s0 p1)), .val (.ref o_SELF), .unset]) rfl ?_
      show Steps p.tables e below (T15.setTop (mkF m 28 #[.val (.int p0), .val (.int p1), .val (.int (v0_6_l2 p0)), .val (.int (v0_10_s0 p1)), .val (.ref o_SELF), .unset] [])) _
      refine XS.iloadN X15.here hx rfl (hb hby at_28) rfl ?_
      show Steps p.tables e below (T15.setTop (mkF m 29 #[.val (.int p0), .val (.int p1), .val (.int (v0_6_l2 p0)), .val (.int (v0_10_s0 p1)), .val (.ref o_SELF), .unset] [(.int (v0_10_s0 p1))])) _
      refine XS.istore X15.here hx rfl (hb hby at_29) rfl (l' := #[.val (.int p0), .val (.int p1), .val (.int (v0_6_l2 p0)), .val (.int (v0_10_s0 p1)), .val (.ref o_SELF), .val (.int (v0_10_s0 p1))]) rfl ?_
      show Steps p.tables e below (T15.setTop (mkF m 31 #[.val (.int p0), .val (.int p1), .val (.int (v0_6_l2 p0)), .val (.int (v0_10_s0 p1)), .val (.ref o_SELF), .val (.int (v0_10_s0 p1))] [])) _
      refine XS.goto X15.here hx rfl (pc0 := 31) (pc' := 66) rfl (hb hby at_31) (by decide) (by decide) ?_
      show Steps p.tables e below (T15.setTop (mkF m 66 #[.val (.int p0), .val (.int p1), .val (.int (v0_6_l2 p0)), .val (.int (v0_10_s0 p1)), .val (.ref o_SELF), .val (.int (v0_10_s0 p1))] [])) _
      refine XS.aload X15.here hx rfl (hb hby at_66) rfl rfl ?_
      show Steps p.tables e below (T15.setTop (mkF m 68 #[.val (.int p0), .val (.int p1), .val (.int (v0_6_l2 p0)), .val (.int (v0_10_s0 p1)), .val (.ref o_SELF), .val (.int (v0_10_s0 p1))] [(.ref o_SELF)])) _
      refine XS.iloadN X15.here hx rfl (hb hby at_68) rfl ?_
      exact kk)
    have Zz18 : n0 ≤ h0.size := (Nat.le_trans Z0 KC0.1)
    obtain ⟨cq18, kq18, q18a, q18b, q18c⟩ := isOf hZ e15 E_o_SELF
    obtain ⟨_, _, ⟨T18, L18, k18, n18⟩, -, X18, ⟨Lc18, hQ18, l18, y18, z18⟩, st18⟩ := X15.virtualBack hx (y := (⟨"com/example/uperm/uperm/Scope", "reaches", "(Z)Z"⟩ : MethodName)) (z := (⟨"com/example/uperm/uperm/Scope", "reaches", "(Z)Z"⟩ : MethodName)) hown (mvT hZ (hw _ (List.mem_of_getElem? (i := 4) rfl))) (mvT hZ (hw _ (List.mem_of_getElem? (i := 5) rfl))) (notFace_of_selects (args := #[]) (mvT hZ (hw _ (List.mem_of_getElem? (i := 7) rfl)))) (mvT hZ (hw _ (List.mem_of_getElem? (i := 7) rfl))) (mvT hZ (hw _ (List.mem_of_getElem? (i := 6) rfl))) (by decide) (backOf (W := 0) (rm1 l Z a0 hw [] o_SELF (v0_10_s0 p1) (0 : Int32) (1 : Int32) h0 n0 Zz18 F_reachesBelow_o_SELF F_reachesPath_o_SELF) hZ (hw _ (List.mem_of_getElem? (i := 8) rfl)) (hw _ (List.mem_of_getElem? (i := 2) rfl)) (by decide) (by decide)) q18a q18c (g := (mkF m 69 #[.val (.int p0), .val (.int p1), .val (.int (v0_6_l2 p0)), .val (.int (v0_10_s0 p1)), .val (.ref o_SELF), .val (.int (v0_10_s0 p1))] [(.int (v0_10_s0 p1)), (.ref o_SELF)])) rfl (by rw [hml]; rfl) (Steps.refl _) (argsL := [(.int (v0_10_s0 p1))]) (rest := []) (lenOf pd_0 rfl) rfl (by show 2 * 0 + _ ≤ _; exact Nat.le_of_eq rfl) (hb hby at_69) (fun _ _ => ⟨rfl, e15, (by decide : 0 + 0 ≤ _), (by decide : 0 + 0 ≤ _)⟩)
    dsimp only [Pt.U, Pt.locs, Pt.cells, Pt.slots] at X18 l18 y18 z18 st18 hQ18
    subst l18 y18 z18
    obtain ⟨rfl, N18q, e18⟩ := hQ18
    have N18 := Fr.app N0 N18q
    have k19 := fun (t : State) (kk : Steps p.tables e below (T18.setTop (mkF m 72 #[.val (.int p0), .val (.int p1), .val (.int (v0_6_l2 p0)), .val (.int (v0_10_s0 p1)), .val (.ref o_SELF), .val (.int (v0_10_s0 p1))] [(.int (v1_ret (v0_10_s0 p1) (0 : Int32) (1 : Int32)))])) t) => k17 t (st18.trans kk)
    have k22 := fun (t : State) (kk : Steps p.tables e below (T18.setTop (mkF m 82 #[.val (.int p0), .val (.int p1), .val (.int (v0_6_l2 p0)), .val (.int (v0_10_s0 p1)), .val (.ref o_SELF), .val (.int (v0_10_s0 p1))] [(.int (v0_74_s0 p1))])) t) => k19 t (by
      show Steps p.tables e below (T18.setTop (mkF m 72 #[.val (.int p0), .val (.int p1), .val (.int (v0_6_l2 p0)), .val (.int (v0_10_s0 p1)), .val (.ref o_SELF), .val (.int (v0_10_s0 p1))] [(.int (v1_ret (v0_10_s0 p1) (0 : Int32) (1 : Int32)))])) _
      refine XS.iload X18.here hx rfl (hb hby at_72) rfl ?_
      suffices k21 : Steps p.tables e below (T18.setTop (mkF m 82 #[.val (.int p0), .val (.int p1), .val (.int (v0_6_l2 p0)), .val (.int (v0_10_s0 p1)), .val (.ref o_SELF), .val (.int (v0_10_s0 p1))] [(.int (v0_74_s0 p1))])) t by
        by_cases hc74_20 : (v1_ret (v0_10_s0 p1) (0 : Int32) (1 : Int32)) = (v0_10_s0 p1)
        · rw [(show (v0_74_s0 p1) = (1 : Int32) from if_pos hc74_20)] at k21
          show Steps p.tables e below (T18.setTop (mkF m 74 #[.val (.int p0), .val (.int p1), .val (.int (v0_6_l2 p0)), .val (.int (v0_10_s0 p1)), .val (.ref o_SELF), .val (.int (v0_10_s0 p1))] [(.int (v0_10_s0 p1)), (.int (v1_ret (v0_10_s0 p1) (0 : Int32) (1 : Int32)))])) _
          refine XS.icmpNo X18.here hx rfl (hb hby at_74) rfl (teq hc74_20).2 ?_
          show Steps p.tables e below (T18.setTop (mkF m 77 #[.val (.int p0), .val (.int p1), .val (.int (v0_6_l2 p0)), .val (.int (v0_10_s0 p1)), .val (.ref o_SELF), .val (.int (v0_10_s0 p1))] [])) _
          refine XS.iconst X18.here hx rfl (hb hby at_77) ?_
          show Steps p.tables e below (T18.setTop (mkF m 78 #[.val (.int p0), .val (.int p1), .val (.int (v0_6_l2 p0)), .val (.int (v0_10_s0 p1)), .val (.ref o_SELF), .val (.int (v0_10_s0 p1))] [(.int (1 : Int32))])) _
          refine XS.goto X18.here hx rfl (pc0 := 78) (pc' := 82) rfl (hb hby at_78) (by decide) (by decide) ?_
          exact k21
        · rw [(show (v0_74_s0 p1) = (0 : Int32) from if_neg hc74_20)] at k21
          show Steps p.tables e below (T18.setTop (mkF m 74 #[.val (.int p0), .val (.int p1), .val (.int (v0_6_l2 p0)), .val (.int (v0_10_s0 p1)), .val (.ref o_SELF), .val (.int (v0_10_s0 p1))] [(.int (v0_10_s0 p1)), (.int (v1_ret (v0_10_s0 p1) (0 : Int32) (1 : Int32)))])) _
          refine XS.icmpYes X18.here hx rfl (pc0 := 74) (pc' := 81) rfl (hb hby at_74) rfl (feq hc74_20).2 (by decide) (by decide) ?_
          show Steps p.tables e below (T18.setTop (mkF m 81 #[.val (.int p0), .val (.int p1), .val (.int (v0_6_l2 p0)), .val (.int (v0_10_s0 p1)), .val (.ref o_SELF), .val (.int (v0_10_s0 p1))] [])) _
          refine XS.iconst X18.here hx rfl (hb hby at_81) ?_
          exact k21
      exact kk)
    obtain ⟨fs, hr, hrun, hended, hW, hsame⟩ := X18.leave (v := some (.int (nar .boolean (v0_74_s0 p1)))) (fun h => by rw [Bd.returns] at h; cases h)
    have hv : (v0_ret p0 p1) = (nar .boolean (v0_74_s0 p1)) := (if_pos hc20_13)
    have hone : (nar .boolean (v0_74_s0 p1)) = 1 := hv.symm.trans (own_law p0 p1)
    refine ⟨_, _, k22 _ ?_, hrun, hended, _, _, rfl, ?_, ⟨_, rfl⟩, hW, hsame.mono (by decide) (by decide)⟩
    · show Steps p.tables e below (T18.setTop (mkF m 82 #[.val (.int p0), .val (.int p1), .val (.int (v0_6_l2 p0)), .val (.int (v0_10_s0 p1)), .val (.ref o_SELF), .val (.int (v0_10_s0 p1))] [(.int (v0_74_s0 p1))])) _
      exact retN X18 hx (t := .boolean) Bd.returns (by simp) (hb hby at_82) hr
    · show Q0 Z p0 p1 o_SELF o_CHILDREN o_BOTH h0 n0 _ T18.heap _
      rw [e18]
      exact ⟨congrArg (fun z => some (Value.int z)) hone, N18⟩
  · have k23 := fun (t : State) (kk : Steps p.tables e below (s₁.setTop (mkF m 36 #[.val (.int p0), .val (.int p1), .val (.int (v0_6_l2 p0)), .val (.int (v0_10_s0 p1)), .unset, .unset] [(.int (1 : Int32)), (.int (v0_6_l2 p0))])) t) => k12 t (by
      show Steps p.tables e below (s₁.setTop (mkF m 20 #[.val (.int p0), .val (.int p1), .val (.int (v0_6_l2 p0)), .val (.int (v0_10_s0 p1)), .unset, .unset] [(.int (v0_6_l2 p0))])) _
      refine XS.ifYes X0.here hx rfl (pc0 := 20) (pc' := 34) rfl (hb hby at_20) rfl ((if0 _ _).trans (feq hc20_13).2) (by decide) (by decide) ?_
      show Steps p.tables e below (s₁.setTop (mkF m 34 #[.val (.int p0), .val (.int p1), .val (.int (v0_6_l2 p0)), .val (.int (v0_10_s0 p1)), .unset, .unset] [])) _
      refine XS.iloadN X0.here hx rfl (hb hby at_34) rfl ?_
      show Steps p.tables e below (s₁.setTop (mkF m 35 #[.val (.int p0), .val (.int p1), .val (.int (v0_6_l2 p0)), .val (.int (v0_10_s0 p1)), .unset, .unset] [(.int (v0_6_l2 p0))])) _
      refine XS.iconst X0.here hx rfl (hb hby at_35) ?_
      exact kk)
    by_cases hc36_24 : (v0_6_l2 p0) = (1 : Int32)
    · have k25 := fun (t : State) (kk : Steps p.tables e below (s₁.setTop (mkF m 39 #[.val (.int p0), .val (.int p1), .val (.int (v0_6_l2 p0)), .val (.int (v0_10_s0 p1)), .unset, .unset] [])) t) => k23 t (by
        show Steps p.tables e below (s₁.setTop (mkF m 36 #[.val (.int p0), .val (.int p1), .val (.int (v0_6_l2 p0)), .val (.int (v0_10_s0 p1)), .unset, .unset] [(.int (1 : Int32)), (.int (v0_6_l2 p0))])) _
        refine XS.icmpNo X0.here hx rfl (hb hby at_36) rfl (teq hc36_24).2 ?_
        exact kk)
      obtain ⟨T26, X26, e26, st26⟩ := getS2 X0 hx hZ hown (host := "") (Or.inl (hw _ (List.mem_of_getElem? (i := 15) rfl))) Via.refl e0 S_CHILDREN (g := (mkF m 39 #[.val (.int p0), .val (.int p1), .val (.int (v0_6_l2 p0)), .val (.int (v0_10_s0 p1)), .unset, .unset] [])) rfl (hb hby at_39)
      have k27 := fun (t : State) (kk : Steps p.tables e below (T26.setTop (mkF m 42 #[.val (.int p0), .val (.int p1), .val (.int (v0_6_l2 p0)), .val (.int (v0_10_s0 p1)), .unset, .unset] [(.ref o_CHILDREN)])) t) => k25 t (st26 _ kk)
      have k30 := fun (t : State) (kk : Steps p.tables e below (T26.setTop (mkF m 69 #[.val (.int p0), .val (.int p1), .val (.int (v0_6_l2 p0)), .val (.int (v0_10_s0 p1)), .val (.ref o_CHILDREN), .val (.int (v0_45_s0 p1))] [(.int (v0_10_s0 p1)), (.ref o_CHILDREN)])) t) => k27 t (by
        show Steps p.tables e below (T26.setTop (mkF m 42 #[.val (.int p0), .val (.int p1), .val (.int (v0_6_l2 p0)), .val (.int (v0_10_s0 p1)), .unset, .unset] [(.ref o_CHILDREN)])) _
        refine XS.astore X26.here hx rfl (hb hby at_42) rfl rfl (l' := #[.val (.int p0), .val (.int p1), .val (.int (v0_6_l2 p0)), .val (.int (v0_10_s0 p1)), .val (.ref o_CHILDREN), .unset]) rfl ?_
        show Steps p.tables e below (T26.setTop (mkF m 44 #[.val (.int p0), .val (.int p1), .val (.int (v0_6_l2 p0)), .val (.int (v0_10_s0 p1)), .val (.ref o_CHILDREN), .unset] [])) _
        refine XS.iloadN X26.here hx rfl (hb hby at_44) rfl ?_
        suffices k29 : Steps p.tables e below (T26.setTop (mkF m 53 #[.val (.int p0), .val (.int p1), .val (.int (v0_6_l2 p0)), .val (.int (v0_10_s0 p1)), .val (.ref o_CHILDREN), .unset] [(.int (v0_45_s0 p1))])) t by
          by_cases hc45_28 : (v0_10_s0 p1) = (0 : Int32)
          · rw [(show (v0_45_s0 p1) = (1 : Int32) from if_pos hc45_28)] at k29
            show Steps p.tables e below (T26.setTop (mkF m 45 #[.val (.int p0), .val (.int p1), .val (.int (v0_6_l2 p0)), .val (.int (v0_10_s0 p1)), .val (.ref o_CHILDREN), .unset] [(.int (v0_10_s0 p1))])) _
            refine XS.ifNo X26.here hx rfl (hb hby at_45) rfl ((if0 _ _).trans (teq hc45_28).2) ?_
            show Steps p.tables e below (T26.setTop (mkF m 48 #[.val (.int p0), .val (.int p1), .val (.int (v0_6_l2 p0)), .val (.int (v0_10_s0 p1)), .val (.ref o_CHILDREN), .unset] [])) _
            refine XS.iconst X26.here hx rfl (hb hby at_48) ?_
            show Steps p.tables e below (T26.setTop (mkF m 49 #[.val (.int p0), .val (.int p1), .val (.int (v0_6_l2 p0)), .val (.int (v0_10_s0 p1)), .val (.ref o_CHILDREN), .unset] [(.int (1 : Int32))])) _
            refine XS.goto X26.here hx rfl (pc0 := 49) (pc' := 53) rfl (hb hby at_49) (by decide) (by decide) ?_
            exact k29
          · rw [(show (v0_45_s0 p1) = (0 : Int32) from if_neg hc45_28)] at k29
            show Steps p.tables e below (T26.setTop (mkF m 45 #[.val (.int p0), .val (.int p1), .val (.int (v0_6_l2 p0)), .val (.int (v0_10_s0 p1)), .val (.ref o_CHILDREN), .unset] [(.int (v0_10_s0 p1))])) _
            refine XS.ifYes X26.here hx rfl (pc0 := 45) (pc' := 52) rfl (hb hby at_45) rfl ((if0 _ _).trans (feq hc45_28).2) (by decide) (by decide) ?_
            show Steps p.tables e below (T26.setTop (mkF m 52 #[.val (.int p0), .val (.int p1), .val (.int (v0_6_l2 p0)), .val (.int (v0_10_s0 p1)), .val (.ref o_CHILDREN), .unset] [])) _
            refine XS.iconst X26.here hx rfl (hb hby at_52) ?_
            exact k29
        show Steps p.tables e below (T26.setTop (mkF m 53 #[.val (.int p0), .val (.int p1), .val (.int (v0_6_l2 p0)), .val (.int (v0_10_s0 p1)), .val (.ref o_CHILDREN), .unset] [(.int (v0_45_s0 p1))])) _
        refine XS.istore X26.here hx rfl (hb hby at_53) rfl (l' := #[.val (.int p0), .val (.int p1), .val (.int (v0_6_l2 p0)), .val (.int (v0_10_s0 p1)), .val (.ref o_CHILDREN), .val (.int (v0_45_s0 p1))]) rfl ?_
        show Steps p.tables e below (T26.setTop (mkF m 55 #[.val (.int p0), .val (.int p1), .val (.int (v0_6_l2 p0)), .val (.int (v0_10_s0 p1)), .val (.ref o_CHILDREN), .val (.int (v0_45_s0 p1))] [])) _
        refine XS.goto X26.here hx rfl (pc0 := 55) (pc' := 66) rfl (hb hby at_55) (by decide) (by decide) ?_
        show Steps p.tables e below (T26.setTop (mkF m 66 #[.val (.int p0), .val (.int p1), .val (.int (v0_6_l2 p0)), .val (.int (v0_10_s0 p1)), .val (.ref o_CHILDREN), .val (.int (v0_45_s0 p1))] [])) _
        refine XS.aload X26.here hx rfl (hb hby at_66) rfl rfl ?_
        show Steps p.tables e below (T26.setTop (mkF m 68 #[.val (.int p0), .val (.int p1), .val (.int (v0_6_l2 p0)), .val (.int (v0_10_s0 p1)), .val (.ref o_CHILDREN), .val (.int (v0_45_s0 p1))] [(.ref o_CHILDREN)])) _
        refine XS.iloadN X26.here hx rfl (hb hby at_68) rfl ?_
        exact kk)
      have Zz31 : n0 ≤ h0.size := (Nat.le_trans Z0 KC0.1)
      obtain ⟨cq31, kq31, q31a, q31b, q31c⟩ := isOf hZ e26 E_o_CHILDREN
      obtain ⟨_, _, ⟨T31, L31, k31, n31⟩, -, X31, ⟨Lc31, hQ31, l31, y31, z31⟩, st31⟩ := X26.virtualBack hx (y := (⟨"com/example/uperm/uperm/Scope", "reaches", "(Z)Z"⟩ : MethodName)) (z := (⟨"com/example/uperm/uperm/Scope", "reaches", "(Z)Z"⟩ : MethodName)) hown (mvT hZ (hw _ (List.mem_of_getElem? (i := 4) rfl))) (mvT hZ (hw _ (List.mem_of_getElem? (i := 5) rfl))) (notFace_of_selects (args := #[]) (mvT hZ (hw _ (List.mem_of_getElem? (i := 7) rfl)))) (mvT hZ (hw _ (List.mem_of_getElem? (i := 7) rfl))) (mvT hZ (hw _ (List.mem_of_getElem? (i := 6) rfl))) (by decide) (backOf (W := 0) (rm1 l Z a0 hw [] o_CHILDREN (v0_10_s0 p1) (1 : Int32) (0 : Int32) h0 n0 Zz31 F_reachesBelow_o_CHILDREN F_reachesPath_o_CHILDREN) hZ (hw _ (List.mem_of_getElem? (i := 8) rfl)) (hw _ (List.mem_of_getElem? (i := 2) rfl)) (by decide) (by decide)) q31a q31c (g := (mkF m 69 #[.val (.int p0), .val (.int p1), .val (.int (v0_6_l2 p0)), .val (.int (v0_10_s0 p1)), .val (.ref o_CHILDREN), .val (.int (v0_45_s0 p1))] [(.int (v0_10_s0 p1)), (.ref o_CHILDREN)])) rfl (by rw [hml]; rfl) (Steps.refl _) (argsL := [(.int (v0_10_s0 p1))]) (rest := []) (lenOf pd_0 rfl) rfl (by show 2 * 0 + _ ≤ _; exact Nat.le_of_eq rfl) (hb hby at_69) (fun _ _ => ⟨rfl, e26, (by decide : 0 + 0 ≤ _), (by decide : 0 + 0 ≤ _)⟩)
      dsimp only [Pt.U, Pt.locs, Pt.cells, Pt.slots] at X31 l31 y31 z31 st31 hQ31
      subst l31 y31 z31
      obtain ⟨rfl, N31q, e31⟩ := hQ31
      have N31 := Fr.app N0 N31q
      have k32 := fun (t : State) (kk : Steps p.tables e below (T31.setTop (mkF m 72 #[.val (.int p0), .val (.int p1), .val (.int (v0_6_l2 p0)), .val (.int (v0_10_s0 p1)), .val (.ref o_CHILDREN), .val (.int (v0_45_s0 p1))] [(.int (v1_ret (v0_10_s0 p1) (1 : Int32) (0 : Int32)))])) t) => k30 t (st31.trans kk)
      have k35 := fun (t : State) (kk : Steps p.tables e below (T31.setTop (mkF m 82 #[.val (.int p0), .val (.int p1), .val (.int (v0_6_l2 p0)), .val (.int (v0_10_s0 p1)), .val (.ref o_CHILDREN), .val (.int (v0_45_s0 p1))] [(.int (v0_74_s0_1 p1))])) t) => k32 t (by
        show Steps p.tables e below (T31.setTop (mkF m 72 #[.val (.int p0), .val (.int p1), .val (.int (v0_6_l2 p0)), .val (.int (v0_10_s0 p1)), .val (.ref o_CHILDREN), .val (.int (v0_45_s0 p1))] [(.int (v1_ret (v0_10_s0 p1) (1 : Int32) (0 : Int32)))])) _
        refine XS.iload X31.here hx rfl (hb hby at_72) rfl ?_
        suffices k34 : Steps p.tables e below (T31.setTop (mkF m 82 #[.val (.int p0), .val (.int p1), .val (.int (v0_6_l2 p0)), .val (.int (v0_10_s0 p1)), .val (.ref o_CHILDREN), .val (.int (v0_45_s0 p1))] [(.int (v0_74_s0_1 p1))])) t by
          by_cases hc74_33 : (v1_ret (v0_10_s0 p1) (1 : Int32) (0 : Int32)) = (v0_45_s0 p1)
          · rw [(show (v0_74_s0_1 p1) = (1 : Int32) from if_pos hc74_33)] at k34
            show Steps p.tables e below (T31.setTop (mkF m 74 #[.val (.int p0), .val (.int p1), .val (.int (v0_6_l2 p0)), .val (.int (v0_10_s0 p1)), .val (.ref o_CHILDREN), .val (.int (v0_45_s0 p1))] [(.int (v0_45_s0 p1)), (.int (v1_ret (v0_10_s0 p1) (1 : Int32) (0 : Int32)))])) _
            refine XS.icmpNo X31.here hx rfl (hb hby at_74) rfl (teq hc74_33).2 ?_
            show Steps p.tables e below (T31.setTop (mkF m 77 #[.val (.int p0), .val (.int p1), .val (.int (v0_6_l2 p0)), .val (.int (v0_10_s0 p1)), .val (.ref o_CHILDREN), .val (.int (v0_45_s0 p1))] [])) _
            refine XS.iconst X31.here hx rfl (hb hby at_77) ?_
            show Steps p.tables e below (T31.setTop (mkF m 78 #[.val (.int p0), .val (.int p1), .val (.int (v0_6_l2 p0)), .val (.int (v0_10_s0 p1)), .val (.ref o_CHILDREN), .val (.int (v0_45_s0 p1))] [(.int (1 : Int32))])) _
            refine XS.goto X31.here hx rfl (pc0 := 78) (pc' := 82) rfl (hb hby at_78) (by decide) (by decide) ?_
            exact k34
          · rw [(show (v0_74_s0_1 p1) = (0 : Int32) from if_neg hc74_33)] at k34
            show Steps p.tables e below (T31.setTop (mkF m 74 #[.val (.int p0), .val (.int p1), .val (.int (v0_6_l2 p0)), .val (.int (v0_10_s0 p1)), .val (.ref o_CHILDREN), .val (.int (v0_45_s0 p1))] [(.int (v0_45_s0 p1)), (.int (v1_ret (v0_10_s0 p1) (1 : Int32) (0 : Int32)))])) _
            refine XS.icmpYes X31.here hx rfl (pc0 := 74) (pc' := 81) rfl (hb hby at_74) rfl (feq hc74_33).2 (by decide) (by decide) ?_
            show Steps p.tables e below (T31.setTop (mkF m 81 #[.val (.int p0), .val (.int p1), .val (.int (v0_6_l2 p0)), .val (.int (v0_10_s0 p1)), .val (.ref o_CHILDREN), .val (.int (v0_45_s0 p1))] [])) _
            refine XS.iconst X31.here hx rfl (hb hby at_81) ?_
            exact k34
        exact kk)
      obtain ⟨fs, hr, hrun, hended, hW, hsame⟩ := X31.leave (v := some (.int (nar .boolean (v0_74_s0_1 p1)))) (fun h => by rw [Bd.returns] at h; cases h)
      have hv : (v0_ret p0 p1) = (nar .boolean (v0_74_s0_1 p1)) := ((if_neg hc20_13).trans (if_pos hc36_24))
      have hone : (nar .boolean (v0_74_s0_1 p1)) = 1 := hv.symm.trans (own_law p0 p1)
      refine ⟨_, _, k35 _ ?_, hrun, hended, _, _, rfl, ?_, ⟨_, rfl⟩, hW, hsame.mono (by decide) (by decide)⟩
      · show Steps p.tables e below (T31.setTop (mkF m 82 #[.val (.int p0), .val (.int p1), .val (.int (v0_6_l2 p0)), .val (.int (v0_10_s0 p1)), .val (.ref o_CHILDREN), .val (.int (v0_45_s0 p1))] [(.int (v0_74_s0_1 p1))])) _
        exact retN X31 hx (t := .boolean) Bd.returns (by simp) (hb hby at_82) hr
      · show Q0 Z p0 p1 o_SELF o_CHILDREN o_BOTH h0 n0 _ T31.heap _
        rw [e31]
        exact ⟨congrArg (fun z => some (Value.int z)) hone, N31⟩
    · have k36 := fun (t : State) (kk : Steps p.tables e below (s₁.setTop (mkF m 58 #[.val (.int p0), .val (.int p1), .val (.int (v0_6_l2 p0)), .val (.int (v0_10_s0 p1)), .unset, .unset] [])) t) => k23 t (by
        show Steps p.tables e below (s₁.setTop (mkF m 36 #[.val (.int p0), .val (.int p1), .val (.int (v0_6_l2 p0)), .val (.int (v0_10_s0 p1)), .unset, .unset] [(.int (1 : Int32)), (.int (v0_6_l2 p0))])) _
        refine XS.icmpYes X0.here hx rfl (pc0 := 36) (pc' := 58) rfl (hb hby at_36) rfl (feq hc36_24).2 (by decide) (by decide) ?_
        exact kk)
      obtain ⟨T37, X37, e37, st37⟩ := getS2 X0 hx hZ hown (host := "") (Or.inl (hw _ (List.mem_of_getElem? (i := 11) rfl))) Via.refl e0 S_BOTH (g := (mkF m 58 #[.val (.int p0), .val (.int p1), .val (.int (v0_6_l2 p0)), .val (.int (v0_10_s0 p1)), .unset, .unset] [])) rfl (hb hby at_58)
      have k38 := fun (t : State) (kk : Steps p.tables e below (T37.setTop (mkF m 61 #[.val (.int p0), .val (.int p1), .val (.int (v0_6_l2 p0)), .val (.int (v0_10_s0 p1)), .unset, .unset] [(.ref o_BOTH)])) t) => k36 t (st37 _ kk)
      have k39 := fun (t : State) (kk : Steps p.tables e below (T37.setTop (mkF m 69 #[.val (.int p0), .val (.int p1), .val (.int (v0_6_l2 p0)), .val (.int (v0_10_s0 p1)), .val (.ref o_BOTH), .val (.int (1 : Int32))] [(.int (v0_10_s0 p1)), (.ref o_BOTH)])) t) => k38 t (by
        show Steps p.tables e below (T37.setTop (mkF m 61 #[.val (.int p0), .val (.int p1), .val (.int (v0_6_l2 p0)), .val (.int (v0_10_s0 p1)), .unset, .unset] [(.ref o_BOTH)])) _
        refine XS.astore X37.here hx rfl (hb hby at_61) rfl rfl (l' := #[.val (.int p0), .val (.int p1), .val (.int (v0_6_l2 p0)), .val (.int (v0_10_s0 p1)), .val (.ref o_BOTH), .unset]) rfl ?_
        show Steps p.tables e below (T37.setTop (mkF m 63 #[.val (.int p0), .val (.int p1), .val (.int (v0_6_l2 p0)), .val (.int (v0_10_s0 p1)), .val (.ref o_BOTH), .unset] [])) _
        refine XS.iconst X37.here hx rfl (hb hby at_63) ?_
        show Steps p.tables e below (T37.setTop (mkF m 64 #[.val (.int p0), .val (.int p1), .val (.int (v0_6_l2 p0)), .val (.int (v0_10_s0 p1)), .val (.ref o_BOTH), .unset] [(.int (1 : Int32))])) _
        refine XS.istore X37.here hx rfl (hb hby at_64) rfl (l' := #[.val (.int p0), .val (.int p1), .val (.int (v0_6_l2 p0)), .val (.int (v0_10_s0 p1)), .val (.ref o_BOTH), .val (.int (1 : Int32))]) rfl ?_
        show Steps p.tables e below (T37.setTop (mkF m 66 #[.val (.int p0), .val (.int p1), .val (.int (v0_6_l2 p0)), .val (.int (v0_10_s0 p1)), .val (.ref o_BOTH), .val (.int (1 : Int32))] [])) _
        refine XS.aload X37.here hx rfl (hb hby at_66) rfl rfl ?_
        show Steps p.tables e below (T37.setTop (mkF m 68 #[.val (.int p0), .val (.int p1), .val (.int (v0_6_l2 p0)), .val (.int (v0_10_s0 p1)), .val (.ref o_BOTH), .val (.int (1 : Int32))] [(.ref o_BOTH)])) _
        refine XS.iloadN X37.here hx rfl (hb hby at_68) rfl ?_
        exact kk)
      have Zz40 : n0 ≤ h0.size := (Nat.le_trans Z0 KC0.1)
      obtain ⟨cq40, kq40, q40a, q40b, q40c⟩ := isOf hZ e37 E_o_BOTH
      obtain ⟨_, _, ⟨T40, L40, k40, n40⟩, -, X40, ⟨Lc40, hQ40, l40, y40, z40⟩, st40⟩ := X37.virtualBack hx (y := (⟨"com/example/uperm/uperm/Scope", "reaches", "(Z)Z"⟩ : MethodName)) (z := (⟨"com/example/uperm/uperm/Scope", "reaches", "(Z)Z"⟩ : MethodName)) hown (mvT hZ (hw _ (List.mem_of_getElem? (i := 4) rfl))) (mvT hZ (hw _ (List.mem_of_getElem? (i := 5) rfl))) (notFace_of_selects (args := #[]) (mvT hZ (hw _ (List.mem_of_getElem? (i := 7) rfl)))) (mvT hZ (hw _ (List.mem_of_getElem? (i := 7) rfl))) (mvT hZ (hw _ (List.mem_of_getElem? (i := 6) rfl))) (by decide) (backOf (W := 0) (rm1 l Z a0 hw [] o_BOTH (v0_10_s0 p1) (1 : Int32) (1 : Int32) h0 n0 Zz40 F_reachesBelow_o_BOTH F_reachesPath_o_BOTH) hZ (hw _ (List.mem_of_getElem? (i := 8) rfl)) (hw _ (List.mem_of_getElem? (i := 2) rfl)) (by decide) (by decide)) q40a q40c (g := (mkF m 69 #[.val (.int p0), .val (.int p1), .val (.int (v0_6_l2 p0)), .val (.int (v0_10_s0 p1)), .val (.ref o_BOTH), .val (.int (1 : Int32))] [(.int (v0_10_s0 p1)), (.ref o_BOTH)])) rfl (by rw [hml]; rfl) (Steps.refl _) (argsL := [(.int (v0_10_s0 p1))]) (rest := []) (lenOf pd_0 rfl) rfl (by show 2 * 0 + _ ≤ _; exact Nat.le_of_eq rfl) (hb hby at_69) (fun _ _ => ⟨rfl, e37, (by decide : 0 + 0 ≤ _), (by decide : 0 + 0 ≤ _)⟩)
      dsimp only [Pt.U, Pt.locs, Pt.cells, Pt.slots] at X40 l40 y40 z40 st40 hQ40
      subst l40 y40 z40
      obtain ⟨rfl, N40q, e40⟩ := hQ40
      have N40 := Fr.app N0 N40q
      have k41 := fun (t : State) (kk : Steps p.tables e below (T40.setTop (mkF m 72 #[.val (.int p0), .val (.int p1), .val (.int (v0_6_l2 p0)), .val (.int (v0_10_s0 p1)), .val (.ref o_BOTH), .val (.int (1 : Int32))] [(.int (v1_ret (v0_10_s0 p1) (1 : Int32) (1 : Int32)))])) t) => k39 t (st40.trans kk)
      have k44 := fun (t : State) (kk : Steps p.tables e below (T40.setTop (mkF m 82 #[.val (.int p0), .val (.int p1), .val (.int (v0_6_l2 p0)), .val (.int (v0_10_s0 p1)), .val (.ref o_BOTH), .val (.int (1 : Int32))] [(.int (v0_74_s0_2 p1))])) t) => k41 t (by
        show Steps p.tables e below (T40.setTop (mkF m 72 #[.val (.int p0), .val (.int p1), .val (.int (v0_6_l2 p0)), .val (.int (v0_10_s0 p1)), .val (.ref o_BOTH), .val (.int (1 : Int32))] [(.int (v1_ret (v0_10_s0 p1) (1 : Int32) (1 : Int32)))])) _
        refine XS.iload X40.here hx rfl (hb hby at_72) rfl ?_
        suffices k43 : Steps p.tables e below (T40.setTop (mkF m 82 #[.val (.int p0), .val (.int p1), .val (.int (v0_6_l2 p0)), .val (.int (v0_10_s0 p1)), .val (.ref o_BOTH), .val (.int (1 : Int32))] [(.int (v0_74_s0_2 p1))])) t by
          by_cases hc74_42 : (v1_ret (v0_10_s0 p1) (1 : Int32) (1 : Int32)) = (1 : Int32)
          · rw [(show (v0_74_s0_2 p1) = (1 : Int32) from if_pos hc74_42)] at k43
            show Steps p.tables e below (T40.setTop (mkF m 74 #[.val (.int p0), .val (.int p1), .val (.int (v0_6_l2 p0)), .val (.int (v0_10_s0 p1)), .val (.ref o_BOTH), .val (.int (1 : Int32))] [(.int (1 : Int32)), (.int (v1_ret (v0_10_s0 p1) (1 : Int32) (1 : Int32)))])) _
            refine XS.icmpNo X40.here hx rfl (hb hby at_74) rfl (teq hc74_42).2 ?_
            show Steps p.tables e below (T40.setTop (mkF m 77 #[.val (.int p0), .val (.int p1), .val (.int (v0_6_l2 p0)), .val (.int (v0_10_s0 p1)), .val (.ref o_BOTH), .val (.int (1 : Int32))] [])) _
            refine XS.iconst X40.here hx rfl (hb hby at_77) ?_
            show Steps p.tables e below (T40.setTop (mkF m 78 #[.val (.int p0), .val (.int p1), .val (.int (v0_6_l2 p0)), .val (.int (v0_10_s0 p1)), .val (.ref o_BOTH), .val (.int (1 : Int32))] [(.int (1 : Int32))])) _
            refine XS.goto X40.here hx rfl (pc0 := 78) (pc' := 82) rfl (hb hby at_78) (by decide) (by decide) ?_
            exact k43
          · rw [(show (v0_74_s0_2 p1) = (0 : Int32) from if_neg hc74_42)] at k43
            show Steps p.tables e below (T40.setTop (mkF m 74 #[.val (.int p0), .val (.int p1), .val (.int (v0_6_l2 p0)), .val (.int (v0_10_s0 p1)), .val (.ref o_BOTH), .val (.int (1 : Int32))] [(.int (1 : Int32)), (.int (v1_ret (v0_10_s0 p1) (1 : Int32) (1 : Int32)))])) _
            refine XS.icmpYes X40.here hx rfl (pc0 := 74) (pc' := 81) rfl (hb hby at_74) rfl (feq hc74_42).2 (by decide) (by decide) ?_
            show Steps p.tables e below (T40.setTop (mkF m 81 #[.val (.int p0), .val (.int p1), .val (.int (v0_6_l2 p0)), .val (.int (v0_10_s0 p1)), .val (.ref o_BOTH), .val (.int (1 : Int32))] [])) _
            refine XS.iconst X40.here hx rfl (hb hby at_81) ?_
            exact k43
        exact kk)
      obtain ⟨fs, hr, hrun, hended, hW, hsame⟩ := X40.leave (v := some (.int (nar .boolean (v0_74_s0_2 p1)))) (fun h => by rw [Bd.returns] at h; cases h)
      have hv : (v0_ret p0 p1) = (nar .boolean (v0_74_s0_2 p1)) := ((if_neg hc20_13).trans (if_neg hc36_24))
      have hone : (nar .boolean (v0_74_s0_2 p1)) = 1 := hv.symm.trans (own_law p0 p1)
      refine ⟨_, _, k44 _ ?_, hrun, hended, _, _, rfl, ?_, ⟨_, rfl⟩, hW, hsame.mono (by decide) (by decide)⟩
      · show Steps p.tables e below (T40.setTop (mkF m 82 #[.val (.int p0), .val (.int p1), .val (.int (v0_6_l2 p0)), .val (.int (v0_10_s0 p1)), .val (.ref o_BOTH), .val (.int (1 : Int32))] [(.int (v0_74_s0_2 p1))])) _
        exact retN X40 hx (t := .boolean) Bd.returns (by simp) (hb hby at_82) hr
      · show Q0 Z p0 p1 o_SELF o_CHILDREN o_BOTH h0 n0 _ T40.heap _
        rw [e40]
        exact ⟨congrArg (fun z => some (Value.int z)) hone, N40⟩
set_option maxRecDepth 65536 in
set_option maxHeartbeats 40000000 in
theorem comes_1 {Post : Tables → Env → Array Value → State → Outcome → State → Prop} (hpost : ∀ tb e args s v u, (limb_1_1.after args s (.returned v) u = true ∧ limb_1_2.after args s (.returned v) u = true ∧ True) → FrameEnd s (.returned v) u (Jvm.fieldLocs frame_1_writes args s ++ Jvm.arrayLocs frame_1_arrays args s ++ Jvm.staticLocs frame_1_statics s) 0 0 → Post tb e args s (.returned v) u) :
    ArmFor flags0 classFile x code maxLocals ret World_1 tables_1 room_1 Calls_1 rest_1 Pre_1 Post := by
  intro l hfl _ _ p e ha hc hk s m args below hf hA hF happ hP
  obtain ⟨hcalls, hrest, hpre⟩ := hP
  obtain ⟨-, -, -, hnamed, -, -, -, hat⟩ := (Spec.applies_iff hf).mp happ
  obtain ⟨hg, hn⟩ := and_e (Cond.before_iff.mp (show (Jvm.Cond.and given_1 narrow_1).before args s = true from hpre))
  obtain ⟨hcnt, hg0⟩ := and_e hg
  obtain ⟨ha0, hg1⟩ := and_e hg0
  have ha1 := hg1
  obtain ⟨w0, w1, rfl⟩ : ∃ w0 w1 : Value, args = #[w0, w1] := by
    have hs : args.size = 2 := by simpa [Cond.value, given_1] using hcnt
    obtain ⟨L⟩ := args
    match L, hs with
    | [w0, w1], _ => exact ⟨w0, w1, rfl⟩
  have hw := fun d (hd : d ∈ tables_1) => atoms_spec (ws := Jvm.Cond.code x code maxLocals ret :: tables_1) hat d (List.mem_cons_of_mem _ hd)
  have hfit : Fit s := fun {y c} hc i hi => by
    obtain ⟨ha, rfl⟩ := Array.getElem?_eq_some_iff.mp hc
    have q := List.all_eq_true.mp ((Array.all_eq_true_iff_forall_mem.mp hF) _ (Array.getElem_mem ha)) i (List.mem_range.mpr hi)
    simpa [Array.getElem?_eq_getElem hi] using q
  obtain ⟨p0, ea0⟩ := is_v ha0
  obtain rfl : w0 = (.int p0) := Option.some.inj ea0
  obtain ⟨p1, ea1⟩ := is_v ha1
  obtain rfl : w1 = (.int p1) := Option.some.inj ea1
  obtain ⟨na1, nb1⟩ := and_e hn
  obtain ⟨na2, nb2⟩ := and_e nb1
  obtain ⟨na3, nb3⟩ := and_e nb2
  obtain ⟨na4, nb4⟩ := and_e nb3
  obtain ⟨na5, nb5⟩ := and_e nb4
  obtain ⟨na6, nb6⟩ := and_e nb5
  obtain ⟨na7, nb7⟩ := and_e nb6
  obtain ⟨na8, nb8⟩ := and_e nb7
  obtain ⟨o_SELF, ev_SELF⟩ := exa_v na1
  have S_SELF := Sta.start ev_SELF (Or.inr ⟨(hw _ (List.mem_of_getElem? (i := 2) rfl)), (hw _ (List.mem_of_getElem? (i := 3) rfl))⟩)
  have E_o_SELF := Exa.start ev_SELF na1
  obtain ⟨o_BOTH, ev_BOTH⟩ := exa_v na3
  have S_BOTH := Sta.start ev_BOTH (Or.inr ⟨(hw _ (List.mem_of_getElem? (i := 2) rfl)), (hw _ (List.mem_of_getElem? (i := 12) rfl))⟩)
  have E_o_BOTH := Exa.start ev_BOTH na3
  obtain ⟨o_CHILDREN, ev_CHILDREN⟩ := exa_v na6
  have S_CHILDREN := Sta.start ev_CHILDREN (Or.inr ⟨(hw _ (List.mem_of_getElem? (i := 2) rfl)), (hw _ (List.mem_of_getElem? (i := 16) rfl))⟩)
  have E_o_CHILDREN := Exa.start ev_CHILDREN na6
  have F_reachesPath_o_SELF := Fld.start ((fld_at ev_SELF).symm.trans (own_eq_int na2))
  have F_reachesPath_o_BOTH := Fld.start ((fld_at ev_BOTH).symm.trans (own_eq_int na4))
  have F_reachesBelow_o_BOTH := Fld.start ((fld_at ev_BOTH).symm.trans (own_eq_int na5))
  have F_reachesBelow_o_CHILDREN := Fld.start ((fld_at ev_CHILDREN).symm.trans (own_eq_int na7))
  have F_reachesPath_o_CHILDREN := Fld.start ((fld_at ev_CHILDREN).symm.trans (own_eq_int na8))
  have F_reachesBelow_o_SELF := Fld.start ((fld_at ev_SELF).symm.trans (own_eq_int nb8))
  obtain ⟨n, o, h1, h2, h3, _, L, rfl, ⟨rfl, N⟩, hq⟩ := rm0 l s _ hw tables_1 p0 p1 o_SELF o_CHILDREN o_BOTH s.heap s.heap.size (Nat.le_refl _) S_SELF F_reachesBelow_o_SELF F_reachesPath_o_SELF E_o_SELF S_CHILDREN F_reachesBelow_o_CHILDREN F_reachesPath_o_CHILDREN E_o_CHILDREN S_BOTH F_reachesBelow_o_BOTH F_reachesPath_o_BOTH E_o_BOTH p e ha hc hk s m _ below hf ((Spec.applies_iff_loose hf).mp happ).1 ⟨rfl, State.Warmed39.refl s, rfl⟩ trivial
  refine ⟨n, _, h1, h2, h3, hpost _ _ _ _ _ _ ⟨Cond.after_iff.mpr rfl, Cond.after_iff.mpr (eq_i res_at (Term.int_eval (1)) rfl), trivial⟩ ⟨hq.1, hq.2.1, (hq.2.2.sift fun y hy => Or.inr (N y hy)).mono (by decide) (by decide)⟩⟩
theorem main_1_1 : Claimed_1_1 := comes_1 fun _ _ _ _ _ _ h hF => ⟨h.1, hF⟩
theorem main_1_2 : Claimed_1_2 := comes_1 fun _ _ _ _ _ _ h hF => ⟨h.2.1, hF⟩
end Jvm.Pilot.@@N@@
namespace Jvm.Pilot.@@N@@
open Jvm Jvm.ClassFile Sem Op Lib Jvm.Free Jvm.Stand Jvm.Pilot.@@N@@.Jvm.D
/-! MADE BY PROGRAM (witnessworld.py) out of the Statement's table words and the real class files: 12 classes; the members and pool entries that the words name. The judged class is class 1, her method 1. -/
namespace start1
open Jvm.ClassFile
def u (s : String) : CpInfo := .utf8 (stringToUtf16 s)
/-- a pool by its gaps: so many unusable entries, then the entry; so many at the end -/
def gap : Nat → List CpInfo → List CpInfo
  | 0, r => r
  | n + 1, r => .unusable :: gap n r
def poolList (es : List (Nat × CpInfo)) (last : Nat) : List CpInfo := es.foldr (fun e r => gap e.1 (e.2 :: r)) (gap last [])
def pool (es : List (Nat × CpInfo)) (last : Nat) : Array CpInfo := ⟨poolList es last⟩
def fileOf (pool : Array CpInfo) (this : Nat) (attrs : Array Attribute := #[]) (ms : Array MethodInfo := #[]) (fl : Nat := 33) (sup : Nat := 0) (ifs : Array Nat := #[]) (fds : Array FieldInfo := #[]) : ClassFile where
  minorVersion := 0
  majorVersion := 65
  constantPool := pool
  accessFlags := fl
  thisClass := this
  superClass := sup
  interfaces := ifs
  fields := fds
  methods := ms
  attributes := attrs
def plain (name : String) (sup : Option ClassId) : Class where
  name := name
  kind := .ordinary
  loader := none
  accessFlags := 33
  super := sup
  interfaces := #[]
  cf := none
  fields := #[]
  methods := #[]
  instanceTypes := #[]
  staticTypes := #[]
  resolved := #[]
  callSites := []
  init := .initialized
  statics := none
  mirror := none

def pool0 : Array CpInfo := pool [(5, u "<init>"), (0, u "()V"), (1, .class_ 10), (1, u "java/lang/Object")] 113

def k0m0 : Method := { name := "<init>", desc := "()V", sig := { parameters := [], returnType := none }, accessFlags := 1, code := none }
/-- java/lang/Object -/
def k0 : Class := { plain "java/lang/Object" none with
  accessFlags := 33
  interfaces := #[]
  cf := some (fileOf pool0 8 #[] #[{ accessFlags := 1, nameIndex := 5, descriptorIndex := 6, attributes := #[] }] 33 0 #[] #[])
  fields := #[]
  methods := #[k0m0]
  instanceTypes := #[]
  staticTypes := #[]
  resolved := Array.replicate 124 none
  statics := none }

def pool1 : Array CpInfo := pool [(2, .class_ 4), (1, u "java/lang/Object"), (0, u "<init>"), (0, u "()V"), (0, .integer 2147483647), (0, .fieldref 9 10), (0, .class_ 11), (0, .nameAndType 12 13), (0, u "com/example/uperm/uperm/Scope"), (0, u "SELF"), (0, u "Lcom/example/uperm/uperm/Scope;"), (0, .fieldref 9 15), (0, .nameAndType 16 13), (0, u "CHILDREN"), (0, .fieldref 9 18), (0, .nameAndType 19 13), (0, u "BOTH"), (0, .methodref 9 21), (0, .nameAndType 22 23), (0, u "reaches"), (0, u "(Z)Z"), (0, .class_ 25), (0, u "com/example/uperm/uperm/ScopeReachesPinLaw"), (2, u "law"), (0, u "(II)Z")] 3

def k1m0 : Method := { name := "<init>", desc := "()V", sig := { parameters := [], returnType := none }, accessFlags := 2, code := none }
def k1c1 : Code := { maxStack := 2, maxLocals := 6, code := code, exceptionTable := #[], attributes := #[] }
def k1m1 : Method := { name := "law", desc := "(II)Z", sig := { parameters := [.int, .int], returnType := some .boolean }, accessFlags := 9, code := some k1c1 }
/-- com/example/uperm/uperm/ScopeReachesPinLaw -/
def k1 : Class := { plain "com/example/uperm/uperm/ScopeReachesPinLaw" (some 0) with
  accessFlags := 49
  interfaces := #[]
  cf := some (fileOf pool1 24 #[] #[{ accessFlags := 2, nameIndex := 5, descriptorIndex := 6, attributes := #[] }, { accessFlags := 9, nameIndex := 28, descriptorIndex := 29, attributes := #[] }] 49 2 #[] #[])
  fields := #[]
  methods := #[k1m0, k1m1]
  instanceTypes := #[]
  staticTypes := #[]
  resolved := Array.replicate 33 none
  statics := none }

def pool2 : Array CpInfo := pool [(1, .class_ 2), (0, u "java/lang/constant/Constable"), (0, .class_ 4), (0, u "java/lang/Object")] 6

/-- java/lang/constant/Constable -/
def k2 : Class := { plain "java/lang/constant/Constable" (some 0) with
  accessFlags := 1537
  interfaces := #[]
  cf := some (fileOf pool2 1 #[] #[] 1537 3 #[] #[])
  fields := #[]
  methods := #[]
  instanceTypes := #[]
  staticTypes := #[]
  resolved := Array.replicate 11 none
  statics := none }

def pool3 : Array CpInfo := pool [(1, .class_ 2), (0, u "java/lang/Comparable"), (0, .class_ 4), (0, u "java/lang/Object")] 7

/-- java/lang/Comparable -/
def k3 : Class := { plain "java/lang/Comparable" (some 0) with
  accessFlags := 1537
  interfaces := #[]
  cf := some (fileOf pool3 1 #[] #[] 1537 3 #[] #[])
  fields := #[]
  methods := #[]
  instanceTypes := #[]
  staticTypes := #[]
  resolved := Array.replicate 12 none
  statics := none }

def pool4 : Array CpInfo := pool [(1, .class_ 2), (0, u "java/io/Serializable"), (0, .class_ 4), (0, u "java/lang/Object")] 2

/-- java/io/Serializable -/
def k4 : Class := { plain "java/io/Serializable" (some 0) with
  accessFlags := 1537
  interfaces := #[]
  cf := some (fileOf pool4 1 #[] #[] 1537 3 #[] #[])
  fields := #[]
  methods := #[]
  instanceTypes := #[]
  staticTypes := #[]
  resolved := Array.replicate 7 none
  statics := none }

def pool5 : Array CpInfo := pool [(2, .class_ 4), (1, u "java/lang/Enum"), (0, u "name"), (0, u "Ljava/lang/String;"), (2, u "ordinal"), (0, u "I"), (1, .class_ 14), (1, u "java/lang/Object"), (4, u "hash"), (86, .class_ 108), (1, u "java/lang/Enum$EnumDesc"), (2, .class_ 112), (0, u "java/lang/constant/Constable"), (0, .class_ 114), (0, u "java/lang/Comparable"), (0, .class_ 116), (0, u "java/io/Serializable")] 87

/-- java/lang/Enum -/
def k5 : Class := { plain "java/lang/Enum" (some 0) with
  accessFlags := 1057
  interfaces := #[2, 3, 4]
  cf := some (fileOf pool5 2 #[.nestMembers #[106]] #[] 1057 12 #[111, 113, 115] #[{ accessFlags := 18, nameIndex := 5, descriptorIndex := 6, attributes := #[] }, { accessFlags := 18, nameIndex := 9, descriptorIndex := 10, attributes := #[] }, { accessFlags := 2, nameIndex := 19, descriptorIndex := 10, attributes := #[] }])
  fields := #[{ name := "name", type := (.object "java/lang/String"), accessFlags := 18, slot := 0, constantValue := 0 }, { name := "ordinal", type := .int, accessFlags := 18, slot := 1, constantValue := 0 }, { name := "hash", type := .int, accessFlags := 2, slot := 2, constantValue := 0 }]
  methods := #[]
  instanceTypes := #[(.object "java/lang/String"), .int, .int]
  staticTypes := #[]
  resolved := Array.replicate 204 none
  statics := none }

def pool6 : Array CpInfo := pool [(1, .class_ 2), (0, u "com/example/uperm/uperm/Scope"), (2, u "SELF"), (0, u "Lcom/example/uperm/uperm/Scope;"), (2, u "CHILDREN"), (2, u "BOTH"), (2, u "$VALUES"), (0, u "[Lcom/example/uperm/uperm/Scope;"), (6, .class_ 25), (1, u "java/lang/Enum"), (6, .fieldref 1 33), (0, .nameAndType 34 35), (0, u "reachesPath"), (0, u "Z"), (0, .fieldref 1 37), (0, .nameAndType 38 35), (0, u "reachesBelow"), (23, u "reaches"), (0, u "(Z)Z")] 6

def k6c0 : Code := { maxStack := 1, maxLocals := 2, code := prog_16_method_5_code, exceptionTable := #[], attributes := #[] }
def k6m0 : Method := { name := "reaches", desc := "(Z)Z", sig := { parameters := [.boolean], returnType := some .boolean }, accessFlags := 0, code := some k6c0 }
/-- com/example/uperm/uperm/Scope -/
def k6 : Class := { plain "com/example/uperm/uperm/Scope" (some 5) with
  accessFlags := 16433
  interfaces := #[]
  cf := some (fileOf pool6 1 #[] #[{ accessFlags := 0, nameIndex := 62, descriptorIndex := 63, attributes := #[] }] 16433 23 #[] #[{ accessFlags := 16409, nameIndex := 5, descriptorIndex := 6, attributes := #[] }, { accessFlags := 16409, nameIndex := 9, descriptorIndex := 6, attributes := #[] }, { accessFlags := 16409, nameIndex := 12, descriptorIndex := 6, attributes := #[] }, { accessFlags := 18, nameIndex := 34, descriptorIndex := 35, attributes := #[] }, { accessFlags := 18, nameIndex := 38, descriptorIndex := 35, attributes := #[] }, { accessFlags := 4122, nameIndex := 15, descriptorIndex := 16, attributes := #[] }])
  fields := #[{ name := "SELF", type := (.object "com/example/uperm/uperm/Scope"), accessFlags := 16409, slot := 0, constantValue := 0 }, { name := "CHILDREN", type := (.object "com/example/uperm/uperm/Scope"), accessFlags := 16409, slot := 1, constantValue := 0 }, { name := "BOTH", type := (.object "com/example/uperm/uperm/Scope"), accessFlags := 16409, slot := 2, constantValue := 0 }, { name := "reachesPath", type := .boolean, accessFlags := 18, slot := 3, constantValue := 0 }, { name := "reachesBelow", type := .boolean, accessFlags := 18, slot := 4, constantValue := 0 }, { name := "$VALUES", type := (.array (.object "com/example/uperm/uperm/Scope")), accessFlags := 4122, slot := 3, constantValue := 0 }]
  methods := #[k6m0]
  instanceTypes := #[(.object "java/lang/String"), .int, .int, .boolean, .boolean]
  staticTypes := #[(.object "com/example/uperm/uperm/Scope"), (.object "com/example/uperm/uperm/Scope"), (.object "com/example/uperm/uperm/Scope"), (.array (.object "com/example/uperm/uperm/Scope"))]
  resolved := Array.replicate 70 none
  statics := some 0 }

def pool7 : Array CpInfo := pool [(1, u "java/lang/Cloneable"), (0, .class_ 1), (0, u "java/lang/Object"), (0, .class_ 3)] 3

/-- java/lang/Cloneable -/
def k7 : Class := { plain "java/lang/Cloneable" (some 0) with
  accessFlags := 1537
  interfaces := #[]
  cf := some (fileOf pool7 2 #[] #[] 1537 4 #[] #[])
  fields := #[]
  methods := #[]
  instanceTypes := #[]
  staticTypes := #[]
  resolved := Array.replicate 8 none
  statics := none }

/-- the primitive byte -/
def k8 : Class := { plain "byte" none with kind := .primitive 'B', accessFlags := 0x411 }
/-- [B -/
def k9 : Class := { plain "[B" (some 0) with kind := .array 8 .byte, interfaces := #[7, 4], accessFlags := 1041 }

/-- the primitive int -/
def k10 : Class := { plain "int" none with kind := .primitive 'I', accessFlags := 0x411 }
/-- [I -/
def k11 : Class := { plain "[I" (some 0) with kind := .array 10 .int, interfaces := #[7, 4], accessFlags := 1041 }

def heap : Heap := #[{ cls := 6, slots := #[.ref 1, .ref 2, .ref 3, .null], vm := .statics 6 },
  { cls := 6, slots := #[.null, .int 0, .int 0, .int 1, .int 0], vm := .none },
  { cls := 6, slots := #[.null, .int 1, .int 0, .int 0, .int 1], vm := .none },
  { cls := 6, slots := #[.null, .int 2, .int 0, .int 1, .int 1], vm := .none }]
def classes : Array Class := #[k0, k1, k2, k3, k4, k5, k6, k7, k8, k9, k10, k11]
def interned : List (Array UInt16 × Addr) := []
def slotsUsed : Nat := 19
def theMethod : MethodId := ⟨1, 1⟩
def args0 : Array Value := #[.int 1, .int 2]
def aboutOver (below : List Frame) : State where
  vm := { classes := classes, interned := interned.toArray }
  heap := heap
  slotsUsed := slotsUsed
  threads := #[{ frames := .invoking theMethod args0 :: below }]
def below0 : List Frame := [.native { method := ⟨0, 0⟩, args := #[] }]
def about1 : State := aboutOver below0
def p0 : Program := .bare "" "" ""
def e0 : Env := launch0.env 0 0 0
theorem w_frames : about1.frames = Frame.invoking theMethod args0 :: below0 := rfl
set_option maxRecDepth 65536 in
theorem w_args : argsFit about1.vm theMethod args0 = true := by decide +kernel
set_option maxRecDepth 65536 in
theorem w_heap : heapFits about1 = true := by decide +kernel
set_option maxRecDepth 65536 in
theorem w_runnable : about1.curStatus? = some .runnable := by decide +kernel
set_option maxRecDepth 65536 in
theorem w_alone : about1.alone = true := by decide +kernel
set_option maxRecDepth 65536 in
theorem w_named : about1.methodNamed? x = some theMethod := by decide +kernel
set_option maxRecDepth 65536 in
theorem w_hears : about1.hears theMethod below0 = true := by decide +kernel
set_option maxRecDepth 65536 in
theorem w_ripe : about1.ripe theMethod args0 below0 = true := by decide +kernel
theorem w_running : about1.status = .running := rfl
set_option maxRecDepth 65536 in
theorem w_room : about1.hasRoom e0.platform room_1 = true :=
  launch0.hasRoom_least _ room_1 (by decide +kernel) (by decide +kernel) (by decide +kernel) (by decide +kernel) (by decide +kernel) (by decide +kernel)
theorem allAtoms_all (ts : List Jvm.Cond) (a : Array Jvm.Value) (st : Jvm.State) : (allAtoms ts).before a st = ts.all (fun c => c.before a st) := by
  induction ts with
  | nil => rfl
  | cons c t ih =>
    show (Jvm.Cond.and c (allAtoms t)).before a st = _
    rw [Jvm.Cond.before_and, ih, List.all_cons]
def words1 : List Jvm.Cond := Jvm.Cond.code x code maxLocals ret :: tables_1
/-- a 'code' word, met by the world's own term for the bytes: nothing is compared byte by byte -/
theorem code_word {y : MethodName} {bytes : ByteArray} {mx : Nat} {rt : Option FieldType} {a : Array Value} {s : State} {m : MethodId} {meth : Method} {c : Code} (h1 : s.methodNamed? y = some m) (h2 : s.vm.method? m = some meth) (h3 : meth.code = some c) (h4 : c.code = bytes)
    (h5 : (c.maxLocals == mx && c.exceptionTable.isEmpty && decide (c.maxStack ≤ mostOperands) && decide (meth.sig.returnType = rt) && !meth.locks && decide (parseMethodDescriptor y.desc = some meth.sig)) = true) : (Jvm.Cond.code y bytes mx rt).before a s = true := by
  simp only [Bool.and_eq_true, beq_iff_eq, Bool.not_eq_true', decide_eq_true_eq] at h5
  obtain ⟨⟨⟨⟨⟨g1, g2⟩, g3⟩, g4⟩, g5⟩, g6⟩ := h5
  simp [Cond.before, Cond.holds, Cond.value, h1, h2, h3, h4, g1, g2, g3, g4, g5, g6]
def isCode : Jvm.Cond → Bool
  | .code _ _ _ _ => true
  | _ => false
theorem all_split {L : List Jvm.Cond} {P : Jvm.Cond → Bool} (h1 : L.all (fun c => isCode c || P c) = true) (h2 : ∀ c ∈ L.filter isCode, P c = true) : L.all P = true := by
  refine List.all_eq_true.mpr fun c hc => ?_
  have h := List.all_eq_true.mp h1 c hc
  rcases Bool.eq_false_or_eq_true (isCode c) with hi | hi
  · exact h2 c (List.mem_filter.mpr ⟨hc, hi⟩)
  · simpa [hi] using h
set_option maxRecDepth 65536 in
theorem w_c0 : (Jvm.Cond.code x code maxLocals ret).before args0 about1 = true := code_word (m := ⟨1, 1⟩) (meth := k1m1) (c := k1c1) (by decide +kernel) rfl rfl rfl (by decide +kernel)
set_option maxRecDepth 65536 in
theorem w_c1 : (Jvm.Cond.code ({ cls := "com/example/uperm/uperm/Scope", name := "reaches", desc := "(Z)Z" } : Jvm.MethodName) prog_16_method_5_code (2 : Nat) (Option.some Jvm.ClassFile.FieldType.boolean)).before args0 about1 = true := code_word (m := ⟨6, 0⟩) (meth := k6m0) (c := k6c0) (by decide +kernel) rfl rfl rfl (by decide +kernel)
def codes1 : List Jvm.Cond := [Jvm.Cond.code x code maxLocals ret, Jvm.Cond.code ({ cls := "com/example/uperm/uperm/Scope", name := "reaches", desc := "(Z)Z" } : Jvm.MethodName) prog_16_method_5_code (2 : Nat) (Option.some Jvm.ClassFile.FieldType.boolean)]
set_option maxRecDepth 65536 in
theorem codes_eq : words1.filter isCode = codes1 := rfl
theorem w_codes : ∀ c ∈ words1.filter isCode, c.before args0 about1 = true := by
  rw [codes_eq]
  intro c hc
  simp only [codes1, List.mem_cons, List.not_mem_nil, or_false] at hc
  rcases hc with rfl | rfl
  · exact w_c0
  · exact w_c1
set_option maxRecDepth 65536 in
theorem w_t1 : words1.all (fun c => isCode c || c.before args0 about1) = true := by decide +kernel
theorem w_tables : (allAtoms (Jvm.Cond.code x code maxLocals ret :: tables_1)).before args0 about1 = true := by
  rw [allAtoms_all]
  show words1.all (fun c => c.before args0 about1) = true
  refine all_split ?_ w_codes
  rw [w_t1]
set_option maxRecDepth 65536 in
theorem w_case : (Jvm.Cond.and given_1 narrow_1).before args0 about1 = true := by decide +kernel
theorem w_applies : (headSpec (Jvm.Cond.code x code maxLocals ret :: tables_1) room_1).applies x e0.platform about1 = true :=
  (Spec.applies_iff w_frames).mpr ⟨w_running, w_runnable, w_alone, w_named, w_hears, w_ripe, w_room, w_tables⟩
theorem atStart : AtStart classFile x code maxLocals ret World_1 tables_1 room_1 Calls_1 rest_1 Pre_1 launch0 p0 e0 about1 theMethod args0 below0 :=
  ⟨lists_1, trivial, launch0.admits_env _ _ _, launch0.least_env, fairChoices_fair.cas, fairChoices_fair.clock, w_frames, w_args, w_heap, w_applies, trivial, trivial, w_case⟩
end start1
theorem witness_1 : WitnessClaimed_1 := ⟨start1.p0, start1.e0, start1.about1, start1.theMethod, start1.args0, start1.below0, start1.atStart⟩
end Jvm.Pilot.@@N@@
