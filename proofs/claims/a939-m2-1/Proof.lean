import JvmDerived
import JvmDerived.Pilot.@@N@@Statement
import JvmDerived.Pilot.@@N@@Code
set_option linter.unusedVariables false
set_option linter.unusedSimpArgs false
namespace Jvm.RoadKit
open Sem ClassFile Op Lib Jvm.Stand Jvm.Free Jvm.LawKit
section New
variable {p : Program} {l : Launch} {e : Env} {R : Room} {s : State} {m : MethodId} {args : Array Value} {below : List Frame} {meth : Method} {c : Code} {T : State} {locs : List Loc} {cells slots : Nat}
theorem retI (X : Stand p l e R s m args below meth c T locs cells slots) (hx : p.tables.exec = Jvm.exec) {pc : Nat} {Ls : Array Slot} {z : Int32} {rest : List Value} (hret : meth.sig.returnType = some .int) (hd : decode c.code pc = .ok (.ireturn, 1)) {fs : List Frame}
    (hl : ∀ (f : JFrame) (acts : List Action), f.method = m → f.locked = none → f.entered = [] → (doReturn e (T.setTop f) acts (some (.int z))).1 = T.setFrames fs) : Steps p.tables e below (T.setTop (mkF m pc Ls (.int z :: rest))) (T.setFrames fs) := by
  have hm' : T.vm.method? m = some meth := X.method'
  have hn : narrow .int (.int z) = .int z := rfl
  show Steps p.tables e below (T.setTop { method := m, pc := pc, locals := Ls, stack := _ :: rest, locked := none }) _
  jvm_step X.here [X.here.top, hx, hd, hm', hret, hn]
  first | (intro acts; rw [hl _ acts rfl rfl rfl]) | rw [hl _ _ rfl rfl rfl]
  exact Steps.refl _
theorem own_lremM {g : JFrame} {target : State} (X : Stand p l e R s m args below meth c T locs cells slots) (hx : p.tables.exec = Jvm.exec) (hg : g.method = m) {x y : Int64} {rest : List Value} (hd : decode c.code g.pc = .ok (.lrem, 1)) (hs : g.stack = .long y :: .long x :: rest) (hy : y ≠ 0)
    (hr : Steps p.tables e below (T.setTop { g with pc := g.pc + 1, stack := .long (x % y) :: rest }) target) : Steps p.tables e below (T.setTop g) target := by
  have q : x - x / y * y = x % y := lrem_mod x y
  exact XS.lrem X.here hx hg hd hs hy (by rw [q]; exact hr)
theorem own_getD_int (L : List Int32) (n : Nat) (d : Int32) : (L.map Value.int).getD n (.int d) = .int (L.getD n d) := by simp [List.getD_eq_getElem?_getD, List.getElem?_map]
theorem own_getD_long (L : List Int64) (n : Nat) (d : Int64) : (L.map Value.long).getD n (.long d) = .long (L.getD n d) := by simp [List.getD_eq_getElem?_getD, List.getElem?_map]
theorem own_lt_nat {j z : Int32} (h : ¬ j < 0) (q : j < z) : j.toNatClampNeg < z.toNatClampNeg := by
  rw [Int32.lt_iff_toInt_lt] at h q; have : (0 : Int32).toInt = 0 := rfl
  simp only [Int32.toNatClampNeg]; omega
theorem own_eq_int {t : Term} {v : Int32} {args : Array Value} {s : State} (h : (Cond.eq t (.int v)).value args s none s [] = some true) : t.eval args s none [] s = some (.int v) := by
  simp only [Cond.value, Term.eval] at h
  cases ht : t.eval args s none [] s with
  | none => simp [ht] at h
  | some x => cases x <;> simp [ht] at h ⊢; exact h
theorem own_eq_long {t : Term} {v : Int64} {args : Array Value} {s : State} (h : (Cond.eq t (.long v)).value args s none s [] = some true) : t.eval args s none [] s = some (.long v) := by
  simp only [Cond.value, Term.eval] at h
  cases ht : t.eval args s none [] s with
  | none => simp [ht] at h
  | some x => cases x <;> simp [ht] at h ⊢; exact h
theorem own_selpriv {s : State} {args : Array Value} {y : MethodName} {n : Nat} (wi : (Cond.instantiable y.cls n).before args s = true) (hpriv : s.PrivateAt y) (hinst : (Cond.instanceMethod y).before args s = true) (hy : y.cls ≠ "java/lang/invoke/MethodHandle" ∧ y.cls ≠ "java/lang/invoke/VarHandle") : (Cond.selects y.cls y y).before args s = true := by
  obtain ⟨c, k, h1, h2, -, h4, -⟩ := Cond.instantiable_spec wi
  exact Jvm.Stand.selects_self_of_private h1 h2 (Bool.or_eq_false_iff.mp h4).1 hpriv hinst hy
theorem own_narb (P : Prop) [Decidable P] : nar .boolean (if P then (1 : Int32) else (0 : Int32)) = if P then (1 : Int32) else (0 : Int32) := by by_cases h : P <;> simp only [h, if_true, if_false] <;> rfl
end New
end Jvm.RoadKit
namespace Jvm.Pilot.@@N@@
open Jvm Jvm.ClassFile Sem Op Lib Jvm.Free Jvm.Stand Jvm.LawKit Jvm.RoadKit Bundle Jvm.Pilot.@@N@@.Jvm.D
theorem d2_0 : decode prog_28_method_2_code 0 = .ok (.iload_n 1, 1) := by decide +kernel
theorem d2_1 : decode prog_28_method_2_code 1 = .ok (.iconst 1, 1) := by decide +kernel
theorem d2_2 : decode prog_28_method_2_code 2 = .ok (.if_icmp .lt 28, 3) := by decide +kernel
theorem d2_5 : decode prog_28_method_2_code 5 = .ok (.iload_n 1, 1) := by decide +kernel
theorem d2_6 : decode prog_28_method_2_code 6 = .ok (.bipush 32, 2) := by decide +kernel
theorem d2_8 : decode prog_28_method_2_code 8 = .ok (.if_icmp .gt 22, 3) := by decide +kernel
theorem d2_11 : decode prog_28_method_2_code 11 = .ok (.iload_n 0, 1) := by decide +kernel
theorem d2_12 : decode prog_28_method_2_code 12 = .ok (.iconst 1, 1) := by decide +kernel
theorem d2_13 : decode prog_28_method_2_code 13 = .ok (.iload_n 1, 1) := by decide +kernel
theorem d2_14 : decode prog_28_method_2_code 14 = .ok (.iconst 1, 1) := by decide +kernel
theorem d2_15 : decode prog_28_method_2_code 15 = .ok (.isub, 1) := by decide +kernel
theorem d2_16 : decode prog_28_method_2_code 16 = .ok (.ishl, 1) := by decide +kernel
theorem d2_17 : decode prog_28_method_2_code 17 = .ok (.iand, 1) := by decide +kernel
theorem d2_18 : decode prog_28_method_2_code 18 = .ok (.ifCond .eq 7, 3) := by decide +kernel
theorem d2_21 : decode prog_28_method_2_code 21 = .ok (.iconst 1, 1) := by decide +kernel
theorem d2_22 : decode prog_28_method_2_code 22 = .ok (.goto 4, 3) := by decide +kernel
theorem d2_25 : decode prog_28_method_2_code 25 = .ok (.iconst 0, 1) := by decide +kernel
theorem d2_26 : decode prog_28_method_2_code 26 = .ok (.istore_n 2, 1) := by decide +kernel
theorem d2_27 : decode prog_28_method_2_code 27 = .ok (.goto 14, 3) := by decide +kernel
theorem d2_30 : decode prog_28_method_2_code 30 = .ok (.iload_n 0, 1) := by decide +kernel
theorem d2_31 : decode prog_28_method_2_code 31 = .ok (.iconst (-1), 1) := by decide +kernel
theorem d2_32 : decode prog_28_method_2_code 32 = .ok (.if_icmp .ne 7, 3) := by decide +kernel
theorem d2_35 : decode prog_28_method_2_code 35 = .ok (.iconst 1, 1) := by decide +kernel
theorem d2_36 : decode prog_28_method_2_code 36 = .ok (.goto 4, 3) := by decide +kernel
theorem d2_39 : decode prog_28_method_2_code 39 = .ok (.iconst 0, 1) := by decide +kernel
theorem d2_40 : decode prog_28_method_2_code 40 = .ok (.istore_n 2, 1) := by decide +kernel
theorem d2_41 : decode prog_28_method_2_code 41 = .ok (.iload_n 2, 1) := by decide +kernel
theorem d2_42 : decode prog_28_method_2_code 42 = .ok (.ireturn, 1) := by decide +kernel
theorem pn_29 : plainName "com/example/libbranch/libbranch/view/WhatToShow" = true := by first | (simp [plainName, overriddenIn]; done) | decide +kernel
def v2_32_s0 (p0 : Int32) : Int32 := if p0 = (-1 : Int32) then (1 : Int32) else (0 : Int32)
def v2_18_s0 (p0 : Int32) (p1 : Int32) : Int32 := if (p0 &&& ((1 : Int32) <<< ((p1 - (1 : Int32)) &&& 31))) = (0 : Int32) then (0 : Int32) else (1 : Int32)
def v2_8_l2 (p0 : Int32) (p1 : Int32) : Int32 := if (32 : Int32) < p1 then (v2_32_s0 p0) else (v2_18_s0 p0 p1)
def v2_2_l2 (p0 : Int32) (p1 : Int32) : Int32 := if p1 < (1 : Int32) then (v2_32_s0 p0) else (v2_8_l2 p0 p1)
theorem ef_rm2 (m : MethodId) (p0 : Int32) (p1 : Int32) : entryFrame m #[(.int p0), (.int p1)] 3 = mkF m 0 #[.val (.int p0), .val (.int p1), .unset] [] := by first | (simp [entryFrame, mkF, argsToLocals, Value.category]; done) | rfl
def Q2 (Z : State) (p0 : Int32) (p1 : Int32) (h0 : Heap) (n0 : Nat) (v : Option Value) (h : Heap) (L : List Loc) : Prop := v = some (.int (nar .boolean (v2_2_l2 p0 p1))) ∧ Fr n0 L ∧ h = h0
set_option maxRecDepth 65536 in
set_option maxHeartbeats 40000000 in
theorem rm2 (l : Launch) (Z : State) (a0 : Array Value) (hw : ∀ d ∈ tables_1, d.before a0 Z = true) (ws : List Jvm.Cond) (p0 : Int32) (p1 : Int32) (h0 : Heap) (n0 : Nat) (Z0 : n0 ≤ h0.size) :
    MetFree l (⟨"com/example/libbranch/libbranch/view/WhatToShow", "shows", "(IS)Z"⟩ : MethodName) (head1 (Jvm.Cond.code (⟨"com/example/libbranch/libbranch/view/WhatToShow", "shows", "(IS)Z"⟩ : MethodName) prog_28_method_2_code 3 (some .boolean) :: ws) ({ frames := 0, cells := 0, slots := 0, locals := 0 } : Room)) (fun a U => a = #[(.int p0), (.int p1)] ∧ Z.Warmed39 U.vm ∧ U.heap = h0) (fun _ _ _ _ _ => True) (fun _ U o U' => ∃ v L, o = .returned v ∧ Q2 Z p0 p1 h0 n0 v U'.heap L ∧ FrameEnd U o U' L ({ frames := 0, cells := 0, slots := 0, locals := 0 } : Room).cells ({ frames := 0, cells := 0, slots := 0, locals := 0 } : Room).slots) := by
  refine MetFree.of_bodySF (plainFor_of_name pn_29) hisR ?_
  intro p e s m args below meth c s₁ Bd hml0 hP hK
  obtain ⟨rfl, hZ, hh⟩ := hP
  have hx := Bd.exec
  have hby := Bd.bytes
  have hml : c.maxLocals = 3 := hml0
  have hown : s.vm.findClass "com/example/libbranch/libbranch/view/WhatToShow" = some m.cls := findClass_of_methodNamed Bd.named
  have hnm := (name_of_methodNamed Bd.named Bd.method).1
  have X0 : Stand p l e ({ frames := 0, cells := 0, slots := 0, locals := 0 } : Room) s m #[(.int p0), (.int p1)] below meth c s₁ [] 0 0 := Stand.of_body Bd
  have e0 : s₁.heap = h0 := by rw [← hh, Bd.state]; rfl
  have N0 := Fr.nil n0
  have KC0 := Keep.refl h0 ([] : List Addr)
  have pre0 : ∀ t, Steps p.tables e below (s₁.setTop (mkF m 0 #[.val (.int p0), .val (.int p1), .unset] [])) t → Steps p.tables e below (s₁.setTop (entryFrame m #[(.int p0), (.int p1)] 3)) t := fun t k => castTop (ef_rm2 m p0 p1) k
  have k11 := fun (t : State) (kk : Steps p.tables e below (s₁.setTop (mkF m 42 #[.val (.int p0), .val (.int p1), .val (.int (v2_2_l2 p0 p1))] [(.int (v2_2_l2 p0 p1))])) t) => pre0 t (by
    show Steps p.tables e below (s₁.setTop (mkF m 0 #[.val (.int p0), .val (.int p1), .unset] [])) _
    refine XS.iloadN X0.here hx rfl (hb hby d2_0) rfl ?_
    show Steps p.tables e below (s₁.setTop (mkF m 1 #[.val (.int p0), .val (.int p1), .unset] [(.int p1)])) _
    refine XS.iconst X0.here hx rfl (hb hby d2_1) ?_
    suffices k10 : Steps p.tables e below (s₁.setTop (mkF m 41 #[.val (.int p0), .val (.int p1), .val (.int (v2_2_l2 p0 p1))] [])) t by
      by_cases hc2_1 : p1 < (1 : Int32)
      · rw [(show (v2_2_l2 p0 p1) = (v2_32_s0 p0) from if_pos hc2_1)] at k10
        show Steps p.tables e below (s₁.setTop (mkF m 2 #[.val (.int p0), .val (.int p1), .unset] [(.int (1 : Int32)), (.int p1)])) _
        refine XS.icmpYes X0.here hx rfl (pc0 := 2) (pc' := 30) rfl (hb hby d2_2) rfl (tlt hc2_1).1 (by decide) (by decide) ?_
        show Steps p.tables e below (s₁.setTop (mkF m 30 #[.val (.int p0), .val (.int p1), .unset] [])) _
        refine XS.iloadN X0.here hx rfl (hb hby d2_30) rfl ?_
        show Steps p.tables e below (s₁.setTop (mkF m 31 #[.val (.int p0), .val (.int p1), .unset] [(.int p0)])) _
        refine XS.iconst X0.here hx rfl (hb hby d2_31) ?_
        suffices k3 : Steps p.tables e below (s₁.setTop (mkF m 40 #[.val (.int p0), .val (.int p1), .unset] [(.int (v2_32_s0 p0))])) t by
          by_cases hc32_2 : p0 = (-1 : Int32)
          · rw [(show (v2_32_s0 p0) = (1 : Int32) from if_pos hc32_2)] at k3
            show Steps p.tables e below (s₁.setTop (mkF m 32 #[.val (.int p0), .val (.int p1), .unset] [(.int (-1 : Int32)), (.int p0)])) _
            refine XS.icmpNo X0.here hx rfl (hb hby d2_32) rfl (teq hc32_2).2 ?_
            show Steps p.tables e below (s₁.setTop (mkF m 35 #[.val (.int p0), .val (.int p1), .unset] [])) _
            refine XS.iconst X0.here hx rfl (hb hby d2_35) ?_
            show Steps p.tables e below (s₁.setTop (mkF m 36 #[.val (.int p0), .val (.int p1), .unset] [(.int (1 : Int32))])) _
            refine XS.goto X0.here hx rfl (pc0 := 36) (pc' := 40) rfl (hb hby d2_36) (by decide) (by decide) ?_
            exact k3
          · rw [(show (v2_32_s0 p0) = (0 : Int32) from if_neg hc32_2)] at k3
            show Steps p.tables e below (s₁.setTop (mkF m 32 #[.val (.int p0), .val (.int p1), .unset] [(.int (-1 : Int32)), (.int p0)])) _
            refine XS.icmpYes X0.here hx rfl (pc0 := 32) (pc' := 39) rfl (hb hby d2_32) rfl (feq hc32_2).2 (by decide) (by decide) ?_
            show Steps p.tables e below (s₁.setTop (mkF m 39 #[.val (.int p0), .val (.int p1), .unset] [])) _
            refine XS.iconst X0.here hx rfl (hb hby d2_39) ?_
            exact k3
        show Steps p.tables e below (s₁.setTop (mkF m 40 #[.val (.int p0), .val (.int p1), .unset] [(.int (v2_32_s0 p0))])) _
        refine XS.istoreN X0.here hx rfl (hb hby d2_40) rfl (l' := #[.val (.int p0), .val (.int p1), .val (.int (v2_32_s0 p0))]) rfl ?_
        exact k10
      · rw [(show (v2_2_l2 p0 p1) = (v2_8_l2 p0 p1) from if_neg hc2_1)] at k10
        show Steps p.tables e below (s₁.setTop (mkF m 2 #[.val (.int p0), .val (.int p1), .unset] [(.int (1 : Int32)), (.int p1)])) _
        refine XS.icmpNo X0.here hx rfl (hb hby d2_2) rfl (flt hc2_1).1 ?_
        show Steps p.tables e below (s₁.setTop (mkF m 5 #[.val (.int p0), .val (.int p1), .unset] [])) _
        refine XS.iloadN X0.here hx rfl (hb hby d2_5) rfl ?_
        show Steps p.tables e below (s₁.setTop (mkF m 6 #[.val (.int p0), .val (.int p1), .unset] [(.int p1)])) _
        refine XS.bipush X0.here hx rfl (hb hby d2_6) ?_
        suffices k9 : Steps p.tables e below (s₁.setTop (mkF m 41 #[.val (.int p0), .val (.int p1), .val (.int (v2_8_l2 p0 p1))] [])) t by
          by_cases hc8_4 : (32 : Int32) < p1
          · rw [(show (v2_8_l2 p0 p1) = (v2_32_s0 p0) from if_pos hc8_4)] at k9
            show Steps p.tables e below (s₁.setTop (mkF m 8 #[.val (.int p0), .val (.int p1), .unset] [(.int (32 : Int32)), (.int p1)])) _
            refine XS.icmpYes X0.here hx rfl (pc0 := 8) (pc' := 30) rfl (hb hby d2_8) rfl (tlt hc8_4).2.2.1 (by decide) (by decide) ?_
            show Steps p.tables e below (s₁.setTop (mkF m 30 #[.val (.int p0), .val (.int p1), .unset] [])) _
            refine XS.iloadN X0.here hx rfl (hb hby d2_30) rfl ?_
            show Steps p.tables e below (s₁.setTop (mkF m 31 #[.val (.int p0), .val (.int p1), .unset] [(.int p0)])) _
            refine XS.iconst X0.here hx rfl (hb hby d2_31) ?_
            suffices k6 : Steps p.tables e below (s₁.setTop (mkF m 40 #[.val (.int p0), .val (.int p1), .unset] [(.int (v2_32_s0 p0))])) t by
              by_cases hc32_5 : p0 = (-1 : Int32)
              · rw [(show (v2_32_s0 p0) = (1 : Int32) from if_pos hc32_5)] at k6
                show Steps p.tables e below (s₁.setTop (mkF m 32 #[.val (.int p0), .val (.int p1), .unset] [(.int (-1 : Int32)), (.int p0)])) _
                refine XS.icmpNo X0.here hx rfl (hb hby d2_32) rfl (teq hc32_5).2 ?_
                show Steps p.tables e below (s₁.setTop (mkF m 35 #[.val (.int p0), .val (.int p1), .unset] [])) _
                refine XS.iconst X0.here hx rfl (hb hby d2_35) ?_
                show Steps p.tables e below (s₁.setTop (mkF m 36 #[.val (.int p0), .val (.int p1), .unset] [(.int (1 : Int32))])) _
                refine XS.goto X0.here hx rfl (pc0 := 36) (pc' := 40) rfl (hb hby d2_36) (by decide) (by decide) ?_
                exact k6
              · rw [(show (v2_32_s0 p0) = (0 : Int32) from if_neg hc32_5)] at k6
                show Steps p.tables e below (s₁.setTop (mkF m 32 #[.val (.int p0), .val (.int p1), .unset] [(.int (-1 : Int32)), (.int p0)])) _
                refine XS.icmpYes X0.here hx rfl (pc0 := 32) (pc' := 39) rfl (hb hby d2_32) rfl (feq hc32_5).2 (by decide) (by decide) ?_
                show Steps p.tables e below (s₁.setTop (mkF m 39 #[.val (.int p0), .val (.int p1), .unset] [])) _
                refine XS.iconst X0.here hx rfl (hb hby d2_39) ?_
                exact k6
            show Steps p.tables e below (s₁.setTop (mkF m 40 #[.val (.int p0), .val (.int p1), .unset] [(.int (v2_32_s0 p0))])) _
            refine XS.istoreN X0.here hx rfl (hb hby d2_40) rfl (l' := #[.val (.int p0), .val (.int p1), .val (.int (v2_32_s0 p0))]) rfl ?_
            exact k9
          · rw [(show (v2_8_l2 p0 p1) = (v2_18_s0 p0 p1) from if_neg hc8_4)] at k9
            show Steps p.tables e below (s₁.setTop (mkF m 8 #[.val (.int p0), .val (.int p1), .unset] [(.int (32 : Int32)), (.int p1)])) _
            refine XS.icmpNo X0.here hx rfl (hb hby d2_8) rfl (flt hc8_4).2.2.1 ?_
            show Steps p.tables e below (s₁.setTop (mkF m 11 #[.val (.int p0), .val (.int p1), .unset] [])) _
            refine XS.iloadN X0.here hx rfl (hb hby d2_11) rfl ?_
            show Steps p.tables e below (s₁.setTop (mkF m 12 #[.val (.int p0), .val (.int p1), .unset] [(.int p0)])) _
            refine XS.iconst X0.here hx rfl (hb hby d2_12) ?_
            show Steps p.tables e below (s₁.setTop (mkF m 13 #[.val (.int p0), .val (.int p1), .unset] [(.int (1 : Int32)), (.int p0)])) _
            refine XS.iloadN X0.here hx rfl (hb hby d2_13) rfl ?_
            show Steps p.tables e below (s₁.setTop (mkF m 14 #[.val (.int p0), .val (.int p1), .unset] [(.int p1), (.int (1 : Int32)), (.int p0)])) _
            refine XS.iconst X0.here hx rfl (hb hby d2_14) ?_
            show Steps p.tables e below (s₁.setTop (mkF m 15 #[.val (.int p0), .val (.int p1), .unset] [(.int (1 : Int32)), (.int p1), (.int (1 : Int32)), (.int p0)])) _
            refine XS.isub X0.here hx rfl (hb hby d2_15) rfl ?_
            show Steps p.tables e below (s₁.setTop (mkF m 16 #[.val (.int p0), .val (.int p1), .unset] [(.int (p1 - (1 : Int32))), (.int (1 : Int32)), (.int p0)])) _
            refine XS.ishl X0.here hx rfl (hb hby d2_16) rfl ?_
            show Steps p.tables e below (s₁.setTop (mkF m 17 #[.val (.int p0), .val (.int p1), .unset] [(.int ((1 : Int32) <<< ((p1 - (1 : Int32)) &&& 31))), (.int p0)])) _
            refine XS.iand X0.here hx rfl (hb hby d2_17) rfl ?_
            suffices k8 : Steps p.tables e below (s₁.setTop (mkF m 26 #[.val (.int p0), .val (.int p1), .unset] [(.int (v2_18_s0 p0 p1))])) t by
              by_cases hc18_7 : (p0 &&& ((1 : Int32) <<< ((p1 - (1 : Int32)) &&& 31))) = (0 : Int32)
              · rw [(show (v2_18_s0 p0 p1) = (0 : Int32) from if_pos hc18_7)] at k8
                show Steps p.tables e below (s₁.setTop (mkF m 18 #[.val (.int p0), .val (.int p1), .unset] [(.int (p0 &&& ((1 : Int32) <<< ((p1 - (1 : Int32)) &&& 31))))])) _
                refine XS.ifYes X0.here hx rfl (pc0 := 18) (pc' := 25) rfl (hb hby d2_18) rfl ((if0 _ _).trans (teq hc18_7).1) (by decide) (by decide) ?_
                show Steps p.tables e below (s₁.setTop (mkF m 25 #[.val (.int p0), .val (.int p1), .unset] [])) _
                refine XS.iconst X0.here hx rfl (hb hby d2_25) ?_
                exact k8
              · rw [(show (v2_18_s0 p0 p1) = (1 : Int32) from if_neg hc18_7)] at k8
                show Steps p.tables e below (s₁.setTop (mkF m 18 #[.val (.int p0), .val (.int p1), .unset] [(.int (p0 &&& ((1 : Int32) <<< ((p1 - (1 : Int32)) &&& 31))))])) _
                refine XS.ifNo X0.here hx rfl (hb hby d2_18) rfl ((if0 _ _).trans (feq hc18_7).1) ?_
                show Steps p.tables e below (s₁.setTop (mkF m 21 #[.val (.int p0), .val (.int p1), .unset] [])) _
                refine XS.iconst X0.here hx rfl (hb hby d2_21) ?_
                show Steps p.tables e below (s₁.setTop (mkF m 22 #[.val (.int p0), .val (.int p1), .unset] [(.int (1 : Int32))])) _
                refine XS.goto X0.here hx rfl (pc0 := 22) (pc' := 26) rfl (hb hby d2_22) (by decide) (by decide) ?_
                exact k8
            show Steps p.tables e below (s₁.setTop (mkF m 26 #[.val (.int p0), .val (.int p1), .unset] [(.int (v2_18_s0 p0 p1))])) _
            refine XS.istoreN X0.here hx rfl (hb hby d2_26) rfl (l' := #[.val (.int p0), .val (.int p1), .val (.int (v2_18_s0 p0 p1))]) rfl ?_
            show Steps p.tables e below (s₁.setTop (mkF m 27 #[.val (.int p0), .val (.int p1), .val (.int (v2_18_s0 p0 p1))] [])) _
            refine XS.goto X0.here hx rfl (pc0 := 27) (pc' := 41) rfl (hb hby d2_27) (by decide) (by decide) ?_
            exact k9
        exact k10
    show Steps p.tables e below (s₁.setTop (mkF m 41 #[.val (.int p0), .val (.int p1), .val (.int (v2_2_l2 p0 p1))] [])) _
    refine XS.iloadN X0.here hx rfl (hb hby d2_41) rfl ?_
    exact kk)
  obtain ⟨fs, hr, hrun, hended, hW, hsame⟩ := X0.leave (v := some (.int (nar .boolean (v2_2_l2 p0 p1)))) (fun h => by rw [Bd.returns] at h; cases h)
  refine ⟨_, _, k11 _ ?_, hrun, hended, _, _, rfl, ?_, ⟨_, rfl⟩, hW, hsame.mono (by decide) (by decide)⟩
  · show Steps p.tables e below (s₁.setTop (mkF m 42 #[.val (.int p0), .val (.int p1), .val (.int (v2_2_l2 p0 p1))] [(.int (v2_2_l2 p0 p1))])) _
    exact retN X0 hx (t := .boolean) Bd.returns (by simp) (hb hby d2_42) hr
  · show Q2 Z p0 p1 h0 n0 _ s₁.heap _
    rw [e0]
    exact ⟨rfl, N0, rfl⟩
theorem pd_0 : parseMethodDescriptor "(IS)Z" = some ⟨[.int, .short], some .boolean⟩ := by decide +kernel
theorem d1_0 : decode prog_26_method_5_code 0 = .ok (.iload_n 0, 1) := by decide +kernel
theorem d1_1 : decode prog_26_method_5_code 1 = .ok (.iconst (-1), 1) := by decide +kernel
theorem d1_2 : decode prog_26_method_5_code 2 = .ok (.if_icmp .eq 11, 3) := by decide +kernel
theorem d1_5 : decode prog_26_method_5_code 5 = .ok (.iload_n 0, 1) := by decide +kernel
theorem d1_6 : decode prog_26_method_5_code 6 = .ok (.iload_n 1, 1) := by decide +kernel
theorem d1_7 : decode prog_26_method_5_code 7 = .ok (.invokestatic 33, 3) := by decide +kernel
theorem d1_10 : decode prog_26_method_5_code 10 = .ok (.ifCond .eq 7, 3) := by decide +kernel
theorem d1_13 : decode prog_26_method_5_code 13 = .ok (.iconst 1, 1) := by decide +kernel
theorem d1_14 : decode prog_26_method_5_code 14 = .ok (.goto 4, 3) := by decide +kernel
theorem d1_17 : decode prog_26_method_5_code 17 = .ok (.iconst 0, 1) := by decide +kernel
theorem d1_18 : decode prog_26_method_5_code 18 = .ok (.ireturn, 1) := by decide +kernel
theorem pn_47 : plainName "com/example/libbranch/libbranch/view/Visibility" = true := by first | (simp [plainName, overriddenIn]; done) | decide +kernel
def v1_10_s0 (p0 : Int32) (p1 : Int32) : Int32 := if (nar .boolean (v2_2_l2 p0 p1)) = (0 : Int32) then (0 : Int32) else (1 : Int32)
def v1_ret (p0 : Int32) (p1 : Int32) : Int32 := (if p0 = (-1 : Int32) then (1 : Int32) else (nar .boolean (v1_10_s0 p0 p1)))
theorem ef_rm1 (m : MethodId) (p0 : Int32) (p1 : Int32) : entryFrame m #[(.int p0), (.int p1)] 2 = mkF m 0 #[.val (.int p0), .val (.int p1)] [] := by first | (simp [entryFrame, mkF, argsToLocals, Value.category]; done) | rfl
def Q1 (Z : State) (p0 : Int32) (p1 : Int32) (h0 : Heap) (n0 : Nat) (v : Option Value) (h : Heap) (L : List Loc) : Prop := v = some (.int (v1_ret p0 p1)) ∧ Fr n0 L ∧ h = h0
set_option maxRecDepth 65536 in
set_option maxHeartbeats 40000000 in
theorem rm1 (l : Launch) (Z : State) (a0 : Array Value) (hw : ∀ d ∈ tables_1, d.before a0 Z = true) (ws : List Jvm.Cond) (p0 : Int32) (p1 : Int32) (h0 : Heap) (n0 : Nat) (Z0 : n0 ≤ h0.size) :
    MetFree l (⟨"com/example/libbranch/libbranch/view/Visibility", "showsType", "(IS)Z"⟩ : MethodName) (head1 (Jvm.Cond.code (⟨"com/example/libbranch/libbranch/view/Visibility", "showsType", "(IS)Z"⟩ : MethodName) prog_26_method_5_code 2 (some .boolean) :: ws) ({ frames := 1, cells := 0, slots := 0, locals := 14 } : Room)) (fun a U => a = #[(.int p0), (.int p1)] ∧ Z.Warmed39 U.vm ∧ U.heap = h0) (fun _ _ _ _ _ => True) (fun _ U o U' => ∃ v L, o = .returned v ∧ Q1 Z p0 p1 h0 n0 v U'.heap L ∧ FrameEnd U o U' L ({ frames := 1, cells := 0, slots := 0, locals := 14 } : Room).cells ({ frames := 1, cells := 0, slots := 0, locals := 14 } : Room).slots) := by
  refine MetFree.of_bodySF (plainFor_of_name pn_47) hisR ?_
  intro p e s m args below meth c s₁ Bd hml0 hP hK
  obtain ⟨rfl, hZ, hh⟩ := hP
  have hx := Bd.exec
  have hby := Bd.bytes
  have hml : c.maxLocals = 2 := hml0
  have hown : s.vm.findClass "com/example/libbranch/libbranch/view/Visibility" = some m.cls := findClass_of_methodNamed Bd.named
  have hnm := (name_of_methodNamed Bd.named Bd.method).1
  have X0 : Stand p l e ({ frames := 1, cells := 0, slots := 0, locals := 14 } : Room) s m #[(.int p0), (.int p1)] below meth c s₁ [] 0 0 := Stand.of_body Bd
  have e0 : s₁.heap = h0 := by rw [← hh, Bd.state]; rfl
  have N0 := Fr.nil n0
  have KC0 := Keep.refl h0 ([] : List Addr)
  have pre0 : ∀ t, Steps p.tables e below (s₁.setTop (mkF m 0 #[.val (.int p0), .val (.int p1)] [])) t → Steps p.tables e below (s₁.setTop (entryFrame m #[(.int p0), (.int p1)] 2)) t := fun t k => castTop (ef_rm1 m p0 p1) k
  have k12 := fun (t : State) (kk : Steps p.tables e below (s₁.setTop (mkF m 2 #[.val (.int p0), .val (.int p1)] [(.int (-1 : Int32)), (.int p0)])) t) => pre0 t (by
    show Steps p.tables e below (s₁.setTop (mkF m 0 #[.val (.int p0), .val (.int p1)] [])) _
    refine XS.iloadN X0.here hx rfl (hb hby d1_0) rfl ?_
    show Steps p.tables e below (s₁.setTop (mkF m 1 #[.val (.int p0), .val (.int p1)] [(.int p0)])) _
    refine XS.iconst X0.here hx rfl (hb hby d1_1) ?_
    exact kk)
  by_cases hc2_13 : p0 = (-1 : Int32)
  · have k14 := fun (t : State) (kk : Steps p.tables e below (s₁.setTop (mkF m 18 #[.val (.int p0), .val (.int p1)] [(.int (1 : Int32))])) t) => k12 t (by
      show Steps p.tables e below (s₁.setTop (mkF m 2 #[.val (.int p0), .val (.int p1)] [(.int (-1 : Int32)), (.int p0)])) _
      refine XS.icmpYes X0.here hx rfl (pc0 := 2) (pc' := 13) rfl (hb hby d1_2) rfl (teq hc2_13).1 (by decide) (by decide) ?_
      show Steps p.tables e below (s₁.setTop (mkF m 13 #[.val (.int p0), .val (.int p1)] [])) _
      refine XS.iconst X0.here hx rfl (hb hby d1_13) ?_
      show Steps p.tables e below (s₁.setTop (mkF m 14 #[.val (.int p0), .val (.int p1)] [(.int (1 : Int32))])) _
      refine XS.goto X0.here hx rfl (pc0 := 14) (pc' := 18) rfl (hb hby d1_14) (by decide) (by decide) ?_
      exact kk)
    obtain ⟨fs, hr, hrun, hended, hW, hsame⟩ := X0.leave (v := some (.int (1 : Int32))) (fun h => by rw [Bd.returns] at h; cases h)
    have hv : (v1_ret p0 p1) = (1 : Int32) := (if_pos hc2_13)
    refine ⟨_, _, k14 _ ?_, hrun, hended, _, _, rfl, ?_, ⟨_, rfl⟩, hW, hsame.mono (by decide) (by decide)⟩
    · show Steps p.tables e below (s₁.setTop (mkF m 18 #[.val (.int p0), .val (.int p1)] [(.int (1 : Int32))])) _
      exact retN X0 hx (t := .boolean) Bd.returns (by simp) (hb hby d1_18) hr
    · show Q1 Z p0 p1 h0 n0 _ s₁.heap _
      rw [e0]
      exact ⟨(congrArg (fun z => some (Value.int z)) hv).symm, N0, rfl⟩
  · have k15 := fun (t : State) (kk : Steps p.tables e below (s₁.setTop (mkF m 7 #[.val (.int p0), .val (.int p1)] [(.int p1), (.int p0)])) t) => k12 t (by
      show Steps p.tables e below (s₁.setTop (mkF m 2 #[.val (.int p0), .val (.int p1)] [(.int (-1 : Int32)), (.int p0)])) _
      refine XS.icmpNo X0.here hx rfl (hb hby d1_2) rfl (feq hc2_13).1 ?_
      show Steps p.tables e below (s₁.setTop (mkF m 5 #[.val (.int p0), .val (.int p1)] [])) _
      refine XS.iloadN X0.here hx rfl (hb hby d1_5) rfl ?_
      show Steps p.tables e below (s₁.setTop (mkF m 6 #[.val (.int p0), .val (.int p1)] [(.int p0)])) _
      refine XS.iloadN X0.here hx rfl (hb hby d1_6) rfl ?_
      exact kk)
    have Zz16 : n0 ≤ h0.size := (Nat.le_trans Z0 KC0.1)
    obtain ⟨_, _, ⟨T16, L16, k16, n16⟩, -, X16, ⟨Lc16, hQ16, l16, y16, z16⟩, st16⟩ := Jvm.LawKit.callS X0 hx (y := (⟨"com/example/libbranch/libbranch/view/WhatToShow", "shows", "(IS)Z"⟩ : MethodName)) hown (mvT hZ (hw _ (List.mem_of_getElem? (i := 4) rfl))) (mvT hZ (hw _ (List.mem_of_getElem? (i := 5) rfl))) (mvT hZ (hw _ (List.mem_of_getElem? (i := 6) rfl))) (mvT hZ (hw _ (List.mem_of_getElem? (i := 7) rfl))) (by decide) (backOf (W := 0) (rm2 l Z a0 hw [] p0 p1 h0 n0 Zz16) hZ (hw _ (List.mem_of_getElem? (i := 7) rfl)) (hw _ (List.mem_of_getElem? (i := 6) rfl)) (by decide) (by decide)) (g := (mkF m 7 #[.val (.int p0), .val (.int p1)] [(.int p1), (.int p0)])) rfl (by rw [hml]; rfl) (argsL := [(.int p0), (.int p1)]) (rest := []) (lenOf pd_0 rfl) rfl (by show 2 * 0 + _ ≤ _; exact Nat.le_of_eq rfl) (hb hby d1_7) (fun _ _ => ⟨rfl, e0, (by decide : 0 + 0 ≤ _), (by decide : 0 + 0 ≤ _)⟩)
    dsimp only [Pt.U, Pt.locs, Pt.cells, Pt.slots] at X16 l16 y16 z16 st16 hQ16
    subst l16 y16 z16
    obtain ⟨rfl, N16q, e16⟩ := hQ16
    have N16 := Fr.app N0 N16q
    have k17 := fun (t : State) (kk : Steps p.tables e below (T16.setTop (mkF m 10 #[.val (.int p0), .val (.int p1)] [(.int (nar .boolean (v2_2_l2 p0 p1)))])) t) => k15 t (st16 _ kk)
    have k20 := fun (t : State) (kk : Steps p.tables e below (T16.setTop (mkF m 18 #[.val (.int p0), .val (.int p1)] [(.int (v1_10_s0 p0 p1))])) t) => k17 t (by
      suffices k19 : Steps p.tables e below (T16.setTop (mkF m 18 #[.val (.int p0), .val (.int p1)] [(.int (v1_10_s0 p0 p1))])) t by
        by_cases hc10_18 : (nar .boolean (v2_2_l2 p0 p1)) = (0 : Int32)
        · rw [(show (v1_10_s0 p0 p1) = (0 : Int32) from if_pos hc10_18)] at k19
          show Steps p.tables e below (T16.setTop (mkF m 10 #[.val (.int p0), .val (.int p1)] [(.int (nar .boolean (v2_2_l2 p0 p1)))])) _
          refine XS.ifYes X16.here hx rfl (pc0 := 10) (pc' := 17) rfl (hb hby d1_10) rfl ((if0 _ _).trans (teq hc10_18).1) (by decide) (by decide) ?_
          show Steps p.tables e below (T16.setTop (mkF m 17 #[.val (.int p0), .val (.int p1)] [])) _
          refine XS.iconst X16.here hx rfl (hb hby d1_17) ?_
          exact k19
        · rw [(show (v1_10_s0 p0 p1) = (1 : Int32) from if_neg hc10_18)] at k19
          show Steps p.tables e below (T16.setTop (mkF m 10 #[.val (.int p0), .val (.int p1)] [(.int (nar .boolean (v2_2_l2 p0 p1)))])) _
          refine XS.ifNo X16.here hx rfl (hb hby d1_10) rfl ((if0 _ _).trans (feq hc10_18).1) ?_
          show Steps p.tables e below (T16.setTop (mkF m 13 #[.val (.int p0), .val (.int p1)] [])) _
          refine XS.iconst X16.here hx rfl (hb hby d1_13) ?_
          show Steps p.tables e below (T16.setTop (mkF m 14 #[.val (.int p0), .val (.int p1)] [(.int (1 : Int32))])) _
          refine XS.goto X16.here hx rfl (pc0 := 14) (pc' := 18) rfl (hb hby d1_14) (by decide) (by decide) ?_
          exact k19
      exact kk)
    obtain ⟨fs, hr, hrun, hended, hW, hsame⟩ := X16.leave (v := some (.int (nar .boolean (v1_10_s0 p0 p1)))) (fun h => by rw [Bd.returns] at h; cases h)
    have hv : (v1_ret p0 p1) = (nar .boolean (v1_10_s0 p0 p1)) := (if_neg hc2_13)
    refine ⟨_, _, k20 _ ?_, hrun, hended, _, _, rfl, ?_, ⟨_, rfl⟩, hW, hsame.mono (by decide) (by decide)⟩
    · show Steps p.tables e below (T16.setTop (mkF m 18 #[.val (.int p0), .val (.int p1)] [(.int (v1_10_s0 p0 p1))])) _
      exact retN X16 hx (t := .boolean) Bd.returns (by simp) (hb hby d1_18) hr
    · show Q1 Z p0 p1 h0 n0 _ T16.heap _
      rw [e16]
      exact ⟨(congrArg (fun z => some (Value.int z)) hv).symm, N16, rfl⟩
theorem pn_51 : plainName "com/example/libbranch/libbranch/view/VisibilityShowsTypePinLaw" = true := by first | (simp [plainName, overriddenIn]; done) | decide +kernel
def v0_3_s0 (p0 : Int32) (p2 : Int32) : Int32 := if (p2 &&& (2 : Int32)) = (0 : Int32) then p0 else (-1 : Int32)
def v0_15_s0 (p1 : Int32) (p2 : Int32) : Int32 := if (p2 &&& (1 : Int32)) = (0 : Int32) then (p1.toInt16.toInt32) else (((1 : Int32) + (p1 &&& (31 : Int32))).toInt16.toInt32)
def v0_38_l5 (p0 : Int32) (p1 : Int32) (p2 : Int32) : Int32 := (v1_ret (v0_3_s0 p0 p2) (v0_15_s0 p1 p2))
def v0_77_s0 (p0 : Int32) (p2 : Int32) : Int32 := if (v0_3_s0 p0 p2) = (-1 : Int32) then (1 : Int32) else (0 : Int32)
def v0_62_s0 (p0 : Int32) (p1 : Int32) (p2 : Int32) : Int32 := if ((((v0_3_s0 p0 p2).toUInt32 >>> (((v0_15_s0 p1 p2) - (1 : Int32)) &&& 31).toUInt32).toInt32) &&& (1 : Int32)) = (1 : Int32) then (1 : Int32) else (0 : Int32)
def v0_50_l6 (p0 : Int32) (p1 : Int32) (p2 : Int32) : Int32 := if (32 : Int32) < (v0_15_s0 p1 p2) then (v0_77_s0 p0 p2) else (v0_62_s0 p0 p1 p2)
def v0_43_l6 (p0 : Int32) (p1 : Int32) (p2 : Int32) : Int32 := if (v0_15_s0 p1 p2) < (1 : Int32) then (v0_77_s0 p0 p2) else (v0_50_l6 p0 p1 p2)
def v0_91_s0 (p0 : Int32) (p1 : Int32) (p2 : Int32) : Int32 := if (v0_38_l5 p0 p1 p2) = (v0_43_l6 p0 p1 p2) then (1 : Int32) else (0 : Int32)
theorem own_bit (x : BitVec 32) (n : Nat) (hn : n < 32) : (x &&& ((1#32) <<< n) = 0#32) ↔ ¬ ((x >>> n) &&& 1#32 = 1#32) := by
  have h1 : (1#32) <<< n = BitVec.twoPow 32 n := by simp [BitVec.twoPow]
  rw [h1, BitVec.and_twoPow]
  have h2 : (x >>> n) &&& 1#32 = BitVec.setWidth 32 (BitVec.ofBool (x.getLsbD n)) := by
    rw [BitVec.and_one_eq_setWidth_ofBool_getLsbD]; simp
  rw [h2]
  cases h : x.getLsbD n
  · simp
  · simp
    intro e
    have := congrArg (fun z => BitVec.getLsbD z n) e
    simp [hn] at this
theorem own_bit32 (M t : Int32) : (M &&& ((1 : Int32) <<< (t &&& 31))) = (0 : Int32) ↔ ¬ ((((M.toUInt32 >>> (t &&& 31).toUInt32).toInt32) &&& (1 : Int32)) = (1 : Int32)) := by
  have hs := sm32 t _ rfl
  have hn : t.toBitVec.toNat % 32 < 32 := Nat.mod_lt _ (by decide)
  have e1 : (M &&& ((1 : Int32) <<< (t &&& 31))).toBitVec = M.toBitVec &&& ((1#32) <<< (t.toBitVec.toNat % 32)) := by
    rw [Int32.toBitVec_and, Int32.toBitVec_shiftLeft, BitVec.shiftLeft_eq', hs]; rfl
  have e3 : ((t &&& 31).toUInt32.toBitVec % 32).toNat = t.toBitVec.toNat % 32 := by
    have q : (t &&& 31).toUInt32.toBitVec = t.toBitVec &&& 31#32 := rfl
    rw [q, BitVec.toNat_umod, BitVec.toNat_and]
    have : (31#32).toNat = 2 ^ 5 - 1 := rfl
    rw [this, Nat.and_two_pow_sub_one_eq_mod]; show _ % 2 ^ 5 % 32 = _; omega
  have e2 : (((M.toUInt32 >>> (t &&& 31).toUInt32).toInt32) &&& (1 : Int32)).toBitVec = (M.toBitVec >>> (t.toBitVec.toNat % 32)) &&& 1#32 := by
    rw [Int32.toBitVec_and]
    show (M.toUInt32 >>> (t &&& 31).toUInt32).toBitVec &&& 1#32 = _
    rw [UInt32.toBitVec_shiftRight, BitVec.ushiftRight_eq', e3]; rfl
  rw [← Int32.toBitVec_inj, ← Int32.toBitVec_inj, e1, e2]
  exact own_bit _ _ hn
theorem own_ones (t : Int32) : ¬ (((-1 : Int32) &&& ((1 : Int32) <<< (t &&& 31))) = (0 : Int32)) := by
  have hs := sm32 t _ rfl
  have hn : t.toBitVec.toNat % 32 < 32 := Nat.mod_lt _ (by decide)
  rw [← Int32.toBitVec_inj, Int32.toBitVec_and, Int32.toBitVec_shiftLeft, BitVec.shiftLeft_eq', hs, show (-1 : Int32).toBitVec = BitVec.allOnes 32 from rfl, BitVec.allOnes_and]
  intro e
  have := congrArg (fun z => BitVec.getLsbD z (t.toBitVec.toNat % 32)) e
  simp [hn] at this
theorem own_law (p0 p1 p2 : Int32) : (nar .boolean (v0_91_s0 p0 p1 p2)) = 1 := by
  have key : v0_38_l5 p0 p1 p2 = v0_43_l6 p0 p1 p2 := by
    unfold v0_38_l5 v1_ret v1_10_s0 v2_2_l2 v2_8_l2 v2_32_s0 v2_18_s0 v0_43_l6 v0_50_l6 v0_77_s0 v0_62_s0
    generalize v0_3_s0 p0 p2 = M
    generalize v0_15_s0 p1 p2 = T
    have hb := own_bit32 M (T - 1)
    by_cases h0 : M = -1
    · subst h0
      have ho := own_ones (T - 1)
      have hb' := Classical.not_not.mp (fun q => ho (hb.mpr q))
      rw [if_pos rfl]
      by_cases h1 : T < 1
      · rw [if_pos h1, if_pos rfl]
      · rw [if_neg h1]
        by_cases h2 : (32 : Int32) < T
        · rw [if_pos h2, if_pos rfl]
        · rw [if_neg h2, if_pos hb']
    · rw [if_neg h0]
      by_cases h1 : T < 1
      · rw [if_pos h1, if_pos h1, if_neg h0]; rfl
      · rw [if_neg h1, if_neg h1]
        by_cases h2 : (32 : Int32) < T
        · rw [if_pos h2, if_pos h2, if_neg h0]; rfl
        · rw [if_neg h2, if_neg h2]
          by_cases h3 : (M &&& ((1 : Int32) <<< ((T - 1) &&& 31))) = (0 : Int32)
          · rw [if_pos h3, if_neg (hb.mp h3)]; rfl
          · rw [if_neg h3, if_pos (Classical.not_not.mp (fun q => h3 (hb.mpr q)))]; rfl
  have e : v0_91_s0 p0 p1 p2 = 1 := by unfold v0_91_s0; exact if_pos key
  rw [e]; rfl

theorem ef_rm0 (m : MethodId) (p0 : Int32) (p1 : Int32) (p2 : Int32) : entryFrame m #[(.int p0), (.int p1), (.int p2)] maxLocals = mkF m 0 #[.val (.int p0), .val (.int p1), .val (.int p2), .unset, .unset, .unset, .unset] [] := by first | (simp [entryFrame, mkF, argsToLocals, Value.category, maxLocals]; done) | rfl
def Q0 (Z : State) (p0 : Int32) (p1 : Int32) (p2 : Int32) (h0 : Heap) (n0 : Nat) (v : Option Value) (h : Heap) (L : List Loc) : Prop := v = some (.int 1) ∧ Fr n0 L
set_option maxRecDepth 65536 in
set_option maxHeartbeats 40000000 in
theorem rm0 (l : Launch) (Z : State) (a0 : Array Value) (hw : ∀ d ∈ tables_1, d.before a0 Z = true) (ws : List Jvm.Cond) (p0 : Int32) (p1 : Int32) (p2 : Int32) (h0 : Heap) (n0 : Nat) (Z0 : n0 ≤ h0.size) :
    MetFree l x (head1 (Jvm.Cond.code x code maxLocals ret :: ws) room_1) (fun a U => a = #[(.int p0), (.int p1), (.int p2)] ∧ Z.Warmed39 U.vm ∧ U.heap = h0) (fun _ _ _ _ _ => True) (fun _ U o U' => ∃ v L, o = .returned v ∧ Q0 Z p0 p1 p2 h0 n0 v U'.heap L ∧ FrameEnd U o U' L room_1.cells room_1.slots) := by
  refine MetFree.of_bodySF (plainFor_of_name pn_51) hisR ?_
  intro p e s m args below meth c s₁ Bd hml0 hP hK
  obtain ⟨rfl, hZ, hh⟩ := hP
  have hx := Bd.exec
  have hby := Bd.bytes
  have hml : c.maxLocals = 7 := hml0
  have hown : s.vm.findClass "com/example/libbranch/libbranch/view/VisibilityShowsTypePinLaw" = some m.cls := findClass_of_methodNamed Bd.named
  have hnm := (name_of_methodNamed Bd.named Bd.method).1
  have X0 : Stand p l e room_1 s m #[(.int p0), (.int p1), (.int p2)] below meth c s₁ [] 0 0 := Stand.of_body Bd
  have e0 : s₁.heap = h0 := by rw [← hh, Bd.state]; rfl
  have N0 := Fr.nil n0
  have KC0 := Keep.refl h0 ([] : List Addr)
  have pre0 : ∀ t, Steps p.tables e below (s₁.setTop (mkF m 0 #[.val (.int p0), .val (.int p1), .val (.int p2), .unset, .unset, .unset, .unset] [])) t → Steps p.tables e below (s₁.setTop (entryFrame m #[(.int p0), (.int p1), (.int p2)] maxLocals)) t := fun t k => castTop (ef_rm0 m p0 p1 p2) k
  have k25 := fun (t : State) (kk : Steps p.tables e below (s₁.setTop (mkF m 35 #[.val (.int p0), .val (.int p1), .val (.int p2), .val (.int (v0_3_s0 p0 p2)), .val (.int (v0_15_s0 p1 p2)), .unset, .unset] [(.int (v0_15_s0 p1 p2)), (.int (v0_3_s0 p0 p2))])) t) => pre0 t (by
    show Steps p.tables e below (s₁.setTop (mkF m 0 #[.val (.int p0), .val (.int p1), .val (.int p2), .unset, .unset, .unset, .unset] [])) _
    refine XS.iloadN X0.here hx rfl (hb hby at_0) rfl ?_
    show Steps p.tables e below (s₁.setTop (mkF m 1 #[.val (.int p0), .val (.int p1), .val (.int p2), .unset, .unset, .unset, .unset] [(.int p2)])) _
    refine XS.iconst X0.here hx rfl (hb hby at_1) ?_
    show Steps p.tables e below (s₁.setTop (mkF m 2 #[.val (.int p0), .val (.int p1), .val (.int p2), .unset, .unset, .unset, .unset] [(.int (2 : Int32)), (.int p2)])) _
    refine XS.iand X0.here hx rfl (hb hby at_2) rfl ?_
    suffices k22 : Steps p.tables e below (s₁.setTop (mkF m 11 #[.val (.int p0), .val (.int p1), .val (.int p2), .unset, .unset, .unset, .unset] [(.int (v0_3_s0 p0 p2))])) t by
      by_cases hc3_21 : (p2 &&& (2 : Int32)) = (0 : Int32)
      · rw [(show (v0_3_s0 p0 p2) = p0 from if_pos hc3_21)] at k22
        show Steps p.tables e below (s₁.setTop (mkF m 3 #[.val (.int p0), .val (.int p1), .val (.int p2), .unset, .unset, .unset, .unset] [(.int (p2 &&& (2 : Int32)))])) _
        refine XS.ifYes X0.here hx rfl (pc0 := 3) (pc' := 10) rfl (hb hby at_3) rfl ((if0 _ _).trans (teq hc3_21).1) (by decide) (by decide) ?_
        show Steps p.tables e below (s₁.setTop (mkF m 10 #[.val (.int p0), .val (.int p1), .val (.int p2), .unset, .unset, .unset, .unset] [])) _
        refine XS.iloadN X0.here hx rfl (hb hby at_10) rfl ?_
        exact k22
      · rw [(show (v0_3_s0 p0 p2) = (-1 : Int32) from if_neg hc3_21)] at k22
        show Steps p.tables e below (s₁.setTop (mkF m 3 #[.val (.int p0), .val (.int p1), .val (.int p2), .unset, .unset, .unset, .unset] [(.int (p2 &&& (2 : Int32)))])) _
        refine XS.ifNo X0.here hx rfl (hb hby at_3) rfl ((if0 _ _).trans (feq hc3_21).1) ?_
        show Steps p.tables e below (s₁.setTop (mkF m 6 #[.val (.int p0), .val (.int p1), .val (.int p2), .unset, .unset, .unset, .unset] [])) _
        refine XS.iconst X0.here hx rfl (hb hby at_6) ?_
        show Steps p.tables e below (s₁.setTop (mkF m 7 #[.val (.int p0), .val (.int p1), .val (.int p2), .unset, .unset, .unset, .unset] [(.int (-1 : Int32))])) _
        refine XS.goto X0.here hx rfl (pc0 := 7) (pc' := 11) rfl (hb hby at_7) (by decide) (by decide) ?_
        exact k22
    show Steps p.tables e below (s₁.setTop (mkF m 11 #[.val (.int p0), .val (.int p1), .val (.int p2), .unset, .unset, .unset, .unset] [(.int (v0_3_s0 p0 p2))])) _
    refine XS.istoreN X0.here hx rfl (hb hby at_11) rfl (l' := #[.val (.int p0), .val (.int p1), .val (.int p2), .val (.int (v0_3_s0 p0 p2)), .unset, .unset, .unset]) rfl ?_
    show Steps p.tables e below (s₁.setTop (mkF m 12 #[.val (.int p0), .val (.int p1), .val (.int p2), .val (.int (v0_3_s0 p0 p2)), .unset, .unset, .unset] [])) _
    refine XS.iloadN X0.here hx rfl (hb hby at_12) rfl ?_
    show Steps p.tables e below (s₁.setTop (mkF m 13 #[.val (.int p0), .val (.int p1), .val (.int p2), .val (.int (v0_3_s0 p0 p2)), .unset, .unset, .unset] [(.int p2)])) _
    refine XS.iconst X0.here hx rfl (hb hby at_13) ?_
    show Steps p.tables e below (s₁.setTop (mkF m 14 #[.val (.int p0), .val (.int p1), .val (.int p2), .val (.int (v0_3_s0 p0 p2)), .unset, .unset, .unset] [(.int (1 : Int32)), (.int p2)])) _
    refine XS.iand X0.here hx rfl (hb hby at_14) rfl ?_
    suffices k24 : Steps p.tables e below (s₁.setTop (mkF m 30 #[.val (.int p0), .val (.int p1), .val (.int p2), .val (.int (v0_3_s0 p0 p2)), .unset, .unset, .unset] [(.int (v0_15_s0 p1 p2))])) t by
      by_cases hc15_23 : (p2 &&& (1 : Int32)) = (0 : Int32)
      · rw [(show (v0_15_s0 p1 p2) = (p1.toInt16.toInt32) from if_pos hc15_23)] at k24
        show Steps p.tables e below (s₁.setTop (mkF m 15 #[.val (.int p0), .val (.int p1), .val (.int p2), .val (.int (v0_3_s0 p0 p2)), .unset, .unset, .unset] [(.int (p2 &&& (1 : Int32)))])) _
        refine XS.ifYes X0.here hx rfl (pc0 := 15) (pc' := 28) rfl (hb hby at_15) rfl ((if0 _ _).trans (teq hc15_23).1) (by decide) (by decide) ?_
        show Steps p.tables e below (s₁.setTop (mkF m 28 #[.val (.int p0), .val (.int p1), .val (.int p2), .val (.int (v0_3_s0 p0 p2)), .unset, .unset, .unset] [])) _
        refine XS.iloadN X0.here hx rfl (hb hby at_28) rfl ?_
        show Steps p.tables e below (s₁.setTop (mkF m 29 #[.val (.int p0), .val (.int p1), .val (.int p2), .val (.int (v0_3_s0 p0 p2)), .unset, .unset, .unset] [(.int p1)])) _
        refine XS.i2s X0.here hx rfl (hb hby at_29) rfl ?_
        exact k24
      · rw [(show (v0_15_s0 p1 p2) = (((1 : Int32) + (p1 &&& (31 : Int32))).toInt16.toInt32) from if_neg hc15_23)] at k24
        show Steps p.tables e below (s₁.setTop (mkF m 15 #[.val (.int p0), .val (.int p1), .val (.int p2), .val (.int (v0_3_s0 p0 p2)), .unset, .unset, .unset] [(.int (p2 &&& (1 : Int32)))])) _
        refine XS.ifNo X0.here hx rfl (hb hby at_15) rfl ((if0 _ _).trans (feq hc15_23).1) ?_
        show Steps p.tables e below (s₁.setTop (mkF m 18 #[.val (.int p0), .val (.int p1), .val (.int p2), .val (.int (v0_3_s0 p0 p2)), .unset, .unset, .unset] [])) _
        refine XS.iconst X0.here hx rfl (hb hby at_18) ?_
        show Steps p.tables e below (s₁.setTop (mkF m 19 #[.val (.int p0), .val (.int p1), .val (.int p2), .val (.int (v0_3_s0 p0 p2)), .unset, .unset, .unset] [(.int (1 : Int32))])) _
        refine XS.iloadN X0.here hx rfl (hb hby at_19) rfl ?_
        show Steps p.tables e below (s₁.setTop (mkF m 20 #[.val (.int p0), .val (.int p1), .val (.int p2), .val (.int (v0_3_s0 p0 p2)), .unset, .unset, .unset] [(.int p1), (.int (1 : Int32))])) _
        refine XS.bipush X0.here hx rfl (hb hby at_20) ?_
        show Steps p.tables e below (s₁.setTop (mkF m 22 #[.val (.int p0), .val (.int p1), .val (.int p2), .val (.int (v0_3_s0 p0 p2)), .unset, .unset, .unset] [(.int (31 : Int32)), (.int p1), (.int (1 : Int32))])) _
        refine XS.iand X0.here hx rfl (hb hby at_22) rfl ?_
        show Steps p.tables e below (s₁.setTop (mkF m 23 #[.val (.int p0), .val (.int p1), .val (.int p2), .val (.int (v0_3_s0 p0 p2)), .unset, .unset, .unset] [(.int (p1 &&& (31 : Int32))), (.int (1 : Int32))])) _
        refine XS.iadd X0.here hx rfl (hb hby at_23) rfl ?_
        show Steps p.tables e below (s₁.setTop (mkF m 24 #[.val (.int p0), .val (.int p1), .val (.int p2), .val (.int (v0_3_s0 p0 p2)), .unset, .unset, .unset] [(.int ((1 : Int32) + (p1 &&& (31 : Int32))))])) _
        refine XS.i2s X0.here hx rfl (hb hby at_24) rfl ?_
        show Steps p.tables e below (s₁.setTop (mkF m 25 #[.val (.int p0), .val (.int p1), .val (.int p2), .val (.int (v0_3_s0 p0 p2)), .unset, .unset, .unset] [(.int (((1 : Int32) + (p1 &&& (31 : Int32))).toInt16.toInt32))])) _
        refine XS.goto X0.here hx rfl (pc0 := 25) (pc' := 30) rfl (hb hby at_25) (by decide) (by decide) ?_
        exact k24
    show Steps p.tables e below (s₁.setTop (mkF m 30 #[.val (.int p0), .val (.int p1), .val (.int p2), .val (.int (v0_3_s0 p0 p2)), .unset, .unset, .unset] [(.int (v0_15_s0 p1 p2))])) _
    refine XS.istore X0.here hx rfl (hb hby at_30) rfl (l' := #[.val (.int p0), .val (.int p1), .val (.int p2), .val (.int (v0_3_s0 p0 p2)), .val (.int (v0_15_s0 p1 p2)), .unset, .unset]) rfl ?_
    show Steps p.tables e below (s₁.setTop (mkF m 32 #[.val (.int p0), .val (.int p1), .val (.int p2), .val (.int (v0_3_s0 p0 p2)), .val (.int (v0_15_s0 p1 p2)), .unset, .unset] [])) _
    refine XS.iloadN X0.here hx rfl (hb hby at_32) rfl ?_
    show Steps p.tables e below (s₁.setTop (mkF m 33 #[.val (.int p0), .val (.int p1), .val (.int p2), .val (.int (v0_3_s0 p0 p2)), .val (.int (v0_15_s0 p1 p2)), .unset, .unset] [(.int (v0_3_s0 p0 p2))])) _
    refine XS.iload X0.here hx rfl (hb hby at_33) rfl ?_
    exact kk)
  have Zz26 : n0 ≤ h0.size := (Nat.le_trans Z0 KC0.1)
  obtain ⟨_, _, ⟨T26, L26, k26, n26⟩, -, X26, ⟨Lc26, hQ26, l26, y26, z26⟩, st26⟩ := Jvm.LawKit.callS X0 hx (y := (⟨"com/example/libbranch/libbranch/view/Visibility", "showsType", "(IS)Z"⟩ : MethodName)) hown (mvT hZ (hw _ (List.mem_of_getElem? (i := 0) rfl))) (mvT hZ (hw _ (List.mem_of_getElem? (i := 1) rfl))) (mvT hZ (hw _ (List.mem_of_getElem? (i := 2) rfl))) (mvT hZ (hw _ (List.mem_of_getElem? (i := 3) rfl))) (by decide) (backOf (W := 0) (rm1 l Z a0 hw [] (v0_3_s0 p0 p2) (v0_15_s0 p1 p2) h0 n0 Zz26) hZ (hw _ (List.mem_of_getElem? (i := 3) rfl)) (hw _ (List.mem_of_getElem? (i := 2) rfl)) (by decide) (by decide)) (g := (mkF m 35 #[.val (.int p0), .val (.int p1), .val (.int p2), .val (.int (v0_3_s0 p0 p2)), .val (.int (v0_15_s0 p1 p2)), .unset, .unset] [(.int (v0_15_s0 p1 p2)), (.int (v0_3_s0 p0 p2))])) rfl (by rw [hml]; rfl) (argsL := [(.int (v0_3_s0 p0 p2)), (.int (v0_15_s0 p1 p2))]) (rest := []) (lenOf pd_0 rfl) rfl (by show 2 * 0 + _ ≤ _; exact Nat.le_of_eq rfl) (hb hby at_35) (fun _ _ => ⟨rfl, e0, (by decide : 0 + 0 ≤ _), (by decide : 0 + 0 ≤ _)⟩)
  dsimp only [Pt.U, Pt.locs, Pt.cells, Pt.slots] at X26 l26 y26 z26 st26 hQ26
  subst l26 y26 z26
  obtain ⟨rfl, N26q, e26⟩ := hQ26
  have N26 := Fr.app N0 N26q
  have k27 := fun (t : State) (kk : Steps p.tables e below (T26.setTop (mkF m 38 #[.val (.int p0), .val (.int p1), .val (.int p2), .val (.int (v0_3_s0 p0 p2)), .val (.int (v0_15_s0 p1 p2)), .unset, .unset] [(.int (v1_ret (v0_3_s0 p0 p2) (v0_15_s0 p1 p2)))])) t) => k25 t (st26 _ kk)
  have k40 := fun (t : State) (kk : Steps p.tables e below (T26.setTop (mkF m 99 #[.val (.int p0), .val (.int p1), .val (.int p2), .val (.int (v0_3_s0 p0 p2)), .val (.int (v0_15_s0 p1 p2)), .val (.int (v0_38_l5 p0 p1 p2)), .val (.int (v0_43_l6 p0 p1 p2))] [(.int (v0_91_s0 p0 p1 p2))])) t) => k27 t (by
    show Steps p.tables e below (T26.setTop (mkF m 38 #[.val (.int p0), .val (.int p1), .val (.int p2), .val (.int (v0_3_s0 p0 p2)), .val (.int (v0_15_s0 p1 p2)), .unset, .unset] [(.int (v1_ret (v0_3_s0 p0 p2) (v0_15_s0 p1 p2)))])) _
    refine XS.istore X26.here hx rfl (hb hby at_38) rfl (l' := #[.val (.int p0), .val (.int p1), .val (.int p2), .val (.int (v0_3_s0 p0 p2)), .val (.int (v0_15_s0 p1 p2)), .val (.int (v0_38_l5 p0 p1 p2)), .unset]) rfl ?_
    show Steps p.tables e below (T26.setTop (mkF m 40 #[.val (.int p0), .val (.int p1), .val (.int p2), .val (.int (v0_3_s0 p0 p2)), .val (.int (v0_15_s0 p1 p2)), .val (.int (v0_38_l5 p0 p1 p2)), .unset] [])) _
    refine XS.iload X26.here hx rfl (hb hby at_40) rfl ?_
    show Steps p.tables e below (T26.setTop (mkF m 42 #[.val (.int p0), .val (.int p1), .val (.int p2), .val (.int (v0_3_s0 p0 p2)), .val (.int (v0_15_s0 p1 p2)), .val (.int (v0_38_l5 p0 p1 p2)), .unset] [(.int (v0_15_s0 p1 p2))])) _
    refine XS.iconst X26.here hx rfl (hb hby at_42) ?_
    suffices k37 : Steps p.tables e below (T26.setTop (mkF m 87 #[.val (.int p0), .val (.int p1), .val (.int p2), .val (.int (v0_3_s0 p0 p2)), .val (.int (v0_15_s0 p1 p2)), .val (.int (v0_38_l5 p0 p1 p2)), .val (.int (v0_43_l6 p0 p1 p2))] [])) t by
      by_cases hc43_28 : (v0_15_s0 p1 p2) < (1 : Int32)
      · rw [(show (v0_43_l6 p0 p1 p2) = (v0_77_s0 p0 p2) from if_pos hc43_28)] at k37
        show Steps p.tables e below (T26.setTop (mkF m 43 #[.val (.int p0), .val (.int p1), .val (.int p2), .val (.int (v0_3_s0 p0 p2)), .val (.int (v0_15_s0 p1 p2)), .val (.int (v0_38_l5 p0 p1 p2)), .unset] [(.int (1 : Int32)), (.int (v0_15_s0 p1 p2))])) _
        refine XS.icmpYes X26.here hx rfl (pc0 := 43) (pc' := 75) rfl (hb hby at_43) rfl (tlt hc43_28).1 (by decide) (by decide) ?_
        show Steps p.tables e below (T26.setTop (mkF m 75 #[.val (.int p0), .val (.int p1), .val (.int p2), .val (.int (v0_3_s0 p0 p2)), .val (.int (v0_15_s0 p1 p2)), .val (.int (v0_38_l5 p0 p1 p2)), .unset] [])) _
        refine XS.iloadN X26.here hx rfl (hb hby at_75) rfl ?_
        show Steps p.tables e below (T26.setTop (mkF m 76 #[.val (.int p0), .val (.int p1), .val (.int p2), .val (.int (v0_3_s0 p0 p2)), .val (.int (v0_15_s0 p1 p2)), .val (.int (v0_38_l5 p0 p1 p2)), .unset] [(.int (v0_3_s0 p0 p2))])) _
        refine XS.iconst X26.here hx rfl (hb hby at_76) ?_
        suffices k30 : Steps p.tables e below (T26.setTop (mkF m 85 #[.val (.int p0), .val (.int p1), .val (.int p2), .val (.int (v0_3_s0 p0 p2)), .val (.int (v0_15_s0 p1 p2)), .val (.int (v0_38_l5 p0 p1 p2)), .unset] [(.int (v0_77_s0 p0 p2))])) t by
          by_cases hc77_29 : (v0_3_s0 p0 p2) = (-1 : Int32)
          · rw [(show (v0_77_s0 p0 p2) = (1 : Int32) from if_pos hc77_29)] at k30
            show Steps p.tables e below (T26.setTop (mkF m 77 #[.val (.int p0), .val (.int p1), .val (.int p2), .val (.int (v0_3_s0 p0 p2)), .val (.int (v0_15_s0 p1 p2)), .val (.int (v0_38_l5 p0 p1 p2)), .unset] [(.int (-1 : Int32)), (.int (v0_3_s0 p0 p2))])) _
            refine XS.icmpNo X26.here hx rfl (hb hby at_77) rfl (teq hc77_29).2 ?_
            show Steps p.tables e below (T26.setTop (mkF m 80 #[.val (.int p0), .val (.int p1), .val (.int p2), .val (.int (v0_3_s0 p0 p2)), .val (.int (v0_15_s0 p1 p2)), .val (.int (v0_38_l5 p0 p1 p2)), .unset] [])) _
            refine XS.iconst X26.here hx rfl (hb hby at_80) ?_
            show Steps p.tables e below (T26.setTop (mkF m 81 #[.val (.int p0), .val (.int p1), .val (.int p2), .val (.int (v0_3_s0 p0 p2)), .val (.int (v0_15_s0 p1 p2)), .val (.int (v0_38_l5 p0 p1 p2)), .unset] [(.int (1 : Int32))])) _
            refine XS.goto X26.here hx rfl (pc0 := 81) (pc' := 85) rfl (hb hby at_81) (by decide) (by decide) ?_
            exact k30
          · rw [(show (v0_77_s0 p0 p2) = (0 : Int32) from if_neg hc77_29)] at k30
            show Steps p.tables e below (T26.setTop (mkF m 77 #[.val (.int p0), .val (.int p1), .val (.int p2), .val (.int (v0_3_s0 p0 p2)), .val (.int (v0_15_s0 p1 p2)), .val (.int (v0_38_l5 p0 p1 p2)), .unset] [(.int (-1 : Int32)), (.int (v0_3_s0 p0 p2))])) _
            refine XS.icmpYes X26.here hx rfl (pc0 := 77) (pc' := 84) rfl (hb hby at_77) rfl (feq hc77_29).2 (by decide) (by decide) ?_
            show Steps p.tables e below (T26.setTop (mkF m 84 #[.val (.int p0), .val (.int p1), .val (.int p2), .val (.int (v0_3_s0 p0 p2)), .val (.int (v0_15_s0 p1 p2)), .val (.int (v0_38_l5 p0 p1 p2)), .unset] [])) _
            refine XS.iconst X26.here hx rfl (hb hby at_84) ?_
            exact k30
        show Steps p.tables e below (T26.setTop (mkF m 85 #[.val (.int p0), .val (.int p1), .val (.int p2), .val (.int (v0_3_s0 p0 p2)), .val (.int (v0_15_s0 p1 p2)), .val (.int (v0_38_l5 p0 p1 p2)), .unset] [(.int (v0_77_s0 p0 p2))])) _
        refine XS.istore X26.here hx rfl (hb hby at_85) rfl (l' := #[.val (.int p0), .val (.int p1), .val (.int p2), .val (.int (v0_3_s0 p0 p2)), .val (.int (v0_15_s0 p1 p2)), .val (.int (v0_38_l5 p0 p1 p2)), .val (.int (v0_77_s0 p0 p2))]) rfl ?_
        exact k37
      · rw [(show (v0_43_l6 p0 p1 p2) = (v0_50_l6 p0 p1 p2) from if_neg hc43_28)] at k37
        show Steps p.tables e below (T26.setTop (mkF m 43 #[.val (.int p0), .val (.int p1), .val (.int p2), .val (.int (v0_3_s0 p0 p2)), .val (.int (v0_15_s0 p1 p2)), .val (.int (v0_38_l5 p0 p1 p2)), .unset] [(.int (1 : Int32)), (.int (v0_15_s0 p1 p2))])) _
        refine XS.icmpNo X26.here hx rfl (hb hby at_43) rfl (flt hc43_28).1 ?_
        show Steps p.tables e below (T26.setTop (mkF m 46 #[.val (.int p0), .val (.int p1), .val (.int p2), .val (.int (v0_3_s0 p0 p2)), .val (.int (v0_15_s0 p1 p2)), .val (.int (v0_38_l5 p0 p1 p2)), .unset] [])) _
        refine XS.iload X26.here hx rfl (hb hby at_46) rfl ?_
        show Steps p.tables e below (T26.setTop (mkF m 48 #[.val (.int p0), .val (.int p1), .val (.int p2), .val (.int (v0_3_s0 p0 p2)), .val (.int (v0_15_s0 p1 p2)), .val (.int (v0_38_l5 p0 p1 p2)), .unset] [(.int (v0_15_s0 p1 p2))])) _
        refine XS.bipush X26.here hx rfl (hb hby at_48) ?_
        suffices k36 : Steps p.tables e below (T26.setTop (mkF m 87 #[.val (.int p0), .val (.int p1), .val (.int p2), .val (.int (v0_3_s0 p0 p2)), .val (.int (v0_15_s0 p1 p2)), .val (.int (v0_38_l5 p0 p1 p2)), .val (.int (v0_50_l6 p0 p1 p2))] [])) t by
          by_cases hc50_31 : (32 : Int32) < (v0_15_s0 p1 p2)
          · rw [(show (v0_50_l6 p0 p1 p2) = (v0_77_s0 p0 p2) from if_pos hc50_31)] at k36
            show Steps p.tables e below (T26.setTop (mkF m 50 #[.val (.int p0), .val (.int p1), .val (.int p2), .val (.int (v0_3_s0 p0 p2)), .val (.int (v0_15_s0 p1 p2)), .val (.int (v0_38_l5 p0 p1 p2)), .unset] [(.int (32 : Int32)), (.int (v0_15_s0 p1 p2))])) _
            refine XS.icmpYes X26.here hx rfl (pc0 := 50) (pc' := 75) rfl (hb hby at_50) rfl (tlt hc50_31).2.2.1 (by decide) (by decide) ?_
            show Steps p.tables e below (T26.setTop (mkF m 75 #[.val (.int p0), .val (.int p1), .val (.int p2), .val (.int (v0_3_s0 p0 p2)), .val (.int (v0_15_s0 p1 p2)), .val (.int (v0_38_l5 p0 p1 p2)), .unset] [])) _
            refine XS.iloadN X26.here hx rfl (hb hby at_75) rfl ?_
            show Steps p.tables e below (T26.setTop (mkF m 76 #[.val (.int p0), .val (.int p1), .val (.int p2), .val (.int (v0_3_s0 p0 p2)), .val (.int (v0_15_s0 p1 p2)), .val (.int (v0_38_l5 p0 p1 p2)), .unset] [(.int (v0_3_s0 p0 p2))])) _
            refine XS.iconst X26.here hx rfl (hb hby at_76) ?_
            suffices k33 : Steps p.tables e below (T26.setTop (mkF m 85 #[.val (.int p0), .val (.int p1), .val (.int p2), .val (.int (v0_3_s0 p0 p2)), .val (.int (v0_15_s0 p1 p2)), .val (.int (v0_38_l5 p0 p1 p2)), .unset] [(.int (v0_77_s0 p0 p2))])) t by
              by_cases hc77_32 : (v0_3_s0 p0 p2) = (-1 : Int32)
              · rw [(show (v0_77_s0 p0 p2) = (1 : Int32) from if_pos hc77_32)] at k33
                show Steps p.tables e below (T26.setTop (mkF m 77 #[.val (.int p0), .val (.int p1), .val (.int p2), .val (.int (v0_3_s0 p0 p2)), .val (.int (v0_15_s0 p1 p2)), .val (.int (v0_38_l5 p0 p1 p2)), .unset] [(.int (-1 : Int32)), (.int (v0_3_s0 p0 p2))])) _
                refine XS.icmpNo X26.here hx rfl (hb hby at_77) rfl (teq hc77_32).2 ?_
                show Steps p.tables e below (T26.setTop (mkF m 80 #[.val (.int p0), .val (.int p1), .val (.int p2), .val (.int (v0_3_s0 p0 p2)), .val (.int (v0_15_s0 p1 p2)), .val (.int (v0_38_l5 p0 p1 p2)), .unset] [])) _
                refine XS.iconst X26.here hx rfl (hb hby at_80) ?_
                show Steps p.tables e below (T26.setTop (mkF m 81 #[.val (.int p0), .val (.int p1), .val (.int p2), .val (.int (v0_3_s0 p0 p2)), .val (.int (v0_15_s0 p1 p2)), .val (.int (v0_38_l5 p0 p1 p2)), .unset] [(.int (1 : Int32))])) _
                refine XS.goto X26.here hx rfl (pc0 := 81) (pc' := 85) rfl (hb hby at_81) (by decide) (by decide) ?_
                exact k33
              · rw [(show (v0_77_s0 p0 p2) = (0 : Int32) from if_neg hc77_32)] at k33
                show Steps p.tables e below (T26.setTop (mkF m 77 #[.val (.int p0), .val (.int p1), .val (.int p2), .val (.int (v0_3_s0 p0 p2)), .val (.int (v0_15_s0 p1 p2)), .val (.int (v0_38_l5 p0 p1 p2)), .unset] [(.int (-1 : Int32)), (.int (v0_3_s0 p0 p2))])) _
                refine XS.icmpYes X26.here hx rfl (pc0 := 77) (pc' := 84) rfl (hb hby at_77) rfl (feq hc77_32).2 (by decide) (by decide) ?_
                show Steps p.tables e below (T26.setTop (mkF m 84 #[.val (.int p0), .val (.int p1), .val (.int p2), .val (.int (v0_3_s0 p0 p2)), .val (.int (v0_15_s0 p1 p2)), .val (.int (v0_38_l5 p0 p1 p2)), .unset] [])) _
                refine XS.iconst X26.here hx rfl (hb hby at_84) ?_
                exact k33
            show Steps p.tables e below (T26.setTop (mkF m 85 #[.val (.int p0), .val (.int p1), .val (.int p2), .val (.int (v0_3_s0 p0 p2)), .val (.int (v0_15_s0 p1 p2)), .val (.int (v0_38_l5 p0 p1 p2)), .unset] [(.int (v0_77_s0 p0 p2))])) _
            refine XS.istore X26.here hx rfl (hb hby at_85) rfl (l' := #[.val (.int p0), .val (.int p1), .val (.int p2), .val (.int (v0_3_s0 p0 p2)), .val (.int (v0_15_s0 p1 p2)), .val (.int (v0_38_l5 p0 p1 p2)), .val (.int (v0_77_s0 p0 p2))]) rfl ?_
            exact k36
          · rw [(show (v0_50_l6 p0 p1 p2) = (v0_62_s0 p0 p1 p2) from if_neg hc50_31)] at k36
            show Steps p.tables e below (T26.setTop (mkF m 50 #[.val (.int p0), .val (.int p1), .val (.int p2), .val (.int (v0_3_s0 p0 p2)), .val (.int (v0_15_s0 p1 p2)), .val (.int (v0_38_l5 p0 p1 p2)), .unset] [(.int (32 : Int32)), (.int (v0_15_s0 p1 p2))])) _
            refine XS.icmpNo X26.here hx rfl (hb hby at_50) rfl (flt hc50_31).2.2.1 ?_
            show Steps p.tables e below (T26.setTop (mkF m 53 #[.val (.int p0), .val (.int p1), .val (.int p2), .val (.int (v0_3_s0 p0 p2)), .val (.int (v0_15_s0 p1 p2)), .val (.int (v0_38_l5 p0 p1 p2)), .unset] [])) _
            refine XS.iloadN X26.here hx rfl (hb hby at_53) rfl ?_
            show Steps p.tables e below (T26.setTop (mkF m 54 #[.val (.int p0), .val (.int p1), .val (.int p2), .val (.int (v0_3_s0 p0 p2)), .val (.int (v0_15_s0 p1 p2)), .val (.int (v0_38_l5 p0 p1 p2)), .unset] [(.int (v0_3_s0 p0 p2))])) _
            refine XS.iload X26.here hx rfl (hb hby at_54) rfl ?_
            show Steps p.tables e below (T26.setTop (mkF m 56 #[.val (.int p0), .val (.int p1), .val (.int p2), .val (.int (v0_3_s0 p0 p2)), .val (.int (v0_15_s0 p1 p2)), .val (.int (v0_38_l5 p0 p1 p2)), .unset] [(.int (v0_15_s0 p1 p2)), (.int (v0_3_s0 p0 p2))])) _
            refine XS.iconst X26.here hx rfl (hb hby at_56) ?_
            show Steps p.tables e below (T26.setTop (mkF m 57 #[.val (.int p0), .val (.int p1), .val (.int p2), .val (.int (v0_3_s0 p0 p2)), .val (.int (v0_15_s0 p1 p2)), .val (.int (v0_38_l5 p0 p1 p2)), .unset] [(.int (1 : Int32)), (.int (v0_15_s0 p1 p2)), (.int (v0_3_s0 p0 p2))])) _
            refine XS.isub X26.here hx rfl (hb hby at_57) rfl ?_
            show Steps p.tables e below (T26.setTop (mkF m 58 #[.val (.int p0), .val (.int p1), .val (.int p2), .val (.int (v0_3_s0 p0 p2)), .val (.int (v0_15_s0 p1 p2)), .val (.int (v0_38_l5 p0 p1 p2)), .unset] [(.int ((v0_15_s0 p1 p2) - (1 : Int32))), (.int (v0_3_s0 p0 p2))])) _
            refine XS.iushr X26.here hx rfl (hb hby at_58) rfl ?_
            show Steps p.tables e below (T26.setTop (mkF m 59 #[.val (.int p0), .val (.int p1), .val (.int p2), .val (.int (v0_3_s0 p0 p2)), .val (.int (v0_15_s0 p1 p2)), .val (.int (v0_38_l5 p0 p1 p2)), .unset] [(.int (((v0_3_s0 p0 p2).toUInt32 >>> (((v0_15_s0 p1 p2) - (1 : Int32)) &&& 31).toUInt32).toInt32))])) _
            refine XS.iconst X26.here hx rfl (hb hby at_59) ?_
            show Steps p.tables e below (T26.setTop (mkF m 60 #[.val (.int p0), .val (.int p1), .val (.int p2), .val (.int (v0_3_s0 p0 p2)), .val (.int (v0_15_s0 p1 p2)), .val (.int (v0_38_l5 p0 p1 p2)), .unset] [(.int (1 : Int32)), (.int (((v0_3_s0 p0 p2).toUInt32 >>> (((v0_15_s0 p1 p2) - (1 : Int32)) &&& 31).toUInt32).toInt32))])) _
            refine XS.iand X26.here hx rfl (hb hby at_60) rfl ?_
            show Steps p.tables e below (T26.setTop (mkF m 61 #[.val (.int p0), .val (.int p1), .val (.int p2), .val (.int (v0_3_s0 p0 p2)), .val (.int (v0_15_s0 p1 p2)), .val (.int (v0_38_l5 p0 p1 p2)), .unset] [(.int ((((v0_3_s0 p0 p2).toUInt32 >>> (((v0_15_s0 p1 p2) - (1 : Int32)) &&& 31).toUInt32).toInt32) &&& (1 : Int32)))])) _
            refine XS.iconst X26.here hx rfl (hb hby at_61) ?_
            suffices k35 : Steps p.tables e below (T26.setTop (mkF m 70 #[.val (.int p0), .val (.int p1), .val (.int p2), .val (.int (v0_3_s0 p0 p2)), .val (.int (v0_15_s0 p1 p2)), .val (.int (v0_38_l5 p0 p1 p2)), .unset] [(.int (v0_62_s0 p0 p1 p2))])) t by
              by_cases hc62_34 : ((((v0_3_s0 p0 p2).toUInt32 >>> (((v0_15_s0 p1 p2) - (1 : Int32)) &&& 31).toUInt32).toInt32) &&& (1 : Int32)) = (1 : Int32)
              · rw [(show (v0_62_s0 p0 p1 p2) = (1 : Int32) from if_pos hc62_34)] at k35
                show Steps p.tables e below (T26.setTop (mkF m 62 #[.val (.int p0), .val (.int p1), .val (.int p2), .val (.int (v0_3_s0 p0 p2)), .val (.int (v0_15_s0 p1 p2)), .val (.int (v0_38_l5 p0 p1 p2)), .unset] [(.int (1 : Int32)), (.int ((((v0_3_s0 p0 p2).toUInt32 >>> (((v0_15_s0 p1 p2) - (1 : Int32)) &&& 31).toUInt32).toInt32) &&& (1 : Int32)))])) _
                refine XS.icmpNo X26.here hx rfl (hb hby at_62) rfl (teq hc62_34).2 ?_
                show Steps p.tables e below (T26.setTop (mkF m 65 #[.val (.int p0), .val (.int p1), .val (.int p2), .val (.int (v0_3_s0 p0 p2)), .val (.int (v0_15_s0 p1 p2)), .val (.int (v0_38_l5 p0 p1 p2)), .unset] [])) _
                refine XS.iconst X26.here hx rfl (hb hby at_65) ?_
                show Steps p.tables e below (T26.setTop (mkF m 66 #[.val (.int p0), .val (.int p1), .val (.int p2), .val (.int (v0_3_s0 p0 p2)), .val (.int (v0_15_s0 p1 p2)), .val (.int (v0_38_l5 p0 p1 p2)), .unset] [(.int (1 : Int32))])) _
                refine XS.goto X26.here hx rfl (pc0 := 66) (pc' := 70) rfl (hb hby at_66) (by decide) (by decide) ?_
                exact k35
              · rw [(show (v0_62_s0 p0 p1 p2) = (0 : Int32) from if_neg hc62_34)] at k35
                show Steps p.tables e below (T26.setTop (mkF m 62 #[.val (.int p0), .val (.int p1), .val (.int p2), .val (.int (v0_3_s0 p0 p2)), .val (.int (v0_15_s0 p1 p2)), .val (.int (v0_38_l5 p0 p1 p2)), .unset] [(.int (1 : Int32)), (.int ((((v0_3_s0 p0 p2).toUInt32 >>> (((v0_15_s0 p1 p2) - (1 : Int32)) &&& 31).toUInt32).toInt32) &&& (1 : Int32)))])) _
                refine XS.icmpYes X26.here hx rfl (pc0 := 62) (pc' := 69) rfl (hb hby at_62) rfl (feq hc62_34).2 (by decide) (by decide) ?_
                show Steps p.tables e below (T26.setTop (mkF m 69 #[.val (.int p0), .val (.int p1), .val (.int p2), .val (.int (v0_3_s0 p0 p2)), .val (.int (v0_15_s0 p1 p2)), .val (.int (v0_38_l5 p0 p1 p2)), .unset] [])) _
                refine XS.iconst X26.here hx rfl (hb hby at_69) ?_
                exact k35
            show Steps p.tables e below (T26.setTop (mkF m 70 #[.val (.int p0), .val (.int p1), .val (.int p2), .val (.int (v0_3_s0 p0 p2)), .val (.int (v0_15_s0 p1 p2)), .val (.int (v0_38_l5 p0 p1 p2)), .unset] [(.int (v0_62_s0 p0 p1 p2))])) _
            refine XS.istore X26.here hx rfl (hb hby at_70) rfl (l' := #[.val (.int p0), .val (.int p1), .val (.int p2), .val (.int (v0_3_s0 p0 p2)), .val (.int (v0_15_s0 p1 p2)), .val (.int (v0_38_l5 p0 p1 p2)), .val (.int (v0_62_s0 p0 p1 p2))]) rfl ?_
            show Steps p.tables e below (T26.setTop (mkF m 72 #[.val (.int p0), .val (.int p1), .val (.int p2), .val (.int (v0_3_s0 p0 p2)), .val (.int (v0_15_s0 p1 p2)), .val (.int (v0_38_l5 p0 p1 p2)), .val (.int (v0_62_s0 p0 p1 p2))] [])) _
            refine XS.goto X26.here hx rfl (pc0 := 72) (pc' := 87) rfl (hb hby at_72) (by decide) (by decide) ?_
            exact k36
        exact k37
    show Steps p.tables e below (T26.setTop (mkF m 87 #[.val (.int p0), .val (.int p1), .val (.int p2), .val (.int (v0_3_s0 p0 p2)), .val (.int (v0_15_s0 p1 p2)), .val (.int (v0_38_l5 p0 p1 p2)), .val (.int (v0_43_l6 p0 p1 p2))] [])) _
    refine XS.iload X26.here hx rfl (hb hby at_87) rfl ?_
    show Steps p.tables e below (T26.setTop (mkF m 89 #[.val (.int p0), .val (.int p1), .val (.int p2), .val (.int (v0_3_s0 p0 p2)), .val (.int (v0_15_s0 p1 p2)), .val (.int (v0_38_l5 p0 p1 p2)), .val (.int (v0_43_l6 p0 p1 p2))] [(.int (v0_38_l5 p0 p1 p2))])) _
    refine XS.iload X26.here hx rfl (hb hby at_89) rfl ?_
    suffices k39 : Steps p.tables e below (T26.setTop (mkF m 99 #[.val (.int p0), .val (.int p1), .val (.int p2), .val (.int (v0_3_s0 p0 p2)), .val (.int (v0_15_s0 p1 p2)), .val (.int (v0_38_l5 p0 p1 p2)), .val (.int (v0_43_l6 p0 p1 p2))] [(.int (v0_91_s0 p0 p1 p2))])) t by
      by_cases hc91_38 : (v0_38_l5 p0 p1 p2) = (v0_43_l6 p0 p1 p2)
      · rw [(show (v0_91_s0 p0 p1 p2) = (1 : Int32) from if_pos hc91_38)] at k39
        show Steps p.tables e below (T26.setTop (mkF m 91 #[.val (.int p0), .val (.int p1), .val (.int p2), .val (.int (v0_3_s0 p0 p2)), .val (.int (v0_15_s0 p1 p2)), .val (.int (v0_38_l5 p0 p1 p2)), .val (.int (v0_43_l6 p0 p1 p2))] [(.int (v0_43_l6 p0 p1 p2)), (.int (v0_38_l5 p0 p1 p2))])) _
        refine XS.icmpNo X26.here hx rfl (hb hby at_91) rfl (teq hc91_38).2 ?_
        show Steps p.tables e below (T26.setTop (mkF m 94 #[.val (.int p0), .val (.int p1), .val (.int p2), .val (.int (v0_3_s0 p0 p2)), .val (.int (v0_15_s0 p1 p2)), .val (.int (v0_38_l5 p0 p1 p2)), .val (.int (v0_43_l6 p0 p1 p2))] [])) _
        refine XS.iconst X26.here hx rfl (hb hby at_94) ?_
        show Steps p.tables e below (T26.setTop (mkF m 95 #[.val (.int p0), .val (.int p1), .val (.int p2), .val (.int (v0_3_s0 p0 p2)), .val (.int (v0_15_s0 p1 p2)), .val (.int (v0_38_l5 p0 p1 p2)), .val (.int (v0_43_l6 p0 p1 p2))] [(.int (1 : Int32))])) _
        refine XS.goto X26.here hx rfl (pc0 := 95) (pc' := 99) rfl (hb hby at_95) (by decide) (by decide) ?_
        exact k39
      · rw [(show (v0_91_s0 p0 p1 p2) = (0 : Int32) from if_neg hc91_38)] at k39
        show Steps p.tables e below (T26.setTop (mkF m 91 #[.val (.int p0), .val (.int p1), .val (.int p2), .val (.int (v0_3_s0 p0 p2)), .val (.int (v0_15_s0 p1 p2)), .val (.int (v0_38_l5 p0 p1 p2)), .val (.int (v0_43_l6 p0 p1 p2))] [(.int (v0_43_l6 p0 p1 p2)), (.int (v0_38_l5 p0 p1 p2))])) _
        refine XS.icmpYes X26.here hx rfl (pc0 := 91) (pc' := 98) rfl (hb hby at_91) rfl (feq hc91_38).2 (by decide) (by decide) ?_
        show Steps p.tables e below (T26.setTop (mkF m 98 #[.val (.int p0), .val (.int p1), .val (.int p2), .val (.int (v0_3_s0 p0 p2)), .val (.int (v0_15_s0 p1 p2)), .val (.int (v0_38_l5 p0 p1 p2)), .val (.int (v0_43_l6 p0 p1 p2))] [])) _
        refine XS.iconst X26.here hx rfl (hb hby at_98) ?_
        exact k39
    exact kk)
  obtain ⟨fs, hr, hrun, hended, hW, hsame⟩ := X26.leave (v := some (.int (nar .boolean (v0_91_s0 p0 p1 p2)))) (fun h => by rw [Bd.returns] at h; cases h)
  have hv : (nar .boolean (v0_91_s0 p0 p1 p2)) = (nar .boolean (v0_91_s0 p0 p1 p2)) := rfl
  have hone : (nar .boolean (v0_91_s0 p0 p1 p2)) = 1 := hv.symm.trans (own_law p0 p1 p2)
  refine ⟨_, _, k40 _ ?_, hrun, hended, _, _, rfl, ?_, ⟨_, rfl⟩, hW, hsame.mono (by decide) (by decide)⟩
  · show Steps p.tables e below (T26.setTop (mkF m 99 #[.val (.int p0), .val (.int p1), .val (.int p2), .val (.int (v0_3_s0 p0 p2)), .val (.int (v0_15_s0 p1 p2)), .val (.int (v0_38_l5 p0 p1 p2)), .val (.int (v0_43_l6 p0 p1 p2))] [(.int (v0_91_s0 p0 p1 p2))])) _
    exact retN X26 hx (t := .boolean) Bd.returns (by simp) (hb hby at_99) hr
  · show Q0 Z p0 p1 p2 h0 n0 _ T26.heap _
    rw [e26]
    exact ⟨congrArg (fun z => some (Value.int z)) hone, N26⟩
set_option maxRecDepth 65536 in
set_option maxHeartbeats 40000000 in
theorem comes_1 {Post : Tables → Env → Array Value → State → Outcome → State → Prop} (hpost : ∀ tb e args s v u, (limb_1_1.after args s (.returned v) u = true ∧ limb_1_2.after args s (.returned v) u = true ∧ True) → FrameEnd s (.returned v) u (Jvm.fieldLocs frame_1_writes args s ++ Jvm.arrayLocs frame_1_arrays args s ++ Jvm.staticLocs frame_1_statics s) 0 0 → Post tb e args s (.returned v) u) :
    ArmFor flags0 classFile x code maxLocals ret World_1 tables_1 room_1 Calls_1 rest_1 Pre_1 Post := by
  intro l hfl _ _ p e ha hc hk s m args below hf hA hF happ hP
  obtain ⟨hcalls, hrest, hpre⟩ := hP
  obtain ⟨-, -, -, hnamed, -, -, -, hat⟩ := (Spec.applies_iff hf).mp happ
  obtain ⟨hg, hn⟩ := and_e (Cond.before_iff.mp (show (Jvm.Cond.and given_1 narrow_1).before args s = true from hpre))
  obtain ⟨hcnt, hg0⟩ := and_e hg
  obtain ⟨ha0, hg1⟩ := and_e hg0
  obtain ⟨ha1, hg2⟩ := and_e hg1
  have ha2 := hg2
  obtain ⟨w0, w1, w2, rfl⟩ : ∃ w0 w1 w2 : Value, args = #[w0, w1, w2] := by
    have hs : args.size = 3 := by simpa [Cond.value, given_1] using hcnt
    obtain ⟨L⟩ := args
    match L, hs with
    | [w0, w1, w2], _ => exact ⟨w0, w1, w2, rfl⟩
  have hw := fun d (hd : d ∈ tables_1) => atoms_spec (ws := Jvm.Cond.code x code maxLocals ret :: tables_1) hat d (List.mem_cons_of_mem _ hd)
  have hfit : Fit s := fun {y c} hc i hi => by
    obtain ⟨ha, rfl⟩ := Array.getElem?_eq_some_iff.mp hc
    have q := List.all_eq_true.mp ((Array.all_eq_true_iff_forall_mem.mp hF) _ (Array.getElem_mem ha)) i (List.mem_range.mpr hi)
    simpa [Array.getElem?_eq_getElem hi] using q
  obtain ⟨p0, ea0⟩ := is_v ha0
  obtain rfl : w0 = (.int p0) := Option.some.inj ea0
  obtain ⟨p1, ea1⟩ := is_v ha1
  obtain rfl : w1 = (.int p1) := Option.some.inj ea1
  obtain ⟨p2, ea2⟩ := is_v ha2
  obtain rfl : w2 = (.int p2) := Option.some.inj ea2
  obtain ⟨n, o, h1, h2, h3, _, L, rfl, ⟨rfl, N⟩, hq⟩ := rm0 l s _ hw tables_1 p0 p1 p2 s.heap s.heap.size (Nat.le_refl _)  p e ha hc hk s m _ below hf ((Spec.applies_iff_loose hf).mp happ).1 ⟨rfl, State.Warmed39.refl s, rfl⟩ trivial
  refine ⟨n, _, h1, h2, h3, hpost _ _ _ _ _ _ ⟨Cond.after_iff.mpr rfl, Cond.after_iff.mpr (eq_i res_at (Term.int_eval (1)) rfl), trivial⟩ ⟨hq.1, hq.2.1, (hq.2.2.sift fun y hy => Or.inr (N y hy)).mono (by decide) (by decide)⟩⟩
theorem main_1_1 : Claimed_1_1 := comes_1 fun _ _ _ _ _ _ h hF => ⟨h.1, hF⟩
theorem main_1_2 : Claimed_1_2 := comes_1 fun _ _ _ _ _ _ h hF => ⟨h.2.1, hF⟩
end Jvm.Pilot.@@N@@
namespace Jvm.Pilot.@@N@@
open Jvm Jvm.ClassFile Sem Op Lib Jvm.Free Jvm.Stand Jvm.Pilot.@@N@@.Jvm.D
/-! MADE BY PROGRAM (witnessworld.py) out of the Statement's table words and the real class files: 10 classes; the members and pool entries that the words name. The judged class is class 1, her method 1. -/
namespace start1
open Jvm.ClassFile
def u (s : String) : CpInfo := .utf8 (stringToUtf16 s)
/-- a pool by its gaps: so many unusable entries, then the entry; so many at the end -/
def gap : Nat → List CpInfo → List CpInfo
  | 0, r => r
  | n + 1, r => .unusable :: gap n r
def poolList (es : List (Nat × CpInfo)) (last : Nat) : List CpInfo := es.foldr (fun e r => gap e.1 (e.2 :: r)) (gap last [])
def pool (es : List (Nat × CpInfo)) (last : Nat) : Array CpInfo := ⟨poolList es last⟩
def fileOf (pool : Array CpInfo) (this : Nat) (attrs : Array Attribute := #[]) (ms : Array MethodInfo := #[]) (fl : Nat := 33) (sup : Nat := 0) (ifs : Array Nat := #[]) (fds : Array FieldInfo := #[]) : ClassFile where
  minorVersion := 0
  majorVersion := 65
  constantPool := pool
  accessFlags := fl
  thisClass := this
  superClass := sup
  interfaces := ifs
  fields := fds
  methods := ms
  attributes := attrs
def plain (name : String) (sup : Option ClassId) : Class where
  name := name
  kind := .ordinary
  loader := none
  accessFlags := 33
  super := sup
  interfaces := #[]
  cf := none
  fields := #[]
  methods := #[]
  instanceTypes := #[]
  staticTypes := #[]
  resolved := #[]
  callSites := []
  init := .initialized
  statics := none
  mirror := none

def pool0 : Array CpInfo := pool [(5, u "<init>"), (0, u "()V"), (1, .class_ 10), (1, u "java/lang/Object")] 113

def k0m0 : Method := { name := "<init>", desc := "()V", sig := { parameters := [], returnType := none }, accessFlags := 1, code := none }
/-- java/lang/Object -/
def k0 : Class := { plain "java/lang/Object" none with
  accessFlags := 33
  interfaces := #[]
  cf := some (fileOf pool0 8 #[] #[{ accessFlags := 1, nameIndex := 5, descriptorIndex := 6, attributes := #[] }] 33 0 #[] #[])
  fields := #[]
  methods := #[k0m0]
  instanceTypes := #[]
  staticTypes := #[]
  resolved := Array.replicate 124 none
  statics := none }

def pool1 : Array CpInfo := pool [(2, .class_ 4), (1, u "java/lang/Object"), (0, u "<init>"), (0, u "()V"), (0, .methodref 8 9), (0, .class_ 10), (0, .nameAndType 11 12), (0, u "com/example/libbranch/libbranch/view/Visibility"), (0, u "showsType"), (0, u "(IS)Z"), (0, .class_ 14), (0, u "com/example/libbranch/libbranch/view/VisibilityShowsTypePinLaw"), (2, u "law"), (0, u "(III)Z")] 3

def k1m0 : Method := { name := "<init>", desc := "()V", sig := { parameters := [], returnType := none }, accessFlags := 2, code := none }
def k1c1 : Code := { maxStack := 3, maxLocals := 7, code := code, exceptionTable := #[], attributes := #[] }
def k1m1 : Method := { name := "law", desc := "(III)Z", sig := { parameters := [.int, .int, .int], returnType := some .boolean }, accessFlags := 9, code := some k1c1 }
/-- com/example/libbranch/libbranch/view/VisibilityShowsTypePinLaw -/
def k1 : Class := { plain "com/example/libbranch/libbranch/view/VisibilityShowsTypePinLaw" (some 0) with
  accessFlags := 49
  interfaces := #[]
  cf := some (fileOf pool1 13 #[] #[{ accessFlags := 2, nameIndex := 5, descriptorIndex := 6, attributes := #[] }, { accessFlags := 9, nameIndex := 17, descriptorIndex := 18, attributes := #[] }] 49 2 #[] #[])
  fields := #[]
  methods := #[k1m0, k1m1]
  instanceTypes := #[]
  staticTypes := #[]
  resolved := Array.replicate 22 none
  statics := none }

def pool2 : Array CpInfo := pool [(2, .class_ 4), (1, u "java/lang/Object"), (3, .class_ 10), (1, u "com/example/libbranch/libbranch/view/Visibility"), (0, u "whatToShow"), (0, u "I"), (2, u "filter"), (0, u "Lorg/w3c/dom/traversal/NodeFilter;"), (2, u "showsType"), (13, .methodref 34 35), (0, .class_ 36), (0, .nameAndType 37 38), (0, u "com/example/libbranch/libbranch/view/WhatToShow"), (0, u "shows"), (0, u "(IS)Z")] 14

def k2c0 : Code := { maxStack := 2, maxLocals := 2, code := prog_26_method_5_code, exceptionTable := #[], attributes := #[] }
def k2m0 : Method := { name := "showsType", desc := "(IS)Z", sig := { parameters := [.int, .short], returnType := some .boolean }, accessFlags := 9, code := some k2c0 }
/-- com/example/libbranch/libbranch/view/Visibility -/
def k2 : Class := { plain "com/example/libbranch/libbranch/view/Visibility" (some 0) with
  accessFlags := 49
  interfaces := #[]
  cf := some (fileOf pool2 8 #[] #[{ accessFlags := 9, nameIndex := 19, descriptorIndex := 38, attributes := #[] }] 49 2 #[] #[{ accessFlags := 18, nameIndex := 11, descriptorIndex := 12, attributes := #[] }, { accessFlags := 18, nameIndex := 15, descriptorIndex := 16, attributes := #[] }])
  fields := #[{ name := "whatToShow", type := .int, accessFlags := 18, slot := 0, constantValue := 0 }, { name := "filter", type := (.object "org/w3c/dom/traversal/NodeFilter"), accessFlags := 18, slot := 1, constantValue := 0 }]
  methods := #[k2m0]
  instanceTypes := #[.int, (.object "org/w3c/dom/traversal/NodeFilter")]
  staticTypes := #[]
  resolved := Array.replicate 53 none
  statics := none }

def pool3 : Array CpInfo := pool [(4, .class_ 6), (1, u "java/lang/Object"), (0, u "<init>"), (0, u "()V"), (0, .class_ 10), (0, u "com/example/libbranch/libbranch/view/WhatToShow"), (2, u "LAST_FLAGGED_TYPE"), (0, u "I"), (4, u "shows"), (0, u "(IS)Z")] 3

def k3m0 : Method := { name := "<init>", desc := "()V", sig := { parameters := [], returnType := none }, accessFlags := 2, code := none }
def k3c1 : Code := { maxStack := 4, maxLocals := 3, code := prog_28_method_2_code, exceptionTable := #[], attributes := #[] }
def k3m1 : Method := { name := "shows", desc := "(IS)Z", sig := { parameters := [.int, .short], returnType := some .boolean }, accessFlags := 9, code := some k3c1 }
/-- com/example/libbranch/libbranch/view/WhatToShow -/
def k3 : Class := { plain "com/example/libbranch/libbranch/view/WhatToShow" (some 0) with
  accessFlags := 49
  interfaces := #[]
  cf := some (fileOf pool3 9 #[] #[{ accessFlags := 2, nameIndex := 7, descriptorIndex := 8, attributes := #[] }, { accessFlags := 9, nameIndex := 19, descriptorIndex := 20, attributes := #[] }] 49 4 #[] #[{ accessFlags := 26, nameIndex := 13, descriptorIndex := 14, attributes := #[] }])
  fields := #[{ name := "LAST_FLAGGED_TYPE", type := .int, accessFlags := 26, slot := 0, constantValue := 0 }]
  methods := #[k3m0, k3m1]
  instanceTypes := #[]
  staticTypes := #[.int]
  resolved := Array.replicate 24 none
  statics := none }

def pool4 : Array CpInfo := pool [(1, u "java/lang/Cloneable"), (0, .class_ 1), (0, u "java/lang/Object"), (0, .class_ 3)] 3

/-- java/lang/Cloneable -/
def k4 : Class := { plain "java/lang/Cloneable" (some 0) with
  accessFlags := 1537
  interfaces := #[]
  cf := some (fileOf pool4 2 #[] #[] 1537 4 #[] #[])
  fields := #[]
  methods := #[]
  instanceTypes := #[]
  staticTypes := #[]
  resolved := Array.replicate 8 none
  statics := none }

def pool5 : Array CpInfo := pool [(1, u "java/io/Serializable"), (0, .class_ 1), (0, u "java/lang/Object"), (0, .class_ 3)] 3

/-- java/io/Serializable -/
def k5 : Class := { plain "java/io/Serializable" (some 0) with
  accessFlags := 1537
  interfaces := #[]
  cf := some (fileOf pool5 2 #[] #[] 1537 4 #[] #[])
  fields := #[]
  methods := #[]
  instanceTypes := #[]
  staticTypes := #[]
  resolved := Array.replicate 8 none
  statics := none }

/-- the primitive byte -/
def k6 : Class := { plain "byte" none with kind := .primitive 'B', accessFlags := 0x411 }
/-- [B -/
def k7 : Class := { plain "[B" (some 0) with kind := .array 6 .byte, interfaces := #[4, 5], accessFlags := 1041 }

/-- the primitive int -/
def k8 : Class := { plain "int" none with kind := .primitive 'I', accessFlags := 0x411 }
/-- [I -/
def k9 : Class := { plain "[I" (some 0) with kind := .array 8 .int, interfaces := #[4, 5], accessFlags := 1041 }

def heap : Heap := #[]
def classes : Array Class := #[k0, k1, k2, k3, k4, k5, k6, k7, k8, k9]
def interned : List (Array UInt16 × Addr) := []
def slotsUsed : Nat := 0
def theMethod : MethodId := ⟨1, 1⟩
def args0 : Array Value := #[.int 5, .int 3, .int 0]
def aboutOver (below : List Frame) : State where
  vm := { classes := classes, interned := interned.toArray }
  heap := heap
  slotsUsed := slotsUsed
  threads := #[{ frames := .invoking theMethod args0 :: below }]
def below0 : List Frame := [.native { method := ⟨0, 0⟩, args := #[] }]
def about1 : State := aboutOver below0
def p0 : Program := .bare "" "" ""
def e0 : Env := launch0.env 0 0 0
theorem w_frames : about1.frames = Frame.invoking theMethod args0 :: below0 := rfl
set_option maxRecDepth 65536 in
theorem w_args : argsFit about1.vm theMethod args0 = true := by decide +kernel
set_option maxRecDepth 65536 in
theorem w_heap : heapFits about1 = true := by decide +kernel
set_option maxRecDepth 65536 in
theorem w_runnable : about1.curStatus? = some .runnable := by decide +kernel
set_option maxRecDepth 65536 in
theorem w_alone : about1.alone = true := by decide +kernel
set_option maxRecDepth 65536 in
theorem w_named : about1.methodNamed? x = some theMethod := by decide +kernel
set_option maxRecDepth 65536 in
theorem w_hears : about1.hears theMethod below0 = true := by decide +kernel
set_option maxRecDepth 65536 in
theorem w_ripe : about1.ripe theMethod args0 below0 = true := by decide +kernel
theorem w_running : about1.status = .running := rfl
set_option maxRecDepth 65536 in
theorem w_room : about1.hasRoom e0.platform room_1 = true :=
  launch0.hasRoom_least _ room_1 (by decide +kernel) (by decide +kernel) (by decide +kernel) (by decide +kernel) (by decide +kernel) (by decide +kernel)
theorem allAtoms_all (ts : List Jvm.Cond) (a : Array Jvm.Value) (st : Jvm.State) : (allAtoms ts).before a st = ts.all (fun c => c.before a st) := by
  induction ts with
  | nil => rfl
  | cons c t ih =>
    show (Jvm.Cond.and c (allAtoms t)).before a st = _
    rw [Jvm.Cond.before_and, ih, List.all_cons]
def words1 : List Jvm.Cond := Jvm.Cond.code x code maxLocals ret :: tables_1
/-- a 'code' word, met by the world's own term for the bytes: nothing is compared byte by byte -/
theorem code_word {y : MethodName} {bytes : ByteArray} {mx : Nat} {rt : Option FieldType} {a : Array Value} {s : State} {m : MethodId} {meth : Method} {c : Code} (h1 : s.methodNamed? y = some m) (h2 : s.vm.method? m = some meth) (h3 : meth.code = some c) (h4 : c.code = bytes)
    (h5 : (c.maxLocals == mx && c.exceptionTable.isEmpty && decide (c.maxStack ≤ mostOperands) && decide (meth.sig.returnType = rt) && !meth.locks && decide (parseMethodDescriptor y.desc = some meth.sig)) = true) : (Jvm.Cond.code y bytes mx rt).before a s = true := by
  simp only [Bool.and_eq_true, beq_iff_eq, Bool.not_eq_true', decide_eq_true_eq] at h5
  obtain ⟨⟨⟨⟨⟨g1, g2⟩, g3⟩, g4⟩, g5⟩, g6⟩ := h5
  simp [Cond.before, Cond.holds, Cond.value, h1, h2, h3, h4, g1, g2, g3, g4, g5, g6]
def isCode : Jvm.Cond → Bool
  | .code _ _ _ _ => true
  | _ => false
theorem all_split {L : List Jvm.Cond} {P : Jvm.Cond → Bool} (h1 : L.all (fun c => isCode c || P c) = true) (h2 : ∀ c ∈ L.filter isCode, P c = true) : L.all P = true := by
  refine List.all_eq_true.mpr fun c hc => ?_
  have h := List.all_eq_true.mp h1 c hc
  rcases Bool.eq_false_or_eq_true (isCode c) with hi | hi
  · exact h2 c (List.mem_filter.mpr ⟨hc, hi⟩)
  · simpa [hi] using h
set_option maxRecDepth 65536 in
theorem w_c0 : (Jvm.Cond.code x code maxLocals ret).before args0 about1 = true := code_word (m := ⟨1, 1⟩) (meth := k1m1) (c := k1c1) (by decide +kernel) rfl rfl rfl (by decide +kernel)
set_option maxRecDepth 65536 in
theorem w_c1 : (Jvm.Cond.code ({ cls := "com/example/libbranch/libbranch/view/Visibility", name := "showsType", desc := "(IS)Z" } : Jvm.MethodName) prog_26_method_5_code (2 : Nat) (Option.some Jvm.ClassFile.FieldType.boolean)).before args0 about1 = true := code_word (m := ⟨2, 0⟩) (meth := k2m0) (c := k2c0) (by decide +kernel) rfl rfl rfl (by decide +kernel)
set_option maxRecDepth 65536 in
theorem w_c2 : (Jvm.Cond.code ({ cls := "com/example/libbranch/libbranch/view/WhatToShow", name := "shows", desc := "(IS)Z" } : Jvm.MethodName) prog_28_method_2_code (3 : Nat) (Option.some Jvm.ClassFile.FieldType.boolean)).before args0 about1 = true := code_word (m := ⟨3, 1⟩) (meth := k3m1) (c := k3c1) (by decide +kernel) rfl rfl rfl (by decide +kernel)
def codes1 : List Jvm.Cond := [Jvm.Cond.code x code maxLocals ret, Jvm.Cond.code ({ cls := "com/example/libbranch/libbranch/view/Visibility", name := "showsType", desc := "(IS)Z" } : Jvm.MethodName) prog_26_method_5_code (2 : Nat) (Option.some Jvm.ClassFile.FieldType.boolean), Jvm.Cond.code ({ cls := "com/example/libbranch/libbranch/view/WhatToShow", name := "shows", desc := "(IS)Z" } : Jvm.MethodName) prog_28_method_2_code (3 : Nat) (Option.some Jvm.ClassFile.FieldType.boolean)]
set_option maxRecDepth 65536 in
theorem codes_eq : words1.filter isCode = codes1 := rfl
theorem w_codes : ∀ c ∈ words1.filter isCode, c.before args0 about1 = true := by
  rw [codes_eq]
  intro c hc
  simp only [codes1, List.mem_cons, List.not_mem_nil, or_false] at hc
  rcases hc with rfl | rfl | rfl
  · exact w_c0
  · exact w_c1
  · exact w_c2
set_option maxRecDepth 65536 in
theorem w_t1 : words1.all (fun c => isCode c || c.before args0 about1) = true := by decide +kernel
theorem w_tables : (allAtoms (Jvm.Cond.code x code maxLocals ret :: tables_1)).before args0 about1 = true := by
  rw [allAtoms_all]
  show words1.all (fun c => c.before args0 about1) = true
  refine all_split ?_ w_codes
  rw [w_t1]
set_option maxRecDepth 65536 in
theorem w_case : (Jvm.Cond.and given_1 narrow_1).before args0 about1 = true := by decide +kernel
theorem w_applies : (headSpec (Jvm.Cond.code x code maxLocals ret :: tables_1) room_1).applies x e0.platform about1 = true :=
  (Spec.applies_iff w_frames).mpr ⟨w_running, w_runnable, w_alone, w_named, w_hears, w_ripe, w_room, w_tables⟩
theorem atStart : AtStart classFile x code maxLocals ret World_1 tables_1 room_1 Calls_1 rest_1 Pre_1 launch0 p0 e0 about1 theMethod args0 below0 :=
  ⟨lists_1, trivial, launch0.admits_env _ _ _, launch0.least_env, fairChoices_fair.cas, fairChoices_fair.clock, w_frames, w_args, w_heap, w_applies, trivial, trivial, w_case⟩
end start1
theorem witness_1 : WitnessClaimed_1 := ⟨start1.p0, start1.e0, start1.about1, start1.theMethod, start1.args0, start1.below0, start1.atStart⟩
end Jvm.Pilot.@@N@@
