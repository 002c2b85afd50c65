import JvmDerived
import JvmDerived.Pilot.@@N@@Statement
import JvmDerived.Pilot.@@N@@Code
set_option linter.unusedVariables false
set_option linter.unusedSimpArgs false
namespace Jvm.RoadKit
open Sem ClassFile Op Lib Jvm.Stand Jvm.Free Jvm.LawKit
section New
variable {p : Program} {l : Launch} {e : Env} {R : Room} {s : State} {m : MethodId} {args : Array Value} {below : List Frame} {meth : Method} {c : Code} {T : State} {locs : List Loc} {cells slots : Nat}
theorem retI (X : Stand p l e R s m args below meth c T locs cells slots) (hx : p.tables.exec = Jvm.exec) {pc : Nat} {Ls : Array Slot} {z : Int32} {rest : List Value} (hret : meth.sig.returnType = some .int) (hd : decode c.code pc = .ok (.ireturn, 1)) {fs : List Frame}
    (hl : ∀ (f : JFrame) (acts : List Action), f.method = m → f.locked = none → f.entered = [] → (doReturn e (T.setTop f) acts (some (.int z))).1 = T.setFrames fs) : Steps p.tables e below (T.setTop (mkF m pc Ls (.int z :: rest))) (T.setFrames fs) := by
  have hm' : T.vm.method? m = some meth := X.method'
  have hn : narrow .int (.int z) = .int z := rfl
  show Steps p.tables e below (T.setTop { method := m, pc := pc, locals := Ls, stack := _ :: rest, locked := none }) _
  jvm_step X.here [X.here.top, hx, hd, hm', hret, hn]
  first | (intro acts; rw [hl _ acts rfl rfl rfl]) | rw [hl _ _ rfl rfl rfl]
  exact Steps.refl _
theorem own_lremM {g : JFrame} {target : State} (X : Stand p l e R s m args below meth c T locs cells slots) (hx : p.tables.exec = Jvm.exec) (hg : g.method = m) {x y : Int64} {rest : List Value} (hd : decode c.code g.pc = .ok (.lrem, 1)) (hs : g.stack = .long y :: .long x :: rest) (hy : y ≠ 0)
    (hr : Steps p.tables e below (T.setTop { g with pc := g.pc + 1, stack := .long (x % y) :: rest }) target) : Steps p.tables e below (T.setTop g) target := by
  have q : x - x / y * y = x % y := lrem_mod x y
  exact XS.lrem X.here hx hg hd hs hy (by rw [q]; exact hr)
theorem own_getD_int (L : List Int32) (n : Nat) (d : Int32) : (L.map Value.int).getD n (.int d) = .int (L.getD n d) := by simp [List.getD_eq_getElem?_getD, List.getElem?_map]
theorem own_getD_long (L : List Int64) (n : Nat) (d : Int64) : (L.map Value.long).getD n (.long d) = .long (L.getD n d) := by simp [List.getD_eq_getElem?_getD, List.getElem?_map]
theorem own_lt_nat {j z : Int32} (h : ¬ j < 0) (q : j < z) : j.toNatClampNeg < z.toNatClampNeg := by
  rw [Int32.lt_iff_toInt_lt] at h q; have : (0 : Int32).toInt = 0 := rfl
  simp only [Int32.toNatClampNeg]; omega
theorem own_eq_int {t : Term} {v : Int32} {args : Array Value} {s : State} (h : (Cond.eq t (.int v)).value args s none s [] = some true) : t.eval args s none [] s = some (.int v) := by
  simp only [Cond.value, Term.eval] at h
  cases ht : t.eval args s none [] s with
  | none => simp [ht] at h
  | some x => cases x <;> simp [ht] at h ⊢; exact h
theorem own_eq_long {t : Term} {v : Int64} {args : Array Value} {s : State} (h : (Cond.eq t (.long v)).value args s none s [] = some true) : t.eval args s none [] s = some (.long v) := by
  simp only [Cond.value, Term.eval] at h
  cases ht : t.eval args s none [] s with
  | none => simp [ht] at h
  | some x => cases x <;> simp [ht] at h ⊢; exact h
theorem own_selpriv {s : State} {args : Array Value} {y : MethodName} {n : Nat} (wi : (Cond.instantiable y.cls n).before args s = true) (hpriv : s.PrivateAt y) (hinst : (Cond.instanceMethod y).before args s = true) (hy : y.cls ≠ "java/lang/invoke/MethodHandle" ∧ y.cls ≠ "java/lang/invoke/VarHandle") : (Cond.selects y.cls y y).before args s = true := by
  obtain ⟨c, k, h1, h2, -, h4, -⟩ := Cond.instantiable_spec wi
  exact Jvm.Stand.selects_self_of_private h1 h2 (Bool.or_eq_false_iff.mp h4).1 hpriv hinst hy
theorem own_len {t : Term} {x : Addr} {z : Int32} {cl : Cell} {args : Array Value} {s : State} (ht : t.eval args s none [] s = some (.ref x)) (h : (Term.length t).eval args s none [] s = some (.int z)) (ha : s.arrayAt? x = some cl) : cl.slots.size < 2 ^ 31 ∧ cl.slots.size.toInt32 = z := by
  by_cases q : cl.slots.size < 2 ^ 31
  · refine ⟨q, ?_⟩
    rw [len_f ht ha q] at h
    simpa using h
  · exfalso
    simp [Term.eval, ht, ha, q] at h
theorem own_narb (P : Prop) [Decidable P] : nar .boolean (if P then (1 : Int32) else (0 : Int32)) = if P then (1 : Int32) else (0 : Int32) := by by_cases h : P <;> simp only [h, if_true, if_false] <;> rfl
end New
end Jvm.RoadKit
namespace Jvm.Pilot.@@N@@
open Jvm Jvm.ClassFile Sem Op Lib Jvm.Free Jvm.Stand Jvm.LawKit Jvm.RoadKit Bundle Jvm.Pilot.@@N@@.Jvm.D
theorem d1_0 : decode method_2_code 0 = .ok (.iload_n 2, 1) := by decide +kernel
theorem d1_1 : decode method_2_code 1 = .ok (.ifCond .ne 8, 3) := by decide +kernel
theorem d1_4 : decode method_2_code 4 = .ok (.iload_n 0, 1) := by decide +kernel
theorem d1_5 : decode method_2_code 5 = .ok (.ldc 7, 2) := by decide +kernel
theorem d1_7 : decode method_2_code 7 = .ok (.iand, 1) := by decide +kernel
theorem d1_8 : decode method_2_code 8 = .ok (.ireturn, 1) := by decide +kernel
theorem d1_9 : decode method_2_code 9 = .ok (.iload_n 2, 1) := by decide +kernel
theorem d1_10 : decode method_2_code 10 = .ok (.iconst 1, 1) := by decide +kernel
theorem d1_11 : decode method_2_code 11 = .ok (.if_icmp .ne 7, 3) := by decide +kernel
theorem d1_14 : decode method_2_code 14 = .ok (.sipush 4095, 3) := by decide +kernel
theorem d1_17 : decode method_2_code 17 = .ok (.ireturn, 1) := by decide +kernel
theorem d1_18 : decode method_2_code 18 = .ok (.iload_n 2, 1) := by decide +kernel
theorem d1_19 : decode method_2_code 19 = .ok (.iconst 2, 1) := by decide +kernel
theorem d1_20 : decode method_2_code 20 = .ok (.if_icmp .ne 14, 3) := by decide +kernel
theorem d1_23 : decode method_2_code 23 = .ok (.sipush 4095, 3) := by decide +kernel
theorem d1_26 : decode method_2_code 26 = .ok (.iconst 1, 1) := by decide +kernel
theorem d1_27 : decode method_2_code 27 = .ok (.iload_n 1, 1) := by decide +kernel
theorem d1_28 : decode method_2_code 28 = .ok (.bipush 15, 2) := by decide +kernel
theorem d1_30 : decode method_2_code 30 = .ok (.iand, 1) := by decide +kernel
theorem d1_31 : decode method_2_code 31 = .ok (.ishl, 1) := by decide +kernel
theorem d1_32 : decode method_2_code 32 = .ok (.ixor, 1) := by decide +kernel
theorem d1_33 : decode method_2_code 33 = .ok (.ireturn, 1) := by decide +kernel
theorem d1_34 : decode method_2_code 34 = .ok (.iload_n 2, 1) := by decide +kernel
theorem d1_35 : decode method_2_code 35 = .ok (.iconst 3, 1) := by decide +kernel
theorem d1_36 : decode method_2_code 36 = .ok (.if_icmp .ne 11, 3) := by decide +kernel
theorem d1_39 : decode method_2_code 39 = .ok (.iload_n 0, 1) := by decide +kernel
theorem d1_40 : decode method_2_code 40 = .ok (.ldc 7, 2) := by decide +kernel
theorem d1_42 : decode method_2_code 42 = .ok (.iand, 1) := by decide +kernel
theorem d1_43 : decode method_2_code 43 = .ok (.ldc 8, 2) := by decide +kernel
theorem d1_45 : decode method_2_code 45 = .ok (.ior, 1) := by decide +kernel
theorem d1_46 : decode method_2_code 46 = .ok (.ireturn, 1) := by decide +kernel
theorem d1_47 : decode method_2_code 47 = .ok (.iload_n 2, 1) := by decide +kernel
theorem d1_48 : decode method_2_code 48 = .ok (.iconst 4, 1) := by decide +kernel
theorem d1_49 : decode method_2_code 49 = .ok (.if_icmp .ne 9, 3) := by decide +kernel
theorem d1_52 : decode method_2_code 52 = .ok (.iload_n 0, 1) := by decide +kernel
theorem d1_53 : decode method_2_code 53 = .ok (.sipush 32767, 3) := by decide +kernel
theorem d1_56 : decode method_2_code 56 = .ok (.iand, 1) := by decide +kernel
theorem d1_57 : decode method_2_code 57 = .ok (.ireturn, 1) := by decide +kernel
theorem d1_58 : decode method_2_code 58 = .ok (.iload_n 2, 1) := by decide +kernel
theorem d1_59 : decode method_2_code 59 = .ok (.iconst 5, 1) := by decide +kernel
theorem d1_60 : decode method_2_code 60 = .ok (.if_icmp .ne 5, 3) := by decide +kernel
theorem d1_63 : decode method_2_code 63 = .ok (.iconst (-1), 1) := by decide +kernel
theorem d1_64 : decode method_2_code 64 = .ok (.ireturn, 1) := by decide +kernel
theorem d1_65 : decode method_2_code 65 = .ok (.iload_n 2, 1) := by decide +kernel
theorem d1_66 : decode method_2_code 66 = .ok (.bipush 6, 2) := by decide +kernel
theorem d1_68 : decode method_2_code 68 = .ok (.if_icmp .ne 5, 3) := by decide +kernel
theorem d1_71 : decode method_2_code 71 = .ok (.iconst 1, 1) := by decide +kernel
theorem d1_72 : decode method_2_code 72 = .ok (.ireturn, 1) := by decide +kernel
theorem d1_73 : decode method_2_code 73 = .ok (.bipush 48, 2) := by decide +kernel
theorem d1_75 : decode method_2_code 75 = .ok (.ireturn, 1) := by decide +kernel
theorem pn_51 : plainName "com/example/studybridge/studybridge/codec/dicom/DimseCommandWantsResponsePinLaw" = true := by first | (simp [plainName, overriddenIn]; done) | decide +kernel
def v1_ret (p0 : Int32) (p1 : Int32) (p2 : Int32) : Int32 := (if p2 = (0 : Int32) then (p0 &&& (65535 : Int32)) else (if p2 = (1 : Int32) then (4095 : Int32) else (if p2 = (2 : Int32) then ((4095 : Int32) ^^^ ((1 : Int32) <<< ((p1 &&& (15 : Int32)) &&& 31))) else (if p2 = (3 : Int32) then ((p0 &&& (65535 : Int32)) ||| (32768 : Int32)) else (if p2 = (4 : Int32) then (p0 &&& (32767 : Int32)) else (if p2 = (5 : Int32) then (-1 : Int32) else (if p2 = (6 : Int32) then (1 : Int32) else (48 : Int32))))))))
theorem ef_rm1 (m : MethodId) (p0 : Int32) (p1 : Int32) (p2 : Int32) : entryFrame m #[(.int p0), (.int p1), (.int p2)] 3 = mkF m 0 #[.val (.int p0), .val (.int p1), .val (.int p2)] [] := by first | (simp [entryFrame, mkF, argsToLocals, Value.category]; done) | rfl
def Q1 (Z : State) (p0 : Int32) (p1 : Int32) (p2 : Int32) (h0 : Heap) (n0 : Nat) (v : Option Value) (h : Heap) (L : List Loc) : Prop := v = some (.int (v1_ret p0 p1 p2)) ∧ Fr n0 L ∧ h = h0
set_option maxRecDepth 65536 in
set_option maxHeartbeats 40000000 in
theorem rm1 (l : Launch) (Z : State) (a0 : Array Value) (hw : ∀ d ∈ tables_1, d.before a0 Z = true) (ws : List Jvm.Cond) (p0 : Int32) (p1 : Int32) (p2 : Int32) (h0 : Heap) (n0 : Nat) (Z0 : n0 ≤ h0.size) :
    MetFree l (⟨"com/example/studybridge/studybridge/codec/dicom/DimseCommandWantsResponsePinLaw", "pickField", "(III)I"⟩ : MethodName) (head1 (Jvm.Cond.code (⟨"com/example/studybridge/studybridge/codec/dicom/DimseCommandWantsResponsePinLaw", "pickField", "(III)I"⟩ : MethodName) method_2_code 3 (some .int) :: ws) ({ frames := 0, cells := 0, slots := 0, locals := 0 } : Room)) (fun a U => a = #[(.int p0), (.int p1), (.int p2)] ∧ Z.Warmed39 U.vm ∧ U.heap = h0) (fun _ _ _ _ _ => True) (fun _ U o U' => ∃ v L, o = .returned v ∧ Q1 Z p0 p1 p2 h0 n0 v U'.heap L ∧ FrameEnd U o U' L ({ frames := 0, cells := 0, slots := 0, locals := 0 } : Room).cells ({ frames := 0, cells := 0, slots := 0, locals := 0 } : Room).slots) := by
  refine MetFree.of_bodySF (plainFor_of_name pn_51) hisR ?_
  intro p e s m args below meth c s₁ Bd hml0 hP hK
  obtain ⟨rfl, hZ, hh⟩ := hP
  have hx := Bd.exec
  have hby := Bd.bytes
  have hml : c.maxLocals = 3 := hml0
  have hown : s.vm.findClass "com/example/studybridge/studybridge/codec/dicom/DimseCommandWantsResponsePinLaw" = some m.cls := findClass_of_methodNamed Bd.named
  have hnm := (name_of_methodNamed Bd.named Bd.method).1
  have X0 : Stand p l e ({ frames := 0, cells := 0, slots := 0, locals := 0 } : Room) s m #[(.int p0), (.int p1), (.int p2)] below meth c s₁ [] 0 0 := Stand.of_body Bd
  have e0 : s₁.heap = h0 := by rw [← hh, Bd.state]; rfl
  have N0 := Fr.nil n0
  have KC0 := Keep.refl h0 ([] : List Addr)
  have pre0 : ∀ t, Steps p.tables e below (s₁.setTop (mkF m 0 #[.val (.int p0), .val (.int p1), .val (.int p2)] [])) t → Steps p.tables e below (s₁.setTop (entryFrame m #[(.int p0), (.int p1), (.int p2)] 3)) t := fun t k => castTop (ef_rm1 m p0 p1 p2) k
  have k1 := fun (t : State) (kk : Steps p.tables e below (s₁.setTop (mkF m 1 #[.val (.int p0), .val (.int p1), .val (.int p2)] [(.int p2)])) t) => pre0 t (by
    show Steps p.tables e below (s₁.setTop (mkF m 0 #[.val (.int p0), .val (.int p1), .val (.int p2)] [])) _
    refine XS.iloadN X0.here hx rfl (hb hby d1_0) rfl ?_
    exact kk)
  by_cases hc1_2 : p2 = (0 : Int32)
  · have k3 := fun (t : State) (kk : Steps p.tables e below (s₁.setTop (mkF m 8 #[.val (.int p0), .val (.int p1), .val (.int p2)] [(.int (p0 &&& (65535 : Int32)))])) t) => k1 t (by
      show Steps p.tables e below (s₁.setTop (mkF m 1 #[.val (.int p0), .val (.int p1), .val (.int p2)] [(.int p2)])) _
      refine XS.ifNo X0.here hx rfl (hb hby d1_1) rfl ((if0 _ _).trans (teq hc1_2).2) ?_
      show Steps p.tables e below (s₁.setTop (mkF m 4 #[.val (.int p0), .val (.int p1), .val (.int p2)] [])) _
      refine XS.iloadN X0.here hx rfl (hb hby d1_4) rfl ?_
      show Steps p.tables e below (s₁.setTop (mkF m 5 #[.val (.int p0), .val (.int p1), .val (.int p2)] [(.int p0)])) _
      refine X0.ldcInt hx hown (mvT hZ (hw _ (List.mem_of_getElem? (i := 36) rfl))) (g := (mkF m 5 #[.val (.int p0), .val (.int p1), .val (.int p2)] [(.int p0)])) rfl (hb hby d1_5) _ ?_
      show Steps p.tables e below (s₁.setTop (mkF m 7 #[.val (.int p0), .val (.int p1), .val (.int p2)] [(.int (65535 : Int32)), (.int p0)])) _
      refine XS.iand X0.here hx rfl (hb hby d1_7) rfl ?_
      exact kk)
    obtain ⟨fs, hr, hrun, hended, hW, hsame⟩ := X0.leave (v := some (.int (p0 &&& (65535 : Int32)))) (fun h => by rw [Bd.returns] at h; cases h)
    have hv : (v1_ret p0 p1 p2) = (p0 &&& (65535 : Int32)) := (if_pos hc1_2)
    refine ⟨_, _, k3 _ ?_, hrun, hended, _, _, rfl, ?_, ⟨_, rfl⟩, hW, hsame.mono (by decide) (by decide)⟩
    · show Steps p.tables e below (s₁.setTop (mkF m 8 #[.val (.int p0), .val (.int p1), .val (.int p2)] [(.int (p0 &&& (65535 : Int32)))])) _
      exact retI X0 hx Bd.returns (hb hby d1_8) hr
    · show Q1 Z p0 p1 p2 h0 n0 _ s₁.heap _
      rw [e0]
      exact ⟨(congrArg (fun z => some (Value.int z)) hv).symm, N0, rfl⟩
  · have k4 := fun (t : State) (kk : Steps p.tables e below (s₁.setTop (mkF m 11 #[.val (.int p0), .val (.int p1), .val (.int p2)] [(.int (1 : Int32)), (.int p2)])) t) => k1 t (by
      show Steps p.tables e below (s₁.setTop (mkF m 1 #[.val (.int p0), .val (.int p1), .val (.int p2)] [(.int p2)])) _
      refine XS.ifYes X0.here hx rfl (pc0 := 1) (pc' := 9) rfl (hb hby d1_1) rfl ((if0 _ _).trans (feq hc1_2).2) (by decide) (by decide) ?_
      show Steps p.tables e below (s₁.setTop (mkF m 9 #[.val (.int p0), .val (.int p1), .val (.int p2)] [])) _
      refine XS.iloadN X0.here hx rfl (hb hby d1_9) rfl ?_
      show Steps p.tables e below (s₁.setTop (mkF m 10 #[.val (.int p0), .val (.int p1), .val (.int p2)] [(.int p2)])) _
      refine XS.iconst X0.here hx rfl (hb hby d1_10) ?_
      exact kk)
    by_cases hc11_5 : p2 = (1 : Int32)
    · have k6 := fun (t : State) (kk : Steps p.tables e below (s₁.setTop (mkF m 17 #[.val (.int p0), .val (.int p1), .val (.int p2)] [(.int (4095 : Int32))])) t) => k4 t (by
        show Steps p.tables e below (s₁.setTop (mkF m 11 #[.val (.int p0), .val (.int p1), .val (.int p2)] [(.int (1 : Int32)), (.int p2)])) _
        refine XS.icmpNo X0.here hx rfl (hb hby d1_11) rfl (teq hc11_5).2 ?_
        show Steps p.tables e below (s₁.setTop (mkF m 14 #[.val (.int p0), .val (.int p1), .val (.int p2)] [])) _
        refine XS.sipush X0.here hx rfl (hb hby d1_14) ?_
        exact kk)
      obtain ⟨fs, hr, hrun, hended, hW, hsame⟩ := X0.leave (v := some (.int (4095 : Int32))) (fun h => by rw [Bd.returns] at h; cases h)
      have hv : (v1_ret p0 p1 p2) = (4095 : Int32) := ((if_neg hc1_2).trans (if_pos hc11_5))
      refine ⟨_, _, k6 _ ?_, hrun, hended, _, _, rfl, ?_, ⟨_, rfl⟩, hW, hsame.mono (by decide) (by decide)⟩
      · show Steps p.tables e below (s₁.setTop (mkF m 17 #[.val (.int p0), .val (.int p1), .val (.int p2)] [(.int (4095 : Int32))])) _
        exact retI X0 hx Bd.returns (hb hby d1_17) hr
      · show Q1 Z p0 p1 p2 h0 n0 _ s₁.heap _
        rw [e0]
        exact ⟨(congrArg (fun z => some (Value.int z)) hv).symm, N0, rfl⟩
    · have k7 := fun (t : State) (kk : Steps p.tables e below (s₁.setTop (mkF m 20 #[.val (.int p0), .val (.int p1), .val (.int p2)] [(.int (2 : Int32)), (.int p2)])) t) => k4 t (by
        show Steps p.tables e below (s₁.setTop (mkF m 11 #[.val (.int p0), .val (.int p1), .val (.int p2)] [(.int (1 : Int32)), (.int p2)])) _
        refine XS.icmpYes X0.here hx rfl (pc0 := 11) (pc' := 18) rfl (hb hby d1_11) rfl (feq hc11_5).2 (by decide) (by decide) ?_
        show Steps p.tables e below (s₁.setTop (mkF m 18 #[.val (.int p0), .val (.int p1), .val (.int p2)] [])) _
        refine XS.iloadN X0.here hx rfl (hb hby d1_18) rfl ?_
        show Steps p.tables e below (s₁.setTop (mkF m 19 #[.val (.int p0), .val (.int p1), .val (.int p2)] [(.int p2)])) _
        refine XS.iconst X0.here hx rfl (hb hby d1_19) ?_
        exact kk)
      by_cases hc20_8 : p2 = (2 : Int32)
      · have k9 := fun (t : State) (kk : Steps p.tables e below (s₁.setTop (mkF m 33 #[.val (.int p0), .val (.int p1), .val (.int p2)] [(.int ((4095 : Int32) ^^^ ((1 : Int32) <<< ((p1 &&& (15 : Int32)) &&& 31))))])) t) => k7 t (by
          show Steps p.tables e below (s₁.setTop (mkF m 20 #[.val (.int p0), .val (.int p1), .val (.int p2)] [(.int (2 : Int32)), (.int p2)])) _
          refine XS.icmpNo X0.here hx rfl (hb hby d1_20) rfl (teq hc20_8).2 ?_
          show Steps p.tables e below (s₁.setTop (mkF m 23 #[.val (.int p0), .val (.int p1), .val (.int p2)] [])) _
          refine XS.sipush X0.here hx rfl (hb hby d1_23) ?_
          show Steps p.tables e below (s₁.setTop (mkF m 26 #[.val (.int p0), .val (.int p1), .val (.int p2)] [(.int (4095 : Int32))])) _
          refine XS.iconst X0.here hx rfl (hb hby d1_26) ?_
          show Steps p.tables e below (s₁.setTop (mkF m 27 #[.val (.int p0), .val (.int p1), .val (.int p2)] [(.int (1 : Int32)), (.int (4095 : Int32))])) _
          refine XS.iloadN X0.here hx rfl (hb hby d1_27) rfl ?_
          show Steps p.tables e below (s₁.setTop (mkF m 28 #[.val (.int p0), .val (.int p1), .val (.int p2)] [(.int p1), (.int (1 : Int32)), (.int (4095 : Int32))])) _
          refine XS.bipush X0.here hx rfl (hb hby d1_28) ?_
          show Steps p.tables e below (s₁.setTop (mkF m 30 #[.val (.int p0), .val (.int p1), .val (.int p2)] [(.int (15 : Int32)), (.int p1), (.int (1 : Int32)), (.int (4095 : Int32))])) _
          refine XS.iand X0.here hx rfl (hb hby d1_30) rfl ?_
          show Steps p.tables e below (s₁.setTop (mkF m 31 #[.val (.int p0), .val (.int p1), .val (.int p2)] [(.int (p1 &&& (15 : Int32))), (.int (1 : Int32)), (.int (4095 : Int32))])) _
          refine XS.ishl X0.here hx rfl (hb hby d1_31) rfl ?_
          show Steps p.tables e below (s₁.setTop (mkF m 32 #[.val (.int p0), .val (.int p1), .val (.int p2)] [(.int ((1 : Int32) <<< ((p1 &&& (15 : Int32)) &&& 31))), (.int (4095 : Int32))])) _
          refine XS.ixor X0.here hx rfl (hb hby d1_32) rfl ?_
          exact kk)
        obtain ⟨fs, hr, hrun, hended, hW, hsame⟩ := X0.leave (v := some (.int ((4095 : Int32) ^^^ ((1 : Int32) <<< ((p1 &&& (15 : Int32)) &&& 31))))) (fun h => by rw [Bd.returns] at h; cases h)
        have hv : (v1_ret p0 p1 p2) = ((4095 : Int32) ^^^ ((1 : Int32) <<< ((p1 &&& (15 : Int32)) &&& 31))) := ((if_neg hc1_2).trans ((if_neg hc11_5).trans (if_pos hc20_8)))
        refine ⟨_, _, k9 _ ?_, hrun, hended, _, _, rfl, ?_, ⟨_, rfl⟩, hW, hsame.mono (by decide) (by decide)⟩
        · show Steps p.tables e below (s₁.setTop (mkF m 33 #[.val (.int p0), .val (.int p1), .val (.int p2)] [(.int ((4095 : Int32) ^^^ ((1 : Int32) <<< ((p1 &&& (15 : Int32)) &&& 31))))])) _
          exact retI X0 hx Bd.returns (hb hby d1_33) hr
        · show Q1 Z p0 p1 p2 h0 n0 _ s₁.heap _
          rw [e0]
          exact ⟨(congrArg (fun z => some (Value.int z)) hv).symm, N0, rfl⟩
      · have k10 := fun (t : State) (kk : Steps p.tables e below (s₁.setTop (mkF m 36 #[.val (.int p0), .val (.int p1), .val (.int p2)] [(.int (3 : Int32)), (.int p2)])) t) => k7 t (by
          show Steps p.tables e below (s₁.setTop (mkF m 20 #[.val (.int p0), .val (.int p1), .val (.int p2)] [(.int (2 : Int32)), (.int p2)])) _
          refine XS.icmpYes X0.here hx rfl (pc0 := 20) (pc' := 34) rfl (hb hby d1_20) rfl (feq hc20_8).2 (by decide) (by decide) ?_
          show Steps p.tables e below (s₁.setTop (mkF m 34 #[.val (.int p0), .val (.int p1), .val (.int p2)] [])) _
          refine XS.iloadN X0.here hx rfl (hb hby d1_34) rfl ?_
          show Steps p.tables e below (s₁.setTop (mkF m 35 #[.val (.int p0), .val (.int p1), .val (.int p2)] [(.int p2)])) _
          refine XS.iconst X0.here hx rfl (hb hby d1_35) ?_
          exact kk)
        by_cases hc36_11 : p2 = (3 : Int32)
        · have k12 := fun (t : State) (kk : Steps p.tables e below (s₁.setTop (mkF m 46 #[.val (.int p0), .val (.int p1), .val (.int p2)] [(.int ((p0 &&& (65535 : Int32)) ||| (32768 : Int32)))])) t) => k10 t (by
            show Steps p.tables e below (s₁.setTop (mkF m 36 #[.val (.int p0), .val (.int p1), .val (.int p2)] [(.int (3 : Int32)), (.int p2)])) _
            refine XS.icmpNo X0.here hx rfl (hb hby d1_36) rfl (teq hc36_11).2 ?_
            show Steps p.tables e below (s₁.setTop (mkF m 39 #[.val (.int p0), .val (.int p1), .val (.int p2)] [])) _
            refine XS.iloadN X0.here hx rfl (hb hby d1_39) rfl ?_
            show Steps p.tables e below (s₁.setTop (mkF m 40 #[.val (.int p0), .val (.int p1), .val (.int p2)] [(.int p0)])) _
            refine X0.ldcInt hx hown (mvT hZ (hw _ (List.mem_of_getElem? (i := 36) rfl))) (g := (mkF m 40 #[.val (.int p0), .val (.int p1), .val (.int p2)] [(.int p0)])) rfl (hb hby d1_40) _ ?_
            show Steps p.tables e below (s₁.setTop (mkF m 42 #[.val (.int p0), .val (.int p1), .val (.int p2)] [(.int (65535 : Int32)), (.int p0)])) _
            refine XS.iand X0.here hx rfl (hb hby d1_42) rfl ?_
            show Steps p.tables e below (s₁.setTop (mkF m 43 #[.val (.int p0), .val (.int p1), .val (.int p2)] [(.int (p0 &&& (65535 : Int32)))])) _
            refine X0.ldcInt hx hown (mvT hZ (hw _ (List.mem_of_getElem? (i := 35) rfl))) (g := (mkF m 43 #[.val (.int p0), .val (.int p1), .val (.int p2)] [(.int (p0 &&& (65535 : Int32)))])) rfl (hb hby d1_43) _ ?_
            show Steps p.tables e below (s₁.setTop (mkF m 45 #[.val (.int p0), .val (.int p1), .val (.int p2)] [(.int (32768 : Int32)), (.int (p0 &&& (65535 : Int32)))])) _
            refine XS.ior X0.here hx rfl (hb hby d1_45) rfl ?_
            exact kk)
          obtain ⟨fs, hr, hrun, hended, hW, hsame⟩ := X0.leave (v := some (.int ((p0 &&& (65535 : Int32)) ||| (32768 : Int32)))) (fun h => by rw [Bd.returns] at h; cases h)
          have hv : (v1_ret p0 p1 p2) = ((p0 &&& (65535 : Int32)) ||| (32768 : Int32)) := ((if_neg hc1_2).trans ((if_neg hc11_5).trans ((if_neg hc20_8).trans (if_pos hc36_11))))
          refine ⟨_, _, k12 _ ?_, hrun, hended, _, _, rfl, ?_, ⟨_, rfl⟩, hW, hsame.mono (by decide) (by decide)⟩
          · show Steps p.tables e below (s₁.setTop (mkF m 46 #[.val (.int p0), .val (.int p1), .val (.int p2)] [(.int ((p0 &&& (65535 : Int32)) ||| (32768 : Int32)))])) _
            exact retI X0 hx Bd.returns (hb hby d1_46) hr
          · show Q1 Z p0 p1 p2 h0 n0 _ s₁.heap _
            rw [e0]
            exact ⟨(congrArg (fun z => some (Value.int z)) hv).symm, N0, rfl⟩
        · have k13 := fun (t : State) (kk : Steps p.tables e below (s₁.setTop (mkF m 49 #[.val (.int p0), .val (.int p1), .val (.int p2)] [(.int (4 : Int32)), (.int p2)])) t) => k10 t (by
            show Steps p.tables e below (s₁.setTop (mkF m 36 #[.val (.int p0), .val (.int p1), .val (.int p2)] [(.int (3 : Int32)), (.int p2)])) _
            refine XS.icmpYes X0.here hx rfl (pc0 := 36) (pc' := 47) rfl (hb hby d1_36) rfl (feq hc36_11).2 (by decide) (by decide) ?_
            show Steps p.tables e below (s₁.setTop (mkF m 47 #[.val (.int p0), .val (.int p1), .val (.int p2)] [])) _
            refine XS.iloadN X0.here hx rfl (hb hby d1_47) rfl ?_
            show Steps p.tables e below (s₁.setTop (mkF m 48 #[.val (.int p0), .val (.int p1), .val (.int p2)] [(.int p2)])) _
            refine XS.iconst X0.here hx rfl (hb hby d1_48) ?_
            exact kk)
          by_cases hc49_14 : p2 = (4 : Int32)
          · have k15 := fun (t : State) (kk : Steps p.tables e below (s₁.setTop (mkF m 57 #[.val (.int p0), .val (.int p1), .val (.int p2)] [(.int (p0 &&& (32767 : Int32)))])) t) => k13 t (by
              show Steps p.tables e below (s₁.setTop (mkF m 49 #[.val (.int p0), .val (.int p1), .val (.int p2)] [(.int (4 : Int32)), (.int p2)])) _
              refine XS.icmpNo X0.here hx rfl (hb hby d1_49) rfl (teq hc49_14).2 ?_
              show Steps p.tables e below (s₁.setTop (mkF m 52 #[.val (.int p0), .val (.int p1), .val (.int p2)] [])) _
              refine XS.iloadN X0.here hx rfl (hb hby d1_52) rfl ?_
              show Steps p.tables e below (s₁.setTop (mkF m 53 #[.val (.int p0), .val (.int p1), .val (.int p2)] [(.int p0)])) _
              refine XS.sipush X0.here hx rfl (hb hby d1_53) ?_
              show Steps p.tables e below (s₁.setTop (mkF m 56 #[.val (.int p0), .val (.int p1), .val (.int p2)] [(.int (32767 : Int32)), (.int p0)])) _
              refine XS.iand X0.here hx rfl (hb hby d1_56) rfl ?_
              exact kk)
            obtain ⟨fs, hr, hrun, hended, hW, hsame⟩ := X0.leave (v := some (.int (p0 &&& (32767 : Int32)))) (fun h => by rw [Bd.returns] at h; cases h)
            have hv : (v1_ret p0 p1 p2) = (p0 &&& (32767 : Int32)) := ((if_neg hc1_2).trans ((if_neg hc11_5).trans ((if_neg hc20_8).trans ((if_neg hc36_11).trans (if_pos hc49_14)))))
            refine ⟨_, _, k15 _ ?_, hrun, hended, _, _, rfl, ?_, ⟨_, rfl⟩, hW, hsame.mono (by decide) (by decide)⟩
            · show Steps p.tables e below (s₁.setTop (mkF m 57 #[.val (.int p0), .val (.int p1), .val (.int p2)] [(.int (p0 &&& (32767 : Int32)))])) _
              exact retI X0 hx Bd.returns (hb hby d1_57) hr
            · show Q1 Z p0 p1 p2 h0 n0 _ s₁.heap _
              rw [e0]
              exact ⟨(congrArg (fun z => some (Value.int z)) hv).symm, N0, rfl⟩
          · have k16 := fun (t : State) (kk : Steps p.tables e below (s₁.setTop (mkF m 60 #[.val (.int p0), .val (.int p1), .val (.int p2)] [(.int (5 : Int32)), (.int p2)])) t) => k13 t (by
              show Steps p.tables e below (s₁.setTop (mkF m 49 #[.val (.int p0), .val (.int p1), .val (.int p2)] [(.int (4 : Int32)), (.int p2)])) _
              refine XS.icmpYes X0.here hx rfl (pc0 := 49) (pc' := 58) rfl (hb hby d1_49) rfl (feq hc49_14).2 (by decide) (by decide) ?_
              show Steps p.tables e below (s₁.setTop (mkF m 58 #[.val (.int p0), .val (.int p1), .val (.int p2)] [])) _
              refine XS.iloadN X0.here hx rfl (hb hby d1_58) rfl ?_
              show Steps p.tables e below (s₁.setTop (mkF m 59 #[.val (.int p0), .val (.int p1), .val (.int p2)] [(.int p2)])) _
              refine XS.iconst X0.here hx rfl (hb hby d1_59) ?_
              exact kk)
            by_cases hc60_17 : p2 = (5 : Int32)
            · have k18 := fun (t : State) (kk : Steps p.tables e below (s₁.setTop (mkF m 64 #[.val (.int p0), .val (.int p1), .val (.int p2)] [(.int (-1 : Int32))])) t) => k16 t (by
                show Steps p.tables e below (s₁.setTop (mkF m 60 #[.val (.int p0), .val (.int p1), .val (.int p2)] [(.int (5 : Int32)), (.int p2)])) _
                refine XS.icmpNo X0.here hx rfl (hb hby d1_60) rfl (teq hc60_17).2 ?_
                show Steps p.tables e below (s₁.setTop (mkF m 63 #[.val (.int p0), .val (.int p1), .val (.int p2)] [])) _
                refine XS.iconst X0.here hx rfl (hb hby d1_63) ?_
                exact kk)
              obtain ⟨fs, hr, hrun, hended, hW, hsame⟩ := X0.leave (v := some (.int (-1 : Int32))) (fun h => by rw [Bd.returns] at h; cases h)
              have hv : (v1_ret p0 p1 p2) = (-1 : Int32) := ((if_neg hc1_2).trans ((if_neg hc11_5).trans ((if_neg hc20_8).trans ((if_neg hc36_11).trans ((if_neg hc49_14).trans (if_pos hc60_17))))))
              refine ⟨_, _, k18 _ ?_, hrun, hended, _, _, rfl, ?_, ⟨_, rfl⟩, hW, hsame.mono (by decide) (by decide)⟩
              · show Steps p.tables e below (s₁.setTop (mkF m 64 #[.val (.int p0), .val (.int p1), .val (.int p2)] [(.int (-1 : Int32))])) _
                exact retI X0 hx Bd.returns (hb hby d1_64) hr
              · show Q1 Z p0 p1 p2 h0 n0 _ s₁.heap _
                rw [e0]
                exact ⟨(congrArg (fun z => some (Value.int z)) hv).symm, N0, rfl⟩
            · have k19 := fun (t : State) (kk : Steps p.tables e below (s₁.setTop (mkF m 68 #[.val (.int p0), .val (.int p1), .val (.int p2)] [(.int (6 : Int32)), (.int p2)])) t) => k16 t (by
                show Steps p.tables e below (s₁.setTop (mkF m 60 #[.val (.int p0), .val (.int p1), .val (.int p2)] [(.int (5 : Int32)), (.int p2)])) _
                refine XS.icmpYes X0.here hx rfl (pc0 := 60) (pc' := 65) rfl (hb hby d1_60) rfl (feq hc60_17).2 (by decide) (by decide) ?_
                show Steps p.tables e below (s₁.setTop (mkF m 65 #[.val (.int p0), .val (.int p1), .val (.int p2)] [])) _
                refine XS.iloadN X0.here hx rfl (hb hby d1_65) rfl ?_
                show Steps p.tables e below (s₁.setTop (mkF m 66 #[.val (.int p0), .val (.int p1), .val (.int p2)] [(.int p2)])) _
                refine XS.bipush X0.here hx rfl (hb hby d1_66) ?_
                exact kk)
              by_cases hc68_20 : p2 = (6 : Int32)
              · have k21 := fun (t : State) (kk : Steps p.tables e below (s₁.setTop (mkF m 72 #[.val (.int p0), .val (.int p1), .val (.int p2)] [(.int (1 : Int32))])) t) => k19 t (by
                  show Steps p.tables e below (s₁.setTop (mkF m 68 #[.val (.int p0), .val (.int p1), .val (.int p2)] [(.int (6 : Int32)), (.int p2)])) _
                  refine XS.icmpNo X0.here hx rfl (hb hby d1_68) rfl (teq hc68_20).2 ?_
                  show Steps p.tables e below (s₁.setTop (mkF m 71 #[.val (.int p0), .val (.int p1), .val (.int p2)] [])) _
                  refine XS.iconst X0.here hx rfl (hb hby d1_71) ?_
                  exact kk)
                obtain ⟨fs, hr, hrun, hended, hW, hsame⟩ := X0.leave (v := some (.int (1 : Int32))) (fun h => by rw [Bd.returns] at h; cases h)
                have hv : (v1_ret p0 p1 p2) = (1 : Int32) := ((if_neg hc1_2).trans ((if_neg hc11_5).trans ((if_neg hc20_8).trans ((if_neg hc36_11).trans ((if_neg hc49_14).trans ((if_neg hc60_17).trans (if_pos hc68_20)))))))
                refine ⟨_, _, k21 _ ?_, hrun, hended, _, _, rfl, ?_, ⟨_, rfl⟩, hW, hsame.mono (by decide) (by decide)⟩
                · show Steps p.tables e below (s₁.setTop (mkF m 72 #[.val (.int p0), .val (.int p1), .val (.int p2)] [(.int (1 : Int32))])) _
                  exact retI X0 hx Bd.returns (hb hby d1_72) hr
                · show Q1 Z p0 p1 p2 h0 n0 _ s₁.heap _
                  rw [e0]
                  exact ⟨(congrArg (fun z => some (Value.int z)) hv).symm, N0, rfl⟩
              · have k22 := fun (t : State) (kk : Steps p.tables e below (s₁.setTop (mkF m 75 #[.val (.int p0), .val (.int p1), .val (.int p2)] [(.int (48 : Int32))])) t) => k19 t (by
                  show Steps p.tables e below (s₁.setTop (mkF m 68 #[.val (.int p0), .val (.int p1), .val (.int p2)] [(.int (6 : Int32)), (.int p2)])) _
                  refine XS.icmpYes X0.here hx rfl (pc0 := 68) (pc' := 73) rfl (hb hby d1_68) rfl (feq hc68_20).2 (by decide) (by decide) ?_
                  show Steps p.tables e below (s₁.setTop (mkF m 73 #[.val (.int p0), .val (.int p1), .val (.int p2)] [])) _
                  refine XS.bipush X0.here hx rfl (hb hby d1_73) ?_
                  exact kk)
                obtain ⟨fs, hr, hrun, hended, hW, hsame⟩ := X0.leave (v := some (.int (48 : Int32))) (fun h => by rw [Bd.returns] at h; cases h)
                have hv : (v1_ret p0 p1 p2) = (48 : Int32) := ((if_neg hc1_2).trans ((if_neg hc11_5).trans ((if_neg hc20_8).trans ((if_neg hc36_11).trans ((if_neg hc49_14).trans ((if_neg hc60_17).trans (if_neg hc68_20)))))))
                refine ⟨_, _, k22 _ ?_, hrun, hended, _, _, rfl, ?_, ⟨_, rfl⟩, hW, hsame.mono (by decide) (by decide)⟩
                · show Steps p.tables e below (s₁.setTop (mkF m 75 #[.val (.int p0), .val (.int p1), .val (.int p2)] [(.int (48 : Int32))])) _
                  exact retI X0 hx Bd.returns (hb hby d1_75) hr
                · show Q1 Z p0 p1 p2 h0 n0 _ s₁.heap _
                  rw [e0]
                  exact ⟨(congrArg (fun z => some (Value.int z)) hv).symm, N0, rfl⟩
theorem d2_0 : decode jdk_32_method_1_code 0 = .ok (.getstatic 1, 3) := by decide +kernel
theorem d2_3 : decode jdk_32_method_1_code 3 = .ok (.astore_n 0, 1) := by decide +kernel
theorem d2_4 : decode jdk_32_method_1_code 4 = .ok (.aload_n 0, 1) := by decide +kernel
theorem d2_5 : decode jdk_32_method_1_code 5 = .ok (.areturn, 1) := by decide +kernel
theorem pn_58 : plainName "java/util/Optional" = true := by first | (simp [plainName, overriddenIn]; done) | decide +kernel
theorem ef_rm2 (m : MethodId)  : entryFrame m #[] 1 = mkF m 0 #[.unset] [] := by first | (simp [entryFrame, mkF, argsToLocals, Value.category]; done) | rfl
def Q2 (Z : State) (o_EMPTY : Addr) (h0 : Heap) (n0 : Nat) (v : Option Value) (h : Heap) (L : List Loc) : Prop := v = some (.ref o_EMPTY) ∧ Fr n0 L ∧ h = h0
set_option maxRecDepth 65536 in
set_option maxHeartbeats 40000000 in
theorem rm2 (l : Launch) (Z : State) (a0 : Array Value) (hw : ∀ d ∈ tables_1, d.before a0 Z = true) (ws : List Jvm.Cond) (o_EMPTY : Addr) (h0 : Heap) (n0 : Nat) (Z0 : n0 ≤ h0.size) (S_EMPTY : Sta Z Z.heap "java/util/Optional" "EMPTY" "Ljava/util/Optional;" (.ref o_EMPTY)) (O0 : Old Z n0 h0) :
    MetFree l (⟨"java/util/Optional", "empty", "()Ljava/util/Optional;"⟩ : MethodName) (head1 (Jvm.Cond.code (⟨"java/util/Optional", "empty", "()Ljava/util/Optional;"⟩ : MethodName) jdk_32_method_1_code 1 (some (.object "java/util/Optional")) :: ws) ({ frames := 0, cells := 0, slots := 0, locals := 0 } : Room)) (fun a U => a = #[] ∧ Z.Warmed39 U.vm ∧ U.heap = h0) (fun _ _ _ _ _ => True) (fun _ U o U' => ∃ v L, o = .returned v ∧ Q2 Z o_EMPTY h0 n0 v U'.heap L ∧ FrameEnd U o U' L ({ frames := 0, cells := 0, slots := 0, locals := 0 } : Room).cells ({ frames := 0, cells := 0, slots := 0, locals := 0 } : Room).slots) := by
  refine MetFree.of_bodySF (plainFor_of_name pn_58) hisR ?_
  intro p e s m args below meth c s₁ Bd hml0 hP hK
  obtain ⟨rfl, hZ, hh⟩ := hP
  have hx := Bd.exec
  have hby := Bd.bytes
  have hml : c.maxLocals = 1 := hml0
  have hown : s.vm.findClass "java/util/Optional" = some m.cls := findClass_of_methodNamed Bd.named
  have hnm := (name_of_methodNamed Bd.named Bd.method).1
  have X0 : Stand p l e ({ frames := 0, cells := 0, slots := 0, locals := 0 } : Room) s m #[] below meth c s₁ [] 0 0 := Stand.of_body Bd
  have e0 : s₁.heap = h0 := by rw [← hh, Bd.state]; rfl
  have N0 := Fr.nil n0
  have KC0 := Keep.refl h0 ([] : List Addr)
  have pre0 : ∀ t, Steps p.tables e below (s₁.setTop (mkF m 0 #[.unset] [])) t → Steps p.tables e below (s₁.setTop (entryFrame m #[] 1)) t := fun t k => castTop (ef_rm2 m ) k
  have f23 := S_EMPTY.ext O0.2
  obtain ⟨T24, X24, e24, st24⟩ := getS2 X0 hx hZ hown (host := "") (Or.inl (hw _ (List.mem_of_getElem? (i := 11) rfl))) Via.refl e0 f23 (g := (mkF m 0 #[.unset] [])) rfl (hb hby d2_0)
  have k25 := fun (t : State) (kk : Steps p.tables e below (T24.setTop (mkF m 3 #[.unset] [(.ref o_EMPTY)])) t) => pre0 t (st24 _ kk)
  have k26 := fun (t : State) (kk : Steps p.tables e below (T24.setTop (mkF m 5 #[.val (.ref o_EMPTY)] [(.ref o_EMPTY)])) t) => k25 t (by
    show Steps p.tables e below (T24.setTop (mkF m 3 #[.unset] [(.ref o_EMPTY)])) _
    refine XS.astoreN X24.here hx rfl (hb hby d2_3) rfl rfl (l' := #[.val (.ref o_EMPTY)]) rfl ?_
    show Steps p.tables e below (T24.setTop (mkF m 4 #[.val (.ref o_EMPTY)] [])) _
    refine XS.aloadN X24.here hx rfl (hb hby d2_4) rfl rfl ?_
    exact kk)
  obtain ⟨fs, hr, hrun, hended, hW, hsame⟩ := X24.leave (v := some (.ref o_EMPTY)) (fun h => by rw [Bd.returns] at h; cases h)
  refine ⟨_, _, k26 _ ?_, hrun, hended, _, _, rfl, ?_, ⟨_, rfl⟩, hW, hsame.mono (by decide) (by decide)⟩
  · show Steps p.tables e below (T24.setTop (mkF m 5 #[.val (.ref o_EMPTY)] [(.ref o_EMPTY)])) _
    exact retOut X24 hx (t := (.object "java/util/Optional")) Bd.returns rfl (Or.inr (Or.inr (Or.inr (Or.inr ⟨rfl, rfl, rfl⟩)))) (hb hby d2_5) hr
  · show Q2 Z o_EMPTY h0 n0 _ T24.heap _
    rw [e24]
    exact ⟨rfl, N0, rfl⟩
theorem d4_0 : decode jdk_30_method_1_code 0 = .ok (.aload_n 0, 1) := by decide +kernel
theorem d4_1 : decode jdk_30_method_1_code 1 = .ok (.invokespecial 1, 3) := by decide +kernel
theorem d4_4 : decode jdk_30_method_1_code 4 = .ok (.return_, 1) := by decide +kernel
theorem pn_63 : plainName "java/lang/Record" = true := by first | (simp [plainName, overriddenIn]; done) | decide +kernel
theorem ef_rm4 (m : MethodId) (ra0 : Addr) : entryFrame m #[(.ref ra0)] 1 = mkF m 0 #[.val (.ref ra0)] [] := by first | (simp [entryFrame, mkF, argsToLocals, Value.category]; done) | rfl
def Q4 (Z : State) (ra0 : Addr) (h0 : Heap) (n0 : Nat) (v : Option Value) (h : Heap) (L : List Loc) : Prop := v = none ∧ Fr n0 L ∧ h = h0
set_option maxRecDepth 65536 in
set_option maxHeartbeats 40000000 in
theorem rm4 (l : Launch) (Z : State) (a0 : Array Value) (hw : ∀ d ∈ tables_1, d.before a0 Z = true) (ws : List Jvm.Cond) (ra0 : Addr) (h0 : Heap) (n0 : Nat) (Z0 : n0 ≤ h0.size) :
    MetFree l (⟨"java/lang/Record", "<init>", "()V"⟩ : MethodName) (head1 (Jvm.Cond.code (⟨"java/lang/Record", "<init>", "()V"⟩ : MethodName) jdk_30_method_1_code 1 none :: ws) ({ frames := 1, cells := 0, slots := 0, locals := 12 } : Room)) (fun a U => a = #[(.ref ra0)] ∧ Z.Warmed39 U.vm ∧ U.heap = h0) (fun _ _ _ _ _ => True) (fun _ U o U' => ∃ v L, o = .returned v ∧ Q4 Z ra0 h0 n0 v U'.heap L ∧ FrameEnd U o U' L ({ frames := 1, cells := 0, slots := 0, locals := 12 } : Room).cells ({ frames := 1, cells := 0, slots := 0, locals := 12 } : Room).slots) := by
  refine MetFree.of_bodySF (plainFor_of_name pn_63) hisR ?_
  intro p e s m args below meth c s₁ Bd hml0 hP hK
  obtain ⟨rfl, hZ, hh⟩ := hP
  have hx := Bd.exec
  have hby := Bd.bytes
  have hml : c.maxLocals = 1 := hml0
  have hown : s.vm.findClass "java/lang/Record" = some m.cls := findClass_of_methodNamed Bd.named
  have hnm := (name_of_methodNamed Bd.named Bd.method).1
  have X0 : Stand p l e ({ frames := 1, cells := 0, slots := 0, locals := 12 } : Room) s m #[(.ref ra0)] below meth c s₁ [] 0 0 := Stand.of_body Bd
  have e0 : s₁.heap = h0 := by rw [← hh, Bd.state]; rfl
  have N0 := Fr.nil n0
  have KC0 := Keep.refl h0 ([] : List Addr)
  have pre0 : ∀ t, Steps p.tables e below (s₁.setTop (mkF m 0 #[.val (.ref ra0)] [])) t → Steps p.tables e below (s₁.setTop (entryFrame m #[(.ref ra0)] 1)) t := fun t k => castTop (ef_rm4 m ra0) k
  have k27 := fun (t : State) (kk : Steps p.tables e below (s₁.setTop (mkF m 1 #[.val (.ref ra0)] [(.ref ra0)])) t) => pre0 t (by
    show Steps p.tables e below (s₁.setTop (mkF m 0 #[.val (.ref ra0)] [])) _
    refine XS.aloadN X0.here hx rfl (hb hby d4_0) rfl rfl ?_
    exact kk)
  obtain ⟨T28, X28, e28, st28⟩ := initO X0 hx hZ hown (hw _ (List.mem_of_getElem? (i := 20) rfl)) (hw _ (List.mem_of_getElem? (i := 21) rfl)) (hw _ (List.mem_of_getElem? (i := 22) rfl)) e0 (g := (mkF m 1 #[.val (.ref ra0)] [(.ref ra0)])) rfl (by rw [hml]; rfl) rfl (hb hby d4_1) (by decide) (W := 0) (by show 2 * 0 + _ ≤ _; exact Nat.le_of_eq rfl) (by decide)
  have k29 := fun (t : State) (kk : Steps p.tables e below (T28.setTop (mkF m 4 #[.val (.ref ra0)] [])) t) => k27 t (st28 _ kk)
  obtain ⟨fs, hr, hrun, hended, hW, hsame⟩ := X28.leave (v := none) (fun _ => rfl)
  refine ⟨_, _, k29 _ ?_, hrun, hended, _, _, rfl, ?_, ⟨_, rfl⟩, hW, hsame.mono (by decide) (by decide)⟩
  · show Steps p.tables e below (T28.setTop (mkF m 4 #[.val (.ref ra0)] [])) _
    exact X28.returnOut hx Bd.returns (hb hby d4_4) hr
  · show Q4 Z ra0 h0 n0 _ T28.heap _
    rw [e28]
    exact ⟨rfl, N0, rfl⟩
theorem pd_0 : parseMethodDescriptor "()V" = some ⟨[], none⟩ := by decide +kernel
theorem d3_0 : decode prog_28_method_1_code 0 = .ok (.aload_n 0, 1) := by decide +kernel
theorem d3_1 : decode prog_28_method_1_code 1 = .ok (.invokespecial 1, 3) := by decide +kernel
theorem d3_4 : decode prog_28_method_1_code 4 = .ok (.aload_n 0, 1) := by decide +kernel
theorem d3_5 : decode prog_28_method_1_code 5 = .ok (.iload_n 1, 1) := by decide +kernel
theorem d3_6 : decode prog_28_method_1_code 6 = .ok (.putfield 7, 3) := by decide +kernel
theorem d3_9 : decode prog_28_method_1_code 9 = .ok (.aload_n 0, 1) := by decide +kernel
theorem d3_10 : decode prog_28_method_1_code 10 = .ok (.iload_n 2, 1) := by decide +kernel
theorem d3_11 : decode prog_28_method_1_code 11 = .ok (.putfield 13, 3) := by decide +kernel
theorem d3_14 : decode prog_28_method_1_code 14 = .ok (.aload_n 0, 1) := by decide +kernel
theorem d3_15 : decode prog_28_method_1_code 15 = .ok (.iload_n 3, 1) := by decide +kernel
theorem d3_16 : decode prog_28_method_1_code 16 = .ok (.putfield 16, 3) := by decide +kernel
theorem d3_19 : decode prog_28_method_1_code 19 = .ok (.aload_n 0, 1) := by decide +kernel
theorem d3_20 : decode prog_28_method_1_code 20 = .ok (.aload 4, 2) := by decide +kernel
theorem d3_22 : decode prog_28_method_1_code 22 = .ok (.putfield 19, 3) := by decide +kernel
theorem d3_25 : decode prog_28_method_1_code 25 = .ok (.aload_n 0, 1) := by decide +kernel
theorem d3_26 : decode prog_28_method_1_code 26 = .ok (.aload 5, 2) := by decide +kernel
theorem d3_28 : decode prog_28_method_1_code 28 = .ok (.putfield 23, 3) := by decide +kernel
theorem d3_31 : decode prog_28_method_1_code 31 = .ok (.aload_n 0, 1) := by decide +kernel
theorem d3_32 : decode prog_28_method_1_code 32 = .ok (.iload 6, 2) := by decide +kernel
theorem d3_34 : decode prog_28_method_1_code 34 = .ok (.putfield 26, 3) := by decide +kernel
theorem d3_37 : decode prog_28_method_1_code 37 = .ok (.return_, 1) := by decide +kernel
theorem pn_87 : plainName "com/example/studybridge/studybridge/codec/dicom/DimseCommand" = true := by first | (simp [plainName, overriddenIn]; done) | decide +kernel
theorem ef_rm3 (m : MethodId) (ra0 : Addr) (p1 : Int32) (p2 : Int32) (p3 : Int32) (ra4 : Addr) (ra5 : Addr) (p6 : Int32) : entryFrame m #[(.ref ra0), (.int p1), (.int p2), (.int p3), (.ref ra4), (.ref ra5), (.int p6)] 7 = mkF m 0 #[.val (.ref ra0), .val (.int p1), .val (.int p2), .val (.int p3), .val (.ref ra4), .val (.ref ra5), .val (.int p6)] [] := by first | (simp [entryFrame, mkF, argsToLocals, Value.category]; done) | rfl
def Q3 (Z : State) (ra0 : Addr) (p1 : Int32) (p2 : Int32) (p3 : Int32) (ra4 : Addr) (ra5 : Addr) (p6 : Int32) (w_contextId_ra0 : Int32) (w_field_ra0 : Int32) (w_messageId_ra0 : Int32) (u_sopClassUid_ra0 : Value) (u_sopInstanceUid_ra0 : Value) (w_hasDataSet_ra0 : Int32) (h0 : Heap) (n0 : Nat) (v : Option Value) (h : Heap) (L : List Loc) : Prop := v = none ∧ Fr n0 L ∧ Keep h0 h [ra0] ∧ Exa Z h ra0 "com/example/studybridge/studybridge/codec/dicom/DimseCommand" ∧ Fld Z h ra0 "com/example/studybridge/studybridge/codec/dicom/DimseCommand" "contextId" "I" (.int p1) ∧ Fld Z h ra0 "com/example/studybridge/studybridge/codec/dicom/DimseCommand" "field" "I" (.int p2) ∧ Fld Z h ra0 "com/example/studybridge/studybridge/codec/dicom/DimseCommand" "messageId" "I" (.int p3) ∧ Fld Z h ra0 "com/example/studybridge/studybridge/codec/dicom/DimseCommand" "sopClassUid" "Ljava/util/Optional;" (.ref ra4) ∧ Fld Z h ra0 "com/example/studybridge/studybridge/codec/dicom/DimseCommand" "sopInstanceUid" "Ljava/util/Optional;" (.ref ra5) ∧ Fld Z h ra0 "com/example/studybridge/studybridge/codec/dicom/DimseCommand" "hasDataSet" "Z" (.int (p6 &&& 1))
set_option maxRecDepth 65536 in
set_option maxHeartbeats 40000000 in
theorem rm3 (l : Launch) (Z : State) (a0 : Array Value) (hw : ∀ d ∈ tables_1, d.before a0 Z = true) (ws : List Jvm.Cond) (ra0 : Addr) (p1 : Int32) (p2 : Int32) (p3 : Int32) (ra4 : Addr) (ra5 : Addr) (p6 : Int32) (w_contextId_ra0 : Int32) (w_field_ra0 : Int32) (w_messageId_ra0 : Int32) (u_sopClassUid_ra0 : Value) (u_sopInstanceUid_ra0 : Value) (w_hasDataSet_ra0 : Int32) (h0 : Heap) (n0 : Nat) (Z0 : n0 ≤ h0.size) (E_ra0 : Exa Z h0 ra0 "com/example/studybridge/studybridge/codec/dicom/DimseCommand") (F_contextId_ra0 : Fld Z h0 ra0 "com/example/studybridge/studybridge/codec/dicom/DimseCommand" "contextId" "I" (.int w_contextId_ra0)) (g_ra0 : n0 ≤ ra0) (F_field_ra0 : Fld Z h0 ra0 "com/example/studybridge/studybridge/codec/dicom/DimseCommand" "field" "I" (.int w_field_ra0)) (F_messageId_ra0 : Fld Z h0 ra0 "com/example/studybridge/studybridge/codec/dicom/DimseCommand" "messageId" "I" (.int w_messageId_ra0)) (F_sopClassUid_ra0 : Fld Z h0 ra0 "com/example/studybridge/studybridge/codec/dicom/DimseCommand" "sopClassUid" "Ljava/util/Optional;" u_sopClassUid_ra0) (F_sopInstanceUid_ra0 : Fld Z h0 ra0 "com/example/studybridge/studybridge/codec/dicom/DimseCommand" "sopInstanceUid" "Ljava/util/Optional;" u_sopInstanceUid_ra0) (F_hasDataSet_ra0 : Fld Z h0 ra0 "com/example/studybridge/studybridge/codec/dicom/DimseCommand" "hasDataSet" "Z" (.int w_hasDataSet_ra0)) :
    MetFree l (⟨"com/example/studybridge/studybridge/codec/dicom/DimseCommand", "<init>", "(IIILjava/util/Optional;Ljava/util/Optional;Z)V"⟩ : MethodName) (head1 (Jvm.Cond.code (⟨"com/example/studybridge/studybridge/codec/dicom/DimseCommand", "<init>", "(IIILjava/util/Optional;Ljava/util/Optional;Z)V"⟩ : MethodName) prog_28_method_1_code 7 none :: ws) ({ frames := 2, cells := 0, slots := 0, locals := 24 } : Room)) (fun a U => a = #[(.ref ra0), (.int p1), (.int p2), (.int p3), (.ref ra4), (.ref ra5), (.int p6)] ∧ Z.Warmed39 U.vm ∧ U.heap = h0) (fun _ _ _ _ _ => True) (fun _ U o U' => ∃ v L, o = .returned v ∧ Q3 Z ra0 p1 p2 p3 ra4 ra5 p6 w_contextId_ra0 w_field_ra0 w_messageId_ra0 u_sopClassUid_ra0 u_sopInstanceUid_ra0 w_hasDataSet_ra0 h0 n0 v U'.heap L ∧ FrameEnd U o U' L ({ frames := 2, cells := 0, slots := 0, locals := 24 } : Room).cells ({ frames := 2, cells := 0, slots := 0, locals := 24 } : Room).slots) := by
  refine MetFree.of_bodySF (plainFor_of_name pn_87) hisR ?_
  intro p e s m args below meth c s₁ Bd hml0 hP hK
  obtain ⟨rfl, hZ, hh⟩ := hP
  have hx := Bd.exec
  have hby := Bd.bytes
  have hml : c.maxLocals = 7 := hml0
  have hown : s.vm.findClass "com/example/studybridge/studybridge/codec/dicom/DimseCommand" = some m.cls := findClass_of_methodNamed Bd.named
  have hnm := (name_of_methodNamed Bd.named Bd.method).1
  have X0 : Stand p l e ({ frames := 2, cells := 0, slots := 0, locals := 24 } : Room) s m #[(.ref ra0), (.int p1), (.int p2), (.int p3), (.ref ra4), (.ref ra5), (.int p6)] below meth c s₁ [] 0 0 := Stand.of_body Bd
  have e0 : s₁.heap = h0 := by rw [← hh, Bd.state]; rfl
  have N0 := Fr.nil n0
  have KC0 := Keep.refl h0 [ra0]
  have pre0 : ∀ t, Steps p.tables e below (s₁.setTop (mkF m 0 #[.val (.ref ra0), .val (.int p1), .val (.int p2), .val (.int p3), .val (.ref ra4), .val (.ref ra5), .val (.int p6)] [])) t → Steps p.tables e below (s₁.setTop (entryFrame m #[(.ref ra0), (.int p1), (.int p2), (.int p3), (.ref ra4), (.ref ra5), (.int p6)] 7)) t := fun t k => castTop (ef_rm3 m ra0 p1 p2 p3 ra4 ra5 p6) k
  have k30 := fun (t : State) (kk : Steps p.tables e below (s₁.setTop (mkF m 1 #[.val (.ref ra0), .val (.int p1), .val (.int p2), .val (.int p3), .val (.ref ra4), .val (.ref ra5), .val (.int p6)] [(.ref ra0)])) t) => pre0 t (by
    show Steps p.tables e below (s₁.setTop (mkF m 0 #[.val (.ref ra0), .val (.int p1), .val (.int p2), .val (.int p3), .val (.ref ra4), .val (.ref ra5), .val (.int p6)] [])) _
    refine XS.aloadN X0.here hx rfl (hb hby d3_0) rfl rfl ?_
    exact kk)
  have Zz31 : n0 ≤ h0.size := (Nat.le_trans Z0 KC0.1)
  obtain ⟨_, _, ⟨T31, L31, k31, n31⟩, -, X31, ⟨Lc31, hQ31, l31, y31, z31⟩, st31⟩ := X0.specialBack hx (y := (⟨"java/lang/Record", "<init>", "()V"⟩ : MethodName)) rfl hown (mvT hZ (hw _ (List.mem_of_getElem? (i := 15) rfl))) (mvT hZ (hw _ (List.mem_of_getElem? (i := 16) rfl))) (mvT hZ (hw _ (List.mem_of_getElem? (i := 19) rfl))) (by decide) (backOf (W := 0) (rm4 l Z a0 hw [] ra0 h0 n0 Zz31) hZ (hw _ (List.mem_of_getElem? (i := 19) rfl)) (hw _ (List.mem_of_getElem? (i := 18) rfl)) (by decide) (by decide)) (g := (mkF m 1 #[.val (.ref ra0), .val (.int p1), .val (.int p2), .val (.int p3), .val (.ref ra4), .val (.ref ra5), .val (.int p6)] [(.ref ra0)])) rfl (by rw [hml]; rfl) (Steps.refl _) (a := ra0) (argsL := []) (rest := []) (lenOf pd_0 rfl) rfl (by show 2 * 0 + _ ≤ _; exact Nat.le_of_eq rfl) (hb hby d3_1) (fun _ _ => ⟨rfl, e0, (by decide : 0 + 0 ≤ _), (by decide : 0 + 0 ≤ _)⟩)
  dsimp only [Pt.U, Pt.locs, Pt.cells, Pt.slots] at X31 l31 y31 z31 st31 hQ31
  subst l31 y31 z31
  obtain ⟨rfl, N31q, e31⟩ := hQ31
  have N31 := Fr.app N0 N31q
  have k32 := fun (t : State) (kk : Steps p.tables e below (T31.setTop (mkF m 4 #[.val (.ref ra0), .val (.int p1), .val (.int p2), .val (.int p3), .val (.ref ra4), .val (.ref ra5), .val (.int p6)] [])) t) => k30 t (st31.trans kk)
  have k33 := fun (t : State) (kk : Steps p.tables e below (T31.setTop (mkF m 6 #[.val (.ref ra0), .val (.int p1), .val (.int p2), .val (.int p3), .val (.ref ra4), .val (.ref ra5), .val (.int p6)] [(.int p1), (.ref ra0)])) t) => k32 t (by
    show Steps p.tables e below (T31.setTop (mkF m 4 #[.val (.ref ra0), .val (.int p1), .val (.int p2), .val (.int p3), .val (.ref ra4), .val (.ref ra5), .val (.int p6)] [])) _
    refine XS.aloadN X31.here hx rfl (hb hby d3_4) rfl rfl ?_
    show Steps p.tables e below (T31.setTop (mkF m 5 #[.val (.ref ra0), .val (.int p1), .val (.int p2), .val (.int p3), .val (.ref ra4), .val (.ref ra5), .val (.int p6)] [(.ref ra0)])) _
    refine XS.iloadN X31.here hx rfl (hb hby d3_5) rfl ?_
    exact kk)
  obtain ⟨T34, h34, X34, e34, W34, st34⟩ := putF X31 hx hZ hown (host := "") (Or.inl (hw _ (List.mem_of_getElem? (i := 23) rfl))) Via.refl e31 F_contextId_ra0 E_ra0 (Or.inr ⟨(hw _ (List.mem_of_getElem? (i := 24) rfl)), rfl, hnm⟩) (hw _ (List.mem_of_getElem? (i := 5) rfl)) (ty := .int) (by decide) rfl rfl (g := (mkF m 6 #[.val (.ref ra0), .val (.int p1), .val (.int p2), .val (.int p3), .val (.ref ra4), .val (.ref ra5), .val (.int p6)] [(.int p1), (.ref ra0)])) rfl rfl (hb hby d3_6)
  have Fw34 := F_contextId_ra0.same W34
  have K34 : Keep h0 h34 [ra0] := KC0.wr W34 (Or.inl (List.mem_of_getElem? (i := 0) rfl))
  have N34 := Fr.snoc X34 N31 g_ra0
  have k35 := fun (t : State) (kk : Steps p.tables e below (T34.setTop (mkF m 9 #[.val (.ref ra0), .val (.int p1), .val (.int p2), .val (.int p3), .val (.ref ra4), .val (.ref ra5), .val (.int p6)] [])) t) => k33 t (st34 _ kk)
  have k36 := fun (t : State) (kk : Steps p.tables e below (T34.setTop (mkF m 11 #[.val (.ref ra0), .val (.int p1), .val (.int p2), .val (.int p3), .val (.ref ra4), .val (.ref ra5), .val (.int p6)] [(.int p2), (.ref ra0)])) t) => k35 t (by
    show Steps p.tables e below (T34.setTop (mkF m 9 #[.val (.ref ra0), .val (.int p1), .val (.int p2), .val (.int p3), .val (.ref ra4), .val (.ref ra5), .val (.int p6)] [])) _
    refine XS.aloadN X34.here hx rfl (hb hby d3_9) rfl rfl ?_
    show Steps p.tables e below (T34.setTop (mkF m 10 #[.val (.ref ra0), .val (.int p1), .val (.int p2), .val (.int p3), .val (.ref ra4), .val (.ref ra5), .val (.int p6)] [(.ref ra0)])) _
    refine XS.iloadN X34.here hx rfl (hb hby d3_10) rfl ?_
    exact kk)
  have f37 := (E_ra0.wr W34)
  have f38 := (F_field_ra0.other W34 (Or.inr (slot_ne (Or.inr (hw _ (List.mem_of_getElem? (i := 26) rfl))) (Or.inr (hw _ (List.mem_of_getElem? (i := 24) rfl))) (by decide) (t := .int) (t' := .int) (by decide) (by decide))))
  obtain ⟨T39, h39, X39, e39, W39, st39⟩ := putF X34 hx hZ hown (host := "") (Or.inl (hw _ (List.mem_of_getElem? (i := 25) rfl))) Via.refl e34 f38 f37 (Or.inr ⟨(hw _ (List.mem_of_getElem? (i := 26) rfl)), rfl, hnm⟩) (hw _ (List.mem_of_getElem? (i := 5) rfl)) (ty := .int) (by decide) rfl rfl (g := (mkF m 11 #[.val (.ref ra0), .val (.int p1), .val (.int p2), .val (.int p3), .val (.ref ra4), .val (.ref ra5), .val (.int p6)] [(.int p2), (.ref ra0)])) rfl rfl (hb hby d3_11)
  have Fw39 := f38.same W39
  have K39 : Keep h0 h39 [ra0] := K34.wr W39 (Or.inl (List.mem_of_getElem? (i := 0) rfl))
  have N39 := Fr.snoc X39 N34 g_ra0
  have k40 := fun (t : State) (kk : Steps p.tables e below (T39.setTop (mkF m 14 #[.val (.ref ra0), .val (.int p1), .val (.int p2), .val (.int p3), .val (.ref ra4), .val (.ref ra5), .val (.int p6)] [])) t) => k36 t (st39 _ kk)
  have k41 := fun (t : State) (kk : Steps p.tables e below (T39.setTop (mkF m 16 #[.val (.ref ra0), .val (.int p1), .val (.int p2), .val (.int p3), .val (.ref ra4), .val (.ref ra5), .val (.int p6)] [(.int p3), (.ref ra0)])) t) => k40 t (by
    show Steps p.tables e below (T39.setTop (mkF m 14 #[.val (.ref ra0), .val (.int p1), .val (.int p2), .val (.int p3), .val (.ref ra4), .val (.ref ra5), .val (.int p6)] [])) _
    refine XS.aloadN X39.here hx rfl (hb hby d3_14) rfl rfl ?_
    show Steps p.tables e below (T39.setTop (mkF m 15 #[.val (.ref ra0), .val (.int p1), .val (.int p2), .val (.int p3), .val (.ref ra4), .val (.ref ra5), .val (.int p6)] [(.ref ra0)])) _
    refine XS.iloadN X39.here hx rfl (hb hby d3_15) rfl ?_
    exact kk)
  have f42 := (f37.wr W39)
  have f43 := ((F_messageId_ra0.other W34 (Or.inr (slot_ne (Or.inr (hw _ (List.mem_of_getElem? (i := 28) rfl))) (Or.inr (hw _ (List.mem_of_getElem? (i := 24) rfl))) (by decide) (t := .int) (t' := .int) (by decide) (by decide)))).other W39 (Or.inr (slot_ne (Or.inr (hw _ (List.mem_of_getElem? (i := 28) rfl))) (Or.inr (hw _ (List.mem_of_getElem? (i := 26) rfl))) (by decide) (t := .int) (t' := .int) (by decide) (by decide))))
  obtain ⟨T44, h44, X44, e44, W44, st44⟩ := putF X39 hx hZ hown (host := "") (Or.inl (hw _ (List.mem_of_getElem? (i := 27) rfl))) Via.refl e39 f43 f42 (Or.inr ⟨(hw _ (List.mem_of_getElem? (i := 28) rfl)), rfl, hnm⟩) (hw _ (List.mem_of_getElem? (i := 5) rfl)) (ty := .int) (by decide) rfl rfl (g := (mkF m 16 #[.val (.ref ra0), .val (.int p1), .val (.int p2), .val (.int p3), .val (.ref ra4), .val (.ref ra5), .val (.int p6)] [(.int p3), (.ref ra0)])) rfl rfl (hb hby d3_16)
  have Fw44 := f43.same W44
  have K44 : Keep h0 h44 [ra0] := K39.wr W44 (Or.inl (List.mem_of_getElem? (i := 0) rfl))
  have N44 := Fr.snoc X44 N39 g_ra0
  have k45 := fun (t : State) (kk : Steps p.tables e below (T44.setTop (mkF m 19 #[.val (.ref ra0), .val (.int p1), .val (.int p2), .val (.int p3), .val (.ref ra4), .val (.ref ra5), .val (.int p6)] [])) t) => k41 t (st44 _ kk)
  have k46 := fun (t : State) (kk : Steps p.tables e below (T44.setTop (mkF m 22 #[.val (.ref ra0), .val (.int p1), .val (.int p2), .val (.int p3), .val (.ref ra4), .val (.ref ra5), .val (.int p6)] [(.ref ra4), (.ref ra0)])) t) => k45 t (by
    show Steps p.tables e below (T44.setTop (mkF m 19 #[.val (.ref ra0), .val (.int p1), .val (.int p2), .val (.int p3), .val (.ref ra4), .val (.ref ra5), .val (.int p6)] [])) _
    refine XS.aloadN X44.here hx rfl (hb hby d3_19) rfl rfl ?_
    show Steps p.tables e below (T44.setTop (mkF m 20 #[.val (.ref ra0), .val (.int p1), .val (.int p2), .val (.int p3), .val (.ref ra4), .val (.ref ra5), .val (.int p6)] [(.ref ra0)])) _
    refine XS.aload X44.here hx rfl (hb hby d3_20) rfl rfl ?_
    exact kk)
  have f47 := (f42.wr W44)
  have f48 := (((F_sopClassUid_ra0.other W34 (Or.inr (slot_ne (Or.inr (hw _ (List.mem_of_getElem? (i := 30) rfl))) (Or.inr (hw _ (List.mem_of_getElem? (i := 24) rfl))) (by decide) (t := (.object "java/util/Optional")) (t' := .int) (by decide) (by decide)))).other W39 (Or.inr (slot_ne (Or.inr (hw _ (List.mem_of_getElem? (i := 30) rfl))) (Or.inr (hw _ (List.mem_of_getElem? (i := 26) rfl))) (by decide) (t := (.object "java/util/Optional")) (t' := .int) (by decide) (by decide)))).other W44 (Or.inr (slot_ne (Or.inr (hw _ (List.mem_of_getElem? (i := 30) rfl))) (Or.inr (hw _ (List.mem_of_getElem? (i := 28) rfl))) (by decide) (t := (.object "java/util/Optional")) (t' := .int) (by decide) (by decide))))
  obtain ⟨T49, h49, X49, e49, W49, st49⟩ := putF X44 hx hZ hown (host := "") (Or.inl (hw _ (List.mem_of_getElem? (i := 29) rfl))) Via.refl e44 f48 f47 (Or.inr ⟨(hw _ (List.mem_of_getElem? (i := 30) rfl)), rfl, hnm⟩) (hw _ (List.mem_of_getElem? (i := 5) rfl)) (ty := (.object "java/util/Optional")) (by decide) rfl rfl (g := (mkF m 22 #[.val (.ref ra0), .val (.int p1), .val (.int p2), .val (.int p3), .val (.ref ra4), .val (.ref ra5), .val (.int p6)] [(.ref ra4), (.ref ra0)])) rfl rfl (hb hby d3_22)
  have Fw49 := f48.same W49
  have K49 : Keep h0 h49 [ra0] := K44.wr W49 (Or.inl (List.mem_of_getElem? (i := 0) rfl))
  have N49 := Fr.snoc X49 N44 g_ra0
  have k50 := fun (t : State) (kk : Steps p.tables e below (T49.setTop (mkF m 25 #[.val (.ref ra0), .val (.int p1), .val (.int p2), .val (.int p3), .val (.ref ra4), .val (.ref ra5), .val (.int p6)] [])) t) => k46 t (st49 _ kk)
  have k51 := fun (t : State) (kk : Steps p.tables e below (T49.setTop (mkF m 28 #[.val (.ref ra0), .val (.int p1), .val (.int p2), .val (.int p3), .val (.ref ra4), .val (.ref ra5), .val (.int p6)] [(.ref ra5), (.ref ra0)])) t) => k50 t (by
    show Steps p.tables e below (T49.setTop (mkF m 25 #[.val (.ref ra0), .val (.int p1), .val (.int p2), .val (.int p3), .val (.ref ra4), .val (.ref ra5), .val (.int p6)] [])) _
    refine XS.aloadN X49.here hx rfl (hb hby d3_25) rfl rfl ?_
    show Steps p.tables e below (T49.setTop (mkF m 26 #[.val (.ref ra0), .val (.int p1), .val (.int p2), .val (.int p3), .val (.ref ra4), .val (.ref ra5), .val (.int p6)] [(.ref ra0)])) _
    refine XS.aload X49.here hx rfl (hb hby d3_26) rfl rfl ?_
    exact kk)
  have f52 := (f47.wr W49)
  have f53 := ((((F_sopInstanceUid_ra0.other W34 (Or.inr (slot_ne (Or.inr (hw _ (List.mem_of_getElem? (i := 32) rfl))) (Or.inr (hw _ (List.mem_of_getElem? (i := 24) rfl))) (by decide) (t := (.object "java/util/Optional")) (t' := .int) (by decide) (by decide)))).other W39 (Or.inr (slot_ne (Or.inr (hw _ (List.mem_of_getElem? (i := 32) rfl))) (Or.inr (hw _ (List.mem_of_getElem? (i := 26) rfl))) (by decide) (t := (.object "java/util/Optional")) (t' := .int) (by decide) (by decide)))).other W44 (Or.inr (slot_ne (Or.inr (hw _ (List.mem_of_getElem? (i := 32) rfl))) (Or.inr (hw _ (List.mem_of_getElem? (i := 28) rfl))) (by decide) (t := (.object "java/util/Optional")) (t' := .int) (by decide) (by decide)))).other W49 (Or.inr (slot_ne (Or.inr (hw _ (List.mem_of_getElem? (i := 32) rfl))) (Or.inr (hw _ (List.mem_of_getElem? (i := 30) rfl))) (by decide) (t := (.object "java/util/Optional")) (t' := (.object "java/util/Optional")) (by decide) (by decide))))
  obtain ⟨T54, h54, X54, e54, W54, st54⟩ := putF X49 hx hZ hown (host := "") (Or.inl (hw _ (List.mem_of_getElem? (i := 31) rfl))) Via.refl e49 f53 f52 (Or.inr ⟨(hw _ (List.mem_of_getElem? (i := 32) rfl)), rfl, hnm⟩) (hw _ (List.mem_of_getElem? (i := 5) rfl)) (ty := (.object "java/util/Optional")) (by decide) rfl rfl (g := (mkF m 28 #[.val (.ref ra0), .val (.int p1), .val (.int p2), .val (.int p3), .val (.ref ra4), .val (.ref ra5), .val (.int p6)] [(.ref ra5), (.ref ra0)])) rfl rfl (hb hby d3_28)
  have Fw54 := f53.same W54
  have K54 : Keep h0 h54 [ra0] := K49.wr W54 (Or.inl (List.mem_of_getElem? (i := 0) rfl))
  have N54 := Fr.snoc X54 N49 g_ra0
  have k55 := fun (t : State) (kk : Steps p.tables e below (T54.setTop (mkF m 31 #[.val (.ref ra0), .val (.int p1), .val (.int p2), .val (.int p3), .val (.ref ra4), .val (.ref ra5), .val (.int p6)] [])) t) => k51 t (st54 _ kk)
  have k56 := fun (t : State) (kk : Steps p.tables e below (T54.setTop (mkF m 34 #[.val (.ref ra0), .val (.int p1), .val (.int p2), .val (.int p3), .val (.ref ra4), .val (.ref ra5), .val (.int p6)] [(.int p6), (.ref ra0)])) t) => k55 t (by
    show Steps p.tables e below (T54.setTop (mkF m 31 #[.val (.ref ra0), .val (.int p1), .val (.int p2), .val (.int p3), .val (.ref ra4), .val (.ref ra5), .val (.int p6)] [])) _
    refine XS.aloadN X54.here hx rfl (hb hby d3_31) rfl rfl ?_
    show Steps p.tables e below (T54.setTop (mkF m 32 #[.val (.ref ra0), .val (.int p1), .val (.int p2), .val (.int p3), .val (.ref ra4), .val (.ref ra5), .val (.int p6)] [(.ref ra0)])) _
    refine XS.iload X54.here hx rfl (hb hby d3_32) rfl ?_
    exact kk)
  have f57 := (f52.wr W54)
  have f58 := (((((F_hasDataSet_ra0.other W34 (Or.inr (slot_ne (Or.inr (hw _ (List.mem_of_getElem? (i := 34) rfl))) (Or.inr (hw _ (List.mem_of_getElem? (i := 24) rfl))) (by decide) (t := .boolean) (t' := .int) (by decide) (by decide)))).other W39 (Or.inr (slot_ne (Or.inr (hw _ (List.mem_of_getElem? (i := 34) rfl))) (Or.inr (hw _ (List.mem_of_getElem? (i := 26) rfl))) (by decide) (t := .boolean) (t' := .int) (by decide) (by decide)))).other W44 (Or.inr (slot_ne (Or.inr (hw _ (List.mem_of_getElem? (i := 34) rfl))) (Or.inr (hw _ (List.mem_of_getElem? (i := 28) rfl))) (by decide) (t := .boolean) (t' := .int) (by decide) (by decide)))).other W49 (Or.inr (slot_ne (Or.inr (hw _ (List.mem_of_getElem? (i := 34) rfl))) (Or.inr (hw _ (List.mem_of_getElem? (i := 30) rfl))) (by decide) (t := .boolean) (t' := (.object "java/util/Optional")) (by decide) (by decide)))).other W54 (Or.inr (slot_ne (Or.inr (hw _ (List.mem_of_getElem? (i := 34) rfl))) (Or.inr (hw _ (List.mem_of_getElem? (i := 32) rfl))) (by decide) (t := .boolean) (t' := (.object "java/util/Optional")) (by decide) (by decide))))
  obtain ⟨T59, h59, X59, e59, W59, st59⟩ := putFN X54 hx hZ hown (hw _ (List.mem_of_getElem? (i := 33) rfl)) Via.refl e54 f58 f57 (Or.inr ⟨(hw _ (List.mem_of_getElem? (i := 34) rfl)), rfl, hnm⟩) (hw _ (List.mem_of_getElem? (i := 5) rfl)) (ty := .boolean) (v' := (.int (p6 &&& 1))) (by decide) rfl (fits_nar_bool _) (g := (mkF m 34 #[.val (.ref ra0), .val (.int p1), .val (.int p2), .val (.int p3), .val (.ref ra4), .val (.ref ra5), .val (.int p6)] [(.int p6), (.ref ra0)])) rfl rfl (hb hby d3_34)
  have Fw59 := f58.same W59
  have K59 : Keep h0 h59 [ra0] := K54.wr W59 (Or.inl (List.mem_of_getElem? (i := 0) rfl))
  have N59 := Fr.snoc X59 N54 g_ra0
  have k60 := fun (t : State) (kk : Steps p.tables e below (T59.setTop (mkF m 37 #[.val (.ref ra0), .val (.int p1), .val (.int p2), .val (.int p3), .val (.ref ra4), .val (.ref ra5), .val (.int p6)] [])) t) => k56 t (st59 _ kk)
  obtain ⟨fs, hr, hrun, hended, hW, hsame⟩ := X59.leave (v := none) (fun _ => rfl)
  have f61 := (f57.wr W59)
  have f62 := (((((Fw34.other W39 (Or.inr (slot_ne (Or.inr (hw _ (List.mem_of_getElem? (i := 24) rfl))) (Or.inr (hw _ (List.mem_of_getElem? (i := 26) rfl))) (by decide) (t := .int) (t' := .int) (by decide) (by decide)))).other W44 (Or.inr (slot_ne (Or.inr (hw _ (List.mem_of_getElem? (i := 24) rfl))) (Or.inr (hw _ (List.mem_of_getElem? (i := 28) rfl))) (by decide) (t := .int) (t' := .int) (by decide) (by decide)))).other W49 (Or.inr (slot_ne (Or.inr (hw _ (List.mem_of_getElem? (i := 24) rfl))) (Or.inr (hw _ (List.mem_of_getElem? (i := 30) rfl))) (by decide) (t := .int) (t' := (.object "java/util/Optional")) (by decide) (by decide)))).other W54 (Or.inr (slot_ne (Or.inr (hw _ (List.mem_of_getElem? (i := 24) rfl))) (Or.inr (hw _ (List.mem_of_getElem? (i := 32) rfl))) (by decide) (t := .int) (t' := (.object "java/util/Optional")) (by decide) (by decide)))).other W59 (Or.inr (slot_ne (Or.inr (hw _ (List.mem_of_getElem? (i := 24) rfl))) (Or.inr (hw _ (List.mem_of_getElem? (i := 34) rfl))) (by decide) (t := .int) (t' := .boolean) (by decide) (by decide))))
  have f63 := ((((Fw39.other W44 (Or.inr (slot_ne (Or.inr (hw _ (List.mem_of_getElem? (i := 26) rfl))) (Or.inr (hw _ (List.mem_of_getElem? (i := 28) rfl))) (by decide) (t := .int) (t' := .int) (by decide) (by decide)))).other W49 (Or.inr (slot_ne (Or.inr (hw _ (List.mem_of_getElem? (i := 26) rfl))) (Or.inr (hw _ (List.mem_of_getElem? (i := 30) rfl))) (by decide) (t := .int) (t' := (.object "java/util/Optional")) (by decide) (by decide)))).other W54 (Or.inr (slot_ne (Or.inr (hw _ (List.mem_of_getElem? (i := 26) rfl))) (Or.inr (hw _ (List.mem_of_getElem? (i := 32) rfl))) (by decide) (t := .int) (t' := (.object "java/util/Optional")) (by decide) (by decide)))).other W59 (Or.inr (slot_ne (Or.inr (hw _ (List.mem_of_getElem? (i := 26) rfl))) (Or.inr (hw _ (List.mem_of_getElem? (i := 34) rfl))) (by decide) (t := .int) (t' := .boolean) (by decide) (by decide))))
  have f64 := (((Fw44.other W49 (Or.inr (slot_ne (Or.inr (hw _ (List.mem_of_getElem? (i := 28) rfl))) (Or.inr (hw _ (List.mem_of_getElem? (i := 30) rfl))) (by decide) (t := .int) (t' := (.object "java/util/Optional")) (by decide) (by decide)))).other W54 (Or.inr (slot_ne (Or.inr (hw _ (List.mem_of_getElem? (i := 28) rfl))) (Or.inr (hw _ (List.mem_of_getElem? (i := 32) rfl))) (by decide) (t := .int) (t' := (.object "java/util/Optional")) (by decide) (by decide)))).other W59 (Or.inr (slot_ne (Or.inr (hw _ (List.mem_of_getElem? (i := 28) rfl))) (Or.inr (hw _ (List.mem_of_getElem? (i := 34) rfl))) (by decide) (t := .int) (t' := .boolean) (by decide) (by decide))))
  have f65 := ((Fw49.other W54 (Or.inr (slot_ne (Or.inr (hw _ (List.mem_of_getElem? (i := 30) rfl))) (Or.inr (hw _ (List.mem_of_getElem? (i := 32) rfl))) (by decide) (t := (.object "java/util/Optional")) (t' := (.object "java/util/Optional")) (by decide) (by decide)))).other W59 (Or.inr (slot_ne (Or.inr (hw _ (List.mem_of_getElem? (i := 30) rfl))) (Or.inr (hw _ (List.mem_of_getElem? (i := 34) rfl))) (by decide) (t := (.object "java/util/Optional")) (t' := .boolean) (by decide) (by decide))))
  have f66 := (Fw54.other W59 (Or.inr (slot_ne (Or.inr (hw _ (List.mem_of_getElem? (i := 32) rfl))) (Or.inr (hw _ (List.mem_of_getElem? (i := 34) rfl))) (by decide) (t := (.object "java/util/Optional")) (t' := .boolean) (by decide) (by decide))))
  refine ⟨_, _, k60 _ ?_, hrun, hended, _, _, rfl, ?_, ⟨_, rfl⟩, hW, hsame.mono (by decide) (by decide)⟩
  · show Steps p.tables e below (T59.setTop (mkF m 37 #[.val (.ref ra0), .val (.int p1), .val (.int p2), .val (.int p3), .val (.ref ra4), .val (.ref ra5), .val (.int p6)] [])) _
    exact X59.returnOut hx Bd.returns (hb hby d3_37) hr
  · show Q3 Z ra0 p1 p2 p3 ra4 ra5 p6 w_contextId_ra0 w_field_ra0 w_messageId_ra0 u_sopClassUid_ra0 u_sopInstanceUid_ra0 w_hasDataSet_ra0 h0 n0 _ T59.heap _
    rw [e59]
    exact ⟨rfl, N59, K59, f61, f62, f63, f64, f65, f66, Fw59⟩
theorem d6_0 : decode prog_28_method_2_code 0 = .ok (.aload_n 0, 1) := by decide +kernel
theorem d6_1 : decode prog_28_method_2_code 1 = .ok (.getfield 13, 3) := by decide +kernel
theorem d6_4 : decode prog_28_method_2_code 4 = .ok (.ldc 30, 2) := by decide +kernel
theorem d6_6 : decode prog_28_method_2_code 6 = .ok (.iand, 1) := by decide +kernel
theorem d6_7 : decode prog_28_method_2_code 7 = .ok (.ifCond .ne 17, 3) := by decide +kernel
theorem d6_10 : decode prog_28_method_2_code 10 = .ok (.aload_n 0, 1) := by decide +kernel
theorem d6_11 : decode prog_28_method_2_code 11 = .ok (.getfield 13, 3) := by decide +kernel
theorem d6_14 : decode prog_28_method_2_code 14 = .ok (.sipush 4095, 3) := by decide +kernel
theorem d6_17 : decode prog_28_method_2_code 17 = .ok (.if_icmp .eq 7, 3) := by decide +kernel
theorem d6_20 : decode prog_28_method_2_code 20 = .ok (.iconst 1, 1) := by decide +kernel
theorem d6_21 : decode prog_28_method_2_code 21 = .ok (.goto 4, 3) := by decide +kernel
theorem d6_24 : decode prog_28_method_2_code 24 = .ok (.iconst 0, 1) := by decide +kernel
theorem d6_25 : decode prog_28_method_2_code 25 = .ok (.ireturn, 1) := by decide +kernel
def v6_17_s0 (w_field_ra0 : Int32) : Int32 := if w_field_ra0 = (4095 : Int32) then (0 : Int32) else (1 : Int32)
def v6_ret (w_field_ra0 : Int32) : Int32 := (if (w_field_ra0 &&& (32768 : Int32)) = (0 : Int32) then (nar .boolean (v6_17_s0 w_field_ra0)) else (0 : Int32))
theorem ef_rm6 (m : MethodId) (ra0 : Addr) : entryFrame m #[(.ref ra0)] 1 = mkF m 0 #[.val (.ref ra0)] [] := by first | (simp [entryFrame, mkF, argsToLocals, Value.category]; done) | rfl
def Q6 (Z : State) (ra0 : Addr) (w_field_ra0 : Int32) (h0 : Heap) (n0 : Nat) (v : Option Value) (h : Heap) (L : List Loc) : Prop := v = some (.int (v6_ret w_field_ra0)) ∧ Fr n0 L ∧ h = h0
set_option maxRecDepth 65536 in
set_option maxHeartbeats 40000000 in
theorem rm6 (l : Launch) (Z : State) (a0 : Array Value) (hw : ∀ d ∈ tables_1, d.before a0 Z = true) (ws : List Jvm.Cond) (ra0 : Addr) (w_field_ra0 : Int32) (h0 : Heap) (n0 : Nat) (Z0 : n0 ≤ h0.size) (F_field_ra0 : Fld Z h0 ra0 "com/example/studybridge/studybridge/codec/dicom/DimseCommand" "field" "I" (.int w_field_ra0)) :
    MetFree l (⟨"com/example/studybridge/studybridge/codec/dicom/DimseCommand", "wantsResponse", "()Z"⟩ : MethodName) (head1 (Jvm.Cond.code (⟨"com/example/studybridge/studybridge/codec/dicom/DimseCommand", "wantsResponse", "()Z"⟩ : MethodName) prog_28_method_2_code 1 (some .boolean) :: ws) ({ frames := 0, cells := 0, slots := 0, locals := 0 } : Room)) (fun a U => a = #[(.ref ra0)] ∧ Z.Warmed39 U.vm ∧ U.heap = h0) (fun _ _ _ _ _ => True) (fun _ U o U' => ∃ v L, o = .returned v ∧ Q6 Z ra0 w_field_ra0 h0 n0 v U'.heap L ∧ FrameEnd U o U' L ({ frames := 0, cells := 0, slots := 0, locals := 0 } : Room).cells ({ frames := 0, cells := 0, slots := 0, locals := 0 } : Room).slots) := by
  refine MetFree.of_bodySF (plainFor_of_name pn_87) hisR ?_
  intro p e s m args below meth c s₁ Bd hml0 hP hK
  obtain ⟨rfl, hZ, hh⟩ := hP
  have hx := Bd.exec
  have hby := Bd.bytes
  have hml : c.maxLocals = 1 := hml0
  have hown : s.vm.findClass "com/example/studybridge/studybridge/codec/dicom/DimseCommand" = some m.cls := findClass_of_methodNamed Bd.named
  have hnm := (name_of_methodNamed Bd.named Bd.method).1
  have X0 : Stand p l e ({ frames := 0, cells := 0, slots := 0, locals := 0 } : Room) s m #[(.ref ra0)] below meth c s₁ [] 0 0 := Stand.of_body Bd
  have e0 : s₁.heap = h0 := by rw [← hh, Bd.state]; rfl
  have N0 := Fr.nil n0
  have KC0 := Keep.refl h0 ([] : List Addr)
  have pre0 : ∀ t, Steps p.tables e below (s₁.setTop (mkF m 0 #[.val (.ref ra0)] [])) t → Steps p.tables e below (s₁.setTop (entryFrame m #[(.ref ra0)] 1)) t := fun t k => castTop (ef_rm6 m ra0) k
  have k67 := fun (t : State) (kk : Steps p.tables e below (s₁.setTop (mkF m 1 #[.val (.ref ra0)] [(.ref ra0)])) t) => pre0 t (by
    show Steps p.tables e below (s₁.setTop (mkF m 0 #[.val (.ref ra0)] [])) _
    refine XS.aloadN X0.here hx rfl (hb hby d6_0) rfl rfl ?_
    exact kk)
  obtain ⟨T68, X68, e68, st68⟩ := getF X0 hx hZ hown (host := "") (Or.inl (hw _ (List.mem_of_getElem? (i := 25) rfl))) Via.refl e0 F_field_ra0 (g := (mkF m 1 #[.val (.ref ra0)] [(.ref ra0)])) rfl rfl (hb hby d6_1)
  have k69 := fun (t : State) (kk : Steps p.tables e below (T68.setTop (mkF m 4 #[.val (.ref ra0)] [(.int w_field_ra0)])) t) => k67 t (st68 _ kk)
  have k70 := fun (t : State) (kk : Steps p.tables e below (T68.setTop (mkF m 7 #[.val (.ref ra0)] [(.int (w_field_ra0 &&& (32768 : Int32)))])) t) => k69 t (by
    show Steps p.tables e below (T68.setTop (mkF m 4 #[.val (.ref ra0)] [(.int w_field_ra0)])) _
    refine X68.ldcInt hx hown (mvT hZ (hw _ (List.mem_of_getElem? (i := 42) rfl))) (g := (mkF m 4 #[.val (.ref ra0)] [(.int w_field_ra0)])) rfl (hb hby d6_4) _ ?_
    show Steps p.tables e below (T68.setTop (mkF m 6 #[.val (.ref ra0)] [(.int (32768 : Int32)), (.int w_field_ra0)])) _
    refine XS.iand X68.here hx rfl (hb hby d6_6) rfl ?_
    exact kk)
  by_cases hc7_71 : (w_field_ra0 &&& (32768 : Int32)) = (0 : Int32)
  · have k72 := fun (t : State) (kk : Steps p.tables e below (T68.setTop (mkF m 11 #[.val (.ref ra0)] [(.ref ra0)])) t) => k70 t (by
      show Steps p.tables e below (T68.setTop (mkF m 7 #[.val (.ref ra0)] [(.int (w_field_ra0 &&& (32768 : Int32)))])) _
      refine XS.ifNo X68.here hx rfl (hb hby d6_7) rfl ((if0 _ _).trans (teq hc7_71).2) ?_
      show Steps p.tables e below (T68.setTop (mkF m 10 #[.val (.ref ra0)] [])) _
      refine XS.aloadN X68.here hx rfl (hb hby d6_10) rfl rfl ?_
      exact kk)
    obtain ⟨T73, X73, e73, st73⟩ := getF X68 hx hZ hown (host := "") (Or.inl (hw _ (List.mem_of_getElem? (i := 25) rfl))) Via.refl e68 F_field_ra0 (g := (mkF m 11 #[.val (.ref ra0)] [(.ref ra0)])) rfl rfl (hb hby d6_11)
    have k74 := fun (t : State) (kk : Steps p.tables e below (T73.setTop (mkF m 14 #[.val (.ref ra0)] [(.int w_field_ra0)])) t) => k72 t (st73 _ kk)
    have k77 := fun (t : State) (kk : Steps p.tables e below (T73.setTop (mkF m 25 #[.val (.ref ra0)] [(.int (v6_17_s0 w_field_ra0))])) t) => k74 t (by
      show Steps p.tables e below (T73.setTop (mkF m 14 #[.val (.ref ra0)] [(.int w_field_ra0)])) _
      refine XS.sipush X73.here hx rfl (hb hby d6_14) ?_
      suffices k76 : Steps p.tables e below (T73.setTop (mkF m 25 #[.val (.ref ra0)] [(.int (v6_17_s0 w_field_ra0))])) t by
        by_cases hc17_75 : w_field_ra0 = (4095 : Int32)
        · rw [(show (v6_17_s0 w_field_ra0) = (0 : Int32) from if_pos hc17_75)] at k76
          show Steps p.tables e below (T73.setTop (mkF m 17 #[.val (.ref ra0)] [(.int (4095 : Int32)), (.int w_field_ra0)])) _
          refine XS.icmpYes X73.here hx rfl (pc0 := 17) (pc' := 24) rfl (hb hby d6_17) rfl (teq hc17_75).1 (by decide) (by decide) ?_
          show Steps p.tables e below (T73.setTop (mkF m 24 #[.val (.ref ra0)] [])) _
          refine XS.iconst X73.here hx rfl (hb hby d6_24) ?_
          exact k76
        · rw [(show (v6_17_s0 w_field_ra0) = (1 : Int32) from if_neg hc17_75)] at k76
          show Steps p.tables e below (T73.setTop (mkF m 17 #[.val (.ref ra0)] [(.int (4095 : Int32)), (.int w_field_ra0)])) _
          refine XS.icmpNo X73.here hx rfl (hb hby d6_17) rfl (feq hc17_75).1 ?_
          show Steps p.tables e below (T73.setTop (mkF m 20 #[.val (.ref ra0)] [])) _
          refine XS.iconst X73.here hx rfl (hb hby d6_20) ?_
          show Steps p.tables e below (T73.setTop (mkF m 21 #[.val (.ref ra0)] [(.int (1 : Int32))])) _
          refine XS.goto X73.here hx rfl (pc0 := 21) (pc' := 25) rfl (hb hby d6_21) (by decide) (by decide) ?_
          exact k76
      exact kk)
    obtain ⟨fs, hr, hrun, hended, hW, hsame⟩ := X73.leave (v := some (.int (nar .boolean (v6_17_s0 w_field_ra0)))) (fun h => by rw [Bd.returns] at h; cases h)
    have hv : (v6_ret w_field_ra0) = (nar .boolean (v6_17_s0 w_field_ra0)) := (if_pos hc7_71)
    refine ⟨_, _, k77 _ ?_, hrun, hended, _, _, rfl, ?_, ⟨_, rfl⟩, hW, hsame.mono (by decide) (by decide)⟩
    · show Steps p.tables e below (T73.setTop (mkF m 25 #[.val (.ref ra0)] [(.int (v6_17_s0 w_field_ra0))])) _
      exact retN X73 hx (t := .boolean) Bd.returns (by simp) (hb hby d6_25) hr
    · show Q6 Z ra0 w_field_ra0 h0 n0 _ T73.heap _
      rw [e73]
      exact ⟨(congrArg (fun z => some (Value.int z)) hv).symm, N0, rfl⟩
  · have k78 := fun (t : State) (kk : Steps p.tables e below (T68.setTop (mkF m 25 #[.val (.ref ra0)] [(.int (0 : Int32))])) t) => k70 t (by
      show Steps p.tables e below (T68.setTop (mkF m 7 #[.val (.ref ra0)] [(.int (w_field_ra0 &&& (32768 : Int32)))])) _
      refine XS.ifYes X68.here hx rfl (pc0 := 7) (pc' := 24) rfl (hb hby d6_7) rfl ((if0 _ _).trans (feq hc7_71).2) (by decide) (by decide) ?_
      show Steps p.tables e below (T68.setTop (mkF m 24 #[.val (.ref ra0)] [])) _
      refine XS.iconst X68.here hx rfl (hb hby d6_24) ?_
      exact kk)
    obtain ⟨fs, hr, hrun, hended, hW, hsame⟩ := X68.leave (v := some (.int (0 : Int32))) (fun h => by rw [Bd.returns] at h; cases h)
    have hv : (v6_ret w_field_ra0) = (0 : Int32) := (if_neg hc7_71)
    refine ⟨_, _, k78 _ ?_, hrun, hended, _, _, rfl, ?_, ⟨_, rfl⟩, hW, hsame.mono (by decide) (by decide)⟩
    · show Steps p.tables e below (T68.setTop (mkF m 25 #[.val (.ref ra0)] [(.int (0 : Int32))])) _
      exact retN X68 hx (t := .boolean) Bd.returns (by simp) (hb hby d6_25) hr
    · show Q6 Z ra0 w_field_ra0 h0 n0 _ T68.heap _
      rw [e68]
      exact ⟨(congrArg (fun z => some (Value.int z)) hv).symm, N0, rfl⟩
theorem pd_1 : parseMethodDescriptor "(III)I" = some ⟨[.int, .int, .int], some .int⟩ := by decide +kernel
theorem pd_2 : parseMethodDescriptor "()Ljava/util/Optional;" = some ⟨[], some (.object "java/util/Optional")⟩ := by decide +kernel
theorem pd_3 : parseMethodDescriptor "(IIILjava/util/Optional;Ljava/util/Optional;Z)V" = some ⟨[.int, .int, .int, (.object "java/util/Optional"), (.object "java/util/Optional"), .boolean], none⟩ := by decide +kernel
theorem pd_4 : parseMethodDescriptor "()Z" = some ⟨[], some .boolean⟩ := by decide +kernel
def v0_9_l6 (p0 : Int32) (p1 : Int32) (p2 : Int32) : Int32 := (v1_ret p0 p1 (p2 &&& (7 : Int32)))
def v0_15_s0 (p5 : Int32) : Int32 := if (p5 &&& (1 : Int32)) = (0 : Int32) then (0 : Int32) else (1 : Int32)
def v0_79_s0 (p0 : Int32) (p1 : Int32) (p2 : Int32) : Int32 := if ((v0_9_l6 p0 p1 p2) &&& (65535 : Int32)) < (32768 : Int32) then (0 : Int32) else (1 : Int32)
def v0_94_s0 (p0 : Int32) (p1 : Int32) (p2 : Int32) : Int32 := if (v0_9_l6 p0 p1 p2) = (4095 : Int32) then (1 : Int32) else (0 : Int32)
def v0_111_s0 (p0 : Int32) (p1 : Int32) (p2 : Int32) : Int32 := if (v0_94_s0 p0 p1 p2) = (0 : Int32) then (1 : Int32) else (0 : Int32)
def v0_106_s0 (p0 : Int32) (p1 : Int32) (p2 : Int32) : Int32 := if (v0_79_s0 p0 p1 p2) = (0 : Int32) then (v0_111_s0 p0 p1 p2) else (0 : Int32)
def v0_136_s0 (p0 : Int32) (p1 : Int32) (p2 : Int32) : Int32 := if (v6_ret ((v0_9_l6 p0 p1 p2) ||| (32768 : Int32))) = (0 : Int32) then (1 : Int32) else (0 : Int32)
def v0_ret (p0 : Int32) (p1 : Int32) (p2 : Int32) : Int32 := (if (v6_ret (v0_9_l6 p0 p1 p2)) = (v0_106_s0 p0 p1 p2) then (nar .boolean (v0_136_s0 p0 p1 p2)) else (0 : Int32))
theorem own_b15 (F : Int32) : (F &&& (32768 : Int32)) = (0 : Int32) ↔ (F &&& (65535 : Int32)) < (32768 : Int32) := by
  have hm := c_mask F (65535 : Int32) 16 (by decide) (by decide)
  have q : ((2 ^ 16 : Nat) : Int) = 65536 := rfl
  rw [q] at hm
  have n : (32768 : Int32).toInt = 32768 := rfl
  rw [Int32.lt_iff_toInt_lt, hm, n, ← Int32.toBitVec_inj, Int32.toBitVec_and, show (32768 : Int32).toBitVec = BitVec.twoPow 32 15 from rfl, BitVec.and_twoPow, show (0 : Int32).toBitVec = 0#32 from rfl]
  have e : F.toInt % 65536 = ((F.toBitVec.toNat % 65536 : Nat) : Int) := by
    show F.toBitVec.toInt % 65536 = _
    rw [BitVec.toInt_eq_toNat_cond]; split <;> omega
  rw [e, BitVec.getLsbD, Nat.testBit_eq_decide_div_mod_eq]
  by_cases h : F.toBitVec.toNat / 2 ^ 15 % 2 = 1
  · rw [if_pos (decide_eq_true h)]
    constructor
    · intro x; exact absurd x (by decide)
    · intro x; exfalso; omega
  · rw [if_neg (by simpa using h)]
    constructor
    · intro _; omega
    · intro _; rfl
theorem own_or15 (F : Int32) : ¬ ((F ||| (32768 : Int32)) &&& (32768 : Int32)) = (0 : Int32) := by
  intro h
  rw [← Int32.toBitVec_inj, Int32.toBitVec_and, Int32.toBitVec_or] at h
  have := congrArg (fun z => BitVec.getLsbD z 15) h
  simp only [BitVec.getLsbD_and, BitVec.getLsbD_or] at this
  have e : (32768 : Int32).toBitVec.getLsbD 15 = true := by decide
  rw [e] at this
  simp at this
theorem own_law (p0 p1 p2 p3 p4 p5 : Int32) : (v0_ret p0 p1 p2) = 1 := by
  unfold v0_ret v0_136_s0 v0_106_s0 v0_111_s0 v0_94_s0 v0_79_s0
  generalize v0_9_l6 p0 p1 p2 = F
  have h1 : v6_ret (F ||| (32768 : Int32)) = 0 := by unfold v6_ret; exact if_neg (own_or15 F)
  rw [h1, if_pos rfl]
  refine if_pos ?_
  unfold v6_ret v6_17_s0
  have hb := own_b15 F
  by_cases h : (F &&& (32768 : Int32)) = (0 : Int32)
  · rw [if_pos h, if_pos (hb.mp h), if_pos rfl]
    by_cases h2 : F = 4095
    · rw [if_pos h2, if_pos h2, if_neg (by decide)]; rfl
    · rw [if_neg h2, if_neg h2, if_pos rfl]; rfl
  · rw [if_neg h, if_neg (fun q => h (hb.mpr q)), if_neg (by decide)]

theorem ef_rm0 (m : MethodId) (p0 : Int32) (p1 : Int32) (p2 : Int32) (p3 : Int32) (p4 : Int32) (p5 : Int32) : entryFrame m #[(.int p0), (.int p1), (.int p2), (.int p3), (.int p4), (.int p5)] maxLocals = mkF m 0 #[.val (.int p0), .val (.int p1), .val (.int p2), .val (.int p3), .val (.int p4), .val (.int p5), .unset, .unset, .unset, .unset, .unset, .unset, .unset] [] := by first | (simp [entryFrame, mkF, argsToLocals, Value.category, maxLocals]; done) | rfl
def Q0 (Z : State) (p0 : Int32) (p1 : Int32) (p2 : Int32) (p3 : Int32) (p4 : Int32) (p5 : Int32) (o_EMPTY : Addr) (h0 : Heap) (n0 : Nat) (v : Option Value) (h : Heap) (L : List Loc) : Prop := v = some (.int 1) ∧ Fr n0 L
set_option maxRecDepth 65536 in
set_option maxHeartbeats 40000000 in
theorem rm0 (l : Launch) (Z : State) (a0 : Array Value) (hw : ∀ d ∈ tables_1, d.before a0 Z = true) (ws : List Jvm.Cond) (p0 : Int32) (p1 : Int32) (p2 : Int32) (p3 : Int32) (p4 : Int32) (p5 : Int32) (o_EMPTY : Addr) (h0 : Heap) (n0 : Nat) (Z0 : n0 ≤ h0.size) (S_EMPTY : Sta Z Z.heap "java/util/Optional" "EMPTY" "Ljava/util/Optional;" (.ref o_EMPTY)) (O0 : Old Z n0 h0) :
    MetFree l x (head1 (Jvm.Cond.code x code maxLocals ret :: ws) room_1) (fun a U => a = #[(.int p0), (.int p1), (.int p2), (.int p3), (.int p4), (.int p5)] ∧ Z.Warmed39 U.vm ∧ U.heap = h0) (fun _ _ _ _ _ => True) (fun _ U o U' => ∃ v L, o = .returned v ∧ Q0 Z p0 p1 p2 p3 p4 p5 o_EMPTY h0 n0 v U'.heap L ∧ FrameEnd U o U' L room_1.cells room_1.slots) := by
  refine MetFree.of_bodySF (plainFor_of_name pn_51) hisR ?_
  intro p e s m args below meth c s₁ Bd hml0 hP hK
  obtain ⟨rfl, hZ, hh⟩ := hP
  have hx := Bd.exec
  have hby := Bd.bytes
  have hml : c.maxLocals = 13 := hml0
  have hown : s.vm.findClass "com/example/studybridge/studybridge/codec/dicom/DimseCommandWantsResponsePinLaw" = some m.cls := findClass_of_methodNamed Bd.named
  have hnm := (name_of_methodNamed Bd.named Bd.method).1
  have X0 : Stand p l e room_1 s m #[(.int p0), (.int p1), (.int p2), (.int p3), (.int p4), (.int p5)] below meth c s₁ [] 0 0 := Stand.of_body Bd
  have e0 : s₁.heap = h0 := by rw [← hh, Bd.state]; rfl
  have N0 := Fr.nil n0
  have KC0 := Keep.refl h0 ([] : List Addr)
  have pre0 : ∀ t, Steps p.tables e below (s₁.setTop (mkF m 0 #[.val (.int p0), .val (.int p1), .val (.int p2), .val (.int p3), .val (.int p4), .val (.int p5), .unset, .unset, .unset, .unset, .unset, .unset, .unset] [])) t → Steps p.tables e below (s₁.setTop (entryFrame m #[(.int p0), (.int p1), (.int p2), (.int p3), (.int p4), (.int p5)] maxLocals)) t := fun t k => castTop (ef_rm0 m p0 p1 p2 p3 p4 p5) k
  have k79 := fun (t : State) (kk : Steps p.tables e below (s₁.setTop (mkF m 6 #[.val (.int p0), .val (.int p1), .val (.int p2), .val (.int p3), .val (.int p4), .val (.int p5), .unset, .unset, .unset, .unset, .unset, .unset, .unset] [(.int (p2 &&& (7 : Int32))), (.int p1), (.int p0)])) t) => pre0 t (by
    show Steps p.tables e below (s₁.setTop (mkF m 0 #[.val (.int p0), .val (.int p1), .val (.int p2), .val (.int p3), .val (.int p4), .val (.int p5), .unset, .unset, .unset, .unset, .unset, .unset, .unset] [])) _
    refine XS.iloadN X0.here hx rfl (hb hby at_0) rfl ?_
    show Steps p.tables e below (s₁.setTop (mkF m 1 #[.val (.int p0), .val (.int p1), .val (.int p2), .val (.int p3), .val (.int p4), .val (.int p5), .unset, .unset, .unset, .unset, .unset, .unset, .unset] [(.int p0)])) _
    refine XS.iloadN X0.here hx rfl (hb hby at_1) rfl ?_
    show Steps p.tables e below (s₁.setTop (mkF m 2 #[.val (.int p0), .val (.int p1), .val (.int p2), .val (.int p3), .val (.int p4), .val (.int p5), .unset, .unset, .unset, .unset, .unset, .unset, .unset] [(.int p1), (.int p0)])) _
    refine XS.iloadN X0.here hx rfl (hb hby at_2) rfl ?_
    show Steps p.tables e below (s₁.setTop (mkF m 3 #[.val (.int p0), .val (.int p1), .val (.int p2), .val (.int p3), .val (.int p4), .val (.int p5), .unset, .unset, .unset, .unset, .unset, .unset, .unset] [(.int p2), (.int p1), (.int p0)])) _
    refine XS.bipush X0.here hx rfl (hb hby at_3) ?_
    show Steps p.tables e below (s₁.setTop (mkF m 5 #[.val (.int p0), .val (.int p1), .val (.int p2), .val (.int p3), .val (.int p4), .val (.int p5), .unset, .unset, .unset, .unset, .unset, .unset, .unset] [(.int (7 : Int32)), (.int p2), (.int p1), (.int p0)])) _
    refine XS.iand X0.here hx rfl (hb hby at_5) rfl ?_
    exact kk)
  have Zz80 : n0 ≤ h0.size := (Nat.le_trans Z0 KC0.1)
  obtain ⟨_, _, ⟨T80, L80, k80, n80⟩, -, X80, ⟨Lc80, hQ80, l80, y80, z80⟩, st80⟩ := Jvm.LawKit.callS X0 hx (y := (⟨"com/example/studybridge/studybridge/codec/dicom/DimseCommandWantsResponsePinLaw", "pickField", "(III)I"⟩ : MethodName)) hown (mvT hZ (hw _ (List.mem_of_getElem? (i := 0) rfl))) (mvT hZ (hw _ (List.mem_of_getElem? (i := 1) rfl))) (mvT hZ (hw _ (List.mem_of_getElem? (i := 2) rfl))) (mvT hZ (hw _ (List.mem_of_getElem? (i := 3) rfl))) (by decide) (backOf (W := 0) (rm1 l Z a0 hw [] p0 p1 (p2 &&& (7 : Int32)) h0 n0 Zz80) hZ (hw _ (List.mem_of_getElem? (i := 3) rfl)) (hw _ (List.mem_of_getElem? (i := 2) rfl)) (by decide) (by decide)) (g := (mkF m 6 #[.val (.int p0), .val (.int p1), .val (.int p2), .val (.int p3), .val (.int p4), .val (.int p5), .unset, .unset, .unset, .unset, .unset, .unset, .unset] [(.int (p2 &&& (7 : Int32))), (.int p1), (.int p0)])) rfl (by rw [hml]; rfl) (argsL := [(.int p0), (.int p1), (.int (p2 &&& (7 : Int32)))]) (rest := []) (lenOf pd_1 rfl) rfl (by show 2 * 0 + _ ≤ _; exact Nat.le_of_eq rfl) (hb hby at_6) (fun _ _ => ⟨rfl, e0, (by decide : 0 + 0 ≤ _), (by decide : 0 + 0 ≤ _)⟩)
  dsimp only [Pt.U, Pt.locs, Pt.cells, Pt.slots] at X80 l80 y80 z80 st80 hQ80
  subst l80 y80 z80
  obtain ⟨rfl, N80q, e80⟩ := hQ80
  have N80 := Fr.app N0 N80q
  have k81 := fun (t : State) (kk : Steps p.tables e below (T80.setTop (mkF m 9 #[.val (.int p0), .val (.int p1), .val (.int p2), .val (.int p3), .val (.int p4), .val (.int p5), .unset, .unset, .unset, .unset, .unset, .unset, .unset] [(.int (v1_ret p0 p1 (p2 &&& (7 : Int32))))])) t) => k79 t (st80 _ kk)
  have k84 := fun (t : State) (kk : Steps p.tables e below (T80.setTop (mkF m 25 #[.val (.int p0), .val (.int p1), .val (.int p2), .val (.int p3), .val (.int p4), .val (.int p5), .val (.int (v0_9_l6 p0 p1 p2)), .val (.int (v0_15_s0 p5)), .unset, .unset, .unset, .unset, .unset] [])) t) => k81 t (by
    show Steps p.tables e below (T80.setTop (mkF m 9 #[.val (.int p0), .val (.int p1), .val (.int p2), .val (.int p3), .val (.int p4), .val (.int p5), .unset, .unset, .unset, .unset, .unset, .unset, .unset] [(.int (v1_ret p0 p1 (p2 &&& (7 : Int32))))])) _
    refine XS.istore X80.here hx rfl (hb hby at_9) rfl (l' := #[.val (.int p0), .val (.int p1), .val (.int p2), .val (.int p3), .val (.int p4), .val (.int p5), .val (.int (v0_9_l6 p0 p1 p2)), .unset, .unset, .unset, .unset, .unset, .unset]) rfl ?_
    show Steps p.tables e below (T80.setTop (mkF m 11 #[.val (.int p0), .val (.int p1), .val (.int p2), .val (.int p3), .val (.int p4), .val (.int p5), .val (.int (v0_9_l6 p0 p1 p2)), .unset, .unset, .unset, .unset, .unset, .unset] [])) _
    refine XS.iload X80.here hx rfl (hb hby at_11) rfl ?_
    show Steps p.tables e below (T80.setTop (mkF m 13 #[.val (.int p0), .val (.int p1), .val (.int p2), .val (.int p3), .val (.int p4), .val (.int p5), .val (.int (v0_9_l6 p0 p1 p2)), .unset, .unset, .unset, .unset, .unset, .unset] [(.int p5)])) _
    refine XS.iconst X80.here hx rfl (hb hby at_13) ?_
    show Steps p.tables e below (T80.setTop (mkF m 14 #[.val (.int p0), .val (.int p1), .val (.int p2), .val (.int p3), .val (.int p4), .val (.int p5), .val (.int (v0_9_l6 p0 p1 p2)), .unset, .unset, .unset, .unset, .unset, .unset] [(.int (1 : Int32)), (.int p5)])) _
    refine XS.iand X80.here hx rfl (hb hby at_14) rfl ?_
    suffices k83 : Steps p.tables e below (T80.setTop (mkF m 23 #[.val (.int p0), .val (.int p1), .val (.int p2), .val (.int p3), .val (.int p4), .val (.int p5), .val (.int (v0_9_l6 p0 p1 p2)), .unset, .unset, .unset, .unset, .unset, .unset] [(.int (v0_15_s0 p5))])) t by
      by_cases hc15_82 : (p5 &&& (1 : Int32)) = (0 : Int32)
      · rw [(show (v0_15_s0 p5) = (0 : Int32) from if_pos hc15_82)] at k83
        show Steps p.tables e below (T80.setTop (mkF m 15 #[.val (.int p0), .val (.int p1), .val (.int p2), .val (.int p3), .val (.int p4), .val (.int p5), .val (.int (v0_9_l6 p0 p1 p2)), .unset, .unset, .unset, .unset, .unset, .unset] [(.int (p5 &&& (1 : Int32)))])) _
        refine XS.ifYes X80.here hx rfl (pc0 := 15) (pc' := 22) rfl (hb hby at_15) rfl ((if0 _ _).trans (teq hc15_82).1) (by decide) (by decide) ?_
        show Steps p.tables e below (T80.setTop (mkF m 22 #[.val (.int p0), .val (.int p1), .val (.int p2), .val (.int p3), .val (.int p4), .val (.int p5), .val (.int (v0_9_l6 p0 p1 p2)), .unset, .unset, .unset, .unset, .unset, .unset] [])) _
        refine XS.iconst X80.here hx rfl (hb hby at_22) ?_
        exact k83
      · rw [(show (v0_15_s0 p5) = (1 : Int32) from if_neg hc15_82)] at k83
        show Steps p.tables e below (T80.setTop (mkF m 15 #[.val (.int p0), .val (.int p1), .val (.int p2), .val (.int p3), .val (.int p4), .val (.int p5), .val (.int (v0_9_l6 p0 p1 p2)), .unset, .unset, .unset, .unset, .unset, .unset] [(.int (p5 &&& (1 : Int32)))])) _
        refine XS.ifNo X80.here hx rfl (hb hby at_15) rfl ((if0 _ _).trans (feq hc15_82).1) ?_
        show Steps p.tables e below (T80.setTop (mkF m 18 #[.val (.int p0), .val (.int p1), .val (.int p2), .val (.int p3), .val (.int p4), .val (.int p5), .val (.int (v0_9_l6 p0 p1 p2)), .unset, .unset, .unset, .unset, .unset, .unset] [])) _
        refine XS.iconst X80.here hx rfl (hb hby at_18) ?_
        show Steps p.tables e below (T80.setTop (mkF m 19 #[.val (.int p0), .val (.int p1), .val (.int p2), .val (.int p3), .val (.int p4), .val (.int p5), .val (.int (v0_9_l6 p0 p1 p2)), .unset, .unset, .unset, .unset, .unset, .unset] [(.int (1 : Int32))])) _
        refine XS.goto X80.here hx rfl (pc0 := 19) (pc' := 23) rfl (hb hby at_19) (by decide) (by decide) ?_
        exact k83
    show Steps p.tables e below (T80.setTop (mkF m 23 #[.val (.int p0), .val (.int p1), .val (.int p2), .val (.int p3), .val (.int p4), .val (.int p5), .val (.int (v0_9_l6 p0 p1 p2)), .unset, .unset, .unset, .unset, .unset, .unset] [(.int (v0_15_s0 p5))])) _
    refine XS.istore X80.here hx rfl (hb hby at_23) rfl (l' := #[.val (.int p0), .val (.int p1), .val (.int p2), .val (.int p3), .val (.int p4), .val (.int p5), .val (.int (v0_9_l6 p0 p1 p2)), .val (.int (v0_15_s0 p5)), .unset, .unset, .unset, .unset, .unset]) rfl ?_
    exact kk)
  obtain ⟨T85, h85, X85, e85, E85, A85, D85, -, st85⟩ := newO X80 hx hZ hown (hw _ (List.mem_of_getElem? (i := 4) rfl)) (hw _ (List.mem_of_getElem? (i := 5) rfl)) (hw _ (List.mem_of_getElem? (i := 6) rfl)) e80 (g := (mkF m 25 #[.val (.int p0), .val (.int p1), .val (.int p2), .val (.int p3), .val (.int p4), .val (.int p5), .val (.int (v0_9_l6 p0 p1 p2)), .val (.int (v0_15_s0 p5)), .unset, .unset, .unset, .unset, .unset] [])) rfl (hb hby at_25) (by decide) (by decide)
  obtain ⟨b85, g85⟩ : ∃ z, z = h0.size := ⟨_, rfl⟩
  rw [← g85] at A85 D85 st85
  have g_b85 : n0 ≤ b85 := Nat.le_trans (Nat.le_trans Z0 KC0.1) (Nat.le_of_eq g85.symm)
  have sz_b85 : h0.size ≤ b85 := Nat.le_trans KC0.1 (Nat.le_of_eq g85.symm)
  have K85 : Keep h0 h85 [] := KC0.ext E85
  have F_contextId_b85 : Fld Z h85 b85 "com/example/studybridge/studybridge/codec/dicom/DimseCommand" "contextId" "I" (.int (0 : Int32)) := D85 (Or.inr (hw _ (List.mem_of_getElem? (i := 24) rfl))) (ty := .int) (by decide)
  have F_field_b85 : Fld Z h85 b85 "com/example/studybridge/studybridge/codec/dicom/DimseCommand" "field" "I" (.int (0 : Int32)) := D85 (Or.inr (hw _ (List.mem_of_getElem? (i := 26) rfl))) (ty := .int) (by decide)
  have F_messageId_b85 : Fld Z h85 b85 "com/example/studybridge/studybridge/codec/dicom/DimseCommand" "messageId" "I" (.int (0 : Int32)) := D85 (Or.inr (hw _ (List.mem_of_getElem? (i := 28) rfl))) (ty := .int) (by decide)
  have F_sopClassUid_b85 : Fld Z h85 b85 "com/example/studybridge/studybridge/codec/dicom/DimseCommand" "sopClassUid" "Ljava/util/Optional;" .null := D85 (Or.inr (hw _ (List.mem_of_getElem? (i := 30) rfl))) (ty := (.object "java/util/Optional")) (by decide)
  have F_sopInstanceUid_b85 : Fld Z h85 b85 "com/example/studybridge/studybridge/codec/dicom/DimseCommand" "sopInstanceUid" "Ljava/util/Optional;" .null := D85 (Or.inr (hw _ (List.mem_of_getElem? (i := 32) rfl))) (ty := (.object "java/util/Optional")) (by decide)
  have F_hasDataSet_b85 : Fld Z h85 b85 "com/example/studybridge/studybridge/codec/dicom/DimseCommand" "hasDataSet" "Z" (.int (0 : Int32)) := D85 (Or.inr (hw _ (List.mem_of_getElem? (i := 34) rfl))) (ty := .boolean) (by decide)
  have k86 := fun (t : State) (kk : Steps p.tables e below (T85.setTop (mkF m 28 #[.val (.int p0), .val (.int p1), .val (.int p2), .val (.int p3), .val (.int p4), .val (.int p5), .val (.int (v0_9_l6 p0 p1 p2)), .val (.int (v0_15_s0 p5)), .unset, .unset, .unset, .unset, .unset] [(.ref b85)])) t) => k84 t (st85 _ kk)
  have k87 := fun (t : State) (kk : Steps p.tables e below (T85.setTop (mkF m 34 #[.val (.int p0), .val (.int p1), .val (.int p2), .val (.int p3), .val (.int p4), .val (.int p5), .val (.int (v0_9_l6 p0 p1 p2)), .val (.int (v0_15_s0 p5)), .unset, .unset, .unset, .unset, .unset] [(.int p4), (.int (v0_9_l6 p0 p1 p2)), (.int p3), (.ref b85), (.ref b85)])) t) => k86 t (by
    show Steps p.tables e below (T85.setTop (mkF m 28 #[.val (.int p0), .val (.int p1), .val (.int p2), .val (.int p3), .val (.int p4), .val (.int p5), .val (.int (v0_9_l6 p0 p1 p2)), .val (.int (v0_15_s0 p5)), .unset, .unset, .unset, .unset, .unset] [(.ref b85)])) _
    refine XS.dup X85.here hx rfl (hb hby at_28) rfl rfl ?_
    show Steps p.tables e below (T85.setTop (mkF m 29 #[.val (.int p0), .val (.int p1), .val (.int p2), .val (.int p3), .val (.int p4), .val (.int p5), .val (.int (v0_9_l6 p0 p1 p2)), .val (.int (v0_15_s0 p5)), .unset, .unset, .unset, .unset, .unset] [(.ref b85), (.ref b85)])) _
    refine XS.iloadN X85.here hx rfl (hb hby at_29) rfl ?_
    show Steps p.tables e below (T85.setTop (mkF m 30 #[.val (.int p0), .val (.int p1), .val (.int p2), .val (.int p3), .val (.int p4), .val (.int p5), .val (.int (v0_9_l6 p0 p1 p2)), .val (.int (v0_15_s0 p5)), .unset, .unset, .unset, .unset, .unset] [(.int p3), (.ref b85), (.ref b85)])) _
    refine XS.iload X85.here hx rfl (hb hby at_30) rfl ?_
    show Steps p.tables e below (T85.setTop (mkF m 32 #[.val (.int p0), .val (.int p1), .val (.int p2), .val (.int p3), .val (.int p4), .val (.int p5), .val (.int (v0_9_l6 p0 p1 p2)), .val (.int (v0_15_s0 p5)), .unset, .unset, .unset, .unset, .unset] [(.int (v0_9_l6 p0 p1 p2)), (.int p3), (.ref b85), (.ref b85)])) _
    refine XS.iload X85.here hx rfl (hb hby at_32) rfl ?_
    exact kk)
  have O88 := (O0.ext E85)
  have Zz89 : n0 ≤ h85.size := (Nat.le_trans Z0 K85.1)
  obtain ⟨_, _, ⟨T89, L89, k89, n89⟩, -, X89, ⟨Lc89, hQ89, l89, y89, z89⟩, st89⟩ := Jvm.LawKit.callS X85 hx (y := (⟨"java/util/Optional", "empty", "()Ljava/util/Optional;"⟩ : MethodName)) hown (mvT hZ (hw _ (List.mem_of_getElem? (i := 7) rfl))) (mvT hZ (hw _ (List.mem_of_getElem? (i := 8) rfl))) (mvT hZ (hw _ (List.mem_of_getElem? (i := 9) rfl))) (mvT hZ (hw _ (List.mem_of_getElem? (i := 10) rfl))) (by decide) (backOf (W := 5) (rm2 l Z a0 hw [] o_EMPTY h85 n0 Zz89 S_EMPTY O88) hZ (hw _ (List.mem_of_getElem? (i := 10) rfl)) (hw _ (List.mem_of_getElem? (i := 9) rfl)) (by decide) (by decide)) (g := (mkF m 34 #[.val (.int p0), .val (.int p1), .val (.int p2), .val (.int p3), .val (.int p4), .val (.int p5), .val (.int (v0_9_l6 p0 p1 p2)), .val (.int (v0_15_s0 p5)), .unset, .unset, .unset, .unset, .unset] [(.int p4), (.int (v0_9_l6 p0 p1 p2)), (.int p3), (.ref b85), (.ref b85)])) rfl (by rw [hml]; rfl) (argsL := []) (rest := [(.int p4), (.int (v0_9_l6 p0 p1 p2)), (.int p3), (.ref b85), (.ref b85)]) (lenOf pd_2 rfl) rfl (by show 2 * 0 + _ ≤ _; exact Nat.le_of_eq rfl) (hb hby at_34) (fun _ _ => ⟨rfl, e85, (by decide : 1 + 0 ≤ _), (by decide : 6 + 0 ≤ _)⟩)
  dsimp only [Pt.U, Pt.locs, Pt.cells, Pt.slots] at X89 l89 y89 z89 st89 hQ89
  subst l89 y89 z89
  obtain ⟨rfl, N89q, e89⟩ := hQ89
  have N89 := Fr.app N80 N89q
  have k90 := fun (t : State) (kk : Steps p.tables e below (T89.setTop (mkF m 37 #[.val (.int p0), .val (.int p1), .val (.int p2), .val (.int p3), .val (.int p4), .val (.int p5), .val (.int (v0_9_l6 p0 p1 p2)), .val (.int (v0_15_s0 p5)), .unset, .unset, .unset, .unset, .unset] [(.ref o_EMPTY), (.int p4), (.int (v0_9_l6 p0 p1 p2)), (.int p3), (.ref b85), (.ref b85)])) t) => k87 t (st89 _ kk)
  have Zz91 : n0 ≤ h85.size := (Nat.le_trans Z0 K85.1)
  obtain ⟨_, _, ⟨T91, L91, k91, n91⟩, -, X91, ⟨Lc91, hQ91, l91, y91, z91⟩, st91⟩ := Jvm.LawKit.callS X89 hx (y := (⟨"java/util/Optional", "empty", "()Ljava/util/Optional;"⟩ : MethodName)) hown (mvT hZ (hw _ (List.mem_of_getElem? (i := 7) rfl))) (mvT hZ (hw _ (List.mem_of_getElem? (i := 8) rfl))) (mvT hZ (hw _ (List.mem_of_getElem? (i := 9) rfl))) (mvT hZ (hw _ (List.mem_of_getElem? (i := 10) rfl))) (by decide) (backOf (W := 6) (rm2 l Z a0 hw [] o_EMPTY h85 n0 Zz91 S_EMPTY O88) hZ (hw _ (List.mem_of_getElem? (i := 10) rfl)) (hw _ (List.mem_of_getElem? (i := 9) rfl)) (by decide) (by decide)) (g := (mkF m 37 #[.val (.int p0), .val (.int p1), .val (.int p2), .val (.int p3), .val (.int p4), .val (.int p5), .val (.int (v0_9_l6 p0 p1 p2)), .val (.int (v0_15_s0 p5)), .unset, .unset, .unset, .unset, .unset] [(.ref o_EMPTY), (.int p4), (.int (v0_9_l6 p0 p1 p2)), (.int p3), (.ref b85), (.ref b85)])) rfl (by rw [hml]; rfl) (argsL := []) (rest := [(.ref o_EMPTY), (.int p4), (.int (v0_9_l6 p0 p1 p2)), (.int p3), (.ref b85), (.ref b85)]) (lenOf pd_2 rfl) rfl (by show 2 * 0 + _ ≤ _; exact Nat.le_of_eq rfl) (hb hby at_37) (fun _ _ => ⟨rfl, e89, (by decide : 1 + 0 ≤ _), (by decide : 6 + 0 ≤ _)⟩)
  dsimp only [Pt.U, Pt.locs, Pt.cells, Pt.slots] at X91 l91 y91 z91 st91 hQ91
  subst l91 y91 z91
  obtain ⟨rfl, N91q, e91⟩ := hQ91
  have N91 := Fr.app N89 N91q
  have k92 := fun (t : State) (kk : Steps p.tables e below (T91.setTop (mkF m 40 #[.val (.int p0), .val (.int p1), .val (.int p2), .val (.int p3), .val (.int p4), .val (.int p5), .val (.int (v0_9_l6 p0 p1 p2)), .val (.int (v0_15_s0 p5)), .unset, .unset, .unset, .unset, .unset] [(.ref o_EMPTY), (.ref o_EMPTY), (.int p4), (.int (v0_9_l6 p0 p1 p2)), (.int p3), (.ref b85), (.ref b85)])) t) => k90 t (st91 _ kk)
  have k93 := fun (t : State) (kk : Steps p.tables e below (T91.setTop (mkF m 42 #[.val (.int p0), .val (.int p1), .val (.int p2), .val (.int p3), .val (.int p4), .val (.int p5), .val (.int (v0_9_l6 p0 p1 p2)), .val (.int (v0_15_s0 p5)), .unset, .unset, .unset, .unset, .unset] [(.int (v0_15_s0 p5)), (.ref o_EMPTY), (.ref o_EMPTY), (.int p4), (.int (v0_9_l6 p0 p1 p2)), (.int p3), (.ref b85), (.ref b85)])) t) => k92 t (by
    show Steps p.tables e below (T91.setTop (mkF m 40 #[.val (.int p0), .val (.int p1), .val (.int p2), .val (.int p3), .val (.int p4), .val (.int p5), .val (.int (v0_9_l6 p0 p1 p2)), .val (.int (v0_15_s0 p5)), .unset, .unset, .unset, .unset, .unset] [(.ref o_EMPTY), (.ref o_EMPTY), (.int p4), (.int (v0_9_l6 p0 p1 p2)), (.int p3), (.ref b85), (.ref b85)])) _
    refine XS.iload X91.here hx rfl (hb hby at_40) rfl ?_
    exact kk)
  have Zz94 : n0 ≤ h85.size := (Nat.le_trans Z0 K85.1)
  obtain ⟨_, _, ⟨T94, L94, k94, n94⟩, -, X94, ⟨Lc94, hQ94, l94, y94, z94⟩, st94⟩ := X91.specialBack hx (y := (⟨"com/example/studybridge/studybridge/codec/dicom/DimseCommand", "<init>", "(IIILjava/util/Optional;Ljava/util/Optional;Z)V"⟩ : MethodName)) rfl hown (mvT hZ (hw _ (List.mem_of_getElem? (i := 12) rfl))) (mvT hZ (hw _ (List.mem_of_getElem? (i := 13) rfl))) (mvT hZ (hw _ (List.mem_of_getElem? (i := 14) rfl))) (by decide) (backOf (W := 1) (rm3 l Z a0 hw [] b85 p3 (v0_9_l6 p0 p1 p2) p4 o_EMPTY o_EMPTY (v0_15_s0 p5) (0 : Int32) (0 : Int32) (0 : Int32) .null .null (0 : Int32) h85 n0 Zz94 A85 F_contextId_b85 g_b85 F_field_b85 F_messageId_b85 F_sopClassUid_b85 F_sopInstanceUid_b85 F_hasDataSet_b85) hZ (hw _ (List.mem_of_getElem? (i := 14) rfl)) (hw _ (List.mem_of_getElem? (i := 6) rfl)) (by decide) (by decide)) (g := (mkF m 42 #[.val (.int p0), .val (.int p1), .val (.int p2), .val (.int p3), .val (.int p4), .val (.int p5), .val (.int (v0_9_l6 p0 p1 p2)), .val (.int (v0_15_s0 p5)), .unset, .unset, .unset, .unset, .unset] [(.int (v0_15_s0 p5)), (.ref o_EMPTY), (.ref o_EMPTY), (.int p4), (.int (v0_9_l6 p0 p1 p2)), (.int p3), (.ref b85), (.ref b85)])) rfl (by rw [hml]; rfl) (Steps.refl _) (a := b85) (argsL := [(.int p3), (.int (v0_9_l6 p0 p1 p2)), (.int p4), (.ref o_EMPTY), (.ref o_EMPTY), (.int (v0_15_s0 p5))]) (rest := [(.ref b85)]) (lenOf pd_3 rfl) rfl (by show 2 * 0 + _ ≤ _; exact Nat.le_of_eq rfl) (hb hby at_42) (fun _ _ => ⟨rfl, e91, (by decide : 1 + 0 ≤ _), (by decide : 6 + 0 ≤ _)⟩)
  dsimp only [Pt.U, Pt.locs, Pt.cells, Pt.slots] at X94 l94 y94 z94 st94 hQ94
  subst l94 y94 z94
  obtain ⟨rfl, N94q, Kq94, Eq94_0, Fq94_0, Fq94_1, Fq94_2, Fq94_3, Fq94_4, Fq94_5⟩ := hQ94
  have K94 : Keep h0 T94.heap [] := K85.trans Kq94 (allS (Or.inr sz_b85) all0)
  have N94 := Fr.app N91 N94q
  have k95 := fun (t : State) (kk : Steps p.tables e below (T94.setTop (mkF m 45 #[.val (.int p0), .val (.int p1), .val (.int p2), .val (.int p3), .val (.int p4), .val (.int p5), .val (.int (v0_9_l6 p0 p1 p2)), .val (.int (v0_15_s0 p5)), .unset, .unset, .unset, .unset, .unset] [(.ref b85)])) t) => k93 t (st94.trans kk)
  have k96 := fun (t : State) (kk : Steps p.tables e below (T94.setTop (mkF m 47 #[.val (.int p0), .val (.int p1), .val (.int p2), .val (.int p3), .val (.int p4), .val (.int p5), .val (.int (v0_9_l6 p0 p1 p2)), .val (.int (v0_15_s0 p5)), .val (.ref b85), .unset, .unset, .unset, .unset] [])) t) => k95 t (by
    show Steps p.tables e below (T94.setTop (mkF m 45 #[.val (.int p0), .val (.int p1), .val (.int p2), .val (.int p3), .val (.int p4), .val (.int p5), .val (.int (v0_9_l6 p0 p1 p2)), .val (.int (v0_15_s0 p5)), .unset, .unset, .unset, .unset, .unset] [(.ref b85)])) _
    refine XS.astore X94.here hx rfl (hb hby at_45) rfl rfl (l' := #[.val (.int p0), .val (.int p1), .val (.int p2), .val (.int p3), .val (.int p4), .val (.int p5), .val (.int (v0_9_l6 p0 p1 p2)), .val (.int (v0_15_s0 p5)), .val (.ref b85), .unset, .unset, .unset, .unset]) rfl ?_
    exact kk)
  obtain ⟨T97, h97, X97, e97, E97, A97, D97, -, st97⟩ := newO X94 hx hZ hown (hw _ (List.mem_of_getElem? (i := 4) rfl)) (hw _ (List.mem_of_getElem? (i := 5) rfl)) (hw _ (List.mem_of_getElem? (i := 6) rfl)) rfl (g := (mkF m 47 #[.val (.int p0), .val (.int p1), .val (.int p2), .val (.int p3), .val (.int p4), .val (.int p5), .val (.int (v0_9_l6 p0 p1 p2)), .val (.int (v0_15_s0 p5)), .val (.ref b85), .unset, .unset, .unset, .unset] [])) rfl (hb hby at_47) (by decide) (by decide)
  obtain ⟨b97, g97⟩ : ∃ z, z = T94.heap.size := ⟨_, rfl⟩
  rw [← g97] at A97 D97 st97
  have ne_b85_b97 : b85 ≠ b97 := Nat.ne_of_lt (Nat.lt_of_lt_of_le Eq94_0.lt (Nat.le_of_eq g97.symm))
  have g_b97 : n0 ≤ b97 := Nat.le_trans (Nat.le_trans Z0 K94.1) (Nat.le_of_eq g97.symm)
  have sz_b97 : h0.size ≤ b97 := Nat.le_trans K94.1 (Nat.le_of_eq g97.symm)
  have K97 : Keep h0 h97 [] := K94.ext E97
  have F_contextId_b97 : Fld Z h97 b97 "com/example/studybridge/studybridge/codec/dicom/DimseCommand" "contextId" "I" (.int (0 : Int32)) := D97 (Or.inr (hw _ (List.mem_of_getElem? (i := 24) rfl))) (ty := .int) (by decide)
  have F_field_b97 : Fld Z h97 b97 "com/example/studybridge/studybridge/codec/dicom/DimseCommand" "field" "I" (.int (0 : Int32)) := D97 (Or.inr (hw _ (List.mem_of_getElem? (i := 26) rfl))) (ty := .int) (by decide)
  have F_messageId_b97 : Fld Z h97 b97 "com/example/studybridge/studybridge/codec/dicom/DimseCommand" "messageId" "I" (.int (0 : Int32)) := D97 (Or.inr (hw _ (List.mem_of_getElem? (i := 28) rfl))) (ty := .int) (by decide)
  have F_sopClassUid_b97 : Fld Z h97 b97 "com/example/studybridge/studybridge/codec/dicom/DimseCommand" "sopClassUid" "Ljava/util/Optional;" .null := D97 (Or.inr (hw _ (List.mem_of_getElem? (i := 30) rfl))) (ty := (.object "java/util/Optional")) (by decide)
  have F_sopInstanceUid_b97 : Fld Z h97 b97 "com/example/studybridge/studybridge/codec/dicom/DimseCommand" "sopInstanceUid" "Ljava/util/Optional;" .null := D97 (Or.inr (hw _ (List.mem_of_getElem? (i := 32) rfl))) (ty := (.object "java/util/Optional")) (by decide)
  have F_hasDataSet_b97 : Fld Z h97 b97 "com/example/studybridge/studybridge/codec/dicom/DimseCommand" "hasDataSet" "Z" (.int (0 : Int32)) := D97 (Or.inr (hw _ (List.mem_of_getElem? (i := 34) rfl))) (ty := .boolean) (by decide)
  have k98 := fun (t : State) (kk : Steps p.tables e below (T97.setTop (mkF m 50 #[.val (.int p0), .val (.int p1), .val (.int p2), .val (.int p3), .val (.int p4), .val (.int p5), .val (.int (v0_9_l6 p0 p1 p2)), .val (.int (v0_15_s0 p5)), .val (.ref b85), .unset, .unset, .unset, .unset] [(.ref b97)])) t) => k96 t (st97 _ kk)
  have k99 := fun (t : State) (kk : Steps p.tables e below (T97.setTop (mkF m 59 #[.val (.int p0), .val (.int p1), .val (.int p2), .val (.int p3), .val (.int p4), .val (.int p5), .val (.int (v0_9_l6 p0 p1 p2)), .val (.int (v0_15_s0 p5)), .val (.ref b85), .unset, .unset, .unset, .unset] [(.int p4), (.int ((v0_9_l6 p0 p1 p2) ||| (32768 : Int32))), (.int p3), (.ref b97), (.ref b97)])) t) => k98 t (by
    show Steps p.tables e below (T97.setTop (mkF m 50 #[.val (.int p0), .val (.int p1), .val (.int p2), .val (.int p3), .val (.int p4), .val (.int p5), .val (.int (v0_9_l6 p0 p1 p2)), .val (.int (v0_15_s0 p5)), .val (.ref b85), .unset, .unset, .unset, .unset] [(.ref b97)])) _
    refine XS.dup X97.here hx rfl (hb hby at_50) rfl rfl ?_
    show Steps p.tables e below (T97.setTop (mkF m 51 #[.val (.int p0), .val (.int p1), .val (.int p2), .val (.int p3), .val (.int p4), .val (.int p5), .val (.int (v0_9_l6 p0 p1 p2)), .val (.int (v0_15_s0 p5)), .val (.ref b85), .unset, .unset, .unset, .unset] [(.ref b97), (.ref b97)])) _
    refine XS.iloadN X97.here hx rfl (hb hby at_51) rfl ?_
    show Steps p.tables e below (T97.setTop (mkF m 52 #[.val (.int p0), .val (.int p1), .val (.int p2), .val (.int p3), .val (.int p4), .val (.int p5), .val (.int (v0_9_l6 p0 p1 p2)), .val (.int (v0_15_s0 p5)), .val (.ref b85), .unset, .unset, .unset, .unset] [(.int p3), (.ref b97), (.ref b97)])) _
    refine XS.iload X97.here hx rfl (hb hby at_52) rfl ?_
    show Steps p.tables e below (T97.setTop (mkF m 54 #[.val (.int p0), .val (.int p1), .val (.int p2), .val (.int p3), .val (.int p4), .val (.int p5), .val (.int (v0_9_l6 p0 p1 p2)), .val (.int (v0_15_s0 p5)), .val (.ref b85), .unset, .unset, .unset, .unset] [(.int (v0_9_l6 p0 p1 p2)), (.int p3), (.ref b97), (.ref b97)])) _
    refine X97.ldcInt hx hown (mvT hZ (hw _ (List.mem_of_getElem? (i := 35) rfl))) (g := (mkF m 54 #[.val (.int p0), .val (.int p1), .val (.int p2), .val (.int p3), .val (.int p4), .val (.int p5), .val (.int (v0_9_l6 p0 p1 p2)), .val (.int (v0_15_s0 p5)), .val (.ref b85), .unset, .unset, .unset, .unset] [(.int (v0_9_l6 p0 p1 p2)), (.int p3), (.ref b97), (.ref b97)])) rfl (hb hby at_54) _ ?_
    show Steps p.tables e below (T97.setTop (mkF m 56 #[.val (.int p0), .val (.int p1), .val (.int p2), .val (.int p3), .val (.int p4), .val (.int p5), .val (.int (v0_9_l6 p0 p1 p2)), .val (.int (v0_15_s0 p5)), .val (.ref b85), .unset, .unset, .unset, .unset] [(.int (32768 : Int32)), (.int (v0_9_l6 p0 p1 p2)), (.int p3), (.ref b97), (.ref b97)])) _
    refine XS.ior X97.here hx rfl (hb hby at_56) rfl ?_
    show Steps p.tables e below (T97.setTop (mkF m 57 #[.val (.int p0), .val (.int p1), .val (.int p2), .val (.int p3), .val (.int p4), .val (.int p5), .val (.int (v0_9_l6 p0 p1 p2)), .val (.int (v0_15_s0 p5)), .val (.ref b85), .unset, .unset, .unset, .unset] [(.int ((v0_9_l6 p0 p1 p2) ||| (32768 : Int32))), (.int p3), (.ref b97), (.ref b97)])) _
    refine XS.iload X97.here hx rfl (hb hby at_57) rfl ?_
    exact kk)
  have O100 := ((O88.keep Kq94 (allS g_b85 all0)).ext E97)
  have Zz101 : n0 ≤ h97.size := (Nat.le_trans Z0 K97.1)
  obtain ⟨_, _, ⟨T101, L101, k101, n101⟩, -, X101, ⟨Lc101, hQ101, l101, y101, z101⟩, st101⟩ := Jvm.LawKit.callS X97 hx (y := (⟨"java/util/Optional", "empty", "()Ljava/util/Optional;"⟩ : MethodName)) hown (mvT hZ (hw _ (List.mem_of_getElem? (i := 7) rfl))) (mvT hZ (hw _ (List.mem_of_getElem? (i := 8) rfl))) (mvT hZ (hw _ (List.mem_of_getElem? (i := 9) rfl))) (mvT hZ (hw _ (List.mem_of_getElem? (i := 10) rfl))) (by decide) (backOf (W := 5) (rm2 l Z a0 hw [] o_EMPTY h97 n0 Zz101 S_EMPTY O100) hZ (hw _ (List.mem_of_getElem? (i := 10) rfl)) (hw _ (List.mem_of_getElem? (i := 9) rfl)) (by decide) (by decide)) (g := (mkF m 59 #[.val (.int p0), .val (.int p1), .val (.int p2), .val (.int p3), .val (.int p4), .val (.int p5), .val (.int (v0_9_l6 p0 p1 p2)), .val (.int (v0_15_s0 p5)), .val (.ref b85), .unset, .unset, .unset, .unset] [(.int p4), (.int ((v0_9_l6 p0 p1 p2) ||| (32768 : Int32))), (.int p3), (.ref b97), (.ref b97)])) rfl (by rw [hml]; rfl) (argsL := []) (rest := [(.int p4), (.int ((v0_9_l6 p0 p1 p2) ||| (32768 : Int32))), (.int p3), (.ref b97), (.ref b97)]) (lenOf pd_2 rfl) rfl (by show 2 * 0 + _ ≤ _; exact Nat.le_of_eq rfl) (hb hby at_59) (fun _ _ => ⟨rfl, e97, (by decide : 2 + 0 ≤ _), (by decide : 12 + 0 ≤ _)⟩)
  dsimp only [Pt.U, Pt.locs, Pt.cells, Pt.slots] at X101 l101 y101 z101 st101 hQ101
  subst l101 y101 z101
  obtain ⟨rfl, N101q, e101⟩ := hQ101
  have N101 := Fr.app N94 N101q
  have k102 := fun (t : State) (kk : Steps p.tables e below (T101.setTop (mkF m 62 #[.val (.int p0), .val (.int p1), .val (.int p2), .val (.int p3), .val (.int p4), .val (.int p5), .val (.int (v0_9_l6 p0 p1 p2)), .val (.int (v0_15_s0 p5)), .val (.ref b85), .unset, .unset, .unset, .unset] [(.ref o_EMPTY), (.int p4), (.int ((v0_9_l6 p0 p1 p2) ||| (32768 : Int32))), (.int p3), (.ref b97), (.ref b97)])) t) => k99 t (st101 _ kk)
  have Zz103 : n0 ≤ h97.size := (Nat.le_trans Z0 K97.1)
  obtain ⟨_, _, ⟨T103, L103, k103, n103⟩, -, X103, ⟨Lc103, hQ103, l103, y103, z103⟩, st103⟩ := Jvm.LawKit.callS X101 hx (y := (⟨"java/util/Optional", "empty", "()Ljava/util/Optional;"⟩ : MethodName)) hown (mvT hZ (hw _ (List.mem_of_getElem? (i := 7) rfl))) (mvT hZ (hw _ (List.mem_of_getElem? (i := 8) rfl))) (mvT hZ (hw _ (List.mem_of_getElem? (i := 9) rfl))) (mvT hZ (hw _ (List.mem_of_getElem? (i := 10) rfl))) (by decide) (backOf (W := 6) (rm2 l Z a0 hw [] o_EMPTY h97 n0 Zz103 S_EMPTY O100) hZ (hw _ (List.mem_of_getElem? (i := 10) rfl)) (hw _ (List.mem_of_getElem? (i := 9) rfl)) (by decide) (by decide)) (g := (mkF m 62 #[.val (.int p0), .val (.int p1), .val (.int p2), .val (.int p3), .val (.int p4), .val (.int p5), .val (.int (v0_9_l6 p0 p1 p2)), .val (.int (v0_15_s0 p5)), .val (.ref b85), .unset, .unset, .unset, .unset] [(.ref o_EMPTY), (.int p4), (.int ((v0_9_l6 p0 p1 p2) ||| (32768 : Int32))), (.int p3), (.ref b97), (.ref b97)])) rfl (by rw [hml]; rfl) (argsL := []) (rest := [(.ref o_EMPTY), (.int p4), (.int ((v0_9_l6 p0 p1 p2) ||| (32768 : Int32))), (.int p3), (.ref b97), (.ref b97)]) (lenOf pd_2 rfl) rfl (by show 2 * 0 + _ ≤ _; exact Nat.le_of_eq rfl) (hb hby at_62) (fun _ _ => ⟨rfl, e101, (by decide : 2 + 0 ≤ _), (by decide : 12 + 0 ≤ _)⟩)
  dsimp only [Pt.U, Pt.locs, Pt.cells, Pt.slots] at X103 l103 y103 z103 st103 hQ103
  subst l103 y103 z103
  obtain ⟨rfl, N103q, e103⟩ := hQ103
  have N103 := Fr.app N101 N103q
  have k104 := fun (t : State) (kk : Steps p.tables e below (T103.setTop (mkF m 65 #[.val (.int p0), .val (.int p1), .val (.int p2), .val (.int p3), .val (.int p4), .val (.int p5), .val (.int (v0_9_l6 p0 p1 p2)), .val (.int (v0_15_s0 p5)), .val (.ref b85), .unset, .unset, .unset, .unset] [(.ref o_EMPTY), (.ref o_EMPTY), (.int p4), (.int ((v0_9_l6 p0 p1 p2) ||| (32768 : Int32))), (.int p3), (.ref b97), (.ref b97)])) t) => k102 t (st103 _ kk)
  have k105 := fun (t : State) (kk : Steps p.tables e below (T103.setTop (mkF m 67 #[.val (.int p0), .val (.int p1), .val (.int p2), .val (.int p3), .val (.int p4), .val (.int p5), .val (.int (v0_9_l6 p0 p1 p2)), .val (.int (v0_15_s0 p5)), .val (.ref b85), .unset, .unset, .unset, .unset] [(.int (v0_15_s0 p5)), (.ref o_EMPTY), (.ref o_EMPTY), (.int p4), (.int ((v0_9_l6 p0 p1 p2) ||| (32768 : Int32))), (.int p3), (.ref b97), (.ref b97)])) t) => k104 t (by
    show Steps p.tables e below (T103.setTop (mkF m 65 #[.val (.int p0), .val (.int p1), .val (.int p2), .val (.int p3), .val (.int p4), .val (.int p5), .val (.int (v0_9_l6 p0 p1 p2)), .val (.int (v0_15_s0 p5)), .val (.ref b85), .unset, .unset, .unset, .unset] [(.ref o_EMPTY), (.ref o_EMPTY), (.int p4), (.int ((v0_9_l6 p0 p1 p2) ||| (32768 : Int32))), (.int p3), (.ref b97), (.ref b97)])) _
    refine XS.iload X103.here hx rfl (hb hby at_65) rfl ?_
    exact kk)
  have Zz106 : n0 ≤ h97.size := (Nat.le_trans Z0 K97.1)
  obtain ⟨_, _, ⟨T106, L106, k106, n106⟩, -, X106, ⟨Lc106, hQ106, l106, y106, z106⟩, st106⟩ := X103.specialBack hx (y := (⟨"com/example/studybridge/studybridge/codec/dicom/DimseCommand", "<init>", "(IIILjava/util/Optional;Ljava/util/Optional;Z)V"⟩ : MethodName)) rfl hown (mvT hZ (hw _ (List.mem_of_getElem? (i := 12) rfl))) (mvT hZ (hw _ (List.mem_of_getElem? (i := 13) rfl))) (mvT hZ (hw _ (List.mem_of_getElem? (i := 14) rfl))) (by decide) (backOf (W := 1) (rm3 l Z a0 hw [] b97 p3 ((v0_9_l6 p0 p1 p2) ||| (32768 : Int32)) p4 o_EMPTY o_EMPTY (v0_15_s0 p5) (0 : Int32) (0 : Int32) (0 : Int32) .null .null (0 : Int32) h97 n0 Zz106 A97 F_contextId_b97 g_b97 F_field_b97 F_messageId_b97 F_sopClassUid_b97 F_sopInstanceUid_b97 F_hasDataSet_b97) hZ (hw _ (List.mem_of_getElem? (i := 14) rfl)) (hw _ (List.mem_of_getElem? (i := 6) rfl)) (by decide) (by decide)) (g := (mkF m 67 #[.val (.int p0), .val (.int p1), .val (.int p2), .val (.int p3), .val (.int p4), .val (.int p5), .val (.int (v0_9_l6 p0 p1 p2)), .val (.int (v0_15_s0 p5)), .val (.ref b85), .unset, .unset, .unset, .unset] [(.int (v0_15_s0 p5)), (.ref o_EMPTY), (.ref o_EMPTY), (.int p4), (.int ((v0_9_l6 p0 p1 p2) ||| (32768 : Int32))), (.int p3), (.ref b97), (.ref b97)])) rfl (by rw [hml]; rfl) (Steps.refl _) (a := b97) (argsL := [(.int p3), (.int ((v0_9_l6 p0 p1 p2) ||| (32768 : Int32))), (.int p4), (.ref o_EMPTY), (.ref o_EMPTY), (.int (v0_15_s0 p5))]) (rest := [(.ref b97)]) (lenOf pd_3 rfl) rfl (by show 2 * 0 + _ ≤ _; exact Nat.le_of_eq rfl) (hb hby at_67) (fun _ _ => ⟨rfl, e103, (by decide : 2 + 0 ≤ _), (by decide : 12 + 0 ≤ _)⟩)
  dsimp only [Pt.U, Pt.locs, Pt.cells, Pt.slots] at X106 l106 y106 z106 st106 hQ106
  subst l106 y106 z106
  obtain ⟨rfl, N106q, Kq106, Eq106_0, Fq106_0, Fq106_1, Fq106_2, Fq106_3, Fq106_4, Fq106_5⟩ := hQ106
  have K106 : Keep h0 T106.heap [] := K97.trans Kq106 (allS (Or.inr sz_b97) all0)
  have N106 := Fr.app N103 N106q
  have k107 := fun (t : State) (kk : Steps p.tables e below (T106.setTop (mkF m 70 #[.val (.int p0), .val (.int p1), .val (.int p2), .val (.int p3), .val (.int p4), .val (.int p5), .val (.int (v0_9_l6 p0 p1 p2)), .val (.int (v0_15_s0 p5)), .val (.ref b85), .unset, .unset, .unset, .unset] [(.ref b97)])) t) => k105 t (st106.trans kk)
  have k116 := fun (t : State) (kk : Steps p.tables e below (T106.setTop (mkF m 123 #[.val (.int p0), .val (.int p1), .val (.int p2), .val (.int p3), .val (.int p4), .val (.int p5), .val (.int (v0_9_l6 p0 p1 p2)), .val (.int (v0_15_s0 p5)), .val (.ref b85), .val (.ref b97), .val (.int (v0_79_s0 p0 p1 p2)), .val (.int (v0_94_s0 p0 p1 p2)), .val (.int (v0_106_s0 p0 p1 p2))] [(.ref b85)])) t) => k107 t (by
    show Steps p.tables e below (T106.setTop (mkF m 70 #[.val (.int p0), .val (.int p1), .val (.int p2), .val (.int p3), .val (.int p4), .val (.int p5), .val (.int (v0_9_l6 p0 p1 p2)), .val (.int (v0_15_s0 p5)), .val (.ref b85), .unset, .unset, .unset, .unset] [(.ref b97)])) _
    refine XS.astore X106.here hx rfl (hb hby at_70) rfl rfl (l' := #[.val (.int p0), .val (.int p1), .val (.int p2), .val (.int p3), .val (.int p4), .val (.int p5), .val (.int (v0_9_l6 p0 p1 p2)), .val (.int (v0_15_s0 p5)), .val (.ref b85), .val (.ref b97), .unset, .unset, .unset]) rfl ?_
    show Steps p.tables e below (T106.setTop (mkF m 72 #[.val (.int p0), .val (.int p1), .val (.int p2), .val (.int p3), .val (.int p4), .val (.int p5), .val (.int (v0_9_l6 p0 p1 p2)), .val (.int (v0_15_s0 p5)), .val (.ref b85), .val (.ref b97), .unset, .unset, .unset] [])) _
    refine XS.iload X106.here hx rfl (hb hby at_72) rfl ?_
    show Steps p.tables e below (T106.setTop (mkF m 74 #[.val (.int p0), .val (.int p1), .val (.int p2), .val (.int p3), .val (.int p4), .val (.int p5), .val (.int (v0_9_l6 p0 p1 p2)), .val (.int (v0_15_s0 p5)), .val (.ref b85), .val (.ref b97), .unset, .unset, .unset] [(.int (v0_9_l6 p0 p1 p2))])) _
    refine X106.ldcInt hx hown (mvT hZ (hw _ (List.mem_of_getElem? (i := 36) rfl))) (g := (mkF m 74 #[.val (.int p0), .val (.int p1), .val (.int p2), .val (.int p3), .val (.int p4), .val (.int p5), .val (.int (v0_9_l6 p0 p1 p2)), .val (.int (v0_15_s0 p5)), .val (.ref b85), .val (.ref b97), .unset, .unset, .unset] [(.int (v0_9_l6 p0 p1 p2))])) rfl (hb hby at_74) _ ?_
    show Steps p.tables e below (T106.setTop (mkF m 76 #[.val (.int p0), .val (.int p1), .val (.int p2), .val (.int p3), .val (.int p4), .val (.int p5), .val (.int (v0_9_l6 p0 p1 p2)), .val (.int (v0_15_s0 p5)), .val (.ref b85), .val (.ref b97), .unset, .unset, .unset] [(.int (65535 : Int32)), (.int (v0_9_l6 p0 p1 p2))])) _
    refine XS.iand X106.here hx rfl (hb hby at_76) rfl ?_
    show Steps p.tables e below (T106.setTop (mkF m 77 #[.val (.int p0), .val (.int p1), .val (.int p2), .val (.int p3), .val (.int p4), .val (.int p5), .val (.int (v0_9_l6 p0 p1 p2)), .val (.int (v0_15_s0 p5)), .val (.ref b85), .val (.ref b97), .unset, .unset, .unset] [(.int ((v0_9_l6 p0 p1 p2) &&& (65535 : Int32)))])) _
    refine X106.ldcInt hx hown (mvT hZ (hw _ (List.mem_of_getElem? (i := 35) rfl))) (g := (mkF m 77 #[.val (.int p0), .val (.int p1), .val (.int p2), .val (.int p3), .val (.int p4), .val (.int p5), .val (.int (v0_9_l6 p0 p1 p2)), .val (.int (v0_15_s0 p5)), .val (.ref b85), .val (.ref b97), .unset, .unset, .unset] [(.int ((v0_9_l6 p0 p1 p2) &&& (65535 : Int32)))])) rfl (hb hby at_77) _ ?_
    suffices k109 : Steps p.tables e below (T106.setTop (mkF m 87 #[.val (.int p0), .val (.int p1), .val (.int p2), .val (.int p3), .val (.int p4), .val (.int p5), .val (.int (v0_9_l6 p0 p1 p2)), .val (.int (v0_15_s0 p5)), .val (.ref b85), .val (.ref b97), .unset, .unset, .unset] [(.int (v0_79_s0 p0 p1 p2))])) t by
      by_cases hc79_108 : ((v0_9_l6 p0 p1 p2) &&& (65535 : Int32)) < (32768 : Int32)
      · rw [(show (v0_79_s0 p0 p1 p2) = (0 : Int32) from if_pos hc79_108)] at k109
        show Steps p.tables e below (T106.setTop (mkF m 79 #[.val (.int p0), .val (.int p1), .val (.int p2), .val (.int p3), .val (.int p4), .val (.int p5), .val (.int (v0_9_l6 p0 p1 p2)), .val (.int (v0_15_s0 p5)), .val (.ref b85), .val (.ref b97), .unset, .unset, .unset] [(.int (32768 : Int32)), (.int ((v0_9_l6 p0 p1 p2) &&& (65535 : Int32)))])) _
        refine XS.icmpYes X106.here hx rfl (pc0 := 79) (pc' := 86) rfl (hb hby at_79) rfl (tlt hc79_108).1 (by decide) (by decide) ?_
        show Steps p.tables e below (T106.setTop (mkF m 86 #[.val (.int p0), .val (.int p1), .val (.int p2), .val (.int p3), .val (.int p4), .val (.int p5), .val (.int (v0_9_l6 p0 p1 p2)), .val (.int (v0_15_s0 p5)), .val (.ref b85), .val (.ref b97), .unset, .unset, .unset] [])) _
        refine XS.iconst X106.here hx rfl (hb hby at_86) ?_
        exact k109
      · rw [(show (v0_79_s0 p0 p1 p2) = (1 : Int32) from if_neg hc79_108)] at k109
        show Steps p.tables e below (T106.setTop (mkF m 79 #[.val (.int p0), .val (.int p1), .val (.int p2), .val (.int p3), .val (.int p4), .val (.int p5), .val (.int (v0_9_l6 p0 p1 p2)), .val (.int (v0_15_s0 p5)), .val (.ref b85), .val (.ref b97), .unset, .unset, .unset] [(.int (32768 : Int32)), (.int ((v0_9_l6 p0 p1 p2) &&& (65535 : Int32)))])) _
        refine XS.icmpNo X106.here hx rfl (hb hby at_79) rfl (flt hc79_108).1 ?_
        show Steps p.tables e below (T106.setTop (mkF m 82 #[.val (.int p0), .val (.int p1), .val (.int p2), .val (.int p3), .val (.int p4), .val (.int p5), .val (.int (v0_9_l6 p0 p1 p2)), .val (.int (v0_15_s0 p5)), .val (.ref b85), .val (.ref b97), .unset, .unset, .unset] [])) _
        refine XS.iconst X106.here hx rfl (hb hby at_82) ?_
        show Steps p.tables e below (T106.setTop (mkF m 83 #[.val (.int p0), .val (.int p1), .val (.int p2), .val (.int p3), .val (.int p4), .val (.int p5), .val (.int (v0_9_l6 p0 p1 p2)), .val (.int (v0_15_s0 p5)), .val (.ref b85), .val (.ref b97), .unset, .unset, .unset] [(.int (1 : Int32))])) _
        refine XS.goto X106.here hx rfl (pc0 := 83) (pc' := 87) rfl (hb hby at_83) (by decide) (by decide) ?_
        exact k109
    show Steps p.tables e below (T106.setTop (mkF m 87 #[.val (.int p0), .val (.int p1), .val (.int p2), .val (.int p3), .val (.int p4), .val (.int p5), .val (.int (v0_9_l6 p0 p1 p2)), .val (.int (v0_15_s0 p5)), .val (.ref b85), .val (.ref b97), .unset, .unset, .unset] [(.int (v0_79_s0 p0 p1 p2))])) _
    refine XS.istore X106.here hx rfl (hb hby at_87) rfl (l' := #[.val (.int p0), .val (.int p1), .val (.int p2), .val (.int p3), .val (.int p4), .val (.int p5), .val (.int (v0_9_l6 p0 p1 p2)), .val (.int (v0_15_s0 p5)), .val (.ref b85), .val (.ref b97), .val (.int (v0_79_s0 p0 p1 p2)), .unset, .unset]) rfl ?_
    show Steps p.tables e below (T106.setTop (mkF m 89 #[.val (.int p0), .val (.int p1), .val (.int p2), .val (.int p3), .val (.int p4), .val (.int p5), .val (.int (v0_9_l6 p0 p1 p2)), .val (.int (v0_15_s0 p5)), .val (.ref b85), .val (.ref b97), .val (.int (v0_79_s0 p0 p1 p2)), .unset, .unset] [])) _
    refine XS.iload X106.here hx rfl (hb hby at_89) rfl ?_
    show Steps p.tables e below (T106.setTop (mkF m 91 #[.val (.int p0), .val (.int p1), .val (.int p2), .val (.int p3), .val (.int p4), .val (.int p5), .val (.int (v0_9_l6 p0 p1 p2)), .val (.int (v0_15_s0 p5)), .val (.ref b85), .val (.ref b97), .val (.int (v0_79_s0 p0 p1 p2)), .unset, .unset] [(.int (v0_9_l6 p0 p1 p2))])) _
    refine XS.sipush X106.here hx rfl (hb hby at_91) ?_
    suffices k111 : Steps p.tables e below (T106.setTop (mkF m 102 #[.val (.int p0), .val (.int p1), .val (.int p2), .val (.int p3), .val (.int p4), .val (.int p5), .val (.int (v0_9_l6 p0 p1 p2)), .val (.int (v0_15_s0 p5)), .val (.ref b85), .val (.ref b97), .val (.int (v0_79_s0 p0 p1 p2)), .unset, .unset] [(.int (v0_94_s0 p0 p1 p2))])) t by
      by_cases hc94_110 : (v0_9_l6 p0 p1 p2) = (4095 : Int32)
      · rw [(show (v0_94_s0 p0 p1 p2) = (1 : Int32) from if_pos hc94_110)] at k111
        show Steps p.tables e below (T106.setTop (mkF m 94 #[.val (.int p0), .val (.int p1), .val (.int p2), .val (.int p3), .val (.int p4), .val (.int p5), .val (.int (v0_9_l6 p0 p1 p2)), .val (.int (v0_15_s0 p5)), .val (.ref b85), .val (.ref b97), .val (.int (v0_79_s0 p0 p1 p2)), .unset, .unset] [(.int (4095 : Int32)), (.int (v0_9_l6 p0 p1 p2))])) _
        refine XS.icmpNo X106.here hx rfl (hb hby at_94) rfl (teq hc94_110).2 ?_
        show Steps p.tables e below (T106.setTop (mkF m 97 #[.val (.int p0), .val (.int p1), .val (.int p2), .val (.int p3), .val (.int p4), .val (.int p5), .val (.int (v0_9_l6 p0 p1 p2)), .val (.int (v0_15_s0 p5)), .val (.ref b85), .val (.ref b97), .val (.int (v0_79_s0 p0 p1 p2)), .unset, .unset] [])) _
        refine XS.iconst X106.here hx rfl (hb hby at_97) ?_
        show Steps p.tables e below (T106.setTop (mkF m 98 #[.val (.int p0), .val (.int p1), .val (.int p2), .val (.int p3), .val (.int p4), .val (.int p5), .val (.int (v0_9_l6 p0 p1 p2)), .val (.int (v0_15_s0 p5)), .val (.ref b85), .val (.ref b97), .val (.int (v0_79_s0 p0 p1 p2)), .unset, .unset] [(.int (1 : Int32))])) _
        refine XS.goto X106.here hx rfl (pc0 := 98) (pc' := 102) rfl (hb hby at_98) (by decide) (by decide) ?_
        exact k111
      · rw [(show (v0_94_s0 p0 p1 p2) = (0 : Int32) from if_neg hc94_110)] at k111
        show Steps p.tables e below (T106.setTop (mkF m 94 #[.val (.int p0), .val (.int p1), .val (.int p2), .val (.int p3), .val (.int p4), .val (.int p5), .val (.int (v0_9_l6 p0 p1 p2)), .val (.int (v0_15_s0 p5)), .val (.ref b85), .val (.ref b97), .val (.int (v0_79_s0 p0 p1 p2)), .unset, .unset] [(.int (4095 : Int32)), (.int (v0_9_l6 p0 p1 p2))])) _
        refine XS.icmpYes X106.here hx rfl (pc0 := 94) (pc' := 101) rfl (hb hby at_94) rfl (feq hc94_110).2 (by decide) (by decide) ?_
        show Steps p.tables e below (T106.setTop (mkF m 101 #[.val (.int p0), .val (.int p1), .val (.int p2), .val (.int p3), .val (.int p4), .val (.int p5), .val (.int (v0_9_l6 p0 p1 p2)), .val (.int (v0_15_s0 p5)), .val (.ref b85), .val (.ref b97), .val (.int (v0_79_s0 p0 p1 p2)), .unset, .unset] [])) _
        refine XS.iconst X106.here hx rfl (hb hby at_101) ?_
        exact k111
    show Steps p.tables e below (T106.setTop (mkF m 102 #[.val (.int p0), .val (.int p1), .val (.int p2), .val (.int p3), .val (.int p4), .val (.int p5), .val (.int (v0_9_l6 p0 p1 p2)), .val (.int (v0_15_s0 p5)), .val (.ref b85), .val (.ref b97), .val (.int (v0_79_s0 p0 p1 p2)), .unset, .unset] [(.int (v0_94_s0 p0 p1 p2))])) _
    refine XS.istore X106.here hx rfl (hb hby at_102) rfl (l' := #[.val (.int p0), .val (.int p1), .val (.int p2), .val (.int p3), .val (.int p4), .val (.int p5), .val (.int (v0_9_l6 p0 p1 p2)), .val (.int (v0_15_s0 p5)), .val (.ref b85), .val (.ref b97), .val (.int (v0_79_s0 p0 p1 p2)), .val (.int (v0_94_s0 p0 p1 p2)), .unset]) rfl ?_
    show Steps p.tables e below (T106.setTop (mkF m 104 #[.val (.int p0), .val (.int p1), .val (.int p2), .val (.int p3), .val (.int p4), .val (.int p5), .val (.int (v0_9_l6 p0 p1 p2)), .val (.int (v0_15_s0 p5)), .val (.ref b85), .val (.ref b97), .val (.int (v0_79_s0 p0 p1 p2)), .val (.int (v0_94_s0 p0 p1 p2)), .unset] [])) _
    refine XS.iload X106.here hx rfl (hb hby at_104) rfl ?_
    suffices k115 : Steps p.tables e below (T106.setTop (mkF m 119 #[.val (.int p0), .val (.int p1), .val (.int p2), .val (.int p3), .val (.int p4), .val (.int p5), .val (.int (v0_9_l6 p0 p1 p2)), .val (.int (v0_15_s0 p5)), .val (.ref b85), .val (.ref b97), .val (.int (v0_79_s0 p0 p1 p2)), .val (.int (v0_94_s0 p0 p1 p2)), .unset] [(.int (v0_106_s0 p0 p1 p2))])) t by
      by_cases hc106_112 : (v0_79_s0 p0 p1 p2) = (0 : Int32)
      · rw [(show (v0_106_s0 p0 p1 p2) = (v0_111_s0 p0 p1 p2) from if_pos hc106_112)] at k115
        show Steps p.tables e below (T106.setTop (mkF m 106 #[.val (.int p0), .val (.int p1), .val (.int p2), .val (.int p3), .val (.int p4), .val (.int p5), .val (.int (v0_9_l6 p0 p1 p2)), .val (.int (v0_15_s0 p5)), .val (.ref b85), .val (.ref b97), .val (.int (v0_79_s0 p0 p1 p2)), .val (.int (v0_94_s0 p0 p1 p2)), .unset] [(.int (v0_79_s0 p0 p1 p2))])) _
        refine XS.ifNo X106.here hx rfl (hb hby at_106) rfl ((if0 _ _).trans (teq hc106_112).2) ?_
        show Steps p.tables e below (T106.setTop (mkF m 109 #[.val (.int p0), .val (.int p1), .val (.int p2), .val (.int p3), .val (.int p4), .val (.int p5), .val (.int (v0_9_l6 p0 p1 p2)), .val (.int (v0_15_s0 p5)), .val (.ref b85), .val (.ref b97), .val (.int (v0_79_s0 p0 p1 p2)), .val (.int (v0_94_s0 p0 p1 p2)), .unset] [])) _
        refine XS.iload X106.here hx rfl (hb hby at_109) rfl ?_
        suffices k114 : Steps p.tables e below (T106.setTop (mkF m 119 #[.val (.int p0), .val (.int p1), .val (.int p2), .val (.int p3), .val (.int p4), .val (.int p5), .val (.int (v0_9_l6 p0 p1 p2)), .val (.int (v0_15_s0 p5)), .val (.ref b85), .val (.ref b97), .val (.int (v0_79_s0 p0 p1 p2)), .val (.int (v0_94_s0 p0 p1 p2)), .unset] [(.int (v0_111_s0 p0 p1 p2))])) t by
          by_cases hc111_113 : (v0_94_s0 p0 p1 p2) = (0 : Int32)
          · rw [(show (v0_111_s0 p0 p1 p2) = (1 : Int32) from if_pos hc111_113)] at k114
            show Steps p.tables e below (T106.setTop (mkF m 111 #[.val (.int p0), .val (.int p1), .val (.int p2), .val (.int p3), .val (.int p4), .val (.int p5), .val (.int (v0_9_l6 p0 p1 p2)), .val (.int (v0_15_s0 p5)), .val (.ref b85), .val (.ref b97), .val (.int (v0_79_s0 p0 p1 p2)), .val (.int (v0_94_s0 p0 p1 p2)), .unset] [(.int (v0_94_s0 p0 p1 p2))])) _
            refine XS.ifNo X106.here hx rfl (hb hby at_111) rfl ((if0 _ _).trans (teq hc111_113).2) ?_
            show Steps p.tables e below (T106.setTop (mkF m 114 #[.val (.int p0), .val (.int p1), .val (.int p2), .val (.int p3), .val (.int p4), .val (.int p5), .val (.int (v0_9_l6 p0 p1 p2)), .val (.int (v0_15_s0 p5)), .val (.ref b85), .val (.ref b97), .val (.int (v0_79_s0 p0 p1 p2)), .val (.int (v0_94_s0 p0 p1 p2)), .unset] [])) _
            refine XS.iconst X106.here hx rfl (hb hby at_114) ?_
            show Steps p.tables e below (T106.setTop (mkF m 115 #[.val (.int p0), .val (.int p1), .val (.int p2), .val (.int p3), .val (.int p4), .val (.int p5), .val (.int (v0_9_l6 p0 p1 p2)), .val (.int (v0_15_s0 p5)), .val (.ref b85), .val (.ref b97), .val (.int (v0_79_s0 p0 p1 p2)), .val (.int (v0_94_s0 p0 p1 p2)), .unset] [(.int (1 : Int32))])) _
            refine XS.goto X106.here hx rfl (pc0 := 115) (pc' := 119) rfl (hb hby at_115) (by decide) (by decide) ?_
            exact k114
          · rw [(show (v0_111_s0 p0 p1 p2) = (0 : Int32) from if_neg hc111_113)] at k114
            show Steps p.tables e below (T106.setTop (mkF m 111 #[.val (.int p0), .val (.int p1), .val (.int p2), .val (.int p3), .val (.int p4), .val (.int p5), .val (.int (v0_9_l6 p0 p1 p2)), .val (.int (v0_15_s0 p5)), .val (.ref b85), .val (.ref b97), .val (.int (v0_79_s0 p0 p1 p2)), .val (.int (v0_94_s0 p0 p1 p2)), .unset] [(.int (v0_94_s0 p0 p1 p2))])) _
            refine XS.ifYes X106.here hx rfl (pc0 := 111) (pc' := 118) rfl (hb hby at_111) rfl ((if0 _ _).trans (feq hc111_113).2) (by decide) (by decide) ?_
            show Steps p.tables e below (T106.setTop (mkF m 118 #[.val (.int p0), .val (.int p1), .val (.int p2), .val (.int p3), .val (.int p4), .val (.int p5), .val (.int (v0_9_l6 p0 p1 p2)), .val (.int (v0_15_s0 p5)), .val (.ref b85), .val (.ref b97), .val (.int (v0_79_s0 p0 p1 p2)), .val (.int (v0_94_s0 p0 p1 p2)), .unset] [])) _
            refine XS.iconst X106.here hx rfl (hb hby at_118) ?_
            exact k114
        exact k115
      · rw [(show (v0_106_s0 p0 p1 p2) = (0 : Int32) from if_neg hc106_112)] at k115
        show Steps p.tables e below (T106.setTop (mkF m 106 #[.val (.int p0), .val (.int p1), .val (.int p2), .val (.int p3), .val (.int p4), .val (.int p5), .val (.int (v0_9_l6 p0 p1 p2)), .val (.int (v0_15_s0 p5)), .val (.ref b85), .val (.ref b97), .val (.int (v0_79_s0 p0 p1 p2)), .val (.int (v0_94_s0 p0 p1 p2)), .unset] [(.int (v0_79_s0 p0 p1 p2))])) _
        refine XS.ifYes X106.here hx rfl (pc0 := 106) (pc' := 118) rfl (hb hby at_106) rfl ((if0 _ _).trans (feq hc106_112).2) (by decide) (by decide) ?_
        show Steps p.tables e below (T106.setTop (mkF m 118 #[.val (.int p0), .val (.int p1), .val (.int p2), .val (.int p3), .val (.int p4), .val (.int p5), .val (.int (v0_9_l6 p0 p1 p2)), .val (.int (v0_15_s0 p5)), .val (.ref b85), .val (.ref b97), .val (.int (v0_79_s0 p0 p1 p2)), .val (.int (v0_94_s0 p0 p1 p2)), .unset] [])) _
        refine XS.iconst X106.here hx rfl (hb hby at_118) ?_
        exact k115
    show Steps p.tables e below (T106.setTop (mkF m 119 #[.val (.int p0), .val (.int p1), .val (.int p2), .val (.int p3), .val (.int p4), .val (.int p5), .val (.int (v0_9_l6 p0 p1 p2)), .val (.int (v0_15_s0 p5)), .val (.ref b85), .val (.ref b97), .val (.int (v0_79_s0 p0 p1 p2)), .val (.int (v0_94_s0 p0 p1 p2)), .unset] [(.int (v0_106_s0 p0 p1 p2))])) _
    refine XS.istore X106.here hx rfl (hb hby at_119) rfl (l' := #[.val (.int p0), .val (.int p1), .val (.int p2), .val (.int p3), .val (.int p4), .val (.int p5), .val (.int (v0_9_l6 p0 p1 p2)), .val (.int (v0_15_s0 p5)), .val (.ref b85), .val (.ref b97), .val (.int (v0_79_s0 p0 p1 p2)), .val (.int (v0_94_s0 p0 p1 p2)), .val (.int (v0_106_s0 p0 p1 p2))]) rfl ?_
    show Steps p.tables e below (T106.setTop (mkF m 121 #[.val (.int p0), .val (.int p1), .val (.int p2), .val (.int p3), .val (.int p4), .val (.int p5), .val (.int (v0_9_l6 p0 p1 p2)), .val (.int (v0_15_s0 p5)), .val (.ref b85), .val (.ref b97), .val (.int (v0_79_s0 p0 p1 p2)), .val (.int (v0_94_s0 p0 p1 p2)), .val (.int (v0_106_s0 p0 p1 p2))] [])) _
    refine XS.aload X106.here hx rfl (hb hby at_121) rfl rfl ?_
    exact kk)
  have f117 := ((Fq94_1.ext E97).keep Kq106 (ninS ne_b85_b97 nin0))
  have Zz118 : n0 ≤ T106.heap.size := (Nat.le_trans Z0 K106.1)
  have f119 := ((Eq94_0.ext E97).keep Kq106)
  obtain ⟨cq118, kq118, q118a, q118b, q118c⟩ := isOf hZ rfl f119
  obtain ⟨_, _, ⟨T118, L118, k118, n118⟩, -, X118, ⟨Lc118, hQ118, l118, y118, z118⟩, st118⟩ := X106.virtualBack hx (y := (⟨"com/example/studybridge/studybridge/codec/dicom/DimseCommand", "wantsResponse", "()Z"⟩ : MethodName)) (z := (⟨"com/example/studybridge/studybridge/codec/dicom/DimseCommand", "wantsResponse", "()Z"⟩ : MethodName)) hown (mvT hZ (hw _ (List.mem_of_getElem? (i := 37) rfl))) (mvT hZ (hw _ (List.mem_of_getElem? (i := 38) rfl))) (notFace_of_selects (args := #[]) (mvT hZ (hw _ (List.mem_of_getElem? (i := 40) rfl)))) (mvT hZ (hw _ (List.mem_of_getElem? (i := 40) rfl))) (mvT hZ (hw _ (List.mem_of_getElem? (i := 39) rfl))) (by decide) (backOf (W := 0) (rm6 l Z a0 hw [] b85 (v0_9_l6 p0 p1 p2) T106.heap n0 Zz118 f117) hZ (hw _ (List.mem_of_getElem? (i := 41) rfl)) (hw _ (List.mem_of_getElem? (i := 6) rfl)) (by decide) (by decide)) q118a q118c (g := (mkF m 123 #[.val (.int p0), .val (.int p1), .val (.int p2), .val (.int p3), .val (.int p4), .val (.int p5), .val (.int (v0_9_l6 p0 p1 p2)), .val (.int (v0_15_s0 p5)), .val (.ref b85), .val (.ref b97), .val (.int (v0_79_s0 p0 p1 p2)), .val (.int (v0_94_s0 p0 p1 p2)), .val (.int (v0_106_s0 p0 p1 p2))] [(.ref b85)])) rfl (by rw [hml]; rfl) (Steps.refl _) (argsL := []) (rest := []) (lenOf pd_4 rfl) rfl (by show 2 * 0 + _ ≤ _; exact Nat.le_of_eq rfl) (hb hby at_123) (fun _ _ => ⟨rfl, rfl, (by decide : 2 + 0 ≤ _), (by decide : 12 + 0 ≤ _)⟩)
  dsimp only [Pt.U, Pt.locs, Pt.cells, Pt.slots] at X118 l118 y118 z118 st118 hQ118
  subst l118 y118 z118
  obtain ⟨rfl, N118q, e118⟩ := hQ118
  have N118 := Fr.app N106 N118q
  have k120 := fun (t : State) (kk : Steps p.tables e below (T118.setTop (mkF m 126 #[.val (.int p0), .val (.int p1), .val (.int p2), .val (.int p3), .val (.int p4), .val (.int p5), .val (.int (v0_9_l6 p0 p1 p2)), .val (.int (v0_15_s0 p5)), .val (.ref b85), .val (.ref b97), .val (.int (v0_79_s0 p0 p1 p2)), .val (.int (v0_94_s0 p0 p1 p2)), .val (.int (v0_106_s0 p0 p1 p2))] [(.int (v6_ret (v0_9_l6 p0 p1 p2)))])) t) => k116 t (st118.trans kk)
  have k121 := fun (t : State) (kk : Steps p.tables e below (T118.setTop (mkF m 128 #[.val (.int p0), .val (.int p1), .val (.int p2), .val (.int p3), .val (.int p4), .val (.int p5), .val (.int (v0_9_l6 p0 p1 p2)), .val (.int (v0_15_s0 p5)), .val (.ref b85), .val (.ref b97), .val (.int (v0_79_s0 p0 p1 p2)), .val (.int (v0_94_s0 p0 p1 p2)), .val (.int (v0_106_s0 p0 p1 p2))] [(.int (v0_106_s0 p0 p1 p2)), (.int (v6_ret (v0_9_l6 p0 p1 p2)))])) t) => k120 t (by
    show Steps p.tables e below (T118.setTop (mkF m 126 #[.val (.int p0), .val (.int p1), .val (.int p2), .val (.int p3), .val (.int p4), .val (.int p5), .val (.int (v0_9_l6 p0 p1 p2)), .val (.int (v0_15_s0 p5)), .val (.ref b85), .val (.ref b97), .val (.int (v0_79_s0 p0 p1 p2)), .val (.int (v0_94_s0 p0 p1 p2)), .val (.int (v0_106_s0 p0 p1 p2))] [(.int (v6_ret (v0_9_l6 p0 p1 p2)))])) _
    refine XS.iload X118.here hx rfl (hb hby at_126) rfl ?_
    exact kk)
  by_cases hc128_122 : (v6_ret (v0_9_l6 p0 p1 p2)) = (v0_106_s0 p0 p1 p2)
  · have k123 := fun (t : State) (kk : Steps p.tables e below (T118.setTop (mkF m 133 #[.val (.int p0), .val (.int p1), .val (.int p2), .val (.int p3), .val (.int p4), .val (.int p5), .val (.int (v0_9_l6 p0 p1 p2)), .val (.int (v0_15_s0 p5)), .val (.ref b85), .val (.ref b97), .val (.int (v0_79_s0 p0 p1 p2)), .val (.int (v0_94_s0 p0 p1 p2)), .val (.int (v0_106_s0 p0 p1 p2))] [(.ref b97)])) t) => k121 t (by
      show Steps p.tables e below (T118.setTop (mkF m 128 #[.val (.int p0), .val (.int p1), .val (.int p2), .val (.int p3), .val (.int p4), .val (.int p5), .val (.int (v0_9_l6 p0 p1 p2)), .val (.int (v0_15_s0 p5)), .val (.ref b85), .val (.ref b97), .val (.int (v0_79_s0 p0 p1 p2)), .val (.int (v0_94_s0 p0 p1 p2)), .val (.int (v0_106_s0 p0 p1 p2))] [(.int (v0_106_s0 p0 p1 p2)), (.int (v6_ret (v0_9_l6 p0 p1 p2)))])) _
      refine XS.icmpNo X118.here hx rfl (hb hby at_128) rfl (teq hc128_122).2 ?_
      show Steps p.tables e below (T118.setTop (mkF m 131 #[.val (.int p0), .val (.int p1), .val (.int p2), .val (.int p3), .val (.int p4), .val (.int p5), .val (.int (v0_9_l6 p0 p1 p2)), .val (.int (v0_15_s0 p5)), .val (.ref b85), .val (.ref b97), .val (.int (v0_79_s0 p0 p1 p2)), .val (.int (v0_94_s0 p0 p1 p2)), .val (.int (v0_106_s0 p0 p1 p2))] [])) _
      refine XS.aload X118.here hx rfl (hb hby at_131) rfl rfl ?_
      exact kk)
    have Zz124 : n0 ≤ T106.heap.size := (Nat.le_trans Z0 K106.1)
    obtain ⟨cq124, kq124, q124a, q124b, q124c⟩ := isOf hZ e118 Eq106_0
    obtain ⟨_, _, ⟨T124, L124, k124, n124⟩, -, X124, ⟨Lc124, hQ124, l124, y124, z124⟩, st124⟩ := X118.virtualBack hx (y := (⟨"com/example/studybridge/studybridge/codec/dicom/DimseCommand", "wantsResponse", "()Z"⟩ : MethodName)) (z := (⟨"com/example/studybridge/studybridge/codec/dicom/DimseCommand", "wantsResponse", "()Z"⟩ : MethodName)) hown (mvT hZ (hw _ (List.mem_of_getElem? (i := 37) rfl))) (mvT hZ (hw _ (List.mem_of_getElem? (i := 38) rfl))) (notFace_of_selects (args := #[]) (mvT hZ (hw _ (List.mem_of_getElem? (i := 40) rfl)))) (mvT hZ (hw _ (List.mem_of_getElem? (i := 40) rfl))) (mvT hZ (hw _ (List.mem_of_getElem? (i := 39) rfl))) (by decide) (backOf (W := 0) (rm6 l Z a0 hw [] b97 ((v0_9_l6 p0 p1 p2) ||| (32768 : Int32)) T106.heap n0 Zz124 Fq106_1) hZ (hw _ (List.mem_of_getElem? (i := 41) rfl)) (hw _ (List.mem_of_getElem? (i := 6) rfl)) (by decide) (by decide)) q124a q124c (g := (mkF m 133 #[.val (.int p0), .val (.int p1), .val (.int p2), .val (.int p3), .val (.int p4), .val (.int p5), .val (.int (v0_9_l6 p0 p1 p2)), .val (.int (v0_15_s0 p5)), .val (.ref b85), .val (.ref b97), .val (.int (v0_79_s0 p0 p1 p2)), .val (.int (v0_94_s0 p0 p1 p2)), .val (.int (v0_106_s0 p0 p1 p2))] [(.ref b97)])) rfl (by rw [hml]; rfl) (Steps.refl _) (argsL := []) (rest := []) (lenOf pd_4 rfl) rfl (by show 2 * 0 + _ ≤ _; exact Nat.le_of_eq rfl) (hb hby at_133) (fun _ _ => ⟨rfl, e118, (by decide : 2 + 0 ≤ _), (by decide : 12 + 0 ≤ _)⟩)
    dsimp only [Pt.U, Pt.locs, Pt.cells, Pt.slots] at X124 l124 y124 z124 st124 hQ124
    subst l124 y124 z124
    obtain ⟨rfl, N124q, e124⟩ := hQ124
    have N124 := Fr.app N118 N124q
    have k125 := fun (t : State) (kk : Steps p.tables e below (T124.setTop (mkF m 136 #[.val (.int p0), .val (.int p1), .val (.int p2), .val (.int p3), .val (.int p4), .val (.int p5), .val (.int (v0_9_l6 p0 p1 p2)), .val (.int (v0_15_s0 p5)), .val (.ref b85), .val (.ref b97), .val (.int (v0_79_s0 p0 p1 p2)), .val (.int (v0_94_s0 p0 p1 p2)), .val (.int (v0_106_s0 p0 p1 p2))] [(.int (v6_ret ((v0_9_l6 p0 p1 p2) ||| (32768 : Int32))))])) t) => k123 t (st124.trans kk)
    have k128 := fun (t : State) (kk : Steps p.tables e below (T124.setTop (mkF m 144 #[.val (.int p0), .val (.int p1), .val (.int p2), .val (.int p3), .val (.int p4), .val (.int p5), .val (.int (v0_9_l6 p0 p1 p2)), .val (.int (v0_15_s0 p5)), .val (.ref b85), .val (.ref b97), .val (.int (v0_79_s0 p0 p1 p2)), .val (.int (v0_94_s0 p0 p1 p2)), .val (.int (v0_106_s0 p0 p1 p2))] [(.int (v0_136_s0 p0 p1 p2))])) t) => k125 t (by
      suffices k127 : Steps p.tables e below (T124.setTop (mkF m 144 #[.val (.int p0), .val (.int p1), .val (.int p2), .val (.int p3), .val (.int p4), .val (.int p5), .val (.int (v0_9_l6 p0 p1 p2)), .val (.int (v0_15_s0 p5)), .val (.ref b85), .val (.ref b97), .val (.int (v0_79_s0 p0 p1 p2)), .val (.int (v0_94_s0 p0 p1 p2)), .val (.int (v0_106_s0 p0 p1 p2))] [(.int (v0_136_s0 p0 p1 p2))])) t by
        by_cases hc136_126 : (v6_ret ((v0_9_l6 p0 p1 p2) ||| (32768 : Int32))) = (0 : Int32)
        · rw [(show (v0_136_s0 p0 p1 p2) = (1 : Int32) from if_pos hc136_126)] at k127
          show Steps p.tables e below (T124.setTop (mkF m 136 #[.val (.int p0), .val (.int p1), .val (.int p2), .val (.int p3), .val (.int p4), .val (.int p5), .val (.int (v0_9_l6 p0 p1 p2)), .val (.int (v0_15_s0 p5)), .val (.ref b85), .val (.ref b97), .val (.int (v0_79_s0 p0 p1 p2)), .val (.int (v0_94_s0 p0 p1 p2)), .val (.int (v0_106_s0 p0 p1 p2))] [(.int (v6_ret ((v0_9_l6 p0 p1 p2) ||| (32768 : Int32))))])) _
          refine XS.ifNo X124.here hx rfl (hb hby at_136) rfl ((if0 _ _).trans (teq hc136_126).2) ?_
          show Steps p.tables e below (T124.setTop (mkF m 139 #[.val (.int p0), .val (.int p1), .val (.int p2), .val (.int p3), .val (.int p4), .val (.int p5), .val (.int (v0_9_l6 p0 p1 p2)), .val (.int (v0_15_s0 p5)), .val (.ref b85), .val (.ref b97), .val (.int (v0_79_s0 p0 p1 p2)), .val (.int (v0_94_s0 p0 p1 p2)), .val (.int (v0_106_s0 p0 p1 p2))] [])) _
          refine XS.iconst X124.here hx rfl (hb hby at_139) ?_
          show Steps p.tables e below (T124.setTop (mkF m 140 #[.val (.int p0), .val (.int p1), .val (.int p2), .val (.int p3), .val (.int p4), .val (.int p5), .val (.int (v0_9_l6 p0 p1 p2)), .val (.int (v0_15_s0 p5)), .val (.ref b85), .val (.ref b97), .val (.int (v0_79_s0 p0 p1 p2)), .val (.int (v0_94_s0 p0 p1 p2)), .val (.int (v0_106_s0 p0 p1 p2))] [(.int (1 : Int32))])) _
          refine XS.goto X124.here hx rfl (pc0 := 140) (pc' := 144) rfl (hb hby at_140) (by decide) (by decide) ?_
          exact k127
        · rw [(show (v0_136_s0 p0 p1 p2) = (0 : Int32) from if_neg hc136_126)] at k127
          show Steps p.tables e below (T124.setTop (mkF m 136 #[.val (.int p0), .val (.int p1), .val (.int p2), .val (.int p3), .val (.int p4), .val (.int p5), .val (.int (v0_9_l6 p0 p1 p2)), .val (.int (v0_15_s0 p5)), .val (.ref b85), .val (.ref b97), .val (.int (v0_79_s0 p0 p1 p2)), .val (.int (v0_94_s0 p0 p1 p2)), .val (.int (v0_106_s0 p0 p1 p2))] [(.int (v6_ret ((v0_9_l6 p0 p1 p2) ||| (32768 : Int32))))])) _
          refine XS.ifYes X124.here hx rfl (pc0 := 136) (pc' := 143) rfl (hb hby at_136) rfl ((if0 _ _).trans (feq hc136_126).2) (by decide) (by decide) ?_
          show Steps p.tables e below (T124.setTop (mkF m 143 #[.val (.int p0), .val (.int p1), .val (.int p2), .val (.int p3), .val (.int p4), .val (.int p5), .val (.int (v0_9_l6 p0 p1 p2)), .val (.int (v0_15_s0 p5)), .val (.ref b85), .val (.ref b97), .val (.int (v0_79_s0 p0 p1 p2)), .val (.int (v0_94_s0 p0 p1 p2)), .val (.int (v0_106_s0 p0 p1 p2))] [])) _
          refine XS.iconst X124.here hx rfl (hb hby at_143) ?_
          exact k127
      exact kk)
    obtain ⟨fs, hr, hrun, hended, hW, hsame⟩ := X124.leave (v := some (.int (nar .boolean (v0_136_s0 p0 p1 p2)))) (fun h => by rw [Bd.returns] at h; cases h)
    have hv : (v0_ret p0 p1 p2) = (nar .boolean (v0_136_s0 p0 p1 p2)) := (if_pos hc128_122)
    have hone : (nar .boolean (v0_136_s0 p0 p1 p2)) = 1 := hv.symm.trans (own_law p0 p1 p2 p3 p4 p5)
    refine ⟨_, _, k128 _ ?_, hrun, hended, _, _, rfl, ?_, ⟨_, rfl⟩, hW, hsame.mono (by decide) (by decide)⟩
    · show Steps p.tables e below (T124.setTop (mkF m 144 #[.val (.int p0), .val (.int p1), .val (.int p2), .val (.int p3), .val (.int p4), .val (.int p5), .val (.int (v0_9_l6 p0 p1 p2)), .val (.int (v0_15_s0 p5)), .val (.ref b85), .val (.ref b97), .val (.int (v0_79_s0 p0 p1 p2)), .val (.int (v0_94_s0 p0 p1 p2)), .val (.int (v0_106_s0 p0 p1 p2))] [(.int (v0_136_s0 p0 p1 p2))])) _
      exact retN X124 hx (t := .boolean) Bd.returns (by simp) (hb hby at_144) hr
    · show Q0 Z p0 p1 p2 p3 p4 p5 o_EMPTY h0 n0 _ T124.heap _
      rw [e124]
      exact ⟨congrArg (fun z => some (Value.int z)) hone, N124⟩
  · have k129 := fun (t : State) (kk : Steps p.tables e below (T118.setTop (mkF m 144 #[.val (.int p0), .val (.int p1), .val (.int p2), .val (.int p3), .val (.int p4), .val (.int p5), .val (.int (v0_9_l6 p0 p1 p2)), .val (.int (v0_15_s0 p5)), .val (.ref b85), .val (.ref b97), .val (.int (v0_79_s0 p0 p1 p2)), .val (.int (v0_94_s0 p0 p1 p2)), .val (.int (v0_106_s0 p0 p1 p2))] [(.int (0 : Int32))])) t) => k121 t (by
      show Steps p.tables e below (T118.setTop (mkF m 128 #[.val (.int p0), .val (.int p1), .val (.int p2), .val (.int p3), .val (.int p4), .val (.int p5), .val (.int (v0_9_l6 p0 p1 p2)), .val (.int (v0_15_s0 p5)), .val (.ref b85), .val (.ref b97), .val (.int (v0_79_s0 p0 p1 p2)), .val (.int (v0_94_s0 p0 p1 p2)), .val (.int (v0_106_s0 p0 p1 p2))] [(.int (v0_106_s0 p0 p1 p2)), (.int (v6_ret (v0_9_l6 p0 p1 p2)))])) _
      refine XS.icmpYes X118.here hx rfl (pc0 := 128) (pc' := 143) rfl (hb hby at_128) rfl (feq hc128_122).2 (by decide) (by decide) ?_
      show Steps p.tables e below (T118.setTop (mkF m 143 #[.val (.int p0), .val (.int p1), .val (.int p2), .val (.int p3), .val (.int p4), .val (.int p5), .val (.int (v0_9_l6 p0 p1 p2)), .val (.int (v0_15_s0 p5)), .val (.ref b85), .val (.ref b97), .val (.int (v0_79_s0 p0 p1 p2)), .val (.int (v0_94_s0 p0 p1 p2)), .val (.int (v0_106_s0 p0 p1 p2))] [])) _
      refine XS.iconst X118.here hx rfl (hb hby at_143) ?_
      exact kk)
    obtain ⟨fs, hr, hrun, hended, hW, hsame⟩ := X118.leave (v := some (.int (0 : Int32))) (fun h => by rw [Bd.returns] at h; cases h)
    have hv : (v0_ret p0 p1 p2) = (0 : Int32) := (if_neg hc128_122)
    have hone : (0 : Int32) = 1 := hv.symm.trans (own_law p0 p1 p2 p3 p4 p5)
    exact absurd hone (by decide)
set_option maxRecDepth 65536 in
set_option maxHeartbeats 40000000 in
theorem comes_1 {Post : Tables → Env → Array Value → State → Outcome → State → Prop} (hpost : ∀ tb e args s v u, (limb_1_1.after args s (.returned v) u = true ∧ limb_1_2.after args s (.returned v) u = true ∧ True) → FrameEnd s (.returned v) u (Jvm.fieldLocs frame_1_writes args s ++ Jvm.arrayLocs frame_1_arrays args s ++ Jvm.staticLocs frame_1_statics s) 16 128 → Post tb e args s (.returned v) u) :
    ArmFor flags0 classFile x code maxLocals ret World_1 tables_1 room_1 Calls_1 rest_1 Pre_1 Post := by
  intro l hfl _ _ p e ha hc hk s m args below hf hA hF happ hP
  obtain ⟨hcalls, hrest, hpre⟩ := hP
  obtain ⟨-, -, -, hnamed, -, -, -, hat⟩ := (Spec.applies_iff hf).mp happ
  obtain ⟨hg, hn⟩ := and_e (Cond.before_iff.mp (show (Jvm.Cond.and given_1 narrow_1).before args s = true from hpre))
  obtain ⟨hcnt, hg0⟩ := and_e hg
  obtain ⟨ha0, hg1⟩ := and_e hg0
  obtain ⟨ha1, hg2⟩ := and_e hg1
  obtain ⟨ha2, hg3⟩ := and_e hg2
  obtain ⟨ha3, hg4⟩ := and_e hg3
  obtain ⟨ha4, hg5⟩ := and_e hg4
  have ha5 := hg5
  obtain ⟨w0, w1, w2, w3, w4, w5, rfl⟩ : ∃ w0 w1 w2 w3 w4 w5 : Value, args = #[w0, w1, w2, w3, w4, w5] := by
    have hs : args.size = 6 := by simpa [Cond.value, given_1] using hcnt
    obtain ⟨L⟩ := args
    match L, hs with
    | [w0, w1, w2, w3, w4, w5], _ => exact ⟨w0, w1, w2, w3, w4, w5, rfl⟩
  have hw := fun d (hd : d ∈ tables_1) => atoms_spec (ws := Jvm.Cond.code x code maxLocals ret :: tables_1) hat d (List.mem_cons_of_mem _ hd)
  have hfit : Fit s := fun {y c} hc i hi => by
    obtain ⟨ha, rfl⟩ := Array.getElem?_eq_some_iff.mp hc
    have q := List.all_eq_true.mp ((Array.all_eq_true_iff_forall_mem.mp hF) _ (Array.getElem_mem ha)) i (List.mem_range.mpr hi)
    simpa [Array.getElem?_eq_getElem hi] using q
  obtain ⟨p0, ea0⟩ := is_v ha0
  obtain rfl : w0 = (.int p0) := Option.some.inj ea0
  obtain ⟨p1, ea1⟩ := is_v ha1
  obtain rfl : w1 = (.int p1) := Option.some.inj ea1
  obtain ⟨p2, ea2⟩ := is_v ha2
  obtain rfl : w2 = (.int p2) := Option.some.inj ea2
  obtain ⟨p3, ea3⟩ := is_v ha3
  obtain rfl : w3 = (.int p3) := Option.some.inj ea3
  obtain ⟨p4, ea4⟩ := is_v ha4
  obtain rfl : w4 = (.int p4) := Option.some.inj ea4
  obtain ⟨p5, ea5⟩ := is_v ha5
  obtain rfl : w5 = (.int p5) := Option.some.inj ea5
  have hr0 := Cond.before_iff.mp (show rest_1_c.before _ s = true from hrest)
  obtain ⟨ra1, rb1⟩ := and_e hr0
  obtain ⟨ra2, rb2⟩ := and_e rb1
  obtain ⟨ra3, rb3⟩ := and_e rb2
  obtain ⟨ra4, rb4⟩ := and_e rb3
  obtain ⟨o_EMPTY, ev_EMPTY⟩ := exa_v ra3
  have S_EMPTY := Sta.start ev_EMPTY (Or.inl (Cond.before_iff.mpr ra2))
  have E_o_EMPTY := Exa.start ev_EMPTY ra3
  have F_value_o_EMPTY := Fld.start ((fld_at ev_EMPTY).symm.trans (null_v ra4))
  have O0 := Old.start s
  obtain ⟨n, o, h1, h2, h3, _, L, rfl, ⟨rfl, N⟩, hq⟩ := rm0 l s _ hw tables_1 p0 p1 p2 p3 p4 p5 o_EMPTY s.heap s.heap.size (Nat.le_refl _) S_EMPTY O0 p e ha hc hk s m _ below hf ((Spec.applies_iff_loose hf).mp happ).1 ⟨rfl, State.Warmed39.refl s, rfl⟩ trivial
  refine ⟨n, _, h1, h2, h3, hpost _ _ _ _ _ _ ⟨Cond.after_iff.mpr rfl, Cond.after_iff.mpr (eq_i res_at (Term.int_eval (1)) rfl), trivial⟩ ⟨hq.1, hq.2.1, (hq.2.2.sift fun y hy => Or.inr (N y hy)).mono (by decide) (by decide)⟩⟩
theorem main_1_1 : Claimed_1_1 := comes_1 fun _ _ _ _ _ _ h hF => ⟨h.1, hF⟩
theorem main_1_2 : Claimed_1_2 := comes_1 fun _ _ _ _ _ _ h hF => ⟨h.2.1, hF⟩
end Jvm.Pilot.@@N@@
namespace Jvm.Pilot.@@N@@
open Jvm Jvm.ClassFile Sem Op Lib Jvm.Free Jvm.Stand Jvm.Pilot.@@N@@.Jvm.D
/-! MADE BY PROGRAM (witnessworld.py) out of the Statement's table words and the real class files: 11 classes; the members and pool entries that the words name. The judged class is class 1, her method 2. -/
namespace start1
open Jvm.ClassFile
def u (s : String) : CpInfo := .utf8 (stringToUtf16 s)
/-- a pool by its gaps: so many unusable entries, then the entry; so many at the end -/
def gap : Nat → List CpInfo → List CpInfo
  | 0, r => r
  | n + 1, r => .unusable :: gap n r
def poolList (es : List (Nat × CpInfo)) (last : Nat) : List CpInfo := es.foldr (fun e r => gap e.1 (e.2 :: r)) (gap last [])
def pool (es : List (Nat × CpInfo)) (last : Nat) : Array CpInfo := ⟨poolList es last⟩
def fileOf (pool : Array CpInfo) (this : Nat) (attrs : Array Attribute := #[]) (ms : Array MethodInfo := #[]) (fl : Nat := 33) (sup : Nat := 0) (ifs : Array Nat := #[]) (fds : Array FieldInfo := #[]) : ClassFile where
  minorVersion := 0
  majorVersion := 65
  constantPool := pool
  accessFlags := fl
  thisClass := this
  superClass := sup
  interfaces := ifs
  fields := fds
  methods := ms
  attributes := attrs
def plain (name : String) (sup : Option ClassId) : Class where
  name := name
  kind := .ordinary
  loader := none
  accessFlags := 33
  super := sup
  interfaces := #[]
  cf := none
  fields := #[]
  methods := #[]
  instanceTypes := #[]
  staticTypes := #[]
  resolved := #[]
  callSites := []
  init := .initialized
  statics := none
  mirror := none

def pool0 : Array CpInfo := pool [(5, u "<init>"), (0, u "()V"), (1, .class_ 10), (1, u "java/lang/Object")] 113

def k0c0 : Code := { maxStack := 0, maxLocals := 1, code := object_method_1_code, exceptionTable := #[], attributes := #[] }
def k0m0 : Method := { name := "<init>", desc := "()V", sig := { parameters := [], returnType := none }, accessFlags := 1, code := some k0c0 }
/-- java/lang/Object -/
def k0 : Class := { plain "java/lang/Object" none with
  accessFlags := 33
  interfaces := #[]
  cf := some (fileOf pool0 8 #[] #[{ accessFlags := 1, nameIndex := 5, descriptorIndex := 6, attributes := #[] }] 33 0 #[] #[])
  fields := #[]
  methods := #[k0m0]
  instanceTypes := #[]
  staticTypes := #[]
  resolved := Array.replicate 124 none
  statics := none }

def pool1 : Array CpInfo := pool [(2, .class_ 4), (1, u "java/lang/Object"), (0, u "<init>"), (0, u "()V"), (0, .integer 65535), (0, .integer 32768), (0, .class_ 10), (0, u "com/example/studybridge/studybridge/codec/dicom/DimseCommand"), (0, .methodref 12 13), (0, .class_ 14), (0, .nameAndType 15 16), (0, u "com/example/studybridge/studybridge/codec/dicom/DimseCommandWantsResponsePinLaw"), (0, u "pickField"), (0, u "(III)I"), (0, .methodref 18 19), (0, .class_ 20), (0, .nameAndType 21 22), (0, u "java/util/Optional"), (0, u "empty"), (0, u "()Ljava/util/Optional;"), (0, .methodref 9 24), (0, .nameAndType 5 25), (0, u "(IIILjava/util/Optional;Ljava/util/Optional;Z)V"), (0, .methodref 9 27), (0, .nameAndType 28 29), (0, u "wantsResponse"), (0, u "()Z"), (3, u "law"), (0, u "(IIIIII)Z")] 2

def k1m0 : Method := { name := "<init>", desc := "()V", sig := { parameters := [], returnType := none }, accessFlags := 2, code := none }
def k1c1 : Code := { maxStack := 4, maxLocals := 3, code := method_2_code, exceptionTable := #[], attributes := #[] }
def k1m1 : Method := { name := "pickField", desc := "(III)I", sig := { parameters := [.int, .int, .int], returnType := some .int }, accessFlags := 10, code := some k1c1 }
def k1c2 : Code := { maxStack := 8, maxLocals := 13, code := code, exceptionTable := #[], attributes := #[] }
def k1m2 : Method := { name := "law", desc := "(IIIIII)Z", sig := { parameters := [.int, .int, .int, .int, .int, .int], returnType := some .boolean }, accessFlags := 9, code := some k1c2 }
/-- com/example/studybridge/studybridge/codec/dicom/DimseCommandWantsResponsePinLaw -/
def k1 : Class := { plain "com/example/studybridge/studybridge/codec/dicom/DimseCommandWantsResponsePinLaw" (some 0) with
  accessFlags := 49
  interfaces := #[]
  cf := some (fileOf pool1 12 #[] #[{ accessFlags := 2, nameIndex := 5, descriptorIndex := 6, attributes := #[] }, { accessFlags := 10, nameIndex := 15, descriptorIndex := 16, attributes := #[] }, { accessFlags := 9, nameIndex := 33, descriptorIndex := 34, attributes := #[] }] 49 2 #[] #[])
  fields := #[]
  methods := #[k1m0, k1m1, k1m2]
  instanceTypes := #[]
  staticTypes := #[]
  resolved := Array.replicate 37 none
  statics := none }

def pool2 : Array CpInfo := pool [(1, .methodref 2 3), (0, .class_ 4), (0, .nameAndType 5 6), (0, u "java/lang/Object"), (0, u "<init>"), (0, u "()V"), (0, .class_ 8), (0, u "java/lang/Record")] 13

def k2c0 : Code := { maxStack := 1, maxLocals := 1, code := jdk_30_method_1_code, exceptionTable := #[], attributes := #[] }
def k2m0 : Method := { name := "<init>", desc := "()V", sig := { parameters := [], returnType := none }, accessFlags := 4, code := some k2c0 }
/-- java/lang/Record -/
def k2 : Class := { plain "java/lang/Record" (some 0) with
  accessFlags := 1057
  interfaces := #[]
  cf := some (fileOf pool2 7 #[] #[{ accessFlags := 4, nameIndex := 5, descriptorIndex := 6, attributes := #[] }] 1057 2 #[] #[])
  fields := #[]
  methods := #[k2m0]
  instanceTypes := #[]
  staticTypes := #[]
  resolved := Array.replicate 22 none
  statics := none }

def pool3 : Array CpInfo := pool [(1, .methodref 2 3), (0, .class_ 4), (0, .nameAndType 5 6), (0, u "java/lang/Record"), (0, u "<init>"), (0, u "()V"), (0, .fieldref 8 9), (0, .class_ 10), (0, .nameAndType 11 12), (0, u "com/example/studybridge/studybridge/codec/dicom/DimseCommand"), (0, u "contextId"), (0, u "I"), (0, .fieldref 8 14), (0, .nameAndType 15 12), (0, u "field"), (0, .fieldref 8 17), (0, .nameAndType 18 12), (0, u "messageId"), (0, .fieldref 8 20), (0, .nameAndType 21 22), (0, u "sopClassUid"), (0, u "Ljava/util/Optional;"), (0, .fieldref 8 24), (0, .nameAndType 25 22), (0, u "sopInstanceUid"), (0, .fieldref 8 27), (0, .nameAndType 28 29), (0, u "hasDataSet"), (0, u "Z"), (0, .integer 32768), (19, u "()Z"), (48, u "(IIILjava/util/Optional;Ljava/util/Optional;Z)V"), (2, u "wantsResponse"), (152, u "C_STORE_RQ"), (2, u "C_ECHO_RQ"), (1, u "C_CANCEL_RQ"), (1, u "RESPONSE_BIT"), (0, u "NO_DATA_SET"), (1, u "ABSENT"), (1, u "GROUP_LENGTH"), (1, u "AFFECTED_SOP_CLASS_UID"), (1, u "REQUESTED_SOP_CLASS_UID"), (1, u "COMMAND_FIELD"), (1, u "MESSAGE_ID"), (1, u "MESSAGE_ID_BEING_RESPONDED_TO"), (1, u "COMMAND_DATA_SET_TYPE"), (1, u "STATUS"), (1, u "ERROR_COMMENT"), (1, u "AFFECTED_SOP_INSTANCE_UID"), (1, u "REQUESTED_SOP_INSTANCE_UID"), (1, u "UNSIGNED_SHORT_LENGTH"), (0, u "MAX_ERROR_COMMENT_LENGTH")] 51

def k3c0 : Code := { maxStack := 2, maxLocals := 7, code := prog_28_method_1_code, exceptionTable := #[], attributes := #[] }
def k3m0 : Method := { name := "<init>", desc := "(IIILjava/util/Optional;Ljava/util/Optional;Z)V", sig := { parameters := [.int, .int, .int, (.object "java/util/Optional"), (.object "java/util/Optional"), .boolean], returnType := none }, accessFlags := 1, code := some k3c0 }
def k3c1 : Code := { maxStack := 2, maxLocals := 1, code := prog_28_method_2_code, exceptionTable := #[], attributes := #[] }
def k3m1 : Method := { name := "wantsResponse", desc := "()Z", sig := { parameters := [], returnType := some .boolean }, accessFlags := 1, code := some k3c1 }
/-- com/example/studybridge/studybridge/codec/dicom/DimseCommand -/
def k3 : Class := { plain "com/example/studybridge/studybridge/codec/dicom/DimseCommand" (some 2) with
  accessFlags := 49
  interfaces := #[]
  cf := some (fileOf pool3 8 #[] #[{ accessFlags := 1, nameIndex := 5, descriptorIndex := 99, attributes := #[] }, { accessFlags := 1, nameIndex := 102, descriptorIndex := 50, attributes := #[] }] 49 2 #[] #[{ accessFlags := 18, nameIndex := 11, descriptorIndex := 12, attributes := #[] }, { accessFlags := 18, nameIndex := 15, descriptorIndex := 12, attributes := #[] }, { accessFlags := 18, nameIndex := 18, descriptorIndex := 12, attributes := #[] }, { accessFlags := 18, nameIndex := 21, descriptorIndex := 22, attributes := #[] }, { accessFlags := 18, nameIndex := 25, descriptorIndex := 22, attributes := #[] }, { accessFlags := 18, nameIndex := 28, descriptorIndex := 29, attributes := #[] }, { accessFlags := 25, nameIndex := 255, descriptorIndex := 12, attributes := #[] }, { accessFlags := 25, nameIndex := 258, descriptorIndex := 12, attributes := #[] }, { accessFlags := 26, nameIndex := 260, descriptorIndex := 12, attributes := #[] }, { accessFlags := 26, nameIndex := 262, descriptorIndex := 12, attributes := #[] }, { accessFlags := 26, nameIndex := 263, descriptorIndex := 12, attributes := #[] }, { accessFlags := 26, nameIndex := 265, descriptorIndex := 12, attributes := #[] }, { accessFlags := 26, nameIndex := 267, descriptorIndex := 12, attributes := #[] }, { accessFlags := 26, nameIndex := 269, descriptorIndex := 12, attributes := #[] }, { accessFlags := 26, nameIndex := 271, descriptorIndex := 12, attributes := #[] }, { accessFlags := 26, nameIndex := 273, descriptorIndex := 12, attributes := #[] }, { accessFlags := 26, nameIndex := 275, descriptorIndex := 12, attributes := #[] }, { accessFlags := 26, nameIndex := 277, descriptorIndex := 12, attributes := #[] }, { accessFlags := 26, nameIndex := 279, descriptorIndex := 12, attributes := #[] }, { accessFlags := 26, nameIndex := 281, descriptorIndex := 12, attributes := #[] }, { accessFlags := 26, nameIndex := 283, descriptorIndex := 12, attributes := #[] }, { accessFlags := 26, nameIndex := 285, descriptorIndex := 12, attributes := #[] }, { accessFlags := 26, nameIndex := 287, descriptorIndex := 12, attributes := #[] }, { accessFlags := 26, nameIndex := 289, descriptorIndex := 12, attributes := #[] }, { accessFlags := 26, nameIndex := 290, descriptorIndex := 12, attributes := #[] }])
  fields := #[{ name := "contextId", type := .int, accessFlags := 18, slot := 0, constantValue := 0 }, { name := "field", type := .int, accessFlags := 18, slot := 1, constantValue := 0 }, { name := "messageId", type := .int, accessFlags := 18, slot := 2, constantValue := 0 }, { name := "sopClassUid", type := (.object "java/util/Optional"), accessFlags := 18, slot := 3, constantValue := 0 }, { name := "sopInstanceUid", type := (.object "java/util/Optional"), accessFlags := 18, slot := 4, constantValue := 0 }, { name := "hasDataSet", type := .boolean, accessFlags := 18, slot := 5, constantValue := 0 }, { name := "C_STORE_RQ", type := .int, accessFlags := 25, slot := 0, constantValue := 0 }, { name := "C_ECHO_RQ", type := .int, accessFlags := 25, slot := 1, constantValue := 0 }, { name := "C_CANCEL_RQ", type := .int, accessFlags := 26, slot := 2, constantValue := 0 }, { name := "RESPONSE_BIT", type := .int, accessFlags := 26, slot := 3, constantValue := 0 }, { name := "NO_DATA_SET", type := .int, accessFlags := 26, slot := 4, constantValue := 0 }, { name := "ABSENT", type := .int, accessFlags := 26, slot := 5, constantValue := 0 }, { name := "GROUP_LENGTH", type := .int, accessFlags := 26, slot := 6, constantValue := 0 }, { name := "AFFECTED_SOP_CLASS_UID", type := .int, accessFlags := 26, slot := 7, constantValue := 0 }, { name := "REQUESTED_SOP_CLASS_UID", type := .int, accessFlags := 26, slot := 8, constantValue := 0 }, { name := "COMMAND_FIELD", type := .int, accessFlags := 26, slot := 9, constantValue := 0 }, { name := "MESSAGE_ID", type := .int, accessFlags := 26, slot := 10, constantValue := 0 }, { name := "MESSAGE_ID_BEING_RESPONDED_TO", type := .int, accessFlags := 26, slot := 11, constantValue := 0 }, { name := "COMMAND_DATA_SET_TYPE", type := .int, accessFlags := 26, slot := 12, constantValue := 0 }, { name := "STATUS", type := .int, accessFlags := 26, slot := 13, constantValue := 0 }, { name := "ERROR_COMMENT", type := .int, accessFlags := 26, slot := 14, constantValue := 0 }, { name := "AFFECTED_SOP_INSTANCE_UID", type := .int, accessFlags := 26, slot := 15, constantValue := 0 }, { name := "REQUESTED_SOP_INSTANCE_UID", type := .int, accessFlags := 26, slot := 16, constantValue := 0 }, { name := "UNSIGNED_SHORT_LENGTH", type := .int, accessFlags := 26, slot := 17, constantValue := 0 }, { name := "MAX_ERROR_COMMENT_LENGTH", type := .int, accessFlags := 26, slot := 18, constantValue := 0 }]
  methods := #[k3m0, k3m1]
  instanceTypes := #[.int, .int, .int, (.object "java/util/Optional"), (.object "java/util/Optional"), .boolean]
  staticTypes := #[.int, .int, .int, .int, .int, .int, .int, .int, .int, .int, .int, .int, .int, .int, .int, .int, .int, .int, .int]
  resolved := Array.replicate 342 none
  statics := none }

def pool4 : Array CpInfo := pool [(1, .fieldref 2 3), (0, .class_ 4), (0, .nameAndType 5 6), (0, u "java/util/Optional"), (0, u "EMPTY"), (0, u "Ljava/util/Optional;"), (1, .class_ 10), (1, u "java/lang/Object"), (4, u "value"), (0, u "Ljava/lang/Object;"), (38, u "empty"), (0, u "()Ljava/util/Optional;")] 130

def k4c0 : Code := { maxStack := 1, maxLocals := 1, code := jdk_32_method_1_code, exceptionTable := #[], attributes := #[] }
def k4m0 : Method := { name := "empty", desc := "()Ljava/util/Optional;", sig := { parameters := [], returnType := some (.object "java/util/Optional") }, accessFlags := 9, code := some k4c0 }
/-- java/util/Optional -/
def k4 : Class := { plain "java/util/Optional" (some 0) with
  accessFlags := 49
  interfaces := #[]
  cf := some (fileOf pool4 2 #[] #[{ accessFlags := 9, nameIndex := 55, descriptorIndex := 56, attributes := #[] }] 49 8 #[] #[{ accessFlags := 26, nameIndex := 5, descriptorIndex := 6, attributes := #[] }, { accessFlags := 18, nameIndex := 15, descriptorIndex := 16, attributes := #[] }])
  fields := #[{ name := "EMPTY", type := (.object "java/util/Optional"), accessFlags := 26, slot := 0, constantValue := 0 }, { name := "value", type := (.object "java/lang/Object"), accessFlags := 18, slot := 0, constantValue := 0 }]
  methods := #[k4m0]
  instanceTypes := #[(.object "java/lang/Object")]
  staticTypes := #[(.object "java/util/Optional")]
  resolved := Array.replicate 187 none
  statics := some 0 }

def pool5 : Array CpInfo := pool [(1, u "java/lang/Cloneable"), (0, .class_ 1), (0, u "java/lang/Object"), (0, .class_ 3)] 3

/-- java/lang/Cloneable -/
def k5 : Class := { plain "java/lang/Cloneable" (some 0) with
  accessFlags := 1537
  interfaces := #[]
  cf := some (fileOf pool5 2 #[] #[] 1537 4 #[] #[])
  fields := #[]
  methods := #[]
  instanceTypes := #[]
  staticTypes := #[]
  resolved := Array.replicate 8 none
  statics := none }

def pool6 : Array CpInfo := pool [(1, u "java/io/Serializable"), (0, .class_ 1), (0, u "java/lang/Object"), (0, .class_ 3)] 3

/-- java/io/Serializable -/
def k6 : Class := { plain "java/io/Serializable" (some 0) with
  accessFlags := 1537
  interfaces := #[]
  cf := some (fileOf pool6 2 #[] #[] 1537 4 #[] #[])
  fields := #[]
  methods := #[]
  instanceTypes := #[]
  staticTypes := #[]
  resolved := Array.replicate 8 none
  statics := none }

/-- the primitive byte -/
def k7 : Class := { plain "byte" none with kind := .primitive 'B', accessFlags := 0x411 }
/-- [B -/
def k8 : Class := { plain "[B" (some 0) with kind := .array 7 .byte, interfaces := #[5, 6], accessFlags := 1041 }

/-- the primitive int -/
def k9 : Class := { plain "int" none with kind := .primitive 'I', accessFlags := 0x411 }
/-- [I -/
def k10 : Class := { plain "[I" (some 0) with kind := .array 9 .int, interfaces := #[5, 6], accessFlags := 1041 }

def heap : Heap := #[{ cls := 4, slots := #[.ref 1], vm := .statics 4 },
  { cls := 4, slots := #[.null], vm := .none }]
def classes : Array Class := #[k0, k1, k2, k3, k4, k5, k6, k7, k8, k9, k10]
def interned : List (Array UInt16 × Addr) := []
def slotsUsed : Nat := 2
def theMethod : MethodId := ⟨1, 2⟩
def args0 : Array Value := #[.int 1, .int 2, .int 3, .int 4, .int 5, .int 6]
def aboutOver (below : List Frame) : State where
  vm := { classes := classes, interned := interned.toArray }
  heap := heap
  slotsUsed := slotsUsed
  threads := #[{ frames := .invoking theMethod args0 :: below }]
def below0 : List Frame := [.native { method := ⟨0, 0⟩, args := #[] }]
def about1 : State := aboutOver below0
def p0 : Program := .bare "" "" ""
def e0 : Env := launch0.env 0 0 0
theorem w_frames : about1.frames = Frame.invoking theMethod args0 :: below0 := rfl
set_option maxRecDepth 65536 in
theorem w_args : argsFit about1.vm theMethod args0 = true := by decide +kernel
set_option maxRecDepth 65536 in
theorem w_heap : heapFits about1 = true := by decide +kernel
set_option maxRecDepth 65536 in
theorem w_runnable : about1.curStatus? = some .runnable := by decide +kernel
set_option maxRecDepth 65536 in
theorem w_alone : about1.alone = true := by decide +kernel
set_option maxRecDepth 65536 in
theorem w_named : about1.methodNamed? x = some theMethod := by decide +kernel
set_option maxRecDepth 65536 in
theorem w_hears : about1.hears theMethod below0 = true := by decide +kernel
set_option maxRecDepth 65536 in
theorem w_ripe : about1.ripe theMethod args0 below0 = true := by decide +kernel
theorem w_running : about1.status = .running := rfl
set_option maxRecDepth 65536 in
theorem w_room : about1.hasRoom e0.platform room_1 = true :=
  launch0.hasRoom_least _ room_1 (by decide +kernel) (by decide +kernel) (by decide +kernel) (by decide +kernel) (by decide +kernel) (by decide +kernel)
theorem allAtoms_all (ts : List Jvm.Cond) (a : Array Jvm.Value) (st : Jvm.State) : (allAtoms ts).before a st = ts.all (fun c => c.before a st) := by
  induction ts with
  | nil => rfl
  | cons c t ih =>
    show (Jvm.Cond.and c (allAtoms t)).before a st = _
    rw [Jvm.Cond.before_and, ih, List.all_cons]
def words1 : List Jvm.Cond := Jvm.Cond.code x code maxLocals ret :: tables_1
/-- a 'code' word, met by the world's own term for the bytes: nothing is compared byte by byte -/
theorem code_word {y : MethodName} {bytes : ByteArray} {mx : Nat} {rt : Option FieldType} {a : Array Value} {s : State} {m : MethodId} {meth : Method} {c : Code} (h1 : s.methodNamed? y = some m) (h2 : s.vm.method? m = some meth) (h3 : meth.code = some c) (h4 : c.code = bytes)
    (h5 : (c.maxLocals == mx && c.exceptionTable.isEmpty && decide (c.maxStack ≤ mostOperands) && decide (meth.sig.returnType = rt) && !meth.locks && decide (parseMethodDescriptor y.desc = some meth.sig)) = true) : (Jvm.Cond.code y bytes mx rt).before a s = true := by
  simp only [Bool.and_eq_true, beq_iff_eq, Bool.not_eq_true', decide_eq_true_eq] at h5
  obtain ⟨⟨⟨⟨⟨g1, g2⟩, g3⟩, g4⟩, g5⟩, g6⟩ := h5
  simp [Cond.before, Cond.holds, Cond.value, h1, h2, h3, h4, g1, g2, g3, g4, g5, g6]
def isCode : Jvm.Cond → Bool
  | .code _ _ _ _ => true
  | _ => false
theorem all_split {L : List Jvm.Cond} {P : Jvm.Cond → Bool} (h1 : L.all (fun c => isCode c || P c) = true) (h2 : ∀ c ∈ L.filter isCode, P c = true) : L.all P = true := by
  refine List.all_eq_true.mpr fun c hc => ?_
  have h := List.all_eq_true.mp h1 c hc
  rcases Bool.eq_false_or_eq_true (isCode c) with hi | hi
  · exact h2 c (List.mem_filter.mpr ⟨hc, hi⟩)
  · simpa [hi] using h
set_option maxRecDepth 65536 in
theorem w_c0 : (Jvm.Cond.code x code maxLocals ret).before args0 about1 = true := code_word (m := ⟨1, 2⟩) (meth := k1m2) (c := k1c2) (by decide +kernel) rfl rfl rfl (by decide +kernel)
set_option maxRecDepth 65536 in
theorem w_c1 : (Jvm.Cond.code ({ cls := "com/example/studybridge/studybridge/codec/dicom/DimseCommandWantsResponsePinLaw", name := "pickField", desc := "(III)I" } : Jvm.MethodName) method_2_code (3 : Nat) (Option.some Jvm.ClassFile.FieldType.int)).before args0 about1 = true := code_word (m := ⟨1, 1⟩) (meth := k1m1) (c := k1c1) (by decide +kernel) rfl rfl rfl (by decide +kernel)
set_option maxRecDepth 65536 in
theorem w_c2 : (Jvm.Cond.code ({ cls := "java/util/Optional", name := "empty", desc := "()Ljava/util/Optional;" } : Jvm.MethodName) jdk_32_method_1_code (1 : Nat) (Option.some (Jvm.ClassFile.FieldType.object "java/util/Optional"))).before args0 about1 = true := code_word (m := ⟨4, 0⟩) (meth := k4m0) (c := k4c0) (by decide +kernel) rfl rfl rfl (by decide +kernel)
set_option maxRecDepth 65536 in
theorem w_c3 : (Jvm.Cond.code ({ cls := "com/example/studybridge/studybridge/codec/dicom/DimseCommand", name := "<init>", desc := "(IIILjava/util/Optional;Ljava/util/Optional;Z)V" } : Jvm.MethodName) prog_28_method_1_code (7 : Nat) (Option.none : Option Jvm.ClassFile.FieldType)).before args0 about1 = true := code_word (m := ⟨3, 0⟩) (meth := k3m0) (c := k3c0) (by decide +kernel) rfl rfl rfl (by decide +kernel)
set_option maxRecDepth 65536 in
theorem w_c4 : (Jvm.Cond.code ({ cls := "java/lang/Record", name := "<init>", desc := "()V" } : Jvm.MethodName) jdk_30_method_1_code (1 : Nat) (Option.none : Option Jvm.ClassFile.FieldType)).before args0 about1 = true := code_word (m := ⟨2, 0⟩) (meth := k2m0) (c := k2c0) (by decide +kernel) rfl rfl rfl (by decide +kernel)
set_option maxRecDepth 65536 in
theorem w_c5 : (Jvm.Cond.code ({ cls := "java/lang/Object", name := "<init>", desc := "()V" } : Jvm.MethodName) object_method_1_code (1 : Nat) (Option.none : Option Jvm.ClassFile.FieldType)).before args0 about1 = true := code_word (m := ⟨0, 0⟩) (meth := k0m0) (c := k0c0) (by decide +kernel) rfl rfl rfl (by decide +kernel)
set_option maxRecDepth 65536 in
theorem w_c6 : (Jvm.Cond.code ({ cls := "com/example/studybridge/studybridge/codec/dicom/DimseCommand", name := "wantsResponse", desc := "()Z" } : Jvm.MethodName) prog_28_method_2_code (1 : Nat) (Option.some Jvm.ClassFile.FieldType.boolean)).before args0 about1 = true := code_word (m := ⟨3, 1⟩) (meth := k3m1) (c := k3c1) (by decide +kernel) rfl rfl rfl (by decide +kernel)
def codes1 : List Jvm.Cond := [Jvm.Cond.code x code maxLocals ret, Jvm.Cond.code ({ cls := "com/example/studybridge/studybridge/codec/dicom/DimseCommandWantsResponsePinLaw", name := "pickField", desc := "(III)I" } : Jvm.MethodName) method_2_code (3 : Nat) (Option.some Jvm.ClassFile.FieldType.int), Jvm.Cond.code ({ cls := "java/util/Optional", name := "empty", desc := "()Ljava/util/Optional;" } : Jvm.MethodName) jdk_32_method_1_code (1 : Nat) (Option.some (Jvm.ClassFile.FieldType.object "java/util/Optional")), Jvm.Cond.code ({ cls := "com/example/studybridge/studybridge/codec/dicom/DimseCommand", name := "<init>", desc := "(IIILjava/util/Optional;Ljava/util/Optional;Z)V" } : Jvm.MethodName) prog_28_method_1_code (7 : Nat) (Option.none : Option Jvm.ClassFile.FieldType), Jvm.Cond.code ({ cls := "java/lang/Record", name := "<init>", desc := "()V" } : Jvm.MethodName) jdk_30_method_1_code (1 : Nat) (Option.none : Option Jvm.ClassFile.FieldType), Jvm.Cond.code ({ cls := "java/lang/Object", name := "<init>", desc := "()V" } : Jvm.MethodName) object_method_1_code (1 : Nat) (Option.none : Option Jvm.ClassFile.FieldType), Jvm.Cond.code ({ cls := "com/example/studybridge/studybridge/codec/dicom/DimseCommand", name := "wantsResponse", desc := "()Z" } : Jvm.MethodName) prog_28_method_2_code (1 : Nat) (Option.some Jvm.ClassFile.FieldType.boolean)]
set_option maxRecDepth 65536 in
theorem codes_eq : words1.filter isCode = codes1 := rfl
theorem w_codes : ∀ c ∈ words1.filter isCode, c.before args0 about1 = true := by
  rw [codes_eq]
  intro c hc
  simp only [codes1, List.mem_cons, List.not_mem_nil, or_false] at hc
  rcases hc with rfl | rfl | rfl | rfl | rfl | rfl | rfl
  · exact w_c0
  · exact w_c1
  · exact w_c2
  · exact w_c3
  · exact w_c4
  · exact w_c5
  · exact w_c6
set_option maxRecDepth 65536 in
theorem w_t1 : (words1.take 24).all (fun c => isCode c || c.before args0 about1) = true := by decide +kernel
set_option maxRecDepth 65536 in
theorem w_t2 : (words1.drop 24).all (fun c => isCode c || c.before args0 about1) = true := by decide +kernel
theorem w_tables : (allAtoms (Jvm.Cond.code x code maxLocals ret :: tables_1)).before args0 about1 = true := by
  rw [allAtoms_all]
  show words1.all (fun c => c.before args0 about1) = true
  refine all_split ?_ w_codes
  rw [← List.take_append_drop 24 words1, List.all_append, w_t1, w_t2]
  rfl
set_option maxRecDepth 65536 in
theorem w_rest : rest_1_c.before args0 about1 = true := by decide +kernel
set_option maxRecDepth 65536 in
theorem w_case : (Jvm.Cond.and given_1 narrow_1).before args0 about1 = true := by decide +kernel
theorem w_applies : (headSpec (Jvm.Cond.code x code maxLocals ret :: tables_1) room_1).applies x e0.platform about1 = true :=
  (Spec.applies_iff w_frames).mpr ⟨w_running, w_runnable, w_alone, w_named, w_hears, w_ripe, w_room, w_tables⟩
theorem atStart : AtStart classFile x code maxLocals ret World_1 tables_1 room_1 Calls_1 rest_1 Pre_1 launch0 p0 e0 about1 theMethod args0 below0 :=
  ⟨lists_1, trivial, launch0.admits_env _ _ _, launch0.least_env, fairChoices_fair.cas, fairChoices_fair.clock, w_frames, w_args, w_heap, w_applies, trivial, w_rest, w_case⟩
end start1
theorem witness_1 : WitnessClaimed_1 := ⟨start1.p0, start1.e0, start1.about1, start1.theMethod, start1.args0, start1.below0, start1.atStart⟩
end Jvm.Pilot.@@N@@
