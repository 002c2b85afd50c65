import JvmDerived
import JvmDerived.Pilot.@@N@@Statement
import JvmDerived.Pilot.@@N@@Code
set_option linter.unusedVariables false
set_option linter.unusedSimpArgs false
namespace Jvm.RoadKit
open Sem ClassFile Op Lib Jvm.Stand Jvm.Free Jvm.LawKit
section New
variable {p : Program} {l : Launch} {e : Env} {R : Room} {s : State} {m : MethodId} {args : Array Value} {below : List Frame} {meth : Method} {c : Code} {T : State} {locs : List Loc} {cells slots : Nat}
theorem retI (X : Stand p l e R s m args below meth c T locs cells slots) (hx : p.tables.exec = Jvm.exec) {pc : Nat} {Ls : Array Slot} {z : Int32} {rest : List Value} (hret : meth.sig.returnType = some .int) (hd : decode c.code pc = .ok (.ireturn, 1)) {fs : List Frame}
    (hl : ∀ (f : JFrame) (acts : List Action), f.method = m → f.locked = none → f.entered = [] → (doReturn e (T.setTop f) acts (some (.int z))).1 = T.setFrames fs) : Steps p.tables e below (T.setTop (mkF m pc Ls (.int z :: rest))) (T.setFrames fs) := by
  have hm' : T.vm.method? m = some meth := X.method'
  have hn : narrow .int (.int z) = .int z := rfl
  show Steps p.tables e below (T.setTop { method := m, pc := pc, locals := Ls, stack := _ :: rest, locked := none }) _
  jvm_step X.here [X.here.top, hx, hd, hm', hret, hn]
  first | (intro acts; rw [hl _ acts rfl rfl rfl]) | rw [hl _ _ rfl rfl rfl]
  exact Steps.refl _
theorem own_lremM {g : JFrame} {target : State} (X : Stand p l e R s m args below meth c T locs cells slots) (hx : p.tables.exec = Jvm.exec) (hg : g.method = m) {x y : Int64} {rest : List Value} (hd : decode c.code g.pc = .ok (.lrem, 1)) (hs : g.stack = .long y :: .long x :: rest) (hy : y ≠ 0)
    (hr : Steps p.tables e below (T.setTop { g with pc := g.pc + 1, stack := .long (x % y) :: rest }) target) : Steps p.tables e below (T.setTop g) target := by
  have q : x - x / y * y = x % y := lrem_mod x y
  exact XS.lrem X.here hx hg hd hs hy (by rw [q]; exact hr)
theorem own_getD_int (L : List Int32) (n : Nat) (d : Int32) : (L.map Value.int).getD n (.int d) = .int (L.getD n d) := by simp [List.getD_eq_getElem?_getD, List.getElem?_map]
theorem own_getD_long (L : List Int64) (n : Nat) (d : Int64) : (L.map Value.long).getD n (.long d) = .long (L.getD n d) := by simp [List.getD_eq_getElem?_getD, List.getElem?_map]
theorem own_lt_nat {j z : Int32} (h : ¬ j < 0) (q : j < z) : j.toNatClampNeg < z.toNatClampNeg := by
  rw [Int32.lt_iff_toInt_lt] at h q; have : (0 : Int32).toInt = 0 := rfl
  simp only [Int32.toNatClampNeg]; omega
theorem own_eq_int {t : Term} {v : Int32} {args : Array Value} {s : State} (h : (Cond.eq t (.int v)).value args s none s [] = some true) : t.eval args s none [] s = some (.int v) := by
  simp only [Cond.value, Term.eval] at h
  cases ht : t.eval args s none [] s with
  | none => simp [ht] at h
  | some x => cases x <;> simp [ht] at h ⊢; exact h
theorem own_eq_long {t : Term} {v : Int64} {args : Array Value} {s : State} (h : (Cond.eq t (.long v)).value args s none s [] = some true) : t.eval args s none [] s = some (.long v) := by
  simp only [Cond.value, Term.eval] at h
  cases ht : t.eval args s none [] s with
  | none => simp [ht] at h
  | some x => cases x <;> simp [ht] at h ⊢; exact h
theorem own_selpriv {s : State} {args : Array Value} {y : MethodName} {n : Nat} (wi : (Cond.instantiable y.cls n).before args s = true) (hpriv : s.PrivateAt y) (hinst : (Cond.instanceMethod y).before args s = true) (hy : y.cls ≠ "java/lang/invoke/MethodHandle" ∧ y.cls ≠ "java/lang/invoke/VarHandle") : (Cond.selects y.cls y y).before args s = true := by
  obtain ⟨c, k, h1, h2, -, h4, -⟩ := Cond.instantiable_spec wi
  exact Jvm.Stand.selects_self_of_private h1 h2 (Bool.or_eq_false_iff.mp h4).1 hpriv hinst hy
theorem own_len {t : Term} {x : Addr} {z : Int32} {cl : Cell} {args : Array Value} {s : State} (ht : t.eval args s none [] s = some (.ref x)) (h : (Term.length t).eval args s none [] s = some (.int z)) (ha : s.arrayAt? x = some cl) : cl.slots.size < 2 ^ 31 ∧ cl.slots.size.toInt32 = z := by
  by_cases q : cl.slots.size < 2 ^ 31
  · refine ⟨q, ?_⟩
    rw [len_f ht ha q] at h
    simpa using h
  · exfalso
    simp [Term.eval, ht, ha, q] at h
theorem own_pad {Z : State} {h : Heap} {a : Addr} {k : ClassId} {ty : FieldType} {z : Int32} {dv : Value} (A : Arv Z h a k ty z [] dv) (n : Nat) : Arv Z h a k ty z (List.replicate n dv) dv := A.pad (pad_rep [] dv n)
theorem own_ne_b {a b n : Nat} (h : a < n) (g : n ≤ b) : a ≠ b := Nat.ne_of_lt (Nat.lt_of_lt_of_le h g)
theorem own_cp_list (L : List Int32) (sp nn : Nat) : (List.take 0 (List.map Value.int (List.replicate nn (0 : Int32))) ++ (List.range nn).map (fun i => (List.map Value.int L).getD (sp + i) (.int (0 : Int32))) ++ List.drop (0 + nn) (List.map Value.int (List.replicate nn (0 : Int32)))) = List.map Value.int ((List.range nn).map (fun i => L.getD (sp + i) (0 : Int32))) := by
  rw [List.take_zero, List.nil_append, Nat.zero_add, List.drop_eq_nil_of_le (by simp), List.append_nil, List.map_map]
  exact List.map_congr_left fun i _ => own_getD_int L (sp + i) 0
theorem own_ne_oa {Z : State} {h : Heap} {a b : Addr} {C : String} {a0 : Array Value} {n : Nat} {k : ClassId} {ty : FieldType} {z : Int32} {vs : List Value} {dv : Value} (E : Exa Z h a C) (wi : (Cond.instantiable C n).before a0 Z = true) (V : Arv Z h b k ty z vs dv) : a ≠ b := by
  obtain ⟨c, A, -⟩ := V; exact ne_arr E wi A
theorem own_narb (P : Prop) [Decidable P] : nar .boolean (if P then (1 : Int32) else (0 : Int32)) = if P then (1 : Int32) else (0 : Int32) := by by_cases h : P <;> simp only [h, if_true, if_false] <;> rfl
end New
end Jvm.RoadKit
namespace Jvm.Pilot.@@N@@
open Jvm Jvm.ClassFile Sem Op Lib Jvm.Free Jvm.Stand Jvm.LawKit Jvm.RoadKit Bundle Jvm.Pilot.@@N@@.Jvm.D
abbrev cSe : String := "com/example/studybridge/studybridge/codec/mime/MultipartBoundary$Search"
abbrev cLw : String := "com/example/studybridge/studybridge/codec/mime/SearchSeePinLaw"
theorem own_idx {s : Int32} (c : (0 : Int32) < s) (h : s < (5 : Int32)) : ¬ (s - (1 : Int32)) < 0 ∧ (s - (1 : Int32)) < (5 : Int32) := by
  rw [Int32.lt_iff_toInt_lt] at *; rw [Int32.lt_iff_toInt_lt]
  have z0 : (0 : Int32).toInt = 0 := rfl
  have z1 : (1 : Int32).toInt = 1 := rfl
  have z5 : (5 : Int32).toInt = 5 := rfl
  have a := c_isub s 1; have r := rng32 (s - 1); omega
theorem own_dec {s : Int32} (c : (0 : Int32) < s) (h : s < (5 : Int32)) : (s + (-1 : Int32)) < (5 : Int32) := by
  rw [Int32.lt_iff_toInt_lt] at *
  have z0 : (0 : Int32).toInt = 0 := rfl
  have z1 : (-1 : Int32).toInt = -1 := rfl
  have z5 : (5 : Int32).toInt = 5 := rfl
  have a := c_iadd s (-1); have r := rng32 (s + -1); omega
theorem d1_0 : decode method_2_code 0 = .ok (.iload_n 0, 1) := by decide +kernel
theorem d1_1 : decode method_2_code 1 = .ok (.bipush 8, 2) := by decide +kernel
theorem d1_3 : decode method_2_code 3 = .ok (.iushr, 1) := by decide +kernel
theorem d1_4 : decode method_2_code 4 = .ok (.bipush 7, 2) := by decide +kernel
theorem d1_6 : decode method_2_code 6 = .ok (.iand, 1) := by decide +kernel
theorem d1_7 : decode method_2_code 7 = .ok (.istore_n 1, 1) := by decide +kernel
theorem d1_8 : decode method_2_code 8 = .ok (.iload_n 1, 1) := by decide +kernel
theorem d1_9 : decode method_2_code 9 = .ok (.iconst 2, 1) := by decide +kernel
theorem d1_10 : decode method_2_code 10 = .ok (.if_icmp .ge 6, 3) := by decide +kernel
theorem d1_13 : decode method_2_code 13 = .ok (.bipush 45, 2) := by decide +kernel
theorem d1_15 : decode method_2_code 15 = .ok (.ireturn, 1) := by decide +kernel
theorem d1_16 : decode method_2_code 16 = .ok (.iload_n 1, 1) := by decide +kernel
theorem d1_17 : decode method_2_code 17 = .ok (.iconst 2, 1) := by decide +kernel
theorem d1_18 : decode method_2_code 18 = .ok (.if_icmp .ne 6, 3) := by decide +kernel
theorem d1_21 : decode method_2_code 21 = .ok (.bipush 13, 2) := by decide +kernel
theorem d1_23 : decode method_2_code 23 = .ok (.ireturn, 1) := by decide +kernel
theorem d1_24 : decode method_2_code 24 = .ok (.iload_n 1, 1) := by decide +kernel
theorem d1_25 : decode method_2_code 25 = .ok (.iconst 3, 1) := by decide +kernel
theorem d1_26 : decode method_2_code 26 = .ok (.if_icmp .ne 6, 3) := by decide +kernel
theorem d1_29 : decode method_2_code 29 = .ok (.bipush 10, 2) := by decide +kernel
theorem d1_31 : decode method_2_code 31 = .ok (.ireturn, 1) := by decide +kernel
theorem d1_32 : decode method_2_code 32 = .ok (.iload_n 1, 1) := by decide +kernel
theorem d1_33 : decode method_2_code 33 = .ok (.iconst 4, 1) := by decide +kernel
theorem d1_34 : decode method_2_code 34 = .ok (.if_icmp .ne 33, 3) := by decide +kernel
theorem d1_37 : decode method_2_code 37 = .ok (.iload_n 0, 1) := by decide +kernel
theorem d1_38 : decode method_2_code 38 = .ok (.iconst 3, 1) := by decide +kernel
theorem d1_39 : decode method_2_code 39 = .ok (.iand, 1) := by decide +kernel
theorem d1_40 : decode method_2_code 40 = .ok (.istore_n 2, 1) := by decide +kernel
theorem d1_41 : decode method_2_code 41 = .ok (.iload_n 2, 1) := by decide +kernel
theorem d1_42 : decode method_2_code 42 = .ok (.ifCond .ne 6, 3) := by decide +kernel
theorem d1_45 : decode method_2_code 45 = .ok (.bipush 32, 2) := by decide +kernel
theorem d1_47 : decode method_2_code 47 = .ok (.ireturn, 1) := by decide +kernel
theorem d1_48 : decode method_2_code 48 = .ok (.iload_n 2, 1) := by decide +kernel
theorem d1_49 : decode method_2_code 49 = .ok (.iconst 1, 1) := by decide +kernel
theorem d1_50 : decode method_2_code 50 = .ok (.if_icmp .ne 6, 3) := by decide +kernel
theorem d1_53 : decode method_2_code 53 = .ok (.bipush 9, 2) := by decide +kernel
theorem d1_55 : decode method_2_code 55 = .ok (.ireturn, 1) := by decide +kernel
theorem d1_56 : decode method_2_code 56 = .ok (.iload_n 2, 1) := by decide +kernel
theorem d1_57 : decode method_2_code 57 = .ok (.iconst 2, 1) := by decide +kernel
theorem d1_58 : decode method_2_code 58 = .ok (.if_icmp .ne 6, 3) := by decide +kernel
theorem d1_61 : decode method_2_code 61 = .ok (.bipush 11, 2) := by decide +kernel
theorem d1_63 : decode method_2_code 63 = .ok (.ireturn, 1) := by decide +kernel
theorem d1_64 : decode method_2_code 64 = .ok (.bipush 12, 2) := by decide +kernel
theorem d1_66 : decode method_2_code 66 = .ok (.ireturn, 1) := by decide +kernel
theorem d1_67 : decode method_2_code 67 = .ok (.iload_n 0, 1) := by decide +kernel
theorem d1_68 : decode method_2_code 68 = .ok (.i2b, 1) := by decide +kernel
theorem d1_69 : decode method_2_code 69 = .ok (.ireturn, 1) := by decide +kernel
theorem pn_48 : plainName cLw = true := by first | (simp [plainName, overriddenIn]; done) | decide +kernel
def v1_7_l1 (p0 : Int32) : Int32 := (((p0.toUInt32 >>> ((8 : Int32) &&& 31).toUInt32).toInt32) &&& (7 : Int32))
def v1_ret (p0 : Int32) : Int32 := (if (v1_7_l1 p0) < (2 : Int32) then (45 : Int32) else (if (v1_7_l1 p0) = (2 : Int32) then (13 : Int32) else (if (v1_7_l1 p0) = (3 : Int32) then (10 : Int32) else (if (v1_7_l1 p0) = (4 : Int32) then (if (p0 &&& (3 : Int32)) = (0 : Int32) then (32 : Int32) else (if (p0 &&& (3 : Int32)) = (1 : Int32) then (9 : Int32) else (if (p0 &&& (3 : Int32)) = (2 : Int32) then (11 : Int32) else (12 : Int32)))) else (nar .byte (p0.toInt8.toInt32))))))
theorem ef_rm1 (m : MethodId) (p0 : Int32) : entryFrame m #[(.int p0)] 3 = mkF m 0 #[iv p0, .unset, .unset] [] := by first | (simp [entryFrame, mkF, argsToLocals, Value.category]; done) | rfl
def Q1 (Z : State) (p0 : Int32) (h0 : Heap) (n0 : Nat) (v : Option Value) (h : Heap) (L : List Loc) : Prop := (v = some (.int (v1_ret p0)) ∧ Fr n0 L ∧ h = h0)
set_option maxRecDepth 65536 in
set_option maxHeartbeats 40000000 in
theorem rm1 (l : Launch) (Z : State) (a0 : Array Value) (hw : ∀ d ∈ tables_1, d.before a0 Z = true) (ws : List Jvm.Cond) (p0 : Int32) (h0 : Heap) (n0 : Nat) (Z0 : n0 ≤ h0.size) :
    MetFree l (⟨cLw, "pick", "(I)B"⟩ : MethodName) (head1 (Jvm.Cond.code (⟨cLw, "pick", "(I)B"⟩ : MethodName) method_2_code 3 (some .byte) :: ws) ({ frames := 0, cells := 0, slots := 0, locals := 0 } : Room)) (fun a U => a = #[(.int p0)] ∧ Z.Warmed39 U.vm ∧ U.heap = h0) (fun _ _ _ _ _ => True) (fun _ U o U' => ∃ v L, o = .returned v ∧ Q1 Z p0 h0 n0 v U'.heap L ∧ FrameEnd U o U' L ({ frames := 0, cells := 0, slots := 0, locals := 0 } : Room).cells ({ frames := 0, cells := 0, slots := 0, locals := 0 } : Room).slots) := by
  refine MetFree.of_bodySF (plainFor_of_name pn_48) hisR ?_
  intro p e s m args below meth c s₁ Bd hml0 hP hK
  obtain ⟨rfl, hZ, hh⟩ := hP
  have hx := Bd.exec
  have hlk : meth.locks = false := by first | exact BodyLoose.notSynchronized Bd | exact Body.notSynchronized Bd
  have hby := Bd.bytes
  have hml : c.maxLocals = 3 := hml0
  have hown : s.vm.findClass cLw = some m.cls := findClass_of_methodNamed Bd.named
  have hnm := (name_of_methodNamed Bd.named Bd.method).1
  have X0 : Stand p l e ({ frames := 0, cells := 0, slots := 0, locals := 0 } : Room) s m #[(.int p0)] below meth c s₁ [] 0 0 := Stand.of_body Bd
  have e0 : s₁.heap = h0 := by rw [← hh, Bd.state]; rfl
  have N0 := Fr.nil n0
  have KC0 := Keep.refl h0 ([] : List Addr)
  have pre0 : ∀ t, Steps p.tables e below (s₁.setTop (mkF m 0 #[iv p0, .unset, .unset] [])) t → Steps p.tables e below (s₁.setTop (entryFrame m #[(.int p0)] 3)) t := fun t k => castTop (ef_rm1 m p0) k
  have k1 := fun (t : State) (kk : Steps p.tables e below (s₁.setTop (mkF m 10 #[iv p0, iv (v1_7_l1 p0), .unset] [(.int 2), (.int (v1_7_l1 p0))])) t) => pre0 t (by
    refine XS.iloadN X0.here hx rfl (hb hby d1_0) rfl ?_
    show Steps p.tables e below (s₁.setTop (mkF m 1 #[iv p0, .unset, .unset] [(.int p0)])) _
    refine XS.bipush X0.here hx rfl (hb hby d1_1) ?_
    refine XS.iushr X0.here hx rfl (hb hby d1_3) rfl ?_
    refine XS.bipush X0.here hx rfl (hb hby d1_4) ?_
    refine XS.iand X0.here hx rfl (hb hby d1_6) rfl ?_
    refine XS.istoreN X0.here hx rfl (hb hby d1_7) rfl (l' := #[iv p0, iv (v1_7_l1 p0), .unset]) rfl ?_
    refine XS.iloadN X0.here hx rfl (hb hby d1_8) rfl ?_
    refine XS.iconst X0.here hx rfl (hb hby d1_9) ?_
    exact kk)
  by_cases hc10_2 : (v1_7_l1 p0) < (2 : Int32)
  · have k3 := fun (t : State) (kk : Steps p.tables e below (s₁.setTop (mkF m 15 #[iv p0, iv (v1_7_l1 p0), .unset] [(.int 45)])) t) => k1 t (by
      refine XS.icmpNo X0.here hx rfl (hb hby d1_10) rfl (tlt hc10_2).2.1 ?_
      refine XS.bipush X0.here hx rfl (hb hby d1_13) ?_
      exact kk)
    obtain ⟨fs, hr, hrun, hended, hW, hsame⟩ := X0.leave (v := some (.int 45)) (fun h => by rw [Bd.returns] at h; cases h) hlk
    have hv : (v1_ret p0) = (45 : Int32) := (if_pos hc10_2)
    refine ⟨_, _, k3 _ ?_, hrun, hended, _, _, rfl, ?_, ⟨_, rfl⟩, hW, hsame.mono (by decide) (by decide)⟩
    · show Steps p.tables e below (s₁.setTop (mkF m 15 #[iv p0, iv (v1_7_l1 p0), .unset] [(.int 45)])) _
      exact retN X0 hx (t := .byte) Bd.returns (by simp) (hb hby d1_15) hr
    · show Q1 Z p0 h0 n0 _ s₁.heap _
      rw [e0]
      exact ⟨(congrArg (fun z => some (Value.int z)) hv).symm, N0, rfl⟩
  · have k4 := fun (t : State) (kk : Steps p.tables e below (s₁.setTop (mkF m 18 #[iv p0, iv (v1_7_l1 p0), .unset] [(.int 2), (.int (v1_7_l1 p0))])) t) => k1 t (by
      refine XS.icmpYes X0.here hx rfl (pc0 := 10) (pc' := 16) rfl (hb hby d1_10) rfl (flt hc10_2).2.1 (by decide) (by decide) ?_
      refine XS.iloadN X0.here hx rfl (hb hby d1_16) rfl ?_
      refine XS.iconst X0.here hx rfl (hb hby d1_17) ?_
      exact kk)
    by_cases hc18_5 : (v1_7_l1 p0) = (2 : Int32)
    · have k6 := fun (t : State) (kk : Steps p.tables e below (s₁.setTop (mkF m 23 #[iv p0, iv (v1_7_l1 p0), .unset] [(.int 13)])) t) => k4 t (by
        show Steps p.tables e below (s₁.setTop (mkF m 18 #[iv p0, iv (v1_7_l1 p0), .unset] [(.int 2), (.int (v1_7_l1 p0))])) _
        refine XS.icmpNo X0.here hx rfl (hb hby d1_18) rfl (teq hc18_5).2 ?_
        refine XS.bipush X0.here hx rfl (hb hby d1_21) ?_
        exact kk)
      obtain ⟨fs, hr, hrun, hended, hW, hsame⟩ := X0.leave (v := some (.int 13)) (fun h => by rw [Bd.returns] at h; cases h) hlk
      have hv : (v1_ret p0) = (13 : Int32) := ((if_neg hc10_2).trans (if_pos hc18_5))
      refine ⟨_, _, k6 _ ?_, hrun, hended, _, _, rfl, ?_, ⟨_, rfl⟩, hW, hsame.mono (by decide) (by decide)⟩
      · show Steps p.tables e below (s₁.setTop (mkF m 23 #[iv p0, iv (v1_7_l1 p0), .unset] [(.int 13)])) _
        exact retN X0 hx (t := .byte) Bd.returns (by simp) (hb hby d1_23) hr
      · show Q1 Z p0 h0 n0 _ s₁.heap _
        rw [e0]
        exact ⟨(congrArg (fun z => some (Value.int z)) hv).symm, N0, rfl⟩
    · have k7 := fun (t : State) (kk : Steps p.tables e below (s₁.setTop (mkF m 26 #[iv p0, iv (v1_7_l1 p0), .unset] [(.int 3), (.int (v1_7_l1 p0))])) t) => k4 t (by
        refine XS.icmpYes X0.here hx rfl (pc0 := 18) (pc' := 24) rfl (hb hby d1_18) rfl (feq hc18_5).2 (by decide) (by decide) ?_
        refine XS.iloadN X0.here hx rfl (hb hby d1_24) rfl ?_
        refine XS.iconst X0.here hx rfl (hb hby d1_25) ?_
        exact kk)
      by_cases hc26_8 : (v1_7_l1 p0) = (3 : Int32)
      · have k9 := fun (t : State) (kk : Steps p.tables e below (s₁.setTop (mkF m 31 #[iv p0, iv (v1_7_l1 p0), .unset] [(.int 10)])) t) => k7 t (by
          refine XS.icmpNo X0.here hx rfl (hb hby d1_26) rfl (teq hc26_8).2 ?_
          refine XS.bipush X0.here hx rfl (hb hby d1_29) ?_
          exact kk)
        obtain ⟨fs, hr, hrun, hended, hW, hsame⟩ := X0.leave (v := some (.int 10)) (fun h => by rw [Bd.returns] at h; cases h) hlk
        have hv : (v1_ret p0) = (10 : Int32) := ((if_neg hc10_2).trans ((if_neg hc18_5).trans (if_pos hc26_8)))
        refine ⟨_, _, k9 _ ?_, hrun, hended, _, _, rfl, ?_, ⟨_, rfl⟩, hW, hsame.mono (by decide) (by decide)⟩
        · show Steps p.tables e below (s₁.setTop (mkF m 31 #[iv p0, iv (v1_7_l1 p0), .unset] [(.int 10)])) _
          exact retN X0 hx (t := .byte) Bd.returns (by simp) (hb hby d1_31) hr
        · show Q1 Z p0 h0 n0 _ s₁.heap _
          rw [e0]
          exact ⟨(congrArg (fun z => some (Value.int z)) hv).symm, N0, rfl⟩
      · have k10 := fun (t : State) (kk : Steps p.tables e below (s₁.setTop (mkF m 34 #[iv p0, iv (v1_7_l1 p0), .unset] [(.int 4), (.int (v1_7_l1 p0))])) t) => k7 t (by
          refine XS.icmpYes X0.here hx rfl (pc0 := 26) (pc' := 32) rfl (hb hby d1_26) rfl (feq hc26_8).2 (by decide) (by decide) ?_
          refine XS.iloadN X0.here hx rfl (hb hby d1_32) rfl ?_
          refine XS.iconst X0.here hx rfl (hb hby d1_33) ?_
          exact kk)
        by_cases hc34_11 : (v1_7_l1 p0) = (4 : Int32)
        · have k12 := fun (t : State) (kk : Steps p.tables e below (s₁.setTop (mkF m 42 #[iv p0, iv (v1_7_l1 p0), iv (p0 &&& (3 : Int32))] [(.int (p0 &&& (3 : Int32)))])) t) => k10 t (by
            refine XS.icmpNo X0.here hx rfl (hb hby d1_34) rfl (teq hc34_11).2 ?_
            refine XS.iloadN X0.here hx rfl (hb hby d1_37) rfl ?_
            show Steps p.tables e below (s₁.setTop (mkF m 38 #[iv p0, iv (v1_7_l1 p0), .unset] [(.int p0)])) _
            refine XS.iconst X0.here hx rfl (hb hby d1_38) ?_
            refine XS.iand X0.here hx rfl (hb hby d1_39) rfl ?_
            refine XS.istoreN X0.here hx rfl (hb hby d1_40) rfl (l' := #[iv p0, iv (v1_7_l1 p0), iv (p0 &&& (3 : Int32))]) rfl ?_
            refine XS.iloadN X0.here hx rfl (hb hby d1_41) rfl ?_
            exact kk)
          by_cases hc42_13 : (p0 &&& (3 : Int32)) = (0 : Int32)
          · have k14 := fun (t : State) (kk : Steps p.tables e below (s₁.setTop (mkF m 47 #[iv p0, iv (v1_7_l1 p0), iv (p0 &&& (3 : Int32))] [(.int 32)])) t) => k12 t (by
              refine XS.ifNo X0.here hx rfl (hb hby d1_42) rfl ((if0 _ _).trans (teq hc42_13).2) ?_
              refine XS.bipush X0.here hx rfl (hb hby d1_45) ?_
              exact kk)
            obtain ⟨fs, hr, hrun, hended, hW, hsame⟩ := X0.leave (v := some (.int 32)) (fun h => by rw [Bd.returns] at h; cases h) hlk
            have hv : (v1_ret p0) = (32 : Int32) := ((if_neg hc10_2).trans ((if_neg hc18_5).trans ((if_neg hc26_8).trans ((if_pos hc34_11).trans (if_pos hc42_13)))))
            refine ⟨_, _, k14 _ ?_, hrun, hended, _, _, rfl, ?_, ⟨_, rfl⟩, hW, hsame.mono (by decide) (by decide)⟩
            · show Steps p.tables e below (s₁.setTop (mkF m 47 #[iv p0, iv (v1_7_l1 p0), iv (p0 &&& (3 : Int32))] [(.int 32)])) _
              exact retN X0 hx (t := .byte) Bd.returns (by simp) (hb hby d1_47) hr
            · show Q1 Z p0 h0 n0 _ s₁.heap _
              rw [e0]
              exact ⟨(congrArg (fun z => some (Value.int z)) hv).symm, N0, rfl⟩
          · have k15 := fun (t : State) (kk : Steps p.tables e below (s₁.setTop (mkF m 50 #[iv p0, iv (v1_7_l1 p0), iv (p0 &&& (3 : Int32))] [(.int 1), (.int (p0 &&& (3 : Int32)))])) t) => k12 t (by
              refine XS.ifYes X0.here hx rfl (pc0 := 42) (pc' := 48) rfl (hb hby d1_42) rfl ((if0 _ _).trans (feq hc42_13).2) (by decide) (by decide) ?_
              refine XS.iloadN X0.here hx rfl (hb hby d1_48) rfl ?_
              refine XS.iconst X0.here hx rfl (hb hby d1_49) ?_
              exact kk)
            by_cases hc50_16 : (p0 &&& (3 : Int32)) = (1 : Int32)
            · have k17 := fun (t : State) (kk : Steps p.tables e below (s₁.setTop (mkF m 55 #[iv p0, iv (v1_7_l1 p0), iv (p0 &&& (3 : Int32))] [(.int 9)])) t) => k15 t (by
                refine XS.icmpNo X0.here hx rfl (hb hby d1_50) rfl (teq hc50_16).2 ?_
                refine XS.bipush X0.here hx rfl (hb hby d1_53) ?_
                exact kk)
              obtain ⟨fs, hr, hrun, hended, hW, hsame⟩ := X0.leave (v := some (.int 9)) (fun h => by rw [Bd.returns] at h; cases h) hlk
              have hv : (v1_ret p0) = (9 : Int32) := ((if_neg hc10_2).trans ((if_neg hc18_5).trans ((if_neg hc26_8).trans ((if_pos hc34_11).trans ((if_neg hc42_13).trans (if_pos hc50_16))))))
              refine ⟨_, _, k17 _ ?_, hrun, hended, _, _, rfl, ?_, ⟨_, rfl⟩, hW, hsame.mono (by decide) (by decide)⟩
              · show Steps p.tables e below (s₁.setTop (mkF m 55 #[iv p0, iv (v1_7_l1 p0), iv (p0 &&& (3 : Int32))] [(.int 9)])) _
                exact retN X0 hx (t := .byte) Bd.returns (by simp) (hb hby d1_55) hr
              · show Q1 Z p0 h0 n0 _ s₁.heap _
                rw [e0]
                exact ⟨(congrArg (fun z => some (Value.int z)) hv).symm, N0, rfl⟩
            · have k18 := fun (t : State) (kk : Steps p.tables e below (s₁.setTop (mkF m 58 #[iv p0, iv (v1_7_l1 p0), iv (p0 &&& (3 : Int32))] [(.int 2), (.int (p0 &&& (3 : Int32)))])) t) => k15 t (by
                refine XS.icmpYes X0.here hx rfl (pc0 := 50) (pc' := 56) rfl (hb hby d1_50) rfl (feq hc50_16).2 (by decide) (by decide) ?_
                show Steps p.tables e below (s₁.setTop (mkF m 56 #[iv p0, iv (v1_7_l1 p0), iv (p0 &&& (3 : Int32))] [])) _
                refine XS.iloadN X0.here hx rfl (hb hby d1_56) rfl ?_
                refine XS.iconst X0.here hx rfl (hb hby d1_57) ?_
                exact kk)
              by_cases hc58_19 : (p0 &&& (3 : Int32)) = (2 : Int32)
              · have k20 := fun (t : State) (kk : Steps p.tables e below (s₁.setTop (mkF m 63 #[iv p0, iv (v1_7_l1 p0), iv (p0 &&& (3 : Int32))] [(.int 11)])) t) => k18 t (by
                  refine XS.icmpNo X0.here hx rfl (hb hby d1_58) rfl (teq hc58_19).2 ?_
                  refine XS.bipush X0.here hx rfl (hb hby d1_61) ?_
                  exact kk)
                obtain ⟨fs, hr, hrun, hended, hW, hsame⟩ := X0.leave (v := some (.int 11)) (fun h => by rw [Bd.returns] at h; cases h) hlk
                have hv : (v1_ret p0) = (11 : Int32) := ((if_neg hc10_2).trans ((if_neg hc18_5).trans ((if_neg hc26_8).trans ((if_pos hc34_11).trans ((if_neg hc42_13).trans ((if_neg hc50_16).trans (if_pos hc58_19)))))))
                refine ⟨_, _, k20 _ ?_, hrun, hended, _, _, rfl, ?_, ⟨_, rfl⟩, hW, hsame.mono (by decide) (by decide)⟩
                · show Steps p.tables e below (s₁.setTop (mkF m 63 #[iv p0, iv (v1_7_l1 p0), iv (p0 &&& (3 : Int32))] [(.int 11)])) _
                  exact retN X0 hx (t := .byte) Bd.returns (by simp) (hb hby d1_63) hr
                · show Q1 Z p0 h0 n0 _ s₁.heap _
                  rw [e0]
                  exact ⟨(congrArg (fun z => some (Value.int z)) hv).symm, N0, rfl⟩
              · have k21 := fun (t : State) (kk : Steps p.tables e below (s₁.setTop (mkF m 66 #[iv p0, iv (v1_7_l1 p0), iv (p0 &&& (3 : Int32))] [(.int 12)])) t) => k18 t (by
                  refine XS.icmpYes X0.here hx rfl (pc0 := 58) (pc' := 64) rfl (hb hby d1_58) rfl (feq hc58_19).2 (by decide) (by decide) ?_
                  refine XS.bipush X0.here hx rfl (hb hby d1_64) ?_
                  exact kk)
                obtain ⟨fs, hr, hrun, hended, hW, hsame⟩ := X0.leave (v := some (.int 12)) (fun h => by rw [Bd.returns] at h; cases h) hlk
                have hv : (v1_ret p0) = (12 : Int32) := ((if_neg hc10_2).trans ((if_neg hc18_5).trans ((if_neg hc26_8).trans ((if_pos hc34_11).trans ((if_neg hc42_13).trans ((if_neg hc50_16).trans (if_neg hc58_19)))))))
                refine ⟨_, _, k21 _ ?_, hrun, hended, _, _, rfl, ?_, ⟨_, rfl⟩, hW, hsame.mono (by decide) (by decide)⟩
                · show Steps p.tables e below (s₁.setTop (mkF m 66 #[iv p0, iv (v1_7_l1 p0), iv (p0 &&& (3 : Int32))] [(.int 12)])) _
                  exact retN X0 hx (t := .byte) Bd.returns (by simp) (hb hby d1_66) hr
                · show Q1 Z p0 h0 n0 _ s₁.heap _
                  rw [e0]
                  exact ⟨(congrArg (fun z => some (Value.int z)) hv).symm, N0, rfl⟩
        · have k22 := fun (t : State) (kk : Steps p.tables e below (s₁.setTop (mkF m 69 #[iv p0, iv (v1_7_l1 p0), .unset] [(.int (p0.toInt8.toInt32))])) t) => k10 t (by
            refine XS.icmpYes X0.here hx rfl (pc0 := 34) (pc' := 67) rfl (hb hby d1_34) rfl (feq hc34_11).2 (by decide) (by decide) ?_
            refine XS.iloadN X0.here hx rfl (hb hby d1_67) rfl ?_
            refine XS.i2b X0.here hx rfl (hb hby d1_68) rfl ?_
            exact kk)
          obtain ⟨fs, hr, hrun, hended, hW, hsame⟩ := X0.leave (v := some (.int (nar .byte (p0.toInt8.toInt32)))) (fun h => by rw [Bd.returns] at h; cases h) hlk
          have hv : (v1_ret p0) = (nar .byte (p0.toInt8.toInt32)) := ((if_neg hc10_2).trans ((if_neg hc18_5).trans ((if_neg hc26_8).trans (if_neg hc34_11))))
          refine ⟨_, _, k22 _ ?_, hrun, hended, _, _, rfl, ?_, ⟨_, rfl⟩, hW, hsame.mono (by decide) (by decide)⟩
          · show Steps p.tables e below (s₁.setTop (mkF m 69 #[iv p0, iv (v1_7_l1 p0), .unset] [(.int (p0.toInt8.toInt32))])) _
            exact retN X0 hx (t := .byte) Bd.returns (by simp) (hb hby d1_69) hr
          · show Q1 Z p0 h0 n0 _ s₁.heap _
            rw [e0]
            exact ⟨(congrArg (fun z => some (Value.int z)) hv).symm, N0, rfl⟩
theorem d3_0 : decode method_3_code 0 = .ok (.iload_n 0, 1) := by decide +kernel
theorem d3_1 : decode method_3_code 1 = .ok (.bipush 13, 2) := by decide +kernel
theorem d3_3 : decode method_3_code 3 = .ok (.if_icmp .eq 9, 3) := by decide +kernel
theorem d3_6 : decode method_3_code 6 = .ok (.iload_n 0, 1) := by decide +kernel
theorem d3_7 : decode method_3_code 7 = .ok (.bipush 10, 2) := by decide +kernel
theorem d3_9 : decode method_3_code 9 = .ok (.if_icmp .ne 7, 3) := by decide +kernel
theorem d3_12 : decode method_3_code 12 = .ok (.iconst 1, 1) := by decide +kernel
theorem d3_13 : decode method_3_code 13 = .ok (.goto 4, 3) := by decide +kernel
theorem d3_16 : decode method_3_code 16 = .ok (.iconst 0, 1) := by decide +kernel
theorem d3_17 : decode method_3_code 17 = .ok (.ireturn, 1) := by decide +kernel
def v3_9_s0 (p0 : Int32) : Int32 := if p0 = (10 : Int32) then (1 : Int32) else (0 : Int32)
def v3_3_s0 (p0 : Int32) : Int32 := if p0 = (13 : Int32) then (1 : Int32) else (v3_9_s0 p0)
theorem ef_rm3 (m : MethodId) (p0 : Int32) : entryFrame m #[(.int p0)] 1 = mkF m 0 #[iv p0] [] := by first | (simp [entryFrame, mkF, argsToLocals, Value.category]; done) | rfl
def Q3 (Z : State) (p0 : Int32) (h0 : Heap) (n0 : Nat) (v : Option Value) (h : Heap) (L : List Loc) : Prop := (v = some (.int (nar .boolean (v3_3_s0 p0))) ∧ Fr n0 L ∧ h = h0)
set_option maxRecDepth 65536 in
set_option maxHeartbeats 40000000 in
theorem rm3 (l : Launch) (Z : State) (a0 : Array Value) (hw : ∀ d ∈ tables_1, d.before a0 Z = true) (ws : List Jvm.Cond) (p0 : Int32) (h0 : Heap) (n0 : Nat) (Z0 : n0 ≤ h0.size) :
    MetFree l (⟨cLw, "end", "(B)Z"⟩ : MethodName) (head1 (Jvm.Cond.code (⟨cLw, "end", "(B)Z"⟩ : MethodName) method_3_code 1 (some .boolean) :: ws) ({ frames := 0, cells := 0, slots := 0, locals := 0 } : Room)) (fun a U => a = #[(.int p0)] ∧ Z.Warmed39 U.vm ∧ U.heap = h0) (fun _ _ _ _ _ => True) (fun _ U o U' => ∃ v L, o = .returned v ∧ Q3 Z p0 h0 n0 v U'.heap L ∧ FrameEnd U o U' L ({ frames := 0, cells := 0, slots := 0, locals := 0 } : Room).cells ({ frames := 0, cells := 0, slots := 0, locals := 0 } : Room).slots) := by
  refine MetFree.of_bodySF (plainFor_of_name pn_48) hisR ?_
  intro p e s m args below meth c s₁ Bd hml0 hP hK
  obtain ⟨rfl, hZ, hh⟩ := hP
  have hx := Bd.exec
  have hlk : meth.locks = false := by first | exact BodyLoose.notSynchronized Bd | exact Body.notSynchronized Bd
  have hby := Bd.bytes
  have hml : c.maxLocals = 1 := hml0
  have hown : s.vm.findClass cLw = some m.cls := findClass_of_methodNamed Bd.named
  have hnm := (name_of_methodNamed Bd.named Bd.method).1
  have X0 : Stand p l e ({ frames := 0, cells := 0, slots := 0, locals := 0 } : Room) s m #[(.int p0)] below meth c s₁ [] 0 0 := Stand.of_body Bd
  have e0 : s₁.heap = h0 := by rw [← hh, Bd.state]; rfl
  have N0 := Fr.nil n0
  have KC0 := Keep.refl h0 ([] : List Addr)
  have pre0 : ∀ t, Steps p.tables e below (s₁.setTop (mkF m 0 #[iv p0] [])) t → Steps p.tables e below (s₁.setTop (entryFrame m #[(.int p0)] 1)) t := fun t k => castTop (ef_rm3 m p0) k
  have k27 := fun (t : State) (kk : Steps p.tables e below (s₁.setTop (mkF m 17 #[iv p0] [(.int (v3_3_s0 p0))])) t) => pre0 t (by
    refine XS.iloadN X0.here hx rfl (hb hby d3_0) rfl ?_
    refine XS.bipush X0.here hx rfl (hb hby d3_1) ?_
    suffices k26 : Steps p.tables e below (s₁.setTop (mkF m 17 #[iv p0] [(.int (v3_3_s0 p0))])) t by
      by_cases hc3_23 : p0 = (13 : Int32)
      · rw [(show (v3_3_s0 p0) = (1 : Int32) from if_pos hc3_23)] at k26
        refine XS.icmpYes X0.here hx rfl (pc0 := 3) (pc' := 12) rfl (hb hby d3_3) rfl (teq hc3_23).1 (by decide) (by decide) ?_
        refine XS.iconst X0.here hx rfl (hb hby d3_12) ?_
        refine XS.goto X0.here hx rfl (pc0 := 13) (pc' := 17) rfl (hb hby d3_13) (by decide) (by decide) ?_
        exact k26
      · rw [(show (v3_3_s0 p0) = (v3_9_s0 p0) from if_neg hc3_23)] at k26
        refine XS.icmpNo X0.here hx rfl (hb hby d3_3) rfl (feq hc3_23).1 ?_
        refine XS.iloadN X0.here hx rfl (hb hby d3_6) rfl ?_
        refine XS.bipush X0.here hx rfl (hb hby d3_7) ?_
        suffices k25 : Steps p.tables e below (s₁.setTop (mkF m 17 #[iv p0] [(.int (v3_9_s0 p0))])) t by
          by_cases hc9_24 : p0 = (10 : Int32)
          · rw [(show (v3_9_s0 p0) = (1 : Int32) from if_pos hc9_24)] at k25
            refine XS.icmpNo X0.here hx rfl (hb hby d3_9) rfl (teq hc9_24).2 ?_
            refine XS.iconst X0.here hx rfl (hb hby d3_12) ?_
            show Steps p.tables e below (s₁.setTop (mkF m 13 #[iv p0] [(.int 1)])) _
            refine XS.goto X0.here hx rfl (pc0 := 13) (pc' := 17) rfl (hb hby d3_13) (by decide) (by decide) ?_
            exact k25
          · rw [(show (v3_9_s0 p0) = (0 : Int32) from if_neg hc9_24)] at k25
            refine XS.icmpYes X0.here hx rfl (pc0 := 9) (pc' := 16) rfl (hb hby d3_9) rfl (feq hc9_24).2 (by decide) (by decide) ?_
            refine XS.iconst X0.here hx rfl (hb hby d3_16) ?_
            exact k25
        exact k26
    exact kk)
  obtain ⟨fs, hr, hrun, hended, hW, hsame⟩ := X0.leave (v := some (.int (nar .boolean (v3_3_s0 p0)))) (fun h => by rw [Bd.returns] at h; cases h) hlk
  refine ⟨_, _, k27 _ ?_, hrun, hended, _, _, rfl, ?_, ⟨_, rfl⟩, hW, hsame.mono (by decide) (by decide)⟩
  · show Steps p.tables e below (s₁.setTop (mkF m 17 #[iv p0] [(.int (v3_3_s0 p0))])) _
    exact retN X0 hx (t := .boolean) Bd.returns (by simp) (hb hby d3_17) hr
  · show Q3 Z p0 h0 n0 _ s₁.heap _
    rw [e0]
    exact ⟨rfl, N0, rfl⟩
theorem d16_0 : decode method_4_code 0 = .ok (.iload_n 0, 1) := by decide +kernel
theorem d16_1 : decode method_4_code 1 = .ok (.bipush 32, 2) := by decide +kernel
theorem d16_3 : decode method_4_code 3 = .ok (.if_icmp .eq 21, 3) := by decide +kernel
theorem d16_6 : decode method_4_code 6 = .ok (.iload_n 0, 1) := by decide +kernel
theorem d16_7 : decode method_4_code 7 = .ok (.bipush 9, 2) := by decide +kernel
theorem d16_9 : decode method_4_code 9 = .ok (.if_icmp .eq 15, 3) := by decide +kernel
theorem d16_12 : decode method_4_code 12 = .ok (.iload_n 0, 1) := by decide +kernel
theorem d16_13 : decode method_4_code 13 = .ok (.bipush 11, 2) := by decide +kernel
theorem d16_15 : decode method_4_code 15 = .ok (.if_icmp .eq 9, 3) := by decide +kernel
theorem d16_18 : decode method_4_code 18 = .ok (.iload_n 0, 1) := by decide +kernel
theorem d16_19 : decode method_4_code 19 = .ok (.bipush 12, 2) := by decide +kernel
theorem d16_21 : decode method_4_code 21 = .ok (.if_icmp .ne 7, 3) := by decide +kernel
theorem d16_24 : decode method_4_code 24 = .ok (.iconst 1, 1) := by decide +kernel
theorem d16_25 : decode method_4_code 25 = .ok (.goto 4, 3) := by decide +kernel
theorem d16_28 : decode method_4_code 28 = .ok (.iconst 0, 1) := by decide +kernel
theorem d16_29 : decode method_4_code 29 = .ok (.ireturn, 1) := by decide +kernel
def v16_21_s0 (p0 : Int32) : Int32 := if p0 = (12 : Int32) then (1 : Int32) else (0 : Int32)
def v16_15_s0 (p0 : Int32) : Int32 := if p0 = (11 : Int32) then (1 : Int32) else (v16_21_s0 p0)
def v16_9_s0 (p0 : Int32) : Int32 := if p0 = (9 : Int32) then (1 : Int32) else (v16_15_s0 p0)
def v16_3_s0 (p0 : Int32) : Int32 := if p0 = (32 : Int32) then (1 : Int32) else (v16_9_s0 p0)
theorem ef_rm16 (m : MethodId) (p0 : Int32) : entryFrame m #[(.int p0)] 1 = mkF m 0 #[iv p0] [] := by first | (simp [entryFrame, mkF, argsToLocals, Value.category]; done) | rfl
def Q16 (Z : State) (p0 : Int32) (h0 : Heap) (n0 : Nat) (v : Option Value) (h : Heap) (L : List Loc) : Prop := (v = some (.int (nar .boolean (v16_3_s0 p0))) ∧ Fr n0 L ∧ h = h0)
set_option maxRecDepth 65536 in
set_option maxHeartbeats 40000000 in
theorem rm16 (l : Launch) (Z : State) (a0 : Array Value) (hw : ∀ d ∈ tables_1, d.before a0 Z = true) (ws : List Jvm.Cond) (p0 : Int32) (h0 : Heap) (n0 : Nat) (Z0 : n0 ≤ h0.size) :
    MetFree l (⟨cLw, "ws", "(B)Z"⟩ : MethodName) (head1 (Jvm.Cond.code (⟨cLw, "ws", "(B)Z"⟩ : MethodName) method_4_code 1 (some .boolean) :: ws) ({ frames := 0, cells := 0, slots := 0, locals := 0 } : Room)) (fun a U => a = #[(.int p0)] ∧ Z.Warmed39 U.vm ∧ U.heap = h0) (fun _ _ _ _ _ => True) (fun _ U o U' => ∃ v L, o = .returned v ∧ Q16 Z p0 h0 n0 v U'.heap L ∧ FrameEnd U o U' L ({ frames := 0, cells := 0, slots := 0, locals := 0 } : Room).cells ({ frames := 0, cells := 0, slots := 0, locals := 0 } : Room).slots) := by
  refine MetFree.of_bodySF (plainFor_of_name pn_48) hisR ?_
  intro p e s m args below meth c s₁ Bd hml0 hP hK
  obtain ⟨rfl, hZ, hh⟩ := hP
  have hx := Bd.exec
  have hlk : meth.locks = false := by first | exact BodyLoose.notSynchronized Bd | exact Body.notSynchronized Bd
  have hby := Bd.bytes
  have hml : c.maxLocals = 1 := hml0
  have hown : s.vm.findClass cLw = some m.cls := findClass_of_methodNamed Bd.named
  have hnm := (name_of_methodNamed Bd.named Bd.method).1
  have X0 : Stand p l e ({ frames := 0, cells := 0, slots := 0, locals := 0 } : Room) s m #[(.int p0)] below meth c s₁ [] 0 0 := Stand.of_body Bd
  have e0 : s₁.heap = h0 := by rw [← hh, Bd.state]; rfl
  have N0 := Fr.nil n0
  have KC0 := Keep.refl h0 ([] : List Addr)
  have pre0 : ∀ t, Steps p.tables e below (s₁.setTop (mkF m 0 #[iv p0] [])) t → Steps p.tables e below (s₁.setTop (entryFrame m #[(.int p0)] 1)) t := fun t k => castTop (ef_rm16 m p0) k
  have k36 := fun (t : State) (kk : Steps p.tables e below (s₁.setTop (mkF m 29 #[iv p0] [(.int (v16_3_s0 p0))])) t) => pre0 t (by
    refine XS.iloadN X0.here hx rfl (hb hby d16_0) rfl ?_
    refine XS.bipush X0.here hx rfl (hb hby d16_1) ?_
    suffices k35 : Steps p.tables e below (s₁.setTop (mkF m 29 #[iv p0] [(.int (v16_3_s0 p0))])) t by
      by_cases hc3_28 : p0 = (32 : Int32)
      · rw [(show (v16_3_s0 p0) = (1 : Int32) from if_pos hc3_28)] at k35
        refine XS.icmpYes X0.here hx rfl (pc0 := 3) (pc' := 24) rfl (hb hby d16_3) rfl (teq hc3_28).1 (by decide) (by decide) ?_
        refine XS.iconst X0.here hx rfl (hb hby d16_24) ?_
        refine XS.goto X0.here hx rfl (pc0 := 25) (pc' := 29) rfl (hb hby d16_25) (by decide) (by decide) ?_
        exact k35
      · rw [(show (v16_3_s0 p0) = (v16_9_s0 p0) from if_neg hc3_28)] at k35
        refine XS.icmpNo X0.here hx rfl (hb hby d16_3) rfl (feq hc3_28).1 ?_
        refine XS.iloadN X0.here hx rfl (hb hby d16_6) rfl ?_
        refine XS.bipush X0.here hx rfl (hb hby d16_7) ?_
        suffices k34 : Steps p.tables e below (s₁.setTop (mkF m 29 #[iv p0] [(.int (v16_9_s0 p0))])) t by
          by_cases hc9_29 : p0 = (9 : Int32)
          · rw [(show (v16_9_s0 p0) = (1 : Int32) from if_pos hc9_29)] at k34
            refine XS.icmpYes X0.here hx rfl (pc0 := 9) (pc' := 24) rfl (hb hby d16_9) rfl (teq hc9_29).1 (by decide) (by decide) ?_
            refine XS.iconst X0.here hx rfl (hb hby d16_24) ?_
            show Steps p.tables e below (s₁.setTop (mkF m 25 #[iv p0] [(.int 1)])) _
            refine XS.goto X0.here hx rfl (pc0 := 25) (pc' := 29) rfl (hb hby d16_25) (by decide) (by decide) ?_
            exact k34
          · rw [(show (v16_9_s0 p0) = (v16_15_s0 p0) from if_neg hc9_29)] at k34
            refine XS.icmpNo X0.here hx rfl (hb hby d16_9) rfl (feq hc9_29).1 ?_
            refine XS.iloadN X0.here hx rfl (hb hby d16_12) rfl ?_
            refine XS.bipush X0.here hx rfl (hb hby d16_13) ?_
            suffices k33 : Steps p.tables e below (s₁.setTop (mkF m 29 #[iv p0] [(.int (v16_15_s0 p0))])) t by
              by_cases hc15_30 : p0 = (11 : Int32)
              · rw [(show (v16_15_s0 p0) = (1 : Int32) from if_pos hc15_30)] at k33
                refine XS.icmpYes X0.here hx rfl (pc0 := 15) (pc' := 24) rfl (hb hby d16_15) rfl (teq hc15_30).1 (by decide) (by decide) ?_
                refine XS.iconst X0.here hx rfl (hb hby d16_24) ?_
                refine XS.goto X0.here hx rfl (pc0 := 25) (pc' := 29) rfl (hb hby d16_25) (by decide) (by decide) ?_
                exact k33
              · rw [(show (v16_15_s0 p0) = (v16_21_s0 p0) from if_neg hc15_30)] at k33
                refine XS.icmpNo X0.here hx rfl (hb hby d16_15) rfl (feq hc15_30).1 ?_
                refine XS.iloadN X0.here hx rfl (hb hby d16_18) rfl ?_
                refine XS.bipush X0.here hx rfl (hb hby d16_19) ?_
                suffices k32 : Steps p.tables e below (s₁.setTop (mkF m 29 #[iv p0] [(.int (v16_21_s0 p0))])) t by
                  by_cases hc21_31 : p0 = (12 : Int32)
                  · rw [(show (v16_21_s0 p0) = (1 : Int32) from if_pos hc21_31)] at k32
                    refine XS.icmpNo X0.here hx rfl (hb hby d16_21) rfl (teq hc21_31).2 ?_
                    refine XS.iconst X0.here hx rfl (hb hby d16_24) ?_
                    show Steps p.tables e below (s₁.setTop (mkF m 25 #[iv p0] [(.int 1)])) _
                    refine XS.goto X0.here hx rfl (pc0 := 25) (pc' := 29) rfl (hb hby d16_25) (by decide) (by decide) ?_
                    exact k32
                  · rw [(show (v16_21_s0 p0) = (0 : Int32) from if_neg hc21_31)] at k32
                    refine XS.icmpYes X0.here hx rfl (pc0 := 21) (pc' := 28) rfl (hb hby d16_21) rfl (feq hc21_31).2 (by decide) (by decide) ?_
                    refine XS.iconst X0.here hx rfl (hb hby d16_28) ?_
                    exact k32
                exact k33
            exact k34
        exact k35
    exact kk)
  obtain ⟨fs, hr, hrun, hended, hW, hsame⟩ := X0.leave (v := some (.int (nar .boolean (v16_3_s0 p0)))) (fun h => by rw [Bd.returns] at h; cases h) hlk
  refine ⟨_, _, k36 _ ?_, hrun, hended, _, _, rfl, ?_, ⟨_, rfl⟩, hW, hsame.mono (by decide) (by decide)⟩
  · show Steps p.tables e below (s₁.setTop (mkF m 29 #[iv p0] [(.int (v16_3_s0 p0))])) _
    exact retN X0 hx (t := .boolean) Bd.returns (by simp) (hb hby d16_29) hr
  · show Q16 Z p0 h0 n0 _ s₁.heap _
    rw [e0]
    exact ⟨rfl, N0, rfl⟩
theorem d15_0 : decode jdk_29_method_69_code 0 = .ok (.iload_n 0, 1) := by decide +kernel
theorem d15_1 : decode jdk_29_method_69_code 1 = .ok (.iload_n 1, 1) := by decide +kernel
theorem d15_2 : decode jdk_29_method_69_code 2 = .ok (.if_icmp .gt 7, 3) := by decide +kernel
theorem d15_5 : decode jdk_29_method_69_code 5 = .ok (.iload_n 0, 1) := by decide +kernel
theorem d15_6 : decode jdk_29_method_69_code 6 = .ok (.goto 4, 3) := by decide +kernel
theorem d15_9 : decode jdk_29_method_69_code 9 = .ok (.iload_n 1, 1) := by decide +kernel
theorem d15_10 : decode jdk_29_method_69_code 10 = .ok (.ireturn, 1) := by decide +kernel
def v15_2_s0 (p0 : Int32) (p1 : Int32) : Int32 := if p1 < p0 then p1 else p0
theorem ef_rm15 (m : MethodId) (p0 : Int32) (p1 : Int32) : entryFrame m #[(.int p0), (.int p1)] 2 = mkF m 0 #[iv p0, iv p1] [] := by first | (simp [entryFrame, mkF, argsToLocals, Value.category]; done) | rfl
def Q15 (Z : State) (p0 : Int32) (p1 : Int32) (h0 : Heap) (n0 : Nat) (v : Option Value) (h : Heap) (L : List Loc) : Prop := (v = some (.int (v15_2_s0 p0 p1)) ∧ Fr n0 L ∧ h = h0)
set_option maxRecDepth 65536 in
set_option maxHeartbeats 40000000 in
theorem rm15 (l : Launch) (Z : State) (a0 : Array Value) (hw : ∀ d ∈ tables_1, d.before a0 Z = true) (ws : List Jvm.Cond) (p0 : Int32) (p1 : Int32) (h0 : Heap) (n0 : Nat) (Z0 : n0 ≤ h0.size) :
    MetFree l (⟨"java/lang/Math", "min", "(II)I"⟩ : MethodName) (head1 (Jvm.Cond.code (⟨"java/lang/Math", "min", "(II)I"⟩ : MethodName) jdk_29_method_69_code 2 (some .int) :: ws) ({ frames := 0, cells := 0, slots := 0, locals := 0 } : Room)) (fun a U => a = #[(.int p0), (.int p1)] ∧ Z.Warmed39 U.vm ∧ U.heap = h0) (fun _ _ _ _ _ => True) (fun _ U o U' => ∃ v L, o = .returned v ∧ Q15 Z p0 p1 h0 n0 v U'.heap L ∧ FrameEnd U o U' L ({ frames := 0, cells := 0, slots := 0, locals := 0 } : Room).cells ({ frames := 0, cells := 0, slots := 0, locals := 0 } : Room).slots) := by
  refine MetFree.of_bodySF (Jvm.Free.JP.mathPlain rfl (by decide +kernel)) hisR ?_
  intro p e s m args below meth c s₁ Bd hml0 hP hK
  obtain ⟨rfl, hZ, hh⟩ := hP
  have hx := Bd.exec
  have hlk : meth.locks = false := by first | exact BodyLoose.notSynchronized Bd | exact Body.notSynchronized Bd
  have hby := Bd.bytes
  have hml : c.maxLocals = 2 := hml0
  have hown : s.vm.findClass "java/lang/Math" = some m.cls := findClass_of_methodNamed Bd.named
  have hnm := (name_of_methodNamed Bd.named Bd.method).1
  have X0 : Stand p l e ({ frames := 0, cells := 0, slots := 0, locals := 0 } : Room) s m #[(.int p0), (.int p1)] below meth c s₁ [] 0 0 := Stand.of_body Bd
  have e0 : s₁.heap = h0 := by rw [← hh, Bd.state]; rfl
  have N0 := Fr.nil n0
  have KC0 := Keep.refl h0 ([] : List Addr)
  have pre0 : ∀ t, Steps p.tables e below (s₁.setTop (mkF m 0 #[iv p0, iv p1] [])) t → Steps p.tables e below (s₁.setTop (entryFrame m #[(.int p0), (.int p1)] 2)) t := fun t k => castTop (ef_rm15 m p0 p1) k
  have k39 := fun (t : State) (kk : Steps p.tables e below (s₁.setTop (mkF m 10 #[iv p0, iv p1] [(.int (v15_2_s0 p0 p1))])) t) => pre0 t (by
    refine XS.iloadN X0.here hx rfl (hb hby d15_0) rfl ?_
    refine XS.iloadN X0.here hx rfl (hb hby d15_1) rfl ?_
    suffices k38 : Steps p.tables e below (s₁.setTop (mkF m 10 #[iv p0, iv p1] [(.int (v15_2_s0 p0 p1))])) t by
      by_cases hc2_37 : p1 < p0
      · rw [(show (v15_2_s0 p0 p1) = p1 from if_pos hc2_37)] at k38
        refine XS.icmpYes X0.here hx rfl (pc0 := 2) (pc' := 9) rfl (hb hby d15_2) rfl (tlt hc2_37).2.2.1 (by decide) (by decide) ?_
        refine XS.iloadN X0.here hx rfl (hb hby d15_9) rfl ?_
        exact k38
      · rw [(show (v15_2_s0 p0 p1) = p0 from if_neg hc2_37)] at k38
        show Steps p.tables e below (s₁.setTop (mkF m 2 #[iv p0, iv p1] [(.int p1), (.int p0)])) _
        refine XS.icmpNo X0.here hx rfl (hb hby d15_2) rfl (flt hc2_37).2.2.1 ?_
        refine XS.iloadN X0.here hx rfl (hb hby d15_5) rfl ?_
        refine XS.goto X0.here hx rfl (pc0 := 6) (pc' := 10) rfl (hb hby d15_6) (by decide) (by decide) ?_
        exact k38
    exact kk)
  obtain ⟨fs, hr, hrun, hended, hW, hsame⟩ := X0.leave (v := some (.int (v15_2_s0 p0 p1))) (fun h => by rw [Bd.returns] at h; cases h) hlk
  refine ⟨_, _, k39 _ ?_, hrun, hended, _, _, rfl, ?_, ⟨_, rfl⟩, hW, hsame.mono (by decide) (by decide)⟩
  · show Steps p.tables e below (s₁.setTop (mkF m 10 #[iv p0, iv p1] [(.int (v15_2_s0 p0 p1))])) _
    exact retI X0 hx Bd.returns (hb hby d15_10) hr
  · show Q15 Z p0 p1 h0 n0 _ s₁.heap _
    rw [e0]
    exact ⟨rfl, N0, rfl⟩
theorem pd_0 : parseMethodDescriptor "(B)Z" = some ⟨[.byte], some .boolean⟩ := by decide +kernel
theorem d11_0 : decode method_6_code 0 = .ok (.iload_n 1, 1) := by decide +kernel
theorem d11_1 : decode method_6_code 1 = .ok (.istore_n 2, 1) := by decide +kernel
theorem d11_2 : decode method_6_code 2 = .ok (.iload_n 2, 1) := by decide +kernel
theorem d11_3 : decode method_6_code 3 = .ok (.ifCond .le 17, 3) := by decide +kernel
theorem d11_6 : decode method_6_code 6 = .ok (.aload_n 0, 1) := by decide +kernel
theorem d11_7 : decode method_6_code 7 = .ok (.iload_n 2, 1) := by decide +kernel
theorem d11_8 : decode method_6_code 8 = .ok (.iconst 1, 1) := by decide +kernel
theorem d11_9 : decode method_6_code 9 = .ok (.isub, 1) := by decide +kernel
theorem d11_10 : decode method_6_code 10 = .ok (.baload, 1) := by decide +kernel
theorem d11_11 : decode method_6_code 11 = .ok (.invokestatic 7, 3) := by decide +kernel
theorem d11_14 : decode method_6_code 14 = .ok (.ifCond .ne 6, 3) := by decide +kernel
theorem d11_17 : decode method_6_code 17 = .ok (.iinc 2 (-1), 3) := by decide +kernel
theorem d11_20 : decode method_6_code 20 = .ok (.iload_n 2, 1) := by decide +kernel
theorem d11_21 : decode method_6_code 21 = .ok (.ifCond .le 17, 3) := by decide +kernel
theorem d11_24 : decode method_6_code 24 = .ok (.aload_n 0, 1) := by decide +kernel
theorem d11_25 : decode method_6_code 25 = .ok (.iload_n 2, 1) := by decide +kernel
theorem d11_26 : decode method_6_code 26 = .ok (.iconst 1, 1) := by decide +kernel
theorem d11_27 : decode method_6_code 27 = .ok (.isub, 1) := by decide +kernel
theorem d11_28 : decode method_6_code 28 = .ok (.baload, 1) := by decide +kernel
theorem d11_29 : decode method_6_code 29 = .ok (.invokestatic 7, 3) := by decide +kernel
theorem d11_32 : decode method_6_code 32 = .ok (.ifCond .ne 6, 3) := by decide +kernel
theorem d11_35 : decode method_6_code 35 = .ok (.iinc 2 (-1), 3) := by decide +kernel
theorem d11_38 : decode method_6_code 38 = .ok (.iload_n 2, 1) := by decide +kernel
theorem d11_39 : decode method_6_code 39 = .ok (.ifCond .le 17, 3) := by decide +kernel
theorem d11_42 : decode method_6_code 42 = .ok (.aload_n 0, 1) := by decide +kernel
theorem d11_43 : decode method_6_code 43 = .ok (.iload_n 2, 1) := by decide +kernel
theorem d11_44 : decode method_6_code 44 = .ok (.iconst 1, 1) := by decide +kernel
theorem d11_45 : decode method_6_code 45 = .ok (.isub, 1) := by decide +kernel
theorem d11_46 : decode method_6_code 46 = .ok (.baload, 1) := by decide +kernel
theorem d11_47 : decode method_6_code 47 = .ok (.invokestatic 7, 3) := by decide +kernel
theorem d11_50 : decode method_6_code 50 = .ok (.ifCond .ne 6, 3) := by decide +kernel
theorem d11_53 : decode method_6_code 53 = .ok (.iinc 2 (-1), 3) := by decide +kernel
theorem d11_56 : decode method_6_code 56 = .ok (.iload_n 2, 1) := by decide +kernel
theorem d11_57 : decode method_6_code 57 = .ok (.ifCond .le 17, 3) := by decide +kernel
theorem d11_60 : decode method_6_code 60 = .ok (.aload_n 0, 1) := by decide +kernel
theorem d11_61 : decode method_6_code 61 = .ok (.iload_n 2, 1) := by decide +kernel
theorem d11_62 : decode method_6_code 62 = .ok (.iconst 1, 1) := by decide +kernel
theorem d11_63 : decode method_6_code 63 = .ok (.isub, 1) := by decide +kernel
theorem d11_64 : decode method_6_code 64 = .ok (.baload, 1) := by decide +kernel
theorem d11_65 : decode method_6_code 65 = .ok (.invokestatic 7, 3) := by decide +kernel
theorem d11_68 : decode method_6_code 68 = .ok (.ifCond .ne 6, 3) := by decide +kernel
theorem d11_71 : decode method_6_code 71 = .ok (.iinc 2 (-1), 3) := by decide +kernel
theorem d11_74 : decode method_6_code 74 = .ok (.iload_n 2, 1) := by decide +kernel
theorem d11_75 : decode method_6_code 75 = .ok (.ireturn, 1) := by decide +kernel
def v11_10_at (p1 : Int32) (L_ra0 : List Int32) : Int32 := (L_ra0.getD ((p1 - (1 : Int32))).toNatClampNeg (0 : Int32))
def v11_17_l2 (p1 : Int32) : Int32 := (p1 + (-1 : Int32))
def v11_28_at (p1 : Int32) (L_ra0 : List Int32) : Int32 := (L_ra0.getD (((v11_17_l2 p1) - (1 : Int32))).toNatClampNeg (0 : Int32))
def v11_35_l2 (p1 : Int32) : Int32 := ((v11_17_l2 p1) + (-1 : Int32))
def v11_46_at (p1 : Int32) (L_ra0 : List Int32) : Int32 := (L_ra0.getD (((v11_35_l2 p1) - (1 : Int32))).toNatClampNeg (0 : Int32))
def v11_53_l2 (p1 : Int32) : Int32 := ((v11_35_l2 p1) + (-1 : Int32))
def v11_64_at (p1 : Int32) (L_ra0 : List Int32) : Int32 := (L_ra0.getD (((v11_53_l2 p1) - (1 : Int32))).toNatClampNeg (0 : Int32))
def v11_71_l2 (p1 : Int32) : Int32 := ((v11_53_l2 p1) + (-1 : Int32))
def v11_ret (p1 : Int32) (L_ra0 : List Int32) : Int32 := (if (0 : Int32) < p1 then (if (nar .boolean (v3_3_s0 (v11_10_at p1 L_ra0))) = (0 : Int32) then (if (0 : Int32) < (v11_17_l2 p1) then (if (nar .boolean (v3_3_s0 (v11_28_at p1 L_ra0))) = (0 : Int32) then (if (0 : Int32) < (v11_35_l2 p1) then (if (nar .boolean (v3_3_s0 (v11_46_at p1 L_ra0))) = (0 : Int32) then (if (0 : Int32) < (v11_53_l2 p1) then (if (nar .boolean (v3_3_s0 (v11_64_at p1 L_ra0))) = (0 : Int32) then (v11_71_l2 p1) else (v11_53_l2 p1)) else (v11_53_l2 p1)) else (v11_35_l2 p1)) else (v11_35_l2 p1)) else (v11_17_l2 p1)) else (v11_17_l2 p1)) else p1) else p1)
theorem ef_rm11 (m : MethodId) (ra0 : Addr) (p1 : Int32) : entryFrame m #[(.ref ra0), (.int p1)] 3 = mkF m 0 #[rv ra0, iv p1, .unset] [] := by first | (simp [entryFrame, mkF, argsToLocals, Value.category]; done) | rfl
def Q11 (Z : State) (ra0 : Addr) (p1 : Int32) (k_ra0 : ClassId) (L_ra0 : List Int32) (h0 : Heap) (n0 : Nat) (v : Option Value) (h : Heap) (L : List Loc) : Prop := (v = some (.int (v11_ret p1 L_ra0)) ∧ Fr n0 L ∧ h = h0)
set_option maxRecDepth 65536 in
set_option maxHeartbeats 40000000 in
theorem rm11 (l : Launch) (Z : State) (a0 : Array Value) (hw : ∀ d ∈ tables_1, d.before a0 Z = true) (ws : List Jvm.Cond) (ra0 : Addr) (p1 : Int32) (k_ra0 : ClassId) (L_ra0 : List Int32) (h0 : Heap) (n0 : Nat) (Z0 : n0 ≤ h0.size) (hi : ¬ p1 < 0 ∧ p1 < (5 : Int32)) (V_ra0 : Arv Z h0 ra0 k_ra0 .byte (5 : Int32) (List.map Value.int L_ra0) (.int 0)) (VL_ra0 : L_ra0.length = ((5 : Int32)).toNatClampNeg) :
    MetFree l (⟨cLw, "start", "([BI)I"⟩ : MethodName) (head1 (Jvm.Cond.code (⟨cLw, "start", "([BI)I"⟩ : MethodName) method_6_code 3 (some .int) :: ws) ({ frames := 1, cells := 0, slots := 0, locals := 12 } : Room)) (fun a U => a = #[(.ref ra0), (.int p1)] ∧ Z.Warmed39 U.vm ∧ U.heap = h0) (fun _ _ _ _ _ => True) (fun _ U o U' => ∃ v L, o = .returned v ∧ Q11 Z ra0 p1 k_ra0 L_ra0 h0 n0 v U'.heap L ∧ FrameEnd U o U' L ({ frames := 1, cells := 0, slots := 0, locals := 12 } : Room).cells ({ frames := 1, cells := 0, slots := 0, locals := 12 } : Room).slots) := by
  refine MetFree.of_bodySF (plainFor_of_name pn_48) hisR ?_
  intro p e s m args below meth c s₁ Bd hml0 hP hK
  obtain ⟨rfl, hZ, hh⟩ := hP
  have hx := Bd.exec
  have hlk : meth.locks = false := by first | exact BodyLoose.notSynchronized Bd | exact Body.notSynchronized Bd
  have hby := Bd.bytes
  have hml : c.maxLocals = 3 := hml0
  have hown : s.vm.findClass cLw = some m.cls := findClass_of_methodNamed Bd.named
  have hnm := (name_of_methodNamed Bd.named Bd.method).1
  have X0 : Stand p l e ({ frames := 1, cells := 0, slots := 0, locals := 12 } : Room) s m #[(.ref ra0), (.int p1)] below meth c s₁ [] 0 0 := Stand.of_body Bd
  have e0 : s₁.heap = h0 := by rw [← hh, Bd.state]; rfl
  have N0 := Fr.nil n0
  have KC0 := Keep.refl h0 ([] : List Addr)
  have pre0 : ∀ t, Steps p.tables e below (s₁.setTop (mkF m 0 #[rv ra0, iv p1, .unset] [])) t → Steps p.tables e below (s₁.setTop (entryFrame m #[(.ref ra0), (.int p1)] 3)) t := fun t k => castTop (ef_rm11 m ra0 p1) k
  have k40 := fun (t : State) (kk : Steps p.tables e below (s₁.setTop (mkF m 3 #[rv ra0, iv p1, iv p1] [(.int p1)])) t) => pre0 t (by
    refine XS.iloadN X0.here hx rfl (hb hby d11_0) rfl ?_
    refine XS.istoreN X0.here hx rfl (hb hby d11_1) rfl (l' := #[rv ra0, iv p1, iv p1]) rfl ?_
    show Steps p.tables e below (s₁.setTop (mkF m 2 #[rv ra0, iv p1, iv p1] [])) _
    refine XS.iloadN X0.here hx rfl (hb hby d11_2) rfl ?_
    exact kk)
  by_cases hc3_41 : (0 : Int32) < p1
  · have k42 := fun (t : State) (kk : Steps p.tables e below (s₁.setTop (mkF m 10 #[rv ra0, iv p1, iv p1] [(.int (p1 - (1 : Int32))), (.ref ra0)])) t) => k40 t (by
      refine XS.ifNo X0.here hx rfl (hb hby d11_3) rfl ((if0 _ _).trans (tlt hc3_41).2.2.2) ?_
      refine XS.aloadN X0.here hx rfl (hb hby d11_6) rfl rfl ?_
      refine XS.iloadN X0.here hx rfl (hb hby d11_7) rfl ?_
      refine XS.iconst X0.here hx rfl (hb hby d11_8) ?_
      refine XS.isub X0.here hx rfl (hb hby d11_9) rfl ?_
      exact kk)
    have hV43 := V_ra0
    obtain ⟨cl43, Ar43, q43, S43, Nn43, H43, G43⟩ := hV43
    have hb44 : ¬ (p1 - (1 : Int32)) < 0 ∧ (p1 - (1 : Int32)) < (5 : Int32) := own_idx hc3_41 hi.2
    have hin44 : ¬ ((p1 - (1 : Int32)) < 0 ∨ cl43.slots.size ≤ ((p1 - (1 : Int32))).toNatClampNeg) := inb_of S43 hb44
    have hat44 : cl43.slots[((p1 - (1 : Int32))).toNatClampNeg]? = some (.int (v11_10_at p1 L_ra0)) := Has.at H43 hin44 (own_getD_int _ _ _)
    have st44 := X0.baloadBytes hx (j := (p1 - (1 : Int32))) (v := (.int (v11_10_at p1 L_ra0))) (by rw [e0]; exact Ar43.1) (State.isArrayOf_alike hZ.alike Ar43.2.1) Ar43.2.2 hin44 hat44 (g := (mkF m 10 #[rv ra0, iv p1, iv p1] [(.int (p1 - (1 : Int32))), (.ref ra0)])) rfl rfl (hb hby d11_10)
    have k45 := fun (t : State) (kk : Steps p.tables e below (s₁.setTop (mkF m 11 #[rv ra0, iv p1, iv p1] [(.int (v11_10_at p1 L_ra0))])) t) => k42 t (st44 _ kk)
    have Zz46 : n0 ≤ h0.size := (Nat.le_trans Z0 KC0.1)
    obtain ⟨_, _, ⟨T46, L46, k46, n46⟩, -, X46, ⟨Lc46, hQ46, l46, y46, z46⟩, st46⟩ := Jvm.LawKit.callS X0 hx (y := (⟨cLw, "end", "(B)Z"⟩ : MethodName)) hown (mvT hZ (hw _ (List.mem_of_getElem? (i := 8) rfl))) (mvT hZ (hw _ (List.mem_of_getElem? (i := 9) rfl))) (mvT hZ (hw _ (List.mem_of_getElem? (i := 3) rfl))) (mvT hZ (hw _ (List.mem_of_getElem? (i := 10) rfl))) (by decide) (backOf (W := 0) (rm3 l Z a0 hw [] (v11_10_at p1 L_ra0) h0 n0 Zz46) hZ (hw _ (List.mem_of_getElem? (i := 10) rfl)) (hw _ (List.mem_of_getElem? (i := 3) rfl)) (by decide) (by decide)) (g := (mkF m 11 #[rv ra0, iv p1, iv p1] [(.int (v11_10_at p1 L_ra0))])) rfl (by rw [hml]; rfl) (argsL := [(.int (v11_10_at p1 L_ra0))]) (rest := []) (lenOf pd_0 rfl) rfl (by show 2 * 0 + _ ≤ _; exact Nat.le_of_eq rfl) (hb hby d11_11) (fun _ _ => ⟨rfl, e0, (by decide : 0 + 0 ≤ _), (by decide : 0 + 0 ≤ _)⟩)
    dsimp only [Pt.U, Pt.locs, Pt.cells, Pt.slots] at X46 l46 y46 z46 st46 hQ46
    subst l46 y46 z46
    obtain ⟨rfl, N46q, e46⟩ := hQ46
    have N46 := Fr.app N0 N46q
    have k47 := fun (t : State) (kk : Steps p.tables e below (T46.setTop (mkF m 14 #[rv ra0, iv p1, iv p1] [(.int (nar .boolean (v3_3_s0 (v11_10_at p1 L_ra0))))])) t) => k45 t (st46 _ kk)
    by_cases hc14_48 : (nar .boolean (v3_3_s0 (v11_10_at p1 L_ra0))) = (0 : Int32)
    · have k49 := fun (t : State) (kk : Steps p.tables e below (T46.setTop (mkF m 21 #[rv ra0, iv p1, iv (v11_17_l2 p1)] [(.int (v11_17_l2 p1))])) t) => k47 t (by
        refine XS.ifNo X46.here hx rfl (hb hby d11_14) rfl ((if0 _ _).trans (teq hc14_48).2) ?_
        refine XS.iinc X46.here hx rfl (hb hby d11_17) rfl (l' := #[rv ra0, iv p1, iv (v11_17_l2 p1)]) rfl ?_
        refine XS.iloadN X46.here hx rfl (hb hby d11_20) rfl ?_
        exact kk)
      by_cases hc21_50 : (0 : Int32) < (v11_17_l2 p1)
      · have k51 := fun (t : State) (kk : Steps p.tables e below (T46.setTop (mkF m 28 #[rv ra0, iv p1, iv (v11_17_l2 p1)] [(.int ((v11_17_l2 p1) - (1 : Int32))), (.ref ra0)])) t) => k49 t (by
          refine XS.ifNo X46.here hx rfl (hb hby d11_21) rfl ((if0 _ _).trans (tlt hc21_50).2.2.2) ?_
          refine XS.aloadN X46.here hx rfl (hb hby d11_24) rfl rfl ?_
          refine XS.iloadN X46.here hx rfl (hb hby d11_25) rfl ?_
          show Steps p.tables e below (T46.setTop (mkF m 26 #[rv ra0, iv p1, iv (v11_17_l2 p1)] [(.int (v11_17_l2 p1)), (.ref ra0)])) _
          refine XS.iconst X46.here hx rfl (hb hby d11_26) ?_
          refine XS.isub X46.here hx rfl (hb hby d11_27) rfl ?_
          exact kk)
        have hV52 := V_ra0
        obtain ⟨cl52, Ar52, q52, S52, Nn52, H52, G52⟩ := hV52
        have hb53 : ¬ ((v11_17_l2 p1) - (1 : Int32)) < 0 ∧ ((v11_17_l2 p1) - (1 : Int32)) < (5 : Int32) := own_idx hc21_50 (own_dec hc3_41 hi.2)
        have hin53 : ¬ (((v11_17_l2 p1) - (1 : Int32)) < 0 ∨ cl52.slots.size ≤ (((v11_17_l2 p1) - (1 : Int32))).toNatClampNeg) := inb_of S52 hb53
        have hat53 : cl52.slots[(((v11_17_l2 p1) - (1 : Int32))).toNatClampNeg]? = some (.int (v11_28_at p1 L_ra0)) := Has.at H52 hin53 (own_getD_int _ _ _)
        have st53 := X46.baloadBytes hx (j := ((v11_17_l2 p1) - (1 : Int32))) (v := (.int (v11_28_at p1 L_ra0))) (by rw [e46]; exact Ar52.1) (State.isArrayOf_alike hZ.alike Ar52.2.1) Ar52.2.2 hin53 hat53 (g := (mkF m 28 #[rv ra0, iv p1, iv (v11_17_l2 p1)] [(.int ((v11_17_l2 p1) - (1 : Int32))), (.ref ra0)])) rfl rfl (hb hby d11_28)
        have k54 := fun (t : State) (kk : Steps p.tables e below (T46.setTop (mkF m 29 #[rv ra0, iv p1, iv (v11_17_l2 p1)] [(.int (v11_28_at p1 L_ra0))])) t) => k51 t (st53 _ kk)
        have Zz55 : n0 ≤ h0.size := (Nat.le_trans Z0 KC0.1)
        obtain ⟨_, _, ⟨T55, L55, k55, n55⟩, -, X55, ⟨Lc55, hQ55, l55, y55, z55⟩, st55⟩ := Jvm.LawKit.callS X46 hx (y := (⟨cLw, "end", "(B)Z"⟩ : MethodName)) hown (mvT hZ (hw _ (List.mem_of_getElem? (i := 8) rfl))) (mvT hZ (hw _ (List.mem_of_getElem? (i := 9) rfl))) (mvT hZ (hw _ (List.mem_of_getElem? (i := 3) rfl))) (mvT hZ (hw _ (List.mem_of_getElem? (i := 10) rfl))) (by decide) (backOf (W := 0) (rm3 l Z a0 hw [] (v11_28_at p1 L_ra0) h0 n0 Zz55) hZ (hw _ (List.mem_of_getElem? (i := 10) rfl)) (hw _ (List.mem_of_getElem? (i := 3) rfl)) (by decide) (by decide)) (g := (mkF m 29 #[rv ra0, iv p1, iv (v11_17_l2 p1)] [(.int (v11_28_at p1 L_ra0))])) rfl (by rw [hml]; rfl) (argsL := [(.int (v11_28_at p1 L_ra0))]) (rest := []) (lenOf pd_0 rfl) rfl (by show 2 * 0 + _ ≤ _; exact Nat.le_of_eq rfl) (hb hby d11_29) (fun _ _ => ⟨rfl, e46, (by decide : 0 + 0 ≤ _), (by decide : 0 + 0 ≤ _)⟩)
        dsimp only [Pt.U, Pt.locs, Pt.cells, Pt.slots] at X55 l55 y55 z55 st55 hQ55
        subst l55 y55 z55
        obtain ⟨rfl, N55q, e55⟩ := hQ55
        have N55 := Fr.app N46 N55q
        have k56 := fun (t : State) (kk : Steps p.tables e below (T55.setTop (mkF m 32 #[rv ra0, iv p1, iv (v11_17_l2 p1)] [(.int (nar .boolean (v3_3_s0 (v11_28_at p1 L_ra0))))])) t) => k54 t (st55 _ kk)
        by_cases hc32_57 : (nar .boolean (v3_3_s0 (v11_28_at p1 L_ra0))) = (0 : Int32)
        · have k58 := fun (t : State) (kk : Steps p.tables e below (T55.setTop (mkF m 39 #[rv ra0, iv p1, iv (v11_35_l2 p1)] [(.int (v11_35_l2 p1))])) t) => k56 t (by
            refine XS.ifNo X55.here hx rfl (hb hby d11_32) rfl ((if0 _ _).trans (teq hc32_57).2) ?_
            refine XS.iinc X55.here hx rfl (hb hby d11_35) rfl (l' := #[rv ra0, iv p1, iv (v11_35_l2 p1)]) rfl ?_
            refine XS.iloadN X55.here hx rfl (hb hby d11_38) rfl ?_
            exact kk)
          by_cases hc39_59 : (0 : Int32) < (v11_35_l2 p1)
          · have k60 := fun (t : State) (kk : Steps p.tables e below (T55.setTop (mkF m 46 #[rv ra0, iv p1, iv (v11_35_l2 p1)] [(.int ((v11_35_l2 p1) - (1 : Int32))), (.ref ra0)])) t) => k58 t (by
              refine XS.ifNo X55.here hx rfl (hb hby d11_39) rfl ((if0 _ _).trans (tlt hc39_59).2.2.2) ?_
              refine XS.aloadN X55.here hx rfl (hb hby d11_42) rfl rfl ?_
              refine XS.iloadN X55.here hx rfl (hb hby d11_43) rfl ?_
              refine XS.iconst X55.here hx rfl (hb hby d11_44) ?_
              refine XS.isub X55.here hx rfl (hb hby d11_45) rfl ?_
              exact kk)
            have hV61 := V_ra0
            obtain ⟨cl61, Ar61, q61, S61, Nn61, H61, G61⟩ := hV61
            have hb62 : ¬ ((v11_35_l2 p1) - (1 : Int32)) < 0 ∧ ((v11_35_l2 p1) - (1 : Int32)) < (5 : Int32) := own_idx hc39_59 (own_dec hc21_50 (own_dec hc3_41 hi.2))
            have hin62 : ¬ (((v11_35_l2 p1) - (1 : Int32)) < 0 ∨ cl61.slots.size ≤ (((v11_35_l2 p1) - (1 : Int32))).toNatClampNeg) := inb_of S61 hb62
            have hat62 : cl61.slots[(((v11_35_l2 p1) - (1 : Int32))).toNatClampNeg]? = some (.int (v11_46_at p1 L_ra0)) := Has.at H61 hin62 (own_getD_int _ _ _)
            have st62 := X55.baloadBytes hx (j := ((v11_35_l2 p1) - (1 : Int32))) (v := (.int (v11_46_at p1 L_ra0))) (by rw [e55]; exact Ar61.1) (State.isArrayOf_alike hZ.alike Ar61.2.1) Ar61.2.2 hin62 hat62 (g := (mkF m 46 #[rv ra0, iv p1, iv (v11_35_l2 p1)] [(.int ((v11_35_l2 p1) - (1 : Int32))), (.ref ra0)])) rfl rfl (hb hby d11_46)
            have k63 := fun (t : State) (kk : Steps p.tables e below (T55.setTop (mkF m 47 #[rv ra0, iv p1, iv (v11_35_l2 p1)] [(.int (v11_46_at p1 L_ra0))])) t) => k60 t (st62 _ kk)
            have Zz64 : n0 ≤ h0.size := (Nat.le_trans Z0 KC0.1)
            obtain ⟨_, _, ⟨T64, L64, k64, n64⟩, -, X64, ⟨Lc64, hQ64, l64, y64, z64⟩, st64⟩ := Jvm.LawKit.callS X55 hx (y := (⟨cLw, "end", "(B)Z"⟩ : MethodName)) hown (mvT hZ (hw _ (List.mem_of_getElem? (i := 8) rfl))) (mvT hZ (hw _ (List.mem_of_getElem? (i := 9) rfl))) (mvT hZ (hw _ (List.mem_of_getElem? (i := 3) rfl))) (mvT hZ (hw _ (List.mem_of_getElem? (i := 10) rfl))) (by decide) (backOf (W := 0) (rm3 l Z a0 hw [] (v11_46_at p1 L_ra0) h0 n0 Zz64) hZ (hw _ (List.mem_of_getElem? (i := 10) rfl)) (hw _ (List.mem_of_getElem? (i := 3) rfl)) (by decide) (by decide)) (g := (mkF m 47 #[rv ra0, iv p1, iv (v11_35_l2 p1)] [(.int (v11_46_at p1 L_ra0))])) rfl (by rw [hml]; rfl) (argsL := [(.int (v11_46_at p1 L_ra0))]) (rest := []) (lenOf pd_0 rfl) rfl (by show 2 * 0 + _ ≤ _; exact Nat.le_of_eq rfl) (hb hby d11_47) (fun _ _ => ⟨rfl, e55, (by decide : 0 + 0 ≤ _), (by decide : 0 + 0 ≤ _)⟩)
            dsimp only [Pt.U, Pt.locs, Pt.cells, Pt.slots] at X64 l64 y64 z64 st64 hQ64
            subst l64 y64 z64
            obtain ⟨rfl, N64q, e64⟩ := hQ64
            have N64 := Fr.app N55 N64q
            have k65 := fun (t : State) (kk : Steps p.tables e below (T64.setTop (mkF m 50 #[rv ra0, iv p1, iv (v11_35_l2 p1)] [(.int (nar .boolean (v3_3_s0 (v11_46_at p1 L_ra0))))])) t) => k63 t (st64 _ kk)
            by_cases hc50_66 : (nar .boolean (v3_3_s0 (v11_46_at p1 L_ra0))) = (0 : Int32)
            · have k67 := fun (t : State) (kk : Steps p.tables e below (T64.setTop (mkF m 57 #[rv ra0, iv p1, iv (v11_53_l2 p1)] [(.int (v11_53_l2 p1))])) t) => k65 t (by
                refine XS.ifNo X64.here hx rfl (hb hby d11_50) rfl ((if0 _ _).trans (teq hc50_66).2) ?_
                refine XS.iinc X64.here hx rfl (hb hby d11_53) rfl (l' := #[rv ra0, iv p1, iv (v11_53_l2 p1)]) rfl ?_
                show Steps p.tables e below (T64.setTop (mkF m 56 #[rv ra0, iv p1, iv (v11_53_l2 p1)] [])) _
                refine XS.iloadN X64.here hx rfl (hb hby d11_56) rfl ?_
                exact kk)
              by_cases hc57_68 : (0 : Int32) < (v11_53_l2 p1)
              · have k69 := fun (t : State) (kk : Steps p.tables e below (T64.setTop (mkF m 64 #[rv ra0, iv p1, iv (v11_53_l2 p1)] [(.int ((v11_53_l2 p1) - (1 : Int32))), (.ref ra0)])) t) => k67 t (by
                  refine XS.ifNo X64.here hx rfl (hb hby d11_57) rfl ((if0 _ _).trans (tlt hc57_68).2.2.2) ?_
                  refine XS.aloadN X64.here hx rfl (hb hby d11_60) rfl rfl ?_
                  refine XS.iloadN X64.here hx rfl (hb hby d11_61) rfl ?_
                  refine XS.iconst X64.here hx rfl (hb hby d11_62) ?_
                  refine XS.isub X64.here hx rfl (hb hby d11_63) rfl ?_
                  exact kk)
                have hV70 := V_ra0
                obtain ⟨cl70, Ar70, q70, S70, Nn70, H70, G70⟩ := hV70
                have hb71 : ¬ ((v11_53_l2 p1) - (1 : Int32)) < 0 ∧ ((v11_53_l2 p1) - (1 : Int32)) < (5 : Int32) := own_idx hc57_68 (own_dec hc39_59 (own_dec hc21_50 (own_dec hc3_41 hi.2)))
                have hin71 : ¬ (((v11_53_l2 p1) - (1 : Int32)) < 0 ∨ cl70.slots.size ≤ (((v11_53_l2 p1) - (1 : Int32))).toNatClampNeg) := inb_of S70 hb71
                have hat71 : cl70.slots[(((v11_53_l2 p1) - (1 : Int32))).toNatClampNeg]? = some (.int (v11_64_at p1 L_ra0)) := Has.at H70 hin71 (own_getD_int _ _ _)
                have st71 := X64.baloadBytes hx (j := ((v11_53_l2 p1) - (1 : Int32))) (v := (.int (v11_64_at p1 L_ra0))) (by rw [e64]; exact Ar70.1) (State.isArrayOf_alike hZ.alike Ar70.2.1) Ar70.2.2 hin71 hat71 (g := (mkF m 64 #[rv ra0, iv p1, iv (v11_53_l2 p1)] [(.int ((v11_53_l2 p1) - (1 : Int32))), (.ref ra0)])) rfl rfl (hb hby d11_64)
                have k72 := fun (t : State) (kk : Steps p.tables e below (T64.setTop (mkF m 65 #[rv ra0, iv p1, iv (v11_53_l2 p1)] [(.int (v11_64_at p1 L_ra0))])) t) => k69 t (st71 _ kk)
                have Zz73 : n0 ≤ h0.size := (Nat.le_trans Z0 KC0.1)
                obtain ⟨_, _, ⟨T73, L73, k73, n73⟩, -, X73, ⟨Lc73, hQ73, l73, y73, z73⟩, st73⟩ := Jvm.LawKit.callS X64 hx (y := (⟨cLw, "end", "(B)Z"⟩ : MethodName)) hown (mvT hZ (hw _ (List.mem_of_getElem? (i := 8) rfl))) (mvT hZ (hw _ (List.mem_of_getElem? (i := 9) rfl))) (mvT hZ (hw _ (List.mem_of_getElem? (i := 3) rfl))) (mvT hZ (hw _ (List.mem_of_getElem? (i := 10) rfl))) (by decide) (backOf (W := 0) (rm3 l Z a0 hw [] (v11_64_at p1 L_ra0) h0 n0 Zz73) hZ (hw _ (List.mem_of_getElem? (i := 10) rfl)) (hw _ (List.mem_of_getElem? (i := 3) rfl)) (by decide) (by decide)) (g := (mkF m 65 #[rv ra0, iv p1, iv (v11_53_l2 p1)] [(.int (v11_64_at p1 L_ra0))])) rfl (by rw [hml]; rfl) (argsL := [(.int (v11_64_at p1 L_ra0))]) (rest := []) (lenOf pd_0 rfl) rfl (by show 2 * 0 + _ ≤ _; exact Nat.le_of_eq rfl) (hb hby d11_65) (fun _ _ => ⟨rfl, e64, (by decide : 0 + 0 ≤ _), (by decide : 0 + 0 ≤ _)⟩)
                dsimp only [Pt.U, Pt.locs, Pt.cells, Pt.slots] at X73 l73 y73 z73 st73 hQ73
                subst l73 y73 z73
                obtain ⟨rfl, N73q, e73⟩ := hQ73
                have N73 := Fr.app N64 N73q
                have k74 := fun (t : State) (kk : Steps p.tables e below (T73.setTop (mkF m 68 #[rv ra0, iv p1, iv (v11_53_l2 p1)] [(.int (nar .boolean (v3_3_s0 (v11_64_at p1 L_ra0))))])) t) => k72 t (st73 _ kk)
                by_cases hc68_75 : (nar .boolean (v3_3_s0 (v11_64_at p1 L_ra0))) = (0 : Int32)
                · have k76 := fun (t : State) (kk : Steps p.tables e below (T73.setTop (mkF m 75 #[rv ra0, iv p1, iv (v11_71_l2 p1)] [(.int (v11_71_l2 p1))])) t) => k74 t (by
                    refine XS.ifNo X73.here hx rfl (hb hby d11_68) rfl ((if0 _ _).trans (teq hc68_75).2) ?_
                    refine XS.iinc X73.here hx rfl (hb hby d11_71) rfl (l' := #[rv ra0, iv p1, iv (v11_71_l2 p1)]) rfl ?_
                    refine XS.iloadN X73.here hx rfl (hb hby d11_74) rfl ?_
                    exact kk)
                  obtain ⟨fs, hr, hrun, hended, hW, hsame⟩ := X73.leave (v := some (.int (v11_71_l2 p1))) (fun h => by rw [Bd.returns] at h; cases h) hlk
                  have hv : (v11_ret p1 L_ra0) = (v11_71_l2 p1) := ((if_pos hc3_41).trans ((if_pos hc14_48).trans ((if_pos hc21_50).trans ((if_pos hc32_57).trans ((if_pos hc39_59).trans ((if_pos hc50_66).trans ((if_pos hc57_68).trans (if_pos hc68_75))))))))
                  refine ⟨_, _, k76 _ ?_, hrun, hended, _, _, rfl, ?_, ⟨_, rfl⟩, hW, hsame.mono (by decide) (by decide)⟩
                  · show Steps p.tables e below (T73.setTop (mkF m 75 #[rv ra0, iv p1, iv (v11_71_l2 p1)] [(.int (v11_71_l2 p1))])) _
                    exact retI X73 hx Bd.returns (hb hby d11_75) hr
                  · show Q11 Z ra0 p1 k_ra0 L_ra0 h0 n0 _ T73.heap _
                    rw [e73]
                    exact ⟨(congrArg (fun z => some (Value.int z)) hv).symm, N73, rfl⟩
                · have k77 := fun (t : State) (kk : Steps p.tables e below (T73.setTop (mkF m 75 #[rv ra0, iv p1, iv (v11_53_l2 p1)] [(.int (v11_53_l2 p1))])) t) => k74 t (by
                    refine XS.ifYes X73.here hx rfl (pc0 := 68) (pc' := 74) rfl (hb hby d11_68) rfl ((if0 _ _).trans (feq hc68_75).2) (by decide) (by decide) ?_
                    refine XS.iloadN X73.here hx rfl (hb hby d11_74) rfl ?_
                    exact kk)
                  obtain ⟨fs, hr, hrun, hended, hW, hsame⟩ := X73.leave (v := some (.int (v11_53_l2 p1))) (fun h => by rw [Bd.returns] at h; cases h) hlk
                  have hv : (v11_ret p1 L_ra0) = (v11_53_l2 p1) := ((if_pos hc3_41).trans ((if_pos hc14_48).trans ((if_pos hc21_50).trans ((if_pos hc32_57).trans ((if_pos hc39_59).trans ((if_pos hc50_66).trans ((if_pos hc57_68).trans (if_neg hc68_75))))))))
                  refine ⟨_, _, k77 _ ?_, hrun, hended, _, _, rfl, ?_, ⟨_, rfl⟩, hW, hsame.mono (by decide) (by decide)⟩
                  · show Steps p.tables e below (T73.setTop (mkF m 75 #[rv ra0, iv p1, iv (v11_53_l2 p1)] [(.int (v11_53_l2 p1))])) _
                    exact retI X73 hx Bd.returns (hb hby d11_75) hr
                  · show Q11 Z ra0 p1 k_ra0 L_ra0 h0 n0 _ T73.heap _
                    rw [e73]
                    exact ⟨(congrArg (fun z => some (Value.int z)) hv).symm, N73, rfl⟩
              · have k78 := fun (t : State) (kk : Steps p.tables e below (T64.setTop (mkF m 75 #[rv ra0, iv p1, iv (v11_53_l2 p1)] [(.int (v11_53_l2 p1))])) t) => k67 t (by
                  refine XS.ifYes X64.here hx rfl (pc0 := 57) (pc' := 74) rfl (hb hby d11_57) rfl ((if0 _ _).trans (flt hc57_68).2.2.2) (by decide) (by decide) ?_
                  show Steps p.tables e below (T64.setTop (mkF m 74 #[rv ra0, iv p1, iv (v11_53_l2 p1)] [])) _
                  refine XS.iloadN X64.here hx rfl (hb hby d11_74) rfl ?_
                  exact kk)
                obtain ⟨fs, hr, hrun, hended, hW, hsame⟩ := X64.leave (v := some (.int (v11_53_l2 p1))) (fun h => by rw [Bd.returns] at h; cases h) hlk
                have hv : (v11_ret p1 L_ra0) = (v11_53_l2 p1) := ((if_pos hc3_41).trans ((if_pos hc14_48).trans ((if_pos hc21_50).trans ((if_pos hc32_57).trans ((if_pos hc39_59).trans ((if_pos hc50_66).trans (if_neg hc57_68)))))))
                refine ⟨_, _, k78 _ ?_, hrun, hended, _, _, rfl, ?_, ⟨_, rfl⟩, hW, hsame.mono (by decide) (by decide)⟩
                · show Steps p.tables e below (T64.setTop (mkF m 75 #[rv ra0, iv p1, iv (v11_53_l2 p1)] [(.int (v11_53_l2 p1))])) _
                  exact retI X64 hx Bd.returns (hb hby d11_75) hr
                · show Q11 Z ra0 p1 k_ra0 L_ra0 h0 n0 _ T64.heap _
                  rw [e64]
                  exact ⟨(congrArg (fun z => some (Value.int z)) hv).symm, N64, rfl⟩
            · have k79 := fun (t : State) (kk : Steps p.tables e below (T64.setTop (mkF m 64 #[rv ra0, iv p1, iv (v11_35_l2 p1)] [(.int ((v11_35_l2 p1) - (1 : Int32))), (.ref ra0)])) t) => k65 t (by
                refine XS.ifYes X64.here hx rfl (pc0 := 50) (pc' := 56) rfl (hb hby d11_50) rfl ((if0 _ _).trans (feq hc50_66).2) (by decide) (by decide) ?_
                refine XS.iloadN X64.here hx rfl (hb hby d11_56) rfl ?_
                refine XS.ifNo X64.here hx rfl (hb hby d11_57) rfl ((if0 _ _).trans (tlt hc39_59).2.2.2) ?_
                refine XS.aloadN X64.here hx rfl (hb hby d11_60) rfl rfl ?_
                refine XS.iloadN X64.here hx rfl (hb hby d11_61) rfl ?_
                refine XS.iconst X64.here hx rfl (hb hby d11_62) ?_
                refine XS.isub X64.here hx rfl (hb hby d11_63) rfl ?_
                exact kk)
              have hV80 := V_ra0
              obtain ⟨cl80, Ar80, q80, S80, Nn80, H80, G80⟩ := hV80
              have hb81 : ¬ ((v11_35_l2 p1) - (1 : Int32)) < 0 ∧ ((v11_35_l2 p1) - (1 : Int32)) < (5 : Int32) := own_idx hc39_59 (own_dec hc21_50 (own_dec hc3_41 hi.2))
              have hin81 : ¬ (((v11_35_l2 p1) - (1 : Int32)) < 0 ∨ cl80.slots.size ≤ (((v11_35_l2 p1) - (1 : Int32))).toNatClampNeg) := inb_of S80 hb81
              have hat81 : cl80.slots[(((v11_35_l2 p1) - (1 : Int32))).toNatClampNeg]? = some (.int (v11_46_at p1 L_ra0)) := Has.at H80 hin81 (own_getD_int _ _ _)
              have st81 := X64.baloadBytes hx (j := ((v11_35_l2 p1) - (1 : Int32))) (v := (.int (v11_46_at p1 L_ra0))) (by rw [e64]; exact Ar80.1) (State.isArrayOf_alike hZ.alike Ar80.2.1) Ar80.2.2 hin81 hat81 (g := (mkF m 64 #[rv ra0, iv p1, iv (v11_35_l2 p1)] [(.int ((v11_35_l2 p1) - (1 : Int32))), (.ref ra0)])) rfl rfl (hb hby d11_64)
              have k82 := fun (t : State) (kk : Steps p.tables e below (T64.setTop (mkF m 65 #[rv ra0, iv p1, iv (v11_35_l2 p1)] [(.int (v11_46_at p1 L_ra0))])) t) => k79 t (st81 _ kk)
              have Zz83 : n0 ≤ h0.size := (Nat.le_trans Z0 KC0.1)
              obtain ⟨_, _, ⟨T83, L83, k83, n83⟩, -, X83, ⟨Lc83, hQ83, l83, y83, z83⟩, st83⟩ := Jvm.LawKit.callS X64 hx (y := (⟨cLw, "end", "(B)Z"⟩ : MethodName)) hown (mvT hZ (hw _ (List.mem_of_getElem? (i := 8) rfl))) (mvT hZ (hw _ (List.mem_of_getElem? (i := 9) rfl))) (mvT hZ (hw _ (List.mem_of_getElem? (i := 3) rfl))) (mvT hZ (hw _ (List.mem_of_getElem? (i := 10) rfl))) (by decide) (backOf (W := 0) (rm3 l Z a0 hw [] (v11_46_at p1 L_ra0) h0 n0 Zz83) hZ (hw _ (List.mem_of_getElem? (i := 10) rfl)) (hw _ (List.mem_of_getElem? (i := 3) rfl)) (by decide) (by decide)) (g := (mkF m 65 #[rv ra0, iv p1, iv (v11_35_l2 p1)] [(.int (v11_46_at p1 L_ra0))])) rfl (by rw [hml]; rfl) (argsL := [(.int (v11_46_at p1 L_ra0))]) (rest := []) (lenOf pd_0 rfl) rfl (by show 2 * 0 + _ ≤ _; exact Nat.le_of_eq rfl) (hb hby d11_65) (fun _ _ => ⟨rfl, e64, (by decide : 0 + 0 ≤ _), (by decide : 0 + 0 ≤ _)⟩)
              dsimp only [Pt.U, Pt.locs, Pt.cells, Pt.slots] at X83 l83 y83 z83 st83 hQ83
              subst l83 y83 z83
              obtain ⟨rfl, N83q, e83⟩ := hQ83
              have N83 := Fr.app N64 N83q
              have k84 := fun (t : State) (kk : Steps p.tables e below (T83.setTop (mkF m 68 #[rv ra0, iv p1, iv (v11_35_l2 p1)] [(.int (nar .boolean (v3_3_s0 (v11_46_at p1 L_ra0))))])) t) => k82 t (st83 _ kk)
              have k85 := fun (t : State) (kk : Steps p.tables e below (T83.setTop (mkF m 75 #[rv ra0, iv p1, iv (v11_35_l2 p1)] [(.int (v11_35_l2 p1))])) t) => k84 t (by
                refine XS.ifYes X83.here hx rfl (pc0 := 68) (pc' := 74) rfl (hb hby d11_68) rfl ((if0 _ _).trans (feq hc50_66).2) (by decide) (by decide) ?_
                refine XS.iloadN X83.here hx rfl (hb hby d11_74) rfl ?_
                exact kk)
              obtain ⟨fs, hr, hrun, hended, hW, hsame⟩ := X83.leave (v := some (.int (v11_35_l2 p1))) (fun h => by rw [Bd.returns] at h; cases h) hlk
              have hv : (v11_ret p1 L_ra0) = (v11_35_l2 p1) := ((if_pos hc3_41).trans ((if_pos hc14_48).trans ((if_pos hc21_50).trans ((if_pos hc32_57).trans ((if_pos hc39_59).trans (if_neg hc50_66))))))
              refine ⟨_, _, k85 _ ?_, hrun, hended, _, _, rfl, ?_, ⟨_, rfl⟩, hW, hsame.mono (by decide) (by decide)⟩
              · show Steps p.tables e below (T83.setTop (mkF m 75 #[rv ra0, iv p1, iv (v11_35_l2 p1)] [(.int (v11_35_l2 p1))])) _
                exact retI X83 hx Bd.returns (hb hby d11_75) hr
              · show Q11 Z ra0 p1 k_ra0 L_ra0 h0 n0 _ T83.heap _
                rw [e83]
                exact ⟨(congrArg (fun z => some (Value.int z)) hv).symm, N83, rfl⟩
          · have k86 := fun (t : State) (kk : Steps p.tables e below (T55.setTop (mkF m 75 #[rv ra0, iv p1, iv (v11_35_l2 p1)] [(.int (v11_35_l2 p1))])) t) => k58 t (by
              refine XS.ifYes X55.here hx rfl (pc0 := 39) (pc' := 56) rfl (hb hby d11_39) rfl ((if0 _ _).trans (flt hc39_59).2.2.2) (by decide) (by decide) ?_
              refine XS.iloadN X55.here hx rfl (hb hby d11_56) rfl ?_
              show Steps p.tables e below (T55.setTop (mkF m 57 #[rv ra0, iv p1, iv (v11_35_l2 p1)] [(.int (v11_35_l2 p1))])) _
              refine XS.ifYes X55.here hx rfl (pc0 := 57) (pc' := 74) rfl (hb hby d11_57) rfl ((if0 _ _).trans (flt hc39_59).2.2.2) (by decide) (by decide) ?_
              refine XS.iloadN X55.here hx rfl (hb hby d11_74) rfl ?_
              exact kk)
            obtain ⟨fs, hr, hrun, hended, hW, hsame⟩ := X55.leave (v := some (.int (v11_35_l2 p1))) (fun h => by rw [Bd.returns] at h; cases h) hlk
            have hv : (v11_ret p1 L_ra0) = (v11_35_l2 p1) := ((if_pos hc3_41).trans ((if_pos hc14_48).trans ((if_pos hc21_50).trans ((if_pos hc32_57).trans (if_neg hc39_59)))))
            refine ⟨_, _, k86 _ ?_, hrun, hended, _, _, rfl, ?_, ⟨_, rfl⟩, hW, hsame.mono (by decide) (by decide)⟩
            · show Steps p.tables e below (T55.setTop (mkF m 75 #[rv ra0, iv p1, iv (v11_35_l2 p1)] [(.int (v11_35_l2 p1))])) _
              exact retI X55 hx Bd.returns (hb hby d11_75) hr
            · show Q11 Z ra0 p1 k_ra0 L_ra0 h0 n0 _ T55.heap _
              rw [e55]
              exact ⟨(congrArg (fun z => some (Value.int z)) hv).symm, N55, rfl⟩
        · have k87 := fun (t : State) (kk : Steps p.tables e below (T55.setTop (mkF m 46 #[rv ra0, iv p1, iv (v11_17_l2 p1)] [(.int ((v11_17_l2 p1) - (1 : Int32))), (.ref ra0)])) t) => k56 t (by
            refine XS.ifYes X55.here hx rfl (pc0 := 32) (pc' := 38) rfl (hb hby d11_32) rfl ((if0 _ _).trans (feq hc32_57).2) (by decide) (by decide) ?_
            refine XS.iloadN X55.here hx rfl (hb hby d11_38) rfl ?_
            refine XS.ifNo X55.here hx rfl (hb hby d11_39) rfl ((if0 _ _).trans (tlt hc21_50).2.2.2) ?_
            refine XS.aloadN X55.here hx rfl (hb hby d11_42) rfl rfl ?_
            refine XS.iloadN X55.here hx rfl (hb hby d11_43) rfl ?_
            refine XS.iconst X55.here hx rfl (hb hby d11_44) ?_
            refine XS.isub X55.here hx rfl (hb hby d11_45) rfl ?_
            exact kk)
          have hV88 := V_ra0
          obtain ⟨cl88, Ar88, q88, S88, Nn88, H88, G88⟩ := hV88
          have hb89 : ¬ ((v11_17_l2 p1) - (1 : Int32)) < 0 ∧ ((v11_17_l2 p1) - (1 : Int32)) < (5 : Int32) := own_idx hc21_50 (own_dec hc3_41 hi.2)
          have hin89 : ¬ (((v11_17_l2 p1) - (1 : Int32)) < 0 ∨ cl88.slots.size ≤ (((v11_17_l2 p1) - (1 : Int32))).toNatClampNeg) := inb_of S88 hb89
          have hat89 : cl88.slots[(((v11_17_l2 p1) - (1 : Int32))).toNatClampNeg]? = some (.int (v11_28_at p1 L_ra0)) := Has.at H88 hin89 (own_getD_int _ _ _)
          have st89 := X55.baloadBytes hx (j := ((v11_17_l2 p1) - (1 : Int32))) (v := (.int (v11_28_at p1 L_ra0))) (by rw [e55]; exact Ar88.1) (State.isArrayOf_alike hZ.alike Ar88.2.1) Ar88.2.2 hin89 hat89 (g := (mkF m 46 #[rv ra0, iv p1, iv (v11_17_l2 p1)] [(.int ((v11_17_l2 p1) - (1 : Int32))), (.ref ra0)])) rfl rfl (hb hby d11_46)
          have k90 := fun (t : State) (kk : Steps p.tables e below (T55.setTop (mkF m 47 #[rv ra0, iv p1, iv (v11_17_l2 p1)] [(.int (v11_28_at p1 L_ra0))])) t) => k87 t (st89 _ kk)
          have Zz91 : n0 ≤ h0.size := (Nat.le_trans Z0 KC0.1)
          obtain ⟨_, _, ⟨T91, L91, k91, n91⟩, -, X91, ⟨Lc91, hQ91, l91, y91, z91⟩, st91⟩ := Jvm.LawKit.callS X55 hx (y := (⟨cLw, "end", "(B)Z"⟩ : MethodName)) hown (mvT hZ (hw _ (List.mem_of_getElem? (i := 8) rfl))) (mvT hZ (hw _ (List.mem_of_getElem? (i := 9) rfl))) (mvT hZ (hw _ (List.mem_of_getElem? (i := 3) rfl))) (mvT hZ (hw _ (List.mem_of_getElem? (i := 10) rfl))) (by decide) (backOf (W := 0) (rm3 l Z a0 hw [] (v11_28_at p1 L_ra0) h0 n0 Zz91) hZ (hw _ (List.mem_of_getElem? (i := 10) rfl)) (hw _ (List.mem_of_getElem? (i := 3) rfl)) (by decide) (by decide)) (g := (mkF m 47 #[rv ra0, iv p1, iv (v11_17_l2 p1)] [(.int (v11_28_at p1 L_ra0))])) rfl (by rw [hml]; rfl) (argsL := [(.int (v11_28_at p1 L_ra0))]) (rest := []) (lenOf pd_0 rfl) rfl (by show 2 * 0 + _ ≤ _; exact Nat.le_of_eq rfl) (hb hby d11_47) (fun _ _ => ⟨rfl, e55, (by decide : 0 + 0 ≤ _), (by decide : 0 + 0 ≤ _)⟩)
          dsimp only [Pt.U, Pt.locs, Pt.cells, Pt.slots] at X91 l91 y91 z91 st91 hQ91
          subst l91 y91 z91
          obtain ⟨rfl, N91q, e91⟩ := hQ91
          have N91 := Fr.app N55 N91q
          have k92 := fun (t : State) (kk : Steps p.tables e below (T91.setTop (mkF m 50 #[rv ra0, iv p1, iv (v11_17_l2 p1)] [(.int (nar .boolean (v3_3_s0 (v11_28_at p1 L_ra0))))])) t) => k90 t (st91 _ kk)
          have k93 := fun (t : State) (kk : Steps p.tables e below (T91.setTop (mkF m 64 #[rv ra0, iv p1, iv (v11_17_l2 p1)] [(.int ((v11_17_l2 p1) - (1 : Int32))), (.ref ra0)])) t) => k92 t (by
            refine XS.ifYes X91.here hx rfl (pc0 := 50) (pc' := 56) rfl (hb hby d11_50) rfl ((if0 _ _).trans (feq hc32_57).2) (by decide) (by decide) ?_
            refine XS.iloadN X91.here hx rfl (hb hby d11_56) rfl ?_
            refine XS.ifNo X91.here hx rfl (hb hby d11_57) rfl ((if0 _ _).trans (tlt hc21_50).2.2.2) ?_
            show Steps p.tables e below (T91.setTop (mkF m 60 #[rv ra0, iv p1, iv (v11_17_l2 p1)] [])) _
            refine XS.aloadN X91.here hx rfl (hb hby d11_60) rfl rfl ?_
            refine XS.iloadN X91.here hx rfl (hb hby d11_61) rfl ?_
            refine XS.iconst X91.here hx rfl (hb hby d11_62) ?_
            refine XS.isub X91.here hx rfl (hb hby d11_63) rfl ?_
            exact kk)
          have hV94 := V_ra0
          obtain ⟨cl94, Ar94, q94, S94, Nn94, H94, G94⟩ := hV94
          have hb95 : ¬ ((v11_17_l2 p1) - (1 : Int32)) < 0 ∧ ((v11_17_l2 p1) - (1 : Int32)) < (5 : Int32) := own_idx hc21_50 (own_dec hc3_41 hi.2)
          have hin95 : ¬ (((v11_17_l2 p1) - (1 : Int32)) < 0 ∨ cl94.slots.size ≤ (((v11_17_l2 p1) - (1 : Int32))).toNatClampNeg) := inb_of S94 hb95
          have hat95 : cl94.slots[(((v11_17_l2 p1) - (1 : Int32))).toNatClampNeg]? = some (.int (v11_28_at p1 L_ra0)) := Has.at H94 hin95 (own_getD_int _ _ _)
          have st95 := X91.baloadBytes hx (j := ((v11_17_l2 p1) - (1 : Int32))) (v := (.int (v11_28_at p1 L_ra0))) (by rw [e91]; exact Ar94.1) (State.isArrayOf_alike hZ.alike Ar94.2.1) Ar94.2.2 hin95 hat95 (g := (mkF m 64 #[rv ra0, iv p1, iv (v11_17_l2 p1)] [(.int ((v11_17_l2 p1) - (1 : Int32))), (.ref ra0)])) rfl rfl (hb hby d11_64)
          have k96 := fun (t : State) (kk : Steps p.tables e below (T91.setTop (mkF m 65 #[rv ra0, iv p1, iv (v11_17_l2 p1)] [(.int (v11_28_at p1 L_ra0))])) t) => k93 t (st95 _ kk)
          have Zz97 : n0 ≤ h0.size := (Nat.le_trans Z0 KC0.1)
          obtain ⟨_, _, ⟨T97, L97, k97, n97⟩, -, X97, ⟨Lc97, hQ97, l97, y97, z97⟩, st97⟩ := Jvm.LawKit.callS X91 hx (y := (⟨cLw, "end", "(B)Z"⟩ : MethodName)) hown (mvT hZ (hw _ (List.mem_of_getElem? (i := 8) rfl))) (mvT hZ (hw _ (List.mem_of_getElem? (i := 9) rfl))) (mvT hZ (hw _ (List.mem_of_getElem? (i := 3) rfl))) (mvT hZ (hw _ (List.mem_of_getElem? (i := 10) rfl))) (by decide) (backOf (W := 0) (rm3 l Z a0 hw [] (v11_28_at p1 L_ra0) h0 n0 Zz97) hZ (hw _ (List.mem_of_getElem? (i := 10) rfl)) (hw _ (List.mem_of_getElem? (i := 3) rfl)) (by decide) (by decide)) (g := (mkF m 65 #[rv ra0, iv p1, iv (v11_17_l2 p1)] [(.int (v11_28_at p1 L_ra0))])) rfl (by rw [hml]; rfl) (argsL := [(.int (v11_28_at p1 L_ra0))]) (rest := []) (lenOf pd_0 rfl) rfl (by show 2 * 0 + _ ≤ _; exact Nat.le_of_eq rfl) (hb hby d11_65) (fun _ _ => ⟨rfl, e91, (by decide : 0 + 0 ≤ _), (by decide : 0 + 0 ≤ _)⟩)
          dsimp only [Pt.U, Pt.locs, Pt.cells, Pt.slots] at X97 l97 y97 z97 st97 hQ97
          subst l97 y97 z97
          obtain ⟨rfl, N97q, e97⟩ := hQ97
          have N97 := Fr.app N91 N97q
          have k98 := fun (t : State) (kk : Steps p.tables e below (T97.setTop (mkF m 68 #[rv ra0, iv p1, iv (v11_17_l2 p1)] [(.int (nar .boolean (v3_3_s0 (v11_28_at p1 L_ra0))))])) t) => k96 t (st97 _ kk)
          have k99 := fun (t : State) (kk : Steps p.tables e below (T97.setTop (mkF m 75 #[rv ra0, iv p1, iv (v11_17_l2 p1)] [(.int (v11_17_l2 p1))])) t) => k98 t (by
            refine XS.ifYes X97.here hx rfl (pc0 := 68) (pc' := 74) rfl (hb hby d11_68) rfl ((if0 _ _).trans (feq hc32_57).2) (by decide) (by decide) ?_
            refine XS.iloadN X97.here hx rfl (hb hby d11_74) rfl ?_
            exact kk)
          obtain ⟨fs, hr, hrun, hended, hW, hsame⟩ := X97.leave (v := some (.int (v11_17_l2 p1))) (fun h => by rw [Bd.returns] at h; cases h) hlk
          have hv : (v11_ret p1 L_ra0) = (v11_17_l2 p1) := ((if_pos hc3_41).trans ((if_pos hc14_48).trans ((if_pos hc21_50).trans (if_neg hc32_57))))
          refine ⟨_, _, k99 _ ?_, hrun, hended, _, _, rfl, ?_, ⟨_, rfl⟩, hW, hsame.mono (by decide) (by decide)⟩
          · show Steps p.tables e below (T97.setTop (mkF m 75 #[rv ra0, iv p1, iv (v11_17_l2 p1)] [(.int (v11_17_l2 p1))])) _
            exact retI X97 hx Bd.returns (hb hby d11_75) hr
          · show Q11 Z ra0 p1 k_ra0 L_ra0 h0 n0 _ T97.heap _
            rw [e97]
            exact ⟨(congrArg (fun z => some (Value.int z)) hv).symm, N97, rfl⟩
      · have k100 := fun (t : State) (kk : Steps p.tables e below (T46.setTop (mkF m 75 #[rv ra0, iv p1, iv (v11_17_l2 p1)] [(.int (v11_17_l2 p1))])) t) => k49 t (by
          refine XS.ifYes X46.here hx rfl (pc0 := 21) (pc' := 38) rfl (hb hby d11_21) rfl ((if0 _ _).trans (flt hc21_50).2.2.2) (by decide) (by decide) ?_
          refine XS.iloadN X46.here hx rfl (hb hby d11_38) rfl ?_
          refine XS.ifYes X46.here hx rfl (pc0 := 39) (pc' := 56) rfl (hb hby d11_39) rfl ((if0 _ _).trans (flt hc21_50).2.2.2) (by decide) (by decide) ?_
          refine XS.iloadN X46.here hx rfl (hb hby d11_56) rfl ?_
          refine XS.ifYes X46.here hx rfl (pc0 := 57) (pc' := 74) rfl (hb hby d11_57) rfl ((if0 _ _).trans (flt hc21_50).2.2.2) (by decide) (by decide) ?_
          refine XS.iloadN X46.here hx rfl (hb hby d11_74) rfl ?_
          exact kk)
        obtain ⟨fs, hr, hrun, hended, hW, hsame⟩ := X46.leave (v := some (.int (v11_17_l2 p1))) (fun h => by rw [Bd.returns] at h; cases h) hlk
        have hv : (v11_ret p1 L_ra0) = (v11_17_l2 p1) := ((if_pos hc3_41).trans ((if_pos hc14_48).trans (if_neg hc21_50)))
        refine ⟨_, _, k100 _ ?_, hrun, hended, _, _, rfl, ?_, ⟨_, rfl⟩, hW, hsame.mono (by decide) (by decide)⟩
        · show Steps p.tables e below (T46.setTop (mkF m 75 #[rv ra0, iv p1, iv (v11_17_l2 p1)] [(.int (v11_17_l2 p1))])) _
          exact retI X46 hx Bd.returns (hb hby d11_75) hr
        · show Q11 Z ra0 p1 k_ra0 L_ra0 h0 n0 _ T46.heap _
          rw [e46]
          exact ⟨(congrArg (fun z => some (Value.int z)) hv).symm, N46, rfl⟩
    · have k101 := fun (t : State) (kk : Steps p.tables e below (T46.setTop (mkF m 28 #[rv ra0, iv p1, iv p1] [(.int (p1 - (1 : Int32))), (.ref ra0)])) t) => k47 t (by
        show Steps p.tables e below (T46.setTop (mkF m 14 #[rv ra0, iv p1, iv p1] [(.int (nar .boolean (v3_3_s0 (v11_10_at p1 L_ra0))))])) _
        refine XS.ifYes X46.here hx rfl (pc0 := 14) (pc' := 20) rfl (hb hby d11_14) rfl ((if0 _ _).trans (feq hc14_48).2) (by decide) (by decide) ?_
        refine XS.iloadN X46.here hx rfl (hb hby d11_20) rfl ?_
        refine XS.ifNo X46.here hx rfl (hb hby d11_21) rfl ((if0 _ _).trans (tlt hc3_41).2.2.2) ?_
        refine XS.aloadN X46.here hx rfl (hb hby d11_24) rfl rfl ?_
        refine XS.iloadN X46.here hx rfl (hb hby d11_25) rfl ?_
        refine XS.iconst X46.here hx rfl (hb hby d11_26) ?_
        refine XS.isub X46.here hx rfl (hb hby d11_27) rfl ?_
        exact kk)
      have hV102 := V_ra0
      obtain ⟨cl102, Ar102, q102, S102, Nn102, H102, G102⟩ := hV102
      have hb103 : ¬ (p1 - (1 : Int32)) < 0 ∧ (p1 - (1 : Int32)) < (5 : Int32) := own_idx hc3_41 hi.2
      have hin103 : ¬ ((p1 - (1 : Int32)) < 0 ∨ cl102.slots.size ≤ ((p1 - (1 : Int32))).toNatClampNeg) := inb_of S102 hb103
      have hat103 : cl102.slots[((p1 - (1 : Int32))).toNatClampNeg]? = some (.int (v11_10_at p1 L_ra0)) := Has.at H102 hin103 (own_getD_int _ _ _)
      have st103 := X46.baloadBytes hx (j := (p1 - (1 : Int32))) (v := (.int (v11_10_at p1 L_ra0))) (by rw [e46]; exact Ar102.1) (State.isArrayOf_alike hZ.alike Ar102.2.1) Ar102.2.2 hin103 hat103 (g := (mkF m 28 #[rv ra0, iv p1, iv p1] [(.int (p1 - (1 : Int32))), (.ref ra0)])) rfl rfl (hb hby d11_28)
      have k104 := fun (t : State) (kk : Steps p.tables e below (T46.setTop (mkF m 29 #[rv ra0, iv p1, iv p1] [(.int (v11_10_at p1 L_ra0))])) t) => k101 t (st103 _ kk)
      have Zz105 : n0 ≤ h0.size := (Nat.le_trans Z0 KC0.1)
      obtain ⟨_, _, ⟨T105, L105, k105, n105⟩, -, X105, ⟨Lc105, hQ105, l105, y105, z105⟩, st105⟩ := Jvm.LawKit.callS X46 hx (y := (⟨cLw, "end", "(B)Z"⟩ : MethodName)) hown (mvT hZ (hw _ (List.mem_of_getElem? (i := 8) rfl))) (mvT hZ (hw _ (List.mem_of_getElem? (i := 9) rfl))) (mvT hZ (hw _ (List.mem_of_getElem? (i := 3) rfl))) (mvT hZ (hw _ (List.mem_of_getElem? (i := 10) rfl))) (by decide) (backOf (W := 0) (rm3 l Z a0 hw [] (v11_10_at p1 L_ra0) h0 n0 Zz105) hZ (hw _ (List.mem_of_getElem? (i := 10) rfl)) (hw _ (List.mem_of_getElem? (i := 3) rfl)) (by decide) (by decide)) (g := (mkF m 29 #[rv ra0, iv p1, iv p1] [(.int (v11_10_at p1 L_ra0))])) rfl (by rw [hml]; rfl) (argsL := [(.int (v11_10_at p1 L_ra0))]) (rest := []) (lenOf pd_0 rfl) rfl (by show 2 * 0 + _ ≤ _; exact Nat.le_of_eq rfl) (hb hby d11_29) (fun _ _ => ⟨rfl, e46, (by decide : 0 + 0 ≤ _), (by decide : 0 + 0 ≤ _)⟩)
      dsimp only [Pt.U, Pt.locs, Pt.cells, Pt.slots] at X105 l105 y105 z105 st105 hQ105
      subst l105 y105 z105
      obtain ⟨rfl, N105q, e105⟩ := hQ105
      have N105 := Fr.app N46 N105q
      have k106 := fun (t : State) (kk : Steps p.tables e below (T105.setTop (mkF m 32 #[rv ra0, iv p1, iv p1] [(.int (nar .boolean (v3_3_s0 (v11_10_at p1 L_ra0))))])) t) => k104 t (st105 _ kk)
      have k107 := fun (t : State) (kk : Steps p.tables e below (T105.setTop (mkF m 46 #[rv ra0, iv p1, iv p1] [(.int (p1 - (1 : Int32))), (.ref ra0)])) t) => k106 t (by
        refine XS.ifYes X105.here hx rfl (pc0 := 32) (pc' := 38) rfl (hb hby d11_32) rfl ((if0 _ _).trans (feq hc14_48).2) (by decide) (by decide) ?_
        refine XS.iloadN X105.here hx rfl (hb hby d11_38) rfl ?_
        refine XS.ifNo X105.here hx rfl (hb hby d11_39) rfl ((if0 _ _).trans (tlt hc3_41).2.2.2) ?_
        refine XS.aloadN X105.here hx rfl (hb hby d11_42) rfl rfl ?_
        refine XS.iloadN X105.here hx rfl (hb hby d11_43) rfl ?_
        show Steps p.tables e below (T105.setTop (mkF m 44 #[rv ra0, iv p1, iv p1] [(.int p1), (.ref ra0)])) _
        refine XS.iconst X105.here hx rfl (hb hby d11_44) ?_
        refine XS.isub X105.here hx rfl (hb hby d11_45) rfl ?_
        exact kk)
      have hV108 := V_ra0
      obtain ⟨cl108, Ar108, q108, S108, Nn108, H108, G108⟩ := hV108
      have hb109 : ¬ (p1 - (1 : Int32)) < 0 ∧ (p1 - (1 : Int32)) < (5 : Int32) := own_idx hc3_41 hi.2
      have hin109 : ¬ ((p1 - (1 : Int32)) < 0 ∨ cl108.slots.size ≤ ((p1 - (1 : Int32))).toNatClampNeg) := inb_of S108 hb109
      have hat109 : cl108.slots[((p1 - (1 : Int32))).toNatClampNeg]? = some (.int (v11_10_at p1 L_ra0)) := Has.at H108 hin109 (own_getD_int _ _ _)
      have st109 := X105.baloadBytes hx (j := (p1 - (1 : Int32))) (v := (.int (v11_10_at p1 L_ra0))) (by rw [e105]; exact Ar108.1) (State.isArrayOf_alike hZ.alike Ar108.2.1) Ar108.2.2 hin109 hat109 (g := (mkF m 46 #[rv ra0, iv p1, iv p1] [(.int (p1 - (1 : Int32))), (.ref ra0)])) rfl rfl (hb hby d11_46)
      have k110 := fun (t : State) (kk : Steps p.tables e below (T105.setTop (mkF m 47 #[rv ra0, iv p1, iv p1] [(.int (v11_10_at p1 L_ra0))])) t) => k107 t (st109 _ kk)
      have Zz111 : n0 ≤ h0.size := (Nat.le_trans Z0 KC0.1)
      obtain ⟨_, _, ⟨T111, L111, k111, n111⟩, -, X111, ⟨Lc111, hQ111, l111, y111, z111⟩, st111⟩ := Jvm.LawKit.callS X105 hx (y := (⟨cLw, "end", "(B)Z"⟩ : MethodName)) hown (mvT hZ (hw _ (List.mem_of_getElem? (i := 8) rfl))) (mvT hZ (hw _ (List.mem_of_getElem? (i := 9) rfl))) (mvT hZ (hw _ (List.mem_of_getElem? (i := 3) rfl))) (mvT hZ (hw _ (List.mem_of_getElem? (i := 10) rfl))) (by decide) (backOf (W := 0) (rm3 l Z a0 hw [] (v11_10_at p1 L_ra0) h0 n0 Zz111) hZ (hw _ (List.mem_of_getElem? (i := 10) rfl)) (hw _ (List.mem_of_getElem? (i := 3) rfl)) (by decide) (by decide)) (g := (mkF m 47 #[rv ra0, iv p1, iv p1] [(.int (v11_10_at p1 L_ra0))])) rfl (by rw [hml]; rfl) (argsL := [(.int (v11_10_at p1 L_ra0))]) (rest := []) (lenOf pd_0 rfl) rfl (by show 2 * 0 + _ ≤ _; exact Nat.le_of_eq rfl) (hb hby d11_47) (fun _ _ => ⟨rfl, e105, (by decide : 0 + 0 ≤ _), (by decide : 0 + 0 ≤ _)⟩)
      dsimp only [Pt.U, Pt.locs, Pt.cells, Pt.slots] at X111 l111 y111 z111 st111 hQ111
      subst l111 y111 z111
      obtain ⟨rfl, N111q, e111⟩ := hQ111
      have N111 := Fr.app N105 N111q
      have k112 := fun (t : State) (kk : Steps p.tables e below (T111.setTop (mkF m 50 #[rv ra0, iv p1, iv p1] [(.int (nar .boolean (v3_3_s0 (v11_10_at p1 L_ra0))))])) t) => k110 t (st111 _ kk)
      have k113 := fun (t : State) (kk : Steps p.tables e below (T111.setTop (mkF m 64 #[rv ra0, iv p1, iv p1] [(.int (p1 - (1 : Int32))), (.ref ra0)])) t) => k112 t (by
        refine XS.ifYes X111.here hx rfl (pc0 := 50) (pc' := 56) rfl (hb hby d11_50) rfl ((if0 _ _).trans (feq hc14_48).2) (by decide) (by decide) ?_
        refine XS.iloadN X111.here hx rfl (hb hby d11_56) rfl ?_
        refine XS.ifNo X111.here hx rfl (hb hby d11_57) rfl ((if0 _ _).trans (tlt hc3_41).2.2.2) ?_
        refine XS.aloadN X111.here hx rfl (hb hby d11_60) rfl rfl ?_
        refine XS.iloadN X111.here hx rfl (hb hby d11_61) rfl ?_
        refine XS.iconst X111.here hx rfl (hb hby d11_62) ?_
        refine XS.isub X111.here hx rfl (hb hby d11_63) rfl ?_
        exact kk)
      have hV114 := V_ra0
      obtain ⟨cl114, Ar114, q114, S114, Nn114, H114, G114⟩ := hV114
      have hb115 : ¬ (p1 - (1 : Int32)) < 0 ∧ (p1 - (1 : Int32)) < (5 : Int32) := own_idx hc3_41 hi.2
      have hin115 : ¬ ((p1 - (1 : Int32)) < 0 ∨ cl114.slots.size ≤ ((p1 - (1 : Int32))).toNatClampNeg) := inb_of S114 hb115
      have hat115 : cl114.slots[((p1 - (1 : Int32))).toNatClampNeg]? = some (.int (v11_10_at p1 L_ra0)) := Has.at H114 hin115 (own_getD_int _ _ _)
      have st115 := X111.baloadBytes hx (j := (p1 - (1 : Int32))) (v := (.int (v11_10_at p1 L_ra0))) (by rw [e111]; exact Ar114.1) (State.isArrayOf_alike hZ.alike Ar114.2.1) Ar114.2.2 hin115 hat115 (g := (mkF m 64 #[rv ra0, iv p1, iv p1] [(.int (p1 - (1 : Int32))), (.ref ra0)])) rfl rfl (hb hby d11_64)
      have k116 := fun (t : State) (kk : Steps p.tables e below (T111.setTop (mkF m 65 #[rv ra0, iv p1, iv p1] [(.int (v11_10_at p1 L_ra0))])) t) => k113 t (st115 _ kk)
      have Zz117 : n0 ≤ h0.size := (Nat.le_trans Z0 KC0.1)
      obtain ⟨_, _, ⟨T117, L117, k117, n117⟩, -, X117, ⟨Lc117, hQ117, l117, y117, z117⟩, st117⟩ := Jvm.LawKit.callS X111 hx (y := (⟨cLw, "end", "(B)Z"⟩ : MethodName)) hown (mvT hZ (hw _ (List.mem_of_getElem? (i := 8) rfl))) (mvT hZ (hw _ (List.mem_of_getElem? (i := 9) rfl))) (mvT hZ (hw _ (List.mem_of_getElem? (i := 3) rfl))) (mvT hZ (hw _ (List.mem_of_getElem? (i := 10) rfl))) (by decide) (backOf (W := 0) (rm3 l Z a0 hw [] (v11_10_at p1 L_ra0) h0 n0 Zz117) hZ (hw _ (List.mem_of_getElem? (i := 10) rfl)) (hw _ (List.mem_of_getElem? (i := 3) rfl)) (by decide) (by decide)) (g := (mkF m 65 #[rv ra0, iv p1, iv p1] [(.int (v11_10_at p1 L_ra0))])) rfl (by rw [hml]; rfl) (argsL := [(.int (v11_10_at p1 L_ra0))]) (rest := []) (lenOf pd_0 rfl) rfl (by show 2 * 0 + _ ≤ _; exact Nat.le_of_eq rfl) (hb hby d11_65) (fun _ _ => ⟨rfl, e111, (by decide : 0 + 0 ≤ _), (by decide : 0 + 0 ≤ _)⟩)
      dsimp only [Pt.U, Pt.locs, Pt.cells, Pt.slots] at X117 l117 y117 z117 st117 hQ117
      subst l117 y117 z117
      obtain ⟨rfl, N117q, e117⟩ := hQ117
      have N117 := Fr.app N111 N117q
      have k118 := fun (t : State) (kk : Steps p.tables e below (T117.setTop (mkF m 68 #[rv ra0, iv p1, iv p1] [(.int (nar .boolean (v3_3_s0 (v11_10_at p1 L_ra0))))])) t) => k116 t (st117 _ kk)
      have k119 := fun (t : State) (kk : Steps p.tables e below (T117.setTop (mkF m 75 #[rv ra0, iv p1, iv p1] [(.int p1)])) t) => k118 t (by
        refine XS.ifYes X117.here hx rfl (pc0 := 68) (pc' := 74) rfl (hb hby d11_68) rfl ((if0 _ _).trans (feq hc14_48).2) (by decide) (by decide) ?_
        refine XS.iloadN X117.here hx rfl (hb hby d11_74) rfl ?_
        exact kk)
      obtain ⟨fs, hr, hrun, hended, hW, hsame⟩ := X117.leave (v := some (.int p1)) (fun h => by rw [Bd.returns] at h; cases h) hlk
      have hv : (v11_ret p1 L_ra0) = p1 := ((if_pos hc3_41).trans (if_neg hc14_48))
      refine ⟨_, _, k119 _ ?_, hrun, hended, _, _, rfl, ?_, ⟨_, rfl⟩, hW, hsame.mono (by decide) (by decide)⟩
      · show Steps p.tables e below (T117.setTop (mkF m 75 #[rv ra0, iv p1, iv p1] [(.int p1)])) _
        exact retI X117 hx Bd.returns (hb hby d11_75) hr
      · show Q11 Z ra0 p1 k_ra0 L_ra0 h0 n0 _ T117.heap _
        rw [e117]
        exact ⟨(congrArg (fun z => some (Value.int z)) hv).symm, N117, rfl⟩
  · have k120 := fun (t : State) (kk : Steps p.tables e below (s₁.setTop (mkF m 75 #[rv ra0, iv p1, iv p1] [(.int p1)])) t) => k40 t (by
      refine XS.ifYes X0.here hx rfl (pc0 := 3) (pc' := 20) rfl (hb hby d11_3) rfl ((if0 _ _).trans (flt hc3_41).2.2.2) (by decide) (by decide) ?_
      show Steps p.tables e below (s₁.setTop (mkF m 20 #[rv ra0, iv p1, iv p1] [])) _
      refine XS.iloadN X0.here hx rfl (hb hby d11_20) rfl ?_
      refine XS.ifYes X0.here hx rfl (pc0 := 21) (pc' := 38) rfl (hb hby d11_21) rfl ((if0 _ _).trans (flt hc3_41).2.2.2) (by decide) (by decide) ?_
      refine XS.iloadN X0.here hx rfl (hb hby d11_38) rfl ?_
      refine XS.ifYes X0.here hx rfl (pc0 := 39) (pc' := 56) rfl (hb hby d11_39) rfl ((if0 _ _).trans (flt hc3_41).2.2.2) (by decide) (by decide) ?_
      refine XS.iloadN X0.here hx rfl (hb hby d11_56) rfl ?_
      refine XS.ifYes X0.here hx rfl (pc0 := 57) (pc' := 74) rfl (hb hby d11_57) rfl ((if0 _ _).trans (flt hc3_41).2.2.2) (by decide) (by decide) ?_
      refine XS.iloadN X0.here hx rfl (hb hby d11_74) rfl ?_
      exact kk)
    obtain ⟨fs, hr, hrun, hended, hW, hsame⟩ := X0.leave (v := some (.int p1)) (fun h => by rw [Bd.returns] at h; cases h) hlk
    have hv : (v11_ret p1 L_ra0) = p1 := (if_neg hc3_41)
    refine ⟨_, _, k120 _ ?_, hrun, hended, _, _, rfl, ?_, ⟨_, rfl⟩, hW, hsame.mono (by decide) (by decide)⟩
    · show Steps p.tables e below (s₁.setTop (mkF m 75 #[rv ra0, iv p1, iv p1] [(.int p1)])) _
      exact retI X0 hx Bd.returns (hb hby d11_75) hr
    · show Q11 Z ra0 p1 k_ra0 L_ra0 h0 n0 _ s₁.heap _
      rw [e0]
      exact ⟨(congrArg (fun z => some (Value.int z)) hv).symm, N0, rfl⟩
theorem own_ltlt {p : Int32} {a b : Int32} (h : p < a) (q : a < b) : p < b := by rw [Int32.lt_iff_toInt_lt] at *; omega
theorem d9_0 : decode method_5_code 0 = .ok (.iload_n 1, 1) := by decide +kernel
theorem d9_1 : decode method_5_code 1 = .ok (.iconst 1, 1) := by decide +kernel
theorem d9_2 : decode method_5_code 2 = .ok (.if_icmp .lt 9, 3) := by decide +kernel
theorem d9_5 : decode method_5_code 5 = .ok (.aload_n 0, 1) := by decide +kernel
theorem d9_6 : decode method_5_code 6 = .ok (.iconst 0, 1) := by decide +kernel
theorem d9_7 : decode method_5_code 7 = .ok (.baload, 1) := by decide +kernel
theorem d9_8 : decode method_5_code 8 = .ok (.ifCond .lt 51, 3) := by decide +kernel
theorem d9_11 : decode method_5_code 11 = .ok (.iload_n 1, 1) := by decide +kernel
theorem d9_12 : decode method_5_code 12 = .ok (.iconst 2, 1) := by decide +kernel
theorem d9_13 : decode method_5_code 13 = .ok (.if_icmp .lt 9, 3) := by decide +kernel
theorem d9_16 : decode method_5_code 16 = .ok (.aload_n 0, 1) := by decide +kernel
theorem d9_17 : decode method_5_code 17 = .ok (.iconst 1, 1) := by decide +kernel
theorem d9_18 : decode method_5_code 18 = .ok (.baload, 1) := by decide +kernel
theorem d9_19 : decode method_5_code 19 = .ok (.ifCond .lt 40, 3) := by decide +kernel
theorem d9_22 : decode method_5_code 22 = .ok (.iload_n 1, 1) := by decide +kernel
theorem d9_23 : decode method_5_code 23 = .ok (.iconst 3, 1) := by decide +kernel
theorem d9_24 : decode method_5_code 24 = .ok (.if_icmp .lt 9, 3) := by decide +kernel
theorem d9_27 : decode method_5_code 27 = .ok (.aload_n 0, 1) := by decide +kernel
theorem d9_28 : decode method_5_code 28 = .ok (.iconst 2, 1) := by decide +kernel
theorem d9_29 : decode method_5_code 29 = .ok (.baload, 1) := by decide +kernel
theorem d9_30 : decode method_5_code 30 = .ok (.ifCond .lt 29, 3) := by decide +kernel
theorem d9_33 : decode method_5_code 33 = .ok (.iload_n 1, 1) := by decide +kernel
theorem d9_34 : decode method_5_code 34 = .ok (.iconst 4, 1) := by decide +kernel
theorem d9_35 : decode method_5_code 35 = .ok (.if_icmp .lt 9, 3) := by decide +kernel
theorem d9_38 : decode method_5_code 38 = .ok (.aload_n 0, 1) := by decide +kernel
theorem d9_39 : decode method_5_code 39 = .ok (.iconst 3, 1) := by decide +kernel
theorem d9_40 : decode method_5_code 40 = .ok (.baload, 1) := by decide +kernel
theorem d9_41 : decode method_5_code 41 = .ok (.ifCond .lt 18, 3) := by decide +kernel
theorem d9_44 : decode method_5_code 44 = .ok (.iload_n 1, 1) := by decide +kernel
theorem d9_45 : decode method_5_code 45 = .ok (.iconst 5, 1) := by decide +kernel
theorem d9_46 : decode method_5_code 46 = .ok (.if_icmp .lt 9, 3) := by decide +kernel
theorem d9_49 : decode method_5_code 49 = .ok (.aload_n 0, 1) := by decide +kernel
theorem d9_50 : decode method_5_code 50 = .ok (.iconst 4, 1) := by decide +kernel
theorem d9_51 : decode method_5_code 51 = .ok (.baload, 1) := by decide +kernel
theorem d9_52 : decode method_5_code 52 = .ok (.ifCond .lt 7, 3) := by decide +kernel
theorem d9_55 : decode method_5_code 55 = .ok (.iconst 1, 1) := by decide +kernel
theorem d9_56 : decode method_5_code 56 = .ok (.goto 4, 3) := by decide +kernel
theorem d9_59 : decode method_5_code 59 = .ok (.iconst 0, 1) := by decide +kernel
theorem d9_60 : decode method_5_code 60 = .ok (.ireturn, 1) := by decide +kernel
def v9_7_at (L_ra0 : List Int32) : Int32 := (L_ra0.getD ((0 : Int32)).toNatClampNeg (0 : Int32))
def v9_18_at (L_ra0 : List Int32) : Int32 := (L_ra0.getD ((1 : Int32)).toNatClampNeg (0 : Int32))
def v9_29_at (L_ra0 : List Int32) : Int32 := (L_ra0.getD ((2 : Int32)).toNatClampNeg (0 : Int32))
def v9_40_at (L_ra0 : List Int32) : Int32 := (L_ra0.getD ((3 : Int32)).toNatClampNeg (0 : Int32))
def v9_51_at (L_ra0 : List Int32) : Int32 := (L_ra0.getD ((4 : Int32)).toNatClampNeg (0 : Int32))
def v9_52_s0 (L_ra0 : List Int32) : Int32 := if (v9_51_at L_ra0) < (0 : Int32) then (0 : Int32) else (1 : Int32)
def v9_ret (p1 : Int32) (L_ra0 : List Int32) : Int32 := (if p1 < (1 : Int32) then (1 : Int32) else (if (v9_7_at L_ra0) < (0 : Int32) then (0 : Int32) else (if p1 < (2 : Int32) then (1 : Int32) else (if (v9_18_at L_ra0) < (0 : Int32) then (0 : Int32) else (if p1 < (3 : Int32) then (1 : Int32) else (if (v9_29_at L_ra0) < (0 : Int32) then (0 : Int32) else (if p1 < (4 : Int32) then (1 : Int32) else (if (v9_40_at L_ra0) < (0 : Int32) then (0 : Int32) else (if p1 < (5 : Int32) then (1 : Int32) else (nar .boolean (v9_52_s0 L_ra0)))))))))))
theorem ef_rm9 (m : MethodId) (ra0 : Addr) (p1 : Int32) : entryFrame m #[(.ref ra0), (.int p1)] 2 = mkF m 0 #[rv ra0, iv p1] [] := by first | (simp [entryFrame, mkF, argsToLocals, Value.category]; done) | rfl
def Q9 (Z : State) (ra0 : Addr) (p1 : Int32) (k_ra0 : ClassId) (L_ra0 : List Int32) (h0 : Heap) (n0 : Nat) (v : Option Value) (h : Heap) (L : List Loc) : Prop := (v = some (.int (v9_ret p1 L_ra0)) ∧ Fr n0 L ∧ h = h0)
set_option maxRecDepth 65536 in
set_option maxHeartbeats 40000000 in
theorem rm9 (l : Launch) (Z : State) (a0 : Array Value) (hw : ∀ d ∈ tables_1, d.before a0 Z = true) (ws : List Jvm.Cond) (ra0 : Addr) (p1 : Int32) (k_ra0 : ClassId) (L_ra0 : List Int32) (h0 : Heap) (n0 : Nat) (Z0 : n0 ≤ h0.size) (V_ra0 : Arv Z h0 ra0 k_ra0 .byte (5 : Int32) (List.map Value.int L_ra0) (.int 0)) (VL_ra0 : L_ra0.length = ((5 : Int32)).toNatClampNeg) :
    MetFree l (⟨cLw, "noNeg", "([BI)Z"⟩ : MethodName) (head1 (Jvm.Cond.code (⟨cLw, "noNeg", "([BI)Z"⟩ : MethodName) method_5_code 2 (some .boolean) :: ws) ({ frames := 0, cells := 0, slots := 0, locals := 0 } : Room)) (fun a U => a = #[(.ref ra0), (.int p1)] ∧ Z.Warmed39 U.vm ∧ U.heap = h0) (fun _ _ _ _ _ => True) (fun _ U o U' => ∃ v L, o = .returned v ∧ Q9 Z ra0 p1 k_ra0 L_ra0 h0 n0 v U'.heap L ∧ FrameEnd U o U' L ({ frames := 0, cells := 0, slots := 0, locals := 0 } : Room).cells ({ frames := 0, cells := 0, slots := 0, locals := 0 } : Room).slots) := by
  refine MetFree.of_bodySF (plainFor_of_name pn_48) hisR ?_
  intro p e s m args below meth c s₁ Bd hml0 hP hK
  obtain ⟨rfl, hZ, hh⟩ := hP
  have hx := Bd.exec
  have hlk : meth.locks = false := by first | exact BodyLoose.notSynchronized Bd | exact Body.notSynchronized Bd
  have hby := Bd.bytes
  have hml : c.maxLocals = 2 := hml0
  have hown : s.vm.findClass cLw = some m.cls := findClass_of_methodNamed Bd.named
  have hnm := (name_of_methodNamed Bd.named Bd.method).1
  have X0 : Stand p l e ({ frames := 0, cells := 0, slots := 0, locals := 0 } : Room) s m #[(.ref ra0), (.int p1)] below meth c s₁ [] 0 0 := Stand.of_body Bd
  have e0 : s₁.heap = h0 := by rw [← hh, Bd.state]; rfl
  have N0 := Fr.nil n0
  have KC0 := Keep.refl h0 ([] : List Addr)
  have pre0 : ∀ t, Steps p.tables e below (s₁.setTop (mkF m 0 #[rv ra0, iv p1] [])) t → Steps p.tables e below (s₁.setTop (entryFrame m #[(.ref ra0), (.int p1)] 2)) t := fun t k => castTop (ef_rm9 m ra0 p1) k
  have k121 := fun (t : State) (kk : Steps p.tables e below (s₁.setTop (mkF m 2 #[rv ra0, iv p1] [(.int 1), (.int p1)])) t) => pre0 t (by
    refine XS.iloadN X0.here hx rfl (hb hby d9_0) rfl ?_
    refine XS.iconst X0.here hx rfl (hb hby d9_1) ?_
    exact kk)
  by_cases hc2_122 : p1 < (1 : Int32)
  · have k123 := fun (t : State) (kk : Steps p.tables e below (s₁.setTop (mkF m 13 #[rv ra0, iv p1] [(.int 2), (.int p1)])) t) => k121 t (by
      refine XS.icmpYes X0.here hx rfl (pc0 := 2) (pc' := 11) rfl (hb hby d9_2) rfl (tlt hc2_122).1 (by decide) (by decide) ?_
      refine XS.iloadN X0.here hx rfl (hb hby d9_11) rfl ?_
      refine XS.iconst X0.here hx rfl (hb hby d9_12) ?_
      exact kk)
    have hc13_124 : p1 < (2 : Int32) := own_ltlt hc2_122 (by decide)
    have k125 := fun (t : State) (kk : Steps p.tables e below (s₁.setTop (mkF m 24 #[rv ra0, iv p1] [(.int 3), (.int p1)])) t) => k123 t (by
      refine XS.icmpYes X0.here hx rfl (pc0 := 13) (pc' := 22) rfl (hb hby d9_13) rfl (tlt hc13_124).1 (by decide) (by decide) ?_
      refine XS.iloadN X0.here hx rfl (hb hby d9_22) rfl ?_
      refine XS.iconst X0.here hx rfl (hb hby d9_23) ?_
      exact kk)
    have hc24_126 : p1 < (3 : Int32) := own_ltlt hc13_124 (by decide)
    have k127 := fun (t : State) (kk : Steps p.tables e below (s₁.setTop (mkF m 35 #[rv ra0, iv p1] [(.int 4), (.int p1)])) t) => k125 t (by
      show Steps p.tables e below (s₁.setTop (mkF m 24 #[rv ra0, iv p1] [(.int 3), (.int p1)])) _
      refine XS.icmpYes X0.here hx rfl (pc0 := 24) (pc' := 33) rfl (hb hby d9_24) rfl (tlt hc24_126).1 (by decide) (by decide) ?_
      refine XS.iloadN X0.here hx rfl (hb hby d9_33) rfl ?_
      refine XS.iconst X0.here hx rfl (hb hby d9_34) ?_
      exact kk)
    have hc35_128 : p1 < (4 : Int32) := own_ltlt hc24_126 (by decide)
    have k129 := fun (t : State) (kk : Steps p.tables e below (s₁.setTop (mkF m 46 #[rv ra0, iv p1] [(.int 5), (.int p1)])) t) => k127 t (by
      refine XS.icmpYes X0.here hx rfl (pc0 := 35) (pc' := 44) rfl (hb hby d9_35) rfl (tlt hc35_128).1 (by decide) (by decide) ?_
      refine XS.iloadN X0.here hx rfl (hb hby d9_44) rfl ?_
      refine XS.iconst X0.here hx rfl (hb hby d9_45) ?_
      exact kk)
    have hc46_130 : p1 < (5 : Int32) := own_ltlt hc35_128 (by decide)
    have k131 := fun (t : State) (kk : Steps p.tables e below (s₁.setTop (mkF m 60 #[rv ra0, iv p1] [(.int 1)])) t) => k129 t (by
      refine XS.icmpYes X0.here hx rfl (pc0 := 46) (pc' := 55) rfl (hb hby d9_46) rfl (tlt hc46_130).1 (by decide) (by decide) ?_
      refine XS.iconst X0.here hx rfl (hb hby d9_55) ?_
      refine XS.goto X0.here hx rfl (pc0 := 56) (pc' := 60) rfl (hb hby d9_56) (by decide) (by decide) ?_
      exact kk)
    obtain ⟨fs, hr, hrun, hended, hW, hsame⟩ := X0.leave (v := some (.int 1)) (fun h => by rw [Bd.returns] at h; cases h) hlk
    have hv : (v9_ret p1 L_ra0) = (1 : Int32) := (if_pos hc2_122)
    refine ⟨_, _, k131 _ ?_, hrun, hended, _, _, rfl, ?_, ⟨_, rfl⟩, hW, hsame.mono (by decide) (by decide)⟩
    · show Steps p.tables e below (s₁.setTop (mkF m 60 #[rv ra0, iv p1] [(.int 1)])) _
      exact retN X0 hx (t := .boolean) Bd.returns (by simp) (hb hby d9_60) hr
    · show Q9 Z ra0 p1 k_ra0 L_ra0 h0 n0 _ s₁.heap _
      rw [e0]
      exact ⟨(congrArg (fun z => some (Value.int z)) hv).symm, N0, rfl⟩
  · have k132 := fun (t : State) (kk : Steps p.tables e below (s₁.setTop (mkF m 7 #[rv ra0, iv p1] [(.int 0), (.ref ra0)])) t) => k121 t (by
      refine XS.icmpNo X0.here hx rfl (hb hby d9_2) rfl (flt hc2_122).1 ?_
      refine XS.aloadN X0.here hx rfl (hb hby d9_5) rfl rfl ?_
      refine XS.iconst X0.here hx rfl (hb hby d9_6) ?_
      exact kk)
    have hV133 := V_ra0
    obtain ⟨cl133, Ar133, q133, S133, Nn133, H133, G133⟩ := hV133
    have hb134 : ¬ (0 : Int32) < 0 ∧ (0 : Int32) < (5 : Int32) := ⟨by decide, by decide⟩
    have hin134 : ¬ ((0 : Int32) < 0 ∨ cl133.slots.size ≤ ((0 : Int32)).toNatClampNeg) := inb_of S133 hb134
    have hat134 : cl133.slots[((0 : Int32)).toNatClampNeg]? = some (.int (v9_7_at L_ra0)) := Has.at H133 hin134 (own_getD_int _ _ _)
    have st134 := X0.baloadBytes hx (j := (0 : Int32)) (v := (.int (v9_7_at L_ra0))) (by rw [e0]; exact Ar133.1) (State.isArrayOf_alike hZ.alike Ar133.2.1) Ar133.2.2 hin134 hat134 (g := (mkF m 7 #[rv ra0, iv p1] [(.int 0), (.ref ra0)])) rfl rfl (hb hby d9_7)
    have k135 := fun (t : State) (kk : Steps p.tables e below (s₁.setTop (mkF m 8 #[rv ra0, iv p1] [(.int (v9_7_at L_ra0))])) t) => k132 t (st134 _ kk)
    by_cases hc8_136 : (v9_7_at L_ra0) < (0 : Int32)
    · have k137 := fun (t : State) (kk : Steps p.tables e below (s₁.setTop (mkF m 60 #[rv ra0, iv p1] [(.int 0)])) t) => k135 t (by
        show Steps p.tables e below (s₁.setTop (mkF m 8 #[rv ra0, iv p1] [(.int (v9_7_at L_ra0))])) _
        refine XS.ifYes X0.here hx rfl (pc0 := 8) (pc' := 59) rfl (hb hby d9_8) rfl ((if0 _ _).trans (tlt hc8_136).1) (by decide) (by decide) ?_
        refine XS.iconst X0.here hx rfl (hb hby d9_59) ?_
        exact kk)
      obtain ⟨fs, hr, hrun, hended, hW, hsame⟩ := X0.leave (v := some (.int 0)) (fun h => by rw [Bd.returns] at h; cases h) hlk
      have hv : (v9_ret p1 L_ra0) = (0 : Int32) := ((if_neg hc2_122).trans (if_pos hc8_136))
      refine ⟨_, _, k137 _ ?_, hrun, hended, _, _, rfl, ?_, ⟨_, rfl⟩, hW, hsame.mono (by decide) (by decide)⟩
      · show Steps p.tables e below (s₁.setTop (mkF m 60 #[rv ra0, iv p1] [(.int 0)])) _
        exact retN X0 hx (t := .boolean) Bd.returns (by simp) (hb hby d9_60) hr
      · show Q9 Z ra0 p1 k_ra0 L_ra0 h0 n0 _ s₁.heap _
        rw [e0]
        exact ⟨(congrArg (fun z => some (Value.int z)) hv).symm, N0, rfl⟩
    · have k138 := fun (t : State) (kk : Steps p.tables e below (s₁.setTop (mkF m 13 #[rv ra0, iv p1] [(.int 2), (.int p1)])) t) => k135 t (by
        refine XS.ifNo X0.here hx rfl (hb hby d9_8) rfl ((if0 _ _).trans (flt hc8_136).1) ?_
        refine XS.iloadN X0.here hx rfl (hb hby d9_11) rfl ?_
        refine XS.iconst X0.here hx rfl (hb hby d9_12) ?_
        exact kk)
      by_cases hc13_139 : p1 < (2 : Int32)
      · have k140 := fun (t : State) (kk : Steps p.tables e below (s₁.setTop (mkF m 24 #[rv ra0, iv p1] [(.int 3), (.int p1)])) t) => k138 t (by
          refine XS.icmpYes X0.here hx rfl (pc0 := 13) (pc' := 22) rfl (hb hby d9_13) rfl (tlt hc13_139).1 (by decide) (by decide) ?_
          refine XS.iloadN X0.here hx rfl (hb hby d9_22) rfl ?_
          refine XS.iconst X0.here hx rfl (hb hby d9_23) ?_
          exact kk)
        have hc24_141 : p1 < (3 : Int32) := own_ltlt hc13_139 (by decide)
        have k142 := fun (t : State) (kk : Steps p.tables e below (s₁.setTop (mkF m 35 #[rv ra0, iv p1] [(.int 4), (.int p1)])) t) => k140 t (by
          refine XS.icmpYes X0.here hx rfl (pc0 := 24) (pc' := 33) rfl (hb hby d9_24) rfl (tlt hc24_141).1 (by decide) (by decide) ?_
          refine XS.iloadN X0.here hx rfl (hb hby d9_33) rfl ?_
          refine XS.iconst X0.here hx rfl (hb hby d9_34) ?_
          exact kk)
        have hc35_143 : p1 < (4 : Int32) := own_ltlt hc24_141 (by decide)
        have k144 := fun (t : State) (kk : Steps p.tables e below (s₁.setTop (mkF m 46 #[rv ra0, iv p1] [(.int 5), (.int p1)])) t) => k142 t (by
          refine XS.icmpYes X0.here hx rfl (pc0 := 35) (pc' := 44) rfl (hb hby d9_35) rfl (tlt hc35_143).1 (by decide) (by decide) ?_
          show Steps p.tables e below (s₁.setTop (mkF m 44 #[rv ra0, iv p1] [])) _
          refine XS.iloadN X0.here hx rfl (hb hby d9_44) rfl ?_
          refine XS.iconst X0.here hx rfl (hb hby d9_45) ?_
          exact kk)
        have hc46_145 : p1 < (5 : Int32) := own_ltlt hc35_143 (by decide)
        have k146 := fun (t : State) (kk : Steps p.tables e below (s₁.setTop (mkF m 60 #[rv ra0, iv p1] [(.int 1)])) t) => k144 t (by
          refine XS.icmpYes X0.here hx rfl (pc0 := 46) (pc' := 55) rfl (hb hby d9_46) rfl (tlt hc46_145).1 (by decide) (by decide) ?_
          refine XS.iconst X0.here hx rfl (hb hby d9_55) ?_
          refine XS.goto X0.here hx rfl (pc0 := 56) (pc' := 60) rfl (hb hby d9_56) (by decide) (by decide) ?_
          exact kk)
        obtain ⟨fs, hr, hrun, hended, hW, hsame⟩ := X0.leave (v := some (.int 1)) (fun h => by rw [Bd.returns] at h; cases h) hlk
        have hv : (v9_ret p1 L_ra0) = (1 : Int32) := ((if_neg hc2_122).trans ((if_neg hc8_136).trans (if_pos hc13_139)))
        refine ⟨_, _, k146 _ ?_, hrun, hended, _, _, rfl, ?_, ⟨_, rfl⟩, hW, hsame.mono (by decide) (by decide)⟩
        · show Steps p.tables e below (s₁.setTop (mkF m 60 #[rv ra0, iv p1] [(.int 1)])) _
          exact retN X0 hx (t := .boolean) Bd.returns (by simp) (hb hby d9_60) hr
        · show Q9 Z ra0 p1 k_ra0 L_ra0 h0 n0 _ s₁.heap _
          rw [e0]
          exact ⟨(congrArg (fun z => some (Value.int z)) hv).symm, N0, rfl⟩
      · have k147 := fun (t : State) (kk : Steps p.tables e below (s₁.setTop (mkF m 18 #[rv ra0, iv p1] [(.int 1), (.ref ra0)])) t) => k138 t (by
          refine XS.icmpNo X0.here hx rfl (hb hby d9_13) rfl (flt hc13_139).1 ?_
          refine XS.aloadN X0.here hx rfl (hb hby d9_16) rfl rfl ?_
          refine XS.iconst X0.here hx rfl (hb hby d9_17) ?_
          exact kk)
        have hV148 := V_ra0
        obtain ⟨cl148, Ar148, q148, S148, Nn148, H148, G148⟩ := hV148
        have hb149 : ¬ (1 : Int32) < 0 ∧ (1 : Int32) < (5 : Int32) := ⟨by decide, by decide⟩
        have hin149 : ¬ ((1 : Int32) < 0 ∨ cl148.slots.size ≤ ((1 : Int32)).toNatClampNeg) := inb_of S148 hb149
        have hat149 : cl148.slots[((1 : Int32)).toNatClampNeg]? = some (.int (v9_18_at L_ra0)) := Has.at H148 hin149 (own_getD_int _ _ _)
        have st149 := X0.baloadBytes hx (j := (1 : Int32)) (v := (.int (v9_18_at L_ra0))) (by rw [e0]; exact Ar148.1) (State.isArrayOf_alike hZ.alike Ar148.2.1) Ar148.2.2 hin149 hat149 (g := (mkF m 18 #[rv ra0, iv p1] [(.int 1), (.ref ra0)])) rfl rfl (hb hby d9_18)
        have k150 := fun (t : State) (kk : Steps p.tables e below (s₁.setTop (mkF m 19 #[rv ra0, iv p1] [(.int (v9_18_at L_ra0))])) t) => k147 t (st149 _ kk)
        by_cases hc19_151 : (v9_18_at L_ra0) < (0 : Int32)
        · have k152 := fun (t : State) (kk : Steps p.tables e below (s₁.setTop (mkF m 60 #[rv ra0, iv p1] [(.int 0)])) t) => k150 t (by
            refine XS.ifYes X0.here hx rfl (pc0 := 19) (pc' := 59) rfl (hb hby d9_19) rfl ((if0 _ _).trans (tlt hc19_151).1) (by decide) (by decide) ?_
            refine XS.iconst X0.here hx rfl (hb hby d9_59) ?_
            exact kk)
          obtain ⟨fs, hr, hrun, hended, hW, hsame⟩ := X0.leave (v := some (.int 0)) (fun h => by rw [Bd.returns] at h; cases h) hlk
          have hv : (v9_ret p1 L_ra0) = (0 : Int32) := ((if_neg hc2_122).trans ((if_neg hc8_136).trans ((if_neg hc13_139).trans (if_pos hc19_151))))
          refine ⟨_, _, k152 _ ?_, hrun, hended, _, _, rfl, ?_, ⟨_, rfl⟩, hW, hsame.mono (by decide) (by decide)⟩
          · show Steps p.tables e below (s₁.setTop (mkF m 60 #[rv ra0, iv p1] [(.int 0)])) _
            exact retN X0 hx (t := .boolean) Bd.returns (by simp) (hb hby d9_60) hr
          · show Q9 Z ra0 p1 k_ra0 L_ra0 h0 n0 _ s₁.heap _
            rw [e0]
            exact ⟨(congrArg (fun z => some (Value.int z)) hv).symm, N0, rfl⟩
        · have k153 := fun (t : State) (kk : Steps p.tables e below (s₁.setTop (mkF m 24 #[rv ra0, iv p1] [(.int 3), (.int p1)])) t) => k150 t (by
            refine XS.ifNo X0.here hx rfl (hb hby d9_19) rfl ((if0 _ _).trans (flt hc19_151).1) ?_
            refine XS.iloadN X0.here hx rfl (hb hby d9_22) rfl ?_
            show Steps p.tables e below (s₁.setTop (mkF m 23 #[rv ra0, iv p1] [(.int p1)])) _
            refine XS.iconst X0.here hx rfl (hb hby d9_23) ?_
            exact kk)
          by_cases hc24_154 : p1 < (3 : Int32)
          · have k155 := fun (t : State) (kk : Steps p.tables e below (s₁.setTop (mkF m 35 #[rv ra0, iv p1] [(.int 4), (.int p1)])) t) => k153 t (by
              refine XS.icmpYes X0.here hx rfl (pc0 := 24) (pc' := 33) rfl (hb hby d9_24) rfl (tlt hc24_154).1 (by decide) (by decide) ?_
              refine XS.iloadN X0.here hx rfl (hb hby d9_33) rfl ?_
              refine XS.iconst X0.here hx rfl (hb hby d9_34) ?_
              exact kk)
            have hc35_156 : p1 < (4 : Int32) := own_ltlt hc24_154 (by decide)
            have k157 := fun (t : State) (kk : Steps p.tables e below (s₁.setTop (mkF m 46 #[rv ra0, iv p1] [(.int 5), (.int p1)])) t) => k155 t (by
              refine XS.icmpYes X0.here hx rfl (pc0 := 35) (pc' := 44) rfl (hb hby d9_35) rfl (tlt hc35_156).1 (by decide) (by decide) ?_
              refine XS.iloadN X0.here hx rfl (hb hby d9_44) rfl ?_
              refine XS.iconst X0.here hx rfl (hb hby d9_45) ?_
              exact kk)
            have hc46_158 : p1 < (5 : Int32) := own_ltlt hc35_156 (by decide)
            have k159 := fun (t : State) (kk : Steps p.tables e below (s₁.setTop (mkF m 60 #[rv ra0, iv p1] [(.int 1)])) t) => k157 t (by
              refine XS.icmpYes X0.here hx rfl (pc0 := 46) (pc' := 55) rfl (hb hby d9_46) rfl (tlt hc46_158).1 (by decide) (by decide) ?_
              refine XS.iconst X0.here hx rfl (hb hby d9_55) ?_
              refine XS.goto X0.here hx rfl (pc0 := 56) (pc' := 60) rfl (hb hby d9_56) (by decide) (by decide) ?_
              exact kk)
            obtain ⟨fs, hr, hrun, hended, hW, hsame⟩ := X0.leave (v := some (.int 1)) (fun h => by rw [Bd.returns] at h; cases h) hlk
            have hv : (v9_ret p1 L_ra0) = (1 : Int32) := ((if_neg hc2_122).trans ((if_neg hc8_136).trans ((if_neg hc13_139).trans ((if_neg hc19_151).trans (if_pos hc24_154)))))
            refine ⟨_, _, k159 _ ?_, hrun, hended, _, _, rfl, ?_, ⟨_, rfl⟩, hW, hsame.mono (by decide) (by decide)⟩
            · show Steps p.tables e below (s₁.setTop (mkF m 60 #[rv ra0, iv p1] [(.int 1)])) _
              exact retN X0 hx (t := .boolean) Bd.returns (by simp) (hb hby d9_60) hr
            · show Q9 Z ra0 p1 k_ra0 L_ra0 h0 n0 _ s₁.heap _
              rw [e0]
              exact ⟨(congrArg (fun z => some (Value.int z)) hv).symm, N0, rfl⟩
          · have k160 := fun (t : State) (kk : Steps p.tables e below (s₁.setTop (mkF m 29 #[rv ra0, iv p1] [(.int 2), (.ref ra0)])) t) => k153 t (by
              refine XS.icmpNo X0.here hx rfl (hb hby d9_24) rfl (flt hc24_154).1 ?_
              refine XS.aloadN X0.here hx rfl (hb hby d9_27) rfl rfl ?_
              show Steps p.tables e below (s₁.setTop (mkF m 28 #[rv ra0, iv p1] [(.ref ra0)])) _
              refine XS.iconst X0.here hx rfl (hb hby d9_28) ?_
              exact kk)
            have hV161 := V_ra0
            obtain ⟨cl161, Ar161, q161, S161, Nn161, H161, G161⟩ := hV161
            have hb162 : ¬ (2 : Int32) < 0 ∧ (2 : Int32) < (5 : Int32) := ⟨by decide, by decide⟩
            have hin162 : ¬ ((2 : Int32) < 0 ∨ cl161.slots.size ≤ ((2 : Int32)).toNatClampNeg) := inb_of S161 hb162
            have hat162 : cl161.slots[((2 : Int32)).toNatClampNeg]? = some (.int (v9_29_at L_ra0)) := Has.at H161 hin162 (own_getD_int _ _ _)
            have st162 := X0.baloadBytes hx (j := (2 : Int32)) (v := (.int (v9_29_at L_ra0))) (by rw [e0]; exact Ar161.1) (State.isArrayOf_alike hZ.alike Ar161.2.1) Ar161.2.2 hin162 hat162 (g := (mkF m 29 #[rv ra0, iv p1] [(.int 2), (.ref ra0)])) rfl rfl (hb hby d9_29)
            have k163 := fun (t : State) (kk : Steps p.tables e below (s₁.setTop (mkF m 30 #[rv ra0, iv p1] [(.int (v9_29_at L_ra0))])) t) => k160 t (st162 _ kk)
            by_cases hc30_164 : (v9_29_at L_ra0) < (0 : Int32)
            · have k165 := fun (t : State) (kk : Steps p.tables e below (s₁.setTop (mkF m 60 #[rv ra0, iv p1] [(.int 0)])) t) => k163 t (by
                refine XS.ifYes X0.here hx rfl (pc0 := 30) (pc' := 59) rfl (hb hby d9_30) rfl ((if0 _ _).trans (tlt hc30_164).1) (by decide) (by decide) ?_
                refine XS.iconst X0.here hx rfl (hb hby d9_59) ?_
                exact kk)
              obtain ⟨fs, hr, hrun, hended, hW, hsame⟩ := X0.leave (v := some (.int 0)) (fun h => by rw [Bd.returns] at h; cases h) hlk
              have hv : (v9_ret p1 L_ra0) = (0 : Int32) := ((if_neg hc2_122).trans ((if_neg hc8_136).trans ((if_neg hc13_139).trans ((if_neg hc19_151).trans ((if_neg hc24_154).trans (if_pos hc30_164))))))
              refine ⟨_, _, k165 _ ?_, hrun, hended, _, _, rfl, ?_, ⟨_, rfl⟩, hW, hsame.mono (by decide) (by decide)⟩
              · show Steps p.tables e below (s₁.setTop (mkF m 60 #[rv ra0, iv p1] [(.int 0)])) _
                exact retN X0 hx (t := .boolean) Bd.returns (by simp) (hb hby d9_60) hr
              · show Q9 Z ra0 p1 k_ra0 L_ra0 h0 n0 _ s₁.heap _
                rw [e0]
                exact ⟨(congrArg (fun z => some (Value.int z)) hv).symm, N0, rfl⟩
            · have k166 := fun (t : State) (kk : Steps p.tables e below (s₁.setTop (mkF m 35 #[rv ra0, iv p1] [(.int 4), (.int p1)])) t) => k163 t (by
                refine XS.ifNo X0.here hx rfl (hb hby d9_30) rfl ((if0 _ _).trans (flt hc30_164).1) ?_
                refine XS.iloadN X0.here hx rfl (hb hby d9_33) rfl ?_
                refine XS.iconst X0.here hx rfl (hb hby d9_34) ?_
                exact kk)
              by_cases hc35_167 : p1 < (4 : Int32)
              · have k168 := fun (t : State) (kk : Steps p.tables e below (s₁.setTop (mkF m 46 #[rv ra0, iv p1] [(.int 5), (.int p1)])) t) => k166 t (by
                  refine XS.icmpYes X0.here hx rfl (pc0 := 35) (pc' := 44) rfl (hb hby d9_35) rfl (tlt hc35_167).1 (by decide) (by decide) ?_
                  refine XS.iloadN X0.here hx rfl (hb hby d9_44) rfl ?_
                  refine XS.iconst X0.here hx rfl (hb hby d9_45) ?_
                  exact kk)
                have hc46_169 : p1 < (5 : Int32) := own_ltlt hc35_167 (by decide)
                have k170 := fun (t : State) (kk : Steps p.tables e below (s₁.setTop (mkF m 60 #[rv ra0, iv p1] [(.int 1)])) t) => k168 t (by
                  refine XS.icmpYes X0.here hx rfl (pc0 := 46) (pc' := 55) rfl (hb hby d9_46) rfl (tlt hc46_169).1 (by decide) (by decide) ?_
                  refine XS.iconst X0.here hx rfl (hb hby d9_55) ?_
                  refine XS.goto X0.here hx rfl (pc0 := 56) (pc' := 60) rfl (hb hby d9_56) (by decide) (by decide) ?_
                  exact kk)
                obtain ⟨fs, hr, hrun, hended, hW, hsame⟩ := X0.leave (v := some (.int 1)) (fun h => by rw [Bd.returns] at h; cases h) hlk
                have hv : (v9_ret p1 L_ra0) = (1 : Int32) := ((if_neg hc2_122).trans ((if_neg hc8_136).trans ((if_neg hc13_139).trans ((if_neg hc19_151).trans ((if_neg hc24_154).trans ((if_neg hc30_164).trans (if_pos hc35_167)))))))
                refine ⟨_, _, k170 _ ?_, hrun, hended, _, _, rfl, ?_, ⟨_, rfl⟩, hW, hsame.mono (by decide) (by decide)⟩
                · show Steps p.tables e below (s₁.setTop (mkF m 60 #[rv ra0, iv p1] [(.int 1)])) _
                  exact retN X0 hx (t := .boolean) Bd.returns (by simp) (hb hby d9_60) hr
                · show Q9 Z ra0 p1 k_ra0 L_ra0 h0 n0 _ s₁.heap _
                  rw [e0]
                  exact ⟨(congrArg (fun z => some (Value.int z)) hv).symm, N0, rfl⟩
              · have k171 := fun (t : State) (kk : Steps p.tables e below (s₁.setTop (mkF m 40 #[rv ra0, iv p1] [(.int 3), (.ref ra0)])) t) => k166 t (by
                  show Steps p.tables e below (s₁.setTop (mkF m 35 #[rv ra0, iv p1] [(.int 4), (.int p1)])) _
                  refine XS.icmpNo X0.here hx rfl (hb hby d9_35) rfl (flt hc35_167).1 ?_
                  refine XS.aloadN X0.here hx rfl (hb hby d9_38) rfl rfl ?_
                  refine XS.iconst X0.here hx rfl (hb hby d9_39) ?_
                  exact kk)
                have hV172 := V_ra0
                obtain ⟨cl172, Ar172, q172, S172, Nn172, H172, G172⟩ := hV172
                have hb173 : ¬ (3 : Int32) < 0 ∧ (3 : Int32) < (5 : Int32) := ⟨by decide, by decide⟩
                have hin173 : ¬ ((3 : Int32) < 0 ∨ cl172.slots.size ≤ ((3 : Int32)).toNatClampNeg) := inb_of S172 hb173
                have hat173 : cl172.slots[((3 : Int32)).toNatClampNeg]? = some (.int (v9_40_at L_ra0)) := Has.at H172 hin173 (own_getD_int _ _ _)
                have st173 := X0.baloadBytes hx (j := (3 : Int32)) (v := (.int (v9_40_at L_ra0))) (by rw [e0]; exact Ar172.1) (State.isArrayOf_alike hZ.alike Ar172.2.1) Ar172.2.2 hin173 hat173 (g := (mkF m 40 #[rv ra0, iv p1] [(.int 3), (.ref ra0)])) rfl rfl (hb hby d9_40)
                have k174 := fun (t : State) (kk : Steps p.tables e below (s₁.setTop (mkF m 41 #[rv ra0, iv p1] [(.int (v9_40_at L_ra0))])) t) => k171 t (st173 _ kk)
                by_cases hc41_175 : (v9_40_at L_ra0) < (0 : Int32)
                · have k176 := fun (t : State) (kk : Steps p.tables e below (s₁.setTop (mkF m 60 #[rv ra0, iv p1] [(.int 0)])) t) => k174 t (by
                    refine XS.ifYes X0.here hx rfl (pc0 := 41) (pc' := 59) rfl (hb hby d9_41) rfl ((if0 _ _).trans (tlt hc41_175).1) (by decide) (by decide) ?_
                    refine XS.iconst X0.here hx rfl (hb hby d9_59) ?_
                    exact kk)
                  obtain ⟨fs, hr, hrun, hended, hW, hsame⟩ := X0.leave (v := some (.int 0)) (fun h => by rw [Bd.returns] at h; cases h) hlk
                  have hv : (v9_ret p1 L_ra0) = (0 : Int32) := ((if_neg hc2_122).trans ((if_neg hc8_136).trans ((if_neg hc13_139).trans ((if_neg hc19_151).trans ((if_neg hc24_154).trans ((if_neg hc30_164).trans ((if_neg hc35_167).trans (if_pos hc41_175))))))))
                  refine ⟨_, _, k176 _ ?_, hrun, hended, _, _, rfl, ?_, ⟨_, rfl⟩, hW, hsame.mono (by decide) (by decide)⟩
                  · show Steps p.tables e below (s₁.setTop (mkF m 60 #[rv ra0, iv p1] [(.int 0)])) _
                    exact retN X0 hx (t := .boolean) Bd.returns (by simp) (hb hby d9_60) hr
                  · show Q9 Z ra0 p1 k_ra0 L_ra0 h0 n0 _ s₁.heap _
                    rw [e0]
                    exact ⟨(congrArg (fun z => some (Value.int z)) hv).symm, N0, rfl⟩
                · have k177 := fun (t : State) (kk : Steps p.tables e below (s₁.setTop (mkF m 46 #[rv ra0, iv p1] [(.int 5), (.int p1)])) t) => k174 t (by
                    refine XS.ifNo X0.here hx rfl (hb hby d9_41) rfl ((if0 _ _).trans (flt hc41_175).1) ?_
                    refine XS.iloadN X0.here hx rfl (hb hby d9_44) rfl ?_
                    refine XS.iconst X0.here hx rfl (hb hby d9_45) ?_
                    exact kk)
                  by_cases hc46_178 : p1 < (5 : Int32)
                  · have k179 := fun (t : State) (kk : Steps p.tables e below (s₁.setTop (mkF m 60 #[rv ra0, iv p1] [(.int 1)])) t) => k177 t (by
                      refine XS.icmpYes X0.here hx rfl (pc0 := 46) (pc' := 55) rfl (hb hby d9_46) rfl (tlt hc46_178).1 (by decide) (by decide) ?_
                      refine XS.iconst X0.here hx rfl (hb hby d9_55) ?_
                      refine XS.goto X0.here hx rfl (pc0 := 56) (pc' := 60) rfl (hb hby d9_56) (by decide) (by decide) ?_
                      exact kk)
                    obtain ⟨fs, hr, hrun, hended, hW, hsame⟩ := X0.leave (v := some (.int 1)) (fun h => by rw [Bd.returns] at h; cases h) hlk
                    have hv : (v9_ret p1 L_ra0) = (1 : Int32) := ((if_neg hc2_122).trans ((if_neg hc8_136).trans ((if_neg hc13_139).trans ((if_neg hc19_151).trans ((if_neg hc24_154).trans ((if_neg hc30_164).trans ((if_neg hc35_167).trans ((if_neg hc41_175).trans (if_pos hc46_178)))))))))
                    refine ⟨_, _, k179 _ ?_, hrun, hended, _, _, rfl, ?_, ⟨_, rfl⟩, hW, hsame.mono (by decide) (by decide)⟩
                    · show Steps p.tables e below (s₁.setTop (mkF m 60 #[rv ra0, iv p1] [(.int 1)])) _
                      exact retN X0 hx (t := .boolean) Bd.returns (by simp) (hb hby d9_60) hr
                    · show Q9 Z ra0 p1 k_ra0 L_ra0 h0 n0 _ s₁.heap _
                      rw [e0]
                      exact ⟨(congrArg (fun z => some (Value.int z)) hv).symm, N0, rfl⟩
                  · have k180 := fun (t : State) (kk : Steps p.tables e below (s₁.setTop (mkF m 51 #[rv ra0, iv p1] [(.int 4), (.ref ra0)])) t) => k177 t (by
                      refine XS.icmpNo X0.here hx rfl (hb hby d9_46) rfl (flt hc46_178).1 ?_
                      show Steps p.tables e below (s₁.setTop (mkF m 49 #[rv ra0, iv p1] [])) _
                      refine XS.aloadN X0.here hx rfl (hb hby d9_49) rfl rfl ?_
                      refine XS.iconst X0.here hx rfl (hb hby d9_50) ?_
                      exact kk)
                    have hV181 := V_ra0
                    obtain ⟨cl181, Ar181, q181, S181, Nn181, H181, G181⟩ := hV181
                    have hb182 : ¬ (4 : Int32) < 0 ∧ (4 : Int32) < (5 : Int32) := ⟨by decide, by decide⟩
                    have hin182 : ¬ ((4 : Int32) < 0 ∨ cl181.slots.size ≤ ((4 : Int32)).toNatClampNeg) := inb_of S181 hb182
                    have hat182 : cl181.slots[((4 : Int32)).toNatClampNeg]? = some (.int (v9_51_at L_ra0)) := Has.at H181 hin182 (own_getD_int _ _ _)
                    have st182 := X0.baloadBytes hx (j := (4 : Int32)) (v := (.int (v9_51_at L_ra0))) (by rw [e0]; exact Ar181.1) (State.isArrayOf_alike hZ.alike Ar181.2.1) Ar181.2.2 hin182 hat182 (g := (mkF m 51 #[rv ra0, iv p1] [(.int 4), (.ref ra0)])) rfl rfl (hb hby d9_51)
                    have k183 := fun (t : State) (kk : Steps p.tables e below (s₁.setTop (mkF m 52 #[rv ra0, iv p1] [(.int (v9_51_at L_ra0))])) t) => k180 t (st182 _ kk)
                    have k186 := fun (t : State) (kk : Steps p.tables e below (s₁.setTop (mkF m 60 #[rv ra0, iv p1] [(.int (v9_52_s0 L_ra0))])) t) => k183 t (by
                      suffices k185 : Steps p.tables e below (s₁.setTop (mkF m 60 #[rv ra0, iv p1] [(.int (v9_52_s0 L_ra0))])) t by
                        by_cases hc52_184 : (v9_51_at L_ra0) < (0 : Int32)
                        · rw [(show (v9_52_s0 L_ra0) = (0 : Int32) from if_pos hc52_184)] at k185
                          refine XS.ifYes X0.here hx rfl (pc0 := 52) (pc' := 59) rfl (hb hby d9_52) rfl ((if0 _ _).trans (tlt hc52_184).1) (by decide) (by decide) ?_
                          refine XS.iconst X0.here hx rfl (hb hby d9_59) ?_
                          exact k185
                        · rw [(show (v9_52_s0 L_ra0) = (1 : Int32) from if_neg hc52_184)] at k185
                          refine XS.ifNo X0.here hx rfl (hb hby d9_52) rfl ((if0 _ _).trans (flt hc52_184).1) ?_
                          refine XS.iconst X0.here hx rfl (hb hby d9_55) ?_
                          refine XS.goto X0.here hx rfl (pc0 := 56) (pc' := 60) rfl (hb hby d9_56) (by decide) (by decide) ?_
                          exact k185
                      exact kk)
                    obtain ⟨fs, hr, hrun, hended, hW, hsame⟩ := X0.leave (v := some (.int (nar .boolean (v9_52_s0 L_ra0)))) (fun h => by rw [Bd.returns] at h; cases h) hlk
                    have hv : (v9_ret p1 L_ra0) = (nar .boolean (v9_52_s0 L_ra0)) := ((if_neg hc2_122).trans ((if_neg hc8_136).trans ((if_neg hc13_139).trans ((if_neg hc19_151).trans ((if_neg hc24_154).trans ((if_neg hc30_164).trans ((if_neg hc35_167).trans ((if_neg hc41_175).trans (if_neg hc46_178)))))))))
                    refine ⟨_, _, k186 _ ?_, hrun, hended, _, _, rfl, ?_, ⟨_, rfl⟩, hW, hsame.mono (by decide) (by decide)⟩
                    · show Steps p.tables e below (s₁.setTop (mkF m 60 #[rv ra0, iv p1] [(.int (v9_52_s0 L_ra0))])) _
                      exact retN X0 hx (t := .boolean) Bd.returns (by simp) (hb hby d9_60) hr
                    · show Q9 Z ra0 p1 k_ra0 L_ra0 h0 n0 _ s₁.heap _
                      rw [e0]
                      exact ⟨(congrArg (fun z => some (Value.int z)) hv).symm, N0, rfl⟩
theorem own_am (s : Int32) (h : 0 < s.toInt) : (s + (-1 : Int32)).toInt = s.toInt - 1 := by
  have a := c_iadd s (-1); have r := rng32 (s + -1); have q := rng32 s
  have z1 : (-1 : Int32).toInt = -1 := rfl
  omega
theorem own_ifle {P : Prop} [Decidable P] {a b k : Int32} (ha : 0 ≤ a.toInt ∧ a.toInt ≤ k.toInt) (hb : 0 ≤ b.toInt ∧ b.toInt ≤ k.toInt) : 0 ≤ (if P then a else b).toInt ∧ (if P then a else b).toInt ≤ k.toInt := by split <;> assumption
theorem own_st1 (s k : Int32) (P : Prop) [Decidable P] (t : Int32) (hs : 0 ≤ s.toInt ∧ s.toInt ≤ k.toInt) (h : 0 < s.toInt → 0 ≤ t.toInt ∧ t.toInt ≤ k.toInt) : 0 ≤ (if (0 : Int32) < s then (if P then t else s) else s).toInt ∧ (if (0 : Int32) < s then (if P then t else s) else s).toInt ≤ k.toInt := by
  by_cases c : (0 : Int32) < s
  · rw [if_pos c]; exact own_ifle (h (by rw [Int32.lt_iff_toInt_lt] at c; exact c)) hs
  · rw [if_neg c]; exact hs
theorem own_st (p1 : Int32) (L : List Int32) (hi : ¬ p1 < 0 ∧ p1 < (5 : Int32)) : 0 ≤ (v11_ret p1 L).toInt ∧ (v11_ret p1 L).toInt ≤ p1.toInt ∧ p1.toInt < 5 := by
  obtain ⟨h0, h5⟩ := hi
  rw [Int32.lt_iff_toInt_lt] at h0 h5
  have z0 : (0 : Int32).toInt = 0 := rfl
  have z5 : (5 : Int32).toInt = 5 := rfl
  have key : 0 ≤ (v11_ret p1 L).toInt ∧ (v11_ret p1 L).toInt ≤ p1.toInt := by
    unfold v11_ret; simp only [v11_17_l2, v11_35_l2, v11_53_l2, v11_71_l2]
    refine own_st1 _ _ _ _ ⟨by omega, by omega⟩ (fun c1 => ?_)
    have e1 := own_am _ c1
    refine own_st1 _ _ _ _ ⟨by omega, by omega⟩ (fun c2 => ?_)
    have e2 := own_am _ c2
    refine own_st1 _ _ _ _ ⟨by omega, by omega⟩ (fun c3 => ?_)
    have e3 := own_am _ c3
    refine own_st1 _ _ _ _ ⟨by omega, by omega⟩ (fun c4 => ?_)
    have e4 := own_am _ c4
    omega
  omega
theorem own_g1 (p1 : Int32) (L : List Int32) (hi : ¬ p1 < 0 ∧ p1 < (5 : Int32)) (c : ¬ (p1 - v11_ret p1 L) < (2 : Int32)) : ¬ v11_ret p1 L < 0 ∧ v11_ret p1 L < (5 : Int32) := by
  have h := own_st p1 L hi
  rw [Int32.lt_iff_toInt_lt, Int32.lt_iff_toInt_lt]
  have z0 : (0 : Int32).toInt = 0 := rfl
  have z5 : (5 : Int32).toInt = 5 := rfl
  omega
theorem own_g2 (p1 : Int32) (L : List Int32) (hi : ¬ p1 < 0 ∧ p1 < (5 : Int32)) (c : ¬ (p1 - v11_ret p1 L) < (2 : Int32)) : ¬ (v11_ret p1 L + (1 : Int32)) < 0 ∧ (v11_ret p1 L + (1 : Int32)) < (5 : Int32) := by
  have h := own_st p1 L hi
  rw [Int32.lt_iff_toInt_lt] at c
  rw [Int32.lt_iff_toInt_lt, Int32.lt_iff_toInt_lt]
  have z0 : (0 : Int32).toInt = 0 := rfl
  have z1 : (1 : Int32).toInt = 1 := rfl
  have z2 : (2 : Int32).toInt = 2 := rfl
  have z5 : (5 : Int32).toInt = 5 := rfl
  have a := c_isub p1 (v11_ret p1 L); have b := c_iadd (v11_ret p1 L) 1; have r := rng32 (p1 - v11_ret p1 L); have q := rng32 (v11_ret p1 L + 1)
  omega
theorem pd_1 : parseMethodDescriptor "([BI)I" = some ⟨[(.array .byte), .int], some .int⟩ := by decide +kernel
theorem d10_0 : decode method_7_code 0 = .ok (.aload_n 0, 1) := by decide +kernel
theorem d10_1 : decode method_7_code 1 = .ok (.iload_n 1, 1) := by decide +kernel
theorem d10_2 : decode method_7_code 2 = .ok (.invokestatic 13, 3) := by decide +kernel
theorem d10_5 : decode method_7_code 5 = .ok (.istore_n 2, 1) := by decide +kernel
theorem d10_6 : decode method_7_code 6 = .ok (.iload_n 1, 1) := by decide +kernel
theorem d10_7 : decode method_7_code 7 = .ok (.iload_n 2, 1) := by decide +kernel
theorem d10_8 : decode method_7_code 8 = .ok (.isub, 1) := by decide +kernel
theorem d10_9 : decode method_7_code 9 = .ok (.iconst 2, 1) := by decide +kernel
theorem d10_10 : decode method_7_code 10 = .ok (.if_icmp .ge 5, 3) := by decide +kernel
theorem d10_13 : decode method_7_code 13 = .ok (.iconst 0, 1) := by decide +kernel
theorem d10_14 : decode method_7_code 14 = .ok (.ireturn, 1) := by decide +kernel
theorem d10_15 : decode method_7_code 15 = .ok (.aload_n 0, 1) := by decide +kernel
theorem d10_16 : decode method_7_code 16 = .ok (.iload_n 2, 1) := by decide +kernel
theorem d10_17 : decode method_7_code 17 = .ok (.baload, 1) := by decide +kernel
theorem d10_18 : decode method_7_code 18 = .ok (.bipush 45, 2) := by decide +kernel
theorem d10_20 : decode method_7_code 20 = .ok (.if_icmp .ne 13, 3) := by decide +kernel
theorem d10_23 : decode method_7_code 23 = .ok (.aload_n 0, 1) := by decide +kernel
theorem d10_24 : decode method_7_code 24 = .ok (.iload_n 2, 1) := by decide +kernel
theorem d10_25 : decode method_7_code 25 = .ok (.iconst 1, 1) := by decide +kernel
theorem d10_26 : decode method_7_code 26 = .ok (.iadd, 1) := by decide +kernel
theorem d10_27 : decode method_7_code 27 = .ok (.baload, 1) := by decide +kernel
theorem d10_28 : decode method_7_code 28 = .ok (.bipush 45, 2) := by decide +kernel
theorem d10_30 : decode method_7_code 30 = .ok (.if_icmp .eq 5, 3) := by decide +kernel
theorem d10_33 : decode method_7_code 33 = .ok (.iconst 0, 1) := by decide +kernel
theorem d10_34 : decode method_7_code 34 = .ok (.ireturn, 1) := by decide +kernel
theorem d10_35 : decode method_7_code 35 = .ok (.iload_n 2, 1) := by decide +kernel
theorem d10_36 : decode method_7_code 36 = .ok (.iconst 2, 1) := by decide +kernel
theorem d10_37 : decode method_7_code 37 = .ok (.iadd, 1) := by decide +kernel
theorem d10_38 : decode method_7_code 38 = .ok (.iconst 2, 1) := by decide +kernel
theorem d10_39 : decode method_7_code 39 = .ok (.if_icmp .gt 17, 3) := by decide +kernel
theorem d10_42 : decode method_7_code 42 = .ok (.iconst 2, 1) := by decide +kernel
theorem d10_43 : decode method_7_code 43 = .ok (.iload_n 1, 1) := by decide +kernel
theorem d10_44 : decode method_7_code 44 = .ok (.if_icmp .ge 12, 3) := by decide +kernel
theorem d10_47 : decode method_7_code 47 = .ok (.aload_n 0, 1) := by decide +kernel
theorem d10_48 : decode method_7_code 48 = .ok (.iconst 2, 1) := by decide +kernel
theorem d10_49 : decode method_7_code 49 = .ok (.baload, 1) := by decide +kernel
theorem d10_50 : decode method_7_code 50 = .ok (.invokestatic 17, 3) := by decide +kernel
theorem d10_53 : decode method_7_code 53 = .ok (.ifCond .ne 7, 3) := by decide +kernel
theorem d10_56 : decode method_7_code 56 = .ok (.iconst 1, 1) := by decide +kernel
theorem d10_57 : decode method_7_code 57 = .ok (.goto 4, 3) := by decide +kernel
theorem d10_60 : decode method_7_code 60 = .ok (.iconst 0, 1) := by decide +kernel
theorem d10_61 : decode method_7_code 61 = .ok (.istore_n 3, 1) := by decide +kernel
theorem d10_62 : decode method_7_code 62 = .ok (.iload_n 2, 1) := by decide +kernel
theorem d10_63 : decode method_7_code 63 = .ok (.iconst 2, 1) := by decide +kernel
theorem d10_64 : decode method_7_code 64 = .ok (.iadd, 1) := by decide +kernel
theorem d10_65 : decode method_7_code 65 = .ok (.iconst 3, 1) := by decide +kernel
theorem d10_66 : decode method_7_code 66 = .ok (.if_icmp .gt 17, 3) := by decide +kernel
theorem d10_69 : decode method_7_code 69 = .ok (.iconst 3, 1) := by decide +kernel
theorem d10_70 : decode method_7_code 70 = .ok (.iload_n 1, 1) := by decide +kernel
theorem d10_71 : decode method_7_code 71 = .ok (.if_icmp .ge 12, 3) := by decide +kernel
theorem d10_74 : decode method_7_code 74 = .ok (.aload_n 0, 1) := by decide +kernel
theorem d10_75 : decode method_7_code 75 = .ok (.iconst 3, 1) := by decide +kernel
theorem d10_76 : decode method_7_code 76 = .ok (.baload, 1) := by decide +kernel
theorem d10_77 : decode method_7_code 77 = .ok (.invokestatic 17, 3) := by decide +kernel
theorem d10_80 : decode method_7_code 80 = .ok (.ifCond .ne 7, 3) := by decide +kernel
theorem d10_83 : decode method_7_code 83 = .ok (.iconst 1, 1) := by decide +kernel
theorem d10_84 : decode method_7_code 84 = .ok (.goto 4, 3) := by decide +kernel
theorem d10_87 : decode method_7_code 87 = .ok (.iconst 0, 1) := by decide +kernel
theorem d10_88 : decode method_7_code 88 = .ok (.istore 4, 2) := by decide +kernel
theorem d10_90 : decode method_7_code 90 = .ok (.iload_n 3, 1) := by decide +kernel
theorem d10_91 : decode method_7_code 91 = .ok (.ifCond .eq 12, 3) := by decide +kernel
theorem d10_94 : decode method_7_code 94 = .ok (.iload 4, 2) := by decide +kernel
theorem d10_96 : decode method_7_code 96 = .ok (.ifCond .eq 7, 3) := by decide +kernel
theorem d10_99 : decode method_7_code 99 = .ok (.iconst 1, 1) := by decide +kernel
theorem d10_100 : decode method_7_code 100 = .ok (.goto 4, 3) := by decide +kernel
theorem d10_103 : decode method_7_code 103 = .ok (.iconst 0, 1) := by decide +kernel
theorem d10_104 : decode method_7_code 104 = .ok (.ireturn, 1) := by decide +kernel
def v10_17_at (p1 : Int32) (L_ra0 : List Int32) : Int32 := (L_ra0.getD ((v11_ret p1 L_ra0)).toNatClampNeg (0 : Int32))
def v10_27_at (p1 : Int32) (L_ra0 : List Int32) : Int32 := (L_ra0.getD (((v11_ret p1 L_ra0) + (1 : Int32))).toNatClampNeg (0 : Int32))
def v10_76_at (L_ra0 : List Int32) : Int32 := (L_ra0.getD ((3 : Int32)).toNatClampNeg (0 : Int32))
def v10_80_s0 (L_ra0 : List Int32) : Int32 := if (nar .boolean (v16_3_s0 (v10_76_at L_ra0))) = (0 : Int32) then (1 : Int32) else (0 : Int32)
def v10_96_s0 (L_ra0 : List Int32) : Int32 := if (v10_80_s0 L_ra0) = (0 : Int32) then (0 : Int32) else (1 : Int32)
def v10_49_at (L_ra0 : List Int32) : Int32 := (L_ra0.getD ((2 : Int32)).toNatClampNeg (0 : Int32))
def v10_53_s0 (L_ra0 : List Int32) : Int32 := if (nar .boolean (v16_3_s0 (v10_49_at L_ra0))) = (0 : Int32) then (1 : Int32) else (0 : Int32)
def v10_91_s0 (L_ra0 : List Int32) : Int32 := if (v10_53_s0 L_ra0) = (0 : Int32) then (0 : Int32) else (1 : Int32)
def v10_91_s0_1 (L_ra0 : List Int32) : Int32 := if (v10_53_s0 L_ra0) = (0 : Int32) then (0 : Int32) else (v10_96_s0 L_ra0)
def v10_ret (p1 : Int32) (L_ra0 : List Int32) : Int32 := (if (p1 - (v11_ret p1 L_ra0)) < (2 : Int32) then (0 : Int32) else (if (v10_17_at p1 L_ra0) = (45 : Int32) then (if (v10_27_at p1 L_ra0) = (45 : Int32) then (if (2 : Int32) < ((v11_ret p1 L_ra0) + (2 : Int32)) then (if (3 : Int32) < ((v11_ret p1 L_ra0) + (2 : Int32)) then (1 : Int32) else (if (3 : Int32) < p1 then (nar .boolean (v10_96_s0 L_ra0)) else (1 : Int32))) else (if (2 : Int32) < p1 then (if (3 : Int32) < ((v11_ret p1 L_ra0) + (2 : Int32)) then (nar .boolean (v10_91_s0 L_ra0)) else (if (3 : Int32) < p1 then (nar .boolean (v10_91_s0_1 L_ra0)) else (nar .boolean (v10_91_s0 L_ra0)))) else (if (3 : Int32) < ((v11_ret p1 L_ra0) + (2 : Int32)) then (1 : Int32) else (if (3 : Int32) < p1 then (nar .boolean (v10_96_s0 L_ra0)) else (1 : Int32))))) else (0 : Int32)) else (0 : Int32)))
theorem ef_rm10 (m : MethodId) (ra0 : Addr) (p1 : Int32) : entryFrame m #[(.ref ra0), (.int p1)] 5 = mkF m 0 #[rv ra0, iv p1, .unset, .unset, .unset] [] := by first | (simp [entryFrame, mkF, argsToLocals, Value.category]; done) | rfl
def Q10 (Z : State) (ra0 : Addr) (p1 : Int32) (k_ra0 : ClassId) (L_ra0 : List Int32) (h0 : Heap) (n0 : Nat) (v : Option Value) (h : Heap) (L : List Loc) : Prop := (v = some (.int (v10_ret p1 L_ra0)) ∧ Fr n0 L ∧ h = h0)
set_option maxRecDepth 65536 in
set_option maxHeartbeats 40000000 in
theorem rm10 (l : Launch) (Z : State) (a0 : Array Value) (hw : ∀ d ∈ tables_1, d.before a0 Z = true) (ws : List Jvm.Cond) (ra0 : Addr) (p1 : Int32) (k_ra0 : ClassId) (L_ra0 : List Int32) (h0 : Heap) (n0 : Nat) (Z0 : n0 ≤ h0.size) (hi : ¬ p1 < 0 ∧ p1 < (5 : Int32)) (V_ra0 : Arv Z h0 ra0 k_ra0 .byte (5 : Int32) (List.map Value.int L_ra0) (.int 0)) (VL_ra0 : L_ra0.length = ((5 : Int32)).toNatClampNeg) :
    MetFree l (⟨cLw, "good", "([BI)Z"⟩ : MethodName) (head1 (Jvm.Cond.code (⟨cLw, "good", "([BI)Z"⟩ : MethodName) method_7_code 5 (some .boolean) :: ws) ({ frames := 2, cells := 0, slots := 0, locals := 26 } : Room)) (fun a U => a = #[(.ref ra0), (.int p1)] ∧ Z.Warmed39 U.vm ∧ U.heap = h0) (fun _ _ _ _ _ => True) (fun _ U o U' => ∃ v L, o = .returned v ∧ Q10 Z ra0 p1 k_ra0 L_ra0 h0 n0 v U'.heap L ∧ FrameEnd U o U' L ({ frames := 2, cells := 0, slots := 0, locals := 26 } : Room).cells ({ frames := 2, cells := 0, slots := 0, locals := 26 } : Room).slots) := by
  refine MetFree.of_bodySF (plainFor_of_name pn_48) hisR ?_
  intro p e s m args below meth c s₁ Bd hml0 hP hK
  obtain ⟨rfl, hZ, hh⟩ := hP
  have hx := Bd.exec
  have hlk : meth.locks = false := by first | exact BodyLoose.notSynchronized Bd | exact Body.notSynchronized Bd
  have hby := Bd.bytes
  have hml : c.maxLocals = 5 := hml0
  have hown : s.vm.findClass cLw = some m.cls := findClass_of_methodNamed Bd.named
  have hnm := (name_of_methodNamed Bd.named Bd.method).1
  have X0 : Stand p l e ({ frames := 2, cells := 0, slots := 0, locals := 26 } : Room) s m #[(.ref ra0), (.int p1)] below meth c s₁ [] 0 0 := Stand.of_body Bd
  have e0 : s₁.heap = h0 := by rw [← hh, Bd.state]; rfl
  have N0 := Fr.nil n0
  have KC0 := Keep.refl h0 ([] : List Addr)
  have pre0 : ∀ t, Steps p.tables e below (s₁.setTop (mkF m 0 #[rv ra0, iv p1, .unset, .unset, .unset] [])) t → Steps p.tables e below (s₁.setTop (entryFrame m #[(.ref ra0), (.int p1)] 5)) t := fun t k => castTop (ef_rm10 m ra0 p1) k
  have k187 := fun (t : State) (kk : Steps p.tables e below (s₁.setTop (mkF m 2 #[rv ra0, iv p1, .unset, .unset, .unset] [(.int p1), (.ref ra0)])) t) => pre0 t (by
    refine XS.aloadN X0.here hx rfl (hb hby d10_0) rfl rfl ?_
    refine XS.iloadN X0.here hx rfl (hb hby d10_1) rfl ?_
    exact kk)
  have Zz188 : n0 ≤ h0.size := (Nat.le_trans Z0 KC0.1)
  obtain ⟨_, _, ⟨T188, L188, k188, n188⟩, -, X188, ⟨Lc188, hQ188, l188, y188, z188⟩, st188⟩ := Jvm.LawKit.callS X0 hx (y := (⟨cLw, "start", "([BI)I"⟩ : MethodName)) hown (mvT hZ (hw _ (List.mem_of_getElem? (i := 49) rfl))) (mvT hZ (hw _ (List.mem_of_getElem? (i := 50) rfl))) (mvT hZ (hw _ (List.mem_of_getElem? (i := 3) rfl))) (mvT hZ (hw _ (List.mem_of_getElem? (i := 51) rfl))) (by decide) (backOf (W := 0) (rm11 l Z a0 hw [] ra0 p1 k_ra0 L_ra0 h0 n0 Zz188 (hi : ¬ p1 < 0 ∧ p1 < (5 : Int32)) V_ra0 VL_ra0) hZ (hw _ (List.mem_of_getElem? (i := 51) rfl)) (hw _ (List.mem_of_getElem? (i := 3) rfl)) (by decide) (by decide)) (g := (mkF m 2 #[rv ra0, iv p1, .unset, .unset, .unset] [(.int p1), (.ref ra0)])) rfl (by rw [hml]; rfl) (argsL := [(.ref ra0), (.int p1)]) (rest := []) (lenOf pd_1 rfl) rfl (by show 2 * 0 + _ ≤ _; exact Nat.le_of_eq rfl) (hb hby d10_2) (fun _ _ => ⟨rfl, e0, (by decide : 0 + 0 ≤ _), (by decide : 0 + 0 ≤ _)⟩)
  dsimp only [Pt.U, Pt.locs, Pt.cells, Pt.slots] at X188 l188 y188 z188 st188 hQ188
  subst l188 y188 z188
  obtain ⟨rfl, N188q, e188⟩ := hQ188
  have N188 := Fr.app N0 N188q
  have k189 := fun (t : State) (kk : Steps p.tables e below (T188.setTop (mkF m 5 #[rv ra0, iv p1, .unset, .unset, .unset] [(.int (v11_ret p1 L_ra0))])) t) => k187 t (st188 _ kk)
  have k190 := fun (t : State) (kk : Steps p.tables e below (T188.setTop (mkF m 10 #[rv ra0, iv p1, iv (v11_ret p1 L_ra0), .unset, .unset] [(.int 2), (.int (p1 - (v11_ret p1 L_ra0)))])) t) => k189 t (by
    refine XS.istoreN X188.here hx rfl (hb hby d10_5) rfl (l' := #[rv ra0, iv p1, iv (v11_ret p1 L_ra0), .unset, .unset]) rfl ?_
    refine XS.iloadN X188.here hx rfl (hb hby d10_6) rfl ?_
    refine XS.iloadN X188.here hx rfl (hb hby d10_7) rfl ?_
    show Steps p.tables e below (T188.setTop (mkF m 8 #[rv ra0, iv p1, iv (v11_ret p1 L_ra0), .unset, .unset] [(.int (v11_ret p1 L_ra0)), (.int p1)])) _
    refine XS.isub X188.here hx rfl (hb hby d10_8) rfl ?_
    refine XS.iconst X188.here hx rfl (hb hby d10_9) ?_
    exact kk)
  by_cases hc10_191 : (p1 - (v11_ret p1 L_ra0)) < (2 : Int32)
  · have k192 := fun (t : State) (kk : Steps p.tables e below (T188.setTop (mkF m 14 #[rv ra0, iv p1, iv (v11_ret p1 L_ra0), .unset, .unset] [(.int 0)])) t) => k190 t (by
      refine XS.icmpNo X188.here hx rfl (hb hby d10_10) rfl (tlt hc10_191).2.1 ?_
      refine XS.iconst X188.here hx rfl (hb hby d10_13) ?_
      exact kk)
    obtain ⟨fs, hr, hrun, hended, hW, hsame⟩ := X188.leave (v := some (.int 0)) (fun h => by rw [Bd.returns] at h; cases h) hlk
    have hv : (v10_ret p1 L_ra0) = (0 : Int32) := (if_pos hc10_191)
    refine ⟨_, _, k192 _ ?_, hrun, hended, _, _, rfl, ?_, ⟨_, rfl⟩, hW, hsame.mono (by decide) (by decide)⟩
    · show Steps p.tables e below (T188.setTop (mkF m 14 #[rv ra0, iv p1, iv (v11_ret p1 L_ra0), .unset, .unset] [(.int 0)])) _
      exact retN X188 hx (t := .boolean) Bd.returns (by simp) (hb hby d10_14) hr
    · show Q10 Z ra0 p1 k_ra0 L_ra0 h0 n0 _ T188.heap _
      rw [e188]
      exact ⟨(congrArg (fun z => some (Value.int z)) hv).symm, N188, rfl⟩
  · have k193 := fun (t : State) (kk : Steps p.tables e below (T188.setTop (mkF m 17 #[rv ra0, iv p1, iv (v11_ret p1 L_ra0), .unset, .unset] [(.int (v11_ret p1 L_ra0)), (.ref ra0)])) t) => k190 t (by
      refine XS.icmpYes X188.here hx rfl (pc0 := 10) (pc' := 15) rfl (hb hby d10_10) rfl (flt hc10_191).2.1 (by decide) (by decide) ?_
      refine XS.aloadN X188.here hx rfl (hb hby d10_15) rfl rfl ?_
      refine XS.iloadN X188.here hx rfl (hb hby d10_16) rfl ?_
      exact kk)
    have hV194 := V_ra0
    obtain ⟨cl194, Ar194, q194, S194, Nn194, H194, G194⟩ := hV194
    have hb195 : ¬ (v11_ret p1 L_ra0) < 0 ∧ (v11_ret p1 L_ra0) < (5 : Int32) := own_g1 p1 L_ra0 hi hc10_191
    have hin195 : ¬ ((v11_ret p1 L_ra0) < 0 ∨ cl194.slots.size ≤ ((v11_ret p1 L_ra0)).toNatClampNeg) := inb_of S194 hb195
    have hat195 : cl194.slots[((v11_ret p1 L_ra0)).toNatClampNeg]? = some (.int (v10_17_at p1 L_ra0)) := Has.at H194 hin195 (own_getD_int _ _ _)
    have st195 := X188.baloadBytes hx (j := (v11_ret p1 L_ra0)) (v := (.int (v10_17_at p1 L_ra0))) (by rw [e188]; exact Ar194.1) (State.isArrayOf_alike hZ.alike Ar194.2.1) Ar194.2.2 hin195 hat195 (g := (mkF m 17 #[rv ra0, iv p1, iv (v11_ret p1 L_ra0), .unset, .unset] [(.int (v11_ret p1 L_ra0)), (.ref ra0)])) rfl rfl (hb hby d10_17)
    have k196 := fun (t : State) (kk : Steps p.tables e below (T188.setTop (mkF m 18 #[rv ra0, iv p1, iv (v11_ret p1 L_ra0), .unset, .unset] [(.int (v10_17_at p1 L_ra0))])) t) => k193 t (st195 _ kk)
    have k197 := fun (t : State) (kk : Steps p.tables e below (T188.setTop (mkF m 20 #[rv ra0, iv p1, iv (v11_ret p1 L_ra0), .unset, .unset] [(.int 45), (.int (v10_17_at p1 L_ra0))])) t) => k196 t (by
      refine XS.bipush X188.here hx rfl (hb hby d10_18) ?_
      exact kk)
    by_cases hc20_198 : (v10_17_at p1 L_ra0) = (45 : Int32)
    · have k199 := fun (t : State) (kk : Steps p.tables e below (T188.setTop (mkF m 27 #[rv ra0, iv p1, iv (v11_ret p1 L_ra0), .unset, .unset] [(.int ((v11_ret p1 L_ra0) + (1 : Int32))), (.ref ra0)])) t) => k197 t (by
        refine XS.icmpNo X188.here hx rfl (hb hby d10_20) rfl (teq hc20_198).2 ?_
        refine XS.aloadN X188.here hx rfl (hb hby d10_23) rfl rfl ?_
        refine XS.iloadN X188.here hx rfl (hb hby d10_24) rfl ?_
        refine XS.iconst X188.here hx rfl (hb hby d10_25) ?_
        show Steps p.tables e below (T188.setTop (mkF m 26 #[rv ra0, iv p1, iv (v11_ret p1 L_ra0), .unset, .unset] [(.int 1), (.int (v11_ret p1 L_ra0)), (.ref ra0)])) _
        refine XS.iadd X188.here hx rfl (hb hby d10_26) rfl ?_
        exact kk)
      have hV200 := V_ra0
      obtain ⟨cl200, Ar200, q200, S200, Nn200, H200, G200⟩ := hV200
      have hb201 : ¬ ((v11_ret p1 L_ra0) + (1 : Int32)) < 0 ∧ ((v11_ret p1 L_ra0) + (1 : Int32)) < (5 : Int32) := own_g2 p1 L_ra0 hi hc10_191
      have hin201 : ¬ (((v11_ret p1 L_ra0) + (1 : Int32)) < 0 ∨ cl200.slots.size ≤ (((v11_ret p1 L_ra0) + (1 : Int32))).toNatClampNeg) := inb_of S200 hb201
      have hat201 : cl200.slots[(((v11_ret p1 L_ra0) + (1 : Int32))).toNatClampNeg]? = some (.int (v10_27_at p1 L_ra0)) := Has.at H200 hin201 (own_getD_int _ _ _)
      have st201 := X188.baloadBytes hx (j := ((v11_ret p1 L_ra0) + (1 : Int32))) (v := (.int (v10_27_at p1 L_ra0))) (by rw [e188]; exact Ar200.1) (State.isArrayOf_alike hZ.alike Ar200.2.1) Ar200.2.2 hin201 hat201 (g := (mkF m 27 #[rv ra0, iv p1, iv (v11_ret p1 L_ra0), .unset, .unset] [(.int ((v11_ret p1 L_ra0) + (1 : Int32))), (.ref ra0)])) rfl rfl (hb hby d10_27)
      have k202 := fun (t : State) (kk : Steps p.tables e below (T188.setTop (mkF m 28 #[rv ra0, iv p1, iv (v11_ret p1 L_ra0), .unset, .unset] [(.int (v10_27_at p1 L_ra0))])) t) => k199 t (st201 _ kk)
      have k203 := fun (t : State) (kk : Steps p.tables e below (T188.setTop (mkF m 30 #[rv ra0, iv p1, iv (v11_ret p1 L_ra0), .unset, .unset] [(.int 45), (.int (v10_27_at p1 L_ra0))])) t) => k202 t (by
        refine XS.bipush X188.here hx rfl (hb hby d10_28) ?_
        exact kk)
      by_cases hc30_204 : (v10_27_at p1 L_ra0) = (45 : Int32)
      · have k205 := fun (t : State) (kk : Steps p.tables e below (T188.setTop (mkF m 39 #[rv ra0, iv p1, iv (v11_ret p1 L_ra0), .unset, .unset] [(.int 2), (.int ((v11_ret p1 L_ra0) + (2 : Int32)))])) t) => k203 t (by
          refine XS.icmpYes X188.here hx rfl (pc0 := 30) (pc' := 35) rfl (hb hby d10_30) rfl (teq hc30_204).1 (by decide) (by decide) ?_
          refine XS.iloadN X188.here hx rfl (hb hby d10_35) rfl ?_
          refine XS.iconst X188.here hx rfl (hb hby d10_36) ?_
          refine XS.iadd X188.here hx rfl (hb hby d10_37) rfl ?_
          refine XS.iconst X188.here hx rfl (hb hby d10_38) ?_
          exact kk)
        by_cases hc39_206 : (2 : Int32) < ((v11_ret p1 L_ra0) + (2 : Int32))
        · have k207 := fun (t : State) (kk : Steps p.tables e below (T188.setTop (mkF m 66 #[rv ra0, iv p1, iv (v11_ret p1 L_ra0), iv 1, .unset] [(.int 3), (.int ((v11_ret p1 L_ra0) + (2 : Int32)))])) t) => k205 t (by
            refine XS.icmpYes X188.here hx rfl (pc0 := 39) (pc' := 56) rfl (hb hby d10_39) rfl (tlt hc39_206).2.2.1 (by decide) (by decide) ?_
            refine XS.iconst X188.here hx rfl (hb hby d10_56) ?_
            refine XS.goto X188.here hx rfl (pc0 := 57) (pc' := 61) rfl (hb hby d10_57) (by decide) (by decide) ?_
            refine XS.istoreN X188.here hx rfl (hb hby d10_61) rfl (l' := #[rv ra0, iv p1, iv (v11_ret p1 L_ra0), iv 1, .unset]) rfl ?_
            refine XS.iloadN X188.here hx rfl (hb hby d10_62) rfl ?_
            show Steps p.tables e below (T188.setTop (mkF m 63 #[rv ra0, iv p1, iv (v11_ret p1 L_ra0), iv 1, .unset] [(.int (v11_ret p1 L_ra0))])) _
            refine XS.iconst X188.here hx rfl (hb hby d10_63) ?_
            refine XS.iadd X188.here hx rfl (hb hby d10_64) rfl ?_
            refine XS.iconst X188.here hx rfl (hb hby d10_65) ?_
            exact kk)
          by_cases hc66_208 : (3 : Int32) < ((v11_ret p1 L_ra0) + (2 : Int32))
          · have k209 := fun (t : State) (kk : Steps p.tables e below (T188.setTop (mkF m 104 #[rv ra0, iv p1, iv (v11_ret p1 L_ra0), iv 1, iv 1] [(.int 1)])) t) => k207 t (by
              refine XS.icmpYes X188.here hx rfl (pc0 := 66) (pc' := 83) rfl (hb hby d10_66) rfl (tlt hc66_208).2.2.1 (by decide) (by decide) ?_
              refine XS.iconst X188.here hx rfl (hb hby d10_83) ?_
              refine XS.goto X188.here hx rfl (pc0 := 84) (pc' := 88) rfl (hb hby d10_84) (by decide) (by decide) ?_
              refine XS.istore X188.here hx rfl (hb hby d10_88) rfl (l' := #[rv ra0, iv p1, iv (v11_ret p1 L_ra0), iv 1, iv 1]) rfl ?_
              refine XS.iloadN X188.here hx rfl (hb hby d10_90) rfl ?_
              refine XS.ifNo X188.here hx rfl (hb hby d10_91) rfl ((if0 _ _).trans (feq (by decide : ¬ ((1 : Int32) = (0 : Int32)))).1) ?_
              refine XS.iload X188.here hx rfl (hb hby d10_94) rfl ?_
              refine XS.ifNo X188.here hx rfl (hb hby d10_96) rfl ((if0 _ _).trans (feq (by decide : ¬ ((1 : Int32) = (0 : Int32)))).1) ?_
              refine XS.iconst X188.here hx rfl (hb hby d10_99) ?_
              show Steps p.tables e below (T188.setTop (mkF m 100 #[rv ra0, iv p1, iv (v11_ret p1 L_ra0), iv 1, iv 1] [(.int 1)])) _
              refine XS.goto X188.here hx rfl (pc0 := 100) (pc' := 104) rfl (hb hby d10_100) (by decide) (by decide) ?_
              exact kk)
            obtain ⟨fs, hr, hrun, hended, hW, hsame⟩ := X188.leave (v := some (.int 1)) (fun h => by rw [Bd.returns] at h; cases h) hlk
            have hv : (v10_ret p1 L_ra0) = (1 : Int32) := ((if_neg hc10_191).trans ((if_pos hc20_198).trans ((if_pos hc30_204).trans ((if_pos hc39_206).trans (if_pos hc66_208)))))
            refine ⟨_, _, k209 _ ?_, hrun, hended, _, _, rfl, ?_, ⟨_, rfl⟩, hW, hsame.mono (by decide) (by decide)⟩
            · show Steps p.tables e below (T188.setTop (mkF m 104 #[rv ra0, iv p1, iv (v11_ret p1 L_ra0), iv 1, iv 1] [(.int 1)])) _
              exact retN X188 hx (t := .boolean) Bd.returns (by simp) (hb hby d10_104) hr
            · show Q10 Z ra0 p1 k_ra0 L_ra0 h0 n0 _ T188.heap _
              rw [e188]
              exact ⟨(congrArg (fun z => some (Value.int z)) hv).symm, N188, rfl⟩
          · have k210 := fun (t : State) (kk : Steps p.tables e below (T188.setTop (mkF m 71 #[rv ra0, iv p1, iv (v11_ret p1 L_ra0), iv 1, .unset] [(.int p1), (.int 3)])) t) => k207 t (by
              refine XS.icmpNo X188.here hx rfl (hb hby d10_66) rfl (flt hc66_208).2.2.1 ?_
              refine XS.iconst X188.here hx rfl (hb hby d10_69) ?_
              refine XS.iloadN X188.here hx rfl (hb hby d10_70) rfl ?_
              exact kk)
            by_cases hc71_211 : (3 : Int32) < p1
            · have k212 := fun (t : State) (kk : Steps p.tables e below (T188.setTop (mkF m 76 #[rv ra0, iv p1, iv (v11_ret p1 L_ra0), iv 1, .unset] [(.int 3), (.ref ra0)])) t) => k210 t (by
                refine XS.icmpNo X188.here hx rfl (hb hby d10_71) rfl (tlt hc71_211).2.1 ?_
                refine XS.aloadN X188.here hx rfl (hb hby d10_74) rfl rfl ?_
                refine XS.iconst X188.here hx rfl (hb hby d10_75) ?_
                exact kk)
              have hV213 := V_ra0
              obtain ⟨cl213, Ar213, q213, S213, Nn213, H213, G213⟩ := hV213
              have hb214 : ¬ (3 : Int32) < 0 ∧ (3 : Int32) < (5 : Int32) := ⟨by decide, by decide⟩
              have hin214 : ¬ ((3 : Int32) < 0 ∨ cl213.slots.size ≤ ((3 : Int32)).toNatClampNeg) := inb_of S213 hb214
              have hat214 : cl213.slots[((3 : Int32)).toNatClampNeg]? = some (.int (v10_76_at L_ra0)) := Has.at H213 hin214 (own_getD_int _ _ _)
              have st214 := X188.baloadBytes hx (j := (3 : Int32)) (v := (.int (v10_76_at L_ra0))) (by rw [e188]; exact Ar213.1) (State.isArrayOf_alike hZ.alike Ar213.2.1) Ar213.2.2 hin214 hat214 (g := (mkF m 76 #[rv ra0, iv p1, iv (v11_ret p1 L_ra0), iv 1, .unset] [(.int 3), (.ref ra0)])) rfl rfl (hb hby d10_76)
              have k215 := fun (t : State) (kk : Steps p.tables e below (T188.setTop (mkF m 77 #[rv ra0, iv p1, iv (v11_ret p1 L_ra0), iv 1, .unset] [(.int (v10_76_at L_ra0))])) t) => k212 t (st214 _ kk)
              have Zz216 : n0 ≤ h0.size := (Nat.le_trans Z0 KC0.1)
              obtain ⟨_, _, ⟨T216, L216, k216, n216⟩, -, X216, ⟨Lc216, hQ216, l216, y216, z216⟩, st216⟩ := Jvm.LawKit.callS X188 hx (y := (⟨cLw, "ws", "(B)Z"⟩ : MethodName)) hown (mvT hZ (hw _ (List.mem_of_getElem? (i := 70) rfl))) (mvT hZ (hw _ (List.mem_of_getElem? (i := 71) rfl))) (mvT hZ (hw _ (List.mem_of_getElem? (i := 3) rfl))) (mvT hZ (hw _ (List.mem_of_getElem? (i := 72) rfl))) (by decide) (backOf (W := 0) (rm16 l Z a0 hw [] (v10_76_at L_ra0) h0 n0 Zz216) hZ (hw _ (List.mem_of_getElem? (i := 72) rfl)) (hw _ (List.mem_of_getElem? (i := 3) rfl)) (by decide) (by decide)) (g := (mkF m 77 #[rv ra0, iv p1, iv (v11_ret p1 L_ra0), iv 1, .unset] [(.int (v10_76_at L_ra0))])) rfl (by rw [hml]; rfl) (argsL := [(.int (v10_76_at L_ra0))]) (rest := []) (lenOf pd_0 rfl) rfl (by show 2 * 0 + _ ≤ _; exact Nat.le_of_eq rfl) (hb hby d10_77) (fun _ _ => ⟨rfl, e188, (by decide : 0 + 0 ≤ _), (by decide : 0 + 0 ≤ _)⟩)
              dsimp only [Pt.U, Pt.locs, Pt.cells, Pt.slots] at X216 l216 y216 z216 st216 hQ216
              subst l216 y216 z216
              obtain ⟨rfl, N216q, e216⟩ := hQ216
              have N216 := Fr.app N188 N216q
              have k217 := fun (t : State) (kk : Steps p.tables e below (T216.setTop (mkF m 80 #[rv ra0, iv p1, iv (v11_ret p1 L_ra0), iv 1, .unset] [(.int (nar .boolean (v16_3_s0 (v10_76_at L_ra0))))])) t) => k215 t (st216 _ kk)
              have k222 := fun (t : State) (kk : Steps p.tables e below (T216.setTop (mkF m 104 #[rv ra0, iv p1, iv (v11_ret p1 L_ra0), iv 1, iv (v10_80_s0 L_ra0)] [(.int (v10_96_s0 L_ra0))])) t) => k217 t (by
                suffices k219 : Steps p.tables e below (T216.setTop (mkF m 88 #[rv ra0, iv p1, iv (v11_ret p1 L_ra0), iv 1, .unset] [(.int (v10_80_s0 L_ra0))])) t by
                  by_cases hc80_218 : (nar .boolean (v16_3_s0 (v10_76_at L_ra0))) = (0 : Int32)
                  · rw [(show (v10_80_s0 L_ra0) = (1 : Int32) from if_pos hc80_218)] at k219
                    refine XS.ifNo X216.here hx rfl (hb hby d10_80) rfl ((if0 _ _).trans (teq hc80_218).2) ?_
                    refine XS.iconst X216.here hx rfl (hb hby d10_83) ?_
                    refine XS.goto X216.here hx rfl (pc0 := 84) (pc' := 88) rfl (hb hby d10_84) (by decide) (by decide) ?_
                    exact k219
                  · rw [(show (v10_80_s0 L_ra0) = (0 : Int32) from if_neg hc80_218)] at k219
                    refine XS.ifYes X216.here hx rfl (pc0 := 80) (pc' := 87) rfl (hb hby d10_80) rfl ((if0 _ _).trans (feq hc80_218).2) (by decide) (by decide) ?_
                    refine XS.iconst X216.here hx rfl (hb hby d10_87) ?_
                    exact k219
                show Steps p.tables e below (T216.setTop (mkF m 88 #[rv ra0, iv p1, iv (v11_ret p1 L_ra0), iv 1, .unset] [(.int (v10_80_s0 L_ra0))])) _
                refine XS.istore X216.here hx rfl (hb hby d10_88) rfl (l' := #[rv ra0, iv p1, iv (v11_ret p1 L_ra0), iv 1, iv (v10_80_s0 L_ra0)]) rfl ?_
                refine XS.iloadN X216.here hx rfl (hb hby d10_90) rfl ?_
                refine XS.ifNo X216.here hx rfl (hb hby d10_91) rfl ((if0 _ _).trans (feq (by decide : ¬ ((1 : Int32) = (0 : Int32)))).1) ?_
                refine XS.iload X216.here hx rfl (hb hby d10_94) rfl ?_
                suffices k221 : Steps p.tables e below (T216.setTop (mkF m 104 #[rv ra0, iv p1, iv (v11_ret p1 L_ra0), iv 1, iv (v10_80_s0 L_ra0)] [(.int (v10_96_s0 L_ra0))])) t by
                  by_cases hc96_220 : (v10_80_s0 L_ra0) = (0 : Int32)
                  · rw [(show (v10_96_s0 L_ra0) = (0 : Int32) from if_pos hc96_220)] at k221
                    refine XS.ifYes X216.here hx rfl (pc0 := 96) (pc' := 103) rfl (hb hby d10_96) rfl ((if0 _ _).trans (teq hc96_220).1) (by decide) (by decide) ?_
                    refine XS.iconst X216.here hx rfl (hb hby d10_103) ?_
                    exact k221
                  · rw [(show (v10_96_s0 L_ra0) = (1 : Int32) from if_neg hc96_220)] at k221
                    refine XS.ifNo X216.here hx rfl (hb hby d10_96) rfl ((if0 _ _).trans (feq hc96_220).1) ?_
                    refine XS.iconst X216.here hx rfl (hb hby d10_99) ?_
                    refine XS.goto X216.here hx rfl (pc0 := 100) (pc' := 104) rfl (hb hby d10_100) (by decide) (by decide) ?_
                    exact k221
                exact kk)
              obtain ⟨fs, hr, hrun, hended, hW, hsame⟩ := X216.leave (v := some (.int (nar .boolean (v10_96_s0 L_ra0)))) (fun h => by rw [Bd.returns] at h; cases h) hlk
              have hv : (v10_ret p1 L_ra0) = (nar .boolean (v10_96_s0 L_ra0)) := ((if_neg hc10_191).trans ((if_pos hc20_198).trans ((if_pos hc30_204).trans ((if_pos hc39_206).trans ((if_neg hc66_208).trans (if_pos hc71_211))))))
              refine ⟨_, _, k222 _ ?_, hrun, hended, _, _, rfl, ?_, ⟨_, rfl⟩, hW, hsame.mono (by decide) (by decide)⟩
              · show Steps p.tables e below (T216.setTop (mkF m 104 #[rv ra0, iv p1, iv (v11_ret p1 L_ra0), iv 1, iv (v10_80_s0 L_ra0)] [(.int (v10_96_s0 L_ra0))])) _
                exact retN X216 hx (t := .boolean) Bd.returns (by simp) (hb hby d10_104) hr
              · show Q10 Z ra0 p1 k_ra0 L_ra0 h0 n0 _ T216.heap _
                rw [e216]
                exact ⟨(congrArg (fun z => some (Value.int z)) hv).symm, N216, rfl⟩
            · have k223 := fun (t : State) (kk : Steps p.tables e below (T188.setTop (mkF m 104 #[rv ra0, iv p1, iv (v11_ret p1 L_ra0), iv 1, iv 1] [(.int 1)])) t) => k210 t (by
                refine XS.icmpYes X188.here hx rfl (pc0 := 71) (pc' := 83) rfl (hb hby d10_71) rfl (flt hc71_211).2.1 (by decide) (by decide) ?_
                refine XS.iconst X188.here hx rfl (hb hby d10_83) ?_
                refine XS.goto X188.here hx rfl (pc0 := 84) (pc' := 88) rfl (hb hby d10_84) (by decide) (by decide) ?_
                show Steps p.tables e below (T188.setTop (mkF m 88 #[rv ra0, iv p1, iv (v11_ret p1 L_ra0), iv 1, .unset] [(.int 1)])) _
                refine XS.istore X188.here hx rfl (hb hby d10_88) rfl (l' := #[rv ra0, iv p1, iv (v11_ret p1 L_ra0), iv 1, iv 1]) rfl ?_
                refine XS.iloadN X188.here hx rfl (hb hby d10_90) rfl ?_
                refine XS.ifNo X188.here hx rfl (hb hby d10_91) rfl ((if0 _ _).trans (feq (by decide : ¬ ((1 : Int32) = (0 : Int32)))).1) ?_
                refine XS.iload X188.here hx rfl (hb hby d10_94) rfl ?_
                refine XS.ifNo X188.here hx rfl (hb hby d10_96) rfl ((if0 _ _).trans (feq (by decide : ¬ ((1 : Int32) = (0 : Int32)))).1) ?_
                refine XS.iconst X188.here hx rfl (hb hby d10_99) ?_
                refine XS.goto X188.here hx rfl (pc0 := 100) (pc' := 104) rfl (hb hby d10_100) (by decide) (by decide) ?_
                exact kk)
              obtain ⟨fs, hr, hrun, hended, hW, hsame⟩ := X188.leave (v := some (.int 1)) (fun h => by rw [Bd.returns] at h; cases h) hlk
              have hv : (v10_ret p1 L_ra0) = (1 : Int32) := ((if_neg hc10_191).trans ((if_pos hc20_198).trans ((if_pos hc30_204).trans ((if_pos hc39_206).trans ((if_neg hc66_208).trans (if_neg hc71_211))))))
              refine ⟨_, _, k223 _ ?_, hrun, hended, _, _, rfl, ?_, ⟨_, rfl⟩, hW, hsame.mono (by decide) (by decide)⟩
              · show Steps p.tables e below (T188.setTop (mkF m 104 #[rv ra0, iv p1, iv (v11_ret p1 L_ra0), iv 1, iv 1] [(.int 1)])) _
                exact retN X188 hx (t := .boolean) Bd.returns (by simp) (hb hby d10_104) hr
              · show Q10 Z ra0 p1 k_ra0 L_ra0 h0 n0 _ T188.heap _
                rw [e188]
                exact ⟨(congrArg (fun z => some (Value.int z)) hv).symm, N188, rfl⟩
        · have k224 := fun (t : State) (kk : Steps p.tables e below (T188.setTop (mkF m 44 #[rv ra0, iv p1, iv (v11_ret p1 L_ra0), .unset, .unset] [(.int p1), (.int 2)])) t) => k205 t (by
            refine XS.icmpNo X188.here hx rfl (hb hby d10_39) rfl (flt hc39_206).2.2.1 ?_
            refine XS.iconst X188.here hx rfl (hb hby d10_42) ?_
            refine XS.iloadN X188.here hx rfl (hb hby d10_43) rfl ?_
            exact kk)
          by_cases hc44_225 : (2 : Int32) < p1
          · have k226 := fun (t : State) (kk : Steps p.tables e below (T188.setTop (mkF m 49 #[rv ra0, iv p1, iv (v11_ret p1 L_ra0), .unset, .unset] [(.int 2), (.ref ra0)])) t) => k224 t (by
              refine XS.icmpNo X188.here hx rfl (hb hby d10_44) rfl (tlt hc44_225).2.1 ?_
              refine XS.aloadN X188.here hx rfl (hb hby d10_47) rfl rfl ?_
              show Steps p.tables e below (T188.setTop (mkF m 48 #[rv ra0, iv p1, iv (v11_ret p1 L_ra0), .unset, .unset] [(.ref ra0)])) _
              refine XS.iconst X188.here hx rfl (hb hby d10_48) ?_
              exact kk)
            have hV227 := V_ra0
            obtain ⟨cl227, Ar227, q227, S227, Nn227, H227, G227⟩ := hV227
            have hb228 : ¬ (2 : Int32) < 0 ∧ (2 : Int32) < (5 : Int32) := ⟨by decide, by decide⟩
            have hin228 : ¬ ((2 : Int32) < 0 ∨ cl227.slots.size ≤ ((2 : Int32)).toNatClampNeg) := inb_of S227 hb228
            have hat228 : cl227.slots[((2 : Int32)).toNatClampNeg]? = some (.int (v10_49_at L_ra0)) := Has.at H227 hin228 (own_getD_int _ _ _)
            have st228 := X188.baloadBytes hx (j := (2 : Int32)) (v := (.int (v10_49_at L_ra0))) (by rw [e188]; exact Ar227.1) (State.isArrayOf_alike hZ.alike Ar227.2.1) Ar227.2.2 hin228 hat228 (g := (mkF m 49 #[rv ra0, iv p1, iv (v11_ret p1 L_ra0), .unset, .unset] [(.int 2), (.ref ra0)])) rfl rfl (hb hby d10_49)
            have k229 := fun (t : State) (kk : Steps p.tables e below (T188.setTop (mkF m 50 #[rv ra0, iv p1, iv (v11_ret p1 L_ra0), .unset, .unset] [(.int (v10_49_at L_ra0))])) t) => k226 t (st228 _ kk)
            have Zz230 : n0 ≤ h0.size := (Nat.le_trans Z0 KC0.1)
            obtain ⟨_, _, ⟨T230, L230, k230, n230⟩, -, X230, ⟨Lc230, hQ230, l230, y230, z230⟩, st230⟩ := Jvm.LawKit.callS X188 hx (y := (⟨cLw, "ws", "(B)Z"⟩ : MethodName)) hown (mvT hZ (hw _ (List.mem_of_getElem? (i := 70) rfl))) (mvT hZ (hw _ (List.mem_of_getElem? (i := 71) rfl))) (mvT hZ (hw _ (List.mem_of_getElem? (i := 3) rfl))) (mvT hZ (hw _ (List.mem_of_getElem? (i := 72) rfl))) (by decide) (backOf (W := 0) (rm16 l Z a0 hw [] (v10_49_at L_ra0) h0 n0 Zz230) hZ (hw _ (List.mem_of_getElem? (i := 72) rfl)) (hw _ (List.mem_of_getElem? (i := 3) rfl)) (by decide) (by decide)) (g := (mkF m 50 #[rv ra0, iv p1, iv (v11_ret p1 L_ra0), .unset, .unset] [(.int (v10_49_at L_ra0))])) rfl (by rw [hml]; rfl) (argsL := [(.int (v10_49_at L_ra0))]) (rest := []) (lenOf pd_0 rfl) rfl (by show 2 * 0 + _ ≤ _; exact Nat.le_of_eq rfl) (hb hby d10_50) (fun _ _ => ⟨rfl, e188, (by decide : 0 + 0 ≤ _), (by decide : 0 + 0 ≤ _)⟩)
            dsimp only [Pt.U, Pt.locs, Pt.cells, Pt.slots] at X230 l230 y230 z230 st230 hQ230
            subst l230 y230 z230
            obtain ⟨rfl, N230q, e230⟩ := hQ230
            have N230 := Fr.app N188 N230q
            have k231 := fun (t : State) (kk : Steps p.tables e below (T230.setTop (mkF m 53 #[rv ra0, iv p1, iv (v11_ret p1 L_ra0), .unset, .unset] [(.int (nar .boolean (v16_3_s0 (v10_49_at L_ra0))))])) t) => k229 t (st230 _ kk)
            have k234 := fun (t : State) (kk : Steps p.tables e below (T230.setTop (mkF m 66 #[rv ra0, iv p1, iv (v11_ret p1 L_ra0), iv (v10_53_s0 L_ra0), .unset] [(.int 3), (.int ((v11_ret p1 L_ra0) + (2 : Int32)))])) t) => k231 t (by
              suffices k233 : Steps p.tables e below (T230.setTop (mkF m 61 #[rv ra0, iv p1, iv (v11_ret p1 L_ra0), .unset, .unset] [(.int (v10_53_s0 L_ra0))])) t by
                by_cases hc53_232 : (nar .boolean (v16_3_s0 (v10_49_at L_ra0))) = (0 : Int32)
                · rw [(show (v10_53_s0 L_ra0) = (1 : Int32) from if_pos hc53_232)] at k233
                  refine XS.ifNo X230.here hx rfl (hb hby d10_53) rfl ((if0 _ _).trans (teq hc53_232).2) ?_
                  refine XS.iconst X230.here hx rfl (hb hby d10_56) ?_
                  refine XS.goto X230.here hx rfl (pc0 := 57) (pc' := 61) rfl (hb hby d10_57) (by decide) (by decide) ?_
                  exact k233
                · rw [(show (v10_53_s0 L_ra0) = (0 : Int32) from if_neg hc53_232)] at k233
                  refine XS.ifYes X230.here hx rfl (pc0 := 53) (pc' := 60) rfl (hb hby d10_53) rfl ((if0 _ _).trans (feq hc53_232).2) (by decide) (by decide) ?_
                  refine XS.iconst X230.here hx rfl (hb hby d10_60) ?_
                  exact k233
              refine XS.istoreN X230.here hx rfl (hb hby d10_61) rfl (l' := #[rv ra0, iv p1, iv (v11_ret p1 L_ra0), iv (v10_53_s0 L_ra0), .unset]) rfl ?_
              refine XS.iloadN X230.here hx rfl (hb hby d10_62) rfl ?_
              refine XS.iconst X230.here hx rfl (hb hby d10_63) ?_
              refine XS.iadd X230.here hx rfl (hb hby d10_64) rfl ?_
              refine XS.iconst X230.here hx rfl (hb hby d10_65) ?_
              exact kk)
            by_cases hc66_235 : (3 : Int32) < ((v11_ret p1 L_ra0) + (2 : Int32))
            · have k238 := fun (t : State) (kk : Steps p.tables e below (T230.setTop (mkF m 104 #[rv ra0, iv p1, iv (v11_ret p1 L_ra0), iv (v10_53_s0 L_ra0), iv 1] [(.int (v10_91_s0 L_ra0))])) t) => k234 t (by
                refine XS.icmpYes X230.here hx rfl (pc0 := 66) (pc' := 83) rfl (hb hby d10_66) rfl (tlt hc66_235).2.2.1 (by decide) (by decide) ?_
                show Steps p.tables e below (T230.setTop (mkF m 83 #[rv ra0, iv p1, iv (v11_ret p1 L_ra0), iv (v10_53_s0 L_ra0), .unset] [])) _
                refine XS.iconst X230.here hx rfl (hb hby d10_83) ?_
                refine XS.goto X230.here hx rfl (pc0 := 84) (pc' := 88) rfl (hb hby d10_84) (by decide) (by decide) ?_
                refine XS.istore X230.here hx rfl (hb hby d10_88) rfl (l' := #[rv ra0, iv p1, iv (v11_ret p1 L_ra0), iv (v10_53_s0 L_ra0), iv 1]) rfl ?_
                refine XS.iloadN X230.here hx rfl (hb hby d10_90) rfl ?_
                suffices k237 : Steps p.tables e below (T230.setTop (mkF m 104 #[rv ra0, iv p1, iv (v11_ret p1 L_ra0), iv (v10_53_s0 L_ra0), iv 1] [(.int (v10_91_s0 L_ra0))])) t by
                  by_cases hc91_236 : (v10_53_s0 L_ra0) = (0 : Int32)
                  · rw [(show (v10_91_s0 L_ra0) = (0 : Int32) from if_pos hc91_236)] at k237
                    refine XS.ifYes X230.here hx rfl (pc0 := 91) (pc' := 103) rfl (hb hby d10_91) rfl ((if0 _ _).trans (teq hc91_236).1) (by decide) (by decide) ?_
                    refine XS.iconst X230.here hx rfl (hb hby d10_103) ?_
                    exact k237
                  · rw [(show (v10_91_s0 L_ra0) = (1 : Int32) from if_neg hc91_236)] at k237
                    refine XS.ifNo X230.here hx rfl (hb hby d10_91) rfl ((if0 _ _).trans (feq hc91_236).1) ?_
                    refine XS.iload X230.here hx rfl (hb hby d10_94) rfl ?_
                    refine XS.ifNo X230.here hx rfl (hb hby d10_96) rfl ((if0 _ _).trans (feq (by decide : ¬ ((1 : Int32) = (0 : Int32)))).1) ?_
                    refine XS.iconst X230.here hx rfl (hb hby d10_99) ?_
                    refine XS.goto X230.here hx rfl (pc0 := 100) (pc' := 104) rfl (hb hby d10_100) (by decide) (by decide) ?_
                    exact k237
                exact kk)
              obtain ⟨fs, hr, hrun, hended, hW, hsame⟩ := X230.leave (v := some (.int (nar .boolean (v10_91_s0 L_ra0)))) (fun h => by rw [Bd.returns] at h; cases h) hlk
              have hv : (v10_ret p1 L_ra0) = (nar .boolean (v10_91_s0 L_ra0)) := ((if_neg hc10_191).trans ((if_pos hc20_198).trans ((if_pos hc30_204).trans ((if_neg hc39_206).trans ((if_pos hc44_225).trans (if_pos hc66_235))))))
              refine ⟨_, _, k238 _ ?_, hrun, hended, _, _, rfl, ?_, ⟨_, rfl⟩, hW, hsame.mono (by decide) (by decide)⟩
              · show Steps p.tables e below (T230.setTop (mkF m 104 #[rv ra0, iv p1, iv (v11_ret p1 L_ra0), iv (v10_53_s0 L_ra0), iv 1] [(.int (v10_91_s0 L_ra0))])) _
                exact retN X230 hx (t := .boolean) Bd.returns (by simp) (hb hby d10_104) hr
              · show Q10 Z ra0 p1 k_ra0 L_ra0 h0 n0 _ T230.heap _
                rw [e230]
                exact ⟨(congrArg (fun z => some (Value.int z)) hv).symm, N230, rfl⟩
            · have k239 := fun (t : State) (kk : Steps p.tables e below (T230.setTop (mkF m 71 #[rv ra0, iv p1, iv (v11_ret p1 L_ra0), iv (v10_53_s0 L_ra0), .unset] [(.int p1), (.int 3)])) t) => k234 t (by
                refine XS.icmpNo X230.here hx rfl (hb hby d10_66) rfl (flt hc66_235).2.2.1 ?_
                show Steps p.tables e below (T230.setTop (mkF m 69 #[rv ra0, iv p1, iv (v11_ret p1 L_ra0), iv (v10_53_s0 L_ra0), .unset] [])) _
                refine XS.iconst X230.here hx rfl (hb hby d10_69) ?_
                refine XS.iloadN X230.here hx rfl (hb hby d10_70) rfl ?_
                exact kk)
              by_cases hc71_240 : (3 : Int32) < p1
              · have k241 := fun (t : State) (kk : Steps p.tables e below (T230.setTop (mkF m 76 #[rv ra0, iv p1, iv (v11_ret p1 L_ra0), iv (v10_53_s0 L_ra0), .unset] [(.int 3), (.ref ra0)])) t) => k239 t (by
                  refine XS.icmpNo X230.here hx rfl (hb hby d10_71) rfl (tlt hc71_240).2.1 ?_
                  refine XS.aloadN X230.here hx rfl (hb hby d10_74) rfl rfl ?_
                  refine XS.iconst X230.here hx rfl (hb hby d10_75) ?_
                  exact kk)
                have hV242 := V_ra0
                obtain ⟨cl242, Ar242, q242, S242, Nn242, H242, G242⟩ := hV242
                have hb243 : ¬ (3 : Int32) < 0 ∧ (3 : Int32) < (5 : Int32) := ⟨by decide, by decide⟩
                have hin243 : ¬ ((3 : Int32) < 0 ∨ cl242.slots.size ≤ ((3 : Int32)).toNatClampNeg) := inb_of S242 hb243
                have hat243 : cl242.slots[((3 : Int32)).toNatClampNeg]? = some (.int (v10_76_at L_ra0)) := Has.at H242 hin243 (own_getD_int _ _ _)
                have st243 := X230.baloadBytes hx (j := (3 : Int32)) (v := (.int (v10_76_at L_ra0))) (by rw [e230]; exact Ar242.1) (State.isArrayOf_alike hZ.alike Ar242.2.1) Ar242.2.2 hin243 hat243 (g := (mkF m 76 #[rv ra0, iv p1, iv (v11_ret p1 L_ra0), iv (v10_53_s0 L_ra0), .unset] [(.int 3), (.ref ra0)])) rfl rfl (hb hby d10_76)
                have k244 := fun (t : State) (kk : Steps p.tables e below (T230.setTop (mkF m 77 #[rv ra0, iv p1, iv (v11_ret p1 L_ra0), iv (v10_53_s0 L_ra0), .unset] [(.int (v10_76_at L_ra0))])) t) => k241 t (st243 _ kk)
                have Zz245 : n0 ≤ h0.size := (Nat.le_trans Z0 KC0.1)
                obtain ⟨_, _, ⟨T245, L245, k245, n245⟩, -, X245, ⟨Lc245, hQ245, l245, y245, z245⟩, st245⟩ := Jvm.LawKit.callS X230 hx (y := (⟨cLw, "ws", "(B)Z"⟩ : MethodName)) hown (mvT hZ (hw _ (List.mem_of_getElem? (i := 70) rfl))) (mvT hZ (hw _ (List.mem_of_getElem? (i := 71) rfl))) (mvT hZ (hw _ (List.mem_of_getElem? (i := 3) rfl))) (mvT hZ (hw _ (List.mem_of_getElem? (i := 72) rfl))) (by decide) (backOf (W := 0) (rm16 l Z a0 hw [] (v10_76_at L_ra0) h0 n0 Zz245) hZ (hw _ (List.mem_of_getElem? (i := 72) rfl)) (hw _ (List.mem_of_getElem? (i := 3) rfl)) (by decide) (by decide)) (g := (mkF m 77 #[rv ra0, iv p1, iv (v11_ret p1 L_ra0), iv (v10_53_s0 L_ra0), .unset] [(.int (v10_76_at L_ra0))])) rfl (by rw [hml]; rfl) (argsL := [(.int (v10_76_at L_ra0))]) (rest := []) (lenOf pd_0 rfl) rfl (by show 2 * 0 + _ ≤ _; exact Nat.le_of_eq rfl) (hb hby d10_77) (fun _ _ => ⟨rfl, e230, (by decide : 0 + 0 ≤ _), (by decide : 0 + 0 ≤ _)⟩)
                dsimp only [Pt.U, Pt.locs, Pt.cells, Pt.slots] at X245 l245 y245 z245 st245 hQ245
                subst l245 y245 z245
                obtain ⟨rfl, N245q, e245⟩ := hQ245
                have N245 := Fr.app N230 N245q
                have k246 := fun (t : State) (kk : Steps p.tables e below (T245.setTop (mkF m 80 #[rv ra0, iv p1, iv (v11_ret p1 L_ra0), iv (v10_53_s0 L_ra0), .unset] [(.int (nar .boolean (v16_3_s0 (v10_76_at L_ra0))))])) t) => k244 t (st245 _ kk)
                have k253 := fun (t : State) (kk : Steps p.tables e below (T245.setTop (mkF m 104 #[rv ra0, iv p1, iv (v11_ret p1 L_ra0), iv (v10_53_s0 L_ra0), iv (v10_80_s0 L_ra0)] [(.int (v10_91_s0_1 L_ra0))])) t) => k246 t (by
                  suffices k248 : Steps p.tables e below (T245.setTop (mkF m 88 #[rv ra0, iv p1, iv (v11_ret p1 L_ra0), iv (v10_53_s0 L_ra0), .unset] [(.int (v10_80_s0 L_ra0))])) t by
                    by_cases hc80_247 : (nar .boolean (v16_3_s0 (v10_76_at L_ra0))) = (0 : Int32)
                    · rw [(show (v10_80_s0 L_ra0) = (1 : Int32) from if_pos hc80_247)] at k248
                      refine XS.ifNo X245.here hx rfl (hb hby d10_80) rfl ((if0 _ _).trans (teq hc80_247).2) ?_
                      refine XS.iconst X245.here hx rfl (hb hby d10_83) ?_
                      refine XS.goto X245.here hx rfl (pc0 := 84) (pc' := 88) rfl (hb hby d10_84) (by decide) (by decide) ?_
                      exact k248
                    · rw [(show (v10_80_s0 L_ra0) = (0 : Int32) from if_neg hc80_247)] at k248
                      refine XS.ifYes X245.here hx rfl (pc0 := 80) (pc' := 87) rfl (hb hby d10_80) rfl ((if0 _ _).trans (feq hc80_247).2) (by decide) (by decide) ?_
                      refine XS.iconst X245.here hx rfl (hb hby d10_87) ?_
                      exact k248
                  refine XS.istore X245.here hx rfl (hb hby d10_88) rfl (l' := #[rv ra0, iv p1, iv (v11_ret p1 L_ra0), iv (v10_53_s0 L_ra0), iv (v10_80_s0 L_ra0)]) rfl ?_
                  refine XS.iloadN X245.here hx rfl (hb hby d10_90) rfl ?_
                  suffices k252 : Steps p.tables e below (T245.setTop (mkF m 104 #[rv ra0, iv p1, iv (v11_ret p1 L_ra0), iv (v10_53_s0 L_ra0), iv (v10_80_s0 L_ra0)] [(.int (v10_91_s0_1 L_ra0))])) t by
                    by_cases hc91_249 : (v10_53_s0 L_ra0) = (0 : Int32)
                    · rw [(show (v10_91_s0_1 L_ra0) = (0 : Int32) from if_pos hc91_249)] at k252
                      show Steps p.tables e below (T245.setTop (mkF m 91 #[rv ra0, iv p1, iv (v11_ret p1 L_ra0), iv (v10_53_s0 L_ra0), iv (v10_80_s0 L_ra0)] [(.int (v10_53_s0 L_ra0))])) _
                      refine XS.ifYes X245.here hx rfl (pc0 := 91) (pc' := 103) rfl (hb hby d10_91) rfl ((if0 _ _).trans (teq hc91_249).1) (by decide) (by decide) ?_
                      refine XS.iconst X245.here hx rfl (hb hby d10_103) ?_
                      exact k252
                    · rw [(show (v10_91_s0_1 L_ra0) = (v10_96_s0 L_ra0) from if_neg hc91_249)] at k252
                      refine XS.ifNo X245.here hx rfl (hb hby d10_91) rfl ((if0 _ _).trans (feq hc91_249).1) ?_
                      refine XS.iload X245.here hx rfl (hb hby d10_94) rfl ?_
                      suffices k251 : Steps p.tables e below (T245.setTop (mkF m 104 #[rv ra0, iv p1, iv (v11_ret p1 L_ra0), iv (v10_53_s0 L_ra0), iv (v10_80_s0 L_ra0)] [(.int (v10_96_s0 L_ra0))])) t by
                        by_cases hc96_250 : (v10_80_s0 L_ra0) = (0 : Int32)
                        · rw [(show (v10_96_s0 L_ra0) = (0 : Int32) from if_pos hc96_250)] at k251
                          refine XS.ifYes X245.here hx rfl (pc0 := 96) (pc' := 103) rfl (hb hby d10_96) rfl ((if0 _ _).trans (teq hc96_250).1) (by decide) (by decide) ?_
                          refine XS.iconst X245.here hx rfl (hb hby d10_103) ?_
                          exact k251
                        · rw [(show (v10_96_s0 L_ra0) = (1 : Int32) from if_neg hc96_250)] at k251
                          refine XS.ifNo X245.here hx rfl (hb hby d10_96) rfl ((if0 _ _).trans (feq hc96_250).1) ?_
                          refine XS.iconst X245.here hx rfl (hb hby d10_99) ?_
                          refine XS.goto X245.here hx rfl (pc0 := 100) (pc' := 104) rfl (hb hby d10_100) (by decide) (by decide) ?_
                          exact k251
                      exact k252
                  exact kk)
                obtain ⟨fs, hr, hrun, hended, hW, hsame⟩ := X245.leave (v := some (.int (nar .boolean (v10_91_s0_1 L_ra0)))) (fun h => by rw [Bd.returns] at h; cases h) hlk
                have hv : (v10_ret p1 L_ra0) = (nar .boolean (v10_91_s0_1 L_ra0)) := ((if_neg hc10_191).trans ((if_pos hc20_198).trans ((if_pos hc30_204).trans ((if_neg hc39_206).trans ((if_pos hc44_225).trans ((if_neg hc66_235).trans (if_pos hc71_240)))))))
                refine ⟨_, _, k253 _ ?_, hrun, hended, _, _, rfl, ?_, ⟨_, rfl⟩, hW, hsame.mono (by decide) (by decide)⟩
                · show Steps p.tables e below (T245.setTop (mkF m 104 #[rv ra0, iv p1, iv (v11_ret p1 L_ra0), iv (v10_53_s0 L_ra0), iv (v10_80_s0 L_ra0)] [(.int (v10_91_s0_1 L_ra0))])) _
                  exact retN X245 hx (t := .boolean) Bd.returns (by simp) (hb hby d10_104) hr
                · show Q10 Z ra0 p1 k_ra0 L_ra0 h0 n0 _ T245.heap _
                  rw [e245]
                  exact ⟨(congrArg (fun z => some (Value.int z)) hv).symm, N245, rfl⟩
              · have k256 := fun (t : State) (kk : Steps p.tables e below (T230.setTop (mkF m 104 #[rv ra0, iv p1, iv (v11_ret p1 L_ra0), iv (v10_53_s0 L_ra0), iv 1] [(.int (v10_91_s0 L_ra0))])) t) => k239 t (by
                  refine XS.icmpYes X230.here hx rfl (pc0 := 71) (pc' := 83) rfl (hb hby d10_71) rfl (flt hc71_240).2.1 (by decide) (by decide) ?_
                  refine XS.iconst X230.here hx rfl (hb hby d10_83) ?_
                  refine XS.goto X230.here hx rfl (pc0 := 84) (pc' := 88) rfl (hb hby d10_84) (by decide) (by decide) ?_
                  show Steps p.tables e below (T230.setTop (mkF m 88 #[rv ra0, iv p1, iv (v11_ret p1 L_ra0), iv (v10_53_s0 L_ra0), .unset] [(.int 1)])) _
                  refine XS.istore X230.here hx rfl (hb hby d10_88) rfl (l' := #[rv ra0, iv p1, iv (v11_ret p1 L_ra0), iv (v10_53_s0 L_ra0), iv 1]) rfl ?_
                  refine XS.iloadN X230.here hx rfl (hb hby d10_90) rfl ?_
                  suffices k255 : Steps p.tables e below (T230.setTop (mkF m 104 #[rv ra0, iv p1, iv (v11_ret p1 L_ra0), iv (v10_53_s0 L_ra0), iv 1] [(.int (v10_91_s0 L_ra0))])) t by
                    by_cases hc91_254 : (v10_53_s0 L_ra0) = (0 : Int32)
                    · rw [(show (v10_91_s0 L_ra0) = (0 : Int32) from if_pos hc91_254)] at k255
                      refine XS.ifYes X230.here hx rfl (pc0 := 91) (pc' := 103) rfl (hb hby d10_91) rfl ((if0 _ _).trans (teq hc91_254).1) (by decide) (by decide) ?_
                      refine XS.iconst X230.here hx rfl (hb hby d10_103) ?_
                      exact k255
                    · rw [(show (v10_91_s0 L_ra0) = (1 : Int32) from if_neg hc91_254)] at k255
                      refine XS.ifNo X230.here hx rfl (hb hby d10_91) rfl ((if0 _ _).trans (feq hc91_254).1) ?_
                      refine XS.iload X230.here hx rfl (hb hby d10_94) rfl ?_
                      refine XS.ifNo X230.here hx rfl (hb hby d10_96) rfl ((if0 _ _).trans (feq (by decide : ¬ ((1 : Int32) = (0 : Int32)))).1) ?_
                      refine XS.iconst X230.here hx rfl (hb hby d10_99) ?_
                      refine XS.goto X230.here hx rfl (pc0 := 100) (pc' := 104) rfl (hb hby d10_100) (by decide) (by decide) ?_
                      exact k255
                  exact kk)
                obtain ⟨fs, hr, hrun, hended, hW, hsame⟩ := X230.leave (v := some (.int (nar .boolean (v10_91_s0 L_ra0)))) (fun h => by rw [Bd.returns] at h; cases h) hlk
                have hv : (v10_ret p1 L_ra0) = (nar .boolean (v10_91_s0 L_ra0)) := ((if_neg hc10_191).trans ((if_pos hc20_198).trans ((if_pos hc30_204).trans ((if_neg hc39_206).trans ((if_pos hc44_225).trans ((if_neg hc66_235).trans (if_neg hc71_240)))))))
                refine ⟨_, _, k256 _ ?_, hrun, hended, _, _, rfl, ?_, ⟨_, rfl⟩, hW, hsame.mono (by decide) (by decide)⟩
                · show Steps p.tables e below (T230.setTop (mkF m 104 #[rv ra0, iv p1, iv (v11_ret p1 L_ra0), iv (v10_53_s0 L_ra0), iv 1] [(.int (v10_91_s0 L_ra0))])) _
                  exact retN X230 hx (t := .boolean) Bd.returns (by simp) (hb hby d10_104) hr
                · show Q10 Z ra0 p1 k_ra0 L_ra0 h0 n0 _ T230.heap _
                  rw [e230]
                  exact ⟨(congrArg (fun z => some (Value.int z)) hv).symm, N230, rfl⟩
          · have k257 := fun (t : State) (kk : Steps p.tables e below (T188.setTop (mkF m 66 #[rv ra0, iv p1, iv (v11_ret p1 L_ra0), iv 1, .unset] [(.int 3), (.int ((v11_ret p1 L_ra0) + (2 : Int32)))])) t) => k224 t (by
              refine XS.icmpYes X188.here hx rfl (pc0 := 44) (pc' := 56) rfl (hb hby d10_44) rfl (flt hc44_225).2.1 (by decide) (by decide) ?_
              refine XS.iconst X188.here hx rfl (hb hby d10_56) ?_
              refine XS.goto X188.here hx rfl (pc0 := 57) (pc' := 61) rfl (hb hby d10_57) (by decide) (by decide) ?_
              show Steps p.tables e below (T188.setTop (mkF m 61 #[rv ra0, iv p1, iv (v11_ret p1 L_ra0), .unset, .unset] [(.int 1)])) _
              refine XS.istoreN X188.here hx rfl (hb hby d10_61) rfl (l' := #[rv ra0, iv p1, iv (v11_ret p1 L_ra0), iv 1, .unset]) rfl ?_
              refine XS.iloadN X188.here hx rfl (hb hby d10_62) rfl ?_
              refine XS.iconst X188.here hx rfl (hb hby d10_63) ?_
              refine XS.iadd X188.here hx rfl (hb hby d10_64) rfl ?_
              refine XS.iconst X188.here hx rfl (hb hby d10_65) ?_
              exact kk)
            by_cases hc66_258 : (3 : Int32) < ((v11_ret p1 L_ra0) + (2 : Int32))
            · have k259 := fun (t : State) (kk : Steps p.tables e below (T188.setTop (mkF m 104 #[rv ra0, iv p1, iv (v11_ret p1 L_ra0), iv 1, iv 1] [(.int 1)])) t) => k257 t (by
                refine XS.icmpYes X188.here hx rfl (pc0 := 66) (pc' := 83) rfl (hb hby d10_66) rfl (tlt hc66_258).2.2.1 (by decide) (by decide) ?_
                refine XS.iconst X188.here hx rfl (hb hby d10_83) ?_
                refine XS.goto X188.here hx rfl (pc0 := 84) (pc' := 88) rfl (hb hby d10_84) (by decide) (by decide) ?_
                refine XS.istore X188.here hx rfl (hb hby d10_88) rfl (l' := #[rv ra0, iv p1, iv (v11_ret p1 L_ra0), iv 1, iv 1]) rfl ?_
                refine XS.iloadN X188.here hx rfl (hb hby d10_90) rfl ?_
                refine XS.ifNo X188.here hx rfl (hb hby d10_91) rfl ((if0 _ _).trans (feq (by decide : ¬ ((1 : Int32) = (0 : Int32)))).1) ?_
                refine XS.iload X188.here hx rfl (hb hby d10_94) rfl ?_
                show Steps p.tables e below (T188.setTop (mkF m 96 #[rv ra0, iv p1, iv (v11_ret p1 L_ra0), iv 1, iv 1] [(.int 1)])) _
                refine XS.ifNo X188.here hx rfl (hb hby d10_96) rfl ((if0 _ _).trans (feq (by decide : ¬ ((1 : Int32) = (0 : Int32)))).1) ?_
                refine XS.iconst X188.here hx rfl (hb hby d10_99) ?_
                refine XS.goto X188.here hx rfl (pc0 := 100) (pc' := 104) rfl (hb hby d10_100) (by decide) (by decide) ?_
                exact kk)
              obtain ⟨fs, hr, hrun, hended, hW, hsame⟩ := X188.leave (v := some (.int 1)) (fun h => by rw [Bd.returns] at h; cases h) hlk
              have hv : (v10_ret p1 L_ra0) = (1 : Int32) := ((if_neg hc10_191).trans ((if_pos hc20_198).trans ((if_pos hc30_204).trans ((if_neg hc39_206).trans ((if_neg hc44_225).trans (if_pos hc66_258))))))
              refine ⟨_, _, k259 _ ?_, hrun, hended, _, _, rfl, ?_, ⟨_, rfl⟩, hW, hsame.mono (by decide) (by decide)⟩
              · show Steps p.tables e below (T188.setTop (mkF m 104 #[rv ra0, iv p1, iv (v11_ret p1 L_ra0), iv 1, iv 1] [(.int 1)])) _
                exact retN X188 hx (t := .boolean) Bd.returns (by simp) (hb hby d10_104) hr
              · show Q10 Z ra0 p1 k_ra0 L_ra0 h0 n0 _ T188.heap _
                rw [e188]
                exact ⟨(congrArg (fun z => some (Value.int z)) hv).symm, N188, rfl⟩
            · have k260 := fun (t : State) (kk : Steps p.tables e below (T188.setTop (mkF m 71 #[rv ra0, iv p1, iv (v11_ret p1 L_ra0), iv 1, .unset] [(.int p1), (.int 3)])) t) => k257 t (by
                refine XS.icmpNo X188.here hx rfl (hb hby d10_66) rfl (flt hc66_258).2.2.1 ?_
                refine XS.iconst X188.here hx rfl (hb hby d10_69) ?_
                refine XS.iloadN X188.here hx rfl (hb hby d10_70) rfl ?_
                exact kk)
              by_cases hc71_261 : (3 : Int32) < p1
              · have k262 := fun (t : State) (kk : Steps p.tables e below (T188.setTop (mkF m 76 #[rv ra0, iv p1, iv (v11_ret p1 L_ra0), iv 1, .unset] [(.int 3), (.ref ra0)])) t) => k260 t (by
                  refine XS.icmpNo X188.here hx rfl (hb hby d10_71) rfl (tlt hc71_261).2.1 ?_
                  refine XS.aloadN X188.here hx rfl (hb hby d10_74) rfl rfl ?_
                  refine XS.iconst X188.here hx rfl (hb hby d10_75) ?_
                  exact kk)
                have hV263 := V_ra0
                obtain ⟨cl263, Ar263, q263, S263, Nn263, H263, G263⟩ := hV263
                have hb264 : ¬ (3 : Int32) < 0 ∧ (3 : Int32) < (5 : Int32) := ⟨by decide, by decide⟩
                have hin264 : ¬ ((3 : Int32) < 0 ∨ cl263.slots.size ≤ ((3 : Int32)).toNatClampNeg) := inb_of S263 hb264
                have hat264 : cl263.slots[((3 : Int32)).toNatClampNeg]? = some (.int (v10_76_at L_ra0)) := Has.at H263 hin264 (own_getD_int _ _ _)
                have st264 := X188.baloadBytes hx (j := (3 : Int32)) (v := (.int (v10_76_at L_ra0))) (by rw [e188]; exact Ar263.1) (State.isArrayOf_alike hZ.alike Ar263.2.1) Ar263.2.2 hin264 hat264 (g := (mkF m 76 #[rv ra0, iv p1, iv (v11_ret p1 L_ra0), iv 1, .unset] [(.int 3), (.ref ra0)])) rfl rfl (hb hby d10_76)
                have k265 := fun (t : State) (kk : Steps p.tables e below (T188.setTop (mkF m 77 #[rv ra0, iv p1, iv (v11_ret p1 L_ra0), iv 1, .unset] [(.int (v10_76_at L_ra0))])) t) => k262 t (st264 _ kk)
                have Zz266 : n0 ≤ h0.size := (Nat.le_trans Z0 KC0.1)
                obtain ⟨_, _, ⟨T266, L266, k266, n266⟩, -, X266, ⟨Lc266, hQ266, l266, y266, z266⟩, st266⟩ := Jvm.LawKit.callS X188 hx (y := (⟨cLw, "ws", "(B)Z"⟩ : MethodName)) hown (mvT hZ (hw _ (List.mem_of_getElem? (i := 70) rfl))) (mvT hZ (hw _ (List.mem_of_getElem? (i := 71) rfl))) (mvT hZ (hw _ (List.mem_of_getElem? (i := 3) rfl))) (mvT hZ (hw _ (List.mem_of_getElem? (i := 72) rfl))) (by decide) (backOf (W := 0) (rm16 l Z a0 hw [] (v10_76_at L_ra0) h0 n0 Zz266) hZ (hw _ (List.mem_of_getElem? (i := 72) rfl)) (hw _ (List.mem_of_getElem? (i := 3) rfl)) (by decide) (by decide)) (g := (mkF m 77 #[rv ra0, iv p1, iv (v11_ret p1 L_ra0), iv 1, .unset] [(.int (v10_76_at L_ra0))])) rfl (by rw [hml]; rfl) (argsL := [(.int (v10_76_at L_ra0))]) (rest := []) (lenOf pd_0 rfl) rfl (by show 2 * 0 + _ ≤ _; exact Nat.le_of_eq rfl) (hb hby d10_77) (fun _ _ => ⟨rfl, e188, (by decide : 0 + 0 ≤ _), (by decide : 0 + 0 ≤ _)⟩)
                dsimp only [Pt.U, Pt.locs, Pt.cells, Pt.slots] at X266 l266 y266 z266 st266 hQ266
                subst l266 y266 z266
                obtain ⟨rfl, N266q, e266⟩ := hQ266
                have N266 := Fr.app N188 N266q
                have k267 := fun (t : State) (kk : Steps p.tables e below (T266.setTop (mkF m 80 #[rv ra0, iv p1, iv (v11_ret p1 L_ra0), iv 1, .unset] [(.int (nar .boolean (v16_3_s0 (v10_76_at L_ra0))))])) t) => k265 t (st266 _ kk)
                have k272 := fun (t : State) (kk : Steps p.tables e below (T266.setTop (mkF m 104 #[rv ra0, iv p1, iv (v11_ret p1 L_ra0), iv 1, iv (v10_80_s0 L_ra0)] [(.int (v10_96_s0 L_ra0))])) t) => k267 t (by
                  suffices k269 : Steps p.tables e below (T266.setTop (mkF m 88 #[rv ra0, iv p1, iv (v11_ret p1 L_ra0), iv 1, .unset] [(.int (v10_80_s0 L_ra0))])) t by
                    by_cases hc80_268 : (nar .boolean (v16_3_s0 (v10_76_at L_ra0))) = (0 : Int32)
                    · rw [(show (v10_80_s0 L_ra0) = (1 : Int32) from if_pos hc80_268)] at k269
                      refine XS.ifNo X266.here hx rfl (hb hby d10_80) rfl ((if0 _ _).trans (teq hc80_268).2) ?_
                      refine XS.iconst X266.here hx rfl (hb hby d10_83) ?_
                      refine XS.goto X266.here hx rfl (pc0 := 84) (pc' := 88) rfl (hb hby d10_84) (by decide) (by decide) ?_
                      exact k269
                    · rw [(show (v10_80_s0 L_ra0) = (0 : Int32) from if_neg hc80_268)] at k269
                      show Steps p.tables e below (T266.setTop (mkF m 80 #[rv ra0, iv p1, iv (v11_ret p1 L_ra0), iv 1, .unset] [(.int (nar .boolean (v16_3_s0 (v10_76_at L_ra0))))])) _
                      refine XS.ifYes X266.here hx rfl (pc0 := 80) (pc' := 87) rfl (hb hby d10_80) rfl ((if0 _ _).trans (feq hc80_268).2) (by decide) (by decide) ?_
                      refine XS.iconst X266.here hx rfl (hb hby d10_87) ?_
                      exact k269
                  refine XS.istore X266.here hx rfl (hb hby d10_88) rfl (l' := #[rv ra0, iv p1, iv (v11_ret p1 L_ra0), iv 1, iv (v10_80_s0 L_ra0)]) rfl ?_
                  refine XS.iloadN X266.here hx rfl (hb hby d10_90) rfl ?_
                  refine XS.ifNo X266.here hx rfl (hb hby d10_91) rfl ((if0 _ _).trans (feq (by decide : ¬ ((1 : Int32) = (0 : Int32)))).1) ?_
                  refine XS.iload X266.here hx rfl (hb hby d10_94) rfl ?_
                  suffices k271 : Steps p.tables e below (T266.setTop (mkF m 104 #[rv ra0, iv p1, iv (v11_ret p1 L_ra0), iv 1, iv (v10_80_s0 L_ra0)] [(.int (v10_96_s0 L_ra0))])) t by
                    by_cases hc96_270 : (v10_80_s0 L_ra0) = (0 : Int32)
                    · rw [(show (v10_96_s0 L_ra0) = (0 : Int32) from if_pos hc96_270)] at k271
                      refine XS.ifYes X266.here hx rfl (pc0 := 96) (pc' := 103) rfl (hb hby d10_96) rfl ((if0 _ _).trans (teq hc96_270).1) (by decide) (by decide) ?_
                      refine XS.iconst X266.here hx rfl (hb hby d10_103) ?_
                      exact k271
                    · rw [(show (v10_96_s0 L_ra0) = (1 : Int32) from if_neg hc96_270)] at k271
                      refine XS.ifNo X266.here hx rfl (hb hby d10_96) rfl ((if0 _ _).trans (feq hc96_270).1) ?_
                      refine XS.iconst X266.here hx rfl (hb hby d10_99) ?_
                      refine XS.goto X266.here hx rfl (pc0 := 100) (pc' := 104) rfl (hb hby d10_100) (by decide) (by decide) ?_
                      exact k271
                  exact kk)
                obtain ⟨fs, hr, hrun, hended, hW, hsame⟩ := X266.leave (v := some (.int (nar .boolean (v10_96_s0 L_ra0)))) (fun h => by rw [Bd.returns] at h; cases h) hlk
                have hv : (v10_ret p1 L_ra0) = (nar .boolean (v10_96_s0 L_ra0)) := ((if_neg hc10_191).trans ((if_pos hc20_198).trans ((if_pos hc30_204).trans ((if_neg hc39_206).trans ((if_neg hc44_225).trans ((if_neg hc66_258).trans (if_pos hc71_261)))))))
                refine ⟨_, _, k272 _ ?_, hrun, hended, _, _, rfl, ?_, ⟨_, rfl⟩, hW, hsame.mono (by decide) (by decide)⟩
                · show Steps p.tables e below (T266.setTop (mkF m 104 #[rv ra0, iv p1, iv (v11_ret p1 L_ra0), iv 1, iv (v10_80_s0 L_ra0)] [(.int (v10_96_s0 L_ra0))])) _
                  exact retN X266 hx (t := .boolean) Bd.returns (by simp) (hb hby d10_104) hr
                · show Q10 Z ra0 p1 k_ra0 L_ra0 h0 n0 _ T266.heap _
                  rw [e266]
                  exact ⟨(congrArg (fun z => some (Value.int z)) hv).symm, N266, rfl⟩
              · have k273 := fun (t : State) (kk : Steps p.tables e below (T188.setTop (mkF m 104 #[rv ra0, iv p1, iv (v11_ret p1 L_ra0), iv 1, iv 1] [(.int 1)])) t) => k260 t (by
                  refine XS.icmpYes X188.here hx rfl (pc0 := 71) (pc' := 83) rfl (hb hby d10_71) rfl (flt hc71_261).2.1 (by decide) (by decide) ?_
                  show Steps p.tables e below (T188.setTop (mkF m 83 #[rv ra0, iv p1, iv (v11_ret p1 L_ra0), iv 1, .unset] [])) _
                  refine XS.iconst X188.here hx rfl (hb hby d10_83) ?_
                  refine XS.goto X188.here hx rfl (pc0 := 84) (pc' := 88) rfl (hb hby d10_84) (by decide) (by decide) ?_
                  refine XS.istore X188.here hx rfl (hb hby d10_88) rfl (l' := #[rv ra0, iv p1, iv (v11_ret p1 L_ra0), iv 1, iv 1]) rfl ?_
                  refine XS.iloadN X188.here hx rfl (hb hby d10_90) rfl ?_
                  refine XS.ifNo X188.here hx rfl (hb hby d10_91) rfl ((if0 _ _).trans (feq (by decide : ¬ ((1 : Int32) = (0 : Int32)))).1) ?_
                  refine XS.iload X188.here hx rfl (hb hby d10_94) rfl ?_
                  refine XS.ifNo X188.here hx rfl (hb hby d10_96) rfl ((if0 _ _).trans (feq (by decide : ¬ ((1 : Int32) = (0 : Int32)))).1) ?_
                  refine XS.iconst X188.here hx rfl (hb hby d10_99) ?_
                  refine XS.goto X188.here hx rfl (pc0 := 100) (pc' := 104) rfl (hb hby d10_100) (by decide) (by decide) ?_
                  exact kk)
                obtain ⟨fs, hr, hrun, hended, hW, hsame⟩ := X188.leave (v := some (.int 1)) (fun h => by rw [Bd.returns] at h; cases h) hlk
                have hv : (v10_ret p1 L_ra0) = (1 : Int32) := ((if_neg hc10_191).trans ((if_pos hc20_198).trans ((if_pos hc30_204).trans ((if_neg hc39_206).trans ((if_neg hc44_225).trans ((if_neg hc66_258).trans (if_neg hc71_261)))))))
                refine ⟨_, _, k273 _ ?_, hrun, hended, _, _, rfl, ?_, ⟨_, rfl⟩, hW, hsame.mono (by decide) (by decide)⟩
                · show Steps p.tables e below (T188.setTop (mkF m 104 #[rv ra0, iv p1, iv (v11_ret p1 L_ra0), iv 1, iv 1] [(.int 1)])) _
                  exact retN X188 hx (t := .boolean) Bd.returns (by simp) (hb hby d10_104) hr
                · show Q10 Z ra0 p1 k_ra0 L_ra0 h0 n0 _ T188.heap _
                  rw [e188]
                  exact ⟨(congrArg (fun z => some (Value.int z)) hv).symm, N188, rfl⟩
      · have k274 := fun (t : State) (kk : Steps p.tables e below (T188.setTop (mkF m 34 #[rv ra0, iv p1, iv (v11_ret p1 L_ra0), .unset, .unset] [(.int 0)])) t) => k203 t (by
          refine XS.icmpNo X188.here hx rfl (hb hby d10_30) rfl (feq hc30_204).1 ?_
          refine XS.iconst X188.here hx rfl (hb hby d10_33) ?_
          exact kk)
        obtain ⟨fs, hr, hrun, hended, hW, hsame⟩ := X188.leave (v := some (.int 0)) (fun h => by rw [Bd.returns] at h; cases h) hlk
        have hv : (v10_ret p1 L_ra0) = (0 : Int32) := ((if_neg hc10_191).trans ((if_pos hc20_198).trans (if_neg hc30_204)))
        refine ⟨_, _, k274 _ ?_, hrun, hended, _, _, rfl, ?_, ⟨_, rfl⟩, hW, hsame.mono (by decide) (by decide)⟩
        · show Steps p.tables e below (T188.setTop (mkF m 34 #[rv ra0, iv p1, iv (v11_ret p1 L_ra0), .unset, .unset] [(.int 0)])) _
          exact retN X188 hx (t := .boolean) Bd.returns (by simp) (hb hby d10_34) hr
        · show Q10 Z ra0 p1 k_ra0 L_ra0 h0 n0 _ T188.heap _
          rw [e188]
          exact ⟨(congrArg (fun z => some (Value.int z)) hv).symm, N188, rfl⟩
    · have k275 := fun (t : State) (kk : Steps p.tables e below (T188.setTop (mkF m 34 #[rv ra0, iv p1, iv (v11_ret p1 L_ra0), .unset, .unset] [(.int 0)])) t) => k197 t (by
        refine XS.icmpYes X188.here hx rfl (pc0 := 20) (pc' := 33) rfl (hb hby d10_20) rfl (feq hc20_198).2 (by decide) (by decide) ?_
        show Steps p.tables e below (T188.setTop (mkF m 33 #[rv ra0, iv p1, iv (v11_ret p1 L_ra0), .unset, .unset] [])) _
        refine XS.iconst X188.here hx rfl (hb hby d10_33) ?_
        exact kk)
      obtain ⟨fs, hr, hrun, hended, hW, hsame⟩ := X188.leave (v := some (.int 0)) (fun h => by rw [Bd.returns] at h; cases h) hlk
      have hv : (v10_ret p1 L_ra0) = (0 : Int32) := ((if_neg hc10_191).trans (if_neg hc20_198))
      refine ⟨_, _, k275 _ ?_, hrun, hended, _, _, rfl, ?_, ⟨_, rfl⟩, hW, hsame.mono (by decide) (by decide)⟩
      · show Steps p.tables e below (T188.setTop (mkF m 34 #[rv ra0, iv p1, iv (v11_ret p1 L_ra0), .unset, .unset] [(.int 0)])) _
        exact retN X188 hx (t := .boolean) Bd.returns (by simp) (hb hby d10_34) hr
      · show Q10 Z ra0 p1 k_ra0 L_ra0 h0 n0 _ T188.heap _
        rw [e188]
        exact ⟨(congrArg (fun z => some (Value.int z)) hv).symm, N188, rfl⟩
theorem pd_2 : parseMethodDescriptor "([BI)Z" = some ⟨[(.array .byte), .int], some .boolean⟩ := by decide +kernel
theorem d2_0 : decode method_8_code 0 = .ok (.aload_n 0, 1) := by decide +kernel
theorem d2_1 : decode method_8_code 1 = .ok (.iload_n 1, 1) := by decide +kernel
theorem d2_2 : decode method_8_code 2 = .ok (.baload, 1) := by decide +kernel
theorem d2_3 : decode method_8_code 3 = .ok (.invokestatic 7, 3) := by decide +kernel
theorem d2_6 : decode method_8_code 6 = .ok (.ifCond .eq 23, 3) := by decide +kernel
theorem d2_9 : decode method_8_code 9 = .ok (.aload_n 0, 1) := by decide +kernel
theorem d2_10 : decode method_8_code 10 = .ok (.iload_n 1, 1) := by decide +kernel
theorem d2_11 : decode method_8_code 11 = .ok (.invokestatic 20, 3) := by decide +kernel
theorem d2_14 : decode method_8_code 14 = .ok (.ifCond .eq 15, 3) := by decide +kernel
theorem d2_17 : decode method_8_code 17 = .ok (.aload_n 0, 1) := by decide +kernel
theorem d2_18 : decode method_8_code 18 = .ok (.iload_n 1, 1) := by decide +kernel
theorem d2_19 : decode method_8_code 19 = .ok (.invokestatic 24, 3) := by decide +kernel
theorem d2_22 : decode method_8_code 22 = .ok (.ifCond .eq 7, 3) := by decide +kernel
theorem d2_25 : decode method_8_code 25 = .ok (.iconst 1, 1) := by decide +kernel
theorem d2_26 : decode method_8_code 26 = .ok (.goto 4, 3) := by decide +kernel
theorem d2_29 : decode method_8_code 29 = .ok (.iconst 0, 1) := by decide +kernel
theorem d2_30 : decode method_8_code 30 = .ok (.ireturn, 1) := by decide +kernel
def v2_2_at (p1 : Int32) (L_ra0 : List Int32) : Int32 := (L_ra0.getD (p1).toNatClampNeg (0 : Int32))
def v2_22_s0 (p1 : Int32) (L_ra0 : List Int32) : Int32 := if (v10_ret p1 L_ra0) = (0 : Int32) then (0 : Int32) else (1 : Int32)
def v2_ret (p1 : Int32) (L_ra0 : List Int32) : Int32 := (if (nar .boolean (v3_3_s0 (v2_2_at p1 L_ra0))) = (0 : Int32) then (0 : Int32) else (if (v9_ret p1 L_ra0) = (0 : Int32) then (0 : Int32) else (nar .boolean (v2_22_s0 p1 L_ra0))))
theorem ef_rm2 (m : MethodId) (ra0 : Addr) (p1 : Int32) : entryFrame m #[(.ref ra0), (.int p1)] 2 = mkF m 0 #[rv ra0, iv p1] [] := by first | (simp [entryFrame, mkF, argsToLocals, Value.category]; done) | rfl
def Q2 (Z : State) (ra0 : Addr) (p1 : Int32) (k_ra0 : ClassId) (L_ra0 : List Int32) (h0 : Heap) (n0 : Nat) (v : Option Value) (h : Heap) (L : List Loc) : Prop := (v = some (.int (v2_ret p1 L_ra0)) ∧ Fr n0 L ∧ h = h0)
set_option maxRecDepth 65536 in
set_option maxHeartbeats 40000000 in
theorem rm2 (l : Launch) (Z : State) (a0 : Array Value) (hw : ∀ d ∈ tables_1, d.before a0 Z = true) (ws : List Jvm.Cond) (ra0 : Addr) (p1 : Int32) (k_ra0 : ClassId) (L_ra0 : List Int32) (h0 : Heap) (n0 : Nat) (Z0 : n0 ≤ h0.size) (hi : ¬ p1 < 0 ∧ p1 < (5 : Int32)) (V_ra0 : Arv Z h0 ra0 k_ra0 .byte (5 : Int32) (List.map Value.int L_ra0) (.int 0)) (VL_ra0 : L_ra0.length = ((5 : Int32)).toNatClampNeg) :
    MetFree l (⟨cLw, "ok", "([BI)Z"⟩ : MethodName) (head1 (Jvm.Cond.code (⟨cLw, "ok", "([BI)Z"⟩ : MethodName) method_8_code 2 (some .boolean) :: ws) ({ frames := 3, cells := 0, slots := 0, locals := 42 } : Room)) (fun a U => a = #[(.ref ra0), (.int p1)] ∧ Z.Warmed39 U.vm ∧ U.heap = h0) (fun _ _ _ _ _ => True) (fun _ U o U' => ∃ v L, o = .returned v ∧ Q2 Z ra0 p1 k_ra0 L_ra0 h0 n0 v U'.heap L ∧ FrameEnd U o U' L ({ frames := 3, cells := 0, slots := 0, locals := 42 } : Room).cells ({ frames := 3, cells := 0, slots := 0, locals := 42 } : Room).slots) := by
  refine MetFree.of_bodySF (plainFor_of_name pn_48) hisR ?_
  intro p e s m args below meth c s₁ Bd hml0 hP hK
  obtain ⟨rfl, hZ, hh⟩ := hP
  have hx := Bd.exec
  have hlk : meth.locks = false := by first | exact BodyLoose.notSynchronized Bd | exact Body.notSynchronized Bd
  have hby := Bd.bytes
  have hml : c.maxLocals = 2 := hml0
  have hown : s.vm.findClass cLw = some m.cls := findClass_of_methodNamed Bd.named
  have hnm := (name_of_methodNamed Bd.named Bd.method).1
  have X0 : Stand p l e ({ frames := 3, cells := 0, slots := 0, locals := 42 } : Room) s m #[(.ref ra0), (.int p1)] below meth c s₁ [] 0 0 := Stand.of_body Bd
  have e0 : s₁.heap = h0 := by rw [← hh, Bd.state]; rfl
  have N0 := Fr.nil n0
  have KC0 := Keep.refl h0 ([] : List Addr)
  have pre0 : ∀ t, Steps p.tables e below (s₁.setTop (mkF m 0 #[rv ra0, iv p1] [])) t → Steps p.tables e below (s₁.setTop (entryFrame m #[(.ref ra0), (.int p1)] 2)) t := fun t k => castTop (ef_rm2 m ra0 p1) k
  have k276 := fun (t : State) (kk : Steps p.tables e below (s₁.setTop (mkF m 2 #[rv ra0, iv p1] [(.int p1), (.ref ra0)])) t) => pre0 t (by
    refine XS.aloadN X0.here hx rfl (hb hby d2_0) rfl rfl ?_
    refine XS.iloadN X0.here hx rfl (hb hby d2_1) rfl ?_
    exact kk)
  have hV277 := V_ra0
  obtain ⟨cl277, Ar277, q277, S277, Nn277, H277, G277⟩ := hV277
  have hb278 : ¬ p1 < 0 ∧ p1 < (5 : Int32) := hi
  have hin278 : ¬ (p1 < 0 ∨ cl277.slots.size ≤ (p1).toNatClampNeg) := inb_of S277 hb278
  have hat278 : cl277.slots[(p1).toNatClampNeg]? = some (.int (v2_2_at p1 L_ra0)) := Has.at H277 hin278 (own_getD_int _ _ _)
  have st278 := X0.baloadBytes hx (j := p1) (v := (.int (v2_2_at p1 L_ra0))) (by rw [e0]; exact Ar277.1) (State.isArrayOf_alike hZ.alike Ar277.2.1) Ar277.2.2 hin278 hat278 (g := (mkF m 2 #[rv ra0, iv p1] [(.int p1), (.ref ra0)])) rfl rfl (hb hby d2_2)
  have k279 := fun (t : State) (kk : Steps p.tables e below (s₁.setTop (mkF m 3 #[rv ra0, iv p1] [(.int (v2_2_at p1 L_ra0))])) t) => k276 t (st278 _ kk)
  have Zz280 : n0 ≤ h0.size := (Nat.le_trans Z0 KC0.1)
  obtain ⟨_, _, ⟨T280, L280, k280, n280⟩, -, X280, ⟨Lc280, hQ280, l280, y280, z280⟩, st280⟩ := Jvm.LawKit.callS X0 hx (y := (⟨cLw, "end", "(B)Z"⟩ : MethodName)) hown (mvT hZ (hw _ (List.mem_of_getElem? (i := 8) rfl))) (mvT hZ (hw _ (List.mem_of_getElem? (i := 9) rfl))) (mvT hZ (hw _ (List.mem_of_getElem? (i := 3) rfl))) (mvT hZ (hw _ (List.mem_of_getElem? (i := 10) rfl))) (by decide) (backOf (W := 0) (rm3 l Z a0 hw [] (v2_2_at p1 L_ra0) h0 n0 Zz280) hZ (hw _ (List.mem_of_getElem? (i := 10) rfl)) (hw _ (List.mem_of_getElem? (i := 3) rfl)) (by decide) (by decide)) (g := (mkF m 3 #[rv ra0, iv p1] [(.int (v2_2_at p1 L_ra0))])) rfl (by rw [hml]; rfl) (argsL := [(.int (v2_2_at p1 L_ra0))]) (rest := []) (lenOf pd_0 rfl) rfl (by show 2 * 0 + _ ≤ _; exact Nat.le_of_eq rfl) (hb hby d2_3) (fun _ _ => ⟨rfl, e0, (by decide : 0 + 0 ≤ _), (by decide : 0 + 0 ≤ _)⟩)
  dsimp only [Pt.U, Pt.locs, Pt.cells, Pt.slots] at X280 l280 y280 z280 st280 hQ280
  subst l280 y280 z280
  obtain ⟨rfl, N280q, e280⟩ := hQ280
  have N280 := Fr.app N0 N280q
  have k281 := fun (t : State) (kk : Steps p.tables e below (T280.setTop (mkF m 6 #[rv ra0, iv p1] [(.int (nar .boolean (v3_3_s0 (v2_2_at p1 L_ra0))))])) t) => k279 t (st280 _ kk)
  by_cases hc6_282 : (nar .boolean (v3_3_s0 (v2_2_at p1 L_ra0))) = (0 : Int32)
  · have k283 := fun (t : State) (kk : Steps p.tables e below (T280.setTop (mkF m 30 #[rv ra0, iv p1] [(.int 0)])) t) => k281 t (by
      refine XS.ifYes X280.here hx rfl (pc0 := 6) (pc' := 29) rfl (hb hby d2_6) rfl ((if0 _ _).trans (teq hc6_282).1) (by decide) (by decide) ?_
      refine XS.iconst X280.here hx rfl (hb hby d2_29) ?_
      exact kk)
    obtain ⟨fs, hr, hrun, hended, hW, hsame⟩ := X280.leave (v := some (.int 0)) (fun h => by rw [Bd.returns] at h; cases h) hlk
    have hv : (v2_ret p1 L_ra0) = (0 : Int32) := (if_pos hc6_282)
    refine ⟨_, _, k283 _ ?_, hrun, hended, _, _, rfl, ?_, ⟨_, rfl⟩, hW, hsame.mono (by decide) (by decide)⟩
    · show Steps p.tables e below (T280.setTop (mkF m 30 #[rv ra0, iv p1] [(.int 0)])) _
      exact retN X280 hx (t := .boolean) Bd.returns (by simp) (hb hby d2_30) hr
    · show Q2 Z ra0 p1 k_ra0 L_ra0 h0 n0 _ T280.heap _
      rw [e280]
      exact ⟨(congrArg (fun z => some (Value.int z)) hv).symm, N280, rfl⟩
  · have k284 := fun (t : State) (kk : Steps p.tables e below (T280.setTop (mkF m 11 #[rv ra0, iv p1] [(.int p1), (.ref ra0)])) t) => k281 t (by
      refine XS.ifNo X280.here hx rfl (hb hby d2_6) rfl ((if0 _ _).trans (feq hc6_282).1) ?_
      refine XS.aloadN X280.here hx rfl (hb hby d2_9) rfl rfl ?_
      show Steps p.tables e below (T280.setTop (mkF m 10 #[rv ra0, iv p1] [(.ref ra0)])) _
      refine XS.iloadN X280.here hx rfl (hb hby d2_10) rfl ?_
      exact kk)
    have Zz285 : n0 ≤ h0.size := (Nat.le_trans Z0 KC0.1)
    obtain ⟨_, _, ⟨T285, L285, k285, n285⟩, -, X285, ⟨Lc285, hQ285, l285, y285, z285⟩, st285⟩ := Jvm.LawKit.callS X280 hx (y := (⟨cLw, "noNeg", "([BI)Z"⟩ : MethodName)) hown (mvT hZ (hw _ (List.mem_of_getElem? (i := 43) rfl))) (mvT hZ (hw _ (List.mem_of_getElem? (i := 44) rfl))) (mvT hZ (hw _ (List.mem_of_getElem? (i := 3) rfl))) (mvT hZ (hw _ (List.mem_of_getElem? (i := 45) rfl))) (by decide) (backOf (W := 0) (rm9 l Z a0 hw [] ra0 p1 k_ra0 L_ra0 h0 n0 Zz285 V_ra0 VL_ra0) hZ (hw _ (List.mem_of_getElem? (i := 45) rfl)) (hw _ (List.mem_of_getElem? (i := 3) rfl)) (by decide) (by decide)) (g := (mkF m 11 #[rv ra0, iv p1] [(.int p1), (.ref ra0)])) rfl (by rw [hml]; rfl) (argsL := [(.ref ra0), (.int p1)]) (rest := []) (lenOf pd_2 rfl) rfl (by show 2 * 0 + _ ≤ _; exact Nat.le_of_eq rfl) (hb hby d2_11) (fun _ _ => ⟨rfl, e280, (by decide : 0 + 0 ≤ _), (by decide : 0 + 0 ≤ _)⟩)
    dsimp only [Pt.U, Pt.locs, Pt.cells, Pt.slots] at X285 l285 y285 z285 st285 hQ285
    subst l285 y285 z285
    obtain ⟨rfl, N285q, e285⟩ := hQ285
    have N285 := Fr.app N280 N285q
    have k286 := fun (t : State) (kk : Steps p.tables e below (T285.setTop (mkF m 14 #[rv ra0, iv p1] [(.int (v9_ret p1 L_ra0))])) t) => k284 t (st285 _ kk)
    by_cases hc14_287 : (v9_ret p1 L_ra0) = (0 : Int32)
    · have k288 := fun (t : State) (kk : Steps p.tables e below (T285.setTop (mkF m 30 #[rv ra0, iv p1] [(.int 0)])) t) => k286 t (by
        refine XS.ifYes X285.here hx rfl (pc0 := 14) (pc' := 29) rfl (hb hby d2_14) rfl ((if0 _ _).trans (teq hc14_287).1) (by decide) (by decide) ?_
        refine XS.iconst X285.here hx rfl (hb hby d2_29) ?_
        exact kk)
      obtain ⟨fs, hr, hrun, hended, hW, hsame⟩ := X285.leave (v := some (.int 0)) (fun h => by rw [Bd.returns] at h; cases h) hlk
      have hv : (v2_ret p1 L_ra0) = (0 : Int32) := ((if_neg hc6_282).trans (if_pos hc14_287))
      refine ⟨_, _, k288 _ ?_, hrun, hended, _, _, rfl, ?_, ⟨_, rfl⟩, hW, hsame.mono (by decide) (by decide)⟩
      · show Steps p.tables e below (T285.setTop (mkF m 30 #[rv ra0, iv p1] [(.int 0)])) _
        exact retN X285 hx (t := .boolean) Bd.returns (by simp) (hb hby d2_30) hr
      · show Q2 Z ra0 p1 k_ra0 L_ra0 h0 n0 _ T285.heap _
        rw [e285]
        exact ⟨(congrArg (fun z => some (Value.int z)) hv).symm, N285, rfl⟩
    · have k289 := fun (t : State) (kk : Steps p.tables e below (T285.setTop (mkF m 19 #[rv ra0, iv p1] [(.int p1), (.ref ra0)])) t) => k286 t (by
        refine XS.ifNo X285.here hx rfl (hb hby d2_14) rfl ((if0 _ _).trans (feq hc14_287).1) ?_
        refine XS.aloadN X285.here hx rfl (hb hby d2_17) rfl rfl ?_
        refine XS.iloadN X285.here hx rfl (hb hby d2_18) rfl ?_
        exact kk)
      have Zz290 : n0 ≤ h0.size := (Nat.le_trans Z0 KC0.1)
      obtain ⟨_, _, ⟨T290, L290, k290, n290⟩, -, X290, ⟨Lc290, hQ290, l290, y290, z290⟩, st290⟩ := Jvm.LawKit.callS X285 hx (y := (⟨cLw, "good", "([BI)Z"⟩ : MethodName)) hown (mvT hZ (hw _ (List.mem_of_getElem? (i := 46) rfl))) (mvT hZ (hw _ (List.mem_of_getElem? (i := 47) rfl))) (mvT hZ (hw _ (List.mem_of_getElem? (i := 3) rfl))) (mvT hZ (hw _ (List.mem_of_getElem? (i := 48) rfl))) (by decide) (backOf (W := 0) (rm10 l Z a0 hw [] ra0 p1 k_ra0 L_ra0 h0 n0 Zz290 (hi : ¬ p1 < 0 ∧ p1 < (5 : Int32)) V_ra0 VL_ra0) hZ (hw _ (List.mem_of_getElem? (i := 48) rfl)) (hw _ (List.mem_of_getElem? (i := 3) rfl)) (by decide) (by decide)) (g := (mkF m 19 #[rv ra0, iv p1] [(.int p1), (.ref ra0)])) rfl (by rw [hml]; rfl) (argsL := [(.ref ra0), (.int p1)]) (rest := []) (lenOf pd_2 rfl) rfl (by show 2 * 0 + _ ≤ _; exact Nat.le_of_eq rfl) (hb hby d2_19) (fun _ _ => ⟨rfl, e285, (by decide : 0 + 0 ≤ _), (by decide : 0 + 0 ≤ _)⟩)
      dsimp only [Pt.U, Pt.locs, Pt.cells, Pt.slots] at X290 l290 y290 z290 st290 hQ290
      subst l290 y290 z290
      obtain ⟨rfl, N290q, e290⟩ := hQ290
      have N290 := Fr.app N285 N290q
      have k291 := fun (t : State) (kk : Steps p.tables e below (T290.setTop (mkF m 22 #[rv ra0, iv p1] [(.int (v10_ret p1 L_ra0))])) t) => k289 t (st290 _ kk)
      have k294 := fun (t : State) (kk : Steps p.tables e below (T290.setTop (mkF m 30 #[rv ra0, iv p1] [(.int (v2_22_s0 p1 L_ra0))])) t) => k291 t (by
        suffices k293 : Steps p.tables e below (T290.setTop (mkF m 30 #[rv ra0, iv p1] [(.int (v2_22_s0 p1 L_ra0))])) t by
          by_cases hc22_292 : (v10_ret p1 L_ra0) = (0 : Int32)
          · rw [(show (v2_22_s0 p1 L_ra0) = (0 : Int32) from if_pos hc22_292)] at k293
            refine XS.ifYes X290.here hx rfl (pc0 := 22) (pc' := 29) rfl (hb hby d2_22) rfl ((if0 _ _).trans (teq hc22_292).1) (by decide) (by decide) ?_
            refine XS.iconst X290.here hx rfl (hb hby d2_29) ?_
            exact k293
          · rw [(show (v2_22_s0 p1 L_ra0) = (1 : Int32) from if_neg hc22_292)] at k293
            refine XS.ifNo X290.here hx rfl (hb hby d2_22) rfl ((if0 _ _).trans (feq hc22_292).1) ?_
            refine XS.iconst X290.here hx rfl (hb hby d2_25) ?_
            refine XS.goto X290.here hx rfl (pc0 := 26) (pc' := 30) rfl (hb hby d2_26) (by decide) (by decide) ?_
            exact k293
        exact kk)
      obtain ⟨fs, hr, hrun, hended, hW, hsame⟩ := X290.leave (v := some (.int (nar .boolean (v2_22_s0 p1 L_ra0)))) (fun h => by rw [Bd.returns] at h; cases h) hlk
      have hv : (v2_ret p1 L_ra0) = (nar .boolean (v2_22_s0 p1 L_ra0)) := ((if_neg hc6_282).trans (if_neg hc14_287))
      refine ⟨_, _, k294 _ ?_, hrun, hended, _, _, rfl, ?_, ⟨_, rfl⟩, hW, hsame.mono (by decide) (by decide)⟩
      · show Steps p.tables e below (T290.setTop (mkF m 30 #[rv ra0, iv p1] [(.int (v2_22_s0 p1 L_ra0))])) _
        exact retN X290 hx (t := .boolean) Bd.returns (by simp) (hb hby d2_30) hr
      · show Q2 Z ra0 p1 k_ra0 L_ra0 h0 n0 _ T290.heap _
        rw [e290]
        exact ⟨(congrArg (fun z => some (Value.int z)) hv).symm, N290, rfl⟩
theorem own_nn {a b : Int32} (h0 : ¬ a < 0) (h : ¬ b < a) : ¬ (b - a) < 0 := by
  rw [Int32.lt_iff_toInt_lt] at *
  have z0 : (0 : Int32).toInt = 0 := rfl
  have x := c_isub b a; have r := rng32 (b - a); have r2 := rng32 b; omega
theorem own_min {a b n : Int32} (h0 : ¬ a < 0) (h : ¬ b < a) (q : ¬ n < b) : v15_2_s0 (n - a) (b - a) = b - a := by
  unfold v15_2_s0
  rw [Int32.lt_iff_toInt_lt] at h0 h q
  have z0 : (0 : Int32).toInt = 0 := rfl
  have x := c_isub b a; have r := rng32 (b - a); have r2 := rng32 b; have y := c_isub n a; have r3 := rng32 (n - a); have r4 := rng32 n
  split
  · rfl
  · rename_i hc; rw [Int32.lt_iff_toInt_lt] at hc; apply Int32.toInt_inj.mp; omega
theorem own_cple {a b n : Int32} (h0 : ¬ a < 0) (h : ¬ b < a) (q : ¬ n < b) : a.toNatClampNeg + (b - a).toNatClampNeg ≤ n.toNatClampNeg := by
  rw [Int32.lt_iff_toInt_lt] at h0 h q
  have z0 : (0 : Int32).toInt = 0 := rfl
  have x := c_isub b a; have r := rng32 (b - a); have r2 := rng32 b
  simp only [Int32.toNatClampNeg]; omega
theorem d14_0 : decode jdk_65_method_131_code 0 = .ok (.iload_n 1, 1) := by decide +kernel
theorem d14_1 : decode jdk_65_method_131_code 1 = .ok (.iload_n 0, 1) := by decide +kernel
theorem d14_2 : decode jdk_65_method_131_code 2 = .ok (.if_icmp .ge 35, 3) := by decide +kernel
theorem d14_37 : decode jdk_65_method_131_code 37 = .ok (.return_, 1) := by decide +kernel
theorem pn_302 : plainName "java/util/Arrays" = true := by first | (simp [plainName, overriddenIn]; done) | decide +kernel
theorem ef_rm14 (m : MethodId) (p0 : Int32) (p1 : Int32) : entryFrame m #[(.int p0), (.int p1)] 2 = mkF m 0 #[iv p0, iv p1] [] := by first | (simp [entryFrame, mkF, argsToLocals, Value.category]; done) | rfl
def Q14 (Z : State) (p0 : Int32) (p1 : Int32) (h0 : Heap) (n0 : Nat) (v : Option Value) (h : Heap) (L : List Loc) : Prop := (v = none ∧ Fr n0 L ∧ h = h0)
set_option maxRecDepth 65536 in
set_option maxHeartbeats 40000000 in
theorem rm14 (l : Launch) (Z : State) (a0 : Array Value) (hw : ∀ d ∈ tables_1, d.before a0 Z = true) (ws : List Jvm.Cond) (p0 : Int32) (p1 : Int32) (h0 : Heap) (n0 : Nat) (Z0 : n0 ≤ h0.size) (hord : ¬ p1 < p0) :
    MetFree l (⟨"java/util/Arrays", "checkLength", "(II)V"⟩ : MethodName) (head1 (Jvm.Cond.code (⟨"java/util/Arrays", "checkLength", "(II)V"⟩ : MethodName) jdk_65_method_131_code 2 none :: ws) ({ frames := 0, cells := 0, slots := 0, locals := 0 } : Room)) (fun a U => a = #[(.int p0), (.int p1)] ∧ Z.Warmed39 U.vm ∧ U.heap = h0) (fun _ _ _ _ _ => True) (fun _ U o U' => ∃ v L, o = .returned v ∧ Q14 Z p0 p1 h0 n0 v U'.heap L ∧ FrameEnd U o U' L ({ frames := 0, cells := 0, slots := 0, locals := 0 } : Room).cells ({ frames := 0, cells := 0, slots := 0, locals := 0 } : Room).slots) := by
  refine MetFree.of_bodySF (plainFor_of_name pn_302) hisR ?_
  intro p e s m args below meth c s₁ Bd hml0 hP hK
  obtain ⟨rfl, hZ, hh⟩ := hP
  have hx := Bd.exec
  have hlk : meth.locks = false := by first | exact BodyLoose.notSynchronized Bd | exact Body.notSynchronized Bd
  have hby := Bd.bytes
  have hml : c.maxLocals = 2 := hml0
  have hown : s.vm.findClass "java/util/Arrays" = some m.cls := findClass_of_methodNamed Bd.named
  have hnm := (name_of_methodNamed Bd.named Bd.method).1
  have X0 : Stand p l e ({ frames := 0, cells := 0, slots := 0, locals := 0 } : Room) s m #[(.int p0), (.int p1)] below meth c s₁ [] 0 0 := Stand.of_body Bd
  have e0 : s₁.heap = h0 := by rw [← hh, Bd.state]; rfl
  have N0 := Fr.nil n0
  have KC0 := Keep.refl h0 ([] : List Addr)
  have pre0 : ∀ t, Steps p.tables e below (s₁.setTop (mkF m 0 #[iv p0, iv p1] [])) t → Steps p.tables e below (s₁.setTop (entryFrame m #[(.int p0), (.int p1)] 2)) t := fun t k => castTop (ef_rm14 m p0 p1) k
  have k295 := fun (t : State) (kk : Steps p.tables e below (s₁.setTop (mkF m 2 #[iv p0, iv p1] [(.int p0), (.int p1)])) t) => pre0 t (by
    refine XS.iloadN X0.here hx rfl (hb hby d14_0) rfl ?_
    refine XS.iloadN X0.here hx rfl (hb hby d14_1) rfl ?_
    exact kk)
  have hc2_296 : ¬ (p1 < p0) := hord
  have k297 := fun (t : State) (kk : Steps p.tables e below (s₁.setTop (mkF m 37 #[iv p0, iv p1] [])) t) => k295 t (by
    refine XS.icmpYes X0.here hx rfl (pc0 := 2) (pc' := 37) rfl (hb hby d14_2) rfl (flt hc2_296).2.1 (by decide) (by decide) ?_
    exact kk)
  obtain ⟨fs, hr, hrun, hended, hW, hsame⟩ := X0.leave (v := none) (fun _ => rfl) hlk
  refine ⟨_, _, k297 _ ?_, hrun, hended, _, _, rfl, ?_, ⟨_, rfl⟩, hW, hsame.mono (by decide) (by decide)⟩
  · show Steps p.tables e below (s₁.setTop (mkF m 37 #[iv p0, iv p1] [])) _
    exact X0.returnOut hx Bd.returns (hb hby d14_37) hr
  · show Q14 Z p0 p1 h0 n0 _ s₁.heap _
    rw [e0]
    exact ⟨rfl, N0, rfl⟩
theorem pd_3 : parseMethodDescriptor "(II)V" = some ⟨[.int, .int], none⟩ := by decide +kernel
theorem pd_4 : parseMethodDescriptor "(II)I" = some ⟨[.int, .int], some .int⟩ := by decide +kernel
theorem d13_0 : decode jdk_65_method_133_code 0 = .ok (.iload_n 1, 1) := by decide +kernel
theorem d13_1 : decode jdk_65_method_133_code 1 = .ok (.iload_n 2, 1) := by decide +kernel
theorem d13_2 : decode jdk_65_method_133_code 2 = .ok (.invokestatic 343, 3) := by decide +kernel
theorem d13_5 : decode jdk_65_method_133_code 5 = .ok (.iload_n 2, 1) := by decide +kernel
theorem d13_6 : decode jdk_65_method_133_code 6 = .ok (.iload_n 1, 1) := by decide +kernel
theorem d13_7 : decode jdk_65_method_133_code 7 = .ok (.isub, 1) := by decide +kernel
theorem d13_8 : decode jdk_65_method_133_code 8 = .ok (.istore_n 3, 1) := by decide +kernel
theorem d13_9 : decode jdk_65_method_133_code 9 = .ok (.iload_n 3, 1) := by decide +kernel
theorem d13_10 : decode jdk_65_method_133_code 10 = .ok (.newarray .byte, 2) := by decide +kernel
theorem d13_12 : decode jdk_65_method_133_code 12 = .ok (.astore 4, 2) := by decide +kernel
theorem d13_14 : decode jdk_65_method_133_code 14 = .ok (.aload_n 0, 1) := by decide +kernel
theorem d13_15 : decode jdk_65_method_133_code 15 = .ok (.iload_n 1, 1) := by decide +kernel
theorem d13_16 : decode jdk_65_method_133_code 16 = .ok (.aload 4, 2) := by decide +kernel
theorem d13_18 : decode jdk_65_method_133_code 18 = .ok (.iconst 0, 1) := by decide +kernel
theorem d13_19 : decode jdk_65_method_133_code 19 = .ok (.aload_n 0, 1) := by decide +kernel
theorem d13_20 : decode jdk_65_method_133_code 20 = .ok (.arraylength, 1) := by decide +kernel
theorem d13_21 : decode jdk_65_method_133_code 21 = .ok (.iload_n 1, 1) := by decide +kernel
theorem d13_22 : decode jdk_65_method_133_code 22 = .ok (.isub, 1) := by decide +kernel
theorem d13_23 : decode jdk_65_method_133_code 23 = .ok (.iload_n 3, 1) := by decide +kernel
theorem d13_24 : decode jdk_65_method_133_code 24 = .ok (.invokestatic 304, 3) := by decide +kernel
theorem d13_27 : decode jdk_65_method_133_code 27 = .ok (.invokestatic 150, 3) := by decide +kernel
theorem d13_30 : decode jdk_65_method_133_code 30 = .ok (.aload 4, 2) := by decide +kernel
theorem d13_32 : decode jdk_65_method_133_code 32 = .ok (.areturn, 1) := by decide +kernel
def v13_27_L (p1 : Int32) (p2 : Int32) (L_ra0 : List Int32) : List Int32 := ((List.range ((p2 - p1)).toNatClampNeg).map (fun j => L_ra0.getD ((p1).toNatClampNeg + j) (0 : Int32)))
theorem ef_rm13 (m : MethodId) (ra0 : Addr) (p1 : Int32) (p2 : Int32) : entryFrame m #[(.ref ra0), (.int p1), (.int p2)] 5 = mkF m 0 #[rv ra0, iv p1, iv p2, .unset, .unset] [] := by first | (simp [entryFrame, mkF, argsToLocals, Value.category]; done) | rfl
def Q13 (Z : State) (ra0 : Addr) (p1 : Int32) (p2 : Int32) (k_ra0 : ClassId) (n_ra0 : Int32) (L_ra0 : List Int32) (h0 : Heap) (n0 : Nat) (v : Option Value) (h : Heap) (L : List Loc) : Prop := (∃ (xa : Addr) (k_xa : ClassId), v = some (.ref xa) ∧ Fr n0 L ∧ Keep h0 h [] ∧ h0.size ≤ xa ∧ Arv Z h xa k_xa .byte (p2 - p1) (List.map Value.int (v13_27_L p1 p2 L_ra0)) (.int 0) ∧ (v13_27_L p1 p2 L_ra0).length = ((p2 - p1)).toNatClampNeg)
set_option maxRecDepth 65536 in
set_option maxHeartbeats 40000000 in
theorem rm13 (l : Launch) (Z : State) (a0 : Array Value) (hw : ∀ d ∈ tables_1, d.before a0 Z = true) (ws : List Jvm.Cond) (ra0 : Addr) (p1 : Int32) (p2 : Int32) (k_ra0 : ClassId) (n_ra0 : Int32) (L_ra0 : List Int32) (h0 : Heap) (n0 : Nat) (Z0 : n0 ≤ h0.size) (hfrom : ¬ p1 < 0) (hord : ¬ p2 < p1) (hto : ¬ n_ra0 < p2) (hcap : (p2 - p1).toNatClampNeg ≤ 8) (V_ra0 : Arv Z h0 ra0 k_ra0 .byte n_ra0 (List.map Value.int L_ra0) (.int 0)) (VL_ra0 : L_ra0.length = n_ra0.toNatClampNeg) :
    MetFree l (⟨"java/util/Arrays", "copyOfRangeByte", "([BII)[B"⟩ : MethodName) (head1 (Jvm.Cond.code (⟨"java/util/Arrays", "copyOfRangeByte", "([BII)[B"⟩ : MethodName) jdk_65_method_133_code 5 (some (.array .byte)) :: ws) ({ frames := 1, cells := 1, slots := 8, locals := 40 } : Room)) (fun a U => a = #[(.ref ra0), (.int p1), (.int p2)] ∧ Z.Warmed39 U.vm ∧ U.heap = h0) (fun _ _ _ _ _ => True) (fun _ U o U' => ∃ v L, o = .returned v ∧ Q13 Z ra0 p1 p2 k_ra0 n_ra0 L_ra0 h0 n0 v U'.heap L ∧ FrameEnd U o U' L ({ frames := 1, cells := 1, slots := 8, locals := 40 } : Room).cells ({ frames := 1, cells := 1, slots := 8, locals := 40 } : Room).slots) := by
  refine MetFree.of_bodySF (plainFor_of_name pn_302) hisR ?_
  intro p e s m args below meth c s₁ Bd hml0 hP hK
  obtain ⟨rfl, hZ, hh⟩ := hP
  have hx := Bd.exec
  have hlk : meth.locks = false := by first | exact BodyLoose.notSynchronized Bd | exact Body.notSynchronized Bd
  have hby := Bd.bytes
  have hml : c.maxLocals = 5 := hml0
  have hown : s.vm.findClass "java/util/Arrays" = some m.cls := findClass_of_methodNamed Bd.named
  have hnm := (name_of_methodNamed Bd.named Bd.method).1
  have X0 : Stand p l e ({ frames := 1, cells := 1, slots := 8, locals := 40 } : Room) s m #[(.ref ra0), (.int p1), (.int p2)] below meth c s₁ [] 0 0 := Stand.of_body Bd
  have e0 : s₁.heap = h0 := by rw [← hh, Bd.state]; rfl
  have N0 := Fr.nil n0
  have KC0 := Keep.refl h0 ([] : List Addr)
  have pre0 : ∀ t, Steps p.tables e below (s₁.setTop (mkF m 0 #[rv ra0, iv p1, iv p2, .unset, .unset] [])) t → Steps p.tables e below (s₁.setTop (entryFrame m #[(.ref ra0), (.int p1), (.int p2)] 5)) t := fun t k => castTop (ef_rm13 m ra0 p1 p2) k
  have k298 := fun (t : State) (kk : Steps p.tables e below (s₁.setTop (mkF m 2 #[rv ra0, iv p1, iv p2, .unset, .unset] [(.int p2), (.int p1)])) t) => pre0 t (by
    refine XS.iloadN X0.here hx rfl (hb hby d13_0) rfl ?_
    refine XS.iloadN X0.here hx rfl (hb hby d13_1) rfl ?_
    exact kk)
  have Zz299 : n0 ≤ h0.size := (Nat.le_trans Z0 KC0.1)
  obtain ⟨_, _, ⟨T299, L299, k299, n299⟩, -, X299, ⟨Lc299, hQ299, l299, y299, z299⟩, st299⟩ := Jvm.LawKit.callS X0 hx (y := (⟨"java/util/Arrays", "checkLength", "(II)V"⟩ : MethodName)) hown (mvT hZ (hw _ (List.mem_of_getElem? (i := 59) rfl))) (mvT hZ (hw _ (List.mem_of_getElem? (i := 60) rfl))) (mvT hZ (hw _ (List.mem_of_getElem? (i := 54) rfl))) (mvT hZ (hw _ (List.mem_of_getElem? (i := 61) rfl))) (by decide) (backOf (W := 0) (rm14 l Z a0 hw [] p1 p2 h0 n0 Zz299 (hord : ¬ p2 < p1)) hZ (hw _ (List.mem_of_getElem? (i := 61) rfl)) (hw _ (List.mem_of_getElem? (i := 54) rfl)) (by decide) (by decide)) (g := (mkF m 2 #[rv ra0, iv p1, iv p2, .unset, .unset] [(.int p2), (.int p1)])) rfl (by rw [hml]; rfl) (argsL := [(.int p1), (.int p2)]) (rest := []) (lenOf pd_3 rfl) rfl (by show 2 * 0 + _ ≤ _; exact Nat.le_of_eq rfl) (hb hby d13_2) (fun _ _ => ⟨rfl, e0, (by decide : 0 + 0 ≤ _), (by decide : 0 + 0 ≤ _)⟩)
  dsimp only [Pt.U, Pt.locs, Pt.cells, Pt.slots] at X299 l299 y299 z299 st299 hQ299
  subst l299 y299 z299
  obtain ⟨rfl, N299q, e299⟩ := hQ299
  have N299 := Fr.app N0 N299q
  have k300 := fun (t : State) (kk : Steps p.tables e below (T299.setTop (mkF m 5 #[rv ra0, iv p1, iv p2, .unset, .unset] [])) t) => k298 t (st299 _ kk)
  have k301 := fun (t : State) (kk : Steps p.tables e below (T299.setTop (mkF m 10 #[rv ra0, iv p1, iv p2, iv (p2 - p1), .unset] [(.int (p2 - p1))])) t) => k300 t (by
    refine XS.iloadN X299.here hx rfl (hb hby d13_5) rfl ?_
    refine XS.iloadN X299.here hx rfl (hb hby d13_6) rfl ?_
    refine XS.isub X299.here hx rfl (hb hby d13_7) rfl ?_
    refine XS.istoreN X299.here hx rfl (hb hby d13_8) rfl (l' := #[rv ra0, iv p1, iv p2, iv (p2 - p1), .unset]) rfl ?_
    show Steps p.tables e below (T299.setTop (mkF m 9 #[rv ra0, iv p1, iv p2, iv (p2 - p1), .unset] [])) _
    refine XS.iloadN X299.here hx rfl (hb hby d13_9) rfl ?_
    exact kk)
  obtain ⟨T302, h302, k302, X302, e302, E302, A302, st302⟩ := newP X299 hx hZ (hw _ (List.mem_of_getElem? (i := 0) rfl)) e299 (g := (mkF m 10 #[rv ra0, iv p1, iv p2, iv (p2 - p1), .unset] [(.int (p2 - p1))])) rfl (hb hby d13_10) rfl (own_nn hfrom hord) (cap := 8) hcap (by decide) (by decide) (by decide)
  obtain ⟨b302, g302⟩ : ∃ z, z = h0.size := ⟨_, rfl⟩
  rw [← g302] at A302 st302
  have g_b302 : n0 ≤ b302 := Nat.le_trans (Nat.le_trans Z0 KC0.1) (Nat.le_of_eq g302.symm)
  have sz_b302 : h0.size ≤ b302 := Nat.le_trans KC0.1 (Nat.le_of_eq g302.symm)
  have K302 : Keep h0 h302 [] := KC0.ext E302
  have V302 : Arv Z h302 b302 k302 .byte (p2 - p1) (List.map Value.int (List.replicate ((p2 - p1)).toNatClampNeg (0 : Int32))) (.int 0) := by rw [List.map_replicate]; exact own_pad (Arv.new A302 (own_nn hfrom hord)) _
  have VL302 : (List.replicate ((p2 - p1)).toNatClampNeg (0 : Int32)).length = ((p2 - p1)).toNatClampNeg := List.length_replicate
  have k303 := fun (t : State) (kk : Steps p.tables e below (T302.setTop (mkF m 12 #[rv ra0, iv p1, iv p2, iv (p2 - p1), .unset] [(.ref b302)])) t) => k301 t (st302 _ kk)
  have k304 := fun (t : State) (kk : Steps p.tables e below (T302.setTop (mkF m 20 #[rv ra0, iv p1, iv p2, iv (p2 - p1), rv b302] [(.ref ra0), (.int 0), (.ref b302), (.int p1), (.ref ra0)])) t) => k303 t (by
    refine XS.astore X302.here hx rfl (hb hby d13_12) rfl rfl (l' := #[rv ra0, iv p1, iv p2, iv (p2 - p1), rv b302]) rfl ?_
    refine XS.aloadN X302.here hx rfl (hb hby d13_14) rfl rfl ?_
    refine XS.iloadN X302.here hx rfl (hb hby d13_15) rfl ?_
    refine XS.aload X302.here hx rfl (hb hby d13_16) rfl rfl ?_
    refine XS.iconst X302.here hx rfl (hb hby d13_18) ?_
    refine XS.aloadN X302.here hx rfl (hb hby d13_19) rfl rfl ?_
    exact kk)
  have f305 := (V_ra0.ext E302)
  have hV306 := f305
  obtain ⟨cl306, Ar306, q306, S306, Nn306, H306, G306⟩ := hV306
  have st307 := X302.arraylength hx (by rw [e302]; exact Ar306.1) (State.isArrayOf_alike hZ.alike Ar306.2.1) (g := (mkF m 20 #[rv ra0, iv p1, iv p2, iv (p2 - p1), rv b302] [(.ref ra0), (.int 0), (.ref b302), (.int p1), (.ref ra0)])) rfl rfl (hb hby d13_20)
  rw [len_of S306 Nn306] at st307
  have k308 := fun (t : State) (kk : Steps p.tables e below (T302.setTop (mkF m 21 #[rv ra0, iv p1, iv p2, iv (p2 - p1), rv b302] [(.int n_ra0), (.int 0), (.ref b302), (.int p1), (.ref ra0)])) t) => k304 t (st307 _ kk)
  have k309 := fun (t : State) (kk : Steps p.tables e below (T302.setTop (mkF m 24 #[rv ra0, iv p1, iv p2, iv (p2 - p1), rv b302] [(.int (p2 - p1)), (.int (n_ra0 - p1)), (.int 0), (.ref b302), (.int p1), (.ref ra0)])) t) => k308 t (by
    refine XS.iloadN X302.here hx rfl (hb hby d13_21) rfl ?_
    refine XS.isub X302.here hx rfl (hb hby d13_22) rfl ?_
    refine XS.iloadN X302.here hx rfl (hb hby d13_23) rfl ?_
    exact kk)
  have Zz310 : n0 ≤ h302.size := (Nat.le_trans Z0 K302.1)
  obtain ⟨_, _, ⟨T310, L310, k310, n310⟩, -, X310, ⟨Lc310, hQ310, l310, y310, z310⟩, st310⟩ := Jvm.LawKit.callS X302 hx (y := (⟨"java/lang/Math", "min", "(II)I"⟩ : MethodName)) hown (mvT hZ (hw _ (List.mem_of_getElem? (i := 62) rfl))) (mvT hZ (hw _ (List.mem_of_getElem? (i := 63) rfl))) (mvT hZ (hw _ (List.mem_of_getElem? (i := 64) rfl))) (mvT hZ (hw _ (List.mem_of_getElem? (i := 65) rfl))) (by decide) (backOf (W := 4) (rm15 l Z a0 hw [] (n_ra0 - p1) (p2 - p1) h302 n0 Zz310) hZ (hw _ (List.mem_of_getElem? (i := 65) rfl)) (hw _ (List.mem_of_getElem? (i := 64) rfl)) (by decide) (by decide)) (g := (mkF m 24 #[rv ra0, iv p1, iv p2, iv (p2 - p1), rv b302] [(.int (p2 - p1)), (.int (n_ra0 - p1)), (.int 0), (.ref b302), (.int p1), (.ref ra0)])) rfl (by rw [hml]; rfl) (argsL := [(.int (n_ra0 - p1)), (.int (p2 - p1))]) (rest := [(.int 0), (.ref b302), (.int p1), (.ref ra0)]) (lenOf pd_4 rfl) rfl (by show 2 * 0 + _ ≤ _; exact Nat.le_of_eq rfl) (hb hby d13_24) (fun _ _ => ⟨rfl, e302, (by decide : 1 + 0 ≤ _), (by decide : 8 + 0 ≤ _)⟩)
  dsimp only [Pt.U, Pt.locs, Pt.cells, Pt.slots] at X310 l310 y310 z310 st310 hQ310
  subst l310 y310 z310
  obtain ⟨rfl, N310q, e310⟩ := hQ310
  have N310 := Fr.app N299 N310q
  have k311 := fun (t : State) (kk : Steps p.tables e below (T310.setTop (mkF m 27 #[rv ra0, iv p1, iv p2, iv (p2 - p1), rv b302] [(.int (v15_2_s0 (n_ra0 - p1) (p2 - p1))), (.int 0), (.ref b302), (.int p1), (.ref ra0)])) t) => k309 t (st310 _ kk)
  rw [show (v15_2_s0 (n_ra0 - p1) (p2 - p1)) = (p2 - p1) from own_min hfrom hord hto] at k311
  obtain ⟨T312, h312, Lc312, X312, e312, N312, Kq312, Vc312, st312⟩ := cpA X310 hx hZ hown (hw _ (List.mem_of_getElem? (i := 66) rfl)) (hw _ (List.mem_of_getElem? (i := 69) rfl)) (hw _ (List.mem_of_getElem? (i := 67) rfl)) (hw _ (List.mem_of_getElem? (i := 68) rfl)) e310 (sp := p1) (dp := (0 : Int32)) (nn := (p2 - p1)) f305 V302 (Or.inl ⟨rfl, rfl⟩) hfrom (by decide) (own_nn hfrom hord) (own_cple hfrom hord hto) (by rw [show (0 : Int32).toNatClampNeg = 0 from rfl, Nat.zero_add]; exact Nat.le_refl _) rfl (by rw [show (0 : Int32).toNatClampNeg = 0 from rfl, Nat.zero_add, List.length_map, List.length_replicate]; exact Nat.le_refl _) N310 g_b302 (g := (mkF m 27 #[rv ra0, iv p1, iv p2, iv (p2 - p1), rv b302] [(.int (p2 - p1)), (.int 0), (.ref b302), (.int p1), (.ref ra0)])) rfl (by rw [hml]; rfl) rfl (hb hby d13_27) (by decide) (W := 0) (by show 2 * 0 + _ ≤ _; exact Nat.le_of_eq rfl) (by decide)
  have V312 : Arv Z h312 b302 k302 .byte (p2 - p1) (List.map Value.int (v13_27_L p1 p2 L_ra0)) (.int 0) := by rw [show (0 : Int32).toNatClampNeg = 0 from rfl] at Vc312; rw [own_cp_list] at Vc312; exact Vc312
  have VL312 : (v13_27_L p1 p2 L_ra0).length = ((p2 - p1)).toNatClampNeg := by unfold v13_27_L; rw [List.length_map, List.length_range]
  have K312 : Keep h0 h312 [] := K302.trans Kq312 (allS (Or.inr sz_b302) all0)
  have k313 := fun (t : State) (kk : Steps p.tables e below (T312.setTop (mkF m 30 #[rv ra0, iv p1, iv p2, iv (p2 - p1), rv b302] [])) t) => k311 t (st312 _ kk)
  have k314 := fun (t : State) (kk : Steps p.tables e below (T312.setTop (mkF m 32 #[rv ra0, iv p1, iv p2, iv (p2 - p1), rv b302] [(.ref b302)])) t) => k313 t (by
    refine XS.aload X312.here hx rfl (hb hby d13_30) rfl rfl ?_
    exact kk)
  obtain ⟨fs, hr, hrun, hended, hW, hsame⟩ := X312.leave (v := some (.ref b302)) (fun h => by rw [Bd.returns] at h; cases h) hlk
  refine ⟨_, _, k314 _ ?_, hrun, hended, _, _, rfl, ?_, ⟨_, rfl⟩, hW, hsame.mono (by decide) (by decide)⟩
  · show Steps p.tables e below (T312.setTop (mkF m 32 #[rv ra0, iv p1, iv p2, iv (p2 - p1), rv b302] [(.ref b302)])) _
    exact retOut X312 hx (t := (.array .byte)) Bd.returns rfl (Or.inr (Or.inr (Or.inr (Or.inr ⟨rfl, rfl, rfl⟩)))) (hb hby d13_32) hr
  · show Q13 Z ra0 p1 p2 k_ra0 n_ra0 L_ra0 h0 n0 _ T312.heap _
    rw [e312]
    exact ⟨b302, k302, rfl, N312, K312, sz_b302, V312, VL312⟩
theorem pd_5 : parseMethodDescriptor "([BII)[B" = some ⟨[(.array .byte), .int, .int], some (.array .byte)⟩ := by decide +kernel
theorem d12_0 : decode jdk_65_method_132_code 0 = .ok (.iload_n 1, 1) := by decide +kernel
theorem d12_1 : decode jdk_65_method_132_code 1 = .ok (.ifCond .ne 9, 3) := by decide +kernel
theorem d12_10 : decode jdk_65_method_132_code 10 = .ok (.aload_n 0, 1) := by decide +kernel
theorem d12_11 : decode jdk_65_method_132_code 11 = .ok (.iload_n 1, 1) := by decide +kernel
theorem d12_12 : decode jdk_65_method_132_code 12 = .ok (.iload_n 2, 1) := by decide +kernel
theorem d12_13 : decode jdk_65_method_132_code 13 = .ok (.invokestatic 339, 3) := by decide +kernel
theorem d12_16 : decode jdk_65_method_132_code 16 = .ok (.areturn, 1) := by decide +kernel
theorem ef_rm12 (m : MethodId) (ra0 : Addr) (p1 : Int32) (p2 : Int32) : entryFrame m #[(.ref ra0), (.int p1), (.int p2)] 3 = mkF m 0 #[rv ra0, iv p1, iv p2] [] := by first | (simp [entryFrame, mkF, argsToLocals, Value.category]; done) | rfl
def Q12 (Z : State) (ra0 : Addr) (p1 : Int32) (p2 : Int32) (k_ra0 : ClassId) (n_ra0 : Int32) (L_ra0 : List Int32) (h0 : Heap) (n0 : Nat) (v : Option Value) (h : Heap) (L : List Loc) : Prop := (∃ (xb : Addr) (k_xb : ClassId), v = some (.ref xb) ∧ Fr n0 L ∧ Keep h0 h [] ∧ h0.size ≤ xb ∧ Arv Z h xb k_xb .byte (p2 - p1) (List.map Value.int (v13_27_L p1 p2 L_ra0)) (.int 0) ∧ (v13_27_L p1 p2 L_ra0).length = ((p2 - p1)).toNatClampNeg)
set_option maxRecDepth 65536 in
set_option maxHeartbeats 40000000 in
theorem rm12 (l : Launch) (Z : State) (a0 : Array Value) (hw : ∀ d ∈ tables_1, d.before a0 Z = true) (ws : List Jvm.Cond) (ra0 : Addr) (p1 : Int32) (p2 : Int32) (k_ra0 : ClassId) (n_ra0 : Int32) (L_ra0 : List Int32) (h0 : Heap) (n0 : Nat) (Z0 : n0 ≤ h0.size) (hfrom : ¬ p1 < 0) (hord : ¬ p2 < p1) (hto : ¬ n_ra0 < p2) (hcap : (p2 - p1).toNatClampNeg ≤ 8) (hne : ¬ p1 = (0 : Int32)) (V_ra0 : Arv Z h0 ra0 k_ra0 .byte n_ra0 (List.map Value.int L_ra0) (.int 0)) (VL_ra0 : L_ra0.length = n_ra0.toNatClampNeg) :
    MetFree l (⟨"java/util/Arrays", "copyOfRange", "([BII)[B"⟩ : MethodName) (head1 (Jvm.Cond.code (⟨"java/util/Arrays", "copyOfRange", "([BII)[B"⟩ : MethodName) jdk_65_method_132_code 3 (some (.array .byte)) :: ws) ({ frames := 2, cells := 1, slots := 8, locals := 56 } : Room)) (fun a U => a = #[(.ref ra0), (.int p1), (.int p2)] ∧ Z.Warmed39 U.vm ∧ U.heap = h0) (fun _ _ _ _ _ => True) (fun _ U o U' => ∃ v L, o = .returned v ∧ Q12 Z ra0 p1 p2 k_ra0 n_ra0 L_ra0 h0 n0 v U'.heap L ∧ FrameEnd U o U' L ({ frames := 2, cells := 1, slots := 8, locals := 56 } : Room).cells ({ frames := 2, cells := 1, slots := 8, locals := 56 } : Room).slots) := by
  refine MetFree.of_bodySF (plainFor_of_name pn_302) hisR ?_
  intro p e s m args below meth c s₁ Bd hml0 hP hK
  obtain ⟨rfl, hZ, hh⟩ := hP
  have hx := Bd.exec
  have hlk : meth.locks = false := by first | exact BodyLoose.notSynchronized Bd | exact Body.notSynchronized Bd
  have hby := Bd.bytes
  have hml : c.maxLocals = 3 := hml0
  have hown : s.vm.findClass "java/util/Arrays" = some m.cls := findClass_of_methodNamed Bd.named
  have hnm := (name_of_methodNamed Bd.named Bd.method).1
  have X0 : Stand p l e ({ frames := 2, cells := 1, slots := 8, locals := 56 } : Room) s m #[(.ref ra0), (.int p1), (.int p2)] below meth c s₁ [] 0 0 := Stand.of_body Bd
  have e0 : s₁.heap = h0 := by rw [← hh, Bd.state]; rfl
  have N0 := Fr.nil n0
  have KC0 := Keep.refl h0 ([] : List Addr)
  have pre0 : ∀ t, Steps p.tables e below (s₁.setTop (mkF m 0 #[rv ra0, iv p1, iv p2] [])) t → Steps p.tables e below (s₁.setTop (entryFrame m #[(.ref ra0), (.int p1), (.int p2)] 3)) t := fun t k => castTop (ef_rm12 m ra0 p1 p2) k
  have k315 := fun (t : State) (kk : Steps p.tables e below (s₁.setTop (mkF m 1 #[rv ra0, iv p1, iv p2] [(.int p1)])) t) => pre0 t (by
    refine XS.iloadN X0.here hx rfl (hb hby d12_0) rfl ?_
    exact kk)
  have hc1_316 : ¬ (p1 = (0 : Int32)) := hne
  have k317 := fun (t : State) (kk : Steps p.tables e below (s₁.setTop (mkF m 13 #[rv ra0, iv p1, iv p2] [(.int p2), (.int p1), (.ref ra0)])) t) => k315 t (by
    refine XS.ifYes X0.here hx rfl (pc0 := 1) (pc' := 10) rfl (hb hby d12_1) rfl ((if0 _ _).trans (feq hc1_316).2) (by decide) (by decide) ?_
    refine XS.aloadN X0.here hx rfl (hb hby d12_10) rfl rfl ?_
    refine XS.iloadN X0.here hx rfl (hb hby d12_11) rfl ?_
    refine XS.iloadN X0.here hx rfl (hb hby d12_12) rfl ?_
    exact kk)
  have Zz318 : n0 ≤ h0.size := (Nat.le_trans Z0 KC0.1)
  obtain ⟨_, _, ⟨T318, L318, k318, n318⟩, -, X318, ⟨Lc318, hQ318, l318, y318, z318⟩, st318⟩ := Jvm.LawKit.callS X0 hx (y := (⟨"java/util/Arrays", "copyOfRangeByte", "([BII)[B"⟩ : MethodName)) hown (mvT hZ (hw _ (List.mem_of_getElem? (i := 56) rfl))) (mvT hZ (hw _ (List.mem_of_getElem? (i := 57) rfl))) (mvT hZ (hw _ (List.mem_of_getElem? (i := 54) rfl))) (mvT hZ (hw _ (List.mem_of_getElem? (i := 58) rfl))) (by decide) (backOf (W := 0) (rm13 l Z a0 hw [] ra0 p1 p2 k_ra0 n_ra0 L_ra0 h0 n0 Zz318 (hfrom : ¬ p1 < 0) (hord : ¬ p2 < p1) (hto : ¬ n_ra0 < p2) (hcap : (p2 - p1).toNatClampNeg ≤ 8) V_ra0 VL_ra0) hZ (hw _ (List.mem_of_getElem? (i := 58) rfl)) (hw _ (List.mem_of_getElem? (i := 54) rfl)) (by decide) (by decide)) (g := (mkF m 13 #[rv ra0, iv p1, iv p2] [(.int p2), (.int p1), (.ref ra0)])) rfl (by rw [hml]; rfl) (argsL := [(.ref ra0), (.int p1), (.int p2)]) (rest := []) (lenOf pd_5 rfl) rfl (by show 2 * 0 + _ ≤ _; exact Nat.le_of_eq rfl) (hb hby d12_13) (fun _ _ => ⟨rfl, e0, (by decide : 0 + 1 ≤ _), (by decide : 0 + 8 ≤ _)⟩)
  dsimp only [Pt.U, Pt.locs, Pt.cells, Pt.slots] at X318 l318 y318 z318 st318 hQ318
  subst l318 y318 z318
  obtain ⟨xa_318, k_xa_318, rfl, N318q, Kq318, sx_xa_318, Vx_xa_318, VLx_xa_318⟩ := hQ318
  have ne_ra0_xa_318 : ra0 ≠ xa_318 := Nat.ne_of_lt (Nat.lt_of_lt_of_le V_ra0.lt sx_xa_318)
  have sz_xa_318 : h0.size ≤ xa_318 := Nat.le_trans KC0.1 sx_xa_318
  have g_xa_318 : n0 ≤ xa_318 := Nat.le_trans Z0 sz_xa_318
  have K318 : Keep h0 T318.heap [] := KC0.trans Kq318 all0
  have N318 := Fr.app N0 N318q
  have k319 := fun (t : State) (kk : Steps p.tables e below (T318.setTop (mkF m 16 #[rv ra0, iv p1, iv p2] [(.ref xa_318)])) t) => k317 t (st318 _ kk)
  obtain ⟨fs, hr, hrun, hended, hW, hsame⟩ := X318.leave (v := some (.ref xa_318)) (fun h => by rw [Bd.returns] at h; cases h) hlk
  refine ⟨_, _, k319 _ ?_, hrun, hended, _, _, rfl, ?_, ⟨_, rfl⟩, hW, hsame.mono (by decide) (by decide)⟩
  · show Steps p.tables e below (T318.setTop (mkF m 16 #[rv ra0, iv p1, iv p2] [(.ref xa_318)])) _
    exact retOut X318 hx (t := (.array .byte)) Bd.returns rfl (Or.inr (Or.inr (Or.inr (Or.inr ⟨rfl, rfl, rfl⟩)))) (hb hby d12_16) hr
  · show Q12 Z ra0 p1 p2 k_ra0 n_ra0 L_ra0 h0 n0 _ T318.heap _
    exact ⟨xa_318, k_xa_318, rfl, N318, K318, sz_xa_318, Vx_xa_318, VLx_xa_318⟩
theorem d4_0 : decode prog_45_method_1_code 0 = .ok (.aload_n 0, 1) := by decide +kernel
theorem d4_1 : decode prog_45_method_1_code 1 = .ok (.invokespecial 3, 3) := by decide +kernel
theorem d4_4 : decode prog_45_method_1_code 4 = .ok (.aload_n 0, 1) := by decide +kernel
theorem d4_5 : decode prog_45_method_1_code 5 = .ok (.sipush 2048, 3) := by decide +kernel
theorem d4_8 : decode prog_45_method_1_code 8 = .ok (.newarray .byte, 2) := by decide +kernel
theorem d4_10 : decode prog_45_method_1_code 10 = .ok (.putfield 9, 3) := by decide +kernel
theorem d4_13 : decode prog_45_method_1_code 13 = .ok (.aload_n 0, 1) := by decide +kernel
theorem d4_14 : decode prog_45_method_1_code 14 = .ok (.iconst 1, 1) := by decide +kernel
theorem d4_15 : decode prog_45_method_1_code 15 = .ok (.putfield 15, 3) := by decide +kernel
theorem d4_18 : decode prog_45_method_1_code 18 = .ok (.return_, 1) := by decide +kernel
theorem pn_350 : plainName cSe = true := by first | (simp [plainName, overriddenIn]; done) | decide +kernel
theorem ef_rm4 (m : MethodId) (ra0 : Addr) : entryFrame m #[(.ref ra0)] 1 = mkF m 0 #[rv ra0] [] := by first | (simp [entryFrame, mkF, argsToLocals, Value.category]; done) | rfl
def Q4 (Z : State) (ra0 : Addr) (u_line_ra0 : Value) (w_boundaryLine_ra0 : Int32) (w_failed_ra0 : Int32) (w_position_ra0 : Int32) (w_lineLength_ra0 : Int32) (h0 : Heap) (n0 : Nat) (v : Option Value) (h : Heap) (L : List Loc) : Prop := (∃ (xl : Addr) (k_xl : ClassId), v = none ∧ Fr n0 L ∧ Keep h0 h [ra0] ∧ Exa Z h ra0 cSe ∧ Fld Z h ra0 cSe "line" "[B" (.ref xl) ∧ Fld Z h ra0 cSe "boundaryLine" "Z" (.int 1) ∧ Fld Z h ra0 cSe "failed" "Z" (.int w_failed_ra0) ∧ Fld Z h ra0 cSe "position" "I" (.int w_position_ra0) ∧ Fld Z h ra0 cSe "lineLength" "I" (.int w_lineLength_ra0) ∧ h0.size ≤ xl ∧ Arv Z h xl k_xl .byte (2048 : Int32) (List.map Value.int (List.replicate ((2048 : Int32)).toNatClampNeg (0 : Int32))) (.int 0) ∧ (List.replicate ((2048 : Int32)).toNatClampNeg (0 : Int32)).length = ((2048 : Int32)).toNatClampNeg)
set_option maxRecDepth 65536 in
set_option maxHeartbeats 40000000 in
theorem rm4 (l : Launch) (Z : State) (a0 : Array Value) (hw : ∀ d ∈ tables_1, d.before a0 Z = true) (ws : List Jvm.Cond) (ra0 : Addr) (u_line_ra0 : Value) (w_boundaryLine_ra0 : Int32) (w_failed_ra0 : Int32) (w_position_ra0 : Int32) (w_lineLength_ra0 : Int32) (h0 : Heap) (n0 : Nat) (Z0 : n0 ≤ h0.size) (E_ra0 : Exa Z h0 ra0 cSe) (F_line_ra0 : Fld Z h0 ra0 cSe "line" "[B" u_line_ra0) (g_ra0 : n0 ≤ ra0) (F_boundaryLine_ra0 : Fld Z h0 ra0 cSe "boundaryLine" "Z" (.int w_boundaryLine_ra0)) (F_failed_ra0 : Fld Z h0 ra0 cSe "failed" "Z" (.int w_failed_ra0)) (F_position_ra0 : Fld Z h0 ra0 cSe "position" "I" (.int w_position_ra0)) (F_lineLength_ra0 : Fld Z h0 ra0 cSe "lineLength" "I" (.int w_lineLength_ra0)) :
    MetFree l (⟨cSe, "<init>", "()V"⟩ : MethodName) (head1 (Jvm.Cond.code (⟨cSe, "<init>", "()V"⟩ : MethodName) prog_45_method_1_code 1 none :: ws) ({ frames := 1, cells := 1, slots := 2048, locals := 12 } : Room)) (fun a U => a = #[(.ref ra0)] ∧ Z.Warmed39 U.vm ∧ U.heap = h0) (fun _ _ _ _ _ => True) (fun _ U o U' => ∃ v L, o = .returned v ∧ Q4 Z ra0 u_line_ra0 w_boundaryLine_ra0 w_failed_ra0 w_position_ra0 w_lineLength_ra0 h0 n0 v U'.heap L ∧ FrameEnd U o U' L ({ frames := 1, cells := 1, slots := 2048, locals := 12 } : Room).cells ({ frames := 1, cells := 1, slots := 2048, locals := 12 } : Room).slots) := by
  refine MetFree.of_bodySF (plainFor_of_name pn_350) hisR ?_
  intro p e s m args below meth c s₁ Bd hml0 hP hK
  obtain ⟨rfl, hZ, hh⟩ := hP
  have hx := Bd.exec
  have hlk : meth.locks = false := by first | exact BodyLoose.notSynchronized Bd | exact Body.notSynchronized Bd
  have hby := Bd.bytes
  have hml : c.maxLocals = 1 := hml0
  have hown : s.vm.findClass cSe = some m.cls := findClass_of_methodNamed Bd.named
  have hnm := (name_of_methodNamed Bd.named Bd.method).1
  have X0 : Stand p l e ({ frames := 1, cells := 1, slots := 2048, locals := 12 } : Room) s m #[(.ref ra0)] below meth c s₁ [] 0 0 := Stand.of_body Bd
  have e0 : s₁.heap = h0 := by rw [← hh, Bd.state]; rfl
  have N0 := Fr.nil n0
  have KC0 := Keep.refl h0 [ra0]
  have pre0 : ∀ t, Steps p.tables e below (s₁.setTop (mkF m 0 #[rv ra0] [])) t → Steps p.tables e below (s₁.setTop (entryFrame m #[(.ref ra0)] 1)) t := fun t k => castTop (ef_rm4 m ra0) k
  have k320 := fun (t : State) (kk : Steps p.tables e below (s₁.setTop (mkF m 1 #[rv ra0] [(.ref ra0)])) t) => pre0 t (by
    refine XS.aloadN X0.here hx rfl (hb hby d4_0) rfl rfl ?_
    exact kk)
  obtain ⟨T321, X321, e321, st321⟩ := initO X0 hx hZ hown (hw _ (List.mem_of_getElem? (i := 17) rfl)) (hw _ (List.mem_of_getElem? (i := 18) rfl)) (hw _ (List.mem_of_getElem? (i := 19) rfl)) e0 (g := (mkF m 1 #[rv ra0] [(.ref ra0)])) rfl (by rw [hml]; rfl) rfl (hb hby d4_1) (by decide) (W := 0) (by show 2 * 0 + _ ≤ _; exact Nat.le_of_eq rfl) (by decide)
  have k322 := fun (t : State) (kk : Steps p.tables e below (T321.setTop (mkF m 4 #[rv ra0] [])) t) => k320 t (st321 _ kk)
  have k323 := fun (t : State) (kk : Steps p.tables e below (T321.setTop (mkF m 8 #[rv ra0] [(.int 2048), (.ref ra0)])) t) => k322 t (by
    refine XS.aloadN X321.here hx rfl (hb hby d4_4) rfl rfl ?_
    refine XS.sipush X321.here hx rfl (hb hby d4_5) ?_
    exact kk)
  obtain ⟨T324, h324, k324, X324, e324, E324, A324, st324⟩ := newP X321 hx hZ (hw _ (List.mem_of_getElem? (i := 0) rfl)) e321 (g := (mkF m 8 #[rv ra0] [(.int 2048), (.ref ra0)])) rfl (hb hby d4_8) rfl (by decide) (cap := 2048) (by decide) (by decide) (by decide) (by decide)
  obtain ⟨b324, g324⟩ : ∃ z, z = h0.size := ⟨_, rfl⟩
  rw [← g324] at A324 st324
  have ne_ra0_b324 : ra0 ≠ b324 := Nat.ne_of_lt (Nat.lt_of_lt_of_le E_ra0.lt (Nat.le_of_eq g324.symm))
  have g_b324 : n0 ≤ b324 := Nat.le_trans (Nat.le_trans Z0 KC0.1) (Nat.le_of_eq g324.symm)
  have sz_b324 : h0.size ≤ b324 := Nat.le_trans KC0.1 (Nat.le_of_eq g324.symm)
  have K324 : Keep h0 h324 [ra0] := KC0.ext E324
  have V324 : Arv Z h324 b324 k324 .byte (2048 : Int32) (List.map Value.int (List.replicate ((2048 : Int32)).toNatClampNeg (0 : Int32))) (.int 0) := by rw [List.map_replicate]; exact own_pad (Arv.new A324 (by decide)) _
  have VL324 : (List.replicate ((2048 : Int32)).toNatClampNeg (0 : Int32)).length = ((2048 : Int32)).toNatClampNeg := List.length_replicate
  have k325 := fun (t : State) (kk : Steps p.tables e below (T324.setTop (mkF m 10 #[rv ra0] [(.ref b324), (.ref ra0)])) t) => k323 t (st324 _ kk)
  have f326 := (E_ra0.ext E324)
  have f327 := (F_line_ra0.ext E324)
  obtain ⟨T328, h328, X328, e328, W328, st328⟩ := putF X324 hx hZ hown (host := "") (Or.inl (hw _ (List.mem_of_getElem? (i := 20) rfl))) Via.refl e324 f327 f326 (Or.inr ⟨(hw _ (List.mem_of_getElem? (i := 21) rfl)), rfl, hnm⟩) (hw _ (List.mem_of_getElem? (i := 12) rfl)) (ty := (.array .byte)) (by decide) rfl rfl (g := (mkF m 10 #[rv ra0] [(.ref b324), (.ref ra0)])) rfl rfl (hb hby d4_10)
  have Fw328 := f327.same W328
  have K328 : Keep h0 h328 [ra0] := K324.wr W328 (Or.inl (List.mem_of_getElem? (i := 0) rfl))
  have N328 := Fr.snoc X328 N0 g_ra0
  have k329 := fun (t : State) (kk : Steps p.tables e below (T328.setTop (mkF m 13 #[rv ra0] [])) t) => k325 t (st328 _ kk)
  have k330 := fun (t : State) (kk : Steps p.tables e below (T328.setTop (mkF m 15 #[rv ra0] [(.int 1), (.ref ra0)])) t) => k329 t (by
    refine XS.aloadN X328.here hx rfl (hb hby d4_13) rfl rfl ?_
    refine XS.iconst X328.here hx rfl (hb hby d4_14) ?_
    exact kk)
  have f331 := (f326.wr W328)
  have f332 := ((F_boundaryLine_ra0.ext E324).other W328 (Or.inr (slot_ne (Or.inl (hw _ (List.mem_of_getElem? (i := 23) rfl))) (Or.inr (hw _ (List.mem_of_getElem? (i := 21) rfl))) (by decide) (t := .boolean) (t' := (.array .byte)) (by decide) (by decide))))
  obtain ⟨T333, h333, X333, e333, W333, st333⟩ := putFN X328 hx hZ hown (hw _ (List.mem_of_getElem? (i := 22) rfl)) Via.refl e328 f332 f331 (Or.inl (hw _ (List.mem_of_getElem? (i := 23) rfl))) (hw _ (List.mem_of_getElem? (i := 12) rfl)) (ty := .boolean) (v' := (.int 1)) (by decide) rfl rfl (g := (mkF m 15 #[rv ra0] [(.int 1), (.ref ra0)])) rfl rfl (hb hby d4_15)
  have Fw333 := f332.same W333
  have K333 : Keep h0 h333 [ra0] := K328.wr W333 (Or.inl (List.mem_of_getElem? (i := 0) rfl))
  have N333 := Fr.snoc X333 N328 g_ra0
  have k334 := fun (t : State) (kk : Steps p.tables e below (T333.setTop (mkF m 18 #[rv ra0] [])) t) => k330 t (st333 _ kk)
  obtain ⟨fs, hr, hrun, hended, hW, hsame⟩ := X333.leave (v := none) (fun _ => rfl) hlk
  have f335 := (f331.wr W333)
  have f336 := (Fw328.other W333 (Or.inr (slot_ne (Or.inr (hw _ (List.mem_of_getElem? (i := 21) rfl))) (Or.inl (hw _ (List.mem_of_getElem? (i := 23) rfl))) (by decide) (t := (.array .byte)) (t' := .boolean) (by decide) (by decide))))
  have f337 := (((F_failed_ra0.ext E324).other W328 (Or.inr (slot_ne (Or.inl (hw _ (List.mem_of_getElem? (i := 30) rfl))) (Or.inr (hw _ (List.mem_of_getElem? (i := 21) rfl))) (by decide) (t := .boolean) (t' := (.array .byte)) (by decide) (by decide)))).other W333 (Or.inr (slot_ne (Or.inl (hw _ (List.mem_of_getElem? (i := 30) rfl))) (Or.inl (hw _ (List.mem_of_getElem? (i := 23) rfl))) (by decide) (t := .boolean) (t' := .boolean) (by decide) (by decide))))
  have f338 := (((F_position_ra0.ext E324).other W328 (Or.inr (slot_ne (Or.inl (hw _ (List.mem_of_getElem? (i := 32) rfl))) (Or.inr (hw _ (List.mem_of_getElem? (i := 21) rfl))) (by decide) (t := .int) (t' := (.array .byte)) (by decide) (by decide)))).other W333 (Or.inr (slot_ne (Or.inl (hw _ (List.mem_of_getElem? (i := 32) rfl))) (Or.inl (hw _ (List.mem_of_getElem? (i := 23) rfl))) (by decide) (t := .int) (t' := .boolean) (by decide) (by decide))))
  have f339 := (((F_lineLength_ra0.ext E324).other W328 (Or.inr (slot_ne (Or.inl (hw _ (List.mem_of_getElem? (i := 34) rfl))) (Or.inr (hw _ (List.mem_of_getElem? (i := 21) rfl))) (by decide) (t := .int) (t' := (.array .byte)) (by decide) (by decide)))).other W333 (Or.inr (slot_ne (Or.inl (hw _ (List.mem_of_getElem? (i := 34) rfl))) (Or.inl (hw _ (List.mem_of_getElem? (i := 23) rfl))) (by decide) (t := .int) (t' := .boolean) (by decide) (by decide))))
  have f340 := ((V324.other W328 (Ne.symm ne_ra0_b324)).other W333 (Ne.symm ne_ra0_b324))
  refine ⟨_, _, k334 _ ?_, hrun, hended, _, _, rfl, ?_, ⟨_, rfl⟩, hW, hsame.mono (by decide) (by decide)⟩
  · show Steps p.tables e below (T333.setTop (mkF m 18 #[rv ra0] [])) _
    exact X333.returnOut hx Bd.returns (hb hby d4_18) hr
  · show Q4 Z ra0 u_line_ra0 w_boundaryLine_ra0 w_failed_ra0 w_position_ra0 w_lineLength_ra0 h0 n0 _ T333.heap _
    rw [e333]
    exact ⟨b324, k324, rfl, N333, K333, f335, f336, Fw333, f337, f338, f339, sz_b324, f340, VL324⟩
theorem d8_0 : decode prog_45_method_3_code 0 = .ok (.aload_n 0, 1) := by decide +kernel
theorem d8_1 : decode prog_45_method_3_code 1 = .ok (.getfield 19, 3) := by decide +kernel
theorem d8_4 : decode prog_45_method_3_code 4 = .ok (.ireturn, 1) := by decide +kernel
theorem ef_rm8 (m : MethodId) (ra0 : Addr) : entryFrame m #[(.ref ra0)] 1 = mkF m 0 #[rv ra0] [] := by first | (simp [entryFrame, mkF, argsToLocals, Value.category]; done) | rfl
def Q8 (Z : State) (ra0 : Addr) (w_failed_ra0 : Int32) (h0 : Heap) (n0 : Nat) (v : Option Value) (h : Heap) (L : List Loc) : Prop := (v = some (.int (nar .boolean w_failed_ra0)) ∧ Fr n0 L ∧ h = h0)
set_option maxRecDepth 65536 in
set_option maxHeartbeats 40000000 in
theorem rm8 (l : Launch) (Z : State) (a0 : Array Value) (hw : ∀ d ∈ tables_1, d.before a0 Z = true) (ws : List Jvm.Cond) (ra0 : Addr) (w_failed_ra0 : Int32) (h0 : Heap) (n0 : Nat) (Z0 : n0 ≤ h0.size) (F_failed_ra0 : Fld Z h0 ra0 cSe "failed" "Z" (.int w_failed_ra0)) :
    MetFree l (⟨cSe, "failed", "()Z"⟩ : MethodName) (head1 (Jvm.Cond.code (⟨cSe, "failed", "()Z"⟩ : MethodName) prog_45_method_3_code 1 (some .boolean) :: ws) ({ frames := 0, cells := 0, slots := 0, locals := 0 } : Room)) (fun a U => a = #[(.ref ra0)] ∧ Z.Warmed39 U.vm ∧ U.heap = h0) (fun _ _ _ _ _ => True) (fun _ U o U' => ∃ v L, o = .returned v ∧ Q8 Z ra0 w_failed_ra0 h0 n0 v U'.heap L ∧ FrameEnd U o U' L ({ frames := 0, cells := 0, slots := 0, locals := 0 } : Room).cells ({ frames := 0, cells := 0, slots := 0, locals := 0 } : Room).slots) := by
  refine MetFree.of_bodySF (plainFor_of_name pn_350) hisR ?_
  intro p e s m args below meth c s₁ Bd hml0 hP hK
  obtain ⟨rfl, hZ, hh⟩ := hP
  have hx := Bd.exec
  have hlk : meth.locks = false := by first | exact BodyLoose.notSynchronized Bd | exact Body.notSynchronized Bd
  have hby := Bd.bytes
  have hml : c.maxLocals = 1 := hml0
  have hown : s.vm.findClass cSe = some m.cls := findClass_of_methodNamed Bd.named
  have hnm := (name_of_methodNamed Bd.named Bd.method).1
  have X0 : Stand p l e ({ frames := 0, cells := 0, slots := 0, locals := 0 } : Room) s m #[(.ref ra0)] below meth c s₁ [] 0 0 := Stand.of_body Bd
  have e0 : s₁.heap = h0 := by rw [← hh, Bd.state]; rfl
  have N0 := Fr.nil n0
  have KC0 := Keep.refl h0 ([] : List Addr)
  have pre0 : ∀ t, Steps p.tables e below (s₁.setTop (mkF m 0 #[rv ra0] [])) t → Steps p.tables e below (s₁.setTop (entryFrame m #[(.ref ra0)] 1)) t := fun t k => castTop (ef_rm8 m ra0) k
  have k341 := fun (t : State) (kk : Steps p.tables e below (s₁.setTop (mkF m 1 #[rv ra0] [(.ref ra0)])) t) => pre0 t (by
    refine XS.aloadN X0.here hx rfl (hb hby d8_0) rfl rfl ?_
    exact kk)
  obtain ⟨T342, X342, e342, st342⟩ := getF X0 hx hZ hown (host := "") (Or.inl (hw _ (List.mem_of_getElem? (i := 29) rfl))) Via.refl e0 F_failed_ra0 (g := (mkF m 1 #[rv ra0] [(.ref ra0)])) rfl rfl (hb hby d8_1)
  have k343 := fun (t : State) (kk : Steps p.tables e below (T342.setTop (mkF m 4 #[rv ra0] [(.int w_failed_ra0)])) t) => k341 t (st342 _ kk)
  obtain ⟨fs, hr, hrun, hended, hW, hsame⟩ := X342.leave (v := some (.int (nar .boolean w_failed_ra0))) (fun h => by rw [Bd.returns] at h; cases h) hlk
  refine ⟨_, _, k343 _ ?_, hrun, hended, _, _, rfl, ?_, ⟨_, rfl⟩, hW, hsame.mono (by decide) (by decide)⟩
  · show Steps p.tables e below (T342.setTop (mkF m 4 #[rv ra0] [(.int w_failed_ra0)])) _
    exact retN X342 hx (t := .boolean) Bd.returns (by simp) (hb hby d8_4) hr
  · show Q8 Z ra0 w_failed_ra0 h0 n0 _ T342.heap _
    rw [e342]
    exact ⟨rfl, N0, rfl⟩
theorem own_ll1 {w : Int32} (h : ¬ w < 0 ∧ w < (9 : Int32)) : ¬ (2048 : Int32) < w := by
  rw [Int32.lt_iff_toInt_lt, Int32.lt_iff_toInt_lt] at h; rw [Int32.lt_iff_toInt_lt]
  have z0 : (0 : Int32).toInt = 0 := rfl
  have z9 : (9 : Int32).toInt = 9 := rfl
  have z2 : (2048 : Int32).toInt = 2048 := rfl
  omega
theorem own_ll2 {w : Int32} (h : ¬ w < 0 ∧ w < (9 : Int32)) (q : ¬ w < (2 : Int32)) : (w - (2 : Int32)).toNatClampNeg ≤ 8 := by
  rw [Int32.lt_iff_toInt_lt, Int32.lt_iff_toInt_lt] at h; rw [Int32.lt_iff_toInt_lt] at q
  have z0 : (0 : Int32).toInt = 0 := rfl
  have z9 : (9 : Int32).toInt = 9 := rfl
  have z2 : (2 : Int32).toInt = 2 := rfl
  have a := c_isub w 2; have r := rng32 (w - 2)
  simp only [Int32.toNatClampNeg]; omega
theorem own_ll3 {w : Int32} (h : ¬ w < 0 ∧ w < (9 : Int32)) : ¬ w < 0 ∧ w < (2048 : Int32) := by
  rw [Int32.lt_iff_toInt_lt, Int32.lt_iff_toInt_lt] at h; rw [Int32.lt_iff_toInt_lt, Int32.lt_iff_toInt_lt]
  have z9 : (9 : Int32).toInt = 9 := rfl
  have z2 : (2048 : Int32).toInt = 2048 := rfl
  omega
theorem d6_0 : decode prog_45_method_2_code 0 = .ok (.aload_n 0, 1) := by decide +kernel
theorem d6_1 : decode prog_45_method_2_code 1 = .ok (.getfield 19, 3) := by decide +kernel
theorem d6_4 : decode prog_45_method_2_code 4 = .ok (.ifCond .eq 5, 3) := by decide +kernel
theorem d6_7 : decode prog_45_method_2_code 7 = .ok (.aconst_null, 1) := by decide +kernel
theorem d6_8 : decode prog_45_method_2_code 8 = .ok (.areturn, 1) := by decide +kernel
theorem d6_9 : decode prog_45_method_2_code 9 = .ok (.aconst_null, 1) := by decide +kernel
theorem d6_10 : decode prog_45_method_2_code 10 = .ok (.astore_n 2, 1) := by decide +kernel
theorem d6_11 : decode prog_45_method_2_code 11 = .ok (.iload_n 1, 1) := by decide +kernel
theorem d6_12 : decode prog_45_method_2_code 12 = .ok (.bipush 13, 2) := by decide +kernel
theorem d6_14 : decode prog_45_method_2_code 14 = .ok (.if_icmp .eq 9, 3) := by decide +kernel
theorem d6_17 : decode prog_45_method_2_code 17 = .ok (.iload_n 1, 1) := by decide +kernel
theorem d6_18 : decode prog_45_method_2_code 18 = .ok (.bipush 10, 2) := by decide +kernel
theorem d6_20 : decode prog_45_method_2_code 20 = .ok (.if_icmp .ne 7, 3) := by decide +kernel
theorem d6_23 : decode prog_45_method_2_code 23 = .ok (.iconst 1, 1) := by decide +kernel
theorem d6_24 : decode prog_45_method_2_code 24 = .ok (.goto 4, 3) := by decide +kernel
theorem d6_27 : decode prog_45_method_2_code 27 = .ok (.iconst 0, 1) := by decide +kernel
theorem d6_28 : decode prog_45_method_2_code 28 = .ok (.istore_n 3, 1) := by decide +kernel
theorem d6_29 : decode prog_45_method_2_code 29 = .ok (.iload_n 3, 1) := by decide +kernel
theorem d6_30 : decode prog_45_method_2_code 30 = .ok (.ifCond .eq 34, 3) := by decide +kernel
theorem d6_33 : decode prog_45_method_2_code 33 = .ok (.aload_n 0, 1) := by decide +kernel
theorem d6_34 : decode prog_45_method_2_code 34 = .ok (.getfield 15, 3) := by decide +kernel
theorem d6_37 : decode prog_45_method_2_code 37 = .ok (.ifCond .eq 27, 3) := by decide +kernel
theorem d6_40 : decode prog_45_method_2_code 40 = .ok (.aload_n 0, 1) := by decide +kernel
theorem d6_41 : decode prog_45_method_2_code 41 = .ok (.getfield 22, 3) := by decide +kernel
theorem d6_44 : decode prog_45_method_2_code 44 = .ok (.iconst 2, 1) := by decide +kernel
theorem d6_45 : decode prog_45_method_2_code 45 = .ok (.if_icmp .lt 19, 3) := by decide +kernel
theorem d6_48 : decode prog_45_method_2_code 48 = .ok (.aload_n 0, 1) := by decide +kernel
theorem d6_49 : decode prog_45_method_2_code 49 = .ok (.getfield 9, 3) := by decide +kernel
theorem d6_52 : decode prog_45_method_2_code 52 = .ok (.iconst 2, 1) := by decide +kernel
theorem d6_53 : decode prog_45_method_2_code 53 = .ok (.aload_n 0, 1) := by decide +kernel
theorem d6_54 : decode prog_45_method_2_code 54 = .ok (.getfield 22, 3) := by decide +kernel
theorem d6_57 : decode prog_45_method_2_code 57 = .ok (.invokestatic 26, 3) := by decide +kernel
theorem d6_60 : decode prog_45_method_2_code 60 = .ok (.astore_n 2, 1) := by decide +kernel
theorem d6_61 : decode prog_45_method_2_code 61 = .ok (.goto 120, 3) := by decide +kernel
theorem d6_64 : decode prog_45_method_2_code 64 = .ok (.aload_n 0, 1) := by decide +kernel
theorem d6_65 : decode prog_45_method_2_code 65 = .ok (.getfield 32, 3) := by decide +kernel
theorem d6_68 : decode prog_45_method_2_code 68 = .ok (.sipush 2048, 3) := by decide +kernel
theorem d6_71 : decode prog_45_method_2_code 71 = .ok (.if_icmp .eq 7, 3) := by decide +kernel
theorem d6_74 : decode prog_45_method_2_code 74 = .ok (.iload_n 1, 1) := by decide +kernel
theorem d6_75 : decode prog_45_method_2_code 75 = .ok (.ifCond .ge 11, 3) := by decide +kernel
theorem d6_78 : decode prog_45_method_2_code 78 = .ok (.aload_n 0, 1) := by decide +kernel
theorem d6_79 : decode prog_45_method_2_code 79 = .ok (.iconst 1, 1) := by decide +kernel
theorem d6_80 : decode prog_45_method_2_code 80 = .ok (.putfield 19, 3) := by decide +kernel
theorem d6_83 : decode prog_45_method_2_code 83 = .ok (.goto 98, 3) := by decide +kernel
theorem d6_86 : decode prog_45_method_2_code 86 = .ok (.iload_n 3, 1) := by decide +kernel
theorem d6_87 : decode prog_45_method_2_code 87 = .ok (.ifCond .eq 16, 3) := by decide +kernel
theorem d6_90 : decode prog_45_method_2_code 90 = .ok (.aload_n 0, 1) := by decide +kernel
theorem d6_91 : decode prog_45_method_2_code 91 = .ok (.iconst 0, 1) := by decide +kernel
theorem d6_92 : decode prog_45_method_2_code 92 = .ok (.putfield 22, 3) := by decide +kernel
theorem d6_95 : decode prog_45_method_2_code 95 = .ok (.aload_n 0, 1) := by decide +kernel
theorem d6_96 : decode prog_45_method_2_code 96 = .ok (.iconst 1, 1) := by decide +kernel
theorem d6_97 : decode prog_45_method_2_code 97 = .ok (.putfield 15, 3) := by decide +kernel
theorem d6_100 : decode prog_45_method_2_code 100 = .ok (.goto 81, 3) := by decide +kernel
theorem d6_103 : decode prog_45_method_2_code 103 = .ok (.iload_n 1, 1) := by decide +kernel
theorem d6_104 : decode prog_45_method_2_code 104 = .ok (.bipush 32, 2) := by decide +kernel
theorem d6_106 : decode prog_45_method_2_code 106 = .ok (.if_icmp .eq 21, 3) := by decide +kernel
theorem d6_109 : decode prog_45_method_2_code 109 = .ok (.iload_n 1, 1) := by decide +kernel
theorem d6_110 : decode prog_45_method_2_code 110 = .ok (.bipush 9, 2) := by decide +kernel
theorem d6_112 : decode prog_45_method_2_code 112 = .ok (.if_icmp .eq 15, 3) := by decide +kernel
theorem d6_115 : decode prog_45_method_2_code 115 = .ok (.iload_n 1, 1) := by decide +kernel
theorem d6_116 : decode prog_45_method_2_code 116 = .ok (.bipush 11, 2) := by decide +kernel
theorem d6_118 : decode prog_45_method_2_code 118 = .ok (.if_icmp .eq 9, 3) := by decide +kernel
theorem d6_121 : decode prog_45_method_2_code 121 = .ok (.iload_n 1, 1) := by decide +kernel
theorem d6_122 : decode prog_45_method_2_code 122 = .ok (.bipush 12, 2) := by decide +kernel
theorem d6_124 : decode prog_45_method_2_code 124 = .ok (.if_icmp .ne 7, 3) := by decide +kernel
theorem d6_127 : decode prog_45_method_2_code 127 = .ok (.iconst 1, 1) := by decide +kernel
theorem d6_128 : decode prog_45_method_2_code 128 = .ok (.goto 4, 3) := by decide +kernel
theorem d6_131 : decode prog_45_method_2_code 131 = .ok (.iconst 0, 1) := by decide +kernel
theorem d6_132 : decode prog_45_method_2_code 132 = .ok (.istore 4, 2) := by decide +kernel
theorem d6_134 : decode prog_45_method_2_code 134 = .ok (.aload_n 0, 1) := by decide +kernel
theorem d6_135 : decode prog_45_method_2_code 135 = .ok (.getfield 22, 3) := by decide +kernel
theorem d6_138 : decode prog_45_method_2_code 138 = .ok (.iconst 2, 1) := by decide +kernel
theorem d6_139 : decode prog_45_method_2_code 139 = .ok (.if_icmp .ge 12, 3) := by decide +kernel
theorem d6_142 : decode prog_45_method_2_code 142 = .ok (.iload_n 1, 1) := by decide +kernel
theorem d6_143 : decode prog_45_method_2_code 143 = .ok (.bipush 45, 2) := by decide +kernel
theorem d6_145 : decode prog_45_method_2_code 145 = .ok (.if_icmp .eq 16, 3) := by decide +kernel
theorem d6_148 : decode prog_45_method_2_code 148 = .ok (.goto 8, 3) := by decide +kernel
theorem d6_151 : decode prog_45_method_2_code 151 = .ok (.iload 4, 2) := by decide +kernel
theorem d6_153 : decode prog_45_method_2_code 153 = .ok (.ifCond .eq 8, 3) := by decide +kernel
theorem d6_156 : decode prog_45_method_2_code 156 = .ok (.aload_n 0, 1) := by decide +kernel
theorem d6_157 : decode prog_45_method_2_code 157 = .ok (.iconst 0, 1) := by decide +kernel
theorem d6_158 : decode prog_45_method_2_code 158 = .ok (.putfield 15, 3) := by decide +kernel
theorem d6_161 : decode prog_45_method_2_code 161 = .ok (.aload_n 0, 1) := by decide +kernel
theorem d6_162 : decode prog_45_method_2_code 162 = .ok (.getfield 9, 3) := by decide +kernel
theorem d6_165 : decode prog_45_method_2_code 165 = .ok (.aload_n 0, 1) := by decide +kernel
theorem d6_166 : decode prog_45_method_2_code 166 = .ok (.getfield 22, 3) := by decide +kernel
theorem d6_169 : decode prog_45_method_2_code 169 = .ok (.iload_n 1, 1) := by decide +kernel
theorem d6_170 : decode prog_45_method_2_code 170 = .ok (.bastore, 1) := by decide +kernel
theorem d6_171 : decode prog_45_method_2_code 171 = .ok (.aload_n 0, 1) := by decide +kernel
theorem d6_172 : decode prog_45_method_2_code 172 = .ok (.dup, 1) := by decide +kernel
theorem d6_173 : decode prog_45_method_2_code 173 = .ok (.getfield 22, 3) := by decide +kernel
theorem d6_176 : decode prog_45_method_2_code 176 = .ok (.iconst 1, 1) := by decide +kernel
theorem d6_177 : decode prog_45_method_2_code 177 = .ok (.iadd, 1) := by decide +kernel
theorem d6_178 : decode prog_45_method_2_code 178 = .ok (.putfield 22, 3) := by decide +kernel
theorem d6_181 : decode prog_45_method_2_code 181 = .ok (.aload_n 0, 1) := by decide +kernel
theorem d6_182 : decode prog_45_method_2_code 182 = .ok (.dup, 1) := by decide +kernel
theorem d6_183 : decode prog_45_method_2_code 183 = .ok (.getfield 32, 3) := by decide +kernel
theorem d6_186 : decode prog_45_method_2_code 186 = .ok (.iconst 1, 1) := by decide +kernel
theorem d6_187 : decode prog_45_method_2_code 187 = .ok (.iadd, 1) := by decide +kernel
theorem d6_188 : decode prog_45_method_2_code 188 = .ok (.putfield 32, 3) := by decide +kernel
theorem d6_191 : decode prog_45_method_2_code 191 = .ok (.aload_n 2, 1) := by decide +kernel
theorem d6_192 : decode prog_45_method_2_code 192 = .ok (.ifnonnull 33, 3) := by decide +kernel
theorem d6_195 : decode prog_45_method_2_code 195 = .ok (.aload_n 0, 1) := by decide +kernel
theorem d6_196 : decode prog_45_method_2_code 196 = .ok (.getfield 32, 3) := by decide +kernel
theorem d6_199 : decode prog_45_method_2_code 199 = .ok (.sipush 2048, 3) := by decide +kernel
theorem d6_202 : decode prog_45_method_2_code 202 = .ok (.if_icmp .ne 23, 3) := by decide +kernel
theorem d6_225 : decode prog_45_method_2_code 225 = .ok (.aload_n 2, 1) := by decide +kernel
theorem d6_226 : decode prog_45_method_2_code 226 = .ok (.areturn, 1) := by decide +kernel
def v6_20_s0 (p1 : Int32) : Int32 := if p1 = (10 : Int32) then (1 : Int32) else (0 : Int32)
def v6_14_s0 (p1 : Int32) : Int32 := if p1 = (13 : Int32) then (1 : Int32) else (v6_20_s0 p1)
def v6_124_s0 (p1 : Int32) : Int32 := if p1 = (12 : Int32) then (1 : Int32) else (0 : Int32)
def v6_118_s0 (p1 : Int32) : Int32 := if p1 = (11 : Int32) then (1 : Int32) else (v6_124_s0 p1)
def v6_112_s0 (p1 : Int32) : Int32 := if p1 = (9 : Int32) then (1 : Int32) else (v6_118_s0 p1)
def v6_106_s0 (p1 : Int32) : Int32 := if p1 = (32 : Int32) then (1 : Int32) else (v6_112_s0 p1)
def v6_170_L (p1 : Int32) (w_lineLength_ra0 : Int32) (L_r_line_ra0 : List Int32) : List Int32 := (L_r_line_ra0.set (w_lineLength_ra0).toNatClampNeg ((p1).toInt8.toInt32))
def v6_f_boundaryLine_ra0 (p1 : Int32) (w_failed_ra0 : Int32) (w_lineLength_ra0 : Int32) (w_boundaryLine_ra0 : Int32) : Int32 := (if w_failed_ra0 = (0 : Int32) then (if (v6_14_s0 p1) = (0 : Int32) then (if p1 < (0 : Int32) then w_boundaryLine_ra0 else (if w_lineLength_ra0 < (2 : Int32) then (if p1 = (45 : Int32) then w_boundaryLine_ra0 else (0 : Int32)) else (if (v6_106_s0 p1) = (0 : Int32) then w_boundaryLine_ra0 else (0 : Int32)))) else (if w_boundaryLine_ra0 = (0 : Int32) then (if p1 < (0 : Int32) then w_boundaryLine_ra0 else (1 : Int32)) else (if w_lineLength_ra0 < (2 : Int32) then (if p1 < (0 : Int32) then w_boundaryLine_ra0 else (1 : Int32)) else w_boundaryLine_ra0))) else w_boundaryLine_ra0)
def v6_f_failed_ra0 (p1 : Int32) (w_failed_ra0 : Int32) (w_lineLength_ra0 : Int32) (w_boundaryLine_ra0 : Int32) : Int32 := (if w_failed_ra0 = (0 : Int32) then (if (v6_14_s0 p1) = (0 : Int32) then (if p1 < (0 : Int32) then (1 : Int32) else w_failed_ra0) else (if w_boundaryLine_ra0 = (0 : Int32) then (if p1 < (0 : Int32) then (1 : Int32) else w_failed_ra0) else (if w_lineLength_ra0 < (2 : Int32) then (if p1 < (0 : Int32) then (1 : Int32) else w_failed_ra0) else w_failed_ra0))) else w_failed_ra0)
def v6_f_position_ra0 (w_failed_ra0 : Int32) (w_position_ra0 : Int32) : Int32 := (if w_failed_ra0 = (0 : Int32) then (w_position_ra0 + (1 : Int32)) else w_position_ra0)
def v6_f_lineLength_ra0 (p1 : Int32) (w_failed_ra0 : Int32) (w_lineLength_ra0 : Int32) (w_boundaryLine_ra0 : Int32) : Int32 := (if w_failed_ra0 = (0 : Int32) then (if (v6_14_s0 p1) = (0 : Int32) then (if p1 < (0 : Int32) then w_lineLength_ra0 else (w_lineLength_ra0 + (1 : Int32))) else (if w_boundaryLine_ra0 = (0 : Int32) then (if p1 < (0 : Int32) then w_lineLength_ra0 else (0 : Int32)) else (if w_lineLength_ra0 < (2 : Int32) then (if p1 < (0 : Int32) then w_lineLength_ra0 else (0 : Int32)) else w_lineLength_ra0))) else w_lineLength_ra0)
def v6_a_r_line_ra0 (p1 : Int32) (w_failed_ra0 : Int32) (w_lineLength_ra0 : Int32) (L_r_line_ra0 : List Int32) : List Int32 := (if w_failed_ra0 = (0 : Int32) then (if (v6_14_s0 p1) = (0 : Int32) then (if p1 < (0 : Int32) then L_r_line_ra0 else (v6_170_L p1 w_lineLength_ra0 L_r_line_ra0)) else L_r_line_ra0) else L_r_line_ra0)
def v6_cls (p1 : Int32) (w_failed_ra0 : Int32) (w_lineLength_ra0 : Int32) (w_boundaryLine_ra0 : Int32) : Int32 := (if w_failed_ra0 = (0 : Int32) then (if (v6_14_s0 p1) = (0 : Int32) then (0 : Int32) else (if w_boundaryLine_ra0 = (0 : Int32) then (0 : Int32) else (if w_lineLength_ra0 < (2 : Int32) then (0 : Int32) else (1 : Int32)))) else (0 : Int32))
theorem ef_rm6 (m : MethodId) (ra0 : Addr) (p1 : Int32) : entryFrame m #[(.ref ra0), (.int p1)] 5 = mkF m 0 #[rv ra0, iv p1, .unset, .unset, .unset] [] := by first | (simp [entryFrame, mkF, argsToLocals, Value.category]; done) | rfl
def Q6 (Z : State) (ra0 : Addr) (p1 : Int32) (w_failed_ra0 : Int32) (w_position_ra0 : Int32) (w_lineLength_ra0 : Int32) (r_line_ra0 : Addr) (k_r_line_ra0 : ClassId) (L_r_line_ra0 : List Int32) (w_boundaryLine_ra0 : Int32) (h0 : Heap) (n0 : Nat) (v : Option Value) (h : Heap) (L : List Loc) : Prop := ((v6_cls p1 w_failed_ra0 w_lineLength_ra0 w_boundaryLine_ra0) = (0 : Int32) ∧ (v = some .null ∧ Fr n0 L ∧ Keep h0 h [ra0, r_line_ra0] ∧ Exa Z h ra0 cSe ∧ Fld Z h ra0 cSe "line" "[B" (.ref r_line_ra0) ∧ Fld Z h ra0 cSe "boundaryLine" "Z" (.int (v6_f_boundaryLine_ra0 p1 w_failed_ra0 w_lineLength_ra0 w_boundaryLine_ra0)) ∧ Fld Z h ra0 cSe "failed" "Z" (.int (v6_f_failed_ra0 p1 w_failed_ra0 w_lineLength_ra0 w_boundaryLine_ra0)) ∧ Fld Z h ra0 cSe "position" "I" (.int (v6_f_position_ra0 w_failed_ra0 w_position_ra0)) ∧ Fld Z h ra0 cSe "lineLength" "I" (.int (v6_f_lineLength_ra0 p1 w_failed_ra0 w_lineLength_ra0 w_boundaryLine_ra0)) ∧ Arv Z h r_line_ra0 k_r_line_ra0 .byte (2048 : Int32) (List.map Value.int (v6_a_r_line_ra0 p1 w_failed_ra0 w_lineLength_ra0 L_r_line_ra0)) (.int 0) ∧ (v6_a_r_line_ra0 p1 w_failed_ra0 w_lineLength_ra0 L_r_line_ra0).length = ((2048 : Int32)).toNatClampNeg)) ∨ ((v6_cls p1 w_failed_ra0 w_lineLength_ra0 w_boundaryLine_ra0) = (1 : Int32) ∧ (∃ (xr : Addr) (k_xr : ClassId), v = some (.ref xr) ∧ Fr n0 L ∧ Keep h0 h [ra0, r_line_ra0] ∧ Exa Z h ra0 cSe ∧ Fld Z h ra0 cSe "line" "[B" (.ref r_line_ra0) ∧ Fld Z h ra0 cSe "boundaryLine" "Z" (.int (v6_f_boundaryLine_ra0 p1 w_failed_ra0 w_lineLength_ra0 w_boundaryLine_ra0)) ∧ Fld Z h ra0 cSe "failed" "Z" (.int (v6_f_failed_ra0 p1 w_failed_ra0 w_lineLength_ra0 w_boundaryLine_ra0)) ∧ Fld Z h ra0 cSe "position" "I" (.int (v6_f_position_ra0 w_failed_ra0 w_position_ra0)) ∧ Fld Z h ra0 cSe "lineLength" "I" (.int (v6_f_lineLength_ra0 p1 w_failed_ra0 w_lineLength_ra0 w_boundaryLine_ra0)) ∧ Arv Z h r_line_ra0 k_r_line_ra0 .byte (2048 : Int32) (List.map Value.int (v6_a_r_line_ra0 p1 w_failed_ra0 w_lineLength_ra0 L_r_line_ra0)) (.int 0) ∧ (v6_a_r_line_ra0 p1 w_failed_ra0 w_lineLength_ra0 L_r_line_ra0).length = ((2048 : Int32)).toNatClampNeg ∧ h0.size ≤ xr ∧ Arv Z h xr k_xr .byte (w_lineLength_ra0 - (2 : Int32)) (List.map Value.int (v13_27_L (2 : Int32) w_lineLength_ra0 L_r_line_ra0)) (.int 0) ∧ (v13_27_L (2 : Int32) w_lineLength_ra0 L_r_line_ra0).length = ((w_lineLength_ra0 - (2 : Int32))).toNatClampNeg))
set_option maxRecDepth 65536 in
set_option maxHeartbeats 40000000 in
theorem rm6 (l : Launch) (Z : State) (a0 : Array Value) (hw : ∀ d ∈ tables_1, d.before a0 Z = true) (ws : List Jvm.Cond) (ra0 : Addr) (p1 : Int32) (w_failed_ra0 : Int32) (w_position_ra0 : Int32) (w_lineLength_ra0 : Int32) (r_line_ra0 : Addr) (k_r_line_ra0 : ClassId) (L_r_line_ra0 : List Int32) (w_boundaryLine_ra0 : Int32) (h0 : Heap) (n0 : Nat) (Z0 : n0 ≤ h0.size) (hll : ¬ w_lineLength_ra0 < 0 ∧ w_lineLength_ra0 < (9 : Int32)) (hp1 : ¬ w_position_ra0 = (2048 : Int32)) (hp2 : ¬ (w_position_ra0 + (1 : Int32)) = (2048 : Int32)) (F_failed_ra0 : Fld Z h0 ra0 cSe "failed" "Z" (.int w_failed_ra0)) (F_position_ra0 : Fld Z h0 ra0 cSe "position" "I" (.int w_position_ra0)) (E_ra0 : Exa Z h0 ra0 cSe) (g_ra0 : n0 ≤ ra0) (F_lineLength_ra0 : Fld Z h0 ra0 cSe "lineLength" "I" (.int w_lineLength_ra0)) (F_line_ra0 : Fld Z h0 ra0 cSe "line" "[B" (.ref r_line_ra0)) (V_r_line_ra0 : Arv Z h0 r_line_ra0 k_r_line_ra0 .byte (2048 : Int32) (List.map Value.int L_r_line_ra0) (.int 0)) (VL_r_line_ra0 : L_r_line_ra0.length = ((2048 : Int32)).toNatClampNeg) (g_r_line_ra0 : n0 ≤ r_line_ra0) (F_boundaryLine_ra0 : Fld Z h0 ra0 cSe "boundaryLine" "Z" (.int w_boundaryLine_ra0)) :
    MetFree l (⟨cSe, "see", "(B)[B"⟩ : MethodName) (head1 (Jvm.Cond.code (⟨cSe, "see", "(B)[B"⟩ : MethodName) prog_45_method_2_code 5 (some (.array .byte)) :: ws) ({ frames := 3, cells := 1, slots := 8, locals := 70 } : Room)) (fun a U => a = #[(.ref ra0), (.int p1)] ∧ Z.Warmed39 U.vm ∧ U.heap = h0) (fun _ _ _ _ _ => True) (fun _ U o U' => ∃ v L, o = .returned v ∧ Q6 Z ra0 p1 w_failed_ra0 w_position_ra0 w_lineLength_ra0 r_line_ra0 k_r_line_ra0 L_r_line_ra0 w_boundaryLine_ra0 h0 n0 v U'.heap L ∧ FrameEnd U o U' L ({ frames := 3, cells := 1, slots := 8, locals := 70 } : Room).cells ({ frames := 3, cells := 1, slots := 8, locals := 70 } : Room).slots) := by
  refine MetFree.of_bodySF (plainFor_of_name pn_350) hisR ?_
  intro p e s m args below meth c s₁ Bd hml0 hP hK
  obtain ⟨rfl, hZ, hh⟩ := hP
  have hx := Bd.exec
  have hlk : meth.locks = false := by first | exact BodyLoose.notSynchronized Bd | exact Body.notSynchronized Bd
  have hby := Bd.bytes
  have hml : c.maxLocals = 5 := hml0
  have hown : s.vm.findClass cSe = some m.cls := findClass_of_methodNamed Bd.named
  have hnm := (name_of_methodNamed Bd.named Bd.method).1
  have X0 : Stand p l e ({ frames := 3, cells := 1, slots := 8, locals := 70 } : Room) s m #[(.ref ra0), (.int p1)] below meth c s₁ [] 0 0 := Stand.of_body Bd
  have e0 : s₁.heap = h0 := by rw [← hh, Bd.state]; rfl
  have N0 := Fr.nil n0
  have KC0 := Keep.refl h0 [ra0, r_line_ra0]
  have pre0 : ∀ t, Steps p.tables e below (s₁.setTop (mkF m 0 #[rv ra0, iv p1, .unset, .unset, .unset] [])) t → Steps p.tables e below (s₁.setTop (entryFrame m #[(.ref ra0), (.int p1)] 5)) t := fun t k => castTop (ef_rm6 m ra0 p1) k
  have k344 := fun (t : State) (kk : Steps p.tables e below (s₁.setTop (mkF m 1 #[rv ra0, iv p1, .unset, .unset, .unset] [(.ref ra0)])) t) => pre0 t (by
    refine XS.aloadN X0.here hx rfl (hb hby d6_0) rfl rfl ?_
    exact kk)
  obtain ⟨T345, X345, e345, st345⟩ := getF X0 hx hZ hown (host := "") (Or.inl (hw _ (List.mem_of_getElem? (i := 29) rfl))) Via.refl e0 F_failed_ra0 (g := (mkF m 1 #[rv ra0, iv p1, .unset, .unset, .unset] [(.ref ra0)])) rfl rfl (hb hby d6_1)
  have k346 := fun (t : State) (kk : Steps p.tables e below (T345.setTop (mkF m 4 #[rv ra0, iv p1, .unset, .unset, .unset] [(.int w_failed_ra0)])) t) => k344 t (st345 _ kk)
  by_cases hc4_347 : w_failed_ra0 = (0 : Int32)
  · have k352 := fun (t : State) (kk : Steps p.tables e below (T345.setTop (mkF m 30 #[rv ra0, iv p1, .val .null, iv (v6_14_s0 p1), .unset] [(.int (v6_14_s0 p1))])) t) => k346 t (by
      refine XS.ifYes X345.here hx rfl (pc0 := 4) (pc' := 9) rfl (hb hby d6_4) rfl ((if0 _ _).trans (teq hc4_347).1) (by decide) (by decide) ?_
      refine XS.aconstNull X345.here hx rfl (hb hby d6_9) ?_
      refine XS.astoreN X345.here hx rfl (hb hby d6_10) rfl rfl (l' := #[rv ra0, iv p1, .val .null, .unset, .unset]) rfl ?_
      show Steps p.tables e below (T345.setTop (mkF m 11 #[rv ra0, iv p1, .val .null, .unset, .unset] [])) _
      refine XS.iloadN X345.here hx rfl (hb hby d6_11) rfl ?_
      refine XS.bipush X345.here hx rfl (hb hby d6_12) ?_
      suffices k351 : Steps p.tables e below (T345.setTop (mkF m 28 #[rv ra0, iv p1, .val .null, .unset, .unset] [(.int (v6_14_s0 p1))])) t by
        by_cases hc14_348 : p1 = (13 : Int32)
        · rw [(show (v6_14_s0 p1) = (1 : Int32) from if_pos hc14_348)] at k351
          refine XS.icmpYes X345.here hx rfl (pc0 := 14) (pc' := 23) rfl (hb hby d6_14) rfl (teq hc14_348).1 (by decide) (by decide) ?_
          refine XS.iconst X345.here hx rfl (hb hby d6_23) ?_
          refine XS.goto X345.here hx rfl (pc0 := 24) (pc' := 28) rfl (hb hby d6_24) (by decide) (by decide) ?_
          exact k351
        · rw [(show (v6_14_s0 p1) = (v6_20_s0 p1) from if_neg hc14_348)] at k351
          refine XS.icmpNo X345.here hx rfl (hb hby d6_14) rfl (feq hc14_348).1 ?_
          refine XS.iloadN X345.here hx rfl (hb hby d6_17) rfl ?_
          refine XS.bipush X345.here hx rfl (hb hby d6_18) ?_
          suffices k350 : Steps p.tables e below (T345.setTop (mkF m 28 #[rv ra0, iv p1, .val .null, .unset, .unset] [(.int (v6_20_s0 p1))])) t by
            by_cases hc20_349 : p1 = (10 : Int32)
            · rw [(show (v6_20_s0 p1) = (1 : Int32) from if_pos hc20_349)] at k350
              refine XS.icmpNo X345.here hx rfl (hb hby d6_20) rfl (teq hc20_349).2 ?_
              refine XS.iconst X345.here hx rfl (hb hby d6_23) ?_
              refine XS.goto X345.here hx rfl (pc0 := 24) (pc' := 28) rfl (hb hby d6_24) (by decide) (by decide) ?_
              exact k350
            · rw [(show (v6_20_s0 p1) = (0 : Int32) from if_neg hc20_349)] at k350
              refine XS.icmpYes X345.here hx rfl (pc0 := 20) (pc' := 27) rfl (hb hby d6_20) rfl (feq hc20_349).2 (by decide) (by decide) ?_
              show Steps p.tables e below (T345.setTop (mkF m 27 #[rv ra0, iv p1, .val .null, .unset, .unset] [])) _
              refine XS.iconst X345.here hx rfl (hb hby d6_27) ?_
              exact k350
          exact k351
      refine XS.istoreN X345.here hx rfl (hb hby d6_28) rfl (l' := #[rv ra0, iv p1, .val .null, iv (v6_14_s0 p1), .unset]) rfl ?_
      refine XS.iloadN X345.here hx rfl (hb hby d6_29) rfl ?_
      exact kk)
    by_cases hc30_353 : (v6_14_s0 p1) = (0 : Int32)
    · have k354 := fun (t : State) (kk : Steps p.tables e below (T345.setTop (mkF m 65 #[rv ra0, iv p1, .val .null, iv (v6_14_s0 p1), .unset] [(.ref ra0)])) t) => k352 t (by
        refine XS.ifYes X345.here hx rfl (pc0 := 30) (pc' := 64) rfl (hb hby d6_30) rfl ((if0 _ _).trans (teq hc30_353).1) (by decide) (by decide) ?_
        refine XS.aloadN X345.here hx rfl (hb hby d6_64) rfl rfl ?_
        exact kk)
      obtain ⟨T355, X355, e355, st355⟩ := getF X345 hx hZ hown (host := "") (Or.inl (hw _ (List.mem_of_getElem? (i := 31) rfl))) Via.refl e345 F_position_ra0 (g := (mkF m 65 #[rv ra0, iv p1, .val .null, iv (v6_14_s0 p1), .unset] [(.ref ra0)])) rfl rfl (hb hby d6_65)
      have k356 := fun (t : State) (kk : Steps p.tables e below (T355.setTop (mkF m 68 #[rv ra0, iv p1, .val .null, iv (v6_14_s0 p1), .unset] [(.int w_position_ra0)])) t) => k354 t (st355 _ kk)
      have k357 := fun (t : State) (kk : Steps p.tables e below (T355.setTop (mkF m 71 #[rv ra0, iv p1, .val .null, iv (v6_14_s0 p1), .unset] [(.int 2048), (.int w_position_ra0)])) t) => k356 t (by
        refine XS.sipush X355.here hx rfl (hb hby d6_68) ?_
        exact kk)
      have hc71_358 : ¬ (w_position_ra0 = (2048 : Int32)) := hp1
      have k359 := fun (t : State) (kk : Steps p.tables e below (T355.setTop (mkF m 75 #[rv ra0, iv p1, .val .null, iv (v6_14_s0 p1), .unset] [(.int p1)])) t) => k357 t (by
        refine XS.icmpNo X355.here hx rfl (hb hby d6_71) rfl (feq hc71_358).1 ?_
        refine XS.iloadN X355.here hx rfl (hb hby d6_74) rfl ?_
        exact kk)
      by_cases hc75_360 : p1 < (0 : Int32)
      · have k361 := fun (t : State) (kk : Steps p.tables e below (T355.setTop (mkF m 80 #[rv ra0, iv p1, .val .null, iv (v6_14_s0 p1), .unset] [(.int 1), (.ref ra0)])) t) => k359 t (by
          refine XS.ifNo X355.here hx rfl (hb hby d6_75) rfl ((if0 _ _).trans (tlt hc75_360).2.1) ?_
          refine XS.aloadN X355.here hx rfl (hb hby d6_78) rfl rfl ?_
          refine XS.iconst X355.here hx rfl (hb hby d6_79) ?_
          exact kk)
        obtain ⟨T362, h362, X362, e362, W362, st362⟩ := putFN X355 hx hZ hown (hw _ (List.mem_of_getElem? (i := 29) rfl)) Via.refl e355 F_failed_ra0 E_ra0 (Or.inl (hw _ (List.mem_of_getElem? (i := 30) rfl))) (hw _ (List.mem_of_getElem? (i := 12) rfl)) (ty := .boolean) (v' := (.int 1)) (by decide) rfl rfl (g := (mkF m 80 #[rv ra0, iv p1, .val .null, iv (v6_14_s0 p1), .unset] [(.int 1), (.ref ra0)])) rfl rfl (hb hby d6_80)
        have Fw362 := F_failed_ra0.same W362
        have K362 : Keep h0 h362 [ra0, r_line_ra0] := KC0.wr W362 (Or.inl (List.mem_of_getElem? (i := 0) rfl))
        have N362 := Fr.snoc X362 N0 g_ra0
        have k363 := fun (t : State) (kk : Steps p.tables e below (T362.setTop (mkF m 83 #[rv ra0, iv p1, .val .null, iv (v6_14_s0 p1), .unset] [])) t) => k361 t (st362 _ kk)
        have k364 := fun (t : State) (kk : Steps p.tables e below (T362.setTop (mkF m 183 #[rv ra0, iv p1, .val .null, iv (v6_14_s0 p1), .unset] [(.ref ra0), (.ref ra0)])) t) => k363 t (by
          refine XS.goto X362.here hx rfl (pc0 := 83) (pc' := 181) rfl (hb hby d6_83) (by decide) (by decide) ?_
          show Steps p.tables e below (T362.setTop (mkF m 181 #[rv ra0, iv p1, .val .null, iv (v6_14_s0 p1), .unset] [])) _
          refine XS.aloadN X362.here hx rfl (hb hby d6_181) rfl rfl ?_
          refine XS.dup X362.here hx rfl (hb hby d6_182) rfl rfl ?_
          exact kk)
        have f365 := (F_position_ra0.other W362 (Or.inr (slot_ne (Or.inl (hw _ (List.mem_of_getElem? (i := 32) rfl))) (Or.inl (hw _ (List.mem_of_getElem? (i := 30) rfl))) (by decide) (t := .int) (t' := .boolean) (by decide) (by decide))))
        obtain ⟨T366, X366, e366, st366⟩ := getF X362 hx hZ hown (host := "") (Or.inl (hw _ (List.mem_of_getElem? (i := 31) rfl))) Via.refl e362 f365 (g := (mkF m 183 #[rv ra0, iv p1, .val .null, iv (v6_14_s0 p1), .unset] [(.ref ra0), (.ref ra0)])) rfl rfl (hb hby d6_183)
        have k367 := fun (t : State) (kk : Steps p.tables e below (T366.setTop (mkF m 186 #[rv ra0, iv p1, .val .null, iv (v6_14_s0 p1), .unset] [(.int w_position_ra0), (.ref ra0)])) t) => k364 t (st366 _ kk)
        have k368 := fun (t : State) (kk : Steps p.tables e below (T366.setTop (mkF m 188 #[rv ra0, iv p1, .val .null, iv (v6_14_s0 p1), .unset] [(.int (w_position_ra0 + (1 : Int32))), (.ref ra0)])) t) => k367 t (by
          refine XS.iconst X366.here hx rfl (hb hby d6_186) ?_
          refine XS.iadd X366.here hx rfl (hb hby d6_187) rfl ?_
          exact kk)
        have f369 := (E_ra0.wr W362)
        obtain ⟨T370, h370, X370, e370, W370, st370⟩ := putF X366 hx hZ hown (host := "") (Or.inl (hw _ (List.mem_of_getElem? (i := 31) rfl))) Via.refl e366 f365 f369 (Or.inl (hw _ (List.mem_of_getElem? (i := 32) rfl))) (hw _ (List.mem_of_getElem? (i := 12) rfl)) (ty := .int) (by decide) rfl rfl (g := (mkF m 188 #[rv ra0, iv p1, .val .null, iv (v6_14_s0 p1), .unset] [(.int (w_position_ra0 + (1 : Int32))), (.ref ra0)])) rfl rfl (hb hby d6_188)
        have Fw370 := f365.same W370
        have K370 : Keep h0 h370 [ra0, r_line_ra0] := K362.wr W370 (Or.inl (List.mem_of_getElem? (i := 0) rfl))
        have N370 := Fr.snoc X370 N362 g_ra0
        have k371 := fun (t : State) (kk : Steps p.tables e below (T370.setTop (mkF m 191 #[rv ra0, iv p1, .val .null, iv (v6_14_s0 p1), .unset] [])) t) => k368 t (st370 _ kk)
        have k372 := fun (t : State) (kk : Steps p.tables e below (T370.setTop (mkF m 192 #[rv ra0, iv p1, .val .null, iv (v6_14_s0 p1), .unset] [.null])) t) => k371 t (by
          refine XS.aloadN X370.here hx rfl (hb hby d6_191) rfl rfl ?_
          exact kk)
        have k373 := fun (t : State) (kk : Steps p.tables e below (T370.setTop (mkF m 196 #[rv ra0, iv p1, .val .null, iv (v6_14_s0 p1), .unset] [(.ref ra0)])) t) => k372 t (by
          show Steps p.tables e below (T370.setTop (mkF m 192 #[rv ra0, iv p1, .val .null, iv (v6_14_s0 p1), .unset] [.null])) _
          refine XS.ifnonnullNo X370.here hx rfl (hb hby d6_192) rfl ?_
          refine XS.aloadN X370.here hx rfl (hb hby d6_195) rfl rfl ?_
          exact kk)
        obtain ⟨T374, X374, e374, st374⟩ := getF X370 hx hZ hown (host := "") (Or.inl (hw _ (List.mem_of_getElem? (i := 31) rfl))) Via.refl e370 Fw370 (g := (mkF m 196 #[rv ra0, iv p1, .val .null, iv (v6_14_s0 p1), .unset] [(.ref ra0)])) rfl rfl (hb hby d6_196)
        have k375 := fun (t : State) (kk : Steps p.tables e below (T374.setTop (mkF m 199 #[rv ra0, iv p1, .val .null, iv (v6_14_s0 p1), .unset] [(.int (w_position_ra0 + (1 : Int32)))])) t) => k373 t (st374 _ kk)
        have k376 := fun (t : State) (kk : Steps p.tables e below (T374.setTop (mkF m 202 #[rv ra0, iv p1, .val .null, iv (v6_14_s0 p1), .unset] [(.int 2048), (.int (w_position_ra0 + (1 : Int32)))])) t) => k375 t (by
          refine XS.sipush X374.here hx rfl (hb hby d6_199) ?_
          exact kk)
        have hc202_377 : ¬ ((w_position_ra0 + (1 : Int32)) = (2048 : Int32)) := hp2
        have k378 := fun (t : State) (kk : Steps p.tables e below (T374.setTop (mkF m 226 #[rv ra0, iv p1, .val .null, iv (v6_14_s0 p1), .unset] [.null])) t) => k376 t (by
          refine XS.icmpYes X374.here hx rfl (pc0 := 202) (pc' := 225) rfl (hb hby d6_202) rfl (feq hc202_377).2 (by decide) (by decide) ?_
          refine XS.aloadN X374.here hx rfl (hb hby d6_225) rfl rfl ?_
          exact kk)
        obtain ⟨fs, hr, hrun, hended, hW, hsame⟩ := X374.leave (v := some .null) (fun h => by rw [Bd.returns] at h; cases h) hlk
        have f379 := (f369.wr W370)
        have f380 := ((F_line_ra0.other W362 (Or.inr (slot_ne (Or.inr (hw _ (List.mem_of_getElem? (i := 21) rfl))) (Or.inl (hw _ (List.mem_of_getElem? (i := 30) rfl))) (by decide) (t := (.array .byte)) (t' := .boolean) (by decide) (by decide)))).other W370 (Or.inr (slot_ne (Or.inr (hw _ (List.mem_of_getElem? (i := 21) rfl))) (Or.inl (hw _ (List.mem_of_getElem? (i := 32) rfl))) (by decide) (t := (.array .byte)) (t' := .int) (by decide) (by decide))))
        have f381 := ((F_boundaryLine_ra0.other W362 (Or.inr (slot_ne (Or.inl (hw _ (List.mem_of_getElem? (i := 23) rfl))) (Or.inl (hw _ (List.mem_of_getElem? (i := 30) rfl))) (by decide) (t := .boolean) (t' := .boolean) (by decide) (by decide)))).other W370 (Or.inr (slot_ne (Or.inl (hw _ (List.mem_of_getElem? (i := 23) rfl))) (Or.inl (hw _ (List.mem_of_getElem? (i := 32) rfl))) (by decide) (t := .boolean) (t' := .int) (by decide) (by decide))))
        have hf382 : (v6_f_boundaryLine_ra0 p1 w_failed_ra0 w_lineLength_ra0 w_boundaryLine_ra0) = w_boundaryLine_ra0 := ((if_pos hc4_347).trans ((if_pos hc30_353).trans (if_pos hc75_360)))
        have f383 := (Fw362.other W370 (Or.inr (slot_ne (Or.inl (hw _ (List.mem_of_getElem? (i := 30) rfl))) (Or.inl (hw _ (List.mem_of_getElem? (i := 32) rfl))) (by decide) (t := .boolean) (t' := .int) (by decide) (by decide))))
        have hf384 : (v6_f_failed_ra0 p1 w_failed_ra0 w_lineLength_ra0 w_boundaryLine_ra0) = (1 : Int32) := ((if_pos hc4_347).trans ((if_pos hc30_353).trans (if_pos hc75_360)))
        have hf385 : (v6_f_position_ra0 w_failed_ra0 w_position_ra0) = (w_position_ra0 + (1 : Int32)) := (if_pos hc4_347)
        have f386 := ((F_lineLength_ra0.other W362 (Or.inr (slot_ne (Or.inl (hw _ (List.mem_of_getElem? (i := 34) rfl))) (Or.inl (hw _ (List.mem_of_getElem? (i := 30) rfl))) (by decide) (t := .int) (t' := .boolean) (by decide) (by decide)))).other W370 (Or.inr (slot_ne (Or.inl (hw _ (List.mem_of_getElem? (i := 34) rfl))) (Or.inl (hw _ (List.mem_of_getElem? (i := 32) rfl))) (by decide) (t := .int) (t' := .int) (by decide) (by decide))))
        have hf387 : (v6_f_lineLength_ra0 p1 w_failed_ra0 w_lineLength_ra0 w_boundaryLine_ra0) = w_lineLength_ra0 := ((if_pos hc4_347).trans ((if_pos hc30_353).trans (if_pos hc75_360)))
        have f388 := ((V_r_line_ra0.other W362 (Ne.symm (own_ne_oa E_ra0 (hw _ (List.mem_of_getElem? (i := 12) rfl)) V_r_line_ra0))).other W370 (Ne.symm (own_ne_oa E_ra0 (hw _ (List.mem_of_getElem? (i := 12) rfl)) V_r_line_ra0)))
        have ha389 : (v6_a_r_line_ra0 p1 w_failed_ra0 w_lineLength_ra0 L_r_line_ra0) = L_r_line_ra0 := ((if_pos hc4_347).trans ((if_pos hc30_353).trans (if_pos hc75_360)))
        have hK390 : (v6_cls p1 w_failed_ra0 w_lineLength_ra0 w_boundaryLine_ra0) = (0 : Int32) := ((if_pos hc4_347).trans (if_pos hc30_353))
        refine ⟨_, _, k378 _ ?_, hrun, hended, _, _, rfl, ?_, ⟨_, rfl⟩, hW, hsame.mono (by decide) (by decide)⟩
        · show Steps p.tables e below (T374.setTop (mkF m 226 #[rv ra0, iv p1, .val .null, iv (v6_14_s0 p1), .unset] [.null])) _
          exact retOut X374 hx (t := (.array .byte)) Bd.returns rfl (Or.inr (Or.inr (Or.inr (Or.inr ⟨rfl, rfl, rfl⟩)))) (hb hby d6_226) hr
        · show Q6 Z ra0 p1 w_failed_ra0 w_position_ra0 w_lineLength_ra0 r_line_ra0 k_r_line_ra0 L_r_line_ra0 w_boundaryLine_ra0 h0 n0 _ T374.heap _
          rw [e374]
          exact Or.inl ⟨hK390, rfl, N370, K370, f379, f380, (by rw [hf382]; exact f381), (by rw [hf384]; exact f383), (by rw [hf385]; exact Fw370), (by rw [hf387]; exact f386), (by rw [ha389]; exact f388), (by rw [ha389]; exact VL_r_line_ra0)⟩
      · have k399 := fun (t : State) (kk : Steps p.tables e below (T355.setTop (mkF m 135 #[rv ra0, iv p1, .val .null, iv (v6_14_s0 p1), iv (v6_106_s0 p1)] [(.ref ra0)])) t) => k359 t (by
          refine XS.ifYes X355.here hx rfl (pc0 := 75) (pc' := 86) rfl (hb hby d6_75) rfl ((if0 _ _).trans (flt hc75_360).2.1) (by decide) (by decide) ?_
          refine XS.iloadN X355.here hx rfl (hb hby d6_86) rfl ?_
          refine XS.ifYes X355.here hx rfl (pc0 := 87) (pc' := 103) rfl (hb hby d6_87) rfl ((if0 _ _).trans (teq hc30_353).1) (by decide) (by decide) ?_
          show Steps p.tables e below (T355.setTop (mkF m 103 #[rv ra0, iv p1, .val .null, iv (v6_14_s0 p1), .unset] [])) _
          refine XS.iloadN X355.here hx rfl (hb hby d6_103) rfl ?_
          refine XS.bipush X355.here hx rfl (hb hby d6_104) ?_
          suffices k398 : Steps p.tables e below (T355.setTop (mkF m 132 #[rv ra0, iv p1, .val .null, iv (v6_14_s0 p1), .unset] [(.int (v6_106_s0 p1))])) t by
            by_cases hc106_391 : p1 = (32 : Int32)
            · rw [(show (v6_106_s0 p1) = (1 : Int32) from if_pos hc106_391)] at k398
              refine XS.icmpYes X355.here hx rfl (pc0 := 106) (pc' := 127) rfl (hb hby d6_106) rfl (teq hc106_391).1 (by decide) (by decide) ?_
              refine XS.iconst X355.here hx rfl (hb hby d6_127) ?_
              refine XS.goto X355.here hx rfl (pc0 := 128) (pc' := 132) rfl (hb hby d6_128) (by decide) (by decide) ?_
              exact k398
            · rw [(show (v6_106_s0 p1) = (v6_112_s0 p1) from if_neg hc106_391)] at k398
              refine XS.icmpNo X355.here hx rfl (hb hby d6_106) rfl (feq hc106_391).1 ?_
              refine XS.iloadN X355.here hx rfl (hb hby d6_109) rfl ?_
              refine XS.bipush X355.here hx rfl (hb hby d6_110) ?_
              suffices k397 : Steps p.tables e below (T355.setTop (mkF m 132 #[rv ra0, iv p1, .val .null, iv (v6_14_s0 p1), .unset] [(.int (v6_112_s0 p1))])) t by
                by_cases hc112_392 : p1 = (9 : Int32)
                · rw [(show (v6_112_s0 p1) = (1 : Int32) from if_pos hc112_392)] at k397
                  refine XS.icmpYes X355.here hx rfl (pc0 := 112) (pc' := 127) rfl (hb hby d6_112) rfl (teq hc112_392).1 (by decide) (by decide) ?_
                  refine XS.iconst X355.here hx rfl (hb hby d6_127) ?_
                  refine XS.goto X355.here hx rfl (pc0 := 128) (pc' := 132) rfl (hb hby d6_128) (by decide) (by decide) ?_
                  exact k397
                · rw [(show (v6_112_s0 p1) = (v6_118_s0 p1) from if_neg hc112_392)] at k397
                  refine XS.icmpNo X355.here hx rfl (hb hby d6_112) rfl (feq hc112_392).1 ?_
                  show Steps p.tables e below (T355.setTop (mkF m 115 #[rv ra0, iv p1, .val .null, iv (v6_14_s0 p1), .unset] [])) _
                  refine XS.iloadN X355.here hx rfl (hb hby d6_115) rfl ?_
                  refine XS.bipush X355.here hx rfl (hb hby d6_116) ?_
                  suffices k396 : Steps p.tables e below (T355.setTop (mkF m 132 #[rv ra0, iv p1, .val .null, iv (v6_14_s0 p1), .unset] [(.int (v6_118_s0 p1))])) t by
                    by_cases hc118_393 : p1 = (11 : Int32)
                    · rw [(show (v6_118_s0 p1) = (1 : Int32) from if_pos hc118_393)] at k396
                      refine XS.icmpYes X355.here hx rfl (pc0 := 118) (pc' := 127) rfl (hb hby d6_118) rfl (teq hc118_393).1 (by decide) (by decide) ?_
                      refine XS.iconst X355.here hx rfl (hb hby d6_127) ?_
                      refine XS.goto X355.here hx rfl (pc0 := 128) (pc' := 132) rfl (hb hby d6_128) (by decide) (by decide) ?_
                      exact k396
                    · rw [(show (v6_118_s0 p1) = (v6_124_s0 p1) from if_neg hc118_393)] at k396
                      refine XS.icmpNo X355.here hx rfl (hb hby d6_118) rfl (feq hc118_393).1 ?_
                      refine XS.iloadN X355.here hx rfl (hb hby d6_121) rfl ?_
                      refine XS.bipush X355.here hx rfl (hb hby d6_122) ?_
                      suffices k395 : Steps p.tables e below (T355.setTop (mkF m 132 #[rv ra0, iv p1, .val .null, iv (v6_14_s0 p1), .unset] [(.int (v6_124_s0 p1))])) t by
                        by_cases hc124_394 : p1 = (12 : Int32)
                        · rw [(show (v6_124_s0 p1) = (1 : Int32) from if_pos hc124_394)] at k395
                          refine XS.icmpNo X355.here hx rfl (hb hby d6_124) rfl (teq hc124_394).2 ?_
                          refine XS.iconst X355.here hx rfl (hb hby d6_127) ?_
                          refine XS.goto X355.here hx rfl (pc0 := 128) (pc' := 132) rfl (hb hby d6_128) (by decide) (by decide) ?_
                          exact k395
                        · rw [(show (v6_124_s0 p1) = (0 : Int32) from if_neg hc124_394)] at k395
                          refine XS.icmpYes X355.here hx rfl (pc0 := 124) (pc' := 131) rfl (hb hby d6_124) rfl (feq hc124_394).2 (by decide) (by decide) ?_
                          show Steps p.tables e below (T355.setTop (mkF m 131 #[rv ra0, iv p1, .val .null, iv (v6_14_s0 p1), .unset] [])) _
                          refine XS.iconst X355.here hx rfl (hb hby d6_131) ?_
                          exact k395
                      exact k396
                  exact k397
              exact k398
          refine XS.istore X355.here hx rfl (hb hby d6_132) rfl (l' := #[rv ra0, iv p1, .val .null, iv (v6_14_s0 p1), iv (v6_106_s0 p1)]) rfl ?_
          refine XS.aloadN X355.here hx rfl (hb hby d6_134) rfl rfl ?_
          exact kk)
        obtain ⟨T400, X400, e400, st400⟩ := getF X355 hx hZ hown (host := "") (Or.inl (hw _ (List.mem_of_getElem? (i := 33) rfl))) Via.refl e355 F_lineLength_ra0 (g := (mkF m 135 #[rv ra0, iv p1, .val .null, iv (v6_14_s0 p1), iv (v6_106_s0 p1)] [(.ref ra0)])) rfl rfl (hb hby d6_135)
        have k401 := fun (t : State) (kk : Steps p.tables e below (T400.setTop (mkF m 138 #[rv ra0, iv p1, .val .null, iv (v6_14_s0 p1), iv (v6_106_s0 p1)] [(.int w_lineLength_ra0)])) t) => k399 t (st400 _ kk)
        have k402 := fun (t : State) (kk : Steps p.tables e below (T400.setTop (mkF m 139 #[rv ra0, iv p1, .val .null, iv (v6_14_s0 p1), iv (v6_106_s0 p1)] [(.int 2), (.int w_lineLength_ra0)])) t) => k401 t (by
          refine XS.iconst X400.here hx rfl (hb hby d6_138) ?_
          exact kk)
        by_cases hc139_403 : w_lineLength_ra0 < (2 : Int32)
        · have k404 := fun (t : State) (kk : Steps p.tables e below (T400.setTop (mkF m 145 #[rv ra0, iv p1, .val .null, iv (v6_14_s0 p1), iv (v6_106_s0 p1)] [(.int 45), (.int p1)])) t) => k402 t (by
            refine XS.icmpNo X400.here hx rfl (hb hby d6_139) rfl (tlt hc139_403).2.1 ?_
            refine XS.iloadN X400.here hx rfl (hb hby d6_142) rfl ?_
            refine XS.bipush X400.here hx rfl (hb hby d6_143) ?_
            exact kk)
          by_cases hc145_405 : p1 = (45 : Int32)
          · have k406 := fun (t : State) (kk : Steps p.tables e below (T400.setTop (mkF m 162 #[rv ra0, iv p1, .val .null, iv (v6_14_s0 p1), iv (v6_106_s0 p1)] [(.ref ra0)])) t) => k404 t (by
              refine XS.icmpYes X400.here hx rfl (pc0 := 145) (pc' := 161) rfl (hb hby d6_145) rfl (teq hc145_405).1 (by decide) (by decide) ?_
              refine XS.aloadN X400.here hx rfl (hb hby d6_161) rfl rfl ?_
              exact kk)
            obtain ⟨T407, X407, e407, st407⟩ := getF X400 hx hZ hown (host := "") (Or.inl (hw _ (List.mem_of_getElem? (i := 20) rfl))) Via.refl e400 F_line_ra0 (g := (mkF m 162 #[rv ra0, iv p1, .val .null, iv (v6_14_s0 p1), iv (v6_106_s0 p1)] [(.ref ra0)])) rfl rfl (hb hby d6_162)
            have k408 := fun (t : State) (kk : Steps p.tables e below (T407.setTop (mkF m 165 #[rv ra0, iv p1, .val .null, iv (v6_14_s0 p1), iv (v6_106_s0 p1)] [(.ref r_line_ra0)])) t) => k406 t (st407 _ kk)
            have k409 := fun (t : State) (kk : Steps p.tables e below (T407.setTop (mkF m 166 #[rv ra0, iv p1, .val .null, iv (v6_14_s0 p1), iv (v6_106_s0 p1)] [(.ref ra0), (.ref r_line_ra0)])) t) => k408 t (by
              refine XS.aloadN X407.here hx rfl (hb hby d6_165) rfl rfl ?_
              exact kk)
            obtain ⟨T410, X410, e410, st410⟩ := getF X407 hx hZ hown (host := "") (Or.inl (hw _ (List.mem_of_getElem? (i := 33) rfl))) Via.refl e407 F_lineLength_ra0 (g := (mkF m 166 #[rv ra0, iv p1, .val .null, iv (v6_14_s0 p1), iv (v6_106_s0 p1)] [(.ref ra0), (.ref r_line_ra0)])) rfl rfl (hb hby d6_166)
            have k411 := fun (t : State) (kk : Steps p.tables e below (T410.setTop (mkF m 169 #[rv ra0, iv p1, .val .null, iv (v6_14_s0 p1), iv (v6_106_s0 p1)] [(.int w_lineLength_ra0), (.ref r_line_ra0)])) t) => k409 t (st410 _ kk)
            have k412 := fun (t : State) (kk : Steps p.tables e below (T410.setTop (mkF m 170 #[rv ra0, iv p1, .val .null, iv (v6_14_s0 p1), iv (v6_106_s0 p1)] [(.int p1), (.int w_lineLength_ra0), (.ref r_line_ra0)])) t) => k411 t (by
              refine XS.iloadN X410.here hx rfl (hb hby d6_169) rfl ?_
              exact kk)
            have hV413 := V_r_line_ra0
            obtain ⟨cl413, Ar413, q413, S413, Nn413, H413, G413⟩ := hV413
            have hb414 : ¬ w_lineLength_ra0 < 0 ∧ w_lineLength_ra0 < (2048 : Int32) := own_ll3 hll
            have hin414 : ¬ (w_lineLength_ra0 < 0 ∨ cl413.slots.size ≤ (w_lineLength_ra0).toNatClampNeg) := inb_of S413 hb414
            obtain ⟨T414, h414, X414, e414, W414, st414⟩ := stB X410 hx hZ e410 Ar413 (j := w_lineLength_ra0) hin414 (g := (mkF m 170 #[rv ra0, iv p1, .val .null, iv (v6_14_s0 p1), iv (v6_106_s0 p1)] [(.int p1), (.int w_lineLength_ra0), (.ref r_line_ra0)])) rfl rfl (hb hby d6_170)
            have hl414 : (w_lineLength_ra0).toNatClampNeg < (List.map Value.int L_r_line_ra0).length := by rw [List.length_map, VL_r_line_ra0]; exact own_lt_nat hb414.1 hb414.2
            have V414r : Arv Z h414 r_line_ra0 k_r_line_ra0 .byte (2048 : Int32) (List.map Value.int (L_r_line_ra0.set (w_lineLength_ra0).toNatClampNeg ((p1).toInt8.toInt32))) (.int 0) := by rw [List.map_set]; exact Arv.set Ar413 q413 S413 Nn413 H413 G413 (fits_nar_byte _) W414 _ rfl hl414
            have V414 : Arv Z h414 r_line_ra0 k_r_line_ra0 .byte (2048 : Int32) (List.map Value.int (v6_170_L p1 w_lineLength_ra0 L_r_line_ra0)) (.int 0) := V414r
            have VL414 : (v6_170_L p1 w_lineLength_ra0 L_r_line_ra0).length = ((2048 : Int32)).toNatClampNeg := (List.length_set).trans VL_r_line_ra0
            have K414 : Keep h0 h414 [ra0, r_line_ra0] := KC0.wr W414 (Or.inl (List.mem_of_getElem? (i := 1) rfl))
            have N414 := Fr.snoc X414 N0 g_r_line_ra0
            have k415 := fun (t : State) (kk : Steps p.tables e below (T414.setTop (mkF m 171 #[rv ra0, iv p1, .val .null, iv (v6_14_s0 p1), iv (v6_106_s0 p1)] [])) t) => k412 t (st414 _ kk)
            have k416 := fun (t : State) (kk : Steps p.tables e below (T414.setTop (mkF m 173 #[rv ra0, iv p1, .val .null, iv (v6_14_s0 p1), iv (v6_106_s0 p1)] [(.ref ra0), (.ref ra0)])) t) => k415 t (by
              refine XS.aloadN X414.here hx rfl (hb hby d6_171) rfl rfl ?_
              show Steps p.tables e below (T414.setTop (mkF m 172 #[rv ra0, iv p1, .val .null, iv (v6_14_s0 p1), iv (v6_106_s0 p1)] [(.ref ra0)])) _
              refine XS.dup X414.here hx rfl (hb hby d6_172) rfl rfl ?_
              exact kk)
            have f417 := (F_lineLength_ra0.other W414 (Or.inl (own_ne_oa E_ra0 (hw _ (List.mem_of_getElem? (i := 12) rfl)) V_r_line_ra0)))
            obtain ⟨T418, X418, e418, st418⟩ := getF X414 hx hZ hown (host := "") (Or.inl (hw _ (List.mem_of_getElem? (i := 33) rfl))) Via.refl e414 f417 (g := (mkF m 173 #[rv ra0, iv p1, .val .null, iv (v6_14_s0 p1), iv (v6_106_s0 p1)] [(.ref ra0), (.ref ra0)])) rfl rfl (hb hby d6_173)
            have k419 := fun (t : State) (kk : Steps p.tables e below (T418.setTop (mkF m 176 #[rv ra0, iv p1, .val .null, iv (v6_14_s0 p1), iv (v6_106_s0 p1)] [(.int w_lineLength_ra0), (.ref ra0)])) t) => k416 t (st418 _ kk)
            have k420 := fun (t : State) (kk : Steps p.tables e below (T418.setTop (mkF m 178 #[rv ra0, iv p1, .val .null, iv (v6_14_s0 p1), iv (v6_106_s0 p1)] [(.int (w_lineLength_ra0 + (1 : Int32))), (.ref ra0)])) t) => k419 t (by
              refine XS.iconst X418.here hx rfl (hb hby d6_176) ?_
              refine XS.iadd X418.here hx rfl (hb hby d6_177) rfl ?_
              exact kk)
            have f421 := (E_ra0.wr W414)
            obtain ⟨T422, h422, X422, e422, W422, st422⟩ := putF X418 hx hZ hown (host := "") (Or.inl (hw _ (List.mem_of_getElem? (i := 33) rfl))) Via.refl e418 f417 f421 (Or.inl (hw _ (List.mem_of_getElem? (i := 34) rfl))) (hw _ (List.mem_of_getElem? (i := 12) rfl)) (ty := .int) (by decide) rfl rfl (g := (mkF m 178 #[rv ra0, iv p1, .val .null, iv (v6_14_s0 p1), iv (v6_106_s0 p1)] [(.int (w_lineLength_ra0 + (1 : Int32))), (.ref ra0)])) rfl rfl (hb hby d6_178)
            have Fw422 := f417.same W422
            have K422 : Keep h0 h422 [ra0, r_line_ra0] := K414.wr W422 (Or.inl (List.mem_of_getElem? (i := 0) rfl))
            have N422 := Fr.snoc X422 N414 g_ra0
            have k423 := fun (t : State) (kk : Steps p.tables e below (T422.setTop (mkF m 181 #[rv ra0, iv p1, .val .null, iv (v6_14_s0 p1), iv (v6_106_s0 p1)] [])) t) => k420 t (st422 _ kk)
            have k424 := fun (t : State) (kk : Steps p.tables e below (T422.setTop (mkF m 183 #[rv ra0, iv p1, .val .null, iv (v6_14_s0 p1), iv (v6_106_s0 p1)] [(.ref ra0), (.ref ra0)])) t) => k423 t (by
              refine XS.aloadN X422.here hx rfl (hb hby d6_181) rfl rfl ?_
              refine XS.dup X422.here hx rfl (hb hby d6_182) rfl rfl ?_
              exact kk)
            have f425 := ((F_position_ra0.other W414 (Or.inl (own_ne_oa E_ra0 (hw _ (List.mem_of_getElem? (i := 12) rfl)) V_r_line_ra0))).other W422 (Or.inr (slot_ne (Or.inl (hw _ (List.mem_of_getElem? (i := 32) rfl))) (Or.inl (hw _ (List.mem_of_getElem? (i := 34) rfl))) (by decide) (t := .int) (t' := .int) (by decide) (by decide))))
            obtain ⟨T426, X426, e426, st426⟩ := getF X422 hx hZ hown (host := "") (Or.inl (hw _ (List.mem_of_getElem? (i := 31) rfl))) Via.refl e422 f425 (g := (mkF m 183 #[rv ra0, iv p1, .val .null, iv (v6_14_s0 p1), iv (v6_106_s0 p1)] [(.ref ra0), (.ref ra0)])) rfl rfl (hb hby d6_183)
            have k427 := fun (t : State) (kk : Steps p.tables e below (T426.setTop (mkF m 186 #[rv ra0, iv p1, .val .null, iv (v6_14_s0 p1), iv (v6_106_s0 p1)] [(.int w_position_ra0), (.ref ra0)])) t) => k424 t (st426 _ kk)
            have k428 := fun (t : State) (kk : Steps p.tables e below (T426.setTop (mkF m 188 #[rv ra0, iv p1, .val .null, iv (v6_14_s0 p1), iv (v6_106_s0 p1)] [(.int (w_position_ra0 + (1 : Int32))), (.ref ra0)])) t) => k427 t (by
              refine XS.iconst X426.here hx rfl (hb hby d6_186) ?_
              refine XS.iadd X426.here hx rfl (hb hby d6_187) rfl ?_
              exact kk)
            have f429 := (f421.wr W422)
            obtain ⟨T430, h430, X430, e430, W430, st430⟩ := putF X426 hx hZ hown (host := "") (Or.inl (hw _ (List.mem_of_getElem? (i := 31) rfl))) Via.refl e426 f425 f429 (Or.inl (hw _ (List.mem_of_getElem? (i := 32) rfl))) (hw _ (List.mem_of_getElem? (i := 12) rfl)) (ty := .int) (by decide) rfl rfl (g := (mkF m 188 #[rv ra0, iv p1, .val .null, iv (v6_14_s0 p1), iv (v6_106_s0 p1)] [(.int (w_position_ra0 + (1 : Int32))), (.ref ra0)])) rfl rfl (hb hby d6_188)
            have Fw430 := f425.same W430
            have K430 : Keep h0 h430 [ra0, r_line_ra0] := K422.wr W430 (Or.inl (List.mem_of_getElem? (i := 0) rfl))
            have N430 := Fr.snoc X430 N422 g_ra0
            have k431 := fun (t : State) (kk : Steps p.tables e below (T430.setTop (mkF m 191 #[rv ra0, iv p1, .val .null, iv (v6_14_s0 p1), iv (v6_106_s0 p1)] [])) t) => k428 t (st430 _ kk)
            have k432 := fun (t : State) (kk : Steps p.tables e below (T430.setTop (mkF m 192 #[rv ra0, iv p1, .val .null, iv (v6_14_s0 p1), iv (v6_106_s0 p1)] [.null])) t) => k431 t (by
              refine XS.aloadN X430.here hx rfl (hb hby d6_191) rfl rfl ?_
              exact kk)
            have k433 := fun (t : State) (kk : Steps p.tables e below (T430.setTop (mkF m 196 #[rv ra0, iv p1, .val .null, iv (v6_14_s0 p1), iv (v6_106_s0 p1)] [(.ref ra0)])) t) => k432 t (by
              show Steps p.tables e below (T430.setTop (mkF m 192 #[rv ra0, iv p1, .val .null, iv (v6_14_s0 p1), iv (v6_106_s0 p1)] [.null])) _
              refine XS.ifnonnullNo X430.here hx rfl (hb hby d6_192) rfl ?_
              refine XS.aloadN X430.here hx rfl (hb hby d6_195) rfl rfl ?_
              exact kk)
            obtain ⟨T434, X434, e434, st434⟩ := getF X430 hx hZ hown (host := "") (Or.inl (hw _ (List.mem_of_getElem? (i := 31) rfl))) Via.refl e430 Fw430 (g := (mkF m 196 #[rv ra0, iv p1, .val .null, iv (v6_14_s0 p1), iv (v6_106_s0 p1)] [(.ref ra0)])) rfl rfl (hb hby d6_196)
            have k435 := fun (t : State) (kk : Steps p.tables e below (T434.setTop (mkF m 199 #[rv ra0, iv p1, .val .null, iv (v6_14_s0 p1), iv (v6_106_s0 p1)] [(.int (w_position_ra0 + (1 : Int32)))])) t) => k433 t (st434 _ kk)
            have k436 := fun (t : State) (kk : Steps p.tables e below (T434.setTop (mkF m 202 #[rv ra0, iv p1, .val .null, iv (v6_14_s0 p1), iv (v6_106_s0 p1)] [(.int 2048), (.int (w_position_ra0 + (1 : Int32)))])) t) => k435 t (by
              refine XS.sipush X434.here hx rfl (hb hby d6_199) ?_
              exact kk)
            have hc202_437 : ¬ ((w_position_ra0 + (1 : Int32)) = (2048 : Int32)) := hp2
            have k438 := fun (t : State) (kk : Steps p.tables e below (T434.setTop (mkF m 226 #[rv ra0, iv p1, .val .null, iv (v6_14_s0 p1), iv (v6_106_s0 p1)] [.null])) t) => k436 t (by
              refine XS.icmpYes X434.here hx rfl (pc0 := 202) (pc' := 225) rfl (hb hby d6_202) rfl (feq hc202_437).2 (by decide) (by decide) ?_
              refine XS.aloadN X434.here hx rfl (hb hby d6_225) rfl rfl ?_
              exact kk)
            obtain ⟨fs, hr, hrun, hended, hW, hsame⟩ := X434.leave (v := some .null) (fun h => by rw [Bd.returns] at h; cases h) hlk
            have f439 := (f429.wr W430)
            have f440 := (((F_line_ra0.other W414 (Or.inl (own_ne_oa E_ra0 (hw _ (List.mem_of_getElem? (i := 12) rfl)) V_r_line_ra0))).other W422 (Or.inr (slot_ne (Or.inr (hw _ (List.mem_of_getElem? (i := 21) rfl))) (Or.inl (hw _ (List.mem_of_getElem? (i := 34) rfl))) (by decide) (t := (.array .byte)) (t' := .int) (by decide) (by decide)))).other W430 (Or.inr (slot_ne (Or.inr (hw _ (List.mem_of_getElem? (i := 21) rfl))) (Or.inl (hw _ (List.mem_of_getElem? (i := 32) rfl))) (by decide) (t := (.array .byte)) (t' := .int) (by decide) (by decide))))
            have f441 := (((F_boundaryLine_ra0.other W414 (Or.inl (own_ne_oa E_ra0 (hw _ (List.mem_of_getElem? (i := 12) rfl)) V_r_line_ra0))).other W422 (Or.inr (slot_ne (Or.inl (hw _ (List.mem_of_getElem? (i := 23) rfl))) (Or.inl (hw _ (List.mem_of_getElem? (i := 34) rfl))) (by decide) (t := .boolean) (t' := .int) (by decide) (by decide)))).other W430 (Or.inr (slot_ne (Or.inl (hw _ (List.mem_of_getElem? (i := 23) rfl))) (Or.inl (hw _ (List.mem_of_getElem? (i := 32) rfl))) (by decide) (t := .boolean) (t' := .int) (by decide) (by decide))))
            have hf442 : (v6_f_boundaryLine_ra0 p1 w_failed_ra0 w_lineLength_ra0 w_boundaryLine_ra0) = w_boundaryLine_ra0 := ((if_pos hc4_347).trans ((if_pos hc30_353).trans ((if_neg hc75_360).trans ((if_pos hc139_403).trans (if_pos hc145_405)))))
            have f443 := (((F_failed_ra0.other W414 (Or.inl (own_ne_oa E_ra0 (hw _ (List.mem_of_getElem? (i := 12) rfl)) V_r_line_ra0))).other W422 (Or.inr (slot_ne (Or.inl (hw _ (List.mem_of_getElem? (i := 30) rfl))) (Or.inl (hw _ (List.mem_of_getElem? (i := 34) rfl))) (by decide) (t := .boolean) (t' := .int) (by decide) (by decide)))).other W430 (Or.inr (slot_ne (Or.inl (hw _ (List.mem_of_getElem? (i := 30) rfl))) (Or.inl (hw _ (List.mem_of_getElem? (i := 32) rfl))) (by decide) (t := .boolean) (t' := .int) (by decide) (by decide))))
            have hf444 : (v6_f_failed_ra0 p1 w_failed_ra0 w_lineLength_ra0 w_boundaryLine_ra0) = w_failed_ra0 := ((if_pos hc4_347).trans ((if_pos hc30_353).trans (if_neg hc75_360)))
            have hf445 : (v6_f_position_ra0 w_failed_ra0 w_position_ra0) = (w_position_ra0 + (1 : Int32)) := (if_pos hc4_347)
            have f446 := (Fw422.other W430 (Or.inr (slot_ne (Or.inl (hw _ (List.mem_of_getElem? (i := 34) rfl))) (Or.inl (hw _ (List.mem_of_getElem? (i := 32) rfl))) (by decide) (t := .int) (t' := .int) (by decide) (by decide))))
            have hf447 : (v6_f_lineLength_ra0 p1 w_failed_ra0 w_lineLength_ra0 w_boundaryLine_ra0) = (w_lineLength_ra0 + (1 : Int32)) := ((if_pos hc4_347).trans ((if_pos hc30_353).trans (if_neg hc75_360)))
            have f448 := ((V414.other W422 (Ne.symm (own_ne_oa E_ra0 (hw _ (List.mem_of_getElem? (i := 12) rfl)) V_r_line_ra0))).other W430 (Ne.symm (own_ne_oa E_ra0 (hw _ (List.mem_of_getElem? (i := 12) rfl)) V_r_line_ra0)))
            have ha449 : (v6_a_r_line_ra0 p1 w_failed_ra0 w_lineLength_ra0 L_r_line_ra0) = (v6_170_L p1 w_lineLength_ra0 L_r_line_ra0) := ((if_pos hc4_347).trans ((if_pos hc30_353).trans (if_neg hc75_360)))
            have hK450 : (v6_cls p1 w_failed_ra0 w_lineLength_ra0 w_boundaryLine_ra0) = (0 : Int32) := ((if_pos hc4_347).trans (if_pos hc30_353))
            refine ⟨_, _, k438 _ ?_, hrun, hended, _, _, rfl, ?_, ⟨_, rfl⟩, hW, hsame.mono (by decide) (by decide)⟩
            · show Steps p.tables e below (T434.setTop (mkF m 226 #[rv ra0, iv p1, .val .null, iv (v6_14_s0 p1), iv (v6_106_s0 p1)] [.null])) _
              exact retOut X434 hx (t := (.array .byte)) Bd.returns rfl (Or.inr (Or.inr (Or.inr (Or.inr ⟨rfl, rfl, rfl⟩)))) (hb hby d6_226) hr
            · show Q6 Z ra0 p1 w_failed_ra0 w_position_ra0 w_lineLength_ra0 r_line_ra0 k_r_line_ra0 L_r_line_ra0 w_boundaryLine_ra0 h0 n0 _ T434.heap _
              rw [e434]
              exact Or.inl ⟨hK450, rfl, N430, K430, f439, f440, (by rw [hf442]; exact f441), (by rw [hf444]; exact f443), (by rw [hf445]; exact Fw430), (by rw [hf447]; exact f446), (by rw [ha449]; exact f448), (by rw [ha449]; exact VL414)⟩
          · have k451 := fun (t : State) (kk : Steps p.tables e below (T400.setTop (mkF m 158 #[rv ra0, iv p1, .val .null, iv (v6_14_s0 p1), iv (v6_106_s0 p1)] [(.int 0), (.ref ra0)])) t) => k404 t (by
              show Steps p.tables e below (T400.setTop (mkF m 145 #[rv ra0, iv p1, .val .null, iv (v6_14_s0 p1), iv (v6_106_s0 p1)] [(.int 45), (.int p1)])) _
              refine XS.icmpNo X400.here hx rfl (hb hby d6_145) rfl (feq hc145_405).1 ?_
              refine XS.goto X400.here hx rfl (pc0 := 148) (pc' := 156) rfl (hb hby d6_148) (by decide) (by decide) ?_
              refine XS.aloadN X400.here hx rfl (hb hby d6_156) rfl rfl ?_
              refine XS.iconst X400.here hx rfl (hb hby d6_157) ?_
              exact kk)
            obtain ⟨T452, h452, X452, e452, W452, st452⟩ := putFN X400 hx hZ hown (hw _ (List.mem_of_getElem? (i := 22) rfl)) Via.refl e400 F_boundaryLine_ra0 E_ra0 (Or.inl (hw _ (List.mem_of_getElem? (i := 23) rfl))) (hw _ (List.mem_of_getElem? (i := 12) rfl)) (ty := .boolean) (v' := (.int 0)) (by decide) rfl rfl (g := (mkF m 158 #[rv ra0, iv p1, .val .null, iv (v6_14_s0 p1), iv (v6_106_s0 p1)] [(.int 0), (.ref ra0)])) rfl rfl (hb hby d6_158)
            have Fw452 := F_boundaryLine_ra0.same W452
            have K452 : Keep h0 h452 [ra0, r_line_ra0] := KC0.wr W452 (Or.inl (List.mem_of_getElem? (i := 0) rfl))
            have N452 := Fr.snoc X452 N0 g_ra0
            have k453 := fun (t : State) (kk : Steps p.tables e below (T452.setTop (mkF m 161 #[rv ra0, iv p1, .val .null, iv (v6_14_s0 p1), iv (v6_106_s0 p1)] [])) t) => k451 t (st452 _ kk)
            have k454 := fun (t : State) (kk : Steps p.tables e below (T452.setTop (mkF m 162 #[rv ra0, iv p1, .val .null, iv (v6_14_s0 p1), iv (v6_106_s0 p1)] [(.ref ra0)])) t) => k453 t (by
              refine XS.aloadN X452.here hx rfl (hb hby d6_161) rfl rfl ?_
              exact kk)
            have f455 := (F_line_ra0.other W452 (Or.inr (slot_ne (Or.inr (hw _ (List.mem_of_getElem? (i := 21) rfl))) (Or.inl (hw _ (List.mem_of_getElem? (i := 23) rfl))) (by decide) (t := (.array .byte)) (t' := .boolean) (by decide) (by decide))))
            obtain ⟨T456, X456, e456, st456⟩ := getF X452 hx hZ hown (host := "") (Or.inl (hw _ (List.mem_of_getElem? (i := 20) rfl))) Via.refl e452 f455 (g := (mkF m 162 #[rv ra0, iv p1, .val .null, iv (v6_14_s0 p1), iv (v6_106_s0 p1)] [(.ref ra0)])) rfl rfl (hb hby d6_162)
            have k457 := fun (t : State) (kk : Steps p.tables e below (T456.setTop (mkF m 165 #[rv ra0, iv p1, .val .null, iv (v6_14_s0 p1), iv (v6_106_s0 p1)] [(.ref r_line_ra0)])) t) => k454 t (st456 _ kk)
            have k458 := fun (t : State) (kk : Steps p.tables e below (T456.setTop (mkF m 166 #[rv ra0, iv p1, .val .null, iv (v6_14_s0 p1), iv (v6_106_s0 p1)] [(.ref ra0), (.ref r_line_ra0)])) t) => k457 t (by
              refine XS.aloadN X456.here hx rfl (hb hby d6_165) rfl rfl ?_
              exact kk)
            have f459 := (F_lineLength_ra0.other W452 (Or.inr (slot_ne (Or.inl (hw _ (List.mem_of_getElem? (i := 34) rfl))) (Or.inl (hw _ (List.mem_of_getElem? (i := 23) rfl))) (by decide) (t := .int) (t' := .boolean) (by decide) (by decide))))
            obtain ⟨T460, X460, e460, st460⟩ := getF X456 hx hZ hown (host := "") (Or.inl (hw _ (List.mem_of_getElem? (i := 33) rfl))) Via.refl e456 f459 (g := (mkF m 166 #[rv ra0, iv p1, .val .null, iv (v6_14_s0 p1), iv (v6_106_s0 p1)] [(.ref ra0), (.ref r_line_ra0)])) rfl rfl (hb hby d6_166)
            have k461 := fun (t : State) (kk : Steps p.tables e below (T460.setTop (mkF m 169 #[rv ra0, iv p1, .val .null, iv (v6_14_s0 p1), iv (v6_106_s0 p1)] [(.int w_lineLength_ra0), (.ref r_line_ra0)])) t) => k458 t (st460 _ kk)
            have k462 := fun (t : State) (kk : Steps p.tables e below (T460.setTop (mkF m 170 #[rv ra0, iv p1, .val .null, iv (v6_14_s0 p1), iv (v6_106_s0 p1)] [(.int p1), (.int w_lineLength_ra0), (.ref r_line_ra0)])) t) => k461 t (by
              refine XS.iloadN X460.here hx rfl (hb hby d6_169) rfl ?_
              exact kk)
            have f463 := (V_r_line_ra0.other W452 (Ne.symm (own_ne_oa E_ra0 (hw _ (List.mem_of_getElem? (i := 12) rfl)) V_r_line_ra0)))
            have hV464 := f463
            obtain ⟨cl464, Ar464, q464, S464, Nn464, H464, G464⟩ := hV464
            have hb465 : ¬ w_lineLength_ra0 < 0 ∧ w_lineLength_ra0 < (2048 : Int32) := own_ll3 hll
            have hin465 : ¬ (w_lineLength_ra0 < 0 ∨ cl464.slots.size ≤ (w_lineLength_ra0).toNatClampNeg) := inb_of S464 hb465
            obtain ⟨T465, h465, X465, e465, W465, st465⟩ := stB X460 hx hZ e460 Ar464 (j := w_lineLength_ra0) hin465 (g := (mkF m 170 #[rv ra0, iv p1, .val .null, iv (v6_14_s0 p1), iv (v6_106_s0 p1)] [(.int p1), (.int w_lineLength_ra0), (.ref r_line_ra0)])) rfl rfl (hb hby d6_170)
            have hl465 : (w_lineLength_ra0).toNatClampNeg < (List.map Value.int L_r_line_ra0).length := by rw [List.length_map, VL_r_line_ra0]; exact own_lt_nat hb465.1 hb465.2
            have V465r : Arv Z h465 r_line_ra0 k_r_line_ra0 .byte (2048 : Int32) (List.map Value.int (L_r_line_ra0.set (w_lineLength_ra0).toNatClampNeg ((p1).toInt8.toInt32))) (.int 0) := by rw [List.map_set]; exact Arv.set Ar464 q464 S464 Nn464 H464 G464 (fits_nar_byte _) W465 _ rfl hl465
            have V465 : Arv Z h465 r_line_ra0 k_r_line_ra0 .byte (2048 : Int32) (List.map Value.int (v6_170_L p1 w_lineLength_ra0 L_r_line_ra0)) (.int 0) := V465r
            have VL465 : (v6_170_L p1 w_lineLength_ra0 L_r_line_ra0).length = ((2048 : Int32)).toNatClampNeg := (List.length_set).trans VL_r_line_ra0
            have K465 : Keep h0 h465 [ra0, r_line_ra0] := K452.wr W465 (Or.inl (List.mem_of_getElem? (i := 1) rfl))
            have N465 := Fr.snoc X465 N452 g_r_line_ra0
            have k466 := fun (t : State) (kk : Steps p.tables e below (T465.setTop (mkF m 171 #[rv ra0, iv p1, .val .null, iv (v6_14_s0 p1), iv (v6_106_s0 p1)] [])) t) => k462 t (st465 _ kk)
            have k467 := fun (t : State) (kk : Steps p.tables e below (T465.setTop (mkF m 173 #[rv ra0, iv p1, .val .null, iv (v6_14_s0 p1), iv (v6_106_s0 p1)] [(.ref ra0), (.ref ra0)])) t) => k466 t (by
              refine XS.aloadN X465.here hx rfl (hb hby d6_171) rfl rfl ?_
              refine XS.dup X465.here hx rfl (hb hby d6_172) rfl rfl ?_
              exact kk)
            have f468 := (f459.other W465 (Or.inl (own_ne_oa E_ra0 (hw _ (List.mem_of_getElem? (i := 12) rfl)) V_r_line_ra0)))
            obtain ⟨T469, X469, e469, st469⟩ := getF X465 hx hZ hown (host := "") (Or.inl (hw _ (List.mem_of_getElem? (i := 33) rfl))) Via.refl e465 f468 (g := (mkF m 173 #[rv ra0, iv p1, .val .null, iv (v6_14_s0 p1), iv (v6_106_s0 p1)] [(.ref ra0), (.ref ra0)])) rfl rfl (hb hby d6_173)
            have k470 := fun (t : State) (kk : Steps p.tables e below (T469.setTop (mkF m 176 #[rv ra0, iv p1, .val .null, iv (v6_14_s0 p1), iv (v6_106_s0 p1)] [(.int w_lineLength_ra0), (.ref ra0)])) t) => k467 t (st469 _ kk)
            have k471 := fun (t : State) (kk : Steps p.tables e below (T469.setTop (mkF m 178 #[rv ra0, iv p1, .val .null, iv (v6_14_s0 p1), iv (v6_106_s0 p1)] [(.int (w_lineLength_ra0 + (1 : Int32))), (.ref ra0)])) t) => k470 t (by
              refine XS.iconst X469.here hx rfl (hb hby d6_176) ?_
              refine XS.iadd X469.here hx rfl (hb hby d6_177) rfl ?_
              exact kk)
            have f472 := ((E_ra0.wr W452).wr W465)
            obtain ⟨T473, h473, X473, e473, W473, st473⟩ := putF X469 hx hZ hown (host := "") (Or.inl (hw _ (List.mem_of_getElem? (i := 33) rfl))) Via.refl e469 f468 f472 (Or.inl (hw _ (List.mem_of_getElem? (i := 34) rfl))) (hw _ (List.mem_of_getElem? (i := 12) rfl)) (ty := .int) (by decide) rfl rfl (g := (mkF m 178 #[rv ra0, iv p1, .val .null, iv (v6_14_s0 p1), iv (v6_106_s0 p1)] [(.int (w_lineLength_ra0 + (1 : Int32))), (.ref ra0)])) rfl rfl (hb hby d6_178)
            have Fw473 := f468.same W473
            have K473 : Keep h0 h473 [ra0, r_line_ra0] := K465.wr W473 (Or.inl (List.mem_of_getElem? (i := 0) rfl))
            have N473 := Fr.snoc X473 N465 g_ra0
            have k474 := fun (t : State) (kk : Steps p.tables e below (T473.setTop (mkF m 181 #[rv ra0, iv p1, .val .null, iv (v6_14_s0 p1), iv (v6_106_s0 p1)] [])) t) => k471 t (st473 _ kk)
            have k475 := fun (t : State) (kk : Steps p.tables e below (T473.setTop (mkF m 183 #[rv ra0, iv p1, .val .null, iv (v6_14_s0 p1), iv (v6_106_s0 p1)] [(.ref ra0), (.ref ra0)])) t) => k474 t (by
              refine XS.aloadN X473.here hx rfl (hb hby d6_181) rfl rfl ?_
              show Steps p.tables e below (T473.setTop (mkF m 182 #[rv ra0, iv p1, .val .null, iv (v6_14_s0 p1), iv (v6_106_s0 p1)] [(.ref ra0)])) _
              refine XS.dup X473.here hx rfl (hb hby d6_182) rfl rfl ?_
              exact kk)
            have f476 := (((F_position_ra0.other W452 (Or.inr (slot_ne (Or.inl (hw _ (List.mem_of_getElem? (i := 32) rfl))) (Or.inl (hw _ (List.mem_of_getElem? (i := 23) rfl))) (by decide) (t := .int) (t' := .boolean) (by decide) (by decide)))).other W465 (Or.inl (own_ne_oa E_ra0 (hw _ (List.mem_of_getElem? (i := 12) rfl)) V_r_line_ra0))).other W473 (Or.inr (slot_ne (Or.inl (hw _ (List.mem_of_getElem? (i := 32) rfl))) (Or.inl (hw _ (List.mem_of_getElem? (i := 34) rfl))) (by decide) (t := .int) (t' := .int) (by decide) (by decide))))
            obtain ⟨T477, X477, e477, st477⟩ := getF X473 hx hZ hown (host := "") (Or.inl (hw _ (List.mem_of_getElem? (i := 31) rfl))) Via.refl e473 f476 (g := (mkF m 183 #[rv ra0, iv p1, .val .null, iv (v6_14_s0 p1), iv (v6_106_s0 p1)] [(.ref ra0), (.ref ra0)])) rfl rfl (hb hby d6_183)
            have k478 := fun (t : State) (kk : Steps p.tables e below (T477.setTop (mkF m 186 #[rv ra0, iv p1, .val .null, iv (v6_14_s0 p1), iv (v6_106_s0 p1)] [(.int w_position_ra0), (.ref ra0)])) t) => k475 t (st477 _ kk)
            have k479 := fun (t : State) (kk : Steps p.tables e below (T477.setTop (mkF m 188 #[rv ra0, iv p1, .val .null, iv (v6_14_s0 p1), iv (v6_106_s0 p1)] [(.int (w_position_ra0 + (1 : Int32))), (.ref ra0)])) t) => k478 t (by
              refine XS.iconst X477.here hx rfl (hb hby d6_186) ?_
              refine XS.iadd X477.here hx rfl (hb hby d6_187) rfl ?_
              exact kk)
            have f480 := (f472.wr W473)
            obtain ⟨T481, h481, X481, e481, W481, st481⟩ := putF X477 hx hZ hown (host := "") (Or.inl (hw _ (List.mem_of_getElem? (i := 31) rfl))) Via.refl e477 f476 f480 (Or.inl (hw _ (List.mem_of_getElem? (i := 32) rfl))) (hw _ (List.mem_of_getElem? (i := 12) rfl)) (ty := .int) (by decide) rfl rfl (g := (mkF m 188 #[rv ra0, iv p1, .val .null, iv (v6_14_s0 p1), iv (v6_106_s0 p1)] [(.int (w_position_ra0 + (1 : Int32))), (.ref ra0)])) rfl rfl (hb hby d6_188)
            have Fw481 := f476.same W481
            have K481 : Keep h0 h481 [ra0, r_line_ra0] := K473.wr W481 (Or.inl (List.mem_of_getElem? (i := 0) rfl))
            have N481 := Fr.snoc X481 N473 g_ra0
            have k482 := fun (t : State) (kk : Steps p.tables e below (T481.setTop (mkF m 191 #[rv ra0, iv p1, .val .null, iv (v6_14_s0 p1), iv (v6_106_s0 p1)] [])) t) => k479 t (st481 _ kk)
            have k483 := fun (t : State) (kk : Steps p.tables e below (T481.setTop (mkF m 192 #[rv ra0, iv p1, .val .null, iv (v6_14_s0 p1), iv (v6_106_s0 p1)] [.null])) t) => k482 t (by
              refine XS.aloadN X481.here hx rfl (hb hby d6_191) rfl rfl ?_
              exact kk)
            have k484 := fun (t : State) (kk : Steps p.tables e below (T481.setTop (mkF m 196 #[rv ra0, iv p1, .val .null, iv (v6_14_s0 p1), iv (v6_106_s0 p1)] [(.ref ra0)])) t) => k483 t (by
              show Steps p.tables e below (T481.setTop (mkF m 192 #[rv ra0, iv p1, .val .null, iv (v6_14_s0 p1), iv (v6_106_s0 p1)] [.null])) _
              refine XS.ifnonnullNo X481.here hx rfl (hb hby d6_192) rfl ?_
              refine XS.aloadN X481.here hx rfl (hb hby d6_195) rfl rfl ?_
              exact kk)
            obtain ⟨T485, X485, e485, st485⟩ := getF X481 hx hZ hown (host := "") (Or.inl (hw _ (List.mem_of_getElem? (i := 31) rfl))) Via.refl e481 Fw481 (g := (mkF m 196 #[rv ra0, iv p1, .val .null, iv (v6_14_s0 p1), iv (v6_106_s0 p1)] [(.ref ra0)])) rfl rfl (hb hby d6_196)
            have k486 := fun (t : State) (kk : Steps p.tables e below (T485.setTop (mkF m 199 #[rv ra0, iv p1, .val .null, iv (v6_14_s0 p1), iv (v6_106_s0 p1)] [(.int (w_position_ra0 + (1 : Int32)))])) t) => k484 t (st485 _ kk)
            have k487 := fun (t : State) (kk : Steps p.tables e below (T485.setTop (mkF m 202 #[rv ra0, iv p1, .val .null, iv (v6_14_s0 p1), iv (v6_106_s0 p1)] [(.int 2048), (.int (w_position_ra0 + (1 : Int32)))])) t) => k486 t (by
              refine XS.sipush X485.here hx rfl (hb hby d6_199) ?_
              exact kk)
            have hc202_488 : ¬ ((w_position_ra0 + (1 : Int32)) = (2048 : Int32)) := hp2
            have k489 := fun (t : State) (kk : Steps p.tables e below (T485.setTop (mkF m 226 #[rv ra0, iv p1, .val .null, iv (v6_14_s0 p1), iv (v6_106_s0 p1)] [.null])) t) => k487 t (by
              refine XS.icmpYes X485.here hx rfl (pc0 := 202) (pc' := 225) rfl (hb hby d6_202) rfl (feq hc202_488).2 (by decide) (by decide) ?_
              refine XS.aloadN X485.here hx rfl (hb hby d6_225) rfl rfl ?_
              exact kk)
            obtain ⟨fs, hr, hrun, hended, hW, hsame⟩ := X485.leave (v := some .null) (fun h => by rw [Bd.returns] at h; cases h) hlk
            have f490 := (f480.wr W481)
            have f491 := (((f455.other W465 (Or.inl (own_ne_oa E_ra0 (hw _ (List.mem_of_getElem? (i := 12) rfl)) V_r_line_ra0))).other W473 (Or.inr (slot_ne (Or.inr (hw _ (List.mem_of_getElem? (i := 21) rfl))) (Or.inl (hw _ (List.mem_of_getElem? (i := 34) rfl))) (by decide) (t := (.array .byte)) (t' := .int) (by decide) (by decide)))).other W481 (Or.inr (slot_ne (Or.inr (hw _ (List.mem_of_getElem? (i := 21) rfl))) (Or.inl (hw _ (List.mem_of_getElem? (i := 32) rfl))) (by decide) (t := (.array .byte)) (t' := .int) (by decide) (by decide))))
            have f492 := (((Fw452.other W465 (Or.inl (own_ne_oa E_ra0 (hw _ (List.mem_of_getElem? (i := 12) rfl)) V_r_line_ra0))).other W473 (Or.inr (slot_ne (Or.inl (hw _ (List.mem_of_getElem? (i := 23) rfl))) (Or.inl (hw _ (List.mem_of_getElem? (i := 34) rfl))) (by decide) (t := .boolean) (t' := .int) (by decide) (by decide)))).other W481 (Or.inr (slot_ne (Or.inl (hw _ (List.mem_of_getElem? (i := 23) rfl))) (Or.inl (hw _ (List.mem_of_getElem? (i := 32) rfl))) (by decide) (t := .boolean) (t' := .int) (by decide) (by decide))))
            have hf493 : (v6_f_boundaryLine_ra0 p1 w_failed_ra0 w_lineLength_ra0 w_boundaryLine_ra0) = (0 : Int32) := ((if_pos hc4_347).trans ((if_pos hc30_353).trans ((if_neg hc75_360).trans ((if_pos hc139_403).trans (if_neg hc145_405)))))
            have f494 := ((((F_failed_ra0.other W452 (Or.inr (slot_ne (Or.inl (hw _ (List.mem_of_getElem? (i := 30) rfl))) (Or.inl (hw _ (List.mem_of_getElem? (i := 23) rfl))) (by decide) (t := .boolean) (t' := .boolean) (by decide) (by decide)))).other W465 (Or.inl (own_ne_oa E_ra0 (hw _ (List.mem_of_getElem? (i := 12) rfl)) V_r_line_ra0))).other W473 (Or.inr (slot_ne (Or.inl (hw _ (List.mem_of_getElem? (i := 30) rfl))) (Or.inl (hw _ (List.mem_of_getElem? (i := 34) rfl))) (by decide) (t := .boolean) (t' := .int) (by decide) (by decide)))).other W481 (Or.inr (slot_ne (Or.inl (hw _ (List.mem_of_getElem? (i := 30) rfl))) (Or.inl (hw _ (List.mem_of_getElem? (i := 32) rfl))) (by decide) (t := .boolean) (t' := .int) (by decide) (by decide))))
            have hf495 : (v6_f_failed_ra0 p1 w_failed_ra0 w_lineLength_ra0 w_boundaryLine_ra0) = w_failed_ra0 := ((if_pos hc4_347).trans ((if_pos hc30_353).trans (if_neg hc75_360)))
            have hf496 : (v6_f_position_ra0 w_failed_ra0 w_position_ra0) = (w_position_ra0 + (1 : Int32)) := (if_pos hc4_347)
            have f497 := (Fw473.other W481 (Or.inr (slot_ne (Or.inl (hw _ (List.mem_of_getElem? (i := 34) rfl))) (Or.inl (hw _ (List.mem_of_getElem? (i := 32) rfl))) (by decide) (t := .int) (t' := .int) (by decide) (by decide))))
            have hf498 : (v6_f_lineLength_ra0 p1 w_failed_ra0 w_lineLength_ra0 w_boundaryLine_ra0) = (w_lineLength_ra0 + (1 : Int32)) := ((if_pos hc4_347).trans ((if_pos hc30_353).trans (if_neg hc75_360)))
            have f499 := ((V465.other W473 (Ne.symm (own_ne_oa E_ra0 (hw _ (List.mem_of_getElem? (i := 12) rfl)) V_r_line_ra0))).other W481 (Ne.symm (own_ne_oa E_ra0 (hw _ (List.mem_of_getElem? (i := 12) rfl)) V_r_line_ra0)))
            have ha500 : (v6_a_r_line_ra0 p1 w_failed_ra0 w_lineLength_ra0 L_r_line_ra0) = (v6_170_L p1 w_lineLength_ra0 L_r_line_ra0) := ((if_pos hc4_347).trans ((if_pos hc30_353).trans (if_neg hc75_360)))
            have hK501 : (v6_cls p1 w_failed_ra0 w_lineLength_ra0 w_boundaryLine_ra0) = (0 : Int32) := ((if_pos hc4_347).trans (if_pos hc30_353))
            refine ⟨_, _, k489 _ ?_, hrun, hended, _, _, rfl, ?_, ⟨_, rfl⟩, hW, hsame.mono (by decide) (by decide)⟩
            · show Steps p.tables e below (T485.setTop (mkF m 226 #[rv ra0, iv p1, .val .null, iv (v6_14_s0 p1), iv (v6_106_s0 p1)] [.null])) _
              exact retOut X485 hx (t := (.array .byte)) Bd.returns rfl (Or.inr (Or.inr (Or.inr (Or.inr ⟨rfl, rfl, rfl⟩)))) (hb hby d6_226) hr
            · show Q6 Z ra0 p1 w_failed_ra0 w_position_ra0 w_lineLength_ra0 r_line_ra0 k_r_line_ra0 L_r_line_ra0 w_boundaryLine_ra0 h0 n0 _ T485.heap _
              rw [e485]
              exact Or.inl ⟨hK501, rfl, N481, K481, f490, f491, (by rw [hf493]; exact f492), (by rw [hf495]; exact f494), (by rw [hf496]; exact Fw481), (by rw [hf498]; exact f497), (by rw [ha500]; exact f499), (by rw [ha500]; exact VL465)⟩
        · have k502 := fun (t : State) (kk : Steps p.tables e below (T400.setTop (mkF m 153 #[rv ra0, iv p1, .val .null, iv (v6_14_s0 p1), iv (v6_106_s0 p1)] [(.int (v6_106_s0 p1))])) t) => k402 t (by
            refine XS.icmpYes X400.here hx rfl (pc0 := 139) (pc' := 151) rfl (hb hby d6_139) rfl (flt hc139_403).2.1 (by decide) (by decide) ?_
            refine XS.iload X400.here hx rfl (hb hby d6_151) rfl ?_
            exact kk)
          by_cases hc153_503 : (v6_106_s0 p1) = (0 : Int32)
          · have k504 := fun (t : State) (kk : Steps p.tables e below (T400.setTop (mkF m 162 #[rv ra0, iv p1, .val .null, iv (v6_14_s0 p1), iv (v6_106_s0 p1)] [(.ref ra0)])) t) => k502 t (by
              refine XS.ifYes X400.here hx rfl (pc0 := 153) (pc' := 161) rfl (hb hby d6_153) rfl ((if0 _ _).trans (teq hc153_503).1) (by decide) (by decide) ?_
              refine XS.aloadN X400.here hx rfl (hb hby d6_161) rfl rfl ?_
              exact kk)
            obtain ⟨T505, X505, e505, st505⟩ := getF X400 hx hZ hown (host := "") (Or.inl (hw _ (List.mem_of_getElem? (i := 20) rfl))) Via.refl e400 F_line_ra0 (g := (mkF m 162 #[rv ra0, iv p1, .val .null, iv (v6_14_s0 p1), iv (v6_106_s0 p1)] [(.ref ra0)])) rfl rfl (hb hby d6_162)
            have k506 := fun (t : State) (kk : Steps p.tables e below (T505.setTop (mkF m 165 #[rv ra0, iv p1, .val .null, iv (v6_14_s0 p1), iv (v6_106_s0 p1)] [(.ref r_line_ra0)])) t) => k504 t (st505 _ kk)
            have k507 := fun (t : State) (kk : Steps p.tables e below (T505.setTop (mkF m 166 #[rv ra0, iv p1, .val .null, iv (v6_14_s0 p1), iv (v6_106_s0 p1)] [(.ref ra0), (.ref r_line_ra0)])) t) => k506 t (by
              show Steps p.tables e below (T505.setTop (mkF m 165 #[rv ra0, iv p1, .val .null, iv (v6_14_s0 p1), iv (v6_106_s0 p1)] [(.ref r_line_ra0)])) _
              refine XS.aloadN X505.here hx rfl (hb hby d6_165) rfl rfl ?_
              exact kk)
            obtain ⟨T508, X508, e508, st508⟩ := getF X505 hx hZ hown (host := "") (Or.inl (hw _ (List.mem_of_getElem? (i := 33) rfl))) Via.refl e505 F_lineLength_ra0 (g := (mkF m 166 #[rv ra0, iv p1, .val .null, iv (v6_14_s0 p1), iv (v6_106_s0 p1)] [(.ref ra0), (.ref r_line_ra0)])) rfl rfl (hb hby d6_166)
            have k509 := fun (t : State) (kk : Steps p.tables e below (T508.setTop (mkF m 169 #[rv ra0, iv p1, .val .null, iv (v6_14_s0 p1), iv (v6_106_s0 p1)] [(.int w_lineLength_ra0), (.ref r_line_ra0)])) t) => k507 t (st508 _ kk)
            have k510 := fun (t : State) (kk : Steps p.tables e below (T508.setTop (mkF m 170 #[rv ra0, iv p1, .val .null, iv (v6_14_s0 p1), iv (v6_106_s0 p1)] [(.int p1), (.int w_lineLength_ra0), (.ref r_line_ra0)])) t) => k509 t (by
              refine XS.iloadN X508.here hx rfl (hb hby d6_169) rfl ?_
              exact kk)
            have hV511 := V_r_line_ra0
            obtain ⟨cl511, Ar511, q511, S511, Nn511, H511, G511⟩ := hV511
            have hb512 : ¬ w_lineLength_ra0 < 0 ∧ w_lineLength_ra0 < (2048 : Int32) := own_ll3 hll
            have hin512 : ¬ (w_lineLength_ra0 < 0 ∨ cl511.slots.size ≤ (w_lineLength_ra0).toNatClampNeg) := inb_of S511 hb512
            obtain ⟨T512, h512, X512, e512, W512, st512⟩ := stB X508 hx hZ e508 Ar511 (j := w_lineLength_ra0) hin512 (g := (mkF m 170 #[rv ra0, iv p1, .val .null, iv (v6_14_s0 p1), iv (v6_106_s0 p1)] [(.int p1), (.int w_lineLength_ra0), (.ref r_line_ra0)])) rfl rfl (hb hby d6_170)
            have hl512 : (w_lineLength_ra0).toNatClampNeg < (List.map Value.int L_r_line_ra0).length := by rw [List.length_map, VL_r_line_ra0]; exact own_lt_nat hb512.1 hb512.2
            have V512r : Arv Z h512 r_line_ra0 k_r_line_ra0 .byte (2048 : Int32) (List.map Value.int (L_r_line_ra0.set (w_lineLength_ra0).toNatClampNeg ((p1).toInt8.toInt32))) (.int 0) := by rw [List.map_set]; exact Arv.set Ar511 q511 S511 Nn511 H511 G511 (fits_nar_byte _) W512 _ rfl hl512
            have V512 : Arv Z h512 r_line_ra0 k_r_line_ra0 .byte (2048 : Int32) (List.map Value.int (v6_170_L p1 w_lineLength_ra0 L_r_line_ra0)) (.int 0) := V512r
            have VL512 : (v6_170_L p1 w_lineLength_ra0 L_r_line_ra0).length = ((2048 : Int32)).toNatClampNeg := (List.length_set).trans VL_r_line_ra0
            have K512 : Keep h0 h512 [ra0, r_line_ra0] := KC0.wr W512 (Or.inl (List.mem_of_getElem? (i := 1) rfl))
            have N512 := Fr.snoc X512 N0 g_r_line_ra0
            have k513 := fun (t : State) (kk : Steps p.tables e below (T512.setTop (mkF m 171 #[rv ra0, iv p1, .val .null, iv (v6_14_s0 p1), iv (v6_106_s0 p1)] [])) t) => k510 t (st512 _ kk)
            have k514 := fun (t : State) (kk : Steps p.tables e below (T512.setTop (mkF m 173 #[rv ra0, iv p1, .val .null, iv (v6_14_s0 p1), iv (v6_106_s0 p1)] [(.ref ra0), (.ref ra0)])) t) => k513 t (by
              refine XS.aloadN X512.here hx rfl (hb hby d6_171) rfl rfl ?_
              refine XS.dup X512.here hx rfl (hb hby d6_172) rfl rfl ?_
              exact kk)
            have f515 := (F_lineLength_ra0.other W512 (Or.inl (own_ne_oa E_ra0 (hw _ (List.mem_of_getElem? (i := 12) rfl)) V_r_line_ra0)))
            obtain ⟨T516, X516, e516, st516⟩ := getF X512 hx hZ hown (host := "") (Or.inl (hw _ (List.mem_of_getElem? (i := 33) rfl))) Via.refl e512 f515 (g := (mkF m 173 #[rv ra0, iv p1, .val .null, iv (v6_14_s0 p1), iv (v6_106_s0 p1)] [(.ref ra0), (.ref ra0)])) rfl rfl (hb hby d6_173)
            have k517 := fun (t : State) (kk : Steps p.tables e below (T516.setTop (mkF m 176 #[rv ra0, iv p1, .val .null, iv (v6_14_s0 p1), iv (v6_106_s0 p1)] [(.int w_lineLength_ra0), (.ref ra0)])) t) => k514 t (st516 _ kk)
            have k518 := fun (t : State) (kk : Steps p.tables e below (T516.setTop (mkF m 178 #[rv ra0, iv p1, .val .null, iv (v6_14_s0 p1), iv (v6_106_s0 p1)] [(.int (w_lineLength_ra0 + (1 : Int32))), (.ref ra0)])) t) => k517 t (by
              refine XS.iconst X516.here hx rfl (hb hby d6_176) ?_
              refine XS.iadd X516.here hx rfl (hb hby d6_177) rfl ?_
              exact kk)
            have f519 := (E_ra0.wr W512)
            obtain ⟨T520, h520, X520, e520, W520, st520⟩ := putF X516 hx hZ hown (host := "") (Or.inl (hw _ (List.mem_of_getElem? (i := 33) rfl))) Via.refl e516 f515 f519 (Or.inl (hw _ (List.mem_of_getElem? (i := 34) rfl))) (hw _ (List.mem_of_getElem? (i := 12) rfl)) (ty := .int) (by decide) rfl rfl (g := (mkF m 178 #[rv ra0, iv p1, .val .null, iv (v6_14_s0 p1), iv (v6_106_s0 p1)] [(.int (w_lineLength_ra0 + (1 : Int32))), (.ref ra0)])) rfl rfl (hb hby d6_178)
            have Fw520 := f515.same W520
            have K520 : Keep h0 h520 [ra0, r_line_ra0] := K512.wr W520 (Or.inl (List.mem_of_getElem? (i := 0) rfl))
            have N520 := Fr.snoc X520 N512 g_ra0
            have k521 := fun (t : State) (kk : Steps p.tables e below (T520.setTop (mkF m 181 #[rv ra0, iv p1, .val .null, iv (v6_14_s0 p1), iv (v6_106_s0 p1)] [])) t) => k518 t (st520 _ kk)
            have k522 := fun (t : State) (kk : Steps p.tables e below (T520.setTop (mkF m 183 #[rv ra0, iv p1, .val .null, iv (v6_14_s0 p1), iv (v6_106_s0 p1)] [(.ref ra0), (.ref ra0)])) t) => k521 t (by
              refine XS.aloadN X520.here hx rfl (hb hby d6_181) rfl rfl ?_
              refine XS.dup X520.here hx rfl (hb hby d6_182) rfl rfl ?_
              exact kk)
            have f523 := ((F_position_ra0.other W512 (Or.inl (own_ne_oa E_ra0 (hw _ (List.mem_of_getElem? (i := 12) rfl)) V_r_line_ra0))).other W520 (Or.inr (slot_ne (Or.inl (hw _ (List.mem_of_getElem? (i := 32) rfl))) (Or.inl (hw _ (List.mem_of_getElem? (i := 34) rfl))) (by decide) (t := .int) (t' := .int) (by decide) (by decide))))
            obtain ⟨T524, X524, e524, st524⟩ := getF X520 hx hZ hown (host := "") (Or.inl (hw _ (List.mem_of_getElem? (i := 31) rfl))) Via.refl e520 f523 (g := (mkF m 183 #[rv ra0, iv p1, .val .null, iv (v6_14_s0 p1), iv (v6_106_s0 p1)] [(.ref ra0), (.ref ra0)])) rfl rfl (hb hby d6_183)
            have k525 := fun (t : State) (kk : Steps p.tables e below (T524.setTop (mkF m 186 #[rv ra0, iv p1, .val .null, iv (v6_14_s0 p1), iv (v6_106_s0 p1)] [(.int w_position_ra0), (.ref ra0)])) t) => k522 t (st524 _ kk)
            have k526 := fun (t : State) (kk : Steps p.tables e below (T524.setTop (mkF m 188 #[rv ra0, iv p1, .val .null, iv (v6_14_s0 p1), iv (v6_106_s0 p1)] [(.int (w_position_ra0 + (1 : Int32))), (.ref ra0)])) t) => k525 t (by
              refine XS.iconst X524.here hx rfl (hb hby d6_186) ?_
              refine XS.iadd X524.here hx rfl (hb hby d6_187) rfl ?_
              exact kk)
            have f527 := (f519.wr W520)
            obtain ⟨T528, h528, X528, e528, W528, st528⟩ := putF X524 hx hZ hown (host := "") (Or.inl (hw _ (List.mem_of_getElem? (i := 31) rfl))) Via.refl e524 f523 f527 (Or.inl (hw _ (List.mem_of_getElem? (i := 32) rfl))) (hw _ (List.mem_of_getElem? (i := 12) rfl)) (ty := .int) (by decide) rfl rfl (g := (mkF m 188 #[rv ra0, iv p1, .val .null, iv (v6_14_s0 p1), iv (v6_106_s0 p1)] [(.int (w_position_ra0 + (1 : Int32))), (.ref ra0)])) rfl rfl (hb hby d6_188)
            have Fw528 := f523.same W528
            have K528 : Keep h0 h528 [ra0, r_line_ra0] := K520.wr W528 (Or.inl (List.mem_of_getElem? (i := 0) rfl))
            have N528 := Fr.snoc X528 N520 g_ra0
            have k529 := fun (t : State) (kk : Steps p.tables e below (T528.setTop (mkF m 191 #[rv ra0, iv p1, .val .null, iv (v6_14_s0 p1), iv (v6_106_s0 p1)] [])) t) => k526 t (st528 _ kk)
            have k530 := fun (t : State) (kk : Steps p.tables e below (T528.setTop (mkF m 192 #[rv ra0, iv p1, .val .null, iv (v6_14_s0 p1), iv (v6_106_s0 p1)] [.null])) t) => k529 t (by
              refine XS.aloadN X528.here hx rfl (hb hby d6_191) rfl rfl ?_
              exact kk)
            have k531 := fun (t : State) (kk : Steps p.tables e below (T528.setTop (mkF m 196 #[rv ra0, iv p1, .val .null, iv (v6_14_s0 p1), iv (v6_106_s0 p1)] [(.ref ra0)])) t) => k530 t (by
              show Steps p.tables e below (T528.setTop (mkF m 192 #[rv ra0, iv p1, .val .null, iv (v6_14_s0 p1), iv (v6_106_s0 p1)] [.null])) _
              refine XS.ifnonnullNo X528.here hx rfl (hb hby d6_192) rfl ?_
              refine XS.aloadN X528.here hx rfl (hb hby d6_195) rfl rfl ?_
              exact kk)
            obtain ⟨T532, X532, e532, st532⟩ := getF X528 hx hZ hown (host := "") (Or.inl (hw _ (List.mem_of_getElem? (i := 31) rfl))) Via.refl e528 Fw528 (g := (mkF m 196 #[rv ra0, iv p1, .val .null, iv (v6_14_s0 p1), iv (v6_106_s0 p1)] [(.ref ra0)])) rfl rfl (hb hby d6_196)
            have k533 := fun (t : State) (kk : Steps p.tables e below (T532.setTop (mkF m 199 #[rv ra0, iv p1, .val .null, iv (v6_14_s0 p1), iv (v6_106_s0 p1)] [(.int (w_position_ra0 + (1 : Int32)))])) t) => k531 t (st532 _ kk)
            have k534 := fun (t : State) (kk : Steps p.tables e below (T532.setTop (mkF m 202 #[rv ra0, iv p1, .val .null, iv (v6_14_s0 p1), iv (v6_106_s0 p1)] [(.int 2048), (.int (w_position_ra0 + (1 : Int32)))])) t) => k533 t (by
              show Steps p.tables e below (T532.setTop (mkF m 199 #[rv ra0, iv p1, .val .null, iv (v6_14_s0 p1), iv (v6_106_s0 p1)] [(.int (w_position_ra0 + (1 : Int32)))])) _
              refine XS.sipush X532.here hx rfl (hb hby d6_199) ?_
              exact kk)
            have hc202_535 : ¬ ((w_position_ra0 + (1 : Int32)) = (2048 : Int32)) := hp2
            have k536 := fun (t : State) (kk : Steps p.tables e below (T532.setTop (mkF m 226 #[rv ra0, iv p1, .val .null, iv (v6_14_s0 p1), iv (v6_106_s0 p1)] [.null])) t) => k534 t (by
              refine XS.icmpYes X532.here hx rfl (pc0 := 202) (pc' := 225) rfl (hb hby d6_202) rfl (feq hc202_535).2 (by decide) (by decide) ?_
              refine XS.aloadN X532.here hx rfl (hb hby d6_225) rfl rfl ?_
              exact kk)
            obtain ⟨fs, hr, hrun, hended, hW, hsame⟩ := X532.leave (v := some .null) (fun h => by rw [Bd.returns] at h; cases h) hlk
            have f537 := (f527.wr W528)
            have f538 := (((F_line_ra0.other W512 (Or.inl (own_ne_oa E_ra0 (hw _ (List.mem_of_getElem? (i := 12) rfl)) V_r_line_ra0))).other W520 (Or.inr (slot_ne (Or.inr (hw _ (List.mem_of_getElem? (i := 21) rfl))) (Or.inl (hw _ (List.mem_of_getElem? (i := 34) rfl))) (by decide) (t := (.array .byte)) (t' := .int) (by decide) (by decide)))).other W528 (Or.inr (slot_ne (Or.inr (hw _ (List.mem_of_getElem? (i := 21) rfl))) (Or.inl (hw _ (List.mem_of_getElem? (i := 32) rfl))) (by decide) (t := (.array .byte)) (t' := .int) (by decide) (by decide))))
            have f539 := (((F_boundaryLine_ra0.other W512 (Or.inl (own_ne_oa E_ra0 (hw _ (List.mem_of_getElem? (i := 12) rfl)) V_r_line_ra0))).other W520 (Or.inr (slot_ne (Or.inl (hw _ (List.mem_of_getElem? (i := 23) rfl))) (Or.inl (hw _ (List.mem_of_getElem? (i := 34) rfl))) (by decide) (t := .boolean) (t' := .int) (by decide) (by decide)))).other W528 (Or.inr (slot_ne (Or.inl (hw _ (List.mem_of_getElem? (i := 23) rfl))) (Or.inl (hw _ (List.mem_of_getElem? (i := 32) rfl))) (by decide) (t := .boolean) (t' := .int) (by decide) (by decide))))
            have hf540 : (v6_f_boundaryLine_ra0 p1 w_failed_ra0 w_lineLength_ra0 w_boundaryLine_ra0) = w_boundaryLine_ra0 := ((if_pos hc4_347).trans ((if_pos hc30_353).trans ((if_neg hc75_360).trans ((if_neg hc139_403).trans (if_pos hc153_503)))))
            have f541 := (((F_failed_ra0.other W512 (Or.inl (own_ne_oa E_ra0 (hw _ (List.mem_of_getElem? (i := 12) rfl)) V_r_line_ra0))).other W520 (Or.inr (slot_ne (Or.inl (hw _ (List.mem_of_getElem? (i := 30) rfl))) (Or.inl (hw _ (List.mem_of_getElem? (i := 34) rfl))) (by decide) (t := .boolean) (t' := .int) (by decide) (by decide)))).other W528 (Or.inr (slot_ne (Or.inl (hw _ (List.mem_of_getElem? (i := 30) rfl))) (Or.inl (hw _ (List.mem_of_getElem? (i := 32) rfl))) (by decide) (t := .boolean) (t' := .int) (by decide) (by decide))))
            have hf542 : (v6_f_failed_ra0 p1 w_failed_ra0 w_lineLength_ra0 w_boundaryLine_ra0) = w_failed_ra0 := ((if_pos hc4_347).trans ((if_pos hc30_353).trans (if_neg hc75_360)))
            have hf543 : (v6_f_position_ra0 w_failed_ra0 w_position_ra0) = (w_position_ra0 + (1 : Int32)) := (if_pos hc4_347)
            have f544 := (Fw520.other W528 (Or.inr (slot_ne (Or.inl (hw _ (List.mem_of_getElem? (i := 34) rfl))) (Or.inl (hw _ (List.mem_of_getElem? (i := 32) rfl))) (by decide) (t := .int) (t' := .int) (by decide) (by decide))))
            have hf545 : (v6_f_lineLength_ra0 p1 w_failed_ra0 w_lineLength_ra0 w_boundaryLine_ra0) = (w_lineLength_ra0 + (1 : Int32)) := ((if_pos hc4_347).trans ((if_pos hc30_353).trans (if_neg hc75_360)))
            have f546 := ((V512.other W520 (Ne.symm (own_ne_oa E_ra0 (hw _ (List.mem_of_getElem? (i := 12) rfl)) V_r_line_ra0))).other W528 (Ne.symm (own_ne_oa E_ra0 (hw _ (List.mem_of_getElem? (i := 12) rfl)) V_r_line_ra0)))
            have ha547 : (v6_a_r_line_ra0 p1 w_failed_ra0 w_lineLength_ra0 L_r_line_ra0) = (v6_170_L p1 w_lineLength_ra0 L_r_line_ra0) := ((if_pos hc4_347).trans ((if_pos hc30_353).trans (if_neg hc75_360)))
            have hK548 : (v6_cls p1 w_failed_ra0 w_lineLength_ra0 w_boundaryLine_ra0) = (0 : Int32) := ((if_pos hc4_347).trans (if_pos hc30_353))
            refine ⟨_, _, k536 _ ?_, hrun, hended, _, _, rfl, ?_, ⟨_, rfl⟩, hW, hsame.mono (by decide) (by decide)⟩
            · show Steps p.tables e below (T532.setTop (mkF m 226 #[rv ra0, iv p1, .val .null, iv (v6_14_s0 p1), iv (v6_106_s0 p1)] [.null])) _
              exact retOut X532 hx (t := (.array .byte)) Bd.returns rfl (Or.inr (Or.inr (Or.inr (Or.inr ⟨rfl, rfl, rfl⟩)))) (hb hby d6_226) hr
            · show Q6 Z ra0 p1 w_failed_ra0 w_position_ra0 w_lineLength_ra0 r_line_ra0 k_r_line_ra0 L_r_line_ra0 w_boundaryLine_ra0 h0 n0 _ T532.heap _
              rw [e532]
              exact Or.inl ⟨hK548, rfl, N528, K528, f537, f538, (by rw [hf540]; exact f539), (by rw [hf542]; exact f541), (by rw [hf543]; exact Fw528), (by rw [hf545]; exact f544), (by rw [ha547]; exact f546), (by rw [ha547]; exact VL512)⟩
          · have k549 := fun (t : State) (kk : Steps p.tables e below (T400.setTop (mkF m 158 #[rv ra0, iv p1, .val .null, iv (v6_14_s0 p1), iv (v6_106_s0 p1)] [(.int 0), (.ref ra0)])) t) => k502 t (by
              refine XS.ifNo X400.here hx rfl (hb hby d6_153) rfl ((if0 _ _).trans (feq hc153_503).1) ?_
              refine XS.aloadN X400.here hx rfl (hb hby d6_156) rfl rfl ?_
              refine XS.iconst X400.here hx rfl (hb hby d6_157) ?_
              exact kk)
            obtain ⟨T550, h550, X550, e550, W550, st550⟩ := putFN X400 hx hZ hown (hw _ (List.mem_of_getElem? (i := 22) rfl)) Via.refl e400 F_boundaryLine_ra0 E_ra0 (Or.inl (hw _ (List.mem_of_getElem? (i := 23) rfl))) (hw _ (List.mem_of_getElem? (i := 12) rfl)) (ty := .boolean) (v' := (.int 0)) (by decide) rfl rfl (g := (mkF m 158 #[rv ra0, iv p1, .val .null, iv (v6_14_s0 p1), iv (v6_106_s0 p1)] [(.int 0), (.ref ra0)])) rfl rfl (hb hby d6_158)
            have Fw550 := F_boundaryLine_ra0.same W550
            have K550 : Keep h0 h550 [ra0, r_line_ra0] := KC0.wr W550 (Or.inl (List.mem_of_getElem? (i := 0) rfl))
            have N550 := Fr.snoc X550 N0 g_ra0
            have k551 := fun (t : State) (kk : Steps p.tables e below (T550.setTop (mkF m 161 #[rv ra0, iv p1, .val .null, iv (v6_14_s0 p1), iv (v6_106_s0 p1)] [])) t) => k549 t (st550 _ kk)
            have k552 := fun (t : State) (kk : Steps p.tables e below (T550.setTop (mkF m 162 #[rv ra0, iv p1, .val .null, iv (v6_14_s0 p1), iv (v6_106_s0 p1)] [(.ref ra0)])) t) => k551 t (by
              refine XS.aloadN X550.here hx rfl (hb hby d6_161) rfl rfl ?_
              exact kk)
            have f553 := (F_line_ra0.other W550 (Or.inr (slot_ne (Or.inr (hw _ (List.mem_of_getElem? (i := 21) rfl))) (Or.inl (hw _ (List.mem_of_getElem? (i := 23) rfl))) (by decide) (t := (.array .byte)) (t' := .boolean) (by decide) (by decide))))
            obtain ⟨T554, X554, e554, st554⟩ := getF X550 hx hZ hown (host := "") (Or.inl (hw _ (List.mem_of_getElem? (i := 20) rfl))) Via.refl e550 f553 (g := (mkF m 162 #[rv ra0, iv p1, .val .null, iv (v6_14_s0 p1), iv (v6_106_s0 p1)] [(.ref ra0)])) rfl rfl (hb hby d6_162)
            have k555 := fun (t : State) (kk : Steps p.tables e below (T554.setTop (mkF m 165 #[rv ra0, iv p1, .val .null, iv (v6_14_s0 p1), iv (v6_106_s0 p1)] [(.ref r_line_ra0)])) t) => k552 t (st554 _ kk)
            have k556 := fun (t : State) (kk : Steps p.tables e below (T554.setTop (mkF m 166 #[rv ra0, iv p1, .val .null, iv (v6_14_s0 p1), iv (v6_106_s0 p1)] [(.ref ra0), (.ref r_line_ra0)])) t) => k555 t (by
              refine XS.aloadN X554.here hx rfl (hb hby d6_165) rfl rfl ?_
              exact kk)
            have f557 := (F_lineLength_ra0.other W550 (Or.inr (slot_ne (Or.inl (hw _ (List.mem_of_getElem? (i := 34) rfl))) (Or.inl (hw _ (List.mem_of_getElem? (i := 23) rfl))) (by decide) (t := .int) (t' := .boolean) (by decide) (by decide))))
            obtain ⟨T558, X558, e558, st558⟩ := getF X554 hx hZ hown (host := "") (Or.inl (hw _ (List.mem_of_getElem? (i := 33) rfl))) Via.refl e554 f557 (g := (mkF m 166 #[rv ra0, iv p1, .val .null, iv (v6_14_s0 p1), iv (v6_106_s0 p1)] [(.ref ra0), (.ref r_line_ra0)])) rfl rfl (hb hby d6_166)
            have k559 := fun (t : State) (kk : Steps p.tables e below (T558.setTop (mkF m 169 #[rv ra0, iv p1, .val .null, iv (v6_14_s0 p1), iv (v6_106_s0 p1)] [(.int w_lineLength_ra0), (.ref r_line_ra0)])) t) => k556 t (st558 _ kk)
            have k560 := fun (t : State) (kk : Steps p.tables e below (T558.setTop (mkF m 170 #[rv ra0, iv p1, .val .null, iv (v6_14_s0 p1), iv (v6_106_s0 p1)] [(.int p1), (.int w_lineLength_ra0), (.ref r_line_ra0)])) t) => k559 t (by
              refine XS.iloadN X558.here hx rfl (hb hby d6_169) rfl ?_
              exact kk)
            have f561 := (V_r_line_ra0.other W550 (Ne.symm (own_ne_oa E_ra0 (hw _ (List.mem_of_getElem? (i := 12) rfl)) V_r_line_ra0)))
            have hV562 := f561
            obtain ⟨cl562, Ar562, q562, S562, Nn562, H562, G562⟩ := hV562
            have hb563 : ¬ w_lineLength_ra0 < 0 ∧ w_lineLength_ra0 < (2048 : Int32) := own_ll3 hll
            have hin563 : ¬ (w_lineLength_ra0 < 0 ∨ cl562.slots.size ≤ (w_lineLength_ra0).toNatClampNeg) := inb_of S562 hb563
            obtain ⟨T563, h563, X563, e563, W563, st563⟩ := stB X558 hx hZ e558 Ar562 (j := w_lineLength_ra0) hin563 (g := (mkF m 170 #[rv ra0, iv p1, .val .null, iv (v6_14_s0 p1), iv (v6_106_s0 p1)] [(.int p1), (.int w_lineLength_ra0), (.ref r_line_ra0)])) rfl rfl (hb hby d6_170)
            have hl563 : (w_lineLength_ra0).toNatClampNeg < (List.map Value.int L_r_line_ra0).length := by rw [List.length_map, VL_r_line_ra0]; exact own_lt_nat hb563.1 hb563.2
            have V563r : Arv Z h563 r_line_ra0 k_r_line_ra0 .byte (2048 : Int32) (List.map Value.int (L_r_line_ra0.set (w_lineLength_ra0).toNatClampNeg ((p1).toInt8.toInt32))) (.int 0) := by rw [List.map_set]; exact Arv.set Ar562 q562 S562 Nn562 H562 G562 (fits_nar_byte _) W563 _ rfl hl563
            have V563 : Arv Z h563 r_line_ra0 k_r_line_ra0 .byte (2048 : Int32) (List.map Value.int (v6_170_L p1 w_lineLength_ra0 L_r_line_ra0)) (.int 0) := V563r
            have VL563 : (v6_170_L p1 w_lineLength_ra0 L_r_line_ra0).length = ((2048 : Int32)).toNatClampNeg := (List.length_set).trans VL_r_line_ra0
            have K563 : Keep h0 h563 [ra0, r_line_ra0] := K550.wr W563 (Or.inl (List.mem_of_getElem? (i := 1) rfl))
            have N563 := Fr.snoc X563 N550 g_r_line_ra0
            have k564 := fun (t : State) (kk : Steps p.tables e below (T563.setTop (mkF m 171 #[rv ra0, iv p1, .val .null, iv (v6_14_s0 p1), iv (v6_106_s0 p1)] [])) t) => k560 t (st563 _ kk)
            have k565 := fun (t : State) (kk : Steps p.tables e below (T563.setTop (mkF m 173 #[rv ra0, iv p1, .val .null, iv (v6_14_s0 p1), iv (v6_106_s0 p1)] [(.ref ra0), (.ref ra0)])) t) => k564 t (by
              refine XS.aloadN X563.here hx rfl (hb hby d6_171) rfl rfl ?_
              refine XS.dup X563.here hx rfl (hb hby d6_172) rfl rfl ?_
              exact kk)
            have f566 := (f557.other W563 (Or.inl (own_ne_oa E_ra0 (hw _ (List.mem_of_getElem? (i := 12) rfl)) V_r_line_ra0)))
            obtain ⟨T567, X567, e567, st567⟩ := getF X563 hx hZ hown (host := "") (Or.inl (hw _ (List.mem_of_getElem? (i := 33) rfl))) Via.refl e563 f566 (g := (mkF m 173 #[rv ra0, iv p1, .val .null, iv (v6_14_s0 p1), iv (v6_106_s0 p1)] [(.ref ra0), (.ref ra0)])) rfl rfl (hb hby d6_173)
            have k568 := fun (t : State) (kk : Steps p.tables e below (T567.setTop (mkF m 176 #[rv ra0, iv p1, .val .null, iv (v6_14_s0 p1), iv (v6_106_s0 p1)] [(.int w_lineLength_ra0), (.ref ra0)])) t) => k565 t (st567 _ kk)
            have k569 := fun (t : State) (kk : Steps p.tables e below (T567.setTop (mkF m 178 #[rv ra0, iv p1, .val .null, iv (v6_14_s0 p1), iv (v6_106_s0 p1)] [(.int (w_lineLength_ra0 + (1 : Int32))), (.ref ra0)])) t) => k568 t (by
              refine XS.iconst X567.here hx rfl (hb hby d6_176) ?_
              show Steps p.tables e below (T567.setTop (mkF m 177 #[rv ra0, iv p1, .val .null, iv (v6_14_s0 p1), iv (v6_106_s0 p1)] [(.int 1), (.int w_lineLength_ra0), (.ref ra0)])) _
              refine XS.iadd X567.here hx rfl (hb hby d6_177) rfl ?_
              exact kk)
            have f570 := ((E_ra0.wr W550).wr W563)
            obtain ⟨T571, h571, X571, e571, W571, st571⟩ := putF X567 hx hZ hown (host := "") (Or.inl (hw _ (List.mem_of_getElem? (i := 33) rfl))) Via.refl e567 f566 f570 (Or.inl (hw _ (List.mem_of_getElem? (i := 34) rfl))) (hw _ (List.mem_of_getElem? (i := 12) rfl)) (ty := .int) (by decide) rfl rfl (g := (mkF m 178 #[rv ra0, iv p1, .val .null, iv (v6_14_s0 p1), iv (v6_106_s0 p1)] [(.int (w_lineLength_ra0 + (1 : Int32))), (.ref ra0)])) rfl rfl (hb hby d6_178)
            have Fw571 := f566.same W571
            have K571 : Keep h0 h571 [ra0, r_line_ra0] := K563.wr W571 (Or.inl (List.mem_of_getElem? (i := 0) rfl))
            have N571 := Fr.snoc X571 N563 g_ra0
            have k572 := fun (t : State) (kk : Steps p.tables e below (T571.setTop (mkF m 181 #[rv ra0, iv p1, .val .null, iv (v6_14_s0 p1), iv (v6_106_s0 p1)] [])) t) => k569 t (st571 _ kk)
            have k573 := fun (t : State) (kk : Steps p.tables e below (T571.setTop (mkF m 183 #[rv ra0, iv p1, .val .null, iv (v6_14_s0 p1), iv (v6_106_s0 p1)] [(.ref ra0), (.ref ra0)])) t) => k572 t (by
              refine XS.aloadN X571.here hx rfl (hb hby d6_181) rfl rfl ?_
              refine XS.dup X571.here hx rfl (hb hby d6_182) rfl rfl ?_
              exact kk)
            have f574 := (((F_position_ra0.other W550 (Or.inr (slot_ne (Or.inl (hw _ (List.mem_of_getElem? (i := 32) rfl))) (Or.inl (hw _ (List.mem_of_getElem? (i := 23) rfl))) (by decide) (t := .int) (t' := .boolean) (by decide) (by decide)))).other W563 (Or.inl (own_ne_oa E_ra0 (hw _ (List.mem_of_getElem? (i := 12) rfl)) V_r_line_ra0))).other W571 (Or.inr (slot_ne (Or.inl (hw _ (List.mem_of_getElem? (i := 32) rfl))) (Or.inl (hw _ (List.mem_of_getElem? (i := 34) rfl))) (by decide) (t := .int) (t' := .int) (by decide) (by decide))))
            obtain ⟨T575, X575, e575, st575⟩ := getF X571 hx hZ hown (host := "") (Or.inl (hw _ (List.mem_of_getElem? (i := 31) rfl))) Via.refl e571 f574 (g := (mkF m 183 #[rv ra0, iv p1, .val .null, iv (v6_14_s0 p1), iv (v6_106_s0 p1)] [(.ref ra0), (.ref ra0)])) rfl rfl (hb hby d6_183)
            have k576 := fun (t : State) (kk : Steps p.tables e below (T575.setTop (mkF m 186 #[rv ra0, iv p1, .val .null, iv (v6_14_s0 p1), iv (v6_106_s0 p1)] [(.int w_position_ra0), (.ref ra0)])) t) => k573 t (st575 _ kk)
            have k577 := fun (t : State) (kk : Steps p.tables e below (T575.setTop (mkF m 188 #[rv ra0, iv p1, .val .null, iv (v6_14_s0 p1), iv (v6_106_s0 p1)] [(.int (w_position_ra0 + (1 : Int32))), (.ref ra0)])) t) => k576 t (by
              refine XS.iconst X575.here hx rfl (hb hby d6_186) ?_
              refine XS.iadd X575.here hx rfl (hb hby d6_187) rfl ?_
              exact kk)
            have f578 := (f570.wr W571)
            obtain ⟨T579, h579, X579, e579, W579, st579⟩ := putF X575 hx hZ hown (host := "") (Or.inl (hw _ (List.mem_of_getElem? (i := 31) rfl))) Via.refl e575 f574 f578 (Or.inl (hw _ (List.mem_of_getElem? (i := 32) rfl))) (hw _ (List.mem_of_getElem? (i := 12) rfl)) (ty := .int) (by decide) rfl rfl (g := (mkF m 188 #[rv ra0, iv p1, .val .null, iv (v6_14_s0 p1), iv (v6_106_s0 p1)] [(.int (w_position_ra0 + (1 : Int32))), (.ref ra0)])) rfl rfl (hb hby d6_188)
            have Fw579 := f574.same W579
            have K579 : Keep h0 h579 [ra0, r_line_ra0] := K571.wr W579 (Or.inl (List.mem_of_getElem? (i := 0) rfl))
            have N579 := Fr.snoc X579 N571 g_ra0
            have k580 := fun (t : State) (kk : Steps p.tables e below (T579.setTop (mkF m 191 #[rv ra0, iv p1, .val .null, iv (v6_14_s0 p1), iv (v6_106_s0 p1)] [])) t) => k577 t (st579 _ kk)
            have k581 := fun (t : State) (kk : Steps p.tables e below (T579.setTop (mkF m 192 #[rv ra0, iv p1, .val .null, iv (v6_14_s0 p1), iv (v6_106_s0 p1)] [.null])) t) => k580 t (by
              refine XS.aloadN X579.here hx rfl (hb hby d6_191) rfl rfl ?_
              exact kk)
            have k582 := fun (t : State) (kk : Steps p.tables e below (T579.setTop (mkF m 196 #[rv ra0, iv p1, .val .null, iv (v6_14_s0 p1), iv (v6_106_s0 p1)] [(.ref ra0)])) t) => k581 t (by
              show Steps p.tables e below (T579.setTop (mkF m 192 #[rv ra0, iv p1, .val .null, iv (v6_14_s0 p1), iv (v6_106_s0 p1)] [.null])) _
              refine XS.ifnonnullNo X579.here hx rfl (hb hby d6_192) rfl ?_
              refine XS.aloadN X579.here hx rfl (hb hby d6_195) rfl rfl ?_
              exact kk)
            obtain ⟨T583, X583, e583, st583⟩ := getF X579 hx hZ hown (host := "") (Or.inl (hw _ (List.mem_of_getElem? (i := 31) rfl))) Via.refl e579 Fw579 (g := (mkF m 196 #[rv ra0, iv p1, .val .null, iv (v6_14_s0 p1), iv (v6_106_s0 p1)] [(.ref ra0)])) rfl rfl (hb hby d6_196)
            have k584 := fun (t : State) (kk : Steps p.tables e below (T583.setTop (mkF m 199 #[rv ra0, iv p1, .val .null, iv (v6_14_s0 p1), iv (v6_106_s0 p1)] [(.int (w_position_ra0 + (1 : Int32)))])) t) => k582 t (st583 _ kk)
            have k585 := fun (t : State) (kk : Steps p.tables e below (T583.setTop (mkF m 202 #[rv ra0, iv p1, .val .null, iv (v6_14_s0 p1), iv (v6_106_s0 p1)] [(.int 2048), (.int (w_position_ra0 + (1 : Int32)))])) t) => k584 t (by
              refine XS.sipush X583.here hx rfl (hb hby d6_199) ?_
              exact kk)
            have hc202_586 : ¬ ((w_position_ra0 + (1 : Int32)) = (2048 : Int32)) := hp2
            have k587 := fun (t : State) (kk : Steps p.tables e below (T583.setTop (mkF m 226 #[rv ra0, iv p1, .val .null, iv (v6_14_s0 p1), iv (v6_106_s0 p1)] [.null])) t) => k585 t (by
              refine XS.icmpYes X583.here hx rfl (pc0 := 202) (pc' := 225) rfl (hb hby d6_202) rfl (feq hc202_586).2 (by decide) (by decide) ?_
              refine XS.aloadN X583.here hx rfl (hb hby d6_225) rfl rfl ?_
              exact kk)
            obtain ⟨fs, hr, hrun, hended, hW, hsame⟩ := X583.leave (v := some .null) (fun h => by rw [Bd.returns] at h; cases h) hlk
            have f588 := (f578.wr W579)
            have f589 := (((f553.other W563 (Or.inl (own_ne_oa E_ra0 (hw _ (List.mem_of_getElem? (i := 12) rfl)) V_r_line_ra0))).other W571 (Or.inr (slot_ne (Or.inr (hw _ (List.mem_of_getElem? (i := 21) rfl))) (Or.inl (hw _ (List.mem_of_getElem? (i := 34) rfl))) (by decide) (t := (.array .byte)) (t' := .int) (by decide) (by decide)))).other W579 (Or.inr (slot_ne (Or.inr (hw _ (List.mem_of_getElem? (i := 21) rfl))) (Or.inl (hw _ (List.mem_of_getElem? (i := 32) rfl))) (by decide) (t := (.array .byte)) (t' := .int) (by decide) (by decide))))
            have f590 := (((Fw550.other W563 (Or.inl (own_ne_oa E_ra0 (hw _ (List.mem_of_getElem? (i := 12) rfl)) V_r_line_ra0))).other W571 (Or.inr (slot_ne (Or.inl (hw _ (List.mem_of_getElem? (i := 23) rfl))) (Or.inl (hw _ (List.mem_of_getElem? (i := 34) rfl))) (by decide) (t := .boolean) (t' := .int) (by decide) (by decide)))).other W579 (Or.inr (slot_ne (Or.inl (hw _ (List.mem_of_getElem? (i := 23) rfl))) (Or.inl (hw _ (List.mem_of_getElem? (i := 32) rfl))) (by decide) (t := .boolean) (t' := .int) (by decide) (by decide))))
            have hf591 : (v6_f_boundaryLine_ra0 p1 w_failed_ra0 w_lineLength_ra0 w_boundaryLine_ra0) = (0 : Int32) := ((if_pos hc4_347).trans ((if_pos hc30_353).trans ((if_neg hc75_360).trans ((if_neg hc139_403).trans (if_neg hc153_503)))))
            have f592 := ((((F_failed_ra0.other W550 (Or.inr (slot_ne (Or.inl (hw _ (List.mem_of_getElem? (i := 30) rfl))) (Or.inl (hw _ (List.mem_of_getElem? (i := 23) rfl))) (by decide) (t := .boolean) (t' := .boolean) (by decide) (by decide)))).other W563 (Or.inl (own_ne_oa E_ra0 (hw _ (List.mem_of_getElem? (i := 12) rfl)) V_r_line_ra0))).other W571 (Or.inr (slot_ne (Or.inl (hw _ (List.mem_of_getElem? (i := 30) rfl))) (Or.inl (hw _ (List.mem_of_getElem? (i := 34) rfl))) (by decide) (t := .boolean) (t' := .int) (by decide) (by decide)))).other W579 (Or.inr (slot_ne (Or.inl (hw _ (List.mem_of_getElem? (i := 30) rfl))) (Or.inl (hw _ (List.mem_of_getElem? (i := 32) rfl))) (by decide) (t := .boolean) (t' := .int) (by decide) (by decide))))
            have hf593 : (v6_f_failed_ra0 p1 w_failed_ra0 w_lineLength_ra0 w_boundaryLine_ra0) = w_failed_ra0 := ((if_pos hc4_347).trans ((if_pos hc30_353).trans (if_neg hc75_360)))
            have hf594 : (v6_f_position_ra0 w_failed_ra0 w_position_ra0) = (w_position_ra0 + (1 : Int32)) := (if_pos hc4_347)
            have f595 := (Fw571.other W579 (Or.inr (slot_ne (Or.inl (hw _ (List.mem_of_getElem? (i := 34) rfl))) (Or.inl (hw _ (List.mem_of_getElem? (i := 32) rfl))) (by decide) (t := .int) (t' := .int) (by decide) (by decide))))
            have hf596 : (v6_f_lineLength_ra0 p1 w_failed_ra0 w_lineLength_ra0 w_boundaryLine_ra0) = (w_lineLength_ra0 + (1 : Int32)) := ((if_pos hc4_347).trans ((if_pos hc30_353).trans (if_neg hc75_360)))
            have f597 := ((V563.other W571 (Ne.symm (own_ne_oa E_ra0 (hw _ (List.mem_of_getElem? (i := 12) rfl)) V_r_line_ra0))).other W579 (Ne.symm (own_ne_oa E_ra0 (hw _ (List.mem_of_getElem? (i := 12) rfl)) V_r_line_ra0)))
            have ha598 : (v6_a_r_line_ra0 p1 w_failed_ra0 w_lineLength_ra0 L_r_line_ra0) = (v6_170_L p1 w_lineLength_ra0 L_r_line_ra0) := ((if_pos hc4_347).trans ((if_pos hc30_353).trans (if_neg hc75_360)))
            have hK599 : (v6_cls p1 w_failed_ra0 w_lineLength_ra0 w_boundaryLine_ra0) = (0 : Int32) := ((if_pos hc4_347).trans (if_pos hc30_353))
            refine ⟨_, _, k587 _ ?_, hrun, hended, _, _, rfl, ?_, ⟨_, rfl⟩, hW, hsame.mono (by decide) (by decide)⟩
            · show Steps p.tables e below (T583.setTop (mkF m 226 #[rv ra0, iv p1, .val .null, iv (v6_14_s0 p1), iv (v6_106_s0 p1)] [.null])) _
              exact retOut X583 hx (t := (.array .byte)) Bd.returns rfl (Or.inr (Or.inr (Or.inr (Or.inr ⟨rfl, rfl, rfl⟩)))) (hb hby d6_226) hr
            · show Q6 Z ra0 p1 w_failed_ra0 w_position_ra0 w_lineLength_ra0 r_line_ra0 k_r_line_ra0 L_r_line_ra0 w_boundaryLine_ra0 h0 n0 _ T583.heap _
              rw [e583]
              exact Or.inl ⟨hK599, rfl, N579, K579, f588, f589, (by rw [hf591]; exact f590), (by rw [hf593]; exact f592), (by rw [hf594]; exact Fw579), (by rw [hf596]; exact f595), (by rw [ha598]; exact f597), (by rw [ha598]; exact VL563)⟩
    · have k600 := fun (t : State) (kk : Steps p.tables e below (T345.setTop (mkF m 34 #[rv ra0, iv p1, .val .null, iv (v6_14_s0 p1), .unset] [(.ref ra0)])) t) => k352 t (by
        refine XS.ifNo X345.here hx rfl (hb hby d6_30) rfl ((if0 _ _).trans (feq hc30_353).1) ?_
        refine XS.aloadN X345.here hx rfl (hb hby d6_33) rfl rfl ?_
        exact kk)
      obtain ⟨T601, X601, e601, st601⟩ := getF X345 hx hZ hown (host := "") (Or.inl (hw _ (List.mem_of_getElem? (i := 22) rfl))) Via.refl e345 F_boundaryLine_ra0 (g := (mkF m 34 #[rv ra0, iv p1, .val .null, iv (v6_14_s0 p1), .unset] [(.ref ra0)])) rfl rfl (hb hby d6_34)
      have k602 := fun (t : State) (kk : Steps p.tables e below (T601.setTop (mkF m 37 #[rv ra0, iv p1, .val .null, iv (v6_14_s0 p1), .unset] [(.int w_boundaryLine_ra0)])) t) => k600 t (st601 _ kk)
      by_cases hc37_603 : w_boundaryLine_ra0 = (0 : Int32)
      · have k604 := fun (t : State) (kk : Steps p.tables e below (T601.setTop (mkF m 65 #[rv ra0, iv p1, .val .null, iv (v6_14_s0 p1), .unset] [(.ref ra0)])) t) => k602 t (by
          show Steps p.tables e below (T601.setTop (mkF m 37 #[rv ra0, iv p1, .val .null, iv (v6_14_s0 p1), .unset] [(.int w_boundaryLine_ra0)])) _
          refine XS.ifYes X601.here hx rfl (pc0 := 37) (pc' := 64) rfl (hb hby d6_37) rfl ((if0 _ _).trans (teq hc37_603).1) (by decide) (by decide) ?_
          refine XS.aloadN X601.here hx rfl (hb hby d6_64) rfl rfl ?_
          exact kk)
        obtain ⟨T605, X605, e605, st605⟩ := getF X601 hx hZ hown (host := "") (Or.inl (hw _ (List.mem_of_getElem? (i := 31) rfl))) Via.refl e601 F_position_ra0 (g := (mkF m 65 #[rv ra0, iv p1, .val .null, iv (v6_14_s0 p1), .unset] [(.ref ra0)])) rfl rfl (hb hby d6_65)
        have k606 := fun (t : State) (kk : Steps p.tables e below (T605.setTop (mkF m 68 #[rv ra0, iv p1, .val .null, iv (v6_14_s0 p1), .unset] [(.int w_position_ra0)])) t) => k604 t (st605 _ kk)
        have k607 := fun (t : State) (kk : Steps p.tables e below (T605.setTop (mkF m 71 #[rv ra0, iv p1, .val .null, iv (v6_14_s0 p1), .unset] [(.int 2048), (.int w_position_ra0)])) t) => k606 t (by
          refine XS.sipush X605.here hx rfl (hb hby d6_68) ?_
          exact kk)
        have hc71_608 : ¬ (w_position_ra0 = (2048 : Int32)) := hp1
        have k609 := fun (t : State) (kk : Steps p.tables e below (T605.setTop (mkF m 75 #[rv ra0, iv p1, .val .null, iv (v6_14_s0 p1), .unset] [(.int p1)])) t) => k607 t (by
          refine XS.icmpNo X605.here hx rfl (hb hby d6_71) rfl (feq hc71_608).1 ?_
          refine XS.iloadN X605.here hx rfl (hb hby d6_74) rfl ?_
          exact kk)
        by_cases hc75_610 : p1 < (0 : Int32)
        · have k611 := fun (t : State) (kk : Steps p.tables e below (T605.setTop (mkF m 80 #[rv ra0, iv p1, .val .null, iv (v6_14_s0 p1), .unset] [(.int 1), (.ref ra0)])) t) => k609 t (by
            refine XS.ifNo X605.here hx rfl (hb hby d6_75) rfl ((if0 _ _).trans (tlt hc75_610).2.1) ?_
            refine XS.aloadN X605.here hx rfl (hb hby d6_78) rfl rfl ?_
            refine XS.iconst X605.here hx rfl (hb hby d6_79) ?_
            exact kk)
          obtain ⟨T612, h612, X612, e612, W612, st612⟩ := putFN X605 hx hZ hown (hw _ (List.mem_of_getElem? (i := 29) rfl)) Via.refl e605 F_failed_ra0 E_ra0 (Or.inl (hw _ (List.mem_of_getElem? (i := 30) rfl))) (hw _ (List.mem_of_getElem? (i := 12) rfl)) (ty := .boolean) (v' := (.int 1)) (by decide) rfl rfl (g := (mkF m 80 #[rv ra0, iv p1, .val .null, iv (v6_14_s0 p1), .unset] [(.int 1), (.ref ra0)])) rfl rfl (hb hby d6_80)
          have Fw612 := F_failed_ra0.same W612
          have K612 : Keep h0 h612 [ra0, r_line_ra0] := KC0.wr W612 (Or.inl (List.mem_of_getElem? (i := 0) rfl))
          have N612 := Fr.snoc X612 N0 g_ra0
          have k613 := fun (t : State) (kk : Steps p.tables e below (T612.setTop (mkF m 83 #[rv ra0, iv p1, .val .null, iv (v6_14_s0 p1), .unset] [])) t) => k611 t (st612 _ kk)
          have k614 := fun (t : State) (kk : Steps p.tables e below (T612.setTop (mkF m 183 #[rv ra0, iv p1, .val .null, iv (v6_14_s0 p1), .unset] [(.ref ra0), (.ref ra0)])) t) => k613 t (by
            refine XS.goto X612.here hx rfl (pc0 := 83) (pc' := 181) rfl (hb hby d6_83) (by decide) (by decide) ?_
            refine XS.aloadN X612.here hx rfl (hb hby d6_181) rfl rfl ?_
            refine XS.dup X612.here hx rfl (hb hby d6_182) rfl rfl ?_
            exact kk)
          have f615 := (F_position_ra0.other W612 (Or.inr (slot_ne (Or.inl (hw _ (List.mem_of_getElem? (i := 32) rfl))) (Or.inl (hw _ (List.mem_of_getElem? (i := 30) rfl))) (by decide) (t := .int) (t' := .boolean) (by decide) (by decide))))
          obtain ⟨T616, X616, e616, st616⟩ := getF X612 hx hZ hown (host := "") (Or.inl (hw _ (List.mem_of_getElem? (i := 31) rfl))) Via.refl e612 f615 (g := (mkF m 183 #[rv ra0, iv p1, .val .null, iv (v6_14_s0 p1), .unset] [(.ref ra0), (.ref ra0)])) rfl rfl (hb hby d6_183)
          have k617 := fun (t : State) (kk : Steps p.tables e below (T616.setTop (mkF m 186 #[rv ra0, iv p1, .val .null, iv (v6_14_s0 p1), .unset] [(.int w_position_ra0), (.ref ra0)])) t) => k614 t (st616 _ kk)
          have k618 := fun (t : State) (kk : Steps p.tables e below (T616.setTop (mkF m 188 #[rv ra0, iv p1, .val .null, iv (v6_14_s0 p1), .unset] [(.int (w_position_ra0 + (1 : Int32))), (.ref ra0)])) t) => k617 t (by
            refine XS.iconst X616.here hx rfl (hb hby d6_186) ?_
            show Steps p.tables e below (T616.setTop (mkF m 187 #[rv ra0, iv p1, .val .null, iv (v6_14_s0 p1), .unset] [(.int 1), (.int w_position_ra0), (.ref ra0)])) _
            refine XS.iadd X616.here hx rfl (hb hby d6_187) rfl ?_
            exact kk)
          have f619 := (E_ra0.wr W612)
          obtain ⟨T620, h620, X620, e620, W620, st620⟩ := putF X616 hx hZ hown (host := "") (Or.inl (hw _ (List.mem_of_getElem? (i := 31) rfl))) Via.refl e616 f615 f619 (Or.inl (hw _ (List.mem_of_getElem? (i := 32) rfl))) (hw _ (List.mem_of_getElem? (i := 12) rfl)) (ty := .int) (by decide) rfl rfl (g := (mkF m 188 #[rv ra0, iv p1, .val .null, iv (v6_14_s0 p1), .unset] [(.int (w_position_ra0 + (1 : Int32))), (.ref ra0)])) rfl rfl (hb hby d6_188)
          have Fw620 := f615.same W620
          have K620 : Keep h0 h620 [ra0, r_line_ra0] := K612.wr W620 (Or.inl (List.mem_of_getElem? (i := 0) rfl))
          have N620 := Fr.snoc X620 N612 g_ra0
          have k621 := fun (t : State) (kk : Steps p.tables e below (T620.setTop (mkF m 191 #[rv ra0, iv p1, .val .null, iv (v6_14_s0 p1), .unset] [])) t) => k618 t (st620 _ kk)
          have k622 := fun (t : State) (kk : Steps p.tables e below (T620.setTop (mkF m 192 #[rv ra0, iv p1, .val .null, iv (v6_14_s0 p1), .unset] [.null])) t) => k621 t (by
            refine XS.aloadN X620.here hx rfl (hb hby d6_191) rfl rfl ?_
            exact kk)
          have k623 := fun (t : State) (kk : Steps p.tables e below (T620.setTop (mkF m 196 #[rv ra0, iv p1, .val .null, iv (v6_14_s0 p1), .unset] [(.ref ra0)])) t) => k622 t (by
            show Steps p.tables e below (T620.setTop (mkF m 192 #[rv ra0, iv p1, .val .null, iv (v6_14_s0 p1), .unset] [.null])) _
            refine XS.ifnonnullNo X620.here hx rfl (hb hby d6_192) rfl ?_
            refine XS.aloadN X620.here hx rfl (hb hby d6_195) rfl rfl ?_
            exact kk)
          obtain ⟨T624, X624, e624, st624⟩ := getF X620 hx hZ hown (host := "") (Or.inl (hw _ (List.mem_of_getElem? (i := 31) rfl))) Via.refl e620 Fw620 (g := (mkF m 196 #[rv ra0, iv p1, .val .null, iv (v6_14_s0 p1), .unset] [(.ref ra0)])) rfl rfl (hb hby d6_196)
          have k625 := fun (t : State) (kk : Steps p.tables e below (T624.setTop (mkF m 199 #[rv ra0, iv p1, .val .null, iv (v6_14_s0 p1), .unset] [(.int (w_position_ra0 + (1 : Int32)))])) t) => k623 t (st624 _ kk)
          have k626 := fun (t : State) (kk : Steps p.tables e below (T624.setTop (mkF m 202 #[rv ra0, iv p1, .val .null, iv (v6_14_s0 p1), .unset] [(.int 2048), (.int (w_position_ra0 + (1 : Int32)))])) t) => k625 t (by
            refine XS.sipush X624.here hx rfl (hb hby d6_199) ?_
            exact kk)
          have hc202_627 : ¬ ((w_position_ra0 + (1 : Int32)) = (2048 : Int32)) := hp2
          have k628 := fun (t : State) (kk : Steps p.tables e below (T624.setTop (mkF m 226 #[rv ra0, iv p1, .val .null, iv (v6_14_s0 p1), .unset] [.null])) t) => k626 t (by
            refine XS.icmpYes X624.here hx rfl (pc0 := 202) (pc' := 225) rfl (hb hby d6_202) rfl (feq hc202_627).2 (by decide) (by decide) ?_
            refine XS.aloadN X624.here hx rfl (hb hby d6_225) rfl rfl ?_
            exact kk)
          obtain ⟨fs, hr, hrun, hended, hW, hsame⟩ := X624.leave (v := some .null) (fun h => by rw [Bd.returns] at h; cases h) hlk
          have f629 := (f619.wr W620)
          have f630 := ((F_line_ra0.other W612 (Or.inr (slot_ne (Or.inr (hw _ (List.mem_of_getElem? (i := 21) rfl))) (Or.inl (hw _ (List.mem_of_getElem? (i := 30) rfl))) (by decide) (t := (.array .byte)) (t' := .boolean) (by decide) (by decide)))).other W620 (Or.inr (slot_ne (Or.inr (hw _ (List.mem_of_getElem? (i := 21) rfl))) (Or.inl (hw _ (List.mem_of_getElem? (i := 32) rfl))) (by decide) (t := (.array .byte)) (t' := .int) (by decide) (by decide))))
          have f631 := ((F_boundaryLine_ra0.other W612 (Or.inr (slot_ne (Or.inl (hw _ (List.mem_of_getElem? (i := 23) rfl))) (Or.inl (hw _ (List.mem_of_getElem? (i := 30) rfl))) (by decide) (t := .boolean) (t' := .boolean) (by decide) (by decide)))).other W620 (Or.inr (slot_ne (Or.inl (hw _ (List.mem_of_getElem? (i := 23) rfl))) (Or.inl (hw _ (List.mem_of_getElem? (i := 32) rfl))) (by decide) (t := .boolean) (t' := .int) (by decide) (by decide))))
          have hf632 : (v6_f_boundaryLine_ra0 p1 w_failed_ra0 w_lineLength_ra0 w_boundaryLine_ra0) = w_boundaryLine_ra0 := ((if_pos hc4_347).trans ((if_neg hc30_353).trans ((if_pos hc37_603).trans (if_pos hc75_610))))
          have f633 := (Fw612.other W620 (Or.inr (slot_ne (Or.inl (hw _ (List.mem_of_getElem? (i := 30) rfl))) (Or.inl (hw _ (List.mem_of_getElem? (i := 32) rfl))) (by decide) (t := .boolean) (t' := .int) (by decide) (by decide))))
          have hf634 : (v6_f_failed_ra0 p1 w_failed_ra0 w_lineLength_ra0 w_boundaryLine_ra0) = (1 : Int32) := ((if_pos hc4_347).trans ((if_neg hc30_353).trans ((if_pos hc37_603).trans (if_pos hc75_610))))
          have hf635 : (v6_f_position_ra0 w_failed_ra0 w_position_ra0) = (w_position_ra0 + (1 : Int32)) := (if_pos hc4_347)
          have f636 := ((F_lineLength_ra0.other W612 (Or.inr (slot_ne (Or.inl (hw _ (List.mem_of_getElem? (i := 34) rfl))) (Or.inl (hw _ (List.mem_of_getElem? (i := 30) rfl))) (by decide) (t := .int) (t' := .boolean) (by decide) (by decide)))).other W620 (Or.inr (slot_ne (Or.inl (hw _ (List.mem_of_getElem? (i := 34) rfl))) (Or.inl (hw _ (List.mem_of_getElem? (i := 32) rfl))) (by decide) (t := .int) (t' := .int) (by decide) (by decide))))
          have hf637 : (v6_f_lineLength_ra0 p1 w_failed_ra0 w_lineLength_ra0 w_boundaryLine_ra0) = w_lineLength_ra0 := ((if_pos hc4_347).trans ((if_neg hc30_353).trans ((if_pos hc37_603).trans (if_pos hc75_610))))
          have f638 := ((V_r_line_ra0.other W612 (Ne.symm (own_ne_oa E_ra0 (hw _ (List.mem_of_getElem? (i := 12) rfl)) V_r_line_ra0))).other W620 (Ne.symm (own_ne_oa E_ra0 (hw _ (List.mem_of_getElem? (i := 12) rfl)) V_r_line_ra0)))
          have ha639 : (v6_a_r_line_ra0 p1 w_failed_ra0 w_lineLength_ra0 L_r_line_ra0) = L_r_line_ra0 := ((if_pos hc4_347).trans (if_neg hc30_353))
          have hK640 : (v6_cls p1 w_failed_ra0 w_lineLength_ra0 w_boundaryLine_ra0) = (0 : Int32) := ((if_pos hc4_347).trans ((if_neg hc30_353).trans (if_pos hc37_603)))
          refine ⟨_, _, k628 _ ?_, hrun, hended, _, _, rfl, ?_, ⟨_, rfl⟩, hW, hsame.mono (by decide) (by decide)⟩
          · show Steps p.tables e below (T624.setTop (mkF m 226 #[rv ra0, iv p1, .val .null, iv (v6_14_s0 p1), .unset] [.null])) _
            exact retOut X624 hx (t := (.array .byte)) Bd.returns rfl (Or.inr (Or.inr (Or.inr (Or.inr ⟨rfl, rfl, rfl⟩)))) (hb hby d6_226) hr
          · show Q6 Z ra0 p1 w_failed_ra0 w_position_ra0 w_lineLength_ra0 r_line_ra0 k_r_line_ra0 L_r_line_ra0 w_boundaryLine_ra0 h0 n0 _ T624.heap _
            rw [e624]
            exact Or.inl ⟨hK640, rfl, N620, K620, f629, f630, (by rw [hf632]; exact f631), (by rw [hf634]; exact f633), (by rw [hf635]; exact Fw620), (by rw [hf637]; exact f636), (by rw [ha639]; exact f638), (by rw [ha639]; exact VL_r_line_ra0)⟩
        · have k641 := fun (t : State) (kk : Steps p.tables e below (T605.setTop (mkF m 92 #[rv ra0, iv p1, .val .null, iv (v6_14_s0 p1), .unset] [(.int 0), (.ref ra0)])) t) => k609 t (by
            refine XS.ifYes X605.here hx rfl (pc0 := 75) (pc' := 86) rfl (hb hby d6_75) rfl ((if0 _ _).trans (flt hc75_610).2.1) (by decide) (by decide) ?_
            refine XS.iloadN X605.here hx rfl (hb hby d6_86) rfl ?_
            refine XS.ifNo X605.here hx rfl (hb hby d6_87) rfl ((if0 _ _).trans (feq hc30_353).1) ?_
            refine XS.aloadN X605.here hx rfl (hb hby d6_90) rfl rfl ?_
            refine XS.iconst X605.here hx rfl (hb hby d6_91) ?_
            exact kk)
          obtain ⟨T642, h642, X642, e642, W642, st642⟩ := putF X605 hx hZ hown (host := "") (Or.inl (hw _ (List.mem_of_getElem? (i := 33) rfl))) Via.refl e605 F_lineLength_ra0 E_ra0 (Or.inl (hw _ (List.mem_of_getElem? (i := 34) rfl))) (hw _ (List.mem_of_getElem? (i := 12) rfl)) (ty := .int) (by decide) rfl rfl (g := (mkF m 92 #[rv ra0, iv p1, .val .null, iv (v6_14_s0 p1), .unset] [(.int 0), (.ref ra0)])) rfl rfl (hb hby d6_92)
          have Fw642 := F_lineLength_ra0.same W642
          have K642 : Keep h0 h642 [ra0, r_line_ra0] := KC0.wr W642 (Or.inl (List.mem_of_getElem? (i := 0) rfl))
          have N642 := Fr.snoc X642 N0 g_ra0
          have k643 := fun (t : State) (kk : Steps p.tables e below (T642.setTop (mkF m 95 #[rv ra0, iv p1, .val .null, iv (v6_14_s0 p1), .unset] [])) t) => k641 t (st642 _ kk)
          have k644 := fun (t : State) (kk : Steps p.tables e below (T642.setTop (mkF m 97 #[rv ra0, iv p1, .val .null, iv (v6_14_s0 p1), .unset] [(.int 1), (.ref ra0)])) t) => k643 t (by
            refine XS.aloadN X642.here hx rfl (hb hby d6_95) rfl rfl ?_
            show Steps p.tables e below (T642.setTop (mkF m 96 #[rv ra0, iv p1, .val .null, iv (v6_14_s0 p1), .unset] [(.ref ra0)])) _
            refine XS.iconst X642.here hx rfl (hb hby d6_96) ?_
            exact kk)
          have f645 := (E_ra0.wr W642)
          have f646 := (F_boundaryLine_ra0.other W642 (Or.inr (slot_ne (Or.inl (hw _ (List.mem_of_getElem? (i := 23) rfl))) (Or.inl (hw _ (List.mem_of_getElem? (i := 34) rfl))) (by decide) (t := .boolean) (t' := .int) (by decide) (by decide))))
          obtain ⟨T647, h647, X647, e647, W647, st647⟩ := putFN X642 hx hZ hown (hw _ (List.mem_of_getElem? (i := 22) rfl)) Via.refl e642 f646 f645 (Or.inl (hw _ (List.mem_of_getElem? (i := 23) rfl))) (hw _ (List.mem_of_getElem? (i := 12) rfl)) (ty := .boolean) (v' := (.int 1)) (by decide) rfl rfl (g := (mkF m 97 #[rv ra0, iv p1, .val .null, iv (v6_14_s0 p1), .unset] [(.int 1), (.ref ra0)])) rfl rfl (hb hby d6_97)
          have Fw647 := f646.same W647
          have K647 : Keep h0 h647 [ra0, r_line_ra0] := K642.wr W647 (Or.inl (List.mem_of_getElem? (i := 0) rfl))
          have N647 := Fr.snoc X647 N642 g_ra0
          have k648 := fun (t : State) (kk : Steps p.tables e below (T647.setTop (mkF m 100 #[rv ra0, iv p1, .val .null, iv (v6_14_s0 p1), .unset] [])) t) => k644 t (st647 _ kk)
          have k649 := fun (t : State) (kk : Steps p.tables e below (T647.setTop (mkF m 183 #[rv ra0, iv p1, .val .null, iv (v6_14_s0 p1), .unset] [(.ref ra0), (.ref ra0)])) t) => k648 t (by
            refine XS.goto X647.here hx rfl (pc0 := 100) (pc' := 181) rfl (hb hby d6_100) (by decide) (by decide) ?_
            refine XS.aloadN X647.here hx rfl (hb hby d6_181) rfl rfl ?_
            refine XS.dup X647.here hx rfl (hb hby d6_182) rfl rfl ?_
            exact kk)
          have f650 := ((F_position_ra0.other W642 (Or.inr (slot_ne (Or.inl (hw _ (List.mem_of_getElem? (i := 32) rfl))) (Or.inl (hw _ (List.mem_of_getElem? (i := 34) rfl))) (by decide) (t := .int) (t' := .int) (by decide) (by decide)))).other W647 (Or.inr (slot_ne (Or.inl (hw _ (List.mem_of_getElem? (i := 32) rfl))) (Or.inl (hw _ (List.mem_of_getElem? (i := 23) rfl))) (by decide) (t := .int) (t' := .boolean) (by decide) (by decide))))
          obtain ⟨T651, X651, e651, st651⟩ := getF X647 hx hZ hown (host := "") (Or.inl (hw _ (List.mem_of_getElem? (i := 31) rfl))) Via.refl e647 f650 (g := (mkF m 183 #[rv ra0, iv p1, .val .null, iv (v6_14_s0 p1), .unset] [(.ref ra0), (.ref ra0)])) rfl rfl (hb hby d6_183)
          have k652 := fun (t : State) (kk : Steps p.tables e below (T651.setTop (mkF m 186 #[rv ra0, iv p1, .val .null, iv (v6_14_s0 p1), .unset] [(.int w_position_ra0), (.ref ra0)])) t) => k649 t (st651 _ kk)
          have k653 := fun (t : State) (kk : Steps p.tables e below (T651.setTop (mkF m 188 #[rv ra0, iv p1, .val .null, iv (v6_14_s0 p1), .unset] [(.int (w_position_ra0 + (1 : Int32))), (.ref ra0)])) t) => k652 t (by
            refine XS.iconst X651.here hx rfl (hb hby d6_186) ?_
            refine XS.iadd X651.here hx rfl (hb hby d6_187) rfl ?_
            exact kk)
          have f654 := (f645.wr W647)
          obtain ⟨T655, h655, X655, e655, W655, st655⟩ := putF X651 hx hZ hown (host := "") (Or.inl (hw _ (List.mem_of_getElem? (i := 31) rfl))) Via.refl e651 f650 f654 (Or.inl (hw _ (List.mem_of_getElem? (i := 32) rfl))) (hw _ (List.mem_of_getElem? (i := 12) rfl)) (ty := .int) (by decide) rfl rfl (g := (mkF m 188 #[rv ra0, iv p1, .val .null, iv (v6_14_s0 p1), .unset] [(.int (w_position_ra0 + (1 : Int32))), (.ref ra0)])) rfl rfl (hb hby d6_188)
          have Fw655 := f650.same W655
          have K655 : Keep h0 h655 [ra0, r_line_ra0] := K647.wr W655 (Or.inl (List.mem_of_getElem? (i := 0) rfl))
          have N655 := Fr.snoc X655 N647 g_ra0
          have k656 := fun (t : State) (kk : Steps p.tables e below (T655.setTop (mkF m 191 #[rv ra0, iv p1, .val .null, iv (v6_14_s0 p1), .unset] [])) t) => k653 t (st655 _ kk)
          have k657 := fun (t : State) (kk : Steps p.tables e below (T655.setTop (mkF m 192 #[rv ra0, iv p1, .val .null, iv (v6_14_s0 p1), .unset] [.null])) t) => k656 t (by
            refine XS.aloadN X655.here hx rfl (hb hby d6_191) rfl rfl ?_
            exact kk)
          have k658 := fun (t : State) (kk : Steps p.tables e below (T655.setTop (mkF m 196 #[rv ra0, iv p1, .val .null, iv (v6_14_s0 p1), .unset] [(.ref ra0)])) t) => k657 t (by
            show Steps p.tables e below (T655.setTop (mkF m 192 #[rv ra0, iv p1, .val .null, iv (v6_14_s0 p1), .unset] [.null])) _
            refine XS.ifnonnullNo X655.here hx rfl (hb hby d6_192) rfl ?_
            refine XS.aloadN X655.here hx rfl (hb hby d6_195) rfl rfl ?_
            exact kk)
          obtain ⟨T659, X659, e659, st659⟩ := getF X655 hx hZ hown (host := "") (Or.inl (hw _ (List.mem_of_getElem? (i := 31) rfl))) Via.refl e655 Fw655 (g := (mkF m 196 #[rv ra0, iv p1, .val .null, iv (v6_14_s0 p1), .unset] [(.ref ra0)])) rfl rfl (hb hby d6_196)
          have k660 := fun (t : State) (kk : Steps p.tables e below (T659.setTop (mkF m 199 #[rv ra0, iv p1, .val .null, iv (v6_14_s0 p1), .unset] [(.int (w_position_ra0 + (1 : Int32)))])) t) => k658 t (st659 _ kk)
          have k661 := fun (t : State) (kk : Steps p.tables e below (T659.setTop (mkF m 202 #[rv ra0, iv p1, .val .null, iv (v6_14_s0 p1), .unset] [(.int 2048), (.int (w_position_ra0 + (1 : Int32)))])) t) => k660 t (by
            refine XS.sipush X659.here hx rfl (hb hby d6_199) ?_
            exact kk)
          have hc202_662 : ¬ ((w_position_ra0 + (1 : Int32)) = (2048 : Int32)) := hp2
          have k663 := fun (t : State) (kk : Steps p.tables e below (T659.setTop (mkF m 226 #[rv ra0, iv p1, .val .null, iv (v6_14_s0 p1), .unset] [.null])) t) => k661 t (by
            refine XS.icmpYes X659.here hx rfl (pc0 := 202) (pc' := 225) rfl (hb hby d6_202) rfl (feq hc202_662).2 (by decide) (by decide) ?_
            refine XS.aloadN X659.here hx rfl (hb hby d6_225) rfl rfl ?_
            exact kk)
          obtain ⟨fs, hr, hrun, hended, hW, hsame⟩ := X659.leave (v := some .null) (fun h => by rw [Bd.returns] at h; cases h) hlk
          have f664 := (f654.wr W655)
          have f665 := (((F_line_ra0.other W642 (Or.inr (slot_ne (Or.inr (hw _ (List.mem_of_getElem? (i := 21) rfl))) (Or.inl (hw _ (List.mem_of_getElem? (i := 34) rfl))) (by decide) (t := (.array .byte)) (t' := .int) (by decide) (by decide)))).other W647 (Or.inr (slot_ne (Or.inr (hw _ (List.mem_of_getElem? (i := 21) rfl))) (Or.inl (hw _ (List.mem_of_getElem? (i := 23) rfl))) (by decide) (t := (.array .byte)) (t' := .boolean) (by decide) (by decide)))).other W655 (Or.inr (slot_ne (Or.inr (hw _ (List.mem_of_getElem? (i := 21) rfl))) (Or.inl (hw _ (List.mem_of_getElem? (i := 32) rfl))) (by decide) (t := (.array .byte)) (t' := .int) (by decide) (by decide))))
          have f666 := (Fw647.other W655 (Or.inr (slot_ne (Or.inl (hw _ (List.mem_of_getElem? (i := 23) rfl))) (Or.inl (hw _ (List.mem_of_getElem? (i := 32) rfl))) (by decide) (t := .boolean) (t' := .int) (by decide) (by decide))))
          have hf667 : (v6_f_boundaryLine_ra0 p1 w_failed_ra0 w_lineLength_ra0 w_boundaryLine_ra0) = (1 : Int32) := ((if_pos hc4_347).trans ((if_neg hc30_353).trans ((if_pos hc37_603).trans (if_neg hc75_610))))
          have f668 := (((F_failed_ra0.other W642 (Or.inr (slot_ne (Or.inl (hw _ (List.mem_of_getElem? (i := 30) rfl))) (Or.inl (hw _ (List.mem_of_getElem? (i := 34) rfl))) (by decide) (t := .boolean) (t' := .int) (by decide) (by decide)))).other W647 (Or.inr (slot_ne (Or.inl (hw _ (List.mem_of_getElem? (i := 30) rfl))) (Or.inl (hw _ (List.mem_of_getElem? (i := 23) rfl))) (by decide) (t := .boolean) (t' := .boolean) (by decide) (by decide)))).other W655 (Or.inr (slot_ne (Or.inl (hw _ (List.mem_of_getElem? (i := 30) rfl))) (Or.inl (hw _ (List.mem_of_getElem? (i := 32) rfl))) (by decide) (t := .boolean) (t' := .int) (by decide) (by decide))))
          have hf669 : (v6_f_failed_ra0 p1 w_failed_ra0 w_lineLength_ra0 w_boundaryLine_ra0) = w_failed_ra0 := ((if_pos hc4_347).trans ((if_neg hc30_353).trans ((if_pos hc37_603).trans (if_neg hc75_610))))
          have hf670 : (v6_f_position_ra0 w_failed_ra0 w_position_ra0) = (w_position_ra0 + (1 : Int32)) := (if_pos hc4_347)
          have f671 := ((Fw642.other W647 (Or.inr (slot_ne (Or.inl (hw _ (List.mem_of_getElem? (i := 34) rfl))) (Or.inl (hw _ (List.mem_of_getElem? (i := 23) rfl))) (by decide) (t := .int) (t' := .boolean) (by decide) (by decide)))).other W655 (Or.inr (slot_ne (Or.inl (hw _ (List.mem_of_getElem? (i := 34) rfl))) (Or.inl (hw _ (List.mem_of_getElem? (i := 32) rfl))) (by decide) (t := .int) (t' := .int) (by decide) (by decide))))
          have hf672 : (v6_f_lineLength_ra0 p1 w_failed_ra0 w_lineLength_ra0 w_boundaryLine_ra0) = (0 : Int32) := ((if_pos hc4_347).trans ((if_neg hc30_353).trans ((if_pos hc37_603).trans (if_neg hc75_610))))
          have f673 := (((V_r_line_ra0.other W642 (Ne.symm (own_ne_oa E_ra0 (hw _ (List.mem_of_getElem? (i := 12) rfl)) V_r_line_ra0))).other W647 (Ne.symm (own_ne_oa E_ra0 (hw _ (List.mem_of_getElem? (i := 12) rfl)) V_r_line_ra0))).other W655 (Ne.symm (own_ne_oa E_ra0 (hw _ (List.mem_of_getElem? (i := 12) rfl)) V_r_line_ra0)))
          have ha674 : (v6_a_r_line_ra0 p1 w_failed_ra0 w_lineLength_ra0 L_r_line_ra0) = L_r_line_ra0 := ((if_pos hc4_347).trans (if_neg hc30_353))
          have hK675 : (v6_cls p1 w_failed_ra0 w_lineLength_ra0 w_boundaryLine_ra0) = (0 : Int32) := ((if_pos hc4_347).trans ((if_neg hc30_353).trans (if_pos hc37_603)))
          refine ⟨_, _, k663 _ ?_, hrun, hended, _, _, rfl, ?_, ⟨_, rfl⟩, hW, hsame.mono (by decide) (by decide)⟩
          · show Steps p.tables e below (T659.setTop (mkF m 226 #[rv ra0, iv p1, .val .null, iv (v6_14_s0 p1), .unset] [.null])) _
            exact retOut X659 hx (t := (.array .byte)) Bd.returns rfl (Or.inr (Or.inr (Or.inr (Or.inr ⟨rfl, rfl, rfl⟩)))) (hb hby d6_226) hr
          · show Q6 Z ra0 p1 w_failed_ra0 w_position_ra0 w_lineLength_ra0 r_line_ra0 k_r_line_ra0 L_r_line_ra0 w_boundaryLine_ra0 h0 n0 _ T659.heap _
            rw [e659]
            exact Or.inl ⟨hK675, rfl, N655, K655, f664, f665, (by rw [hf667]; exact f666), (by rw [hf669]; exact f668), (by rw [hf670]; exact Fw655), (by rw [hf672]; exact f671), (by rw [ha674]; exact f673), (by rw [ha674]; exact VL_r_line_ra0)⟩
      · have k676 := fun (t : State) (kk : Steps p.tables e below (T601.setTop (mkF m 41 #[rv ra0, iv p1, .val .null, iv (v6_14_s0 p1), .unset] [(.ref ra0)])) t) => k602 t (by
          refine XS.ifNo X601.here hx rfl (hb hby d6_37) rfl ((if0 _ _).trans (feq hc37_603).1) ?_
          show Steps p.tables e below (T601.setTop (mkF m 40 #[rv ra0, iv p1, .val .null, iv (v6_14_s0 p1), .unset] [])) _
          refine XS.aloadN X601.here hx rfl (hb hby d6_40) rfl rfl ?_
          exact kk)
        obtain ⟨T677, X677, e677, st677⟩ := getF X601 hx hZ hown (host := "") (Or.inl (hw _ (List.mem_of_getElem? (i := 33) rfl))) Via.refl e601 F_lineLength_ra0 (g := (mkF m 41 #[rv ra0, iv p1, .val .null, iv (v6_14_s0 p1), .unset] [(.ref ra0)])) rfl rfl (hb hby d6_41)
        have k678 := fun (t : State) (kk : Steps p.tables e below (T677.setTop (mkF m 44 #[rv ra0, iv p1, .val .null, iv (v6_14_s0 p1), .unset] [(.int w_lineLength_ra0)])) t) => k676 t (st677 _ kk)
        have k679 := fun (t : State) (kk : Steps p.tables e below (T677.setTop (mkF m 45 #[rv ra0, iv p1, .val .null, iv (v6_14_s0 p1), .unset] [(.int 2), (.int w_lineLength_ra0)])) t) => k678 t (by
          refine XS.iconst X677.here hx rfl (hb hby d6_44) ?_
          exact kk)
        by_cases hc45_680 : w_lineLength_ra0 < (2 : Int32)
        · have k681 := fun (t : State) (kk : Steps p.tables e below (T677.setTop (mkF m 65 #[rv ra0, iv p1, .val .null, iv (v6_14_s0 p1), .unset] [(.ref ra0)])) t) => k679 t (by
            refine XS.icmpYes X677.here hx rfl (pc0 := 45) (pc' := 64) rfl (hb hby d6_45) rfl (tlt hc45_680).1 (by decide) (by decide) ?_
            refine XS.aloadN X677.here hx rfl (hb hby d6_64) rfl rfl ?_
            exact kk)
          obtain ⟨T682, X682, e682, st682⟩ := getF X677 hx hZ hown (host := "") (Or.inl (hw _ (List.mem_of_getElem? (i := 31) rfl))) Via.refl e677 F_position_ra0 (g := (mkF m 65 #[rv ra0, iv p1, .val .null, iv (v6_14_s0 p1), .unset] [(.ref ra0)])) rfl rfl (hb hby d6_65)
          have k683 := fun (t : State) (kk : Steps p.tables e below (T682.setTop (mkF m 68 #[rv ra0, iv p1, .val .null, iv (v6_14_s0 p1), .unset] [(.int w_position_ra0)])) t) => k681 t (st682 _ kk)
          have k684 := fun (t : State) (kk : Steps p.tables e below (T682.setTop (mkF m 71 #[rv ra0, iv p1, .val .null, iv (v6_14_s0 p1), .unset] [(.int 2048), (.int w_position_ra0)])) t) => k683 t (by
            refine XS.sipush X682.here hx rfl (hb hby d6_68) ?_
            exact kk)
          have hc71_685 : ¬ (w_position_ra0 = (2048 : Int32)) := hp1
          have k686 := fun (t : State) (kk : Steps p.tables e below (T682.setTop (mkF m 75 #[rv ra0, iv p1, .val .null, iv (v6_14_s0 p1), .unset] [(.int p1)])) t) => k684 t (by
            refine XS.icmpNo X682.here hx rfl (hb hby d6_71) rfl (feq hc71_685).1 ?_
            refine XS.iloadN X682.here hx rfl (hb hby d6_74) rfl ?_
            exact kk)
          by_cases hc75_687 : p1 < (0 : Int32)
          · have k688 := fun (t : State) (kk : Steps p.tables e below (T682.setTop (mkF m 80 #[rv ra0, iv p1, .val .null, iv (v6_14_s0 p1), .unset] [(.int 1), (.ref ra0)])) t) => k686 t (by
              refine XS.ifNo X682.here hx rfl (hb hby d6_75) rfl ((if0 _ _).trans (tlt hc75_687).2.1) ?_
              refine XS.aloadN X682.here hx rfl (hb hby d6_78) rfl rfl ?_
              refine XS.iconst X682.here hx rfl (hb hby d6_79) ?_
              exact kk)
            obtain ⟨T689, h689, X689, e689, W689, st689⟩ := putFN X682 hx hZ hown (hw _ (List.mem_of_getElem? (i := 29) rfl)) Via.refl e682 F_failed_ra0 E_ra0 (Or.inl (hw _ (List.mem_of_getElem? (i := 30) rfl))) (hw _ (List.mem_of_getElem? (i := 12) rfl)) (ty := .boolean) (v' := (.int 1)) (by decide) rfl rfl (g := (mkF m 80 #[rv ra0, iv p1, .val .null, iv (v6_14_s0 p1), .unset] [(.int 1), (.ref ra0)])) rfl rfl (hb hby d6_80)
            have Fw689 := F_failed_ra0.same W689
            have K689 : Keep h0 h689 [ra0, r_line_ra0] := KC0.wr W689 (Or.inl (List.mem_of_getElem? (i := 0) rfl))
            have N689 := Fr.snoc X689 N0 g_ra0
            have k690 := fun (t : State) (kk : Steps p.tables e below (T689.setTop (mkF m 83 #[rv ra0, iv p1, .val .null, iv (v6_14_s0 p1), .unset] [])) t) => k688 t (st689 _ kk)
            have k691 := fun (t : State) (kk : Steps p.tables e below (T689.setTop (mkF m 183 #[rv ra0, iv p1, .val .null, iv (v6_14_s0 p1), .unset] [(.ref ra0), (.ref ra0)])) t) => k690 t (by
              refine XS.goto X689.here hx rfl (pc0 := 83) (pc' := 181) rfl (hb hby d6_83) (by decide) (by decide) ?_
              refine XS.aloadN X689.here hx rfl (hb hby d6_181) rfl rfl ?_
              show Steps p.tables e below (T689.setTop (mkF m 182 #[rv ra0, iv p1, .val .null, iv (v6_14_s0 p1), .unset] [(.ref ra0)])) _
              refine XS.dup X689.here hx rfl (hb hby d6_182) rfl rfl ?_
              exact kk)
            have f692 := (F_position_ra0.other W689 (Or.inr (slot_ne (Or.inl (hw _ (List.mem_of_getElem? (i := 32) rfl))) (Or.inl (hw _ (List.mem_of_getElem? (i := 30) rfl))) (by decide) (t := .int) (t' := .boolean) (by decide) (by decide))))
            obtain ⟨T693, X693, e693, st693⟩ := getF X689 hx hZ hown (host := "") (Or.inl (hw _ (List.mem_of_getElem? (i := 31) rfl))) Via.refl e689 f692 (g := (mkF m 183 #[rv ra0, iv p1, .val .null, iv (v6_14_s0 p1), .unset] [(.ref ra0), (.ref ra0)])) rfl rfl (hb hby d6_183)
            have k694 := fun (t : State) (kk : Steps p.tables e below (T693.setTop (mkF m 186 #[rv ra0, iv p1, .val .null, iv (v6_14_s0 p1), .unset] [(.int w_position_ra0), (.ref ra0)])) t) => k691 t (st693 _ kk)
            have k695 := fun (t : State) (kk : Steps p.tables e below (T693.setTop (mkF m 188 #[rv ra0, iv p1, .val .null, iv (v6_14_s0 p1), .unset] [(.int (w_position_ra0 + (1 : Int32))), (.ref ra0)])) t) => k694 t (by
              refine XS.iconst X693.here hx rfl (hb hby d6_186) ?_
              refine XS.iadd X693.here hx rfl (hb hby d6_187) rfl ?_
              exact kk)
            have f696 := (E_ra0.wr W689)
            obtain ⟨T697, h697, X697, e697, W697, st697⟩ := putF X693 hx hZ hown (host := "") (Or.inl (hw _ (List.mem_of_getElem? (i := 31) rfl))) Via.refl e693 f692 f696 (Or.inl (hw _ (List.mem_of_getElem? (i := 32) rfl))) (hw _ (List.mem_of_getElem? (i := 12) rfl)) (ty := .int) (by decide) rfl rfl (g := (mkF m 188 #[rv ra0, iv p1, .val .null, iv (v6_14_s0 p1), .unset] [(.int (w_position_ra0 + (1 : Int32))), (.ref ra0)])) rfl rfl (hb hby d6_188)
            have Fw697 := f692.same W697
            have K697 : Keep h0 h697 [ra0, r_line_ra0] := K689.wr W697 (Or.inl (List.mem_of_getElem? (i := 0) rfl))
            have N697 := Fr.snoc X697 N689 g_ra0
            have k698 := fun (t : State) (kk : Steps p.tables e below (T697.setTop (mkF m 191 #[rv ra0, iv p1, .val .null, iv (v6_14_s0 p1), .unset] [])) t) => k695 t (st697 _ kk)
            have k699 := fun (t : State) (kk : Steps p.tables e below (T697.setTop (mkF m 192 #[rv ra0, iv p1, .val .null, iv (v6_14_s0 p1), .unset] [.null])) t) => k698 t (by
              refine XS.aloadN X697.here hx rfl (hb hby d6_191) rfl rfl ?_
              exact kk)
            have k700 := fun (t : State) (kk : Steps p.tables e below (T697.setTop (mkF m 196 #[rv ra0, iv p1, .val .null, iv (v6_14_s0 p1), .unset] [(.ref ra0)])) t) => k699 t (by
              show Steps p.tables e below (T697.setTop (mkF m 192 #[rv ra0, iv p1, .val .null, iv (v6_14_s0 p1), .unset] [.null])) _
              refine XS.ifnonnullNo X697.here hx rfl (hb hby d6_192) rfl ?_
              refine XS.aloadN X697.here hx rfl (hb hby d6_195) rfl rfl ?_
              exact kk)
            obtain ⟨T701, X701, e701, st701⟩ := getF X697 hx hZ hown (host := "") (Or.inl (hw _ (List.mem_of_getElem? (i := 31) rfl))) Via.refl e697 Fw697 (g := (mkF m 196 #[rv ra0, iv p1, .val .null, iv (v6_14_s0 p1), .unset] [(.ref ra0)])) rfl rfl (hb hby d6_196)
            have k702 := fun (t : State) (kk : Steps p.tables e below (T701.setTop (mkF m 199 #[rv ra0, iv p1, .val .null, iv (v6_14_s0 p1), .unset] [(.int (w_position_ra0 + (1 : Int32)))])) t) => k700 t (st701 _ kk)
            have k703 := fun (t : State) (kk : Steps p.tables e below (T701.setTop (mkF m 202 #[rv ra0, iv p1, .val .null, iv (v6_14_s0 p1), .unset] [(.int 2048), (.int (w_position_ra0 + (1 : Int32)))])) t) => k702 t (by
              refine XS.sipush X701.here hx rfl (hb hby d6_199) ?_
              exact kk)
            have hc202_704 : ¬ ((w_position_ra0 + (1 : Int32)) = (2048 : Int32)) := hp2
            have k705 := fun (t : State) (kk : Steps p.tables e below (T701.setTop (mkF m 226 #[rv ra0, iv p1, .val .null, iv (v6_14_s0 p1), .unset] [.null])) t) => k703 t (by
              refine XS.icmpYes X701.here hx rfl (pc0 := 202) (pc' := 225) rfl (hb hby d6_202) rfl (feq hc202_704).2 (by decide) (by decide) ?_
              refine XS.aloadN X701.here hx rfl (hb hby d6_225) rfl rfl ?_
              exact kk)
            obtain ⟨fs, hr, hrun, hended, hW, hsame⟩ := X701.leave (v := some .null) (fun h => by rw [Bd.returns] at h; cases h) hlk
            have f706 := (f696.wr W697)
            have f707 := ((F_line_ra0.other W689 (Or.inr (slot_ne (Or.inr (hw _ (List.mem_of_getElem? (i := 21) rfl))) (Or.inl (hw _ (List.mem_of_getElem? (i := 30) rfl))) (by decide) (t := (.array .byte)) (t' := .boolean) (by decide) (by decide)))).other W697 (Or.inr (slot_ne (Or.inr (hw _ (List.mem_of_getElem? (i := 21) rfl))) (Or.inl (hw _ (List.mem_of_getElem? (i := 32) rfl))) (by decide) (t := (.array .byte)) (t' := .int) (by decide) (by decide))))
            have f708 := ((F_boundaryLine_ra0.other W689 (Or.inr (slot_ne (Or.inl (hw _ (List.mem_of_getElem? (i := 23) rfl))) (Or.inl (hw _ (List.mem_of_getElem? (i := 30) rfl))) (by decide) (t := .boolean) (t' := .boolean) (by decide) (by decide)))).other W697 (Or.inr (slot_ne (Or.inl (hw _ (List.mem_of_getElem? (i := 23) rfl))) (Or.inl (hw _ (List.mem_of_getElem? (i := 32) rfl))) (by decide) (t := .boolean) (t' := .int) (by decide) (by decide))))
            have hf709 : (v6_f_boundaryLine_ra0 p1 w_failed_ra0 w_lineLength_ra0 w_boundaryLine_ra0) = w_boundaryLine_ra0 := ((if_pos hc4_347).trans ((if_neg hc30_353).trans ((if_neg hc37_603).trans ((if_pos hc45_680).trans (if_pos hc75_687)))))
            have f710 := (Fw689.other W697 (Or.inr (slot_ne (Or.inl (hw _ (List.mem_of_getElem? (i := 30) rfl))) (Or.inl (hw _ (List.mem_of_getElem? (i := 32) rfl))) (by decide) (t := .boolean) (t' := .int) (by decide) (by decide))))
            have hf711 : (v6_f_failed_ra0 p1 w_failed_ra0 w_lineLength_ra0 w_boundaryLine_ra0) = (1 : Int32) := ((if_pos hc4_347).trans ((if_neg hc30_353).trans ((if_neg hc37_603).trans ((if_pos hc45_680).trans (if_pos hc75_687)))))
            have hf712 : (v6_f_position_ra0 w_failed_ra0 w_position_ra0) = (w_position_ra0 + (1 : Int32)) := (if_pos hc4_347)
            have f713 := ((F_lineLength_ra0.other W689 (Or.inr (slot_ne (Or.inl (hw _ (List.mem_of_getElem? (i := 34) rfl))) (Or.inl (hw _ (List.mem_of_getElem? (i := 30) rfl))) (by decide) (t := .int) (t' := .boolean) (by decide) (by decide)))).other W697 (Or.inr (slot_ne (Or.inl (hw _ (List.mem_of_getElem? (i := 34) rfl))) (Or.inl (hw _ (List.mem_of_getElem? (i := 32) rfl))) (by decide) (t := .int) (t' := .int) (by decide) (by decide))))
            have hf714 : (v6_f_lineLength_ra0 p1 w_failed_ra0 w_lineLength_ra0 w_boundaryLine_ra0) = w_lineLength_ra0 := ((if_pos hc4_347).trans ((if_neg hc30_353).trans ((if_neg hc37_603).trans ((if_pos hc45_680).trans (if_pos hc75_687)))))
            have f715 := ((V_r_line_ra0.other W689 (Ne.symm (own_ne_oa E_ra0 (hw _ (List.mem_of_getElem? (i := 12) rfl)) V_r_line_ra0))).other W697 (Ne.symm (own_ne_oa E_ra0 (hw _ (List.mem_of_getElem? (i := 12) rfl)) V_r_line_ra0)))
            have ha716 : (v6_a_r_line_ra0 p1 w_failed_ra0 w_lineLength_ra0 L_r_line_ra0) = L_r_line_ra0 := ((if_pos hc4_347).trans (if_neg hc30_353))
            have hK717 : (v6_cls p1 w_failed_ra0 w_lineLength_ra0 w_boundaryLine_ra0) = (0 : Int32) := ((if_pos hc4_347).trans ((if_neg hc30_353).trans ((if_neg hc37_603).trans (if_pos hc45_680))))
            refine ⟨_, _, k705 _ ?_, hrun, hended, _, _, rfl, ?_, ⟨_, rfl⟩, hW, hsame.mono (by decide) (by decide)⟩
            · show Steps p.tables e below (T701.setTop (mkF m 226 #[rv ra0, iv p1, .val .null, iv (v6_14_s0 p1), .unset] [.null])) _
              exact retOut X701 hx (t := (.array .byte)) Bd.returns rfl (Or.inr (Or.inr (Or.inr (Or.inr ⟨rfl, rfl, rfl⟩)))) (hb hby d6_226) hr
            · show Q6 Z ra0 p1 w_failed_ra0 w_position_ra0 w_lineLength_ra0 r_line_ra0 k_r_line_ra0 L_r_line_ra0 w_boundaryLine_ra0 h0 n0 _ T701.heap _
              rw [e701]
              exact Or.inl ⟨hK717, rfl, N697, K697, f706, f707, (by rw [hf709]; exact f708), (by rw [hf711]; exact f710), (by rw [hf712]; exact Fw697), (by rw [hf714]; exact f713), (by rw [ha716]; exact f715), (by rw [ha716]; exact VL_r_line_ra0)⟩
          · have k718 := fun (t : State) (kk : Steps p.tables e below (T682.setTop (mkF m 92 #[rv ra0, iv p1, .val .null, iv (v6_14_s0 p1), .unset] [(.int 0), (.ref ra0)])) t) => k686 t (by
              refine XS.ifYes X682.here hx rfl (pc0 := 75) (pc' := 86) rfl (hb hby d6_75) rfl ((if0 _ _).trans (flt hc75_687).2.1) (by decide) (by decide) ?_
              refine XS.iloadN X682.here hx rfl (hb hby d6_86) rfl ?_
              refine XS.ifNo X682.here hx rfl (hb hby d6_87) rfl ((if0 _ _).trans (feq hc30_353).1) ?_
              refine XS.aloadN X682.here hx rfl (hb hby d6_90) rfl rfl ?_
              show Steps p.tables e below (T682.setTop (mkF m 91 #[rv ra0, iv p1, .val .null, iv (v6_14_s0 p1), .unset] [(.ref ra0)])) _
              refine XS.iconst X682.here hx rfl (hb hby d6_91) ?_
              exact kk)
            obtain ⟨T719, h719, X719, e719, W719, st719⟩ := putF X682 hx hZ hown (host := "") (Or.inl (hw _ (List.mem_of_getElem? (i := 33) rfl))) Via.refl e682 F_lineLength_ra0 E_ra0 (Or.inl (hw _ (List.mem_of_getElem? (i := 34) rfl))) (hw _ (List.mem_of_getElem? (i := 12) rfl)) (ty := .int) (by decide) rfl rfl (g := (mkF m 92 #[rv ra0, iv p1, .val .null, iv (v6_14_s0 p1), .unset] [(.int 0), (.ref ra0)])) rfl rfl (hb hby d6_92)
            have Fw719 := F_lineLength_ra0.same W719
            have K719 : Keep h0 h719 [ra0, r_line_ra0] := KC0.wr W719 (Or.inl (List.mem_of_getElem? (i := 0) rfl))
            have N719 := Fr.snoc X719 N0 g_ra0
            have k720 := fun (t : State) (kk : Steps p.tables e below (T719.setTop (mkF m 95 #[rv ra0, iv p1, .val .null, iv (v6_14_s0 p1), .unset] [])) t) => k718 t (st719 _ kk)
            have k721 := fun (t : State) (kk : Steps p.tables e below (T719.setTop (mkF m 97 #[rv ra0, iv p1, .val .null, iv (v6_14_s0 p1), .unset] [(.int 1), (.ref ra0)])) t) => k720 t (by
              refine XS.aloadN X719.here hx rfl (hb hby d6_95) rfl rfl ?_
              refine XS.iconst X719.here hx rfl (hb hby d6_96) ?_
              exact kk)
            have f722 := (E_ra0.wr W719)
            have f723 := (F_boundaryLine_ra0.other W719 (Or.inr (slot_ne (Or.inl (hw _ (List.mem_of_getElem? (i := 23) rfl))) (Or.inl (hw _ (List.mem_of_getElem? (i := 34) rfl))) (by decide) (t := .boolean) (t' := .int) (by decide) (by decide))))
            obtain ⟨T724, h724, X724, e724, W724, st724⟩ := putFN X719 hx hZ hown (hw _ (List.mem_of_getElem? (i := 22) rfl)) Via.refl e719 f723 f722 (Or.inl (hw _ (List.mem_of_getElem? (i := 23) rfl))) (hw _ (List.mem_of_getElem? (i := 12) rfl)) (ty := .boolean) (v' := (.int 1)) (by decide) rfl rfl (g := (mkF m 97 #[rv ra0, iv p1, .val .null, iv (v6_14_s0 p1), .unset] [(.int 1), (.ref ra0)])) rfl rfl (hb hby d6_97)
            have Fw724 := f723.same W724
            have K724 : Keep h0 h724 [ra0, r_line_ra0] := K719.wr W724 (Or.inl (List.mem_of_getElem? (i := 0) rfl))
            have N724 := Fr.snoc X724 N719 g_ra0
            have k725 := fun (t : State) (kk : Steps p.tables e below (T724.setTop (mkF m 100 #[rv ra0, iv p1, .val .null, iv (v6_14_s0 p1), .unset] [])) t) => k721 t (st724 _ kk)
            have k726 := fun (t : State) (kk : Steps p.tables e below (T724.setTop (mkF m 183 #[rv ra0, iv p1, .val .null, iv (v6_14_s0 p1), .unset] [(.ref ra0), (.ref ra0)])) t) => k725 t (by
              refine XS.goto X724.here hx rfl (pc0 := 100) (pc' := 181) rfl (hb hby d6_100) (by decide) (by decide) ?_
              refine XS.aloadN X724.here hx rfl (hb hby d6_181) rfl rfl ?_
              refine XS.dup X724.here hx rfl (hb hby d6_182) rfl rfl ?_
              exact kk)
            have f727 := ((F_position_ra0.other W719 (Or.inr (slot_ne (Or.inl (hw _ (List.mem_of_getElem? (i := 32) rfl))) (Or.inl (hw _ (List.mem_of_getElem? (i := 34) rfl))) (by decide) (t := .int) (t' := .int) (by decide) (by decide)))).other W724 (Or.inr (slot_ne (Or.inl (hw _ (List.mem_of_getElem? (i := 32) rfl))) (Or.inl (hw _ (List.mem_of_getElem? (i := 23) rfl))) (by decide) (t := .int) (t' := .boolean) (by decide) (by decide))))
            obtain ⟨T728, X728, e728, st728⟩ := getF X724 hx hZ hown (host := "") (Or.inl (hw _ (List.mem_of_getElem? (i := 31) rfl))) Via.refl e724 f727 (g := (mkF m 183 #[rv ra0, iv p1, .val .null, iv (v6_14_s0 p1), .unset] [(.ref ra0), (.ref ra0)])) rfl rfl (hb hby d6_183)
            have k729 := fun (t : State) (kk : Steps p.tables e below (T728.setTop (mkF m 186 #[rv ra0, iv p1, .val .null, iv (v6_14_s0 p1), .unset] [(.int w_position_ra0), (.ref ra0)])) t) => k726 t (st728 _ kk)
            have k730 := fun (t : State) (kk : Steps p.tables e below (T728.setTop (mkF m 188 #[rv ra0, iv p1, .val .null, iv (v6_14_s0 p1), .unset] [(.int (w_position_ra0 + (1 : Int32))), (.ref ra0)])) t) => k729 t (by
              refine XS.iconst X728.here hx rfl (hb hby d6_186) ?_
              refine XS.iadd X728.here hx rfl (hb hby d6_187) rfl ?_
              exact kk)
            have f731 := (f722.wr W724)
            obtain ⟨T732, h732, X732, e732, W732, st732⟩ := putF X728 hx hZ hown (host := "") (Or.inl (hw _ (List.mem_of_getElem? (i := 31) rfl))) Via.refl e728 f727 f731 (Or.inl (hw _ (List.mem_of_getElem? (i := 32) rfl))) (hw _ (List.mem_of_getElem? (i := 12) rfl)) (ty := .int) (by decide) rfl rfl (g := (mkF m 188 #[rv ra0, iv p1, .val .null, iv (v6_14_s0 p1), .unset] [(.int (w_position_ra0 + (1 : Int32))), (.ref ra0)])) rfl rfl (hb hby d6_188)
            have Fw732 := f727.same W732
            have K732 : Keep h0 h732 [ra0, r_line_ra0] := K724.wr W732 (Or.inl (List.mem_of_getElem? (i := 0) rfl))
            have N732 := Fr.snoc X732 N724 g_ra0
            have k733 := fun (t : State) (kk : Steps p.tables e below (T732.setTop (mkF m 191 #[rv ra0, iv p1, .val .null, iv (v6_14_s0 p1), .unset] [])) t) => k730 t (st732 _ kk)
            have k734 := fun (t : State) (kk : Steps p.tables e below (T732.setTop (mkF m 192 #[rv ra0, iv p1, .val .null, iv (v6_14_s0 p1), .unset] [.null])) t) => k733 t (by
              refine XS.aloadN X732.here hx rfl (hb hby d6_191) rfl rfl ?_
              exact kk)
            have k735 := fun (t : State) (kk : Steps p.tables e below (T732.setTop (mkF m 196 #[rv ra0, iv p1, .val .null, iv (v6_14_s0 p1), .unset] [(.ref ra0)])) t) => k734 t (by
              show Steps p.tables e below (T732.setTop (mkF m 192 #[rv ra0, iv p1, .val .null, iv (v6_14_s0 p1), .unset] [.null])) _
              refine XS.ifnonnullNo X732.here hx rfl (hb hby d6_192) rfl ?_
              refine XS.aloadN X732.here hx rfl (hb hby d6_195) rfl rfl ?_
              exact kk)
            obtain ⟨T736, X736, e736, st736⟩ := getF X732 hx hZ hown (host := "") (Or.inl (hw _ (List.mem_of_getElem? (i := 31) rfl))) Via.refl e732 Fw732 (g := (mkF m 196 #[rv ra0, iv p1, .val .null, iv (v6_14_s0 p1), .unset] [(.ref ra0)])) rfl rfl (hb hby d6_196)
            have k737 := fun (t : State) (kk : Steps p.tables e below (T736.setTop (mkF m 199 #[rv ra0, iv p1, .val .null, iv (v6_14_s0 p1), .unset] [(.int (w_position_ra0 + (1 : Int32)))])) t) => k735 t (st736 _ kk)
            have k738 := fun (t : State) (kk : Steps p.tables e below (T736.setTop (mkF m 202 #[rv ra0, iv p1, .val .null, iv (v6_14_s0 p1), .unset] [(.int 2048), (.int (w_position_ra0 + (1 : Int32)))])) t) => k737 t (by
              refine XS.sipush X736.here hx rfl (hb hby d6_199) ?_
              exact kk)
            have hc202_739 : ¬ ((w_position_ra0 + (1 : Int32)) = (2048 : Int32)) := hp2
            have k740 := fun (t : State) (kk : Steps p.tables e below (T736.setTop (mkF m 226 #[rv ra0, iv p1, .val .null, iv (v6_14_s0 p1), .unset] [.null])) t) => k738 t (by
              refine XS.icmpYes X736.here hx rfl (pc0 := 202) (pc' := 225) rfl (hb hby d6_202) rfl (feq hc202_739).2 (by decide) (by decide) ?_
              show Steps p.tables e below (T736.setTop (mkF m 225 #[rv ra0, iv p1, .val .null, iv (v6_14_s0 p1), .unset] [])) _
              refine XS.aloadN X736.here hx rfl (hb hby d6_225) rfl rfl ?_
              exact kk)
            obtain ⟨fs, hr, hrun, hended, hW, hsame⟩ := X736.leave (v := some .null) (fun h => by rw [Bd.returns] at h; cases h) hlk
            have f741 := (f731.wr W732)
            have f742 := (((F_line_ra0.other W719 (Or.inr (slot_ne (Or.inr (hw _ (List.mem_of_getElem? (i := 21) rfl))) (Or.inl (hw _ (List.mem_of_getElem? (i := 34) rfl))) (by decide) (t := (.array .byte)) (t' := .int) (by decide) (by decide)))).other W724 (Or.inr (slot_ne (Or.inr (hw _ (List.mem_of_getElem? (i := 21) rfl))) (Or.inl (hw _ (List.mem_of_getElem? (i := 23) rfl))) (by decide) (t := (.array .byte)) (t' := .boolean) (by decide) (by decide)))).other W732 (Or.inr (slot_ne (Or.inr (hw _ (List.mem_of_getElem? (i := 21) rfl))) (Or.inl (hw _ (List.mem_of_getElem? (i := 32) rfl))) (by decide) (t := (.array .byte)) (t' := .int) (by decide) (by decide))))
            have f743 := (Fw724.other W732 (Or.inr (slot_ne (Or.inl (hw _ (List.mem_of_getElem? (i := 23) rfl))) (Or.inl (hw _ (List.mem_of_getElem? (i := 32) rfl))) (by decide) (t := .boolean) (t' := .int) (by decide) (by decide))))
            have hf744 : (v6_f_boundaryLine_ra0 p1 w_failed_ra0 w_lineLength_ra0 w_boundaryLine_ra0) = (1 : Int32) := ((if_pos hc4_347).trans ((if_neg hc30_353).trans ((if_neg hc37_603).trans ((if_pos hc45_680).trans (if_neg hc75_687)))))
            have f745 := (((F_failed_ra0.other W719 (Or.inr (slot_ne (Or.inl (hw _ (List.mem_of_getElem? (i := 30) rfl))) (Or.inl (hw _ (List.mem_of_getElem? (i := 34) rfl))) (by decide) (t := .boolean) (t' := .int) (by decide) (by decide)))).other W724 (Or.inr (slot_ne (Or.inl (hw _ (List.mem_of_getElem? (i := 30) rfl))) (Or.inl (hw _ (List.mem_of_getElem? (i := 23) rfl))) (by decide) (t := .boolean) (t' := .boolean) (by decide) (by decide)))).other W732 (Or.inr (slot_ne (Or.inl (hw _ (List.mem_of_getElem? (i := 30) rfl))) (Or.inl (hw _ (List.mem_of_getElem? (i := 32) rfl))) (by decide) (t := .boolean) (t' := .int) (by decide) (by decide))))
            have hf746 : (v6_f_failed_ra0 p1 w_failed_ra0 w_lineLength_ra0 w_boundaryLine_ra0) = w_failed_ra0 := ((if_pos hc4_347).trans ((if_neg hc30_353).trans ((if_neg hc37_603).trans ((if_pos hc45_680).trans (if_neg hc75_687)))))
            have hf747 : (v6_f_position_ra0 w_failed_ra0 w_position_ra0) = (w_position_ra0 + (1 : Int32)) := (if_pos hc4_347)
            have f748 := ((Fw719.other W724 (Or.inr (slot_ne (Or.inl (hw _ (List.mem_of_getElem? (i := 34) rfl))) (Or.inl (hw _ (List.mem_of_getElem? (i := 23) rfl))) (by decide) (t := .int) (t' := .boolean) (by decide) (by decide)))).other W732 (Or.inr (slot_ne (Or.inl (hw _ (List.mem_of_getElem? (i := 34) rfl))) (Or.inl (hw _ (List.mem_of_getElem? (i := 32) rfl))) (by decide) (t := .int) (t' := .int) (by decide) (by decide))))
            have hf749 : (v6_f_lineLength_ra0 p1 w_failed_ra0 w_lineLength_ra0 w_boundaryLine_ra0) = (0 : Int32) := ((if_pos hc4_347).trans ((if_neg hc30_353).trans ((if_neg hc37_603).trans ((if_pos hc45_680).trans (if_neg hc75_687)))))
            have f750 := (((V_r_line_ra0.other W719 (Ne.symm (own_ne_oa E_ra0 (hw _ (List.mem_of_getElem? (i := 12) rfl)) V_r_line_ra0))).other W724 (Ne.symm (own_ne_oa E_ra0 (hw _ (List.mem_of_getElem? (i := 12) rfl)) V_r_line_ra0))).other W732 (Ne.symm (own_ne_oa E_ra0 (hw _ (List.mem_of_getElem? (i := 12) rfl)) V_r_line_ra0)))
            have ha751 : (v6_a_r_line_ra0 p1 w_failed_ra0 w_lineLength_ra0 L_r_line_ra0) = L_r_line_ra0 := ((if_pos hc4_347).trans (if_neg hc30_353))
            have hK752 : (v6_cls p1 w_failed_ra0 w_lineLength_ra0 w_boundaryLine_ra0) = (0 : Int32) := ((if_pos hc4_347).trans ((if_neg hc30_353).trans ((if_neg hc37_603).trans (if_pos hc45_680))))
            refine ⟨_, _, k740 _ ?_, hrun, hended, _, _, rfl, ?_, ⟨_, rfl⟩, hW, hsame.mono (by decide) (by decide)⟩
            · show Steps p.tables e below (T736.setTop (mkF m 226 #[rv ra0, iv p1, .val .null, iv (v6_14_s0 p1), .unset] [.null])) _
              exact retOut X736 hx (t := (.array .byte)) Bd.returns rfl (Or.inr (Or.inr (Or.inr (Or.inr ⟨rfl, rfl, rfl⟩)))) (hb hby d6_226) hr
            · show Q6 Z ra0 p1 w_failed_ra0 w_position_ra0 w_lineLength_ra0 r_line_ra0 k_r_line_ra0 L_r_line_ra0 w_boundaryLine_ra0 h0 n0 _ T736.heap _
              rw [e736]
              exact Or.inl ⟨hK752, rfl, N732, K732, f741, f742, (by rw [hf744]; exact f743), (by rw [hf746]; exact f745), (by rw [hf747]; exact Fw732), (by rw [hf749]; exact f748), (by rw [ha751]; exact f750), (by rw [ha751]; exact VL_r_line_ra0)⟩
        · have k753 := fun (t : State) (kk : Steps p.tables e below (T677.setTop (mkF m 49 #[rv ra0, iv p1, .val .null, iv (v6_14_s0 p1), .unset] [(.ref ra0)])) t) => k679 t (by
            refine XS.icmpNo X677.here hx rfl (hb hby d6_45) rfl (flt hc45_680).1 ?_
            refine XS.aloadN X677.here hx rfl (hb hby d6_48) rfl rfl ?_
            exact kk)
          obtain ⟨T754, X754, e754, st754⟩ := getF X677 hx hZ hown (host := "") (Or.inl (hw _ (List.mem_of_getElem? (i := 20) rfl))) Via.refl e677 F_line_ra0 (g := (mkF m 49 #[rv ra0, iv p1, .val .null, iv (v6_14_s0 p1), .unset] [(.ref ra0)])) rfl rfl (hb hby d6_49)
          have k755 := fun (t : State) (kk : Steps p.tables e below (T754.setTop (mkF m 52 #[rv ra0, iv p1, .val .null, iv (v6_14_s0 p1), .unset] [(.ref r_line_ra0)])) t) => k753 t (st754 _ kk)
          have k756 := fun (t : State) (kk : Steps p.tables e below (T754.setTop (mkF m 54 #[rv ra0, iv p1, .val .null, iv (v6_14_s0 p1), .unset] [(.ref ra0), (.int 2), (.ref r_line_ra0)])) t) => k755 t (by
            refine XS.iconst X754.here hx rfl (hb hby d6_52) ?_
            refine XS.aloadN X754.here hx rfl (hb hby d6_53) rfl rfl ?_
            exact kk)
          obtain ⟨T757, X757, e757, st757⟩ := getF X754 hx hZ hown (host := "") (Or.inl (hw _ (List.mem_of_getElem? (i := 33) rfl))) Via.refl e754 F_lineLength_ra0 (g := (mkF m 54 #[rv ra0, iv p1, .val .null, iv (v6_14_s0 p1), .unset] [(.ref ra0), (.int 2), (.ref r_line_ra0)])) rfl rfl (hb hby d6_54)
          have k758 := fun (t : State) (kk : Steps p.tables e below (T757.setTop (mkF m 57 #[rv ra0, iv p1, .val .null, iv (v6_14_s0 p1), .unset] [(.int w_lineLength_ra0), (.int 2), (.ref r_line_ra0)])) t) => k756 t (st757 _ kk)
          have Zz759 : n0 ≤ h0.size := (Nat.le_trans Z0 KC0.1)
          obtain ⟨_, _, ⟨T759, L759, k759, n759⟩, -, X759, ⟨Lc759, hQ759, l759, y759, z759⟩, st759⟩ := Jvm.LawKit.callS X757 hx (y := (⟨"java/util/Arrays", "copyOfRange", "([BII)[B"⟩ : MethodName)) hown (mvT hZ (hw _ (List.mem_of_getElem? (i := 52) rfl))) (mvT hZ (hw _ (List.mem_of_getElem? (i := 53) rfl))) (mvT hZ (hw _ (List.mem_of_getElem? (i := 54) rfl))) (mvT hZ (hw _ (List.mem_of_getElem? (i := 55) rfl))) (by decide) (backOf (W := 0) (rm12 l Z a0 hw [] r_line_ra0 (2 : Int32) w_lineLength_ra0 k_r_line_ra0 (2048 : Int32) L_r_line_ra0 h0 n0 Zz759 (by decide : ¬ (2 : Int32) < 0) (hc45_680 : ¬ w_lineLength_ra0 < (2 : Int32)) (own_ll1 hll : ¬ (2048 : Int32) < w_lineLength_ra0) (own_ll2 hll hc45_680 : (w_lineLength_ra0 - (2 : Int32)).toNatClampNeg ≤ 8) (by decide : ¬ (2 : Int32) = (0 : Int32)) V_r_line_ra0 VL_r_line_ra0) hZ (hw _ (List.mem_of_getElem? (i := 55) rfl)) (hw _ (List.mem_of_getElem? (i := 54) rfl)) (by decide) (by decide)) (g := (mkF m 57 #[rv ra0, iv p1, .val .null, iv (v6_14_s0 p1), .unset] [(.int w_lineLength_ra0), (.int 2), (.ref r_line_ra0)])) rfl (by rw [hml]; rfl) (argsL := [(.ref r_line_ra0), (.int 2), (.int w_lineLength_ra0)]) (rest := []) (lenOf pd_5 rfl) rfl (by show 2 * 0 + _ ≤ _; exact Nat.le_of_eq rfl) (hb hby d6_57) (fun _ _ => ⟨rfl, e757, (by decide : 0 + 1 ≤ _), (by decide : 0 + 8 ≤ _)⟩)
          dsimp only [Pt.U, Pt.locs, Pt.cells, Pt.slots] at X759 l759 y759 z759 st759 hQ759
          subst l759 y759 z759
          obtain ⟨xb_759, k_xb_759, rfl, N759q, Kq759, sx_xb_759, Vx_xb_759, VLx_xb_759⟩ := hQ759
          have ne_ra0_xb_759 : ra0 ≠ xb_759 := Nat.ne_of_lt (Nat.lt_of_lt_of_le E_ra0.lt sx_xb_759)
          have ne_r_line_ra0_xb_759 : r_line_ra0 ≠ xb_759 := Nat.ne_of_lt (Nat.lt_of_lt_of_le V_r_line_ra0.lt sx_xb_759)
          have sz_xb_759 : h0.size ≤ xb_759 := Nat.le_trans KC0.1 sx_xb_759
          have g_xb_759 : n0 ≤ xb_759 := Nat.le_trans Z0 sz_xb_759
          have K759 : Keep h0 T759.heap [ra0, r_line_ra0] := KC0.trans Kq759 all0
          have N759 := Fr.app N0 N759q
          have k760 := fun (t : State) (kk : Steps p.tables e below (T759.setTop (mkF m 60 #[rv ra0, iv p1, .val .null, iv (v6_14_s0 p1), .unset] [(.ref xb_759)])) t) => k758 t (st759 _ kk)
          have k761 := fun (t : State) (kk : Steps p.tables e below (T759.setTop (mkF m 183 #[rv ra0, iv p1, rv xb_759, iv (v6_14_s0 p1), .unset] [(.ref ra0), (.ref ra0)])) t) => k760 t (by
            refine XS.astoreN X759.here hx rfl (hb hby d6_60) rfl rfl (l' := #[rv ra0, iv p1, rv xb_759, iv (v6_14_s0 p1), .unset]) rfl ?_
            refine XS.goto X759.here hx rfl (pc0 := 61) (pc' := 181) rfl (hb hby d6_61) (by decide) (by decide) ?_
            refine XS.aloadN X759.here hx rfl (hb hby d6_181) rfl rfl ?_
            refine XS.dup X759.here hx rfl (hb hby d6_182) rfl rfl ?_
            exact kk)
          have f762 := (F_position_ra0.keep Kq759 nin0)
          obtain ⟨T763, X763, e763, st763⟩ := getF X759 hx hZ hown (host := "") (Or.inl (hw _ (List.mem_of_getElem? (i := 31) rfl))) Via.refl rfl f762 (g := (mkF m 183 #[rv ra0, iv p1, rv xb_759, iv (v6_14_s0 p1), .unset] [(.ref ra0), (.ref ra0)])) rfl rfl (hb hby d6_183)
          have k764 := fun (t : State) (kk : Steps p.tables e below (T763.setTop (mkF m 186 #[rv ra0, iv p1, rv xb_759, iv (v6_14_s0 p1), .unset] [(.int w_position_ra0), (.ref ra0)])) t) => k761 t (st763 _ kk)
          have k765 := fun (t : State) (kk : Steps p.tables e below (T763.setTop (mkF m 188 #[rv ra0, iv p1, rv xb_759, iv (v6_14_s0 p1), .unset] [(.int (w_position_ra0 + (1 : Int32))), (.ref ra0)])) t) => k764 t (by
            refine XS.iconst X763.here hx rfl (hb hby d6_186) ?_
            refine XS.iadd X763.here hx rfl (hb hby d6_187) rfl ?_
            exact kk)
          have f766 := (E_ra0.keep Kq759)
          obtain ⟨T767, h767, X767, e767, W767, st767⟩ := putF X763 hx hZ hown (host := "") (Or.inl (hw _ (List.mem_of_getElem? (i := 31) rfl))) Via.refl e763 f762 f766 (Or.inl (hw _ (List.mem_of_getElem? (i := 32) rfl))) (hw _ (List.mem_of_getElem? (i := 12) rfl)) (ty := .int) (by decide) rfl rfl (g := (mkF m 188 #[rv ra0, iv p1, rv xb_759, iv (v6_14_s0 p1), .unset] [(.int (w_position_ra0 + (1 : Int32))), (.ref ra0)])) rfl rfl (hb hby d6_188)
          have Fw767 := f762.same W767
          have K767 : Keep h0 h767 [ra0, r_line_ra0] := K759.wr W767 (Or.inl (List.mem_of_getElem? (i := 0) rfl))
          have N767 := Fr.snoc X767 N759 g_ra0
          have k768 := fun (t : State) (kk : Steps p.tables e below (T767.setTop (mkF m 191 #[rv ra0, iv p1, rv xb_759, iv (v6_14_s0 p1), .unset] [])) t) => k765 t (st767 _ kk)
          have k769 := fun (t : State) (kk : Steps p.tables e below (T767.setTop (mkF m 192 #[rv ra0, iv p1, rv xb_759, iv (v6_14_s0 p1), .unset] [(.ref xb_759)])) t) => k768 t (by
            refine XS.aloadN X767.here hx rfl (hb hby d6_191) rfl rfl ?_
            exact kk)
          have k770 := fun (t : State) (kk : Steps p.tables e below (T767.setTop (mkF m 226 #[rv ra0, iv p1, rv xb_759, iv (v6_14_s0 p1), .unset] [(.ref xb_759)])) t) => k769 t (by
            show Steps p.tables e below (T767.setTop (mkF m 192 #[rv ra0, iv p1, rv xb_759, iv (v6_14_s0 p1), .unset] [(.ref xb_759)])) _
            refine XS.ifnonnullYes X767.here hx rfl (pc0 := 192) (pc' := 225) rfl (hb hby d6_192) rfl (by decide) (by decide) ?_
            show Steps p.tables e below (T767.setTop (mkF m 225 #[rv ra0, iv p1, rv xb_759, iv (v6_14_s0 p1), .unset] [])) _
            refine XS.aloadN X767.here hx rfl (hb hby d6_225) rfl rfl ?_
            exact kk)
          obtain ⟨fs, hr, hrun, hended, hW, hsame⟩ := X767.leave (v := some (.ref xb_759)) (fun h => by rw [Bd.returns] at h; cases h) hlk
          have f771 := (f766.wr W767)
          have f772 := ((F_line_ra0.keep Kq759 nin0).other W767 (Or.inr (slot_ne (Or.inr (hw _ (List.mem_of_getElem? (i := 21) rfl))) (Or.inl (hw _ (List.mem_of_getElem? (i := 32) rfl))) (by decide) (t := (.array .byte)) (t' := .int) (by decide) (by decide))))
          have f773 := ((F_boundaryLine_ra0.keep Kq759 nin0).other W767 (Or.inr (slot_ne (Or.inl (hw _ (List.mem_of_getElem? (i := 23) rfl))) (Or.inl (hw _ (List.mem_of_getElem? (i := 32) rfl))) (by decide) (t := .boolean) (t' := .int) (by decide) (by decide))))
          have hf774 : (v6_f_boundaryLine_ra0 p1 w_failed_ra0 w_lineLength_ra0 w_boundaryLine_ra0) = w_boundaryLine_ra0 := ((if_pos hc4_347).trans ((if_neg hc30_353).trans ((if_neg hc37_603).trans (if_neg hc45_680))))
          have f775 := ((F_failed_ra0.keep Kq759 nin0).other W767 (Or.inr (slot_ne (Or.inl (hw _ (List.mem_of_getElem? (i := 30) rfl))) (Or.inl (hw _ (List.mem_of_getElem? (i := 32) rfl))) (by decide) (t := .boolean) (t' := .int) (by decide) (by decide))))
          have hf776 : (v6_f_failed_ra0 p1 w_failed_ra0 w_lineLength_ra0 w_boundaryLine_ra0) = w_failed_ra0 := ((if_pos hc4_347).trans ((if_neg hc30_353).trans ((if_neg hc37_603).trans (if_neg hc45_680))))
          have hf777 : (v6_f_position_ra0 w_failed_ra0 w_position_ra0) = (w_position_ra0 + (1 : Int32)) := (if_pos hc4_347)
          have f778 := ((F_lineLength_ra0.keep Kq759 nin0).other W767 (Or.inr (slot_ne (Or.inl (hw _ (List.mem_of_getElem? (i := 34) rfl))) (Or.inl (hw _ (List.mem_of_getElem? (i := 32) rfl))) (by decide) (t := .int) (t' := .int) (by decide) (by decide))))
          have hf779 : (v6_f_lineLength_ra0 p1 w_failed_ra0 w_lineLength_ra0 w_boundaryLine_ra0) = w_lineLength_ra0 := ((if_pos hc4_347).trans ((if_neg hc30_353).trans ((if_neg hc37_603).trans (if_neg hc45_680))))
          have f780 := ((V_r_line_ra0.keep Kq759 nin0).other W767 (Ne.symm (own_ne_oa E_ra0 (hw _ (List.mem_of_getElem? (i := 12) rfl)) V_r_line_ra0)))
          have ha781 : (v6_a_r_line_ra0 p1 w_failed_ra0 w_lineLength_ra0 L_r_line_ra0) = L_r_line_ra0 := ((if_pos hc4_347).trans (if_neg hc30_353))
          have f782 := (Vx_xb_759.other W767 (Ne.symm ne_ra0_xb_759))
          have hK783 : (v6_cls p1 w_failed_ra0 w_lineLength_ra0 w_boundaryLine_ra0) = (1 : Int32) := ((if_pos hc4_347).trans ((if_neg hc30_353).trans ((if_neg hc37_603).trans (if_neg hc45_680))))
          refine ⟨_, _, k770 _ ?_, hrun, hended, _, _, rfl, ?_, ⟨_, rfl⟩, hW, hsame.mono (by decide) (by decide)⟩
          · show Steps p.tables e below (T767.setTop (mkF m 226 #[rv ra0, iv p1, rv xb_759, iv (v6_14_s0 p1), .unset] [(.ref xb_759)])) _
            exact retOut X767 hx (t := (.array .byte)) Bd.returns rfl (Or.inr (Or.inr (Or.inr (Or.inr ⟨rfl, rfl, rfl⟩)))) (hb hby d6_226) hr
          · show Q6 Z ra0 p1 w_failed_ra0 w_position_ra0 w_lineLength_ra0 r_line_ra0 k_r_line_ra0 L_r_line_ra0 w_boundaryLine_ra0 h0 n0 _ T767.heap _
            rw [e767]
            exact Or.inr ⟨hK783, xb_759, k_xb_759, rfl, N767, K767, f771, f772, (by rw [hf774]; exact f773), (by rw [hf776]; exact f775), (by rw [hf777]; exact Fw767), (by rw [hf779]; exact f778), (by rw [ha781]; exact f780), (by rw [ha781]; exact VL_r_line_ra0), sz_xb_759, f782, VLx_xb_759⟩
  · have k784 := fun (t : State) (kk : Steps p.tables e below (T345.setTop (mkF m 8 #[rv ra0, iv p1, .unset, .unset, .unset] [.null])) t) => k346 t (by
      refine XS.ifNo X345.here hx rfl (hb hby d6_4) rfl ((if0 _ _).trans (feq hc4_347).1) ?_
      refine XS.aconstNull X345.here hx rfl (hb hby d6_7) ?_
      exact kk)
    obtain ⟨fs, hr, hrun, hended, hW, hsame⟩ := X345.leave (v := some .null) (fun h => by rw [Bd.returns] at h; cases h) hlk
    have hf785 : (v6_f_boundaryLine_ra0 p1 w_failed_ra0 w_lineLength_ra0 w_boundaryLine_ra0) = w_boundaryLine_ra0 := (if_neg hc4_347)
    have hf786 : (v6_f_failed_ra0 p1 w_failed_ra0 w_lineLength_ra0 w_boundaryLine_ra0) = w_failed_ra0 := (if_neg hc4_347)
    have hf787 : (v6_f_position_ra0 w_failed_ra0 w_position_ra0) = w_position_ra0 := (if_neg hc4_347)
    have hf788 : (v6_f_lineLength_ra0 p1 w_failed_ra0 w_lineLength_ra0 w_boundaryLine_ra0) = w_lineLength_ra0 := (if_neg hc4_347)
    have ha789 : (v6_a_r_line_ra0 p1 w_failed_ra0 w_lineLength_ra0 L_r_line_ra0) = L_r_line_ra0 := (if_neg hc4_347)
    have hK790 : (v6_cls p1 w_failed_ra0 w_lineLength_ra0 w_boundaryLine_ra0) = (0 : Int32) := (if_neg hc4_347)
    refine ⟨_, _, k784 _ ?_, hrun, hended, _, _, rfl, ?_, ⟨_, rfl⟩, hW, hsame.mono (by decide) (by decide)⟩
    · show Steps p.tables e below (T345.setTop (mkF m 8 #[rv ra0, iv p1, .unset, .unset, .unset] [.null])) _
      exact retOut X345 hx (t := (.array .byte)) Bd.returns rfl (Or.inr (Or.inr (Or.inr (Or.inr ⟨rfl, rfl, rfl⟩)))) (hb hby d6_8) hr
    · show Q6 Z ra0 p1 w_failed_ra0 w_position_ra0 w_lineLength_ra0 r_line_ra0 k_r_line_ra0 L_r_line_ra0 w_boundaryLine_ra0 h0 n0 _ T345.heap _
      rw [e345]
      exact Or.inl ⟨hK790, rfl, N0, (Keep.refl h0 [ra0, r_line_ra0]), E_ra0, F_line_ra0, (by rw [hf785]; exact F_boundaryLine_ra0), (by rw [hf786]; exact F_failed_ra0), (by rw [hf787]; exact F_position_ra0), (by rw [hf788]; exact F_lineLength_ra0), (by rw [ha789]; exact V_r_line_ra0), (by rw [ha789]; exact VL_r_line_ra0)⟩
theorem d7_0 : decode method_9_code 0 = .ok (.iload_n 3, 1) := by decide +kernel
theorem d7_1 : decode method_9_code 1 = .ok (.ifCond .ne 13, 3) := by decide +kernel
theorem d7_4 : decode method_9_code 4 = .ok (.aload_n 0, 1) := by decide +kernel
theorem d7_5 : decode method_9_code 5 = .ok (.ifnonnull 7, 3) := by decide +kernel
theorem d7_8 : decode method_9_code 8 = .ok (.iconst 1, 1) := by decide +kernel
theorem d7_9 : decode method_9_code 9 = .ok (.goto 4, 3) := by decide +kernel
theorem d7_13 : decode method_9_code 13 = .ok (.ireturn, 1) := by decide +kernel
theorem d7_14 : decode method_9_code 14 = .ok (.aload_n 0, 1) := by decide +kernel
theorem d7_15 : decode method_9_code 15 = .ok (.ifnonnull 5, 3) := by decide +kernel
theorem d7_18 : decode method_9_code 18 = .ok (.iconst 0, 1) := by decide +kernel
theorem d7_19 : decode method_9_code 19 = .ok (.ireturn, 1) := by decide +kernel
def w7_ret (p3 : Int32) : Int32 := (if p3 = (0 : Int32) then (1 : Int32) else (0 : Int32))
theorem ef_rm7n (m : MethodId) (ra1 : Addr) (p2 : Int32) (p3 : Int32) : entryFrame m #[.null, (.ref ra1), (.int p2), (.int p3)] 6 = mkF m 0 #[.val .null, rv ra1, iv p2, iv p3, .unset, .unset] [] := by first | (simp [entryFrame, mkF, argsToLocals, Value.category]; done) | rfl
def Q7n (Z : State) (ra1 : Addr) (p2 : Int32) (p3 : Int32) (h0 : Heap) (n0 : Nat) (v : Option Value) (h : Heap) (L : List Loc) : Prop := (v = some (.int (w7_ret p3)) ∧ Fr n0 L ∧ h = h0)
set_option maxRecDepth 65536 in
set_option maxHeartbeats 40000000 in
theorem rm7n (l : Launch) (Z : State) (a0 : Array Value) (hw : ∀ d ∈ tables_1, d.before a0 Z = true) (ws : List Jvm.Cond) (ra1 : Addr) (p2 : Int32) (p3 : Int32) (h0 : Heap) (n0 : Nat) (Z0 : n0 ≤ h0.size) (hi : ¬ p2 < 0 ∧ p2 < (5 : Int32)) :
    MetFree l (⟨cLw, "hits", "([B[BIZ)Z"⟩ : MethodName) (head1 (Jvm.Cond.code (⟨cLw, "hits", "([B[BIZ)Z"⟩ : MethodName) method_9_code 6 (some .boolean) :: ws) ({ frames := 0, cells := 0, slots := 0, locals := 0 } : Room)) (fun a U => a = #[.null, (.ref ra1), (.int p2), (.int p3)] ∧ Z.Warmed39 U.vm ∧ U.heap = h0) (fun _ _ _ _ _ => True) (fun _ U o U' => ∃ v L, o = .returned v ∧ Q7n Z ra1 p2 p3 h0 n0 v U'.heap L ∧ FrameEnd U o U' L ({ frames := 0, cells := 0, slots := 0, locals := 0 } : Room).cells ({ frames := 0, cells := 0, slots := 0, locals := 0 } : Room).slots) := by
  refine MetFree.of_bodySF (plainFor_of_name pn_48) hisR ?_
  intro p e s m args below meth c s₁ Bd hml0 hP hK
  obtain ⟨rfl, hZ, hh⟩ := hP
  have hx := Bd.exec
  have hlk : meth.locks = false := by first | exact BodyLoose.notSynchronized Bd | exact Body.notSynchronized Bd
  have hby := Bd.bytes
  have hml : c.maxLocals = 6 := hml0
  have hown : s.vm.findClass cLw = some m.cls := findClass_of_methodNamed Bd.named
  have hnm := (name_of_methodNamed Bd.named Bd.method).1
  have X0 : Stand p l e ({ frames := 0, cells := 0, slots := 0, locals := 0 } : Room) s m #[.null, (.ref ra1), (.int p2), (.int p3)] below meth c s₁ [] 0 0 := Stand.of_body Bd
  have e0 : s₁.heap = h0 := by rw [← hh, Bd.state]; rfl
  have N0 := Fr.nil n0
  have KC0 := Keep.refl h0 ([] : List Addr)
  have pre0 : ∀ t, Steps p.tables e below (s₁.setTop (mkF m 0 #[.val .null, rv ra1, iv p2, iv p3, .unset, .unset] [])) t → Steps p.tables e below (s₁.setTop (entryFrame m #[.null, (.ref ra1), (.int p2), (.int p3)] 6)) t := fun t k => castTop (ef_rm7n m ra1 p2 p3) k
  have k791 := fun (t : State) (kk : Steps p.tables e below (s₁.setTop (mkF m 1 #[.val .null, rv ra1, iv p2, iv p3, .unset, .unset] [(.int p3)])) t) => pre0 t (by
    refine XS.iloadN X0.here hx rfl (hb hby d7_0) rfl ?_
    exact kk)
  by_cases hc1_792 : p3 = (0 : Int32)
  · have k793 := fun (t : State) (kk : Steps p.tables e below (s₁.setTop (mkF m 5 #[.val .null, rv ra1, iv p2, iv p3, .unset, .unset] [.null])) t) => k791 t (by
      refine XS.ifNo X0.here hx rfl (hb hby d7_1) rfl ((if0 _ _).trans (teq hc1_792).2) ?_
      refine XS.aloadN X0.here hx rfl (hb hby d7_4) rfl rfl ?_
      exact kk)
    have k794 := fun (t : State) (kk : Steps p.tables e below (s₁.setTop (mkF m 13 #[.val .null, rv ra1, iv p2, iv p3, .unset, .unset] [(.int 1)])) t) => k793 t (by
      show Steps p.tables e below (s₁.setTop (mkF m 5 #[.val .null, rv ra1, iv p2, iv p3, .unset, .unset] [.null])) _
      refine XS.ifnonnullNo X0.here hx rfl (hb hby d7_5) rfl ?_
      show Steps p.tables e below (s₁.setTop (mkF m 8 #[.val .null, rv ra1, iv p2, iv p3, .unset, .unset] [])) _
      refine XS.iconst X0.here hx rfl (hb hby d7_8) ?_
      refine XS.goto X0.here hx rfl (pc0 := 9) (pc' := 13) rfl (hb hby d7_9) (by decide) (by decide) ?_
      exact kk)
    obtain ⟨fs, hr, hrun, hended, hW, hsame⟩ := X0.leave (v := some (.int 1)) (fun h => by rw [Bd.returns] at h; cases h) hlk
    have hv : (w7_ret p3) = (1 : Int32) := (if_pos hc1_792)
    refine ⟨_, _, k794 _ ?_, hrun, hended, _, _, rfl, ?_, ⟨_, rfl⟩, hW, hsame.mono (by decide) (by decide)⟩
    · show Steps p.tables e below (s₁.setTop (mkF m 13 #[.val .null, rv ra1, iv p2, iv p3, .unset, .unset] [(.int 1)])) _
      exact retN X0 hx (t := .boolean) Bd.returns (by simp) (hb hby d7_13) hr
    · show Q7n Z ra1 p2 p3 h0 n0 _ s₁.heap _
      rw [e0]
      exact ⟨(congrArg (fun z => some (Value.int z)) hv).symm, N0, rfl⟩
  · have k795 := fun (t : State) (kk : Steps p.tables e below (s₁.setTop (mkF m 15 #[.val .null, rv ra1, iv p2, iv p3, .unset, .unset] [.null])) t) => k791 t (by
      refine XS.ifYes X0.here hx rfl (pc0 := 1) (pc' := 14) rfl (hb hby d7_1) rfl ((if0 _ _).trans (feq hc1_792).2) (by decide) (by decide) ?_
      refine XS.aloadN X0.here hx rfl (hb hby d7_14) rfl rfl ?_
      exact kk)
    have k796 := fun (t : State) (kk : Steps p.tables e below (s₁.setTop (mkF m 19 #[.val .null, rv ra1, iv p2, iv p3, .unset, .unset] [(.int 0)])) t) => k795 t (by
      show Steps p.tables e below (s₁.setTop (mkF m 15 #[.val .null, rv ra1, iv p2, iv p3, .unset, .unset] [.null])) _
      refine XS.ifnonnullNo X0.here hx rfl (hb hby d7_15) rfl ?_
      refine XS.iconst X0.here hx rfl (hb hby d7_18) ?_
      exact kk)
    obtain ⟨fs, hr, hrun, hended, hW, hsame⟩ := X0.leave (v := some (.int 0)) (fun h => by rw [Bd.returns] at h; cases h) hlk
    have hv : (w7_ret p3) = (0 : Int32) := (if_neg hc1_792)
    refine ⟨_, _, k796 _ ?_, hrun, hended, _, _, rfl, ?_, ⟨_, rfl⟩, hW, hsame.mono (by decide) (by decide)⟩
    · show Steps p.tables e below (s₁.setTop (mkF m 19 #[.val .null, rv ra1, iv p2, iv p3, .unset, .unset] [(.int 0)])) _
      exact retN X0 hx (t := .boolean) Bd.returns (by simp) (hb hby d7_19) hr
    · show Q7n Z ra1 p2 p3 h0 n0 _ s₁.heap _
      rw [e0]
      exact ⟨(congrArg (fun z => some (Value.int z)) hv).symm, N0, rfl⟩
theorem d7_12 : decode method_9_code 12 = .ok (.iconst 0, 1) := by decide +kernel
theorem d7_20 : decode method_9_code 20 = .ok (.aload_n 1, 1) := by decide +kernel
theorem d7_21 : decode method_9_code 21 = .ok (.iload_n 2, 1) := by decide +kernel
theorem d7_22 : decode method_9_code 22 = .ok (.invokestatic 13, 3) := by decide +kernel
theorem d7_25 : decode method_9_code 25 = .ok (.iconst 2, 1) := by decide +kernel
theorem d7_26 : decode method_9_code 26 = .ok (.iadd, 1) := by decide +kernel
theorem d7_27 : decode method_9_code 27 = .ok (.istore 4, 2) := by decide +kernel
theorem d7_29 : decode method_9_code 29 = .ok (.iload_n 2, 1) := by decide +kernel
theorem d7_30 : decode method_9_code 30 = .ok (.iload 4, 2) := by decide +kernel
theorem d7_32 : decode method_9_code 32 = .ok (.isub, 1) := by decide +kernel
theorem d7_33 : decode method_9_code 33 = .ok (.istore 5, 2) := by decide +kernel
theorem d7_35 : decode method_9_code 35 = .ok (.aload_n 0, 1) := by decide +kernel
theorem d7_36 : decode method_9_code 36 = .ok (.arraylength, 1) := by decide +kernel
theorem d7_37 : decode method_9_code 37 = .ok (.iload 5, 2) := by decide +kernel
theorem d7_39 : decode method_9_code 39 = .ok (.if_icmp .ne 41, 3) := by decide +kernel
theorem d7_42 : decode method_9_code 42 = .ok (.iload 5, 2) := by decide +kernel
theorem d7_44 : decode method_9_code 44 = .ok (.iconst 1, 1) := by decide +kernel
theorem d7_45 : decode method_9_code 45 = .ok (.if_icmp .lt 13, 3) := by decide +kernel
theorem d7_48 : decode method_9_code 48 = .ok (.aload_n 0, 1) := by decide +kernel
theorem d7_49 : decode method_9_code 49 = .ok (.iconst 0, 1) := by decide +kernel
theorem d7_50 : decode method_9_code 50 = .ok (.baload, 1) := by decide +kernel
theorem d7_51 : decode method_9_code 51 = .ok (.aload_n 1, 1) := by decide +kernel
theorem d7_52 : decode method_9_code 52 = .ok (.iload 4, 2) := by decide +kernel
theorem d7_54 : decode method_9_code 54 = .ok (.baload, 1) := by decide +kernel
theorem d7_55 : decode method_9_code 55 = .ok (.if_icmp .ne 25, 3) := by decide +kernel
theorem d7_58 : decode method_9_code 58 = .ok (.iload 5, 2) := by decide +kernel
theorem d7_60 : decode method_9_code 60 = .ok (.iconst 2, 1) := by decide +kernel
theorem d7_61 : decode method_9_code 61 = .ok (.if_icmp .lt 15, 3) := by decide +kernel
theorem d7_64 : decode method_9_code 64 = .ok (.aload_n 0, 1) := by decide +kernel
theorem d7_65 : decode method_9_code 65 = .ok (.iconst 1, 1) := by decide +kernel
theorem d7_66 : decode method_9_code 66 = .ok (.baload, 1) := by decide +kernel
theorem d7_67 : decode method_9_code 67 = .ok (.aload_n 1, 1) := by decide +kernel
theorem d7_68 : decode method_9_code 68 = .ok (.iload 4, 2) := by decide +kernel
theorem d7_70 : decode method_9_code 70 = .ok (.iconst 1, 1) := by decide +kernel
theorem d7_71 : decode method_9_code 71 = .ok (.iadd, 1) := by decide +kernel
theorem d7_72 : decode method_9_code 72 = .ok (.baload, 1) := by decide +kernel
theorem d7_73 : decode method_9_code 73 = .ok (.if_icmp .ne 7, 3) := by decide +kernel
theorem d7_76 : decode method_9_code 76 = .ok (.iconst 1, 1) := by decide +kernel
theorem d7_77 : decode method_9_code 77 = .ok (.goto 4, 3) := by decide +kernel
theorem d7_80 : decode method_9_code 80 = .ok (.iconst 0, 1) := by decide +kernel
theorem d7_81 : decode method_9_code 81 = .ok (.ireturn, 1) := by decide +kernel
def v7_27_l4 (p2 : Int32) (L_ra1 : List Int32) : Int32 := ((v11_ret p2 L_ra1) + (2 : Int32))
def v7_66_at (L_ra0 : List Int32) : Int32 := (L_ra0.getD ((1 : Int32)).toNatClampNeg (0 : Int32))
def v7_72_at (p2 : Int32) (L_ra1 : List Int32) : Int32 := (L_ra1.getD (((v7_27_l4 p2 L_ra1) + (1 : Int32))).toNatClampNeg (0 : Int32))
def v7_73_s0 (p2 : Int32) (L_ra1 : List Int32) (L_ra0 : List Int32) : Int32 := if (v7_66_at L_ra0) = (v7_72_at p2 L_ra1) then (1 : Int32) else (0 : Int32)
def v7_50_at (L_ra0 : List Int32) : Int32 := (L_ra0.getD ((0 : Int32)).toNatClampNeg (0 : Int32))
def v7_54_at (p2 : Int32) (L_ra1 : List Int32) : Int32 := (L_ra1.getD ((v7_27_l4 p2 L_ra1)).toNatClampNeg (0 : Int32))
def v7_ret (p2 : Int32) (p3 : Int32) (L_ra1 : List Int32) (n_ra0 : Int32) (L_ra0 : List Int32) : Int32 := (if p3 = (0 : Int32) then (0 : Int32) else (if n_ra0 = (p2 - (v7_27_l4 p2 L_ra1)) then (if (p2 - (v7_27_l4 p2 L_ra1)) < (1 : Int32) then (if (p2 - (v7_27_l4 p2 L_ra1)) < (2 : Int32) then (1 : Int32) else (nar .boolean (v7_73_s0 p2 L_ra1 L_ra0))) else (if (v7_50_at L_ra0) = (v7_54_at p2 L_ra1) then (if (p2 - (v7_27_l4 p2 L_ra1)) < (2 : Int32) then (1 : Int32) else (nar .boolean (v7_73_s0 p2 L_ra1 L_ra0))) else (0 : Int32))) else (0 : Int32)))
theorem own_r0 {n p2 s : Int32} (c : n = p2 - s) (d : ¬ (p2 - s) < (1 : Int32)) : ¬ (0 : Int32) < 0 ∧ (0 : Int32) < n := by
  subst c; refine ⟨by decide, ?_⟩
  rw [Int32.lt_iff_toInt_lt] at *
  have z0 : (0 : Int32).toInt = 0 := rfl
  have z1 : (1 : Int32).toInt = 1 := rfl
  omega
theorem own_r1 {n p2 s : Int32} (c : n = p2 - s) (d : ¬ (p2 - s) < (2 : Int32)) : ¬ (1 : Int32) < 0 ∧ (1 : Int32) < n := by
  subst c; refine ⟨by decide, ?_⟩
  rw [Int32.lt_iff_toInt_lt] at *
  have z1 : (1 : Int32).toInt = 1 := rfl
  have z2 : (2 : Int32).toInt = 2 := rfl
  omega
theorem own_h0 (p2 : Int32) (L : List Int32) (hi : ¬ p2 < 0 ∧ p2 < (5 : Int32)) (c : ¬ (p2 - v7_27_l4 p2 L) < (1 : Int32)) : ¬ v7_27_l4 p2 L < 0 ∧ v7_27_l4 p2 L < (5 : Int32) := by
  have h := own_st p2 L hi
  unfold v7_27_l4 at *
  rw [Int32.lt_iff_toInt_lt] at c
  rw [Int32.lt_iff_toInt_lt, Int32.lt_iff_toInt_lt]
  have z0 : (0 : Int32).toInt = 0 := rfl
  have z1 : (1 : Int32).toInt = 1 := rfl
  have z2 : (2 : Int32).toInt = 2 := rfl
  have z5 : (5 : Int32).toInt = 5 := rfl
  have b := c_iadd (v11_ret p2 L) 2; have q := rng32 (v11_ret p2 L + 2); have a := c_isub p2 (v11_ret p2 L + 2); have r := rng32 (p2 - (v11_ret p2 L + 2))
  omega
theorem own_h1 (p2 : Int32) (L : List Int32) (hi : ¬ p2 < 0 ∧ p2 < (5 : Int32)) (c : ¬ (p2 - v7_27_l4 p2 L) < (2 : Int32)) : ¬ (v7_27_l4 p2 L + (1 : Int32)) < 0 ∧ (v7_27_l4 p2 L + (1 : Int32)) < (5 : Int32) := by
  have h := own_st p2 L hi
  unfold v7_27_l4 at *
  rw [Int32.lt_iff_toInt_lt] at c
  rw [Int32.lt_iff_toInt_lt, Int32.lt_iff_toInt_lt]
  have z0 : (0 : Int32).toInt = 0 := rfl
  have z1 : (1 : Int32).toInt = 1 := rfl
  have z2 : (2 : Int32).toInt = 2 := rfl
  have z5 : (5 : Int32).toInt = 5 := rfl
  have b := c_iadd (v11_ret p2 L) 2; have q := rng32 (v11_ret p2 L + 2); have a := c_isub p2 (v11_ret p2 L + 2); have r := rng32 (p2 - (v11_ret p2 L + 2))
  have b2 := c_iadd (v11_ret p2 L + 2) 1; have q2 := rng32 (v11_ret p2 L + 2 + 1)
  omega
theorem ef_rm7 (m : MethodId) (ra0 : Addr) (ra1 : Addr) (p2 : Int32) (p3 : Int32) : entryFrame m #[(.ref ra0), (.ref ra1), (.int p2), (.int p3)] 6 = mkF m 0 #[rv ra0, rv ra1, iv p2, iv p3, .unset, .unset] [] := by first | (simp [entryFrame, mkF, argsToLocals, Value.category]; done) | rfl
def Q7 (Z : State) (ra0 : Addr) (ra1 : Addr) (p2 : Int32) (p3 : Int32) (k_ra1 : ClassId) (L_ra1 : List Int32) (k_ra0 : ClassId) (n_ra0 : Int32) (L_ra0 : List Int32) (h0 : Heap) (n0 : Nat) (v : Option Value) (h : Heap) (L : List Loc) : Prop := (v = some (.int (v7_ret p2 p3 L_ra1 n_ra0 L_ra0)) ∧ Fr n0 L ∧ h = h0)
set_option maxRecDepth 65536 in
set_option maxHeartbeats 40000000 in
theorem rm7 (l : Launch) (Z : State) (a0 : Array Value) (hw : ∀ d ∈ tables_1, d.before a0 Z = true) (ws : List Jvm.Cond) (ra0 : Addr) (ra1 : Addr) (p2 : Int32) (p3 : Int32) (k_ra1 : ClassId) (L_ra1 : List Int32) (k_ra0 : ClassId) (n_ra0 : Int32) (L_ra0 : List Int32) (h0 : Heap) (n0 : Nat) (Z0 : n0 ≤ h0.size) (hi : ¬ p2 < 0 ∧ p2 < (5 : Int32)) (V_ra1 : Arv Z h0 ra1 k_ra1 .byte (5 : Int32) (List.map Value.int L_ra1) (.int 0)) (VL_ra1 : L_ra1.length = ((5 : Int32)).toNatClampNeg) (V_ra0 : Arv Z h0 ra0 k_ra0 .byte n_ra0 (List.map Value.int L_ra0) (.int 0)) (VL_ra0 : L_ra0.length = n_ra0.toNatClampNeg) :
    MetFree l (⟨cLw, "hits", "([B[BIZ)Z"⟩ : MethodName) (head1 (Jvm.Cond.code (⟨cLw, "hits", "([B[BIZ)Z"⟩ : MethodName) method_9_code 6 (some .boolean) :: ws) ({ frames := 2, cells := 0, slots := 0, locals := 26 } : Room)) (fun a U => a = #[(.ref ra0), (.ref ra1), (.int p2), (.int p3)] ∧ Z.Warmed39 U.vm ∧ U.heap = h0) (fun _ _ _ _ _ => True) (fun _ U o U' => ∃ v L, o = .returned v ∧ Q7 Z ra0 ra1 p2 p3 k_ra1 L_ra1 k_ra0 n_ra0 L_ra0 h0 n0 v U'.heap L ∧ FrameEnd U o U' L ({ frames := 2, cells := 0, slots := 0, locals := 26 } : Room).cells ({ frames := 2, cells := 0, slots := 0, locals := 26 } : Room).slots) := by
  refine MetFree.of_bodySF (plainFor_of_name pn_48) hisR ?_
  intro p e s m args below meth c s₁ Bd hml0 hP hK
  obtain ⟨rfl, hZ, hh⟩ := hP
  have hx := Bd.exec
  have hlk : meth.locks = false := by first | exact BodyLoose.notSynchronized Bd | exact Body.notSynchronized Bd
  have hby := Bd.bytes
  have hml : c.maxLocals = 6 := hml0
  have hown : s.vm.findClass cLw = some m.cls := findClass_of_methodNamed Bd.named
  have hnm := (name_of_methodNamed Bd.named Bd.method).1
  have X0 : Stand p l e ({ frames := 2, cells := 0, slots := 0, locals := 26 } : Room) s m #[(.ref ra0), (.ref ra1), (.int p2), (.int p3)] below meth c s₁ [] 0 0 := Stand.of_body Bd
  have e0 : s₁.heap = h0 := by rw [← hh, Bd.state]; rfl
  have N0 := Fr.nil n0
  have KC0 := Keep.refl h0 ([] : List Addr)
  have pre0 : ∀ t, Steps p.tables e below (s₁.setTop (mkF m 0 #[rv ra0, rv ra1, iv p2, iv p3, .unset, .unset] [])) t → Steps p.tables e below (s₁.setTop (entryFrame m #[(.ref ra0), (.ref ra1), (.int p2), (.int p3)] 6)) t := fun t k => castTop (ef_rm7 m ra0 ra1 p2 p3) k
  have k797 := fun (t : State) (kk : Steps p.tables e below (s₁.setTop (mkF m 1 #[rv ra0, rv ra1, iv p2, iv p3, .unset, .unset] [(.int p3)])) t) => pre0 t (by
    refine XS.iloadN X0.here hx rfl (hb hby d7_0) rfl ?_
    exact kk)
  by_cases hc1_798 : p3 = (0 : Int32)
  · have k799 := fun (t : State) (kk : Steps p.tables e below (s₁.setTop (mkF m 5 #[rv ra0, rv ra1, iv p2, iv p3, .unset, .unset] [(.ref ra0)])) t) => k797 t (by
      refine XS.ifNo X0.here hx rfl (hb hby d7_1) rfl ((if0 _ _).trans (teq hc1_798).2) ?_
      refine XS.aloadN X0.here hx rfl (hb hby d7_4) rfl rfl ?_
      exact kk)
    have k800 := fun (t : State) (kk : Steps p.tables e below (s₁.setTop (mkF m 13 #[rv ra0, rv ra1, iv p2, iv p3, .unset, .unset] [(.int 0)])) t) => k799 t (by
      show Steps p.tables e below (s₁.setTop (mkF m 5 #[rv ra0, rv ra1, iv p2, iv p3, .unset, .unset] [(.ref ra0)])) _
      refine XS.ifnonnullYes X0.here hx rfl (pc0 := 5) (pc' := 12) rfl (hb hby d7_5) rfl (by decide) (by decide) ?_
      refine XS.iconst X0.here hx rfl (hb hby d7_12) ?_
      exact kk)
    obtain ⟨fs, hr, hrun, hended, hW, hsame⟩ := X0.leave (v := some (.int 0)) (fun h => by rw [Bd.returns] at h; cases h) hlk
    have hv : (v7_ret p2 p3 L_ra1 n_ra0 L_ra0) = (0 : Int32) := (if_pos hc1_798)
    refine ⟨_, _, k800 _ ?_, hrun, hended, _, _, rfl, ?_, ⟨_, rfl⟩, hW, hsame.mono (by decide) (by decide)⟩
    · show Steps p.tables e below (s₁.setTop (mkF m 13 #[rv ra0, rv ra1, iv p2, iv p3, .unset, .unset] [(.int 0)])) _
      exact retN X0 hx (t := .boolean) Bd.returns (by simp) (hb hby d7_13) hr
    · show Q7 Z ra0 ra1 p2 p3 k_ra1 L_ra1 k_ra0 n_ra0 L_ra0 h0 n0 _ s₁.heap _
      rw [e0]
      exact ⟨(congrArg (fun z => some (Value.int z)) hv).symm, N0, rfl⟩
  · have k801 := fun (t : State) (kk : Steps p.tables e below (s₁.setTop (mkF m 15 #[rv ra0, rv ra1, iv p2, iv p3, .unset, .unset] [(.ref ra0)])) t) => k797 t (by
      refine XS.ifYes X0.here hx rfl (pc0 := 1) (pc' := 14) rfl (hb hby d7_1) rfl ((if0 _ _).trans (feq hc1_798).2) (by decide) (by decide) ?_
      refine XS.aloadN X0.here hx rfl (hb hby d7_14) rfl rfl ?_
      exact kk)
    have k802 := fun (t : State) (kk : Steps p.tables e below (s₁.setTop (mkF m 22 #[rv ra0, rv ra1, iv p2, iv p3, .unset, .unset] [(.int p2), (.ref ra1)])) t) => k801 t (by
      show Steps p.tables e below (s₁.setTop (mkF m 15 #[rv ra0, rv ra1, iv p2, iv p3, .unset, .unset] [(.ref ra0)])) _
      refine XS.ifnonnullYes X0.here hx rfl (pc0 := 15) (pc' := 20) rfl (hb hby d7_15) rfl (by decide) (by decide) ?_
      show Steps p.tables e below (s₁.setTop (mkF m 20 #[rv ra0, rv ra1, iv p2, iv p3, .unset, .unset] [])) _
      refine XS.aloadN X0.here hx rfl (hb hby d7_20) rfl rfl ?_
      refine XS.iloadN X0.here hx rfl (hb hby d7_21) rfl ?_
      exact kk)
    have Zz803 : n0 ≤ h0.size := (Nat.le_trans Z0 KC0.1)
    obtain ⟨_, _, ⟨T803, L803, k803, n803⟩, -, X803, ⟨Lc803, hQ803, l803, y803, z803⟩, st803⟩ := Jvm.LawKit.callS X0 hx (y := (⟨cLw, "start", "([BI)I"⟩ : MethodName)) hown (mvT hZ (hw _ (List.mem_of_getElem? (i := 49) rfl))) (mvT hZ (hw _ (List.mem_of_getElem? (i := 50) rfl))) (mvT hZ (hw _ (List.mem_of_getElem? (i := 3) rfl))) (mvT hZ (hw _ (List.mem_of_getElem? (i := 51) rfl))) (by decide) (backOf (W := 0) (rm11 l Z a0 hw [] ra1 p2 k_ra1 L_ra1 h0 n0 Zz803 (hi : ¬ p2 < 0 ∧ p2 < (5 : Int32)) V_ra1 VL_ra1) hZ (hw _ (List.mem_of_getElem? (i := 51) rfl)) (hw _ (List.mem_of_getElem? (i := 3) rfl)) (by decide) (by decide)) (g := (mkF m 22 #[rv ra0, rv ra1, iv p2, iv p3, .unset, .unset] [(.int p2), (.ref ra1)])) rfl (by rw [hml]; rfl) (argsL := [(.ref ra1), (.int p2)]) (rest := []) (lenOf pd_1 rfl) rfl (by show 2 * 0 + _ ≤ _; exact Nat.le_of_eq rfl) (hb hby d7_22) (fun _ _ => ⟨rfl, e0, (by decide : 0 + 0 ≤ _), (by decide : 0 + 0 ≤ _)⟩)
    dsimp only [Pt.U, Pt.locs, Pt.cells, Pt.slots] at X803 l803 y803 z803 st803 hQ803
    subst l803 y803 z803
    obtain ⟨rfl, N803q, e803⟩ := hQ803
    have N803 := Fr.app N0 N803q
    have k804 := fun (t : State) (kk : Steps p.tables e below (T803.setTop (mkF m 25 #[rv ra0, rv ra1, iv p2, iv p3, .unset, .unset] [(.int (v11_ret p2 L_ra1))])) t) => k802 t (st803 _ kk)
    have k805 := fun (t : State) (kk : Steps p.tables e below (T803.setTop (mkF m 36 #[rv ra0, rv ra1, iv p2, iv p3, iv (v7_27_l4 p2 L_ra1), iv (p2 - (v7_27_l4 p2 L_ra1))] [(.ref ra0)])) t) => k804 t (by
      refine XS.iconst X803.here hx rfl (hb hby d7_25) ?_
      refine XS.iadd X803.here hx rfl (hb hby d7_26) rfl ?_
      refine XS.istore X803.here hx rfl (hb hby d7_27) rfl (l' := #[rv ra0, rv ra1, iv p2, iv p3, iv (v7_27_l4 p2 L_ra1), .unset]) rfl ?_
      refine XS.iloadN X803.here hx rfl (hb hby d7_29) rfl ?_
      refine XS.iload X803.here hx rfl (hb hby d7_30) rfl ?_
      refine XS.isub X803.here hx rfl (hb hby d7_32) rfl ?_
      refine XS.istore X803.here hx rfl (hb hby d7_33) rfl (l' := #[rv ra0, rv ra1, iv p2, iv p3, iv (v7_27_l4 p2 L_ra1), iv (p2 - (v7_27_l4 p2 L_ra1))]) rfl ?_
      refine XS.aloadN X803.here hx rfl (hb hby d7_35) rfl rfl ?_
      exact kk)
    have hV806 := V_ra0
    obtain ⟨cl806, Ar806, q806, S806, Nn806, H806, G806⟩ := hV806
    have st807 := X803.arraylength hx (by rw [e803]; exact Ar806.1) (State.isArrayOf_alike hZ.alike Ar806.2.1) (g := (mkF m 36 #[rv ra0, rv ra1, iv p2, iv p3, iv (v7_27_l4 p2 L_ra1), iv (p2 - (v7_27_l4 p2 L_ra1))] [(.ref ra0)])) rfl rfl (hb hby d7_36)
    rw [len_of S806 Nn806] at st807
    have k808 := fun (t : State) (kk : Steps p.tables e below (T803.setTop (mkF m 37 #[rv ra0, rv ra1, iv p2, iv p3, iv (v7_27_l4 p2 L_ra1), iv (p2 - (v7_27_l4 p2 L_ra1))] [(.int n_ra0)])) t) => k805 t (st807 _ kk)
    have k809 := fun (t : State) (kk : Steps p.tables e below (T803.setTop (mkF m 39 #[rv ra0, rv ra1, iv p2, iv p3, iv (v7_27_l4 p2 L_ra1), iv (p2 - (v7_27_l4 p2 L_ra1))] [(.int (p2 - (v7_27_l4 p2 L_ra1))), (.int n_ra0)])) t) => k808 t (by
      refine XS.iload X803.here hx rfl (hb hby d7_37) rfl ?_
      exact kk)
    by_cases hc39_810 : n_ra0 = (p2 - (v7_27_l4 p2 L_ra1))
    · have k811 := fun (t : State) (kk : Steps p.tables e below (T803.setTop (mkF m 45 #[rv ra0, rv ra1, iv p2, iv p3, iv (v7_27_l4 p2 L_ra1), iv (p2 - (v7_27_l4 p2 L_ra1))] [(.int 1), (.int (p2 - (v7_27_l4 p2 L_ra1)))])) t) => k809 t (by
        refine XS.icmpNo X803.here hx rfl (hb hby d7_39) rfl (teq hc39_810).2 ?_
        show Steps p.tables e below (T803.setTop (mkF m 42 #[rv ra0, rv ra1, iv p2, iv p3, iv (v7_27_l4 p2 L_ra1), iv (p2 - (v7_27_l4 p2 L_ra1))] [])) _
        refine XS.iload X803.here hx rfl (hb hby d7_42) rfl ?_
        refine XS.iconst X803.here hx rfl (hb hby d7_44) ?_
        exact kk)
      by_cases hc45_812 : (p2 - (v7_27_l4 p2 L_ra1)) < (1 : Int32)
      · have k813 := fun (t : State) (kk : Steps p.tables e below (T803.setTop (mkF m 61 #[rv ra0, rv ra1, iv p2, iv p3, iv (v7_27_l4 p2 L_ra1), iv (p2 - (v7_27_l4 p2 L_ra1))] [(.int 2), (.int (p2 - (v7_27_l4 p2 L_ra1)))])) t) => k811 t (by
          refine XS.icmpYes X803.here hx rfl (pc0 := 45) (pc' := 58) rfl (hb hby d7_45) rfl (tlt hc45_812).1 (by decide) (by decide) ?_
          refine XS.iload X803.here hx rfl (hb hby d7_58) rfl ?_
          refine XS.iconst X803.here hx rfl (hb hby d7_60) ?_
          exact kk)
        by_cases hc61_814 : (p2 - (v7_27_l4 p2 L_ra1)) < (2 : Int32)
        · have k815 := fun (t : State) (kk : Steps p.tables e below (T803.setTop (mkF m 81 #[rv ra0, rv ra1, iv p2, iv p3, iv (v7_27_l4 p2 L_ra1), iv (p2 - (v7_27_l4 p2 L_ra1))] [(.int 1)])) t) => k813 t (by
            refine XS.icmpYes X803.here hx rfl (pc0 := 61) (pc' := 76) rfl (hb hby d7_61) rfl (tlt hc61_814).1 (by decide) (by decide) ?_
            refine XS.iconst X803.here hx rfl (hb hby d7_76) ?_
            refine XS.goto X803.here hx rfl (pc0 := 77) (pc' := 81) rfl (hb hby d7_77) (by decide) (by decide) ?_
            exact kk)
          obtain ⟨fs, hr, hrun, hended, hW, hsame⟩ := X803.leave (v := some (.int 1)) (fun h => by rw [Bd.returns] at h; cases h) hlk
          have hv : (v7_ret p2 p3 L_ra1 n_ra0 L_ra0) = (1 : Int32) := ((if_neg hc1_798).trans ((if_pos hc39_810).trans ((if_pos hc45_812).trans (if_pos hc61_814))))
          refine ⟨_, _, k815 _ ?_, hrun, hended, _, _, rfl, ?_, ⟨_, rfl⟩, hW, hsame.mono (by decide) (by decide)⟩
          · show Steps p.tables e below (T803.setTop (mkF m 81 #[rv ra0, rv ra1, iv p2, iv p3, iv (v7_27_l4 p2 L_ra1), iv (p2 - (v7_27_l4 p2 L_ra1))] [(.int 1)])) _
            exact retN X803 hx (t := .boolean) Bd.returns (by simp) (hb hby d7_81) hr
          · show Q7 Z ra0 ra1 p2 p3 k_ra1 L_ra1 k_ra0 n_ra0 L_ra0 h0 n0 _ T803.heap _
            rw [e803]
            exact ⟨(congrArg (fun z => some (Value.int z)) hv).symm, N803, rfl⟩
        · have k816 := fun (t : State) (kk : Steps p.tables e below (T803.setTop (mkF m 66 #[rv ra0, rv ra1, iv p2, iv p3, iv (v7_27_l4 p2 L_ra1), iv (p2 - (v7_27_l4 p2 L_ra1))] [(.int 1), (.ref ra0)])) t) => k813 t (by
            refine XS.icmpNo X803.here hx rfl (hb hby d7_61) rfl (flt hc61_814).1 ?_
            refine XS.aloadN X803.here hx rfl (hb hby d7_64) rfl rfl ?_
            refine XS.iconst X803.here hx rfl (hb hby d7_65) ?_
            exact kk)
          have hV817 := V_ra0
          obtain ⟨cl817, Ar817, q817, S817, Nn817, H817, G817⟩ := hV817
          have hb818 : ¬ (1 : Int32) < 0 ∧ (1 : Int32) < n_ra0 := own_r1 hc39_810 hc61_814
          have hin818 : ¬ ((1 : Int32) < 0 ∨ cl817.slots.size ≤ ((1 : Int32)).toNatClampNeg) := inb_of S817 hb818
          have hat818 : cl817.slots[((1 : Int32)).toNatClampNeg]? = some (.int (v7_66_at L_ra0)) := Has.at H817 hin818 (own_getD_int _ _ _)
          have st818 := X803.baloadBytes hx (j := (1 : Int32)) (v := (.int (v7_66_at L_ra0))) (by rw [e803]; exact Ar817.1) (State.isArrayOf_alike hZ.alike Ar817.2.1) Ar817.2.2 hin818 hat818 (g := (mkF m 66 #[rv ra0, rv ra1, iv p2, iv p3, iv (v7_27_l4 p2 L_ra1), iv (p2 - (v7_27_l4 p2 L_ra1))] [(.int 1), (.ref ra0)])) rfl rfl (hb hby d7_66)
          have k819 := fun (t : State) (kk : Steps p.tables e below (T803.setTop (mkF m 67 #[rv ra0, rv ra1, iv p2, iv p3, iv (v7_27_l4 p2 L_ra1), iv (p2 - (v7_27_l4 p2 L_ra1))] [(.int (v7_66_at L_ra0))])) t) => k816 t (st818 _ kk)
          have k820 := fun (t : State) (kk : Steps p.tables e below (T803.setTop (mkF m 72 #[rv ra0, rv ra1, iv p2, iv p3, iv (v7_27_l4 p2 L_ra1), iv (p2 - (v7_27_l4 p2 L_ra1))] [(.int ((v7_27_l4 p2 L_ra1) + (1 : Int32))), (.ref ra1), (.int (v7_66_at L_ra0))])) t) => k819 t (by
            refine XS.aloadN X803.here hx rfl (hb hby d7_67) rfl rfl ?_
            show Steps p.tables e below (T803.setTop (mkF m 68 #[rv ra0, rv ra1, iv p2, iv p3, iv (v7_27_l4 p2 L_ra1), iv (p2 - (v7_27_l4 p2 L_ra1))] [(.ref ra1), (.int (v7_66_at L_ra0))])) _
            refine XS.iload X803.here hx rfl (hb hby d7_68) rfl ?_
            refine XS.iconst X803.here hx rfl (hb hby d7_70) ?_
            refine XS.iadd X803.here hx rfl (hb hby d7_71) rfl ?_
            exact kk)
          have hV821 := V_ra1
          obtain ⟨cl821, Ar821, q821, S821, Nn821, H821, G821⟩ := hV821
          have hb822 : ¬ ((v7_27_l4 p2 L_ra1) + (1 : Int32)) < 0 ∧ ((v7_27_l4 p2 L_ra1) + (1 : Int32)) < (5 : Int32) := own_h1 p2 L_ra1 hi hc61_814
          have hin822 : ¬ (((v7_27_l4 p2 L_ra1) + (1 : Int32)) < 0 ∨ cl821.slots.size ≤ (((v7_27_l4 p2 L_ra1) + (1 : Int32))).toNatClampNeg) := inb_of S821 hb822
          have hat822 : cl821.slots[(((v7_27_l4 p2 L_ra1) + (1 : Int32))).toNatClampNeg]? = some (.int (v7_72_at p2 L_ra1)) := Has.at H821 hin822 (own_getD_int _ _ _)
          have st822 := X803.baloadBytes hx (j := ((v7_27_l4 p2 L_ra1) + (1 : Int32))) (v := (.int (v7_72_at p2 L_ra1))) (by rw [e803]; exact Ar821.1) (State.isArrayOf_alike hZ.alike Ar821.2.1) Ar821.2.2 hin822 hat822 (g := (mkF m 72 #[rv ra0, rv ra1, iv p2, iv p3, iv (v7_27_l4 p2 L_ra1), iv (p2 - (v7_27_l4 p2 L_ra1))] [(.int ((v7_27_l4 p2 L_ra1) + (1 : Int32))), (.ref ra1), (.int (v7_66_at L_ra0))])) rfl rfl (hb hby d7_72)
          have k823 := fun (t : State) (kk : Steps p.tables e below (T803.setTop (mkF m 73 #[rv ra0, rv ra1, iv p2, iv p3, iv (v7_27_l4 p2 L_ra1), iv (p2 - (v7_27_l4 p2 L_ra1))] [(.int (v7_72_at p2 L_ra1)), (.int (v7_66_at L_ra0))])) t) => k820 t (st822 _ kk)
          have k826 := fun (t : State) (kk : Steps p.tables e below (T803.setTop (mkF m 81 #[rv ra0, rv ra1, iv p2, iv p3, iv (v7_27_l4 p2 L_ra1), iv (p2 - (v7_27_l4 p2 L_ra1))] [(.int (v7_73_s0 p2 L_ra1 L_ra0))])) t) => k823 t (by
            suffices k825 : Steps p.tables e below (T803.setTop (mkF m 81 #[rv ra0, rv ra1, iv p2, iv p3, iv (v7_27_l4 p2 L_ra1), iv (p2 - (v7_27_l4 p2 L_ra1))] [(.int (v7_73_s0 p2 L_ra1 L_ra0))])) t by
              by_cases hc73_824 : (v7_66_at L_ra0) = (v7_72_at p2 L_ra1)
              · rw [(show (v7_73_s0 p2 L_ra1 L_ra0) = (1 : Int32) from if_pos hc73_824)] at k825
                refine XS.icmpNo X803.here hx rfl (hb hby d7_73) rfl (teq hc73_824).2 ?_
                refine XS.iconst X803.here hx rfl (hb hby d7_76) ?_
                refine XS.goto X803.here hx rfl (pc0 := 77) (pc' := 81) rfl (hb hby d7_77) (by decide) (by decide) ?_
                exact k825
              · rw [(show (v7_73_s0 p2 L_ra1 L_ra0) = (0 : Int32) from if_neg hc73_824)] at k825
                refine XS.icmpYes X803.here hx rfl (pc0 := 73) (pc' := 80) rfl (hb hby d7_73) rfl (feq hc73_824).2 (by decide) (by decide) ?_
                refine XS.iconst X803.here hx rfl (hb hby d7_80) ?_
                exact k825
            exact kk)
          obtain ⟨fs, hr, hrun, hended, hW, hsame⟩ := X803.leave (v := some (.int (nar .boolean (v7_73_s0 p2 L_ra1 L_ra0)))) (fun h => by rw [Bd.returns] at h; cases h) hlk
          have hv : (v7_ret p2 p3 L_ra1 n_ra0 L_ra0) = (nar .boolean (v7_73_s0 p2 L_ra1 L_ra0)) := ((if_neg hc1_798).trans ((if_pos hc39_810).trans ((if_pos hc45_812).trans (if_neg hc61_814))))
          refine ⟨_, _, k826 _ ?_, hrun, hended, _, _, rfl, ?_, ⟨_, rfl⟩, hW, hsame.mono (by decide) (by decide)⟩
          · show Steps p.tables e below (T803.setTop (mkF m 81 #[rv ra0, rv ra1, iv p2, iv p3, iv (v7_27_l4 p2 L_ra1), iv (p2 - (v7_27_l4 p2 L_ra1))] [(.int (v7_73_s0 p2 L_ra1 L_ra0))])) _
            exact retN X803 hx (t := .boolean) Bd.returns (by simp) (hb hby d7_81) hr
          · show Q7 Z ra0 ra1 p2 p3 k_ra1 L_ra1 k_ra0 n_ra0 L_ra0 h0 n0 _ T803.heap _
            rw [e803]
            exact ⟨(congrArg (fun z => some (Value.int z)) hv).symm, N803, rfl⟩
      · have k827 := fun (t : State) (kk : Steps p.tables e below (T803.setTop (mkF m 50 #[rv ra0, rv ra1, iv p2, iv p3, iv (v7_27_l4 p2 L_ra1), iv (p2 - (v7_27_l4 p2 L_ra1))] [(.int 0), (.ref ra0)])) t) => k811 t (by
          refine XS.icmpNo X803.here hx rfl (hb hby d7_45) rfl (flt hc45_812).1 ?_
          refine XS.aloadN X803.here hx rfl (hb hby d7_48) rfl rfl ?_
          refine XS.iconst X803.here hx rfl (hb hby d7_49) ?_
          exact kk)
        have hV828 := V_ra0
        obtain ⟨cl828, Ar828, q828, S828, Nn828, H828, G828⟩ := hV828
        have hb829 : ¬ (0 : Int32) < 0 ∧ (0 : Int32) < n_ra0 := own_r0 hc39_810 hc45_812
        have hin829 : ¬ ((0 : Int32) < 0 ∨ cl828.slots.size ≤ ((0 : Int32)).toNatClampNeg) := inb_of S828 hb829
        have hat829 : cl828.slots[((0 : Int32)).toNatClampNeg]? = some (.int (v7_50_at L_ra0)) := Has.at H828 hin829 (own_getD_int _ _ _)
        have st829 := X803.baloadBytes hx (j := (0 : Int32)) (v := (.int (v7_50_at L_ra0))) (by rw [e803]; exact Ar828.1) (State.isArrayOf_alike hZ.alike Ar828.2.1) Ar828.2.2 hin829 hat829 (g := (mkF m 50 #[rv ra0, rv ra1, iv p2, iv p3, iv (v7_27_l4 p2 L_ra1), iv (p2 - (v7_27_l4 p2 L_ra1))] [(.int 0), (.ref ra0)])) rfl rfl (hb hby d7_50)
        have k830 := fun (t : State) (kk : Steps p.tables e below (T803.setTop (mkF m 51 #[rv ra0, rv ra1, iv p2, iv p3, iv (v7_27_l4 p2 L_ra1), iv (p2 - (v7_27_l4 p2 L_ra1))] [(.int (v7_50_at L_ra0))])) t) => k827 t (st829 _ kk)
        have k831 := fun (t : State) (kk : Steps p.tables e below (T803.setTop (mkF m 54 #[rv ra0, rv ra1, iv p2, iv p3, iv (v7_27_l4 p2 L_ra1), iv (p2 - (v7_27_l4 p2 L_ra1))] [(.int (v7_27_l4 p2 L_ra1)), (.ref ra1), (.int (v7_50_at L_ra0))])) t) => k830 t (by
          refine XS.aloadN X803.here hx rfl (hb hby d7_51) rfl rfl ?_
          show Steps p.tables e below (T803.setTop (mkF m 52 #[rv ra0, rv ra1, iv p2, iv p3, iv (v7_27_l4 p2 L_ra1), iv (p2 - (v7_27_l4 p2 L_ra1))] [(.ref ra1), (.int (v7_50_at L_ra0))])) _
          refine XS.iload X803.here hx rfl (hb hby d7_52) rfl ?_
          exact kk)
        have hV832 := V_ra1
        obtain ⟨cl832, Ar832, q832, S832, Nn832, H832, G832⟩ := hV832
        have hb833 : ¬ (v7_27_l4 p2 L_ra1) < 0 ∧ (v7_27_l4 p2 L_ra1) < (5 : Int32) := own_h0 p2 L_ra1 hi hc45_812
        have hin833 : ¬ ((v7_27_l4 p2 L_ra1) < 0 ∨ cl832.slots.size ≤ ((v7_27_l4 p2 L_ra1)).toNatClampNeg) := inb_of S832 hb833
        have hat833 : cl832.slots[((v7_27_l4 p2 L_ra1)).toNatClampNeg]? = some (.int (v7_54_at p2 L_ra1)) := Has.at H832 hin833 (own_getD_int _ _ _)
        have st833 := X803.baloadBytes hx (j := (v7_27_l4 p2 L_ra1)) (v := (.int (v7_54_at p2 L_ra1))) (by rw [e803]; exact Ar832.1) (State.isArrayOf_alike hZ.alike Ar832.2.1) Ar832.2.2 hin833 hat833 (g := (mkF m 54 #[rv ra0, rv ra1, iv p2, iv p3, iv (v7_27_l4 p2 L_ra1), iv (p2 - (v7_27_l4 p2 L_ra1))] [(.int (v7_27_l4 p2 L_ra1)), (.ref ra1), (.int (v7_50_at L_ra0))])) rfl rfl (hb hby d7_54)
        have k834 := fun (t : State) (kk : Steps p.tables e below (T803.setTop (mkF m 55 #[rv ra0, rv ra1, iv p2, iv p3, iv (v7_27_l4 p2 L_ra1), iv (p2 - (v7_27_l4 p2 L_ra1))] [(.int (v7_54_at p2 L_ra1)), (.int (v7_50_at L_ra0))])) t) => k831 t (st833 _ kk)
        by_cases hc55_835 : (v7_50_at L_ra0) = (v7_54_at p2 L_ra1)
        · have k836 := fun (t : State) (kk : Steps p.tables e below (T803.setTop (mkF m 61 #[rv ra0, rv ra1, iv p2, iv p3, iv (v7_27_l4 p2 L_ra1), iv (p2 - (v7_27_l4 p2 L_ra1))] [(.int 2), (.int (p2 - (v7_27_l4 p2 L_ra1)))])) t) => k834 t (by
            refine XS.icmpNo X803.here hx rfl (hb hby d7_55) rfl (teq hc55_835).2 ?_
            refine XS.iload X803.here hx rfl (hb hby d7_58) rfl ?_
            refine XS.iconst X803.here hx rfl (hb hby d7_60) ?_
            exact kk)
          by_cases hc61_837 : (p2 - (v7_27_l4 p2 L_ra1)) < (2 : Int32)
          · have k838 := fun (t : State) (kk : Steps p.tables e below (T803.setTop (mkF m 81 #[rv ra0, rv ra1, iv p2, iv p3, iv (v7_27_l4 p2 L_ra1), iv (p2 - (v7_27_l4 p2 L_ra1))] [(.int 1)])) t) => k836 t (by
              refine XS.icmpYes X803.here hx rfl (pc0 := 61) (pc' := 76) rfl (hb hby d7_61) rfl (tlt hc61_837).1 (by decide) (by decide) ?_
              refine XS.iconst X803.here hx rfl (hb hby d7_76) ?_
              refine XS.goto X803.here hx rfl (pc0 := 77) (pc' := 81) rfl (hb hby d7_77) (by decide) (by decide) ?_
              exact kk)
            obtain ⟨fs, hr, hrun, hended, hW, hsame⟩ := X803.leave (v := some (.int 1)) (fun h => by rw [Bd.returns] at h; cases h) hlk
            have hv : (v7_ret p2 p3 L_ra1 n_ra0 L_ra0) = (1 : Int32) := ((if_neg hc1_798).trans ((if_pos hc39_810).trans ((if_neg hc45_812).trans ((if_pos hc55_835).trans (if_pos hc61_837)))))
            refine ⟨_, _, k838 _ ?_, hrun, hended, _, _, rfl, ?_, ⟨_, rfl⟩, hW, hsame.mono (by decide) (by decide)⟩
            · show Steps p.tables e below (T803.setTop (mkF m 81 #[rv ra0, rv ra1, iv p2, iv p3, iv (v7_27_l4 p2 L_ra1), iv (p2 - (v7_27_l4 p2 L_ra1))] [(.int 1)])) _
              exact retN X803 hx (t := .boolean) Bd.returns (by simp) (hb hby d7_81) hr
            · show Q7 Z ra0 ra1 p2 p3 k_ra1 L_ra1 k_ra0 n_ra0 L_ra0 h0 n0 _ T803.heap _
              rw [e803]
              exact ⟨(congrArg (fun z => some (Value.int z)) hv).symm, N803, rfl⟩
          · have k839 := fun (t : State) (kk : Steps p.tables e below (T803.setTop (mkF m 66 #[rv ra0, rv ra1, iv p2, iv p3, iv (v7_27_l4 p2 L_ra1), iv (p2 - (v7_27_l4 p2 L_ra1))] [(.int 1), (.ref ra0)])) t) => k836 t (by
              refine XS.icmpNo X803.here hx rfl (hb hby d7_61) rfl (flt hc61_837).1 ?_
              refine XS.aloadN X803.here hx rfl (hb hby d7_64) rfl rfl ?_
              refine XS.iconst X803.here hx rfl (hb hby d7_65) ?_
              exact kk)
            have hV840 := V_ra0
            obtain ⟨cl840, Ar840, q840, S840, Nn840, H840, G840⟩ := hV840
            have hb841 : ¬ (1 : Int32) < 0 ∧ (1 : Int32) < n_ra0 := own_r1 hc39_810 hc61_837
            have hin841 : ¬ ((1 : Int32) < 0 ∨ cl840.slots.size ≤ ((1 : Int32)).toNatClampNeg) := inb_of S840 hb841
            have hat841 : cl840.slots[((1 : Int32)).toNatClampNeg]? = some (.int (v7_66_at L_ra0)) := Has.at H840 hin841 (own_getD_int _ _ _)
            have st841 := X803.baloadBytes hx (j := (1 : Int32)) (v := (.int (v7_66_at L_ra0))) (by rw [e803]; exact Ar840.1) (State.isArrayOf_alike hZ.alike Ar840.2.1) Ar840.2.2 hin841 hat841 (g := (mkF m 66 #[rv ra0, rv ra1, iv p2, iv p3, iv (v7_27_l4 p2 L_ra1), iv (p2 - (v7_27_l4 p2 L_ra1))] [(.int 1), (.ref ra0)])) rfl rfl (hb hby d7_66)
            have k842 := fun (t : State) (kk : Steps p.tables e below (T803.setTop (mkF m 67 #[rv ra0, rv ra1, iv p2, iv p3, iv (v7_27_l4 p2 L_ra1), iv (p2 - (v7_27_l4 p2 L_ra1))] [(.int (v7_66_at L_ra0))])) t) => k839 t (st841 _ kk)
            have k843 := fun (t : State) (kk : Steps p.tables e below (T803.setTop (mkF m 72 #[rv ra0, rv ra1, iv p2, iv p3, iv (v7_27_l4 p2 L_ra1), iv (p2 - (v7_27_l4 p2 L_ra1))] [(.int ((v7_27_l4 p2 L_ra1) + (1 : Int32))), (.ref ra1), (.int (v7_66_at L_ra0))])) t) => k842 t (by
              refine XS.aloadN X803.here hx rfl (hb hby d7_67) rfl rfl ?_
              refine XS.iload X803.here hx rfl (hb hby d7_68) rfl ?_
              show Steps p.tables e below (T803.setTop (mkF m 70 #[rv ra0, rv ra1, iv p2, iv p3, iv (v7_27_l4 p2 L_ra1), iv (p2 - (v7_27_l4 p2 L_ra1))] [(.int (v7_27_l4 p2 L_ra1)), (.ref ra1), (.int (v7_66_at L_ra0))])) _
              refine XS.iconst X803.here hx rfl (hb hby d7_70) ?_
              refine XS.iadd X803.here hx rfl (hb hby d7_71) rfl ?_
              exact kk)
            have hV844 := V_ra1
            obtain ⟨cl844, Ar844, q844, S844, Nn844, H844, G844⟩ := hV844
            have hb845 : ¬ ((v7_27_l4 p2 L_ra1) + (1 : Int32)) < 0 ∧ ((v7_27_l4 p2 L_ra1) + (1 : Int32)) < (5 : Int32) := own_h1 p2 L_ra1 hi hc61_837
            have hin845 : ¬ (((v7_27_l4 p2 L_ra1) + (1 : Int32)) < 0 ∨ cl844.slots.size ≤ (((v7_27_l4 p2 L_ra1) + (1 : Int32))).toNatClampNeg) := inb_of S844 hb845
            have hat845 : cl844.slots[(((v7_27_l4 p2 L_ra1) + (1 : Int32))).toNatClampNeg]? = some (.int (v7_72_at p2 L_ra1)) := Has.at H844 hin845 (own_getD_int _ _ _)
            have st845 := X803.baloadBytes hx (j := ((v7_27_l4 p2 L_ra1) + (1 : Int32))) (v := (.int (v7_72_at p2 L_ra1))) (by rw [e803]; exact Ar844.1) (State.isArrayOf_alike hZ.alike Ar844.2.1) Ar844.2.2 hin845 hat845 (g := (mkF m 72 #[rv ra0, rv ra1, iv p2, iv p3, iv (v7_27_l4 p2 L_ra1), iv (p2 - (v7_27_l4 p2 L_ra1))] [(.int ((v7_27_l4 p2 L_ra1) + (1 : Int32))), (.ref ra1), (.int (v7_66_at L_ra0))])) rfl rfl (hb hby d7_72)
            have k846 := fun (t : State) (kk : Steps p.tables e below (T803.setTop (mkF m 73 #[rv ra0, rv ra1, iv p2, iv p3, iv (v7_27_l4 p2 L_ra1), iv (p2 - (v7_27_l4 p2 L_ra1))] [(.int (v7_72_at p2 L_ra1)), (.int (v7_66_at L_ra0))])) t) => k843 t (st845 _ kk)
            have k849 := fun (t : State) (kk : Steps p.tables e below (T803.setTop (mkF m 81 #[rv ra0, rv ra1, iv p2, iv p3, iv (v7_27_l4 p2 L_ra1), iv (p2 - (v7_27_l4 p2 L_ra1))] [(.int (v7_73_s0 p2 L_ra1 L_ra0))])) t) => k846 t (by
              suffices k848 : Steps p.tables e below (T803.setTop (mkF m 81 #[rv ra0, rv ra1, iv p2, iv p3, iv (v7_27_l4 p2 L_ra1), iv (p2 - (v7_27_l4 p2 L_ra1))] [(.int (v7_73_s0 p2 L_ra1 L_ra0))])) t by
                by_cases hc73_847 : (v7_66_at L_ra0) = (v7_72_at p2 L_ra1)
                · rw [(show (v7_73_s0 p2 L_ra1 L_ra0) = (1 : Int32) from if_pos hc73_847)] at k848
                  refine XS.icmpNo X803.here hx rfl (hb hby d7_73) rfl (teq hc73_847).2 ?_
                  refine XS.iconst X803.here hx rfl (hb hby d7_76) ?_
                  refine XS.goto X803.here hx rfl (pc0 := 77) (pc' := 81) rfl (hb hby d7_77) (by decide) (by decide) ?_
                  exact k848
                · rw [(show (v7_73_s0 p2 L_ra1 L_ra0) = (0 : Int32) from if_neg hc73_847)] at k848
                  refine XS.icmpYes X803.here hx rfl (pc0 := 73) (pc' := 80) rfl (hb hby d7_73) rfl (feq hc73_847).2 (by decide) (by decide) ?_
                  refine XS.iconst X803.here hx rfl (hb hby d7_80) ?_
                  exact k848
              exact kk)
            obtain ⟨fs, hr, hrun, hended, hW, hsame⟩ := X803.leave (v := some (.int (nar .boolean (v7_73_s0 p2 L_ra1 L_ra0)))) (fun h => by rw [Bd.returns] at h; cases h) hlk
            have hv : (v7_ret p2 p3 L_ra1 n_ra0 L_ra0) = (nar .boolean (v7_73_s0 p2 L_ra1 L_ra0)) := ((if_neg hc1_798).trans ((if_pos hc39_810).trans ((if_neg hc45_812).trans ((if_pos hc55_835).trans (if_neg hc61_837)))))
            refine ⟨_, _, k849 _ ?_, hrun, hended, _, _, rfl, ?_, ⟨_, rfl⟩, hW, hsame.mono (by decide) (by decide)⟩
            · show Steps p.tables e below (T803.setTop (mkF m 81 #[rv ra0, rv ra1, iv p2, iv p3, iv (v7_27_l4 p2 L_ra1), iv (p2 - (v7_27_l4 p2 L_ra1))] [(.int (v7_73_s0 p2 L_ra1 L_ra0))])) _
              exact retN X803 hx (t := .boolean) Bd.returns (by simp) (hb hby d7_81) hr
            · show Q7 Z ra0 ra1 p2 p3 k_ra1 L_ra1 k_ra0 n_ra0 L_ra0 h0 n0 _ T803.heap _
              rw [e803]
              exact ⟨(congrArg (fun z => some (Value.int z)) hv).symm, N803, rfl⟩
        · have k850 := fun (t : State) (kk : Steps p.tables e below (T803.setTop (mkF m 81 #[rv ra0, rv ra1, iv p2, iv p3, iv (v7_27_l4 p2 L_ra1), iv (p2 - (v7_27_l4 p2 L_ra1))] [(.int 0)])) t) => k834 t (by
            refine XS.icmpYes X803.here hx rfl (pc0 := 55) (pc' := 80) rfl (hb hby d7_55) rfl (feq hc55_835).2 (by decide) (by decide) ?_
            refine XS.iconst X803.here hx rfl (hb hby d7_80) ?_
            exact kk)
          obtain ⟨fs, hr, hrun, hended, hW, hsame⟩ := X803.leave (v := some (.int 0)) (fun h => by rw [Bd.returns] at h; cases h) hlk
          have hv : (v7_ret p2 p3 L_ra1 n_ra0 L_ra0) = (0 : Int32) := ((if_neg hc1_798).trans ((if_pos hc39_810).trans ((if_neg hc45_812).trans (if_neg hc55_835))))
          refine ⟨_, _, k850 _ ?_, hrun, hended, _, _, rfl, ?_, ⟨_, rfl⟩, hW, hsame.mono (by decide) (by decide)⟩
          · show Steps p.tables e below (T803.setTop (mkF m 81 #[rv ra0, rv ra1, iv p2, iv p3, iv (v7_27_l4 p2 L_ra1), iv (p2 - (v7_27_l4 p2 L_ra1))] [(.int 0)])) _
            exact retN X803 hx (t := .boolean) Bd.returns (by simp) (hb hby d7_81) hr
          · show Q7 Z ra0 ra1 p2 p3 k_ra1 L_ra1 k_ra0 n_ra0 L_ra0 h0 n0 _ T803.heap _
            rw [e803]
            exact ⟨(congrArg (fun z => some (Value.int z)) hv).symm, N803, rfl⟩
    · have k851 := fun (t : State) (kk : Steps p.tables e below (T803.setTop (mkF m 81 #[rv ra0, rv ra1, iv p2, iv p3, iv (v7_27_l4 p2 L_ra1), iv (p2 - (v7_27_l4 p2 L_ra1))] [(.int 0)])) t) => k809 t (by
        refine XS.icmpYes X803.here hx rfl (pc0 := 39) (pc' := 80) rfl (hb hby d7_39) rfl (feq hc39_810).2 (by decide) (by decide) ?_
        refine XS.iconst X803.here hx rfl (hb hby d7_80) ?_
        exact kk)
      obtain ⟨fs, hr, hrun, hended, hW, hsame⟩ := X803.leave (v := some (.int 0)) (fun h => by rw [Bd.returns] at h; cases h) hlk
      have hv : (v7_ret p2 p3 L_ra1 n_ra0 L_ra0) = (0 : Int32) := ((if_neg hc1_798).trans (if_neg hc39_810))
      refine ⟨_, _, k851 _ ?_, hrun, hended, _, _, rfl, ?_, ⟨_, rfl⟩, hW, hsame.mono (by decide) (by decide)⟩
      · show Steps p.tables e below (T803.setTop (mkF m 81 #[rv ra0, rv ra1, iv p2, iv p3, iv (v7_27_l4 p2 L_ra1), iv (p2 - (v7_27_l4 p2 L_ra1))] [(.int 0)])) _
        exact retN X803 hx (t := .boolean) Bd.returns (by simp) (hb hby d7_81) hr
      · show Q7 Z ra0 ra1 p2 p3 k_ra1 L_ra1 k_ra0 n_ra0 L_ra0 h0 n0 _ T803.heap _
        rw [e803]
        exact ⟨(congrArg (fun z => some (Value.int z)) hv).symm, N803, rfl⟩
theorem pd_6 : parseMethodDescriptor "(I)B" = some ⟨[.int], some .byte⟩ := by decide +kernel
theorem pd_7 : parseMethodDescriptor "()V" = some ⟨[], none⟩ := by decide +kernel
theorem pd_8 : parseMethodDescriptor "(B)[B" = some ⟨[.byte], some (.array .byte)⟩ := by decide +kernel
theorem pd_9 : parseMethodDescriptor "([B[BIZ)Z" = some ⟨[(.array .byte), (.array .byte), .int, .boolean], some .boolean⟩ := by decide +kernel
theorem pd_10 : parseMethodDescriptor "()Z" = some ⟨[], some .boolean⟩ := by decide +kernel
def v0_9_e (p0 : Int32) : Int32 := (((v1_ret p0)).toInt8.toInt32)
def v0_16_e (p1 : Int32) : Int32 := (((v1_ret p1)).toInt8.toInt32)
def v0_23_e (p2 : Int32) : Int32 := (((v1_ret p2)).toInt8.toInt32)
def v0_30_e (p3 : Int32) : Int32 := (((v1_ret p3)).toInt8.toInt32)
def v0_38_e (p4 : Int32) : Int32 := (((v1_ret p4)).toInt8.toInt32)
def v0_107_j (p0 : Int32) (p1 : Int32) (p2 : Int32) (p3 : Int32) (p4 : Int32) : Int32 := (if (v2_ret (0 : Int32) ([(v0_9_e p0), (v0_16_e p1), (v0_23_e p2), (v0_30_e p3), (v0_38_e p4)] : List Int32)) = (0 : Int32) then (if (v2_ret (1 : Int32) ([(v0_9_e p0), (v0_16_e p1), (v0_23_e p2), (v0_30_e p3), (v0_38_e p4)] : List Int32)) = (0 : Int32) then (if (v2_ret (2 : Int32) ([(v0_9_e p0), (v0_16_e p1), (v0_23_e p2), (v0_30_e p3), (v0_38_e p4)] : List Int32)) = (0 : Int32) then (if (v2_ret (3 : Int32) ([(v0_9_e p0), (v0_16_e p1), (v0_23_e p2), (v0_30_e p3), (v0_38_e p4)] : List Int32)) = (0 : Int32) then (if (v2_ret (4 : Int32) ([(v0_9_e p0), (v0_16_e p1), (v0_23_e p2), (v0_30_e p3), (v0_38_e p4)] : List Int32)) = (0 : Int32) then (-1 : Int32) else (4 : Int32)) else (3 : Int32)) else (2 : Int32)) else (1 : Int32)) else (0 : Int32))
def v0_127_f_boundaryLine (p0 : Int32) : Int32 := (v6_f_boundaryLine_ra0 (v0_9_e p0) (0 : Int32) (0 : Int32) (1 : Int32))
def v0_127_f_failed (p0 : Int32) : Int32 := (v6_f_failed_ra0 (v0_9_e p0) (0 : Int32) (0 : Int32) (1 : Int32))
def v0_127_f_position  : Int32 := (v6_f_position_ra0 (0 : Int32) (0 : Int32))
def v0_127_f_lineLength (p0 : Int32) : Int32 := (v6_f_lineLength_ra0 (v0_9_e p0) (0 : Int32) (0 : Int32) (1 : Int32))
def v0_127_L0 (p0 : Int32) : List Int32 := (v6_a_r_line_ra0 (v0_9_e p0) (0 : Int32) (0 : Int32) (List.replicate ((2048 : Int32)).toNatClampNeg (0 : Int32)))
def v0_195_cls (p0 : Int32) (p1 : Int32) : Int32 := (v6_cls (v0_16_e p1) (v0_127_f_failed p0) (v0_127_f_lineLength p0) (v0_127_f_boundaryLine p0))
def v0_195_f_boundaryLine (p0 : Int32) (p1 : Int32) : Int32 := (v6_f_boundaryLine_ra0 (v0_16_e p1) (v0_127_f_failed p0) (v0_127_f_lineLength p0) (v0_127_f_boundaryLine p0))
def v0_195_f_failed (p0 : Int32) (p1 : Int32) : Int32 := (v6_f_failed_ra0 (v0_16_e p1) (v0_127_f_failed p0) (v0_127_f_lineLength p0) (v0_127_f_boundaryLine p0))
def v0_195_f_position (p0 : Int32) : Int32 := (v6_f_position_ra0 (v0_127_f_failed p0) v0_127_f_position)
def v0_195_f_lineLength (p0 : Int32) (p1 : Int32) : Int32 := (v6_f_lineLength_ra0 (v0_16_e p1) (v0_127_f_failed p0) (v0_127_f_lineLength p0) (v0_127_f_boundaryLine p0))
def v0_195_L0 (p0 : Int32) (p1 : Int32) : List Int32 := (v6_a_r_line_ra0 (v0_16_e p1) (v0_127_f_failed p0) (v0_127_f_lineLength p0) (v0_127_L0 p0))
def v0_265_cls (p0 : Int32) (p1 : Int32) (p2 : Int32) : Int32 := (v6_cls (v0_23_e p2) (v0_195_f_failed p0 p1) (v0_195_f_lineLength p0 p1) (v0_195_f_boundaryLine p0 p1))
def v0_265_f_boundaryLine (p0 : Int32) (p1 : Int32) (p2 : Int32) : Int32 := (v6_f_boundaryLine_ra0 (v0_23_e p2) (v0_195_f_failed p0 p1) (v0_195_f_lineLength p0 p1) (v0_195_f_boundaryLine p0 p1))
def v0_265_f_failed (p0 : Int32) (p1 : Int32) (p2 : Int32) : Int32 := (v6_f_failed_ra0 (v0_23_e p2) (v0_195_f_failed p0 p1) (v0_195_f_lineLength p0 p1) (v0_195_f_boundaryLine p0 p1))
def v0_265_f_position (p0 : Int32) (p1 : Int32) : Int32 := (v6_f_position_ra0 (v0_195_f_failed p0 p1) (v0_195_f_position p0))
def v0_265_f_lineLength (p0 : Int32) (p1 : Int32) (p2 : Int32) : Int32 := (v6_f_lineLength_ra0 (v0_23_e p2) (v0_195_f_failed p0 p1) (v0_195_f_lineLength p0 p1) (v0_195_f_boundaryLine p0 p1))
def v0_265_L0 (p0 : Int32) (p1 : Int32) (p2 : Int32) : List Int32 := (v6_a_r_line_ra0 (v0_23_e p2) (v0_195_f_failed p0 p1) (v0_195_f_lineLength p0 p1) (v0_195_L0 p0 p1))
def v0_335_cls (p0 : Int32) (p1 : Int32) (p2 : Int32) (p3 : Int32) : Int32 := (v6_cls (v0_30_e p3) (v0_265_f_failed p0 p1 p2) (v0_265_f_lineLength p0 p1 p2) (v0_265_f_boundaryLine p0 p1 p2))
def v0_335_f_boundaryLine (p0 : Int32) (p1 : Int32) (p2 : Int32) (p3 : Int32) : Int32 := (v6_f_boundaryLine_ra0 (v0_30_e p3) (v0_265_f_failed p0 p1 p2) (v0_265_f_lineLength p0 p1 p2) (v0_265_f_boundaryLine p0 p1 p2))
def v0_335_f_failed (p0 : Int32) (p1 : Int32) (p2 : Int32) (p3 : Int32) : Int32 := (v6_f_failed_ra0 (v0_30_e p3) (v0_265_f_failed p0 p1 p2) (v0_265_f_lineLength p0 p1 p2) (v0_265_f_boundaryLine p0 p1 p2))
def v0_335_f_position (p0 : Int32) (p1 : Int32) (p2 : Int32) : Int32 := (v6_f_position_ra0 (v0_265_f_failed p0 p1 p2) (v0_265_f_position p0 p1))
def v0_335_f_lineLength (p0 : Int32) (p1 : Int32) (p2 : Int32) (p3 : Int32) : Int32 := (v6_f_lineLength_ra0 (v0_30_e p3) (v0_265_f_failed p0 p1 p2) (v0_265_f_lineLength p0 p1 p2) (v0_265_f_boundaryLine p0 p1 p2))
def v0_335_L0 (p0 : Int32) (p1 : Int32) (p2 : Int32) (p3 : Int32) : List Int32 := (v6_a_r_line_ra0 (v0_30_e p3) (v0_265_f_failed p0 p1 p2) (v0_265_f_lineLength p0 p1 p2) (v0_265_L0 p0 p1 p2))
def v0_405_cls (p0 : Int32) (p1 : Int32) (p2 : Int32) (p3 : Int32) (p4 : Int32) : Int32 := (v6_cls (v0_38_e p4) (v0_335_f_failed p0 p1 p2 p3) (v0_335_f_lineLength p0 p1 p2 p3) (v0_335_f_boundaryLine p0 p1 p2 p3))
def v0_405_f_boundaryLine (p0 : Int32) (p1 : Int32) (p2 : Int32) (p3 : Int32) (p4 : Int32) : Int32 := (v6_f_boundaryLine_ra0 (v0_38_e p4) (v0_335_f_failed p0 p1 p2 p3) (v0_335_f_lineLength p0 p1 p2 p3) (v0_335_f_boundaryLine p0 p1 p2 p3))
def v0_405_f_failed (p0 : Int32) (p1 : Int32) (p2 : Int32) (p3 : Int32) (p4 : Int32) : Int32 := (v6_f_failed_ra0 (v0_38_e p4) (v0_335_f_failed p0 p1 p2 p3) (v0_335_f_lineLength p0 p1 p2 p3) (v0_335_f_boundaryLine p0 p1 p2 p3))
def v0_405_f_position (p0 : Int32) (p1 : Int32) (p2 : Int32) (p3 : Int32) : Int32 := (v6_f_position_ra0 (v0_335_f_failed p0 p1 p2 p3) (v0_335_f_position p0 p1 p2))
def v0_405_f_lineLength (p0 : Int32) (p1 : Int32) (p2 : Int32) (p3 : Int32) (p4 : Int32) : Int32 := (v6_f_lineLength_ra0 (v0_38_e p4) (v0_335_f_failed p0 p1 p2 p3) (v0_335_f_lineLength p0 p1 p2 p3) (v0_335_f_boundaryLine p0 p1 p2 p3))
def v0_405_L0 (p0 : Int32) (p1 : Int32) (p2 : Int32) (p3 : Int32) (p4 : Int32) : List Int32 := (v6_a_r_line_ra0 (v0_38_e p4) (v0_335_f_failed p0 p1 p2 p3) (v0_335_f_lineLength p0 p1 p2 p3) (v0_335_L0 p0 p1 p2 p3))
def v0_485_s0 (p0 : Int32) (p1 : Int32) (p2 : Int32) (p3 : Int32) (p4 : Int32) : Int32 := if (v9_ret (5 : Int32) ([(v0_9_e p0), (v0_16_e p1), (v0_23_e p2), (v0_30_e p3), (v0_38_e p4)] : List Int32)) = (0 : Int32) then (1 : Int32) else (0 : Int32)
def v0_493_s0 (p0 : Int32) (p1 : Int32) (p2 : Int32) (p3 : Int32) (p4 : Int32) : Int32 := if (nar .boolean (v0_405_f_failed p0 p1 p2 p3 p4)) = (v0_485_s0 p0 p1 p2 p3 p4) then (1 : Int32) else (0 : Int32)
def v0_460_s0 (p0 : Int32) (p1 : Int32) (p2 : Int32) (p3 : Int32) (p4 : Int32) : Int32 := if (nar .boolean (v0_405_f_failed p0 p1 p2 p3 p4)) = (0 : Int32) then (1 : Int32) else (0 : Int32)
def v0_390_s0 (p0 : Int32) (p1 : Int32) (p2 : Int32) (p3 : Int32) : Int32 := if (nar .boolean (v0_335_f_failed p0 p1 p2 p3)) = (0 : Int32) then (1 : Int32) else (0 : Int32)
def v0_320_s0 (p0 : Int32) (p1 : Int32) (p2 : Int32) : Int32 := if (nar .boolean (v0_265_f_failed p0 p1 p2)) = (0 : Int32) then (1 : Int32) else (0 : Int32)
def v0_ret (p0 : Int32) (p1 : Int32) (p2 : Int32) (p3 : Int32) (p4 : Int32) : Int32 := (if (v0_265_cls p0 p1 p2) = (0 : Int32) then (if (v0_335_cls p0 p1 p2 p3) = (0 : Int32) then (if (v0_405_cls p0 p1 p2 p3 p4) = (0 : Int32) then (nar .boolean (v0_493_s0 p0 p1 p2 p3 p4)) else (if (v7_ret (4 : Int32) (1 : Int32) ([(v0_9_e p0), (v0_16_e p1), (v0_23_e p2), (v0_30_e p3), (v0_38_e p4)] : List Int32) ((v0_335_f_lineLength p0 p1 p2 p3) - (2 : Int32)) (v13_27_L (2 : Int32) (v0_335_f_lineLength p0 p1 p2 p3) (v0_335_L0 p0 p1 p2 p3))) = (0 : Int32) then (0 : Int32) else (nar .boolean (v0_460_s0 p0 p1 p2 p3 p4)))) else (if (v7_ret (3 : Int32) (1 : Int32) ([(v0_9_e p0), (v0_16_e p1), (v0_23_e p2), (v0_30_e p3), (v0_38_e p4)] : List Int32) ((v0_265_f_lineLength p0 p1 p2) - (2 : Int32)) (v13_27_L (2 : Int32) (v0_265_f_lineLength p0 p1 p2) (v0_265_L0 p0 p1 p2))) = (0 : Int32) then (0 : Int32) else (nar .boolean (v0_390_s0 p0 p1 p2 p3)))) else (if (v7_ret (2 : Int32) (1 : Int32) ([(v0_9_e p0), (v0_16_e p1), (v0_23_e p2), (v0_30_e p3), (v0_38_e p4)] : List Int32) ((v0_195_f_lineLength p0 p1) - (2 : Int32)) (v13_27_L (2 : Int32) (v0_195_f_lineLength p0 p1) (v0_195_L0 p0 p1))) = (0 : Int32) then (0 : Int32) else (nar .boolean (v0_320_s0 p0 p1 p2))))
def own_sym (x : Int32) : Nat := if x = 13 then 0 else if x = 10 then 0 else if x < 0 then 1 else if x = 45 then 2 else if x = 32 then 3 else if x = 9 then 3 else if x = 11 then 3 else if x = 12 then 3 else 4
theorem own_symcase {M : Int32 → Prop} (x : Int32) (h13 : M 13) (h10 : M 10) (h45 : M 45) (h32 : M 32) (h9 : M 9) (h11 : M 11) (h12 : M 12) (hn : x < 0 → x ≠ 13 → x ≠ 10 → x ≠ 45 → x ≠ 32 → x ≠ 9 → x ≠ 11 → x ≠ 12 → M x) (ho : ¬ x < 0 → x ≠ 13 → x ≠ 10 → x ≠ 45 → x ≠ 32 → x ≠ 9 → x ≠ 11 → x ≠ 12 → M x) : M x := by
  by_cases a : x = 13
  · rw [a]; exact h13
  by_cases b : x = 10
  · rw [b]; exact h10
  by_cases c : x = 45
  · rw [c]; exact h45
  by_cases d : x = 32
  · rw [d]; exact h32
  by_cases e : x = 9
  · rw [e]; exact h9
  by_cases f : x = 11
  · rw [f]; exact h11
  by_cases g : x = 12
  · rw [g]; exact h12
  by_cases n : x < 0
  · exact hn n a b c d e f g
  · exact ho n a b c d e f g
theorem own_sE (x : Int32) : (nar .boolean (v3_3_s0 x) = (0 : Int32)) ↔ ¬ (own_sym x = 0) := by
  refine own_symcase (M := fun x => (nar .boolean (v3_3_s0 x) = (0 : Int32)) ↔ ¬ (own_sym x = 0)) x (by decide) (by decide) (by decide) (by decide) (by decide) (by decide) (by decide) ?_ ?_
  all_goals (intro n a b c d e f g; simp only [own_sym, v3_3_s0, v3_9_s0, n, a, b, c, d, e, f, g, if_true, if_false] <;> decide)
theorem own_s6E (x : Int32) : (v6_14_s0 x = (0 : Int32)) ↔ ¬ (own_sym x = 0) := by
  refine own_symcase (M := fun x => (v6_14_s0 x = (0 : Int32)) ↔ ¬ (own_sym x = 0)) x (by decide) (by decide) (by decide) (by decide) (by decide) (by decide) (by decide) ?_ ?_
  all_goals (intro n a b c d e f g; simp only [own_sym, v6_14_s0, v6_20_s0, n, a, b, c, d, e, f, g, if_true, if_false] <;> decide)
theorem own_sW (x : Int32) : (nar .boolean (v16_3_s0 x) = (0 : Int32)) ↔ ¬ (own_sym x = 3) := by
  refine own_symcase (M := fun x => (nar .boolean (v16_3_s0 x) = (0 : Int32)) ↔ ¬ (own_sym x = 3)) x (by decide) (by decide) (by decide) (by decide) (by decide) (by decide) (by decide) ?_ ?_
  all_goals (intro n a b c d e f g; simp only [own_sym, v16_3_s0, v16_9_s0, v16_15_s0, v16_21_s0, n, a, b, c, d, e, f, g, if_true, if_false] <;> decide)
theorem own_s6W (x : Int32) : (v6_106_s0 x = (0 : Int32)) ↔ ¬ (own_sym x = 3) := by
  refine own_symcase (M := fun x => (v6_106_s0 x = (0 : Int32)) ↔ ¬ (own_sym x = 3)) x (by decide) (by decide) (by decide) (by decide) (by decide) (by decide) (by decide) ?_ ?_
  all_goals (intro n a b c d e f g; simp only [own_sym, v6_106_s0, v6_112_s0, v6_118_s0, v6_124_s0, n, a, b, c, d, e, f, g, if_true, if_false] <;> decide)
theorem own_sN (x : Int32) : (x < (0 : Int32)) ↔ own_sym x = 1 := by
  refine own_symcase (M := fun x => (x < (0 : Int32)) ↔ own_sym x = 1) x (by decide) (by decide) (by decide) (by decide) (by decide) (by decide) (by decide) ?_ ?_
  all_goals (intro n a b c d e f g; simp only [own_sym,  n, a, b, c, d, e, f, g, if_true, if_false] <;> decide)
theorem own_sD (x : Int32) : (x = (45 : Int32)) ↔ own_sym x = 2 := by
  refine own_symcase (M := fun x => (x = (45 : Int32)) ↔ own_sym x = 2) x (by decide) (by decide) (by decide) (by decide) (by decide) (by decide) (by decide) ?_ ?_
  all_goals (intro n a b c d e f g; simp only [own_sym,  n, a, b, c, d, e, f, g, if_true, if_false] <;> decide)
theorem own_gm (L : List Int32) (k : Nat) : own_sym (L.getD k (0 : Int32)) = (L.map own_sym).getD k 4 := by
  rw [List.getD_eq_getElem?_getD, List.getD_eq_getElem?_getD, List.getElem?_map]
  cases L[k]? with
  | none => rfl
  | some v => rfl
def a11_ret (p1 : Int32) (S : List Nat) : Int32 := (if (0 : Int32) < p1 then (if ¬ (S.getD ((p1 - (1 : Int32))).toNatClampNeg 4 = 0) then (if (0 : Int32) < (p1 + (-1 : Int32)) then (if ¬ (S.getD (((p1 + (-1 : Int32)) - (1 : Int32))).toNatClampNeg 4 = 0) then (if (0 : Int32) < ((p1 + (-1 : Int32)) + (-1 : Int32)) then (if ¬ (S.getD ((((p1 + (-1 : Int32)) + (-1 : Int32)) - (1 : Int32))).toNatClampNeg 4 = 0) then (if (0 : Int32) < (((p1 + (-1 : Int32)) + (-1 : Int32)) + (-1 : Int32)) then (if ¬ (S.getD (((((p1 + (-1 : Int32)) + (-1 : Int32)) + (-1 : Int32)) - (1 : Int32))).toNatClampNeg 4 = 0) then ((((p1 + (-1 : Int32)) + (-1 : Int32)) + (-1 : Int32)) + (-1 : Int32)) else (((p1 + (-1 : Int32)) + (-1 : Int32)) + (-1 : Int32))) else (((p1 + (-1 : Int32)) + (-1 : Int32)) + (-1 : Int32))) else ((p1 + (-1 : Int32)) + (-1 : Int32))) else ((p1 + (-1 : Int32)) + (-1 : Int32))) else (p1 + (-1 : Int32))) else (p1 + (-1 : Int32))) else p1) else p1)
theorem own_a11_ret (p1 : Int32) (L_ra0 : List Int32) : v11_ret p1 L_ra0 = a11_ret p1 (L_ra0.map own_sym) := by
  unfold v11_ret a11_ret; simp only [v11_10_at, v11_28_at, v11_46_at, v11_64_at, v11_17_l2, v11_35_l2, v11_53_l2, v11_71_l2, own_sE, own_sW, own_sN, own_sD, own_gm]
def a9_52_s0 (S : List Nat) : Int32 := if (S.getD ((4 : Int32)).toNatClampNeg 4 = 1) then (0 : Int32) else (1 : Int32)
theorem own_a9_52_s0 (L_ra0 : List Int32) : v9_52_s0 L_ra0 = a9_52_s0 (L_ra0.map own_sym) := by
  unfold v9_52_s0 a9_52_s0; simp only [v9_51_at, own_sE, own_sW, own_sN, own_sD, own_gm]
def a9_ret (p1 : Int32) (S : List Nat) : Int32 := (if p1 < (1 : Int32) then (1 : Int32) else (if (S.getD ((0 : Int32)).toNatClampNeg 4 = 1) then (0 : Int32) else (if p1 < (2 : Int32) then (1 : Int32) else (if (S.getD ((1 : Int32)).toNatClampNeg 4 = 1) then (0 : Int32) else (if p1 < (3 : Int32) then (1 : Int32) else (if (S.getD ((2 : Int32)).toNatClampNeg 4 = 1) then (0 : Int32) else (if p1 < (4 : Int32) then (1 : Int32) else (if (S.getD ((3 : Int32)).toNatClampNeg 4 = 1) then (0 : Int32) else (if p1 < (5 : Int32) then (1 : Int32) else (nar .boolean (a9_52_s0 S)))))))))))
theorem own_a9_ret (p1 : Int32) (L_ra0 : List Int32) : v9_ret p1 L_ra0 = a9_ret p1 (L_ra0.map own_sym) := by
  unfold v9_ret a9_ret; simp only [v9_7_at, v9_18_at, v9_29_at, v9_40_at, own_a9_52_s0, own_sE, own_sW, own_sN, own_sD, own_gm]
def a10_80_s0 (S : List Nat) : Int32 := if ¬ (S.getD ((3 : Int32)).toNatClampNeg 4 = 3) then (1 : Int32) else (0 : Int32)
theorem own_a10_80_s0 (L_ra0 : List Int32) : v10_80_s0 L_ra0 = a10_80_s0 (L_ra0.map own_sym) := by
  unfold v10_80_s0 a10_80_s0; simp only [v10_76_at, own_sE, own_sW, own_sN, own_sD, own_gm]
def a10_96_s0 (S : List Nat) : Int32 := if (a10_80_s0 S) = (0 : Int32) then (0 : Int32) else (1 : Int32)
theorem own_a10_96_s0 (L_ra0 : List Int32) : v10_96_s0 L_ra0 = a10_96_s0 (L_ra0.map own_sym) := by
  unfold v10_96_s0 a10_96_s0; simp only [own_a10_80_s0]
def a10_53_s0 (S : List Nat) : Int32 := if ¬ (S.getD ((2 : Int32)).toNatClampNeg 4 = 3) then (1 : Int32) else (0 : Int32)
theorem own_a10_53_s0 (L_ra0 : List Int32) : v10_53_s0 L_ra0 = a10_53_s0 (L_ra0.map own_sym) := by
  unfold v10_53_s0 a10_53_s0; simp only [v10_49_at, own_sE, own_sW, own_sN, own_sD, own_gm]
def a10_91_s0 (S : List Nat) : Int32 := if (a10_53_s0 S) = (0 : Int32) then (0 : Int32) else (1 : Int32)
theorem own_a10_91_s0 (L_ra0 : List Int32) : v10_91_s0 L_ra0 = a10_91_s0 (L_ra0.map own_sym) := by
  unfold v10_91_s0 a10_91_s0; simp only [own_a10_53_s0]
def a10_91_s0_1 (S : List Nat) : Int32 := if (a10_53_s0 S) = (0 : Int32) then (0 : Int32) else (a10_96_s0 S)
theorem own_a10_91_s0_1 (L_ra0 : List Int32) : v10_91_s0_1 L_ra0 = a10_91_s0_1 (L_ra0.map own_sym) := by
  unfold v10_91_s0_1 a10_91_s0_1; simp only [own_a10_53_s0, own_a10_96_s0]
def a10_ret (p1 : Int32) (S : List Nat) : Int32 := (if (p1 - (a11_ret p1 S)) < (2 : Int32) then (0 : Int32) else (if (S.getD ((a11_ret p1 S)).toNatClampNeg 4 = 2) then (if (S.getD (((a11_ret p1 S) + (1 : Int32))).toNatClampNeg 4 = 2) then (if (2 : Int32) < ((a11_ret p1 S) + (2 : Int32)) then (if (3 : Int32) < ((a11_ret p1 S) + (2 : Int32)) then (1 : Int32) else (if (3 : Int32) < p1 then (nar .boolean (a10_96_s0 S)) else (1 : Int32))) else (if (2 : Int32) < p1 then (if (3 : Int32) < ((a11_ret p1 S) + (2 : Int32)) then (nar .boolean (a10_91_s0 S)) else (if (3 : Int32) < p1 then (nar .boolean (a10_91_s0_1 S)) else (nar .boolean (a10_91_s0 S)))) else (if (3 : Int32) < ((a11_ret p1 S) + (2 : Int32)) then (1 : Int32) else (if (3 : Int32) < p1 then (nar .boolean (a10_96_s0 S)) else (1 : Int32))))) else (0 : Int32)) else (0 : Int32)))
theorem own_a10_ret (p1 : Int32) (L_ra0 : List Int32) : v10_ret p1 L_ra0 = a10_ret p1 (L_ra0.map own_sym) := by
  unfold v10_ret a10_ret; simp only [v10_17_at, v10_27_at, own_a10_96_s0, own_a10_91_s0, own_a10_91_s0_1, own_a11_ret, own_sE, own_sW, own_sN, own_sD, own_gm]
def a2_22_s0 (p1 : Int32) (S : List Nat) : Int32 := if (a10_ret p1 S) = (0 : Int32) then (0 : Int32) else (1 : Int32)
theorem own_a2_22_s0 (p1 : Int32) (L_ra0 : List Int32) : v2_22_s0 p1 L_ra0 = a2_22_s0 p1 (L_ra0.map own_sym) := by
  unfold v2_22_s0 a2_22_s0; simp only [own_a10_ret]
def a2_ret (p1 : Int32) (S : List Nat) : Int32 := (if ¬ (S.getD (p1).toNatClampNeg 4 = 0) then (0 : Int32) else (if (a9_ret p1 S) = (0 : Int32) then (0 : Int32) else (nar .boolean (a2_22_s0 p1 S))))
theorem own_a2_ret (p1 : Int32) (L_ra0 : List Int32) : v2_ret p1 L_ra0 = a2_ret p1 (L_ra0.map own_sym) := by
  unfold v2_ret a2_ret; simp only [v2_2_at, own_a9_ret, own_a2_22_s0, own_sE, own_sW, own_sN, own_sD, own_gm]
def a6_f_boundaryLine_ra0 (y : Nat) (w_failed_ra0 w_lineLength_ra0 w_boundaryLine_ra0 : Int32) : Int32 := (if w_failed_ra0 = (0 : Int32) then (if ¬ (y = 0) then (if y = 1 then w_boundaryLine_ra0 else (if w_lineLength_ra0 < (2 : Int32) then (if y = 2 then w_boundaryLine_ra0 else (0 : Int32)) else (if ¬ (y = 3) then w_boundaryLine_ra0 else (0 : Int32)))) else (if w_boundaryLine_ra0 = (0 : Int32) then (if y = 1 then w_boundaryLine_ra0 else (1 : Int32)) else (if w_lineLength_ra0 < (2 : Int32) then (if y = 1 then w_boundaryLine_ra0 else (1 : Int32)) else w_boundaryLine_ra0))) else w_boundaryLine_ra0)
theorem own_a6_f_boundaryLine_ra0 (p1 : Int32) (w_failed_ra0 : Int32) (w_lineLength_ra0 : Int32) (w_boundaryLine_ra0 : Int32) : v6_f_boundaryLine_ra0 p1 w_failed_ra0 w_lineLength_ra0 w_boundaryLine_ra0 = a6_f_boundaryLine_ra0 (own_sym p1) w_failed_ra0 w_lineLength_ra0 w_boundaryLine_ra0 := by
  unfold v6_f_boundaryLine_ra0 a6_f_boundaryLine_ra0; simp only [own_s6E, own_s6W, own_sN, own_sD]
def a6_f_failed_ra0 (y : Nat) (w_failed_ra0 w_lineLength_ra0 w_boundaryLine_ra0 : Int32) : Int32 := (if w_failed_ra0 = (0 : Int32) then (if ¬ (y = 0) then (if y = 1 then (1 : Int32) else w_failed_ra0) else (if w_boundaryLine_ra0 = (0 : Int32) then (if y = 1 then (1 : Int32) else w_failed_ra0) else (if w_lineLength_ra0 < (2 : Int32) then (if y = 1 then (1 : Int32) else w_failed_ra0) else w_failed_ra0))) else w_failed_ra0)
theorem own_a6_f_failed_ra0 (p1 : Int32) (w_failed_ra0 : Int32) (w_lineLength_ra0 : Int32) (w_boundaryLine_ra0 : Int32) : v6_f_failed_ra0 p1 w_failed_ra0 w_lineLength_ra0 w_boundaryLine_ra0 = a6_f_failed_ra0 (own_sym p1) w_failed_ra0 w_lineLength_ra0 w_boundaryLine_ra0 := by
  unfold v6_f_failed_ra0 a6_f_failed_ra0; simp only [own_s6E, own_s6W, own_sN, own_sD]
def a6_f_lineLength_ra0 (y : Nat) (w_failed_ra0 w_lineLength_ra0 w_boundaryLine_ra0 : Int32) : Int32 := (if w_failed_ra0 = (0 : Int32) then (if ¬ (y = 0) then (if y = 1 then w_lineLength_ra0 else (w_lineLength_ra0 + (1 : Int32))) else (if w_boundaryLine_ra0 = (0 : Int32) then (if y = 1 then w_lineLength_ra0 else (0 : Int32)) else (if w_lineLength_ra0 < (2 : Int32) then (if y = 1 then w_lineLength_ra0 else (0 : Int32)) else w_lineLength_ra0))) else w_lineLength_ra0)
theorem own_a6_f_lineLength_ra0 (p1 : Int32) (w_failed_ra0 : Int32) (w_lineLength_ra0 : Int32) (w_boundaryLine_ra0 : Int32) : v6_f_lineLength_ra0 p1 w_failed_ra0 w_lineLength_ra0 w_boundaryLine_ra0 = a6_f_lineLength_ra0 (own_sym p1) w_failed_ra0 w_lineLength_ra0 w_boundaryLine_ra0 := by
  unfold v6_f_lineLength_ra0 a6_f_lineLength_ra0; simp only [own_s6E, own_s6W, own_sN, own_sD]
def a6_cls (y : Nat) (w_failed_ra0 w_lineLength_ra0 w_boundaryLine_ra0 : Int32) : Int32 := (if w_failed_ra0 = (0 : Int32) then (if ¬ (y = 0) then (0 : Int32) else (if w_boundaryLine_ra0 = (0 : Int32) then (0 : Int32) else (if w_lineLength_ra0 < (2 : Int32) then (0 : Int32) else (1 : Int32)))) else (0 : Int32))
theorem own_a6_cls (p1 : Int32) (w_failed_ra0 : Int32) (w_lineLength_ra0 : Int32) (w_boundaryLine_ra0 : Int32) : v6_cls p1 w_failed_ra0 w_lineLength_ra0 w_boundaryLine_ra0 = a6_cls (own_sym p1) w_failed_ra0 w_lineLength_ra0 w_boundaryLine_ra0 := by
  unfold v6_cls a6_cls; simp only [own_s6E, own_s6W, own_sN, own_sD]
abbrev OwnS : Type := Int32 × Int32 × Int32 × Nat × Nat
def own_init : OwnS := ⟨0, 0, 1, 5, 5⟩
def own_step (i y : Nat) (s : OwnS) : OwnS := ⟨a6_f_failed_ra0 y s.1 s.2.1 s.2.2.1, a6_f_lineLength_ra0 y s.1 s.2.1 s.2.2.1, a6_f_boundaryLine_ra0 y s.1 s.2.1 s.2.2.1,
  if s.1 = 0 ∧ y ≠ 0 ∧ y ≠ 1 ∧ s.2.1.toNatClampNeg = 2 then i else s.2.2.2.1, if s.1 = 0 ∧ y ≠ 0 ∧ y ≠ 1 ∧ s.2.1.toNatClampNeg = 3 then i else s.2.2.2.2⟩
def own_hit (y : Nat) (s : OwnS) : Int32 := a6_cls y s.1 s.2.1 s.2.2.1
def OwnR (X : List Int32) (s : OwnS) (f n b : Int32) (L : List Int32) : Prop := f = s.1 ∧ n = s.2.1 ∧ b = s.2.2.1 ∧ L.length = 2048 ∧ L.getD 2 0 = X.getD s.2.2.2.1 0 ∧ L.getD 3 0 = X.getD s.2.2.2.2 0
theorem own_setD (L : List Int32) (m k : Nat) (v : Int32) (h : L.length = 2048) (hk : k < 2048) : (L.set m v).getD k 0 = if m = k then v else L.getD k 0 := by
  rw [List.getD_eq_getElem?_getD, List.getD_eq_getElem?_getD, List.getElem?_set]
  by_cases c : m = k
  · subst c; rw [if_pos rfl, if_pos rfl, if_pos (by omega)]; rfl
  · rw [if_neg c, if_neg c]
theorem own_Rstep {X : List Int32} {s : OwnS} {f n b : Int32} {L : List Int32} (x : Int32) (i : Nat) (hb : x.toInt8.toInt32 = x) (hX : X.getD i 0 = x) (R : OwnR X s f n b L) :
    OwnR X (own_step i (own_sym x) s) (v6_f_failed_ra0 x f n b) (v6_f_lineLength_ra0 x f n b) (v6_f_boundaryLine_ra0 x f n b) (v6_a_r_line_ra0 x f n L) := by
  obtain ⟨rfl, rfl, rfl, hl, h2, h3⟩ := R
  refine ⟨own_a6_f_failed_ra0 _ _ _ _, own_a6_f_lineLength_ra0 _ _ _ _, own_a6_f_boundaryLine_ra0 _ _ _ _, ?_, ?_, ?_⟩
  all_goals
    simp only [own_step, v6_a_r_line_ra0, v6_170_L, own_s6E, own_sN]
    by_cases c1 : s.1 = 0
    · by_cases c2 : own_sym x = 0
      · simp only [c1, c2, not_true_eq_false, if_true, if_false, ne_eq, false_and, and_false, true_and]; assumption
      · by_cases c3 : own_sym x = 1
        · simp only [c1, c2, c3, not_true_eq_false, not_false_eq_true, if_true, if_false, ne_eq, false_and, and_false, true_and]; first | assumption | (simp; assumption)
        · simp only [c1, c2, c3, not_true_eq_false, not_false_eq_true, if_true, if_false, ne_eq, false_and, and_false, true_and]
          first
          | (rw [List.length_set]; exact hl)
          | (rw [own_setD _ _ _ _ hl (by decide), hb]
             split
             · exact hX.symm
             · assumption)
    · simp only [c1, if_false, false_and]; assumption
theorem own_cls {X : List Int32} {s : OwnS} {f n b : Int32} {L : List Int32} (x : Int32) (R : OwnR X s f n b L) : v6_cls x f n b = own_hit (own_sym x) s := by
  obtain ⟨rfl, rfl, rfl, -, -, -⟩ := R
  exact own_a6_cls _ _ _ _
theorem own_b_v0_9_e (p0 : Int32) : (v0_9_e p0).toInt8.toInt32 = v0_9_e p0 := by
  unfold v0_9_e; apply Int32.toInt_inj.mp; have a := c_i2b (v1_ret p0); have b := c_i2b ((v1_ret p0).toInt8.toInt32); omega
theorem own_b_v0_16_e (p1 : Int32) : (v0_16_e p1).toInt8.toInt32 = v0_16_e p1 := by
  unfold v0_16_e; apply Int32.toInt_inj.mp; have a := c_i2b (v1_ret p1); have b := c_i2b ((v1_ret p1).toInt8.toInt32); omega
theorem own_b_v0_23_e (p2 : Int32) : (v0_23_e p2).toInt8.toInt32 = v0_23_e p2 := by
  unfold v0_23_e; apply Int32.toInt_inj.mp; have a := c_i2b (v1_ret p2); have b := c_i2b ((v1_ret p2).toInt8.toInt32); omega
theorem own_b_v0_30_e (p3 : Int32) : (v0_30_e p3).toInt8.toInt32 = v0_30_e p3 := by
  unfold v0_30_e; apply Int32.toInt_inj.mp; have a := c_i2b (v1_ret p3); have b := c_i2b ((v1_ret p3).toInt8.toInt32); omega
theorem own_b_v0_38_e (p4 : Int32) : (v0_38_e p4).toInt8.toInt32 = v0_38_e p4 := by
  unfold v0_38_e; apply Int32.toInt_inj.mp; have a := c_i2b (v1_ret p4); have b := c_i2b ((v1_ret p4).toInt8.toInt32); omega
def own_s1 (y0 : Nat) : OwnS := own_step 0 y0 own_init
def own_s2 (y0 y1 : Nat) : OwnS := own_step 1 y1 (own_s1 y0)
def own_s3 (y0 y1 y2 : Nat) : OwnS := own_step 2 y2 (own_s2 y0 y1)
def own_s4 (y0 y1 y2 y3 : Nat) : OwnS := own_step 3 y3 (own_s3 y0 y1 y2)
def own_s5 (y0 y1 y2 y3 y4 : Nat) : OwnS := own_step 4 y4 (own_s4 y0 y1 y2 y3)
theorem own_R0 (p0 p1 p2 p3 p4 : Int32) : OwnR ([(v0_9_e p0), (v0_16_e p1), (v0_23_e p2), (v0_30_e p3), (v0_38_e p4)] : List Int32) own_init (0 : Int32) (0 : Int32) (1 : Int32) (List.replicate ((2048 : Int32)).toNatClampNeg (0 : Int32)) := ⟨rfl, rfl, rfl, by rw [List.length_replicate]; rfl, by rw [List.getD_eq_getElem?_getD, List.getElem?_replicate]; rfl, by rw [List.getD_eq_getElem?_getD, List.getElem?_replicate]; rfl⟩
theorem own_R1 (p0 p1 p2 p3 p4 : Int32) : OwnR ([(v0_9_e p0), (v0_16_e p1), (v0_23_e p2), (v0_30_e p3), (v0_38_e p4)] : List Int32) (own_s1 (own_sym (v0_9_e p0))) (v0_127_f_failed p0) (v0_127_f_lineLength p0) (v0_127_f_boundaryLine p0) (v0_127_L0 p0) := own_Rstep (v0_9_e p0) 0 (own_b_v0_9_e p0) rfl (own_R0 p0 p1 p2 p3 p4)
theorem own_R2 (p0 p1 p2 p3 p4 : Int32) : OwnR ([(v0_9_e p0), (v0_16_e p1), (v0_23_e p2), (v0_30_e p3), (v0_38_e p4)] : List Int32) (own_s2 (own_sym (v0_9_e p0)) (own_sym (v0_16_e p1))) (v0_195_f_failed p0 p1) (v0_195_f_lineLength p0 p1) (v0_195_f_boundaryLine p0 p1) (v0_195_L0 p0 p1) := own_Rstep (v0_16_e p1) 1 (own_b_v0_16_e p1) rfl (own_R1 p0 p1 p2 p3 p4)
theorem own_R3 (p0 p1 p2 p3 p4 : Int32) : OwnR ([(v0_9_e p0), (v0_16_e p1), (v0_23_e p2), (v0_30_e p3), (v0_38_e p4)] : List Int32) (own_s3 (own_sym (v0_9_e p0)) (own_sym (v0_16_e p1)) (own_sym (v0_23_e p2))) (v0_265_f_failed p0 p1 p2) (v0_265_f_lineLength p0 p1 p2) (v0_265_f_boundaryLine p0 p1 p2) (v0_265_L0 p0 p1 p2) := own_Rstep (v0_23_e p2) 2 (own_b_v0_23_e p2) rfl (own_R2 p0 p1 p2 p3 p4)
theorem own_R4 (p0 p1 p2 p3 p4 : Int32) : OwnR ([(v0_9_e p0), (v0_16_e p1), (v0_23_e p2), (v0_30_e p3), (v0_38_e p4)] : List Int32) (own_s4 (own_sym (v0_9_e p0)) (own_sym (v0_16_e p1)) (own_sym (v0_23_e p2)) (own_sym (v0_30_e p3))) (v0_335_f_failed p0 p1 p2 p3) (v0_335_f_lineLength p0 p1 p2 p3) (v0_335_f_boundaryLine p0 p1 p2 p3) (v0_335_L0 p0 p1 p2 p3) := own_Rstep (v0_30_e p3) 3 (own_b_v0_30_e p3) rfl (own_R3 p0 p1 p2 p3 p4)
theorem own_R5 (p0 p1 p2 p3 p4 : Int32) : OwnR ([(v0_9_e p0), (v0_16_e p1), (v0_23_e p2), (v0_30_e p3), (v0_38_e p4)] : List Int32) (own_s5 (own_sym (v0_9_e p0)) (own_sym (v0_16_e p1)) (own_sym (v0_23_e p2)) (own_sym (v0_30_e p3)) (own_sym (v0_38_e p4))) (v0_405_f_failed p0 p1 p2 p3 p4) (v0_405_f_lineLength p0 p1 p2 p3 p4) (v0_405_f_boundaryLine p0 p1 p2 p3 p4) (v0_405_L0 p0 p1 p2 p3 p4) := own_Rstep (v0_38_e p4) 4 (own_b_v0_38_e p4) rfl (own_R4 p0 p1 p2 p3 p4)
theorem own_c0 (p0 p1 p2 p3 p4 : Int32) : (v6_cls (v0_9_e p0) (0 : Int32) (0 : Int32) (1 : Int32)) = own_hit (own_sym (v0_9_e p0)) own_init := own_cls _ (own_R0 p0 p1 p2 p3 p4)
theorem own_c1 (p0 p1 p2 p3 p4 : Int32) : (v0_195_cls p0 p1) = own_hit (own_sym (v0_16_e p1)) (own_s1 (own_sym (v0_9_e p0))) := own_cls _ (own_R1 p0 p1 p2 p3 p4)
theorem own_c2 (p0 p1 p2 p3 p4 : Int32) : (v0_265_cls p0 p1 p2) = own_hit (own_sym (v0_23_e p2)) (own_s2 (own_sym (v0_9_e p0)) (own_sym (v0_16_e p1))) := own_cls _ (own_R2 p0 p1 p2 p3 p4)
theorem own_c3 (p0 p1 p2 p3 p4 : Int32) : (v0_335_cls p0 p1 p2 p3) = own_hit (own_sym (v0_30_e p3)) (own_s3 (own_sym (v0_9_e p0)) (own_sym (v0_16_e p1)) (own_sym (v0_23_e p2))) := own_cls _ (own_R3 p0 p1 p2 p3 p4)
theorem own_c4 (p0 p1 p2 p3 p4 : Int32) : (v0_405_cls p0 p1 p2 p3 p4) = own_hit (own_sym (v0_38_e p4)) (own_s4 (own_sym (v0_9_e p0)) (own_sym (v0_16_e p1)) (own_sym (v0_23_e p2)) (own_sym (v0_30_e p3))) := own_cls _ (own_R4 p0 p1 p2 p3 p4)
def a0_107 (S : List Nat) : Int32 := (if (a2_ret (0 : Int32) S) = (0 : Int32) then (if (a2_ret (1 : Int32) S) = (0 : Int32) then (if (a2_ret (2 : Int32) S) = (0 : Int32) then (if (a2_ret (3 : Int32) S) = (0 : Int32) then (if (a2_ret (4 : Int32) S) = (0 : Int32) then (-1 : Int32) else (4 : Int32)) else (3 : Int32)) else (2 : Int32)) else (1 : Int32)) else (0 : Int32))
theorem own_j (p0 p1 p2 p3 p4 : Int32) : v0_107_j p0 p1 p2 p3 p4 = a0_107 [(own_sym (v0_9_e p0)), (own_sym (v0_16_e p1)), (own_sym (v0_23_e p2)), (own_sym (v0_30_e p3)), (own_sym (v0_38_e p4))] := by
  unfold v0_107_j a0_107; simp only [own_a2_ret, List.map]
def own_chk (i : Int32) (S : List Nat) (s : OwnS) : Prop := (s.2.1 - (2 : Int32) = i - (a11_ret i S + (2 : Int32))) ∧ (i - (a11_ret i S + (2 : Int32)) < (1 : Int32) ∨ ((s.2.1 - (2 : Int32)).toNatClampNeg ≥ 1 ∧ s.2.2.2.1 = (a11_ret i S + (2 : Int32)).toNatClampNeg)) ∧ (i - (a11_ret i S + (2 : Int32)) < (2 : Int32) ∨ ((s.2.1 - (2 : Int32)).toNatClampNeg ≥ 2 ∧ s.2.2.2.2 = ((a11_ret i S + (2 : Int32)) + (1 : Int32)).toNatClampNeg))
instance (i : Int32) (S : List Nat) (s : OwnS) : Decidable (own_chk i S s) := by unfold own_chk; infer_instance
def own_T1 (y0 y1 y2 y3 y4 : Nat) : Prop :=
  (own_hit y0 own_init = 0 ∧ own_hit y1 (own_s1 y0) = 0 ∧ ¬ a0_107 [y0, y1, y2, y3, y4] = 0 ∧ ¬ a0_107 [y0, y1, y2, y3, y4] = 1)
def own_T2 (y0 y1 y2 y3 : Nat) : Prop :=
  ((¬ (own_s1 y0).2.1 < 0 ∧ (own_s1 y0).2.1 < 9) ∧ (¬ (own_s2 y0 y1).2.1 < 0 ∧ (own_s2 y0 y1).2.1 < 9) ∧ (¬ (own_s3 y0 y1 y2).2.1 < 0 ∧ (own_s3 y0 y1 y2).2.1 < 9) ∧ (¬ (own_s4 y0 y1 y2 y3).2.1 < 0 ∧ (own_s4 y0 y1 y2 y3).2.1 < 9))
def own_T3 (y0 y1 y2 y3 y4 : Nat) : Prop :=
  (own_hit y2 (own_s2 y0 y1) = 0 → ¬ a0_107 [y0, y1, y2, y3, y4] = 2 ∧ (own_hit y3 (own_s3 y0 y1 y2) = 0 → ¬ a0_107 [y0, y1, y2, y3, y4] = 3 ∧ (own_hit y4 (own_s4 y0 y1 y2 y3) = 0 → ¬ a0_107 [y0, y1, y2, y3, y4] = 4 ∧ (own_s5 y0 y1 y2 y3 y4).1 = (if a9_ret 5 [y0, y1, y2, y3, y4] = 0 then 1 else 0)) ∧ (¬ own_hit y4 (own_s4 y0 y1 y2 y3) = 0 → a0_107 [y0, y1, y2, y3, y4] = 4 ∧ own_chk 4 [y0, y1, y2, y3, y4] (own_s4 y0 y1 y2 y3) ∧ (own_s5 y0 y1 y2 y3 y4).1 = 0)) ∧ (¬ own_hit y3 (own_s3 y0 y1 y2) = 0 → a0_107 [y0, y1, y2, y3, y4] = 3 ∧ own_chk 3 [y0, y1, y2, y3, y4] (own_s3 y0 y1 y2) ∧ (own_s4 y0 y1 y2 y3).1 = 0)) ∧ (¬ own_hit y2 (own_s2 y0 y1) = 0 → a0_107 [y0, y1, y2, y3, y4] = 2 ∧ own_chk 2 [y0, y1, y2, y3, y4] (own_s2 y0 y1) ∧ (own_s3 y0 y1 y2).1 = 0)
def own_T (y0 y1 y2 y3 y4 : Nat) : Prop := own_T1 y0 y1 y2 y3 y4 ∧ own_T2 y0 y1 y2 y3 ∧ own_T3 y0 y1 y2 y3 y4
instance (y0 y1 y2 y3 y4 : Nat) : Decidable (own_T1 y0 y1 y2 y3 y4) := by unfold own_T1; infer_instance
instance (y0 y1 y2 y3 : Nat) : Decidable (own_T2 y0 y1 y2 y3) := by unfold own_T2; infer_instance
instance (y0 y1 y2 y3 y4 : Nat) : Decidable (own_T3 y0 y1 y2 y3 y4) := by unfold own_T3; infer_instance
instance (y0 y1 y2 y3 y4 : Nat) : Decidable (own_T y0 y1 y2 y3 y4) := by unfold own_T; infer_instance
set_option maxRecDepth 65536 in
theorem own_all : ∀ y0 < 5, ∀ y1 < 5, ∀ y2 < 5, ∀ y3 < 5, ∀ y4 < 5, own_T y0 y1 y2 y3 y4 := by decide +kernel
theorem own_sym5 (x : Int32) : own_sym x < 5 := by unfold own_sym; repeat' split
                                                   all_goals decide
theorem own_TT (p0 p1 p2 p3 p4 : Int32) : own_T (own_sym (v0_9_e p0)) (own_sym (v0_16_e p1)) (own_sym (v0_23_e p2)) (own_sym (v0_30_e p3)) (own_sym (v0_38_e p4)) := own_all _ (own_sym5 _) _ (own_sym5 _) _ (own_sym5 _) _ (own_sym5 _) _ (own_sym5 _)
theorem own_TT1 (p0 p1 p2 p3 p4 : Int32) : own_T1 (own_sym (v0_9_e p0)) (own_sym (v0_16_e p1)) (own_sym (v0_23_e p2)) (own_sym (v0_30_e p3)) (own_sym (v0_38_e p4)) := And.left (own_TT p0 p1 p2 p3 p4)
theorem own_TT2 (p0 p1 p2 p3 p4 : Int32) : own_T2 (own_sym (v0_9_e p0)) (own_sym (v0_16_e p1)) (own_sym (v0_23_e p2)) (own_sym (v0_30_e p3)) := And.left (And.right (own_TT p0 p1 p2 p3 p4))
theorem own_TT3 (p0 p1 p2 p3 p4 : Int32) : own_T3 (own_sym (v0_9_e p0)) (own_sym (v0_16_e p1)) (own_sym (v0_23_e p2)) (own_sym (v0_30_e p3)) (own_sym (v0_38_e p4)) := And.right (And.right (own_TT p0 p1 p2 p3 p4))
theorem own_k0 (p0 p1 p2 p3 p4 : Int32) (q : (v6_cls (v0_9_e p0) (0 : Int32) (0 : Int32) (1 : Int32)) = (1 : Int32)) : False := by
  rw [own_c0 p0 p1 p2 p3 p4, (own_TT1 p0 p1 p2 p3 p4).1] at q; exact absurd q (by decide)
theorem own_k1 (p0 p1 p2 p3 p4 : Int32) (q : (v0_195_cls p0 p1) = (1 : Int32)) : False := by
  rw [own_c1 p0 p1 p2 p3 p4, (own_TT1 p0 p1 p2 p3 p4).2.1] at q; exact absurd q (by decide)
theorem own_pos (f p : Int32) (k : Int) (hk : k < 1000) (h : 0 ≤ p.toInt ∧ p.toInt ≤ k) : 0 ≤ (v6_f_position_ra0 f p).toInt ∧ (v6_f_position_ra0 f p).toInt ≤ k + 1 := by
  unfold v6_f_position_ra0; split
  · have a := c_iadd p 1; have r := rng32 (p + 1)
    have z1 : (1 : Int32).toInt = 1 := rfl
    omega
  · omega
theorem own_pne (p : Int32) (h : 0 ≤ p.toInt ∧ p.toInt ≤ 100) : ¬ p = (2048 : Int32) ∧ ¬ (p + (1 : Int32)) = (2048 : Int32) := by
  have z1 : (1 : Int32).toInt = 1 := rfl
  have z2 : (2048 : Int32).toInt = 2048 := rfl
  refine ⟨fun e => ?_, fun e => ?_⟩
  · rw [e] at h; omega
  · have a := c_iadd p 1; have r := rng32 (p + 1); rw [e] at a; omega
theorem own_hll0 (p0 p1 p2 p3 p4 : Int32) : ¬ (0 : Int32) < 0 ∧ (0 : Int32) < (9 : Int32) := by decide
theorem own_po0 (p0 p1 p2 p3 p4 : Int32) : 0 ≤ ((0 : Int32)).toInt ∧ ((0 : Int32)).toInt ≤ 0 := by decide
theorem own_hp0 (p0 p1 p2 p3 p4 : Int32) : ¬ (0 : Int32) = (2048 : Int32) := (own_pne _ ⟨(own_po0 p0 p1 p2 p3 p4).1, Int.le_trans (own_po0 p0 p1 p2 p3 p4).2 (by decide)⟩).1
theorem own_hq0 (p0 p1 p2 p3 p4 : Int32) : ¬ ((0 : Int32) + (1 : Int32)) = (2048 : Int32) := (own_pne _ ⟨(own_po0 p0 p1 p2 p3 p4).1, Int.le_trans (own_po0 p0 p1 p2 p3 p4).2 (by decide)⟩).2
theorem own_hll1 (p0 p1 p2 p3 p4 : Int32) : ¬ (v0_127_f_lineLength p0) < 0 ∧ (v0_127_f_lineLength p0) < (9 : Int32) := by
  rw [(own_R1 p0 p1 p2 p3 p4).2.1]; exact (own_TT2 p0 p1 p2 p3 p4).1
theorem own_po1 (p0 p1 p2 p3 p4 : Int32) : 0 ≤ (v0_127_f_position).toInt ∧ (v0_127_f_position).toInt ≤ 1 := own_pos _ _ 0 (by decide) (own_po0 p0 p1 p2 p3 p4)
theorem own_hp1 (p0 p1 p2 p3 p4 : Int32) : ¬ v0_127_f_position = (2048 : Int32) := (own_pne _ ⟨(own_po1 p0 p1 p2 p3 p4).1, Int.le_trans (own_po1 p0 p1 p2 p3 p4).2 (by decide)⟩).1
theorem own_hq1 (p0 p1 p2 p3 p4 : Int32) : ¬ (v0_127_f_position + (1 : Int32)) = (2048 : Int32) := (own_pne _ ⟨(own_po1 p0 p1 p2 p3 p4).1, Int.le_trans (own_po1 p0 p1 p2 p3 p4).2 (by decide)⟩).2
theorem own_hll2 (p0 p1 p2 p3 p4 : Int32) : ¬ (v0_195_f_lineLength p0 p1) < 0 ∧ (v0_195_f_lineLength p0 p1) < (9 : Int32) := by
  rw [(own_R2 p0 p1 p2 p3 p4).2.1]; exact (own_TT2 p0 p1 p2 p3 p4).2.1
theorem own_po2 (p0 p1 p2 p3 p4 : Int32) : 0 ≤ ((v0_195_f_position p0)).toInt ∧ ((v0_195_f_position p0)).toInt ≤ 2 := own_pos _ _ 1 (by decide) (own_po1 p0 p1 p2 p3 p4)
theorem own_hp2 (p0 p1 p2 p3 p4 : Int32) : ¬ (v0_195_f_position p0) = (2048 : Int32) := (own_pne _ ⟨(own_po2 p0 p1 p2 p3 p4).1, Int.le_trans (own_po2 p0 p1 p2 p3 p4).2 (by decide)⟩).1
theorem own_hq2 (p0 p1 p2 p3 p4 : Int32) : ¬ ((v0_195_f_position p0) + (1 : Int32)) = (2048 : Int32) := (own_pne _ ⟨(own_po2 p0 p1 p2 p3 p4).1, Int.le_trans (own_po2 p0 p1 p2 p3 p4).2 (by decide)⟩).2
theorem own_hll3 (p0 p1 p2 p3 p4 : Int32) : ¬ (v0_265_f_lineLength p0 p1 p2) < 0 ∧ (v0_265_f_lineLength p0 p1 p2) < (9 : Int32) := by
  rw [(own_R3 p0 p1 p2 p3 p4).2.1]; exact (own_TT2 p0 p1 p2 p3 p4).2.2.1
theorem own_po3 (p0 p1 p2 p3 p4 : Int32) : 0 ≤ ((v0_265_f_position p0 p1)).toInt ∧ ((v0_265_f_position p0 p1)).toInt ≤ 3 := own_pos _ _ 2 (by decide) (own_po2 p0 p1 p2 p3 p4)
theorem own_hp3 (p0 p1 p2 p3 p4 : Int32) : ¬ (v0_265_f_position p0 p1) = (2048 : Int32) := (own_pne _ ⟨(own_po3 p0 p1 p2 p3 p4).1, Int.le_trans (own_po3 p0 p1 p2 p3 p4).2 (by decide)⟩).1
theorem own_hq3 (p0 p1 p2 p3 p4 : Int32) : ¬ ((v0_265_f_position p0 p1) + (1 : Int32)) = (2048 : Int32) := (own_pne _ ⟨(own_po3 p0 p1 p2 p3 p4).1, Int.le_trans (own_po3 p0 p1 p2 p3 p4).2 (by decide)⟩).2
theorem own_hll4 (p0 p1 p2 p3 p4 : Int32) : ¬ (v0_335_f_lineLength p0 p1 p2 p3) < 0 ∧ (v0_335_f_lineLength p0 p1 p2 p3) < (9 : Int32) := by
  rw [(own_R4 p0 p1 p2 p3 p4).2.1]; exact (own_TT2 p0 p1 p2 p3 p4).2.2.2
theorem own_po4 (p0 p1 p2 p3 p4 : Int32) : 0 ≤ ((v0_335_f_position p0 p1 p2)).toInt ∧ ((v0_335_f_position p0 p1 p2)).toInt ≤ 4 := own_pos _ _ 3 (by decide) (own_po3 p0 p1 p2 p3 p4)
theorem own_hp4 (p0 p1 p2 p3 p4 : Int32) : ¬ (v0_335_f_position p0 p1 p2) = (2048 : Int32) := (own_pne _ ⟨(own_po4 p0 p1 p2 p3 p4).1, Int.le_trans (own_po4 p0 p1 p2 p3 p4).2 (by decide)⟩).1
theorem own_hq4 (p0 p1 p2 p3 p4 : Int32) : ¬ ((v0_335_f_position p0 p1 p2) + (1 : Int32)) = (2048 : Int32) := (own_pne _ ⟨(own_po4 p0 p1 p2 p3 p4).1, Int.le_trans (own_po4 p0 p1 p2 p3 p4).2 (by decide)⟩).2
theorem own_e0n (p0 p1 p2 p3 p4 : Int32) : ¬ ((v0_107_j p0 p1 p2 p3 p4) = (0 : Int32)) := by
  rw [own_j p0 p1 p2 p3 p4]; exact (own_TT1 p0 p1 p2 p3 p4).2.2.1
theorem own_e1n (p0 p1 p2 p3 p4 : Int32) : ¬ ((v0_107_j p0 p1 p2 p3 p4) = (1 : Int32)) := by
  rw [own_j p0 p1 p2 p3 p4]; exact (own_TT1 p0 p1 p2 p3 p4).2.2.2
theorem own_e2n (p0 p1 p2 p3 p4 : Int32) (h2 : (v0_265_cls p0 p1 p2) = (0 : Int32)) : ¬ ((v0_107_j p0 p1 p2 p3 p4) = (2 : Int32)) := by
  rw [own_j p0 p1 p2 p3 p4]
  have t := own_TT3 p0 p1 p2 p3 p4
  unfold own_T3 at t
  rw [own_c2 p0 p1 p2 p3 p4] at h2; exact (t.1 h2).1
theorem own_x2 (p0 p1 p2 p3 p4 : Int32)  (h2 : ¬ ((v0_265_cls p0 p1 p2) = (0 : Int32))) : a0_107 [(own_sym (v0_9_e p0)), (own_sym (v0_16_e p1)), (own_sym (v0_23_e p2)), (own_sym (v0_30_e p3)), (own_sym (v0_38_e p4))] = 2 ∧ own_chk 2 [(own_sym (v0_9_e p0)), (own_sym (v0_16_e p1)), (own_sym (v0_23_e p2)), (own_sym (v0_30_e p3)), (own_sym (v0_38_e p4))] (own_s2 (own_sym (v0_9_e p0)) (own_sym (v0_16_e p1))) ∧ (own_s3 (own_sym (v0_9_e p0)) (own_sym (v0_16_e p1)) (own_sym (v0_23_e p2))).1 = 0 := by
  have t := own_TT3 p0 p1 p2 p3 p4
  unfold own_T3 at t
  rw [own_c2 p0 p1 p2 p3 p4] at h2; exact t.2 h2
theorem own_e2y (p0 p1 p2 p3 p4 : Int32)  (h2 : ¬ ((v0_265_cls p0 p1 p2) = (0 : Int32))) : (v0_107_j p0 p1 p2 p3 p4) = (2 : Int32) := by
  rw [own_j p0 p1 p2 p3 p4]; exact (own_x2 p0 p1 p2 p3 p4 h2).1
theorem own_e3n (p0 p1 p2 p3 p4 : Int32) (h2 : (v0_265_cls p0 p1 p2) = (0 : Int32)) (h3 : (v0_335_cls p0 p1 p2 p3) = (0 : Int32)) : ¬ ((v0_107_j p0 p1 p2 p3 p4) = (3 : Int32)) := by
  rw [own_j p0 p1 p2 p3 p4]
  have t := own_TT3 p0 p1 p2 p3 p4
  unfold own_T3 at t
  rw [own_c2 p0 p1 p2 p3 p4] at h2; replace t := (t.1 h2).2
  rw [own_c3 p0 p1 p2 p3 p4] at h3; exact (t.1 h3).1
theorem own_x3 (p0 p1 p2 p3 p4 : Int32) (h2 : (v0_265_cls p0 p1 p2) = (0 : Int32)) (h3 : ¬ ((v0_335_cls p0 p1 p2 p3) = (0 : Int32))) : a0_107 [(own_sym (v0_9_e p0)), (own_sym (v0_16_e p1)), (own_sym (v0_23_e p2)), (own_sym (v0_30_e p3)), (own_sym (v0_38_e p4))] = 3 ∧ own_chk 3 [(own_sym (v0_9_e p0)), (own_sym (v0_16_e p1)), (own_sym (v0_23_e p2)), (own_sym (v0_30_e p3)), (own_sym (v0_38_e p4))] (own_s3 (own_sym (v0_9_e p0)) (own_sym (v0_16_e p1)) (own_sym (v0_23_e p2))) ∧ (own_s4 (own_sym (v0_9_e p0)) (own_sym (v0_16_e p1)) (own_sym (v0_23_e p2)) (own_sym (v0_30_e p3))).1 = 0 := by
  have t := own_TT3 p0 p1 p2 p3 p4
  unfold own_T3 at t
  rw [own_c2 p0 p1 p2 p3 p4] at h2; replace t := (t.1 h2).2
  rw [own_c3 p0 p1 p2 p3 p4] at h3; exact t.2 h3
theorem own_e3y (p0 p1 p2 p3 p4 : Int32) (h2 : (v0_265_cls p0 p1 p2) = (0 : Int32)) (h3 : ¬ ((v0_335_cls p0 p1 p2 p3) = (0 : Int32))) : (v0_107_j p0 p1 p2 p3 p4) = (3 : Int32) := by
  rw [own_j p0 p1 p2 p3 p4]; exact (own_x3 p0 p1 p2 p3 p4 h2 h3).1
theorem own_e4n (p0 p1 p2 p3 p4 : Int32) (h2 : (v0_265_cls p0 p1 p2) = (0 : Int32)) (h3 : (v0_335_cls p0 p1 p2 p3) = (0 : Int32)) (h4 : (v0_405_cls p0 p1 p2 p3 p4) = (0 : Int32)) : ¬ ((v0_107_j p0 p1 p2 p3 p4) = (4 : Int32)) := by
  rw [own_j p0 p1 p2 p3 p4]
  have t := own_TT3 p0 p1 p2 p3 p4
  unfold own_T3 at t
  rw [own_c2 p0 p1 p2 p3 p4] at h2; replace t := (t.1 h2).2
  rw [own_c3 p0 p1 p2 p3 p4] at h3; replace t := (t.1 h3).2
  rw [own_c4 p0 p1 p2 p3 p4] at h4; exact (t.1 h4).1
theorem own_x4 (p0 p1 p2 p3 p4 : Int32) (h2 : (v0_265_cls p0 p1 p2) = (0 : Int32)) (h3 : (v0_335_cls p0 p1 p2 p3) = (0 : Int32)) (h4 : ¬ ((v0_405_cls p0 p1 p2 p3 p4) = (0 : Int32))) : a0_107 [(own_sym (v0_9_e p0)), (own_sym (v0_16_e p1)), (own_sym (v0_23_e p2)), (own_sym (v0_30_e p3)), (own_sym (v0_38_e p4))] = 4 ∧ own_chk 4 [(own_sym (v0_9_e p0)), (own_sym (v0_16_e p1)), (own_sym (v0_23_e p2)), (own_sym (v0_30_e p3)), (own_sym (v0_38_e p4))] (own_s4 (own_sym (v0_9_e p0)) (own_sym (v0_16_e p1)) (own_sym (v0_23_e p2)) (own_sym (v0_30_e p3))) ∧ (own_s5 (own_sym (v0_9_e p0)) (own_sym (v0_16_e p1)) (own_sym (v0_23_e p2)) (own_sym (v0_30_e p3)) (own_sym (v0_38_e p4))).1 = 0 := by
  have t := own_TT3 p0 p1 p2 p3 p4
  unfold own_T3 at t
  rw [own_c2 p0 p1 p2 p3 p4] at h2; replace t := (t.1 h2).2
  rw [own_c3 p0 p1 p2 p3 p4] at h3; replace t := (t.1 h3).2
  rw [own_c4 p0 p1 p2 p3 p4] at h4; exact t.2 h4
theorem own_e4y (p0 p1 p2 p3 p4 : Int32) (h2 : (v0_265_cls p0 p1 p2) = (0 : Int32)) (h3 : (v0_335_cls p0 p1 p2 p3) = (0 : Int32)) (h4 : ¬ ((v0_405_cls p0 p1 p2 p3 p4) = (0 : Int32))) : (v0_107_j p0 p1 p2 p3 p4) = (4 : Int32) := by
  rw [own_j p0 p1 p2 p3 p4]; exact (own_x4 p0 p1 p2 p3 p4 h2 h3 h4).1
theorem own_rg (m k : Nat) (f : Nat → Int32) (h : k < m) : ((List.range m).map f).getD k 0 = f k := by
  rw [List.getD_eq_getElem?_getD, List.getElem?_map, List.getElem?_range h]; rfl
theorem own_hits (i : Int32) (X : List Int32) (s : OwnS) (f n b : Int32) (L : List Int32) (R : OwnR X s f n b L) (h : own_chk i (X.map own_sym) s) : v7_ret i (1 : Int32) X (n - (2 : Int32)) (v13_27_L (2 : Int32) n L) = 1 := by
  obtain ⟨rfl, rfl, rfl, hl, h2, h3⟩ := R
  obtain ⟨c1, c2, c3⟩ := h
  have z2 : (2 : Int32).toNatClampNeg = 2 := rfl
  have z1 : (1 : Int32).toNatClampNeg = 1 := rfl
  have z0 : (0 : Int32).toNatClampNeg = 0 := rfl
  rw [← own_a11_ret] at c1 c2 c3
  have k3 : ¬ (i - v7_27_l4 i X < (2 : Int32)) → nar .boolean (v7_73_s0 i X (v13_27_L (2 : Int32) s.2.1 L)) = 1 := by
    intro q; obtain ⟨m, e⟩ := c3.resolve_left q
    have w : v7_66_at (v13_27_L (2 : Int32) s.2.1 L) = v7_72_at i X := by
      unfold v7_66_at v7_72_at v13_27_L v7_27_l4; rw [z1, own_rg _ _ _ (by omega), z2, ← e, ← h3]
    unfold v7_73_s0; rw [if_pos w]; rfl
  have k2 : ¬ (i - v7_27_l4 i X < (1 : Int32)) → v7_50_at (v13_27_L (2 : Int32) s.2.1 L) = v7_54_at i X := by
    intro q; obtain ⟨m, e⟩ := c2.resolve_left q
    unfold v7_50_at v7_54_at v13_27_L v7_27_l4; rw [z0, own_rg _ _ _ (by omega), z2, ← e, ← h2]
  unfold v7_ret
  rw [if_neg (by decide), if_pos (show s.2.1 - (2 : Int32) = i - v7_27_l4 i X from c1)]
  by_cases q1 : i - v7_27_l4 i X < (1 : Int32)
  · rw [if_pos q1]; by_cases q2 : i - v7_27_l4 i X < (2 : Int32)
    · rw [if_pos q2]
    · rw [if_neg q2]; exact k3 q2
  · rw [if_neg q1, if_pos (k2 q1)]; by_cases q2 : i - v7_27_l4 i X < (2 : Int32)
    · rw [if_pos q2]
    · rw [if_neg q2]; exact k3 q2
theorem own_nb (f : Int32) (h : f = 0) : nar .boolean (if (nar .boolean f) = (0 : Int32) then (1 : Int32) else (0 : Int32)) = 1 := by subst h; decide
theorem own_fin (f g : Int32) (h : f = if g = 0 then 1 else 0) : nar .boolean (if (nar .boolean f) = (if g = (0 : Int32) then (1 : Int32) else (0 : Int32)) then (1 : Int32) else (0 : Int32)) = 1 := by
  subst h; by_cases c : g = 0
  · simp only [c, if_true]; decide
  · simp only [c, if_false]; decide
theorem own_law (p0 p1 p2 p3 p4 : Int32) : v0_ret p0 p1 p2 p3 p4 = 1 := by
  unfold v0_ret
  by_cases h2 : (v0_265_cls p0 p1 p2) = (0 : Int32)
  rotate_left
  · obtain ⟨-, u, v⟩ := own_x2 p0 p1 p2 p3 p4 h2
    rw [if_neg h2, own_hits 2 _ _ _ _ _ _ (own_R2 p0 p1 p2 p3 p4) u, if_neg (by decide)]; unfold v0_320_s0; exact own_nb _ ((own_R3 p0 p1 p2 p3 p4).1.trans v)
  rw [if_pos h2]
  by_cases h3 : (v0_335_cls p0 p1 p2 p3) = (0 : Int32)
  rotate_left
  · obtain ⟨-, u, v⟩ := own_x3 p0 p1 p2 p3 p4 h2 h3
    rw [if_neg h3, own_hits 3 _ _ _ _ _ _ (own_R3 p0 p1 p2 p3 p4) u, if_neg (by decide)]; unfold v0_390_s0; exact own_nb _ ((own_R4 p0 p1 p2 p3 p4).1.trans v)
  rw [if_pos h3]
  by_cases h4 : (v0_405_cls p0 p1 p2 p3 p4) = (0 : Int32)
  rotate_left
  · obtain ⟨-, u, v⟩ := own_x4 p0 p1 p2 p3 p4 h2 h3 h4
    rw [if_neg h4, own_hits 4 _ _ _ _ _ _ (own_R4 p0 p1 p2 p3 p4) u, if_neg (by decide)]; unfold v0_460_s0; exact own_nb _ ((own_R5 p0 p1 p2 p3 p4).1.trans v)
  rw [if_pos h4]
  unfold v0_493_s0 v0_485_s0; apply own_fin; rw [(own_R5 p0 p1 p2 p3 p4).1, own_a9_ret]
  have t := own_TT3 p0 p1 p2 p3 p4
  unfold own_T3 at t
  rw [own_c2 p0 p1 p2 p3 p4] at h2; replace t := (t.1 h2).2
  rw [own_c3 p0 p1 p2 p3 p4] at h3; replace t := (t.1 h3).2
  rw [own_c4 p0 p1 p2 p3 p4] at h4; replace t := (t.1 h4).2
  exact t
theorem ef_rm0 (m : MethodId) (p0 : Int32) (p1 : Int32) (p2 : Int32) (p3 : Int32) (p4 : Int32) : entryFrame m #[(.int p0), (.int p1), (.int p2), (.int p3), (.int p4)] maxLocals = mkF m 0 #[iv p0, iv p1, iv p2, iv p3, iv p4, .unset, .unset, .unset, .unset, .unset] [] := by first | (simp [entryFrame, mkF, argsToLocals, Value.category, maxLocals]; done) | rfl
def Q0 (Z : State) (p0 : Int32) (p1 : Int32) (p2 : Int32) (p3 : Int32) (p4 : Int32) (h0 : Heap) (n0 : Nat) (v : Option Value) (h : Heap) (L : List Loc) : Prop := v = some (.int 1) ∧ Fr n0 L
set_option maxRecDepth 65536 in
set_option maxHeartbeats 40000000 in
theorem rm0 (l : Launch) (Z : State) (a0 : Array Value) (hw : ∀ d ∈ tables_1, d.before a0 Z = true) (ws : List Jvm.Cond) (p0 : Int32) (p1 : Int32) (p2 : Int32) (p3 : Int32) (p4 : Int32) (h0 : Heap) (n0 : Nat) (Z0 : n0 ≤ h0.size) :
    MetFree l x (head1 (Jvm.Cond.code x code maxLocals ret :: ws) room_1) (fun a U => a = #[(.int p0), (.int p1), (.int p2), (.int p3), (.int p4)] ∧ Z.Warmed39 U.vm ∧ U.heap = h0) (fun _ _ _ _ _ => True) (fun _ U o U' => ∃ v L, o = .returned v ∧ Q0 Z p0 p1 p2 p3 p4 h0 n0 v U'.heap L ∧ FrameEnd U o U' L room_1.cells room_1.slots) := by
  refine MetFree.of_bodySF (plainFor_of_name pn_48) hisR ?_
  intro p e s m args below meth c s₁ Bd hml0 hP hK
  obtain ⟨rfl, hZ, hh⟩ := hP
  have hx := Bd.exec
  have hlk : meth.locks = false := by first | exact BodyLoose.notSynchronized Bd | exact Body.notSynchronized Bd
  have hby := Bd.bytes
  have hml : c.maxLocals = 10 := hml0
  have hown : s.vm.findClass cLw = some m.cls := findClass_of_methodNamed Bd.named
  have hnm := (name_of_methodNamed Bd.named Bd.method).1
  have X0 : Stand p l e room_1 s m #[(.int p0), (.int p1), (.int p2), (.int p3), (.int p4)] below meth c s₁ [] 0 0 := Stand.of_body Bd
  have e0 : s₁.heap = h0 := by rw [← hh, Bd.state]; rfl
  have N0 := Fr.nil n0
  have KC0 := Keep.refl h0 ([] : List Addr)
  have pre0 : ∀ t, Steps p.tables e below (s₁.setTop (mkF m 0 #[iv p0, iv p1, iv p2, iv p3, iv p4, .unset, .unset, .unset, .unset, .unset] [])) t → Steps p.tables e below (s₁.setTop (entryFrame m #[(.int p0), (.int p1), (.int p2), (.int p3), (.int p4)] maxLocals)) t := fun t k => castTop (ef_rm0 m p0 p1 p2 p3 p4) k
  have k852 := fun (t : State) (kk : Steps p.tables e below (s₁.setTop (mkF m 1 #[iv p0, iv p1, iv p2, iv p3, iv p4, .unset, .unset, .unset, .unset, .unset] [(.int 5)])) t) => pre0 t (by
    refine XS.iconst X0.here hx rfl (hb hby at_0) ?_
    exact kk)
  obtain ⟨T853, h853, k853, X853, e853, E853, A853, st853⟩ := newP X0 hx hZ (hw _ (List.mem_of_getElem? (i := 0) rfl)) e0 (g := (mkF m 1 #[iv p0, iv p1, iv p2, iv p3, iv p4, .unset, .unset, .unset, .unset, .unset] [(.int 5)])) rfl (hb hby at_1) rfl (by decide) (cap := 5) (by decide) (by decide) (by decide) (by decide)
  obtain ⟨b853, g853⟩ : ∃ z, z = h0.size := ⟨_, rfl⟩
  rw [← g853] at A853 st853
  have g_b853 : n0 ≤ b853 := Nat.le_trans (Nat.le_trans Z0 KC0.1) (Nat.le_of_eq g853.symm)
  have sz_b853 : h0.size ≤ b853 := Nat.le_trans KC0.1 (Nat.le_of_eq g853.symm)
  have K853 : Keep h0 h853 [] := KC0.ext E853
  have V853 : Arv Z h853 b853 k853 .byte (5 : Int32) (List.map Value.int ([(0 : Int32), (0 : Int32), (0 : Int32), (0 : Int32), (0 : Int32)] : List Int32)) (.int 0) := (Arv.new A853 (by decide)).pad (pad_rep [] (.int 0) 5)
  have VL853 : ([(0 : Int32), (0 : Int32), (0 : Int32), (0 : Int32), (0 : Int32)] : List Int32).length = ((5 : Int32)).toNatClampNeg := rfl
  have k854 := fun (t : State) (kk : Steps p.tables e below (T853.setTop (mkF m 3 #[iv p0, iv p1, iv p2, iv p3, iv p4, .unset, .unset, .unset, .unset, .unset] [(.ref b853)])) t) => k852 t (st853 _ kk)
  have k855 := fun (t : State) (kk : Steps p.tables e below (T853.setTop (mkF m 6 #[iv p0, iv p1, iv p2, iv p3, iv p4, .unset, .unset, .unset, .unset, .unset] [(.int p0), (.int 0), (.ref b853), (.ref b853)])) t) => k854 t (by
    refine XS.dup X853.here hx rfl (hb hby at_3) rfl rfl ?_
    refine XS.iconst X853.here hx rfl (hb hby at_4) ?_
    refine XS.iloadN X853.here hx rfl (hb hby at_5) rfl ?_
    exact kk)
  have Zz856 : n0 ≤ h853.size := (Nat.le_trans Z0 K853.1)
  obtain ⟨_, _, ⟨T856, L856, k856, n856⟩, -, X856, ⟨Lc856, hQ856, l856, y856, z856⟩, st856⟩ := Jvm.LawKit.callS X853 hx (y := (⟨cLw, "pick", "(I)B"⟩ : MethodName)) hown (mvT hZ (hw _ (List.mem_of_getElem? (i := 1) rfl))) (mvT hZ (hw _ (List.mem_of_getElem? (i := 2) rfl))) (mvT hZ (hw _ (List.mem_of_getElem? (i := 3) rfl))) (mvT hZ (hw _ (List.mem_of_getElem? (i := 4) rfl))) (by decide) (backOf (W := 3) (rm1 l Z a0 hw [] p0 h853 n0 Zz856) hZ (hw _ (List.mem_of_getElem? (i := 4) rfl)) (hw _ (List.mem_of_getElem? (i := 3) rfl)) (by decide) (by decide)) (g := (mkF m 6 #[iv p0, iv p1, iv p2, iv p3, iv p4, .unset, .unset, .unset, .unset, .unset] [(.int p0), (.int 0), (.ref b853), (.ref b853)])) rfl (by rw [hml]; rfl) (argsL := [(.int p0)]) (rest := [(.int 0), (.ref b853), (.ref b853)]) (lenOf pd_6 rfl) rfl (by show 2 * 0 + _ ≤ _; exact Nat.le_of_eq rfl) (hb hby at_6) (fun _ _ => ⟨rfl, e853, (by decide : 1 + 0 ≤ _), (by decide : 5 + 0 ≤ _)⟩)
  dsimp only [Pt.U, Pt.locs, Pt.cells, Pt.slots] at X856 l856 y856 z856 st856 hQ856
  subst l856 y856 z856
  obtain ⟨rfl, N856q, e856⟩ := hQ856
  have N856 := Fr.app N0 N856q
  have k857 := fun (t : State) (kk : Steps p.tables e below (T856.setTop (mkF m 9 #[iv p0, iv p1, iv p2, iv p3, iv p4, .unset, .unset, .unset, .unset, .unset] [(.int (v1_ret p0)), (.int 0), (.ref b853), (.ref b853)])) t) => k855 t (st856 _ kk)
  have hV858 := V853
  obtain ⟨cl858, Ar858, q858, S858, Nn858, H858, G858⟩ := hV858
  have hb859 : ¬ (0 : Int32) < 0 ∧ (0 : Int32) < (5 : Int32) := ⟨by decide, by decide⟩
  have hin859 : ¬ ((0 : Int32) < 0 ∨ cl858.slots.size ≤ ((0 : Int32)).toNatClampNeg) := inb_of S858 hb859
  obtain ⟨T859, h859, X859, e859, W859, st859⟩ := stB X856 hx hZ e856 Ar858 (j := (0 : Int32)) hin859 (g := (mkF m 9 #[iv p0, iv p1, iv p2, iv p3, iv p4, .unset, .unset, .unset, .unset, .unset] [(.int (v1_ret p0)), (.int 0), (.ref b853), (.ref b853)])) rfl rfl (hb hby at_9)
  have V859 : Arv Z h859 b853 k853 .byte (5 : Int32) (List.map Value.int ([(v0_9_e p0), (0 : Int32), (0 : Int32), (0 : Int32), (0 : Int32)] : List Int32)) (.int 0) := Arv.set Ar858 q858 S858 Nn858 H858 G858 (fits_nar_byte _) W859 0 rfl (Nat.le_of_ble_eq_true rfl)
  have VL859 : ([(v0_9_e p0), (0 : Int32), (0 : Int32), (0 : Int32), (0 : Int32)] : List Int32).length = ((5 : Int32)).toNatClampNeg := rfl
  have K859 : Keep h0 h859 [] := K853.wr W859 (Or.inr sz_b853)
  have N859 := Fr.snoc X859 N856 g_b853
  have k860 := fun (t : State) (kk : Steps p.tables e below (T859.setTop (mkF m 10 #[iv p0, iv p1, iv p2, iv p3, iv p4, .unset, .unset, .unset, .unset, .unset] [(.ref b853)])) t) => k857 t (st859 _ kk)
  have k861 := fun (t : State) (kk : Steps p.tables e below (T859.setTop (mkF m 13 #[iv p0, iv p1, iv p2, iv p3, iv p4, .unset, .unset, .unset, .unset, .unset] [(.int p1), (.int 1), (.ref b853), (.ref b853)])) t) => k860 t (by
    refine XS.dup X859.here hx rfl (hb hby at_10) rfl rfl ?_
    refine XS.iconst X859.here hx rfl (hb hby at_11) ?_
    refine XS.iloadN X859.here hx rfl (hb hby at_12) rfl ?_
    exact kk)
  have Zz862 : n0 ≤ h859.size := (Nat.le_trans Z0 K859.1)
  obtain ⟨_, _, ⟨T862, L862, k862, n862⟩, -, X862, ⟨Lc862, hQ862, l862, y862, z862⟩, st862⟩ := Jvm.LawKit.callS X859 hx (y := (⟨cLw, "pick", "(I)B"⟩ : MethodName)) hown (mvT hZ (hw _ (List.mem_of_getElem? (i := 1) rfl))) (mvT hZ (hw _ (List.mem_of_getElem? (i := 2) rfl))) (mvT hZ (hw _ (List.mem_of_getElem? (i := 3) rfl))) (mvT hZ (hw _ (List.mem_of_getElem? (i := 4) rfl))) (by decide) (backOf (W := 3) (rm1 l Z a0 hw [] p1 h859 n0 Zz862) hZ (hw _ (List.mem_of_getElem? (i := 4) rfl)) (hw _ (List.mem_of_getElem? (i := 3) rfl)) (by decide) (by decide)) (g := (mkF m 13 #[iv p0, iv p1, iv p2, iv p3, iv p4, .unset, .unset, .unset, .unset, .unset] [(.int p1), (.int 1), (.ref b853), (.ref b853)])) rfl (by rw [hml]; rfl) (argsL := [(.int p1)]) (rest := [(.int 1), (.ref b853), (.ref b853)]) (lenOf pd_6 rfl) rfl (by show 2 * 0 + _ ≤ _; exact Nat.le_of_eq rfl) (hb hby at_13) (fun _ _ => ⟨rfl, e859, (by decide : 1 + 0 ≤ _), (by decide : 5 + 0 ≤ _)⟩)
  dsimp only [Pt.U, Pt.locs, Pt.cells, Pt.slots] at X862 l862 y862 z862 st862 hQ862
  subst l862 y862 z862
  obtain ⟨rfl, N862q, e862⟩ := hQ862
  have N862 := Fr.app N859 N862q
  have k863 := fun (t : State) (kk : Steps p.tables e below (T862.setTop (mkF m 16 #[iv p0, iv p1, iv p2, iv p3, iv p4, .unset, .unset, .unset, .unset, .unset] [(.int (v1_ret p1)), (.int 1), (.ref b853), (.ref b853)])) t) => k861 t (st862 _ kk)
  have hV864 := V859
  obtain ⟨cl864, Ar864, q864, S864, Nn864, H864, G864⟩ := hV864
  have hb865 : ¬ (1 : Int32) < 0 ∧ (1 : Int32) < (5 : Int32) := ⟨by decide, by decide⟩
  have hin865 : ¬ ((1 : Int32) < 0 ∨ cl864.slots.size ≤ ((1 : Int32)).toNatClampNeg) := inb_of S864 hb865
  obtain ⟨T865, h865, X865, e865, W865, st865⟩ := stB X862 hx hZ e862 Ar864 (j := (1 : Int32)) hin865 (g := (mkF m 16 #[iv p0, iv p1, iv p2, iv p3, iv p4, .unset, .unset, .unset, .unset, .unset] [(.int (v1_ret p1)), (.int 1), (.ref b853), (.ref b853)])) rfl rfl (hb hby at_16)
  have V865 : Arv Z h865 b853 k853 .byte (5 : Int32) (List.map Value.int ([(v0_9_e p0), (v0_16_e p1), (0 : Int32), (0 : Int32), (0 : Int32)] : List Int32)) (.int 0) := Arv.set Ar864 q864 S864 Nn864 H864 G864 (fits_nar_byte _) W865 1 rfl (Nat.le_of_ble_eq_true rfl)
  have VL865 : ([(v0_9_e p0), (v0_16_e p1), (0 : Int32), (0 : Int32), (0 : Int32)] : List Int32).length = ((5 : Int32)).toNatClampNeg := rfl
  have K865 : Keep h0 h865 [] := K859.wr W865 (Or.inr sz_b853)
  have N865 := Fr.snoc X865 N862 g_b853
  have k866 := fun (t : State) (kk : Steps p.tables e below (T865.setTop (mkF m 17 #[iv p0, iv p1, iv p2, iv p3, iv p4, .unset, .unset, .unset, .unset, .unset] [(.ref b853)])) t) => k863 t (st865 _ kk)
  have k867 := fun (t : State) (kk : Steps p.tables e below (T865.setTop (mkF m 20 #[iv p0, iv p1, iv p2, iv p3, iv p4, .unset, .unset, .unset, .unset, .unset] [(.int p2), (.int 2), (.ref b853), (.ref b853)])) t) => k866 t (by
    refine XS.dup X865.here hx rfl (hb hby at_17) rfl rfl ?_
    refine XS.iconst X865.here hx rfl (hb hby at_18) ?_
    show Steps p.tables e below (T865.setTop (mkF m 19 #[iv p0, iv p1, iv p2, iv p3, iv p4, .unset, .unset, .unset, .unset, .unset] [(.int 2), (.ref b853), (.ref b853)])) _
    refine XS.iloadN X865.here hx rfl (hb hby at_19) rfl ?_
    exact kk)
  have Zz868 : n0 ≤ h865.size := (Nat.le_trans Z0 K865.1)
  obtain ⟨_, _, ⟨T868, L868, k868, n868⟩, -, X868, ⟨Lc868, hQ868, l868, y868, z868⟩, st868⟩ := Jvm.LawKit.callS X865 hx (y := (⟨cLw, "pick", "(I)B"⟩ : MethodName)) hown (mvT hZ (hw _ (List.mem_of_getElem? (i := 1) rfl))) (mvT hZ (hw _ (List.mem_of_getElem? (i := 2) rfl))) (mvT hZ (hw _ (List.mem_of_getElem? (i := 3) rfl))) (mvT hZ (hw _ (List.mem_of_getElem? (i := 4) rfl))) (by decide) (backOf (W := 3) (rm1 l Z a0 hw [] p2 h865 n0 Zz868) hZ (hw _ (List.mem_of_getElem? (i := 4) rfl)) (hw _ (List.mem_of_getElem? (i := 3) rfl)) (by decide) (by decide)) (g := (mkF m 20 #[iv p0, iv p1, iv p2, iv p3, iv p4, .unset, .unset, .unset, .unset, .unset] [(.int p2), (.int 2), (.ref b853), (.ref b853)])) rfl (by rw [hml]; rfl) (argsL := [(.int p2)]) (rest := [(.int 2), (.ref b853), (.ref b853)]) (lenOf pd_6 rfl) rfl (by show 2 * 0 + _ ≤ _; exact Nat.le_of_eq rfl) (hb hby at_20) (fun _ _ => ⟨rfl, e865, (by decide : 1 + 0 ≤ _), (by decide : 5 + 0 ≤ _)⟩)
  dsimp only [Pt.U, Pt.locs, Pt.cells, Pt.slots] at X868 l868 y868 z868 st868 hQ868
  subst l868 y868 z868
  obtain ⟨rfl, N868q, e868⟩ := hQ868
  have N868 := Fr.app N865 N868q
  have k869 := fun (t : State) (kk : Steps p.tables e below (T868.setTop (mkF m 23 #[iv p0, iv p1, iv p2, iv p3, iv p4, .unset, .unset, .unset, .unset, .unset] [(.int (v1_ret p2)), (.int 2), (.ref b853), (.ref b853)])) t) => k867 t (st868 _ kk)
  have hV870 := V865
  obtain ⟨cl870, Ar870, q870, S870, Nn870, H870, G870⟩ := hV870
  have hb871 : ¬ (2 : Int32) < 0 ∧ (2 : Int32) < (5 : Int32) := ⟨by decide, by decide⟩
  have hin871 : ¬ ((2 : Int32) < 0 ∨ cl870.slots.size ≤ ((2 : Int32)).toNatClampNeg) := inb_of S870 hb871
  obtain ⟨T871, h871, X871, e871, W871, st871⟩ := stB X868 hx hZ e868 Ar870 (j := (2 : Int32)) hin871 (g := (mkF m 23 #[iv p0, iv p1, iv p2, iv p3, iv p4, .unset, .unset, .unset, .unset, .unset] [(.int (v1_ret p2)), (.int 2), (.ref b853), (.ref b853)])) rfl rfl (hb hby at_23)
  have V871 : Arv Z h871 b853 k853 .byte (5 : Int32) (List.map Value.int ([(v0_9_e p0), (v0_16_e p1), (v0_23_e p2), (0 : Int32), (0 : Int32)] : List Int32)) (.int 0) := Arv.set Ar870 q870 S870 Nn870 H870 G870 (fits_nar_byte _) W871 2 rfl (Nat.le_of_ble_eq_true rfl)
  have VL871 : ([(v0_9_e p0), (v0_16_e p1), (v0_23_e p2), (0 : Int32), (0 : Int32)] : List Int32).length = ((5 : Int32)).toNatClampNeg := rfl
  have K871 : Keep h0 h871 [] := K865.wr W871 (Or.inr sz_b853)
  have N871 := Fr.snoc X871 N868 g_b853
  have k872 := fun (t : State) (kk : Steps p.tables e below (T871.setTop (mkF m 24 #[iv p0, iv p1, iv p2, iv p3, iv p4, .unset, .unset, .unset, .unset, .unset] [(.ref b853)])) t) => k869 t (st871 _ kk)
  have k873 := fun (t : State) (kk : Steps p.tables e below (T871.setTop (mkF m 27 #[iv p0, iv p1, iv p2, iv p3, iv p4, .unset, .unset, .unset, .unset, .unset] [(.int p3), (.int 3), (.ref b853), (.ref b853)])) t) => k872 t (by
    refine XS.dup X871.here hx rfl (hb hby at_24) rfl rfl ?_
    refine XS.iconst X871.here hx rfl (hb hby at_25) ?_
    refine XS.iloadN X871.here hx rfl (hb hby at_26) rfl ?_
    exact kk)
  have Zz874 : n0 ≤ h871.size := (Nat.le_trans Z0 K871.1)
  obtain ⟨_, _, ⟨T874, L874, k874, n874⟩, -, X874, ⟨Lc874, hQ874, l874, y874, z874⟩, st874⟩ := Jvm.LawKit.callS X871 hx (y := (⟨cLw, "pick", "(I)B"⟩ : MethodName)) hown (mvT hZ (hw _ (List.mem_of_getElem? (i := 1) rfl))) (mvT hZ (hw _ (List.mem_of_getElem? (i := 2) rfl))) (mvT hZ (hw _ (List.mem_of_getElem? (i := 3) rfl))) (mvT hZ (hw _ (List.mem_of_getElem? (i := 4) rfl))) (by decide) (backOf (W := 3) (rm1 l Z a0 hw [] p3 h871 n0 Zz874) hZ (hw _ (List.mem_of_getElem? (i := 4) rfl)) (hw _ (List.mem_of_getElem? (i := 3) rfl)) (by decide) (by decide)) (g := (mkF m 27 #[iv p0, iv p1, iv p2, iv p3, iv p4, .unset, .unset, .unset, .unset, .unset] [(.int p3), (.int 3), (.ref b853), (.ref b853)])) rfl (by rw [hml]; rfl) (argsL := [(.int p3)]) (rest := [(.int 3), (.ref b853), (.ref b853)]) (lenOf pd_6 rfl) rfl (by show 2 * 0 + _ ≤ _; exact Nat.le_of_eq rfl) (hb hby at_27) (fun _ _ => ⟨rfl, e871, (by decide : 1 + 0 ≤ _), (by decide : 5 + 0 ≤ _)⟩)
  dsimp only [Pt.U, Pt.locs, Pt.cells, Pt.slots] at X874 l874 y874 z874 st874 hQ874
  subst l874 y874 z874
  obtain ⟨rfl, N874q, e874⟩ := hQ874
  have N874 := Fr.app N871 N874q
  have k875 := fun (t : State) (kk : Steps p.tables e below (T874.setTop (mkF m 30 #[iv p0, iv p1, iv p2, iv p3, iv p4, .unset, .unset, .unset, .unset, .unset] [(.int (v1_ret p3)), (.int 3), (.ref b853), (.ref b853)])) t) => k873 t (st874 _ kk)
  have hV876 := V871
  obtain ⟨cl876, Ar876, q876, S876, Nn876, H876, G876⟩ := hV876
  have hb877 : ¬ (3 : Int32) < 0 ∧ (3 : Int32) < (5 : Int32) := ⟨by decide, by decide⟩
  have hin877 : ¬ ((3 : Int32) < 0 ∨ cl876.slots.size ≤ ((3 : Int32)).toNatClampNeg) := inb_of S876 hb877
  obtain ⟨T877, h877, X877, e877, W877, st877⟩ := stB X874 hx hZ e874 Ar876 (j := (3 : Int32)) hin877 (g := (mkF m 30 #[iv p0, iv p1, iv p2, iv p3, iv p4, .unset, .unset, .unset, .unset, .unset] [(.int (v1_ret p3)), (.int 3), (.ref b853), (.ref b853)])) rfl rfl (hb hby at_30)
  have V877 : Arv Z h877 b853 k853 .byte (5 : Int32) (List.map Value.int ([(v0_9_e p0), (v0_16_e p1), (v0_23_e p2), (v0_30_e p3), (0 : Int32)] : List Int32)) (.int 0) := Arv.set Ar876 q876 S876 Nn876 H876 G876 (fits_nar_byte _) W877 3 rfl (Nat.le_of_ble_eq_true rfl)
  have VL877 : ([(v0_9_e p0), (v0_16_e p1), (v0_23_e p2), (v0_30_e p3), (0 : Int32)] : List Int32).length = ((5 : Int32)).toNatClampNeg := rfl
  have K877 : Keep h0 h877 [] := K871.wr W877 (Or.inr sz_b853)
  have N877 := Fr.snoc X877 N874 g_b853
  have k878 := fun (t : State) (kk : Steps p.tables e below (T877.setTop (mkF m 31 #[iv p0, iv p1, iv p2, iv p3, iv p4, .unset, .unset, .unset, .unset, .unset] [(.ref b853)])) t) => k875 t (st877 _ kk)
  have k879 := fun (t : State) (kk : Steps p.tables e below (T877.setTop (mkF m 35 #[iv p0, iv p1, iv p2, iv p3, iv p4, .unset, .unset, .unset, .unset, .unset] [(.int p4), (.int 4), (.ref b853), (.ref b853)])) t) => k878 t (by
    refine XS.dup X877.here hx rfl (hb hby at_31) rfl rfl ?_
    refine XS.iconst X877.here hx rfl (hb hby at_32) ?_
    refine XS.iload X877.here hx rfl (hb hby at_33) rfl ?_
    exact kk)
  have Zz880 : n0 ≤ h877.size := (Nat.le_trans Z0 K877.1)
  obtain ⟨_, _, ⟨T880, L880, k880, n880⟩, -, X880, ⟨Lc880, hQ880, l880, y880, z880⟩, st880⟩ := Jvm.LawKit.callS X877 hx (y := (⟨cLw, "pick", "(I)B"⟩ : MethodName)) hown (mvT hZ (hw _ (List.mem_of_getElem? (i := 1) rfl))) (mvT hZ (hw _ (List.mem_of_getElem? (i := 2) rfl))) (mvT hZ (hw _ (List.mem_of_getElem? (i := 3) rfl))) (mvT hZ (hw _ (List.mem_of_getElem? (i := 4) rfl))) (by decide) (backOf (W := 3) (rm1 l Z a0 hw [] p4 h877 n0 Zz880) hZ (hw _ (List.mem_of_getElem? (i := 4) rfl)) (hw _ (List.mem_of_getElem? (i := 3) rfl)) (by decide) (by decide)) (g := (mkF m 35 #[iv p0, iv p1, iv p2, iv p3, iv p4, .unset, .unset, .unset, .unset, .unset] [(.int p4), (.int 4), (.ref b853), (.ref b853)])) rfl (by rw [hml]; rfl) (argsL := [(.int p4)]) (rest := [(.int 4), (.ref b853), (.ref b853)]) (lenOf pd_6 rfl) rfl (by show 2 * 0 + _ ≤ _; exact Nat.le_of_eq rfl) (hb hby at_35) (fun _ _ => ⟨rfl, e877, (by decide : 1 + 0 ≤ _), (by decide : 5 + 0 ≤ _)⟩)
  dsimp only [Pt.U, Pt.locs, Pt.cells, Pt.slots] at X880 l880 y880 z880 st880 hQ880
  subst l880 y880 z880
  obtain ⟨rfl, N880q, e880⟩ := hQ880
  have N880 := Fr.app N877 N880q
  have k881 := fun (t : State) (kk : Steps p.tables e below (T880.setTop (mkF m 38 #[iv p0, iv p1, iv p2, iv p3, iv p4, .unset, .unset, .unset, .unset, .unset] [(.int (v1_ret p4)), (.int 4), (.ref b853), (.ref b853)])) t) => k879 t (st880 _ kk)
  have hV882 := V877
  obtain ⟨cl882, Ar882, q882, S882, Nn882, H882, G882⟩ := hV882
  have hb883 : ¬ (4 : Int32) < 0 ∧ (4 : Int32) < (5 : Int32) := ⟨by decide, by decide⟩
  have hin883 : ¬ ((4 : Int32) < 0 ∨ cl882.slots.size ≤ ((4 : Int32)).toNatClampNeg) := inb_of S882 hb883
  obtain ⟨T883, h883, X883, e883, W883, st883⟩ := stB X880 hx hZ e880 Ar882 (j := (4 : Int32)) hin883 (g := (mkF m 38 #[iv p0, iv p1, iv p2, iv p3, iv p4, .unset, .unset, .unset, .unset, .unset] [(.int (v1_ret p4)), (.int 4), (.ref b853), (.ref b853)])) rfl rfl (hb hby at_38)
  have V883 : Arv Z h883 b853 k853 .byte (5 : Int32) (List.map Value.int ([(v0_9_e p0), (v0_16_e p1), (v0_23_e p2), (v0_30_e p3), (v0_38_e p4)] : List Int32)) (.int 0) := Arv.set Ar882 q882 S882 Nn882 H882 G882 (fits_nar_byte _) W883 4 rfl (Nat.le_of_ble_eq_true rfl)
  have VL883 : ([(v0_9_e p0), (v0_16_e p1), (v0_23_e p2), (v0_30_e p3), (v0_38_e p4)] : List Int32).length = ((5 : Int32)).toNatClampNeg := rfl
  have K883 : Keep h0 h883 [] := K877.wr W883 (Or.inr sz_b853)
  have N883 := Fr.snoc X883 N880 g_b853
  have k884 := fun (t : State) (kk : Steps p.tables e below (T883.setTop (mkF m 39 #[iv p0, iv p1, iv p2, iv p3, iv p4, .unset, .unset, .unset, .unset, .unset] [(.ref b853)])) t) => k881 t (st883 _ kk)
  have k885 := fun (t : State) (kk : Steps p.tables e below (T883.setTop (mkF m 41 #[iv p0, iv p1, iv p2, iv p3, iv p4, rv b853, .unset, .unset, .unset, .unset] [])) t) => k884 t (by
    refine XS.astore X883.here hx rfl (hb hby at_39) rfl rfl (l' := #[iv p0, iv p1, iv p2, iv p3, iv p4, rv b853, .unset, .unset, .unset, .unset]) rfl ?_
    exact kk)
  have join886 : ∀ (LL : List Loc) (NL : Fr n0 LL) (TL : State) (XL : Stand p l e room_1 s m #[(.int p0), (.int p1), (.int p2), (.int p3), (.int p4)] below meth c TL LL 1 5) (eL : TL.heap = h883) (kL : ∀ t, Steps p.tables e below (TL.setTop (mkF m 107 #[iv p0, iv p1, iv p2, iv p3, iv p4, rv b853, .unset, .unset, .unset, .unset] [(.int (v0_107_j p0 p1 p2 p3 p4))])) t → Steps p.tables e below (s₁.setTop (entryFrame m #[(.int p0), (.int p1), (.int p2), (.int p3), (.int p4)] maxLocals)) t), ∃ (s₂ : State) (o : Outcome), Steps p.tables e below (s₁.setTop (entryFrame m #[(.int p0), (.int p1), (.int p2), (.int p3), (.int p4)] maxLocals)) s₂ ∧ s₂.status = .running ∧ Ended s₂ below o ∧ ∃ v L, o = .returned v ∧ Q0 Z p0 p1 p2 p3 p4 h0 n0 v s₂.heap L ∧ FrameEnd s o s₂ L room_1.cells room_1.slots := by
    intro LL NL TL XL eL kL
    have k887 := fun (t : State) (kk : Steps p.tables e below (TL.setTop (mkF m 109 #[iv p0, iv p1, iv p2, iv p3, iv p4, rv b853, iv (v0_107_j p0 p1 p2 p3 p4), .unset, .unset, .unset] [])) t) => kL t (by
      refine XS.istore XL.here hx rfl (hb hby at_107) rfl (l' := #[iv p0, iv p1, iv p2, iv p3, iv p4, rv b853, iv (v0_107_j p0 p1 p2 p3 p4), .unset, .unset, .unset]) rfl ?_
      exact kk)
    obtain ⟨T888, h888, X888, e888, E888, A888, D888, -, st888⟩ := newO XL hx hZ hown (hw _ (List.mem_of_getElem? (i := 11) rfl)) (hw _ (List.mem_of_getElem? (i := 12) rfl)) (hw _ (List.mem_of_getElem? (i := 13) rfl)) eL (g := (mkF m 109 #[iv p0, iv p1, iv p2, iv p3, iv p4, rv b853, iv (v0_107_j p0 p1 p2 p3 p4), .unset, .unset, .unset] [])) rfl (hb hby at_109) (by decide) (by decide)
    obtain ⟨b888, g888⟩ : ∃ z, z = h883.size := ⟨_, rfl⟩
    rw [← g888] at A888 D888 st888
    have ne_b853_b888 : b853 ≠ b888 := Nat.ne_of_lt (Nat.lt_of_lt_of_le V883.lt (Nat.le_of_eq g888.symm))
    have g_b888 : n0 ≤ b888 := Nat.le_trans (Nat.le_trans Z0 K883.1) (Nat.le_of_eq g888.symm)
    have sz_b888 : h0.size ≤ b888 := Nat.le_trans K883.1 (Nat.le_of_eq g888.symm)
    have K888 : Keep h0 h888 [] := K883.ext E888
    have F_line_b888 : Fld Z h888 b888 cSe "line" "[B" .null := D888 (Or.inr (hw _ (List.mem_of_getElem? (i := 21) rfl))) (ty := (.array .byte)) (by decide)
    have F_boundaryLine_b888 : Fld Z h888 b888 cSe "boundaryLine" "Z" (.int 0) := D888 (Or.inl (hw _ (List.mem_of_getElem? (i := 23) rfl))) (ty := .boolean) (by decide)
    have F_failed_b888 : Fld Z h888 b888 cSe "failed" "Z" (.int 0) := D888 (Or.inl (hw _ (List.mem_of_getElem? (i := 30) rfl))) (ty := .boolean) (by decide)
    have F_position_b888 : Fld Z h888 b888 cSe "position" "I" (.int 0) := D888 (Or.inl (hw _ (List.mem_of_getElem? (i := 32) rfl))) (ty := .int) (by decide)
    have F_lineLength_b888 : Fld Z h888 b888 cSe "lineLength" "I" (.int 0) := D888 (Or.inl (hw _ (List.mem_of_getElem? (i := 34) rfl))) (ty := .int) (by decide)
    have k889 := fun (t : State) (kk : Steps p.tables e below (T888.setTop (mkF m 112 #[iv p0, iv p1, iv p2, iv p3, iv p4, rv b853, iv (v0_107_j p0 p1 p2 p3 p4), .unset, .unset, .unset] [(.ref b888)])) t) => k887 t (st888 _ kk)
    have k890 := fun (t : State) (kk : Steps p.tables e below (T888.setTop (mkF m 113 #[iv p0, iv p1, iv p2, iv p3, iv p4, rv b853, iv (v0_107_j p0 p1 p2 p3 p4), .unset, .unset, .unset] [(.ref b888), (.ref b888)])) t) => k889 t (by
      refine XS.dup X888.here hx rfl (hb hby at_112) rfl rfl ?_
      exact kk)
    have Zz891 : n0 ≤ h888.size := (Nat.le_trans Z0 K888.1)
    obtain ⟨_, _, ⟨T891, L891, k891, n891⟩, -, X891, ⟨Lc891, hQ891, l891, y891, z891⟩, st891⟩ := X888.specialBack hx (y := (⟨cSe, "<init>", "()V"⟩ : MethodName)) rfl hown (mvT hZ (hw _ (List.mem_of_getElem? (i := 14) rfl))) (mvT hZ (hw _ (List.mem_of_getElem? (i := 15) rfl))) (mvT hZ (hw _ (List.mem_of_getElem? (i := 16) rfl))) (by decide) (backOf (W := 1) (rm4 l Z a0 hw [] b888 .null (0 : Int32) (0 : Int32) (0 : Int32) (0 : Int32) h888 n0 Zz891 A888 F_line_b888 g_b888 F_boundaryLine_b888 F_failed_b888 F_position_b888 F_lineLength_b888) hZ (hw _ (List.mem_of_getElem? (i := 16) rfl)) (hw _ (List.mem_of_getElem? (i := 13) rfl)) (by decide) (by decide)) (g := (mkF m 113 #[iv p0, iv p1, iv p2, iv p3, iv p4, rv b853, iv (v0_107_j p0 p1 p2 p3 p4), .unset, .unset, .unset] [(.ref b888), (.ref b888)])) rfl (by rw [hml]; rfl) (Steps.refl _) (a := b888) (argsL := []) (rest := [(.ref b888)]) (lenOf pd_7 rfl) rfl (by show 2 * 0 + _ ≤ _; exact Nat.le_of_eq rfl) (hb hby at_113) (fun _ _ => ⟨rfl, e888, (by decide : 2 + 1 ≤ _), (by decide : 10 + 2048 ≤ _)⟩)
    dsimp only [Pt.U, Pt.locs, Pt.cells, Pt.slots] at X891 l891 y891 z891 st891 hQ891
    subst l891 y891 z891
    obtain ⟨xl_891, k_xl_891, rfl, N891q, Kq891, Eq891_0, Fq891_0, Fq891_1, Fq891_2, Fq891_3, Fq891_4, sx_xl_891, Vx_xl_891, VLx_xl_891⟩ := hQ891
    have f892 := (V883.ext E888)
    have ne_b853_xl_891 : b853 ≠ xl_891 := Nat.ne_of_lt (Nat.lt_of_lt_of_le f892.lt sx_xl_891)
    have ne_b888_xl_891 : b888 ≠ xl_891 := Nat.ne_of_lt (Nat.lt_of_lt_of_le A888.lt sx_xl_891)
    have sz_xl_891 : h0.size ≤ xl_891 := Nat.le_trans K888.1 sx_xl_891
    have g_xl_891 : n0 ≤ xl_891 := Nat.le_trans Z0 sz_xl_891
    have K891 : Keep h0 T891.heap [] := K888.trans Kq891 (allS (Or.inr sz_b888) all0)
    have N891 := Fr.app NL N891q
    have k893 := fun (t : State) (kk : Steps p.tables e below (T891.setTop (mkF m 116 #[iv p0, iv p1, iv p2, iv p3, iv p4, rv b853, iv (v0_107_j p0 p1 p2 p3 p4), .unset, .unset, .unset] [(.ref b888)])) t) => k890 t (st891.trans kk)
    have k894 := fun (t : State) (kk : Steps p.tables e below (T891.setTop (mkF m 126 #[iv p0, iv p1, iv p2, iv p3, iv p4, rv b853, iv (v0_107_j p0 p1 p2 p3 p4), rv b888, iv 1, .unset] [(.int 0), (.ref b853), (.ref b888)])) t) => k893 t (by
      refine XS.astore X891.here hx rfl (hb hby at_116) rfl rfl (l' := #[iv p0, iv p1, iv p2, iv p3, iv p4, rv b853, iv (v0_107_j p0 p1 p2 p3 p4), rv b888, .unset, .unset]) rfl ?_
      refine XS.iconst X891.here hx rfl (hb hby at_118) ?_
      refine XS.istore X891.here hx rfl (hb hby at_119) rfl (l' := #[iv p0, iv p1, iv p2, iv p3, iv p4, rv b853, iv (v0_107_j p0 p1 p2 p3 p4), rv b888, iv 1, .unset]) rfl ?_
      refine XS.aload X891.here hx rfl (hb hby at_121) rfl rfl ?_
      refine XS.aload X891.here hx rfl (hb hby at_123) rfl rfl ?_
      refine XS.iconst X891.here hx rfl (hb hby at_125) ?_
      exact kk)
    have f895 := (f892.keep Kq891 (ninS ne_b853_b888 nin0))
    have hV896 := f895
    obtain ⟨cl896, Ar896, q896, S896, Nn896, H896, G896⟩ := hV896
    have hb897 : ¬ (0 : Int32) < 0 ∧ (0 : Int32) < (5 : Int32) := ⟨by decide, by decide⟩
    have hin897 : ¬ ((0 : Int32) < 0 ∨ cl896.slots.size ≤ ((0 : Int32)).toNatClampNeg) := inb_of S896 hb897
    have hat897 : cl896.slots[((0 : Int32)).toNatClampNeg]? = some (.int (v0_9_e p0)) := Has.at H896 hin897 rfl
    have st897 := X891.baloadBytes hx (j := (0 : Int32)) (v := (.int (v0_9_e p0))) Ar896.1 (State.isArrayOf_alike hZ.alike Ar896.2.1) Ar896.2.2 hin897 hat897 (g := (mkF m 126 #[iv p0, iv p1, iv p2, iv p3, iv p4, rv b853, iv (v0_107_j p0 p1 p2 p3 p4), rv b888, iv 1, .unset] [(.int 0), (.ref b853), (.ref b888)])) rfl rfl (hb hby at_126)
    have k898 := fun (t : State) (kk : Steps p.tables e below (T891.setTop (mkF m 127 #[iv p0, iv p1, iv p2, iv p3, iv p4, rv b853, iv (v0_107_j p0 p1 p2 p3 p4), rv b888, iv 1, .unset] [(.int (v0_9_e p0)), (.ref b888)])) t) => k894 t (st897 _ kk)
    have Zz899 : n0 ≤ T891.heap.size := (Nat.le_trans Z0 K891.1)
    obtain ⟨cq899, kq899, q899a, q899b, q899c⟩ := isOf hZ rfl Eq891_0
    obtain ⟨_, _, ⟨T899, L899, k899, n899⟩, -, X899, ⟨Lc899, hQ899, l899, y899, z899⟩, st899⟩ := X891.virtualBack hx (y := (⟨cSe, "see", "(B)[B"⟩ : MethodName)) (z := (⟨cSe, "see", "(B)[B"⟩ : MethodName)) hown (mvT hZ (hw _ (List.mem_of_getElem? (i := 24) rfl))) (mvT hZ (hw _ (List.mem_of_getElem? (i := 25) rfl))) (notFace_of_selects (args := #[]) (mvT hZ (hw _ (List.mem_of_getElem? (i := 27) rfl)))) (mvT hZ (hw _ (List.mem_of_getElem? (i := 27) rfl))) (mvT hZ (hw _ (List.mem_of_getElem? (i := 26) rfl))) (by decide) (backOf (W := 0) (rm6 l Z a0 hw [] b888 (v0_9_e p0) (0 : Int32) (0 : Int32) (0 : Int32) xl_891 k_xl_891 (List.replicate ((2048 : Int32)).toNatClampNeg (0 : Int32)) (1 : Int32) T891.heap n0 Zz899 (own_hll0 p0 p1 p2 p3 p4 : ¬ (0 : Int32) < 0 ∧ (0 : Int32) < (9 : Int32)) (own_hp0 p0 p1 p2 p3 p4 : ¬ (0 : Int32) = (2048 : Int32)) (own_hq0 p0 p1 p2 p3 p4 : ¬ ((0 : Int32) + (1 : Int32)) = (2048 : Int32)) Fq891_2 Fq891_3 Eq891_0 g_b888 Fq891_4 Fq891_0 Vx_xl_891 VLx_xl_891 g_xl_891 Fq891_1) hZ (hw _ (List.mem_of_getElem? (i := 28) rfl)) (hw _ (List.mem_of_getElem? (i := 13) rfl)) (by decide) (by decide)) q899a q899c (g := (mkF m 127 #[iv p0, iv p1, iv p2, iv p3, iv p4, rv b853, iv (v0_107_j p0 p1 p2 p3 p4), rv b888, iv 1, .unset] [(.int (v0_9_e p0)), (.ref b888)])) rfl (by rw [hml]; rfl) (Steps.refl _) (argsL := [(.int (v0_9_e p0))]) (rest := []) (lenOf pd_8 rfl) rfl (by show 2 * 0 + _ ≤ _; exact Nat.le_of_eq rfl) (hb hby at_127) (fun _ _ => ⟨rfl, rfl, (by decide : 3 + 1 ≤ _), (by decide : 2058 + 8 ≤ _)⟩)
    dsimp only [Pt.U, Pt.locs, Pt.cells, Pt.slots] at X899 l899 y899 z899 st899 hQ899
    subst l899 y899 z899
    have hQ899 := hQ899.resolve_right (fun q => own_k0 p0 p1 p2 p3 p4 q.1)
    obtain ⟨hC899, rfl, N899q, Kq899, Eq899_0, Fq899_0, Fq899_1, Fq899_2, Fq899_3, Fq899_4, Vq899_0, VLq899_0⟩ := hQ899
    have K899 : Keep h0 T899.heap [] := K891.trans Kq899 (allS (Or.inr sz_b888) (allS (Or.inr sz_xl_891) all0))
    have Fn899_1 : Fld Z T899.heap b888 cSe "boundaryLine" "Z" (.int (v0_127_f_boundaryLine p0)) := Fq899_1
    have Fn899_2 : Fld Z T899.heap b888 cSe "failed" "Z" (.int (v0_127_f_failed p0)) := Fq899_2
    have Fn899_3 : Fld Z T899.heap b888 cSe "position" "I" (.int v0_127_f_position) := Fq899_3
    have Fn899_4 : Fld Z T899.heap b888 cSe "lineLength" "I" (.int (v0_127_f_lineLength p0)) := Fq899_4
    have V899n : Arv Z T899.heap xl_891 k_xl_891 .byte (2048 : Int32) (List.map Value.int (v0_127_L0 p0)) (.int 0) := Vq899_0
    have VL899n : (v0_127_L0 p0).length = ((2048 : Int32)).toNatClampNeg := VLq899_0
    have N899 := Fr.app N891 N899q
    have k900 := fun (t : State) (kk : Steps p.tables e below (T899.setTop (mkF m 130 #[iv p0, iv p1, iv p2, iv p3, iv p4, rv b853, iv (v0_107_j p0 p1 p2 p3 p4), rv b888, iv 1, .unset] [.null])) t) => k898 t (st899.trans kk)
    have k901 := fun (t : State) (kk : Steps p.tables e below (T899.setTop (mkF m 144 #[iv p0, iv p1, iv p2, iv p3, iv p4, rv b853, iv (v0_107_j p0 p1 p2 p3 p4), rv b888, iv 1, .val .null] [(.int (v0_107_j p0 p1 p2 p3 p4)), (.int 0), (.ref b853), .null])) t) => k900 t (by
      refine XS.astore X899.here hx rfl (hb hby at_130) rfl rfl (l' := #[iv p0, iv p1, iv p2, iv p3, iv p4, rv b853, iv (v0_107_j p0 p1 p2 p3 p4), rv b888, iv 1, .val .null]) rfl ?_
      show Steps p.tables e below (T899.setTop (mkF m 132 #[iv p0, iv p1, iv p2, iv p3, iv p4, rv b853, iv (v0_107_j p0 p1 p2 p3 p4), rv b888, iv 1, .val .null] [])) _
      refine XS.iload X899.here hx rfl (hb hby at_132) rfl ?_
      refine XS.ifNo X899.here hx rfl (hb hby at_134) rfl ((if0 _ _).trans (feq (by decide : ¬ ((1 : Int32) = (0 : Int32)))).1) ?_
      refine XS.aload X899.here hx rfl (hb hby at_137) rfl rfl ?_
      refine XS.aload X899.here hx rfl (hb hby at_139) rfl rfl ?_
      refine XS.iconst X899.here hx rfl (hb hby at_141) ?_
      refine XS.iload X899.here hx rfl (hb hby at_142) rfl ?_
      exact kk)
    have hc144_902 : ¬ ((v0_107_j p0 p1 p2 p3 p4) = (0 : Int32)) := own_e0n p0 p1 p2 p3 p4
    have k903 := fun (t : State) (kk : Steps p.tables e below (T899.setTop (mkF m 152 #[iv p0, iv p1, iv p2, iv p3, iv p4, rv b853, iv (v0_107_j p0 p1 p2 p3 p4), rv b888, iv 1, .val .null] [(.int 0), (.int 0), (.ref b853), .null])) t) => k901 t (by
      refine XS.ifYes X899.here hx rfl (pc0 := 144) (pc' := 151) rfl (hb hby at_144) rfl ((if0 _ _).trans (feq hc144_902).2) (by decide) (by decide) ?_
      refine XS.iconst X899.here hx rfl (hb hby at_151) ?_
      exact kk)
    have Zz904 : n0 ≤ T899.heap.size := (Nat.le_trans Z0 K899.1)
    obtain ⟨_, _, ⟨T904, L904, k904, n904⟩, -, X904, ⟨Lc904, hQ904, l904, y904, z904⟩, st904⟩ := Jvm.LawKit.callS X899 hx (y := (⟨cLw, "hits", "([B[BIZ)Z"⟩ : MethodName)) hown (mvT hZ (hw _ (List.mem_of_getElem? (i := 35) rfl))) (mvT hZ (hw _ (List.mem_of_getElem? (i := 36) rfl))) (mvT hZ (hw _ (List.mem_of_getElem? (i := 3) rfl))) (mvT hZ (hw _ (List.mem_of_getElem? (i := 37) rfl))) (by decide) (backOf (W := 0) (rm7n l Z a0 hw [] b853 (0 : Int32) (0 : Int32) T899.heap n0 Zz904 (by decide : ¬ (0 : Int32) < 0 ∧ (0 : Int32) < (5 : Int32))) hZ (hw _ (List.mem_of_getElem? (i := 37) rfl)) (hw _ (List.mem_of_getElem? (i := 3) rfl)) (by decide) (by decide)) (g := (mkF m 152 #[iv p0, iv p1, iv p2, iv p3, iv p4, rv b853, iv (v0_107_j p0 p1 p2 p3 p4), rv b888, iv 1, .val .null] [(.int 0), (.int 0), (.ref b853), .null])) rfl (by rw [hml]; rfl) (argsL := [.null, (.ref b853), (.int 0), (.int 0)]) (rest := []) (lenOf pd_9 rfl) rfl (by show 2 * 0 + _ ≤ _; exact Nat.le_of_eq rfl) (hb hby at_152) (fun _ _ => ⟨rfl, rfl, (by decide : 4 + 0 ≤ _), (by decide : 2066 + 0 ≤ _)⟩)
    dsimp only [Pt.U, Pt.locs, Pt.cells, Pt.slots] at X904 l904 y904 z904 st904 hQ904
    subst l904 y904 z904
    obtain ⟨rfl, N904q, e904⟩ := hQ904
    have N904 := Fr.app N899 N904q
    have k905 := fun (t : State) (kk : Steps p.tables e below (T904.setTop (mkF m 155 #[iv p0, iv p1, iv p2, iv p3, iv p4, rv b853, iv (v0_107_j p0 p1 p2 p3 p4), rv b888, iv 1, .val .null] [(.int (w7_ret (0 : Int32)))])) t) => k903 t (st904 _ kk)
    have hc155_906 : ¬ ((w7_ret (0 : Int32)) = (0 : Int32)) := by decide
    have k907 := fun (t : State) (kk : Steps p.tables e below (T904.setTop (mkF m 167 #[iv p0, iv p1, iv p2, iv p3, iv p4, rv b853, iv (v0_107_j p0 p1 p2 p3 p4), rv b888, iv 1, .val .null] [(.int (v0_107_j p0 p1 p2 p3 p4))])) t) => k905 t (by
      refine XS.ifNo X904.here hx rfl (hb hby at_155) rfl ((if0 _ _).trans (feq hc155_906).1) ?_
      refine XS.iconst X904.here hx rfl (hb hby at_158) ?_
      refine XS.goto X904.here hx rfl (pc0 := 159) (pc' := 163) rfl (hb hby at_159) (by decide) (by decide) ?_
      refine XS.istore X904.here hx rfl (hb hby at_163) rfl (l' := #[iv p0, iv p1, iv p2, iv p3, iv p4, rv b853, iv (v0_107_j p0 p1 p2 p3 p4), rv b888, iv 1, .val .null]) rfl ?_
      show Steps p.tables e below (T904.setTop (mkF m 165 #[iv p0, iv p1, iv p2, iv p3, iv p4, rv b853, iv (v0_107_j p0 p1 p2 p3 p4), rv b888, iv 1, .val .null] [])) _
      refine XS.iload X904.here hx rfl (hb hby at_165) rfl ?_
      exact kk)
    have hc167_908 : ¬ ((v0_107_j p0 p1 p2 p3 p4) = (0 : Int32)) := own_e0n p0 p1 p2 p3 p4
    have k909 := fun (t : State) (kk : Steps p.tables e below (T904.setTop (mkF m 194 #[iv p0, iv p1, iv p2, iv p3, iv p4, rv b853, iv (v0_107_j p0 p1 p2 p3 p4), rv b888, iv 1, .val .null] [(.int 1), (.ref b853), (.ref b888)])) t) => k907 t (by
      refine XS.ifYes X904.here hx rfl (pc0 := 167) (pc' := 189) rfl (hb hby at_167) rfl ((if0 _ _).trans (feq hc167_908).2) (by decide) (by decide) ?_
      refine XS.aload X904.here hx rfl (hb hby at_189) rfl rfl ?_
      refine XS.aload X904.here hx rfl (hb hby at_191) rfl rfl ?_
      refine XS.iconst X904.here hx rfl (hb hby at_193) ?_
      exact kk)
    have f910 := (f895.keep Kq899 (ninS ne_b853_b888 (ninS ne_b853_xl_891 nin0)))
    have hV911 := f910
    obtain ⟨cl911, Ar911, q911, S911, Nn911, H911, G911⟩ := hV911
    have hb912 : ¬ (1 : Int32) < 0 ∧ (1 : Int32) < (5 : Int32) := ⟨by decide, by decide⟩
    have hin912 : ¬ ((1 : Int32) < 0 ∨ cl911.slots.size ≤ ((1 : Int32)).toNatClampNeg) := inb_of S911 hb912
    have hat912 : cl911.slots[((1 : Int32)).toNatClampNeg]? = some (.int (v0_16_e p1)) := Has.at H911 hin912 rfl
    have st912 := X904.baloadBytes hx (j := (1 : Int32)) (v := (.int (v0_16_e p1))) (by rw [e904]; exact Ar911.1) (State.isArrayOf_alike hZ.alike Ar911.2.1) Ar911.2.2 hin912 hat912 (g := (mkF m 194 #[iv p0, iv p1, iv p2, iv p3, iv p4, rv b853, iv (v0_107_j p0 p1 p2 p3 p4), rv b888, iv 1, .val .null] [(.int 1), (.ref b853), (.ref b888)])) rfl rfl (hb hby at_194)
    have k913 := fun (t : State) (kk : Steps p.tables e below (T904.setTop (mkF m 195 #[iv p0, iv p1, iv p2, iv p3, iv p4, rv b853, iv (v0_107_j p0 p1 p2 p3 p4), rv b888, iv 1, .val .null] [(.int (v0_16_e p1)), (.ref b888)])) t) => k909 t (st912 _ kk)
    have Zz914 : n0 ≤ T899.heap.size := (Nat.le_trans Z0 K899.1)
    obtain ⟨cq914, kq914, q914a, q914b, q914c⟩ := isOf hZ e904 Eq899_0
    obtain ⟨_, _, ⟨T914, L914, k914, n914⟩, -, X914, ⟨Lc914, hQ914, l914, y914, z914⟩, st914⟩ := X904.virtualBack hx (y := (⟨cSe, "see", "(B)[B"⟩ : MethodName)) (z := (⟨cSe, "see", "(B)[B"⟩ : MethodName)) hown (mvT hZ (hw _ (List.mem_of_getElem? (i := 24) rfl))) (mvT hZ (hw _ (List.mem_of_getElem? (i := 25) rfl))) (notFace_of_selects (args := #[]) (mvT hZ (hw _ (List.mem_of_getElem? (i := 27) rfl)))) (mvT hZ (hw _ (List.mem_of_getElem? (i := 27) rfl))) (mvT hZ (hw _ (List.mem_of_getElem? (i := 26) rfl))) (by decide) (backOf (W := 0) (rm6 l Z a0 hw [] b888 (v0_16_e p1) (v0_127_f_failed p0) v0_127_f_position (v0_127_f_lineLength p0) xl_891 k_xl_891 (v0_127_L0 p0) (v0_127_f_boundaryLine p0) T899.heap n0 Zz914 (own_hll1 p0 p1 p2 p3 p4 : ¬ (v0_127_f_lineLength p0) < 0 ∧ (v0_127_f_lineLength p0) < (9 : Int32)) (own_hp1 p0 p1 p2 p3 p4 : ¬ v0_127_f_position = (2048 : Int32)) (own_hq1 p0 p1 p2 p3 p4 : ¬ (v0_127_f_position + (1 : Int32)) = (2048 : Int32)) Fn899_2 Fn899_3 Eq899_0 g_b888 Fn899_4 Fq899_0 V899n VL899n g_xl_891 Fn899_1) hZ (hw _ (List.mem_of_getElem? (i := 28) rfl)) (hw _ (List.mem_of_getElem? (i := 13) rfl)) (by decide) (by decide)) q914a q914c (g := (mkF m 195 #[iv p0, iv p1, iv p2, iv p3, iv p4, rv b853, iv (v0_107_j p0 p1 p2 p3 p4), rv b888, iv 1, .val .null] [(.int (v0_16_e p1)), (.ref b888)])) rfl (by rw [hml]; rfl) (Steps.refl _) (argsL := [(.int (v0_16_e p1))]) (rest := []) (lenOf pd_8 rfl) rfl (by show 2 * 0 + _ ≤ _; exact Nat.le_of_eq rfl) (hb hby at_195) (fun _ _ => ⟨rfl, e904, (by decide : 4 + 1 ≤ _), (by decide : 2066 + 8 ≤ _)⟩)
    dsimp only [Pt.U, Pt.locs, Pt.cells, Pt.slots] at X914 l914 y914 z914 st914 hQ914
    subst l914 y914 z914
    have hQ914 := hQ914.resolve_right (fun q => own_k1 p0 p1 p2 p3 p4 q.1)
    obtain ⟨hC914, rfl, N914q, Kq914, Eq914_0, Fq914_0, Fq914_1, Fq914_2, Fq914_3, Fq914_4, Vq914_0, VLq914_0⟩ := hQ914
    have K914 : Keep h0 T914.heap [] := K899.trans Kq914 (allS (Or.inr sz_b888) (allS (Or.inr sz_xl_891) all0))
    have Fn914_1 : Fld Z T914.heap b888 cSe "boundaryLine" "Z" (.int (v0_195_f_boundaryLine p0 p1)) := Fq914_1
    have Fn914_2 : Fld Z T914.heap b888 cSe "failed" "Z" (.int (v0_195_f_failed p0 p1)) := Fq914_2
    have Fn914_3 : Fld Z T914.heap b888 cSe "position" "I" (.int (v0_195_f_position p0)) := Fq914_3
    have Fn914_4 : Fld Z T914.heap b888 cSe "lineLength" "I" (.int (v0_195_f_lineLength p0 p1)) := Fq914_4
    have V914n : Arv Z T914.heap xl_891 k_xl_891 .byte (2048 : Int32) (List.map Value.int (v0_195_L0 p0 p1)) (.int 0) := Vq914_0
    have VL914n : (v0_195_L0 p0 p1).length = ((2048 : Int32)).toNatClampNeg := VLq914_0
    have N914 := Fr.app N904 N914q
    have k915 := fun (t : State) (kk : Steps p.tables e below (T914.setTop (mkF m 198 #[iv p0, iv p1, iv p2, iv p3, iv p4, rv b853, iv (v0_107_j p0 p1 p2 p3 p4), rv b888, iv 1, .val .null] [.null])) t) => k913 t (st914.trans kk)
    have k916 := fun (t : State) (kk : Steps p.tables e below (T914.setTop (mkF m 213 #[iv p0, iv p1, iv p2, iv p3, iv p4, rv b853, iv (v0_107_j p0 p1 p2 p3 p4), rv b888, iv 1, .val .null] [(.int 1), (.int (v0_107_j p0 p1 p2 p3 p4)), (.int 1), (.ref b853), .null])) t) => k915 t (by
      refine XS.astore X914.here hx rfl (hb hby at_198) rfl rfl (l' := #[iv p0, iv p1, iv p2, iv p3, iv p4, rv b853, iv (v0_107_j p0 p1 p2 p3 p4), rv b888, iv 1, .val .null]) rfl ?_
      refine XS.iload X914.here hx rfl (hb hby at_200) rfl ?_
      refine XS.ifNo X914.here hx rfl (hb hby at_202) rfl ((if0 _ _).trans (feq (by decide : ¬ ((1 : Int32) = (0 : Int32)))).1) ?_
      refine XS.aload X914.here hx rfl (hb hby at_205) rfl rfl ?_
      refine XS.aload X914.here hx rfl (hb hby at_207) rfl rfl ?_
      refine XS.iconst X914.here hx rfl (hb hby at_209) ?_
      refine XS.iload X914.here hx rfl (hb hby at_210) rfl ?_
      show Steps p.tables e below (T914.setTop (mkF m 212 #[iv p0, iv p1, iv p2, iv p3, iv p4, rv b853, iv (v0_107_j p0 p1 p2 p3 p4), rv b888, iv 1, .val .null] [(.int (v0_107_j p0 p1 p2 p3 p4)), (.int 1), (.ref b853), .null])) _
      refine XS.iconst X914.here hx rfl (hb hby at_212) ?_
      exact kk)
    have hc213_917 : ¬ ((v0_107_j p0 p1 p2 p3 p4) = (1 : Int32)) := own_e1n p0 p1 p2 p3 p4
    have k918 := fun (t : State) (kk : Steps p.tables e below (T914.setTop (mkF m 221 #[iv p0, iv p1, iv p2, iv p3, iv p4, rv b853, iv (v0_107_j p0 p1 p2 p3 p4), rv b888, iv 1, .val .null] [(.int 0), (.int 1), (.ref b853), .null])) t) => k916 t (by
      refine XS.icmpYes X914.here hx rfl (pc0 := 213) (pc' := 220) rfl (hb hby at_213) rfl (feq hc213_917).2 (by decide) (by decide) ?_
      refine XS.iconst X914.here hx rfl (hb hby at_220) ?_
      exact kk)
    have Zz919 : n0 ≤ T914.heap.size := (Nat.le_trans Z0 K914.1)
    obtain ⟨_, _, ⟨T919, L919, k919, n919⟩, -, X919, ⟨Lc919, hQ919, l919, y919, z919⟩, st919⟩ := Jvm.LawKit.callS X914 hx (y := (⟨cLw, "hits", "([B[BIZ)Z"⟩ : MethodName)) hown (mvT hZ (hw _ (List.mem_of_getElem? (i := 35) rfl))) (mvT hZ (hw _ (List.mem_of_getElem? (i := 36) rfl))) (mvT hZ (hw _ (List.mem_of_getElem? (i := 3) rfl))) (mvT hZ (hw _ (List.mem_of_getElem? (i := 37) rfl))) (by decide) (backOf (W := 0) (rm7n l Z a0 hw [] b853 (1 : Int32) (0 : Int32) T914.heap n0 Zz919 (by decide : ¬ (1 : Int32) < 0 ∧ (1 : Int32) < (5 : Int32))) hZ (hw _ (List.mem_of_getElem? (i := 37) rfl)) (hw _ (List.mem_of_getElem? (i := 3) rfl)) (by decide) (by decide)) (g := (mkF m 221 #[iv p0, iv p1, iv p2, iv p3, iv p4, rv b853, iv (v0_107_j p0 p1 p2 p3 p4), rv b888, iv 1, .val .null] [(.int 0), (.int 1), (.ref b853), .null])) rfl (by rw [hml]; rfl) (argsL := [.null, (.ref b853), (.int 1), (.int 0)]) (rest := []) (lenOf pd_9 rfl) rfl (by show 2 * 0 + _ ≤ _; exact Nat.le_of_eq rfl) (hb hby at_221) (fun _ _ => ⟨rfl, rfl, (by decide : 5 + 0 ≤ _), (by decide : 2074 + 0 ≤ _)⟩)
    dsimp only [Pt.U, Pt.locs, Pt.cells, Pt.slots] at X919 l919 y919 z919 st919 hQ919
    subst l919 y919 z919
    obtain ⟨rfl, N919q, e919⟩ := hQ919
    have N919 := Fr.app N914 N919q
    have k920 := fun (t : State) (kk : Steps p.tables e below (T919.setTop (mkF m 224 #[iv p0, iv p1, iv p2, iv p3, iv p4, rv b853, iv (v0_107_j p0 p1 p2 p3 p4), rv b888, iv 1, .val .null] [(.int (w7_ret (0 : Int32)))])) t) => k918 t (st919 _ kk)
    have hc224_921 : ¬ ((w7_ret (0 : Int32)) = (0 : Int32)) := by decide
    have k922 := fun (t : State) (kk : Steps p.tables e below (T919.setTop (mkF m 237 #[iv p0, iv p1, iv p2, iv p3, iv p4, rv b853, iv (v0_107_j p0 p1 p2 p3 p4), rv b888, iv 1, .val .null] [(.int 1), (.int (v0_107_j p0 p1 p2 p3 p4))])) t) => k920 t (by
      refine XS.ifNo X919.here hx rfl (hb hby at_224) rfl ((if0 _ _).trans (feq hc224_921).1) ?_
      refine XS.iconst X919.here hx rfl (hb hby at_227) ?_
      refine XS.goto X919.here hx rfl (pc0 := 228) (pc' := 232) rfl (hb hby at_228) (by decide) (by decide) ?_
      refine XS.istore X919.here hx rfl (hb hby at_232) rfl (l' := #[iv p0, iv p1, iv p2, iv p3, iv p4, rv b853, iv (v0_107_j p0 p1 p2 p3 p4), rv b888, iv 1, .val .null]) rfl ?_
      refine XS.iload X919.here hx rfl (hb hby at_234) rfl ?_
      refine XS.iconst X919.here hx rfl (hb hby at_236) ?_
      exact kk)
    have hc237_923 : ¬ ((v0_107_j p0 p1 p2 p3 p4) = (1 : Int32)) := own_e1n p0 p1 p2 p3 p4
    have k924 := fun (t : State) (kk : Steps p.tables e below (T919.setTop (mkF m 264 #[iv p0, iv p1, iv p2, iv p3, iv p4, rv b853, iv (v0_107_j p0 p1 p2 p3 p4), rv b888, iv 1, .val .null] [(.int 2), (.ref b853), (.ref b888)])) t) => k922 t (by
      refine XS.icmpYes X919.here hx rfl (pc0 := 237) (pc' := 259) rfl (hb hby at_237) rfl (feq hc237_923).2 (by decide) (by decide) ?_
      refine XS.aload X919.here hx rfl (hb hby at_259) rfl rfl ?_
      refine XS.aload X919.here hx rfl (hb hby at_261) rfl rfl ?_
      show Steps p.tables e below (T919.setTop (mkF m 263 #[iv p0, iv p1, iv p2, iv p3, iv p4, rv b853, iv (v0_107_j p0 p1 p2 p3 p4), rv b888, iv 1, .val .null] [(.ref b853), (.ref b888)])) _
      refine XS.iconst X919.here hx rfl (hb hby at_263) ?_
      exact kk)
    have f925 := (f910.keep Kq914 (ninS ne_b853_b888 (ninS ne_b853_xl_891 nin0)))
    have hV926 := f925
    obtain ⟨cl926, Ar926, q926, S926, Nn926, H926, G926⟩ := hV926
    have hb927 : ¬ (2 : Int32) < 0 ∧ (2 : Int32) < (5 : Int32) := ⟨by decide, by decide⟩
    have hin927 : ¬ ((2 : Int32) < 0 ∨ cl926.slots.size ≤ ((2 : Int32)).toNatClampNeg) := inb_of S926 hb927
    have hat927 : cl926.slots[((2 : Int32)).toNatClampNeg]? = some (.int (v0_23_e p2)) := Has.at H926 hin927 rfl
    have st927 := X919.baloadBytes hx (j := (2 : Int32)) (v := (.int (v0_23_e p2))) (by rw [e919]; exact Ar926.1) (State.isArrayOf_alike hZ.alike Ar926.2.1) Ar926.2.2 hin927 hat927 (g := (mkF m 264 #[iv p0, iv p1, iv p2, iv p3, iv p4, rv b853, iv (v0_107_j p0 p1 p2 p3 p4), rv b888, iv 1, .val .null] [(.int 2), (.ref b853), (.ref b888)])) rfl rfl (hb hby at_264)
    have k928 := fun (t : State) (kk : Steps p.tables e below (T919.setTop (mkF m 265 #[iv p0, iv p1, iv p2, iv p3, iv p4, rv b853, iv (v0_107_j p0 p1 p2 p3 p4), rv b888, iv 1, .val .null] [(.int (v0_23_e p2)), (.ref b888)])) t) => k924 t (st927 _ kk)
    have Zz929 : n0 ≤ T914.heap.size := (Nat.le_trans Z0 K914.1)
    obtain ⟨cq929, kq929, q929a, q929b, q929c⟩ := isOf hZ e919 Eq914_0
    obtain ⟨_, _, ⟨T929, L929, k929, n929⟩, -, X929, ⟨Lc929, hQ929, l929, y929, z929⟩, st929⟩ := X919.virtualBack hx (y := (⟨cSe, "see", "(B)[B"⟩ : MethodName)) (z := (⟨cSe, "see", "(B)[B"⟩ : MethodName)) hown (mvT hZ (hw _ (List.mem_of_getElem? (i := 24) rfl))) (mvT hZ (hw _ (List.mem_of_getElem? (i := 25) rfl))) (notFace_of_selects (args := #[]) (mvT hZ (hw _ (List.mem_of_getElem? (i := 27) rfl)))) (mvT hZ (hw _ (List.mem_of_getElem? (i := 27) rfl))) (mvT hZ (hw _ (List.mem_of_getElem? (i := 26) rfl))) (by decide) (backOf (W := 0) (rm6 l Z a0 hw [] b888 (v0_23_e p2) (v0_195_f_failed p0 p1) (v0_195_f_position p0) (v0_195_f_lineLength p0 p1) xl_891 k_xl_891 (v0_195_L0 p0 p1) (v0_195_f_boundaryLine p0 p1) T914.heap n0 Zz929 (own_hll2 p0 p1 p2 p3 p4 : ¬ (v0_195_f_lineLength p0 p1) < 0 ∧ (v0_195_f_lineLength p0 p1) < (9 : Int32)) (own_hp2 p0 p1 p2 p3 p4 : ¬ (v0_195_f_position p0) = (2048 : Int32)) (own_hq2 p0 p1 p2 p3 p4 : ¬ ((v0_195_f_position p0) + (1 : Int32)) = (2048 : Int32)) Fn914_2 Fn914_3 Eq914_0 g_b888 Fn914_4 Fq914_0 V914n VL914n g_xl_891 Fn914_1) hZ (hw _ (List.mem_of_getElem? (i := 28) rfl)) (hw _ (List.mem_of_getElem? (i := 13) rfl)) (by decide) (by decide)) q929a q929c (g := (mkF m 265 #[iv p0, iv p1, iv p2, iv p3, iv p4, rv b853, iv (v0_107_j p0 p1 p2 p3 p4), rv b888, iv 1, .val .null] [(.int (v0_23_e p2)), (.ref b888)])) rfl (by rw [hml]; rfl) (Steps.refl _) (argsL := [(.int (v0_23_e p2))]) (rest := []) (lenOf pd_8 rfl) rfl (by show 2 * 0 + _ ≤ _; exact Nat.le_of_eq rfl) (hb hby at_265) (fun _ _ => ⟨rfl, e919, (by decide : 5 + 1 ≤ _), (by decide : 2074 + 8 ≤ _)⟩)
    dsimp only [Pt.U, Pt.locs, Pt.cells, Pt.slots] at X929 l929 y929 z929 st929 hQ929
    subst l929 y929 z929
    rcases hQ929 with hQ929 | hQ929
    · obtain ⟨hC929, rfl, N929q, Kq929, Eq929_0, Fq929_0, Fq929_1, Fq929_2, Fq929_3, Fq929_4, Vq929_0, VLq929_0⟩ := hQ929
      have K929 : Keep h0 T929.heap [] := K914.trans Kq929 (allS (Or.inr sz_b888) (allS (Or.inr sz_xl_891) all0))
      have Fn929_1 : Fld Z T929.heap b888 cSe "boundaryLine" "Z" (.int (v0_265_f_boundaryLine p0 p1 p2)) := Fq929_1
      have Fn929_2 : Fld Z T929.heap b888 cSe "failed" "Z" (.int (v0_265_f_failed p0 p1 p2)) := Fq929_2
      have Fn929_3 : Fld Z T929.heap b888 cSe "position" "I" (.int (v0_265_f_position p0 p1)) := Fq929_3
      have Fn929_4 : Fld Z T929.heap b888 cSe "lineLength" "I" (.int (v0_265_f_lineLength p0 p1 p2)) := Fq929_4
      have V929n : Arv Z T929.heap xl_891 k_xl_891 .byte (2048 : Int32) (List.map Value.int (v0_265_L0 p0 p1 p2)) (.int 0) := Vq929_0
      have VL929n : (v0_265_L0 p0 p1 p2).length = ((2048 : Int32)).toNatClampNeg := VLq929_0
      have N929 := Fr.app N919 N929q
      have k930 := fun (t : State) (kk : Steps p.tables e below (T929.setTop (mkF m 268 #[iv p0, iv p1, iv p2, iv p3, iv p4, rv b853, iv (v0_107_j p0 p1 p2 p3 p4), rv b888, iv 1, .val .null] [.null])) t) => k928 t (st929.trans kk)
      have k932 := fun (t : State) (kk : Steps p.tables e below (T929.setTop (mkF m 283 #[iv p0, iv p1, iv p2, iv p3, iv p4, rv b853, iv (v0_107_j p0 p1 p2 p3 p4), rv b888, iv 1, .val .null] [(.int 2), (.int (v0_107_j p0 p1 p2 p3 p4)), (.int 2), (.ref b853), .null])) t) => k930 t (by
        refine XS.astore X929.here hx rfl (hb hby at_268) rfl rfl (l' := #[iv p0, iv p1, iv p2, iv p3, iv p4, rv b853, iv (v0_107_j p0 p1 p2 p3 p4), rv b888, iv 1, .val .null]) rfl ?_
        refine XS.iload X929.here hx rfl (hb hby at_270) rfl ?_
        refine XS.ifNo X929.here hx rfl (hb hby at_272) rfl ((if0 _ _).trans (feq (by decide : ¬ ((1 : Int32) = (0 : Int32)))).1) ?_
        refine XS.aload X929.here hx rfl (hb hby at_275) rfl rfl ?_
        refine XS.aload X929.here hx rfl (hb hby at_277) rfl rfl ?_
        refine XS.iconst X929.here hx rfl (hb hby at_279) ?_
        refine XS.iload X929.here hx rfl (hb hby at_280) rfl ?_
        refine XS.iconst X929.here hx rfl (hb hby at_282) ?_
        exact kk)
      have hc283_933 : ¬ ((v0_107_j p0 p1 p2 p3 p4) = (2 : Int32)) := own_e2n p0 p1 p2 p3 p4 hC929
      have k934 := fun (t : State) (kk : Steps p.tables e below (T929.setTop (mkF m 291 #[iv p0, iv p1, iv p2, iv p3, iv p4, rv b853, iv (v0_107_j p0 p1 p2 p3 p4), rv b888, iv 1, .val .null] [(.int 0), (.int 2), (.ref b853), .null])) t) => k932 t (by
        refine XS.icmpYes X929.here hx rfl (pc0 := 283) (pc' := 290) rfl (hb hby at_283) rfl (feq hc283_933).2 (by decide) (by decide) ?_
        refine XS.iconst X929.here hx rfl (hb hby at_290) ?_
        exact kk)
      have Zz935 : n0 ≤ T929.heap.size := (Nat.le_trans Z0 K929.1)
      obtain ⟨_, _, ⟨T935, L935, k935, n935⟩, -, X935, ⟨Lc935, hQ935, l935, y935, z935⟩, st935⟩ := Jvm.LawKit.callS X929 hx (y := (⟨cLw, "hits", "([B[BIZ)Z"⟩ : MethodName)) hown (mvT hZ (hw _ (List.mem_of_getElem? (i := 35) rfl))) (mvT hZ (hw _ (List.mem_of_getElem? (i := 36) rfl))) (mvT hZ (hw _ (List.mem_of_getElem? (i := 3) rfl))) (mvT hZ (hw _ (List.mem_of_getElem? (i := 37) rfl))) (by decide) (backOf (W := 0) (rm7n l Z a0 hw [] b853 (2 : Int32) (0 : Int32) T929.heap n0 Zz935 (by decide : ¬ (2 : Int32) < 0 ∧ (2 : Int32) < (5 : Int32))) hZ (hw _ (List.mem_of_getElem? (i := 37) rfl)) (hw _ (List.mem_of_getElem? (i := 3) rfl)) (by decide) (by decide)) (g := (mkF m 291 #[iv p0, iv p1, iv p2, iv p3, iv p4, rv b853, iv (v0_107_j p0 p1 p2 p3 p4), rv b888, iv 1, .val .null] [(.int 0), (.int 2), (.ref b853), .null])) rfl (by rw [hml]; rfl) (argsL := [.null, (.ref b853), (.int 2), (.int 0)]) (rest := []) (lenOf pd_9 rfl) rfl (by show 2 * 0 + _ ≤ _; exact Nat.le_of_eq rfl) (hb hby at_291) (fun _ _ => ⟨rfl, rfl, (by decide : 6 + 0 ≤ _), (by decide : 2082 + 0 ≤ _)⟩)
      dsimp only [Pt.U, Pt.locs, Pt.cells, Pt.slots] at X935 l935 y935 z935 st935 hQ935
      subst l935 y935 z935
      obtain ⟨rfl, N935q, e935⟩ := hQ935
      have N935 := Fr.app N929 N935q
      have k936 := fun (t : State) (kk : Steps p.tables e below (T935.setTop (mkF m 294 #[iv p0, iv p1, iv p2, iv p3, iv p4, rv b853, iv (v0_107_j p0 p1 p2 p3 p4), rv b888, iv 1, .val .null] [(.int (w7_ret (0 : Int32)))])) t) => k934 t (st935 _ kk)
      have hc294_937 : ¬ ((w7_ret (0 : Int32)) = (0 : Int32)) := by decide
      have k938 := fun (t : State) (kk : Steps p.tables e below (T935.setTop (mkF m 307 #[iv p0, iv p1, iv p2, iv p3, iv p4, rv b853, iv (v0_107_j p0 p1 p2 p3 p4), rv b888, iv 1, .val .null] [(.int 2), (.int (v0_107_j p0 p1 p2 p3 p4))])) t) => k936 t (by
        refine XS.ifNo X935.here hx rfl (hb hby at_294) rfl ((if0 _ _).trans (feq hc294_937).1) ?_
        show Steps p.tables e below (T935.setTop (mkF m 297 #[iv p0, iv p1, iv p2, iv p3, iv p4, rv b853, iv (v0_107_j p0 p1 p2 p3 p4), rv b888, iv 1, .val .null] [])) _
        refine XS.iconst X935.here hx rfl (hb hby at_297) ?_
        refine XS.goto X935.here hx rfl (pc0 := 298) (pc' := 302) rfl (hb hby at_298) (by decide) (by decide) ?_
        refine XS.istore X935.here hx rfl (hb hby at_302) rfl (l' := #[iv p0, iv p1, iv p2, iv p3, iv p4, rv b853, iv (v0_107_j p0 p1 p2 p3 p4), rv b888, iv 1, .val .null]) rfl ?_
        refine XS.iload X935.here hx rfl (hb hby at_304) rfl ?_
        refine XS.iconst X935.here hx rfl (hb hby at_306) ?_
        exact kk)
      have hc307_939 : ¬ ((v0_107_j p0 p1 p2 p3 p4) = (2 : Int32)) := own_e2n p0 p1 p2 p3 p4 hC929
      have k940 := fun (t : State) (kk : Steps p.tables e below (T935.setTop (mkF m 334 #[iv p0, iv p1, iv p2, iv p3, iv p4, rv b853, iv (v0_107_j p0 p1 p2 p3 p4), rv b888, iv 1, .val .null] [(.int 3), (.ref b853), (.ref b888)])) t) => k938 t (by
        refine XS.icmpYes X935.here hx rfl (pc0 := 307) (pc' := 329) rfl (hb hby at_307) rfl (feq hc307_939).2 (by decide) (by decide) ?_
        refine XS.aload X935.here hx rfl (hb hby at_329) rfl rfl ?_
        refine XS.aload X935.here hx rfl (hb hby at_331) rfl rfl ?_
        refine XS.iconst X935.here hx rfl (hb hby at_333) ?_
        exact kk)
      have f941 := (f925.keep Kq929 (ninS ne_b853_b888 (ninS ne_b853_xl_891 nin0)))
      have hV942 := f941
      obtain ⟨cl942, Ar942, q942, S942, Nn942, H942, G942⟩ := hV942
      have hb943 : ¬ (3 : Int32) < 0 ∧ (3 : Int32) < (5 : Int32) := ⟨by decide, by decide⟩
      have hin943 : ¬ ((3 : Int32) < 0 ∨ cl942.slots.size ≤ ((3 : Int32)).toNatClampNeg) := inb_of S942 hb943
      have hat943 : cl942.slots[((3 : Int32)).toNatClampNeg]? = some (.int (v0_30_e p3)) := Has.at H942 hin943 rfl
      have st943 := X935.baloadBytes hx (j := (3 : Int32)) (v := (.int (v0_30_e p3))) (by rw [e935]; exact Ar942.1) (State.isArrayOf_alike hZ.alike Ar942.2.1) Ar942.2.2 hin943 hat943 (g := (mkF m 334 #[iv p0, iv p1, iv p2, iv p3, iv p4, rv b853, iv (v0_107_j p0 p1 p2 p3 p4), rv b888, iv 1, .val .null] [(.int 3), (.ref b853), (.ref b888)])) rfl rfl (hb hby at_334)
      have k944 := fun (t : State) (kk : Steps p.tables e below (T935.setTop (mkF m 335 #[iv p0, iv p1, iv p2, iv p3, iv p4, rv b853, iv (v0_107_j p0 p1 p2 p3 p4), rv b888, iv 1, .val .null] [(.int (v0_30_e p3)), (.ref b888)])) t) => k940 t (st943 _ kk)
      have Zz945 : n0 ≤ T929.heap.size := (Nat.le_trans Z0 K929.1)
      obtain ⟨cq945, kq945, q945a, q945b, q945c⟩ := isOf hZ e935 Eq929_0
      obtain ⟨_, _, ⟨T945, L945, k945, n945⟩, -, X945, ⟨Lc945, hQ945, l945, y945, z945⟩, st945⟩ := X935.virtualBack hx (y := (⟨cSe, "see", "(B)[B"⟩ : MethodName)) (z := (⟨cSe, "see", "(B)[B"⟩ : MethodName)) hown (mvT hZ (hw _ (List.mem_of_getElem? (i := 24) rfl))) (mvT hZ (hw _ (List.mem_of_getElem? (i := 25) rfl))) (notFace_of_selects (args := #[]) (mvT hZ (hw _ (List.mem_of_getElem? (i := 27) rfl)))) (mvT hZ (hw _ (List.mem_of_getElem? (i := 27) rfl))) (mvT hZ (hw _ (List.mem_of_getElem? (i := 26) rfl))) (by decide) (backOf (W := 0) (rm6 l Z a0 hw [] b888 (v0_30_e p3) (v0_265_f_failed p0 p1 p2) (v0_265_f_position p0 p1) (v0_265_f_lineLength p0 p1 p2) xl_891 k_xl_891 (v0_265_L0 p0 p1 p2) (v0_265_f_boundaryLine p0 p1 p2) T929.heap n0 Zz945 (own_hll3 p0 p1 p2 p3 p4 : ¬ (v0_265_f_lineLength p0 p1 p2) < 0 ∧ (v0_265_f_lineLength p0 p1 p2) < (9 : Int32)) (own_hp3 p0 p1 p2 p3 p4 : ¬ (v0_265_f_position p0 p1) = (2048 : Int32)) (own_hq3 p0 p1 p2 p3 p4 : ¬ ((v0_265_f_position p0 p1) + (1 : Int32)) = (2048 : Int32)) Fn929_2 Fn929_3 Eq929_0 g_b888 Fn929_4 Fq929_0 V929n VL929n g_xl_891 Fn929_1) hZ (hw _ (List.mem_of_getElem? (i := 28) rfl)) (hw _ (List.mem_of_getElem? (i := 13) rfl)) (by decide) (by decide)) q945a q945c (g := (mkF m 335 #[iv p0, iv p1, iv p2, iv p3, iv p4, rv b853, iv (v0_107_j p0 p1 p2 p3 p4), rv b888, iv 1, .val .null] [(.int (v0_30_e p3)), (.ref b888)])) rfl (by rw [hml]; rfl) (Steps.refl _) (argsL := [(.int (v0_30_e p3))]) (rest := []) (lenOf pd_8 rfl) rfl (by show 2 * 0 + _ ≤ _; exact Nat.le_of_eq rfl) (hb hby at_335) (fun _ _ => ⟨rfl, e935, (by decide : 6 + 1 ≤ _), (by decide : 2082 + 8 ≤ _)⟩)
      dsimp only [Pt.U, Pt.locs, Pt.cells, Pt.slots] at X945 l945 y945 z945 st945 hQ945
      subst l945 y945 z945
      rcases hQ945 with hQ945 | hQ945
      · obtain ⟨hC945, rfl, N945q, Kq945, Eq945_0, Fq945_0, Fq945_1, Fq945_2, Fq945_3, Fq945_4, Vq945_0, VLq945_0⟩ := hQ945
        have K945 : Keep h0 T945.heap [] := K929.trans Kq945 (allS (Or.inr sz_b888) (allS (Or.inr sz_xl_891) all0))
        have Fn945_1 : Fld Z T945.heap b888 cSe "boundaryLine" "Z" (.int (v0_335_f_boundaryLine p0 p1 p2 p3)) := Fq945_1
        have Fn945_2 : Fld Z T945.heap b888 cSe "failed" "Z" (.int (v0_335_f_failed p0 p1 p2 p3)) := Fq945_2
        have Fn945_3 : Fld Z T945.heap b888 cSe "position" "I" (.int (v0_335_f_position p0 p1 p2)) := Fq945_3
        have Fn945_4 : Fld Z T945.heap b888 cSe "lineLength" "I" (.int (v0_335_f_lineLength p0 p1 p2 p3)) := Fq945_4
        have V945n : Arv Z T945.heap xl_891 k_xl_891 .byte (2048 : Int32) (List.map Value.int (v0_335_L0 p0 p1 p2 p3)) (.int 0) := Vq945_0
        have VL945n : (v0_335_L0 p0 p1 p2 p3).length = ((2048 : Int32)).toNatClampNeg := VLq945_0
        have N945 := Fr.app N935 N945q
        have k946 := fun (t : State) (kk : Steps p.tables e below (T945.setTop (mkF m 338 #[iv p0, iv p1, iv p2, iv p3, iv p4, rv b853, iv (v0_107_j p0 p1 p2 p3 p4), rv b888, iv 1, .val .null] [.null])) t) => k944 t (st945.trans kk)
        have k948 := fun (t : State) (kk : Steps p.tables e below (T945.setTop (mkF m 353 #[iv p0, iv p1, iv p2, iv p3, iv p4, rv b853, iv (v0_107_j p0 p1 p2 p3 p4), rv b888, iv 1, .val .null] [(.int 3), (.int (v0_107_j p0 p1 p2 p3 p4)), (.int 3), (.ref b853), .null])) t) => k946 t (by
          refine XS.astore X945.here hx rfl (hb hby at_338) rfl rfl (l' := #[iv p0, iv p1, iv p2, iv p3, iv p4, rv b853, iv (v0_107_j p0 p1 p2 p3 p4), rv b888, iv 1, .val .null]) rfl ?_
          refine XS.iload X945.here hx rfl (hb hby at_340) rfl ?_
          refine XS.ifNo X945.here hx rfl (hb hby at_342) rfl ((if0 _ _).trans (feq (by decide : ¬ ((1 : Int32) = (0 : Int32)))).1) ?_
          show Steps p.tables e below (T945.setTop (mkF m 345 #[iv p0, iv p1, iv p2, iv p3, iv p4, rv b853, iv (v0_107_j p0 p1 p2 p3 p4), rv b888, iv 1, .val .null] [])) _
          refine XS.aload X945.here hx rfl (hb hby at_345) rfl rfl ?_
          refine XS.aload X945.here hx rfl (hb hby at_347) rfl rfl ?_
          refine XS.iconst X945.here hx rfl (hb hby at_349) ?_
          refine XS.iload X945.here hx rfl (hb hby at_350) rfl ?_
          refine XS.iconst X945.here hx rfl (hb hby at_352) ?_
          exact kk)
        have hc353_949 : ¬ ((v0_107_j p0 p1 p2 p3 p4) = (3 : Int32)) := own_e3n p0 p1 p2 p3 p4 hC929 hC945
        have k950 := fun (t : State) (kk : Steps p.tables e below (T945.setTop (mkF m 361 #[iv p0, iv p1, iv p2, iv p3, iv p4, rv b853, iv (v0_107_j p0 p1 p2 p3 p4), rv b888, iv 1, .val .null] [(.int 0), (.int 3), (.ref b853), .null])) t) => k948 t (by
          refine XS.icmpYes X945.here hx rfl (pc0 := 353) (pc' := 360) rfl (hb hby at_353) rfl (feq hc353_949).2 (by decide) (by decide) ?_
          refine XS.iconst X945.here hx rfl (hb hby at_360) ?_
          exact kk)
        have Zz951 : n0 ≤ T945.heap.size := (Nat.le_trans Z0 K945.1)
        obtain ⟨_, _, ⟨T951, L951, k951, n951⟩, -, X951, ⟨Lc951, hQ951, l951, y951, z951⟩, st951⟩ := Jvm.LawKit.callS X945 hx (y := (⟨cLw, "hits", "([B[BIZ)Z"⟩ : MethodName)) hown (mvT hZ (hw _ (List.mem_of_getElem? (i := 35) rfl))) (mvT hZ (hw _ (List.mem_of_getElem? (i := 36) rfl))) (mvT hZ (hw _ (List.mem_of_getElem? (i := 3) rfl))) (mvT hZ (hw _ (List.mem_of_getElem? (i := 37) rfl))) (by decide) (backOf (W := 0) (rm7n l Z a0 hw [] b853 (3 : Int32) (0 : Int32) T945.heap n0 Zz951 (by decide : ¬ (3 : Int32) < 0 ∧ (3 : Int32) < (5 : Int32))) hZ (hw _ (List.mem_of_getElem? (i := 37) rfl)) (hw _ (List.mem_of_getElem? (i := 3) rfl)) (by decide) (by decide)) (g := (mkF m 361 #[iv p0, iv p1, iv p2, iv p3, iv p4, rv b853, iv (v0_107_j p0 p1 p2 p3 p4), rv b888, iv 1, .val .null] [(.int 0), (.int 3), (.ref b853), .null])) rfl (by rw [hml]; rfl) (argsL := [.null, (.ref b853), (.int 3), (.int 0)]) (rest := []) (lenOf pd_9 rfl) rfl (by show 2 * 0 + _ ≤ _; exact Nat.le_of_eq rfl) (hb hby at_361) (fun _ _ => ⟨rfl, rfl, (by decide : 7 + 0 ≤ _), (by decide : 2090 + 0 ≤ _)⟩)
        dsimp only [Pt.U, Pt.locs, Pt.cells, Pt.slots] at X951 l951 y951 z951 st951 hQ951
        subst l951 y951 z951
        obtain ⟨rfl, N951q, e951⟩ := hQ951
        have N951 := Fr.app N945 N951q
        have k952 := fun (t : State) (kk : Steps p.tables e below (T951.setTop (mkF m 364 #[iv p0, iv p1, iv p2, iv p3, iv p4, rv b853, iv (v0_107_j p0 p1 p2 p3 p4), rv b888, iv 1, .val .null] [(.int (w7_ret (0 : Int32)))])) t) => k950 t (st951 _ kk)
        have hc364_953 : ¬ ((w7_ret (0 : Int32)) = (0 : Int32)) := by decide
        have k954 := fun (t : State) (kk : Steps p.tables e below (T951.setTop (mkF m 377 #[iv p0, iv p1, iv p2, iv p3, iv p4, rv b853, iv (v0_107_j p0 p1 p2 p3 p4), rv b888, iv 1, .val .null] [(.int 3), (.int (v0_107_j p0 p1 p2 p3 p4))])) t) => k952 t (by
          refine XS.ifNo X951.here hx rfl (hb hby at_364) rfl ((if0 _ _).trans (feq hc364_953).1) ?_
          refine XS.iconst X951.here hx rfl (hb hby at_367) ?_
          refine XS.goto X951.here hx rfl (pc0 := 368) (pc' := 372) rfl (hb hby at_368) (by decide) (by decide) ?_
          refine XS.istore X951.here hx rfl (hb hby at_372) rfl (l' := #[iv p0, iv p1, iv p2, iv p3, iv p4, rv b853, iv (v0_107_j p0 p1 p2 p3 p4), rv b888, iv 1, .val .null]) rfl ?_
          refine XS.iload X951.here hx rfl (hb hby at_374) rfl ?_
          show Steps p.tables e below (T951.setTop (mkF m 376 #[iv p0, iv p1, iv p2, iv p3, iv p4, rv b853, iv (v0_107_j p0 p1 p2 p3 p4), rv b888, iv 1, .val .null] [(.int (v0_107_j p0 p1 p2 p3 p4))])) _
          refine XS.iconst X951.here hx rfl (hb hby at_376) ?_
          exact kk)
        have hc377_955 : ¬ ((v0_107_j p0 p1 p2 p3 p4) = (3 : Int32)) := own_e3n p0 p1 p2 p3 p4 hC929 hC945
        have k956 := fun (t : State) (kk : Steps p.tables e below (T951.setTop (mkF m 404 #[iv p0, iv p1, iv p2, iv p3, iv p4, rv b853, iv (v0_107_j p0 p1 p2 p3 p4), rv b888, iv 1, .val .null] [(.int 4), (.ref b853), (.ref b888)])) t) => k954 t (by
          refine XS.icmpYes X951.here hx rfl (pc0 := 377) (pc' := 399) rfl (hb hby at_377) rfl (feq hc377_955).2 (by decide) (by decide) ?_
          refine XS.aload X951.here hx rfl (hb hby at_399) rfl rfl ?_
          refine XS.aload X951.here hx rfl (hb hby at_401) rfl rfl ?_
          refine XS.iconst X951.here hx rfl (hb hby at_403) ?_
          exact kk)
        have f957 := (f941.keep Kq945 (ninS ne_b853_b888 (ninS ne_b853_xl_891 nin0)))
        have hV958 := f957
        obtain ⟨cl958, Ar958, q958, S958, Nn958, H958, G958⟩ := hV958
        have hb959 : ¬ (4 : Int32) < 0 ∧ (4 : Int32) < (5 : Int32) := ⟨by decide, by decide⟩
        have hin959 : ¬ ((4 : Int32) < 0 ∨ cl958.slots.size ≤ ((4 : Int32)).toNatClampNeg) := inb_of S958 hb959
        have hat959 : cl958.slots[((4 : Int32)).toNatClampNeg]? = some (.int (v0_38_e p4)) := Has.at H958 hin959 rfl
        have st959 := X951.baloadBytes hx (j := (4 : Int32)) (v := (.int (v0_38_e p4))) (by rw [e951]; exact Ar958.1) (State.isArrayOf_alike hZ.alike Ar958.2.1) Ar958.2.2 hin959 hat959 (g := (mkF m 404 #[iv p0, iv p1, iv p2, iv p3, iv p4, rv b853, iv (v0_107_j p0 p1 p2 p3 p4), rv b888, iv 1, .val .null] [(.int 4), (.ref b853), (.ref b888)])) rfl rfl (hb hby at_404)
        have k960 := fun (t : State) (kk : Steps p.tables e below (T951.setTop (mkF m 405 #[iv p0, iv p1, iv p2, iv p3, iv p4, rv b853, iv (v0_107_j p0 p1 p2 p3 p4), rv b888, iv 1, .val .null] [(.int (v0_38_e p4)), (.ref b888)])) t) => k956 t (st959 _ kk)
        have Zz961 : n0 ≤ T945.heap.size := (Nat.le_trans Z0 K945.1)
        obtain ⟨cq961, kq961, q961a, q961b, q961c⟩ := isOf hZ e951 Eq945_0
        obtain ⟨_, _, ⟨T961, L961, k961, n961⟩, -, X961, ⟨Lc961, hQ961, l961, y961, z961⟩, st961⟩ := X951.virtualBack hx (y := (⟨cSe, "see", "(B)[B"⟩ : MethodName)) (z := (⟨cSe, "see", "(B)[B"⟩ : MethodName)) hown (mvT hZ (hw _ (List.mem_of_getElem? (i := 24) rfl))) (mvT hZ (hw _ (List.mem_of_getElem? (i := 25) rfl))) (notFace_of_selects (args := #[]) (mvT hZ (hw _ (List.mem_of_getElem? (i := 27) rfl)))) (mvT hZ (hw _ (List.mem_of_getElem? (i := 27) rfl))) (mvT hZ (hw _ (List.mem_of_getElem? (i := 26) rfl))) (by decide) (backOf (W := 0) (rm6 l Z a0 hw [] b888 (v0_38_e p4) (v0_335_f_failed p0 p1 p2 p3) (v0_335_f_position p0 p1 p2) (v0_335_f_lineLength p0 p1 p2 p3) xl_891 k_xl_891 (v0_335_L0 p0 p1 p2 p3) (v0_335_f_boundaryLine p0 p1 p2 p3) T945.heap n0 Zz961 (own_hll4 p0 p1 p2 p3 p4 : ¬ (v0_335_f_lineLength p0 p1 p2 p3) < 0 ∧ (v0_335_f_lineLength p0 p1 p2 p3) < (9 : Int32)) (own_hp4 p0 p1 p2 p3 p4 : ¬ (v0_335_f_position p0 p1 p2) = (2048 : Int32)) (own_hq4 p0 p1 p2 p3 p4 : ¬ ((v0_335_f_position p0 p1 p2) + (1 : Int32)) = (2048 : Int32)) Fn945_2 Fn945_3 Eq945_0 g_b888 Fn945_4 Fq945_0 V945n VL945n g_xl_891 Fn945_1) hZ (hw _ (List.mem_of_getElem? (i := 28) rfl)) (hw _ (List.mem_of_getElem? (i := 13) rfl)) (by decide) (by decide)) q961a q961c (g := (mkF m 405 #[iv p0, iv p1, iv p2, iv p3, iv p4, rv b853, iv (v0_107_j p0 p1 p2 p3 p4), rv b888, iv 1, .val .null] [(.int (v0_38_e p4)), (.ref b888)])) rfl (by rw [hml]; rfl) (Steps.refl _) (argsL := [(.int (v0_38_e p4))]) (rest := []) (lenOf pd_8 rfl) rfl (by show 2 * 0 + _ ≤ _; exact Nat.le_of_eq rfl) (hb hby at_405) (fun _ _ => ⟨rfl, e951, (by decide : 7 + 1 ≤ _), (by decide : 2090 + 8 ≤ _)⟩)
        dsimp only [Pt.U, Pt.locs, Pt.cells, Pt.slots] at X961 l961 y961 z961 st961 hQ961
        subst l961 y961 z961
        rcases hQ961 with hQ961 | hQ961
        · obtain ⟨hC961, rfl, N961q, Kq961, Eq961_0, Fq961_0, Fq961_1, Fq961_2, Fq961_3, Fq961_4, Vq961_0, VLq961_0⟩ := hQ961
          have K961 : Keep h0 T961.heap [] := K945.trans Kq961 (allS (Or.inr sz_b888) (allS (Or.inr sz_xl_891) all0))
          have Fn961_1 : Fld Z T961.heap b888 cSe "boundaryLine" "Z" (.int (v0_405_f_boundaryLine p0 p1 p2 p3 p4)) := Fq961_1
          have Fn961_2 : Fld Z T961.heap b888 cSe "failed" "Z" (.int (v0_405_f_failed p0 p1 p2 p3 p4)) := Fq961_2
          have Fn961_3 : Fld Z T961.heap b888 cSe "position" "I" (.int (v0_405_f_position p0 p1 p2 p3)) := Fq961_3
          have Fn961_4 : Fld Z T961.heap b888 cSe "lineLength" "I" (.int (v0_405_f_lineLength p0 p1 p2 p3 p4)) := Fq961_4
          have V961n : Arv Z T961.heap xl_891 k_xl_891 .byte (2048 : Int32) (List.map Value.int (v0_405_L0 p0 p1 p2 p3 p4)) (.int 0) := Vq961_0
          have VL961n : (v0_405_L0 p0 p1 p2 p3 p4).length = ((2048 : Int32)).toNatClampNeg := VLq961_0
          have N961 := Fr.app N951 N961q
          have k962 := fun (t : State) (kk : Steps p.tables e below (T961.setTop (mkF m 408 #[iv p0, iv p1, iv p2, iv p3, iv p4, rv b853, iv (v0_107_j p0 p1 p2 p3 p4), rv b888, iv 1, .val .null] [.null])) t) => k960 t (st961.trans kk)
          have k964 := fun (t : State) (kk : Steps p.tables e below (T961.setTop (mkF m 423 #[iv p0, iv p1, iv p2, iv p3, iv p4, rv b853, iv (v0_107_j p0 p1 p2 p3 p4), rv b888, iv 1, .val .null] [(.int 4), (.int (v0_107_j p0 p1 p2 p3 p4)), (.int 4), (.ref b853), .null])) t) => k962 t (by
            refine XS.astore X961.here hx rfl (hb hby at_408) rfl rfl (l' := #[iv p0, iv p1, iv p2, iv p3, iv p4, rv b853, iv (v0_107_j p0 p1 p2 p3 p4), rv b888, iv 1, .val .null]) rfl ?_
            refine XS.iload X961.here hx rfl (hb hby at_410) rfl ?_
            refine XS.ifNo X961.here hx rfl (hb hby at_412) rfl ((if0 _ _).trans (feq (by decide : ¬ ((1 : Int32) = (0 : Int32)))).1) ?_
            refine XS.aload X961.here hx rfl (hb hby at_415) rfl rfl ?_
            refine XS.aload X961.here hx rfl (hb hby at_417) rfl rfl ?_
            refine XS.iconst X961.here hx rfl (hb hby at_419) ?_
            refine XS.iload X961.here hx rfl (hb hby at_420) rfl ?_
            show Steps p.tables e below (T961.setTop (mkF m 422 #[iv p0, iv p1, iv p2, iv p3, iv p4, rv b853, iv (v0_107_j p0 p1 p2 p3 p4), rv b888, iv 1, .val .null] [(.int (v0_107_j p0 p1 p2 p3 p4)), (.int 4), (.ref b853), .null])) _
            refine XS.iconst X961.here hx rfl (hb hby at_422) ?_
            exact kk)
          have hc423_965 : ¬ ((v0_107_j p0 p1 p2 p3 p4) = (4 : Int32)) := own_e4n p0 p1 p2 p3 p4 hC929 hC945 hC961
          have k966 := fun (t : State) (kk : Steps p.tables e below (T961.setTop (mkF m 431 #[iv p0, iv p1, iv p2, iv p3, iv p4, rv b853, iv (v0_107_j p0 p1 p2 p3 p4), rv b888, iv 1, .val .null] [(.int 0), (.int 4), (.ref b853), .null])) t) => k964 t (by
            refine XS.icmpYes X961.here hx rfl (pc0 := 423) (pc' := 430) rfl (hb hby at_423) rfl (feq hc423_965).2 (by decide) (by decide) ?_
            refine XS.iconst X961.here hx rfl (hb hby at_430) ?_
            exact kk)
          have Zz967 : n0 ≤ T961.heap.size := (Nat.le_trans Z0 K961.1)
          obtain ⟨_, _, ⟨T967, L967, k967, n967⟩, -, X967, ⟨Lc967, hQ967, l967, y967, z967⟩, st967⟩ := Jvm.LawKit.callS X961 hx (y := (⟨cLw, "hits", "([B[BIZ)Z"⟩ : MethodName)) hown (mvT hZ (hw _ (List.mem_of_getElem? (i := 35) rfl))) (mvT hZ (hw _ (List.mem_of_getElem? (i := 36) rfl))) (mvT hZ (hw _ (List.mem_of_getElem? (i := 3) rfl))) (mvT hZ (hw _ (List.mem_of_getElem? (i := 37) rfl))) (by decide) (backOf (W := 0) (rm7n l Z a0 hw [] b853 (4 : Int32) (0 : Int32) T961.heap n0 Zz967 (by decide : ¬ (4 : Int32) < 0 ∧ (4 : Int32) < (5 : Int32))) hZ (hw _ (List.mem_of_getElem? (i := 37) rfl)) (hw _ (List.mem_of_getElem? (i := 3) rfl)) (by decide) (by decide)) (g := (mkF m 431 #[iv p0, iv p1, iv p2, iv p3, iv p4, rv b853, iv (v0_107_j p0 p1 p2 p3 p4), rv b888, iv 1, .val .null] [(.int 0), (.int 4), (.ref b853), .null])) rfl (by rw [hml]; rfl) (argsL := [.null, (.ref b853), (.int 4), (.int 0)]) (rest := []) (lenOf pd_9 rfl) rfl (by show 2 * 0 + _ ≤ _; exact Nat.le_of_eq rfl) (hb hby at_431) (fun _ _ => ⟨rfl, rfl, (by decide : 8 + 0 ≤ _), (by decide : 2098 + 0 ≤ _)⟩)
          dsimp only [Pt.U, Pt.locs, Pt.cells, Pt.slots] at X967 l967 y967 z967 st967 hQ967
          subst l967 y967 z967
          obtain ⟨rfl, N967q, e967⟩ := hQ967
          have N967 := Fr.app N961 N967q
          have k968 := fun (t : State) (kk : Steps p.tables e below (T967.setTop (mkF m 434 #[iv p0, iv p1, iv p2, iv p3, iv p4, rv b853, iv (v0_107_j p0 p1 p2 p3 p4), rv b888, iv 1, .val .null] [(.int (w7_ret (0 : Int32)))])) t) => k966 t (st967 _ kk)
          have hc434_969 : ¬ ((w7_ret (0 : Int32)) = (0 : Int32)) := by decide
          have k970 := fun (t : State) (kk : Steps p.tables e below (T967.setTop (mkF m 447 #[iv p0, iv p1, iv p2, iv p3, iv p4, rv b853, iv (v0_107_j p0 p1 p2 p3 p4), rv b888, iv 1, .val .null] [(.int 4), (.int (v0_107_j p0 p1 p2 p3 p4))])) t) => k968 t (by
            refine XS.ifNo X967.here hx rfl (hb hby at_434) rfl ((if0 _ _).trans (feq hc434_969).1) ?_
            refine XS.iconst X967.here hx rfl (hb hby at_437) ?_
            refine XS.goto X967.here hx rfl (pc0 := 438) (pc' := 442) rfl (hb hby at_438) (by decide) (by decide) ?_
            refine XS.istore X967.here hx rfl (hb hby at_442) rfl (l' := #[iv p0, iv p1, iv p2, iv p3, iv p4, rv b853, iv (v0_107_j p0 p1 p2 p3 p4), rv b888, iv 1, .val .null]) rfl ?_
            refine XS.iload X967.here hx rfl (hb hby at_444) rfl ?_
            refine XS.iconst X967.here hx rfl (hb hby at_446) ?_
            exact kk)
          have hc447_971 : ¬ ((v0_107_j p0 p1 p2 p3 p4) = (4 : Int32)) := own_e4n p0 p1 p2 p3 p4 hC929 hC945 hC961
          have k972 := fun (t : State) (kk : Steps p.tables e below (T967.setTop (mkF m 476 #[iv p0, iv p1, iv p2, iv p3, iv p4, rv b853, iv (v0_107_j p0 p1 p2 p3 p4), rv b888, iv 1, .val .null] [(.ref b888)])) t) => k970 t (by
            refine XS.icmpYes X967.here hx rfl (pc0 := 447) (pc' := 469) rfl (hb hby at_447) rfl (feq hc447_971).2 (by decide) (by decide) ?_
            refine XS.iload X967.here hx rfl (hb hby at_469) rfl ?_
            refine XS.ifNo X967.here hx rfl (hb hby at_471) rfl ((if0 _ _).trans (feq (by decide : ¬ ((1 : Int32) = (0 : Int32)))).1) ?_
            show Steps p.tables e below (T967.setTop (mkF m 474 #[iv p0, iv p1, iv p2, iv p3, iv p4, rv b853, iv (v0_107_j p0 p1 p2 p3 p4), rv b888, iv 1, .val .null] [])) _
            refine XS.aload X967.here hx rfl (hb hby at_474) rfl rfl ?_
            exact kk)
          have Zz973 : n0 ≤ T961.heap.size := (Nat.le_trans Z0 K961.1)
          obtain ⟨cq973, kq973, q973a, q973b, q973c⟩ := isOf hZ e967 Eq961_0
          obtain ⟨_, _, ⟨T973, L973, k973, n973⟩, -, X973, ⟨Lc973, hQ973, l973, y973, z973⟩, st973⟩ := X967.virtualBack hx (y := (⟨cSe, "failed", "()Z"⟩ : MethodName)) (z := (⟨cSe, "failed", "()Z"⟩ : MethodName)) hown (mvT hZ (hw _ (List.mem_of_getElem? (i := 38) rfl))) (mvT hZ (hw _ (List.mem_of_getElem? (i := 39) rfl))) (notFace_of_selects (args := #[]) (mvT hZ (hw _ (List.mem_of_getElem? (i := 41) rfl)))) (mvT hZ (hw _ (List.mem_of_getElem? (i := 41) rfl))) (mvT hZ (hw _ (List.mem_of_getElem? (i := 40) rfl))) (by decide) (backOf (W := 0) (rm8 l Z a0 hw [] b888 (v0_405_f_failed p0 p1 p2 p3 p4) T961.heap n0 Zz973 Fn961_2) hZ (hw _ (List.mem_of_getElem? (i := 42) rfl)) (hw _ (List.mem_of_getElem? (i := 13) rfl)) (by decide) (by decide)) q973a q973c (g := (mkF m 476 #[iv p0, iv p1, iv p2, iv p3, iv p4, rv b853, iv (v0_107_j p0 p1 p2 p3 p4), rv b888, iv 1, .val .null] [(.ref b888)])) rfl (by rw [hml]; rfl) (Steps.refl _) (argsL := []) (rest := []) (lenOf pd_10 rfl) rfl (by show 2 * 0 + _ ≤ _; exact Nat.le_of_eq rfl) (hb hby at_476) (fun _ _ => ⟨rfl, e967, (by decide : 8 + 0 ≤ _), (by decide : 2098 + 0 ≤ _)⟩)
          dsimp only [Pt.U, Pt.locs, Pt.cells, Pt.slots] at X973 l973 y973 z973 st973 hQ973
          subst l973 y973 z973
          obtain ⟨rfl, N973q, e973⟩ := hQ973
          have N973 := Fr.app N967 N973q
          have k974 := fun (t : State) (kk : Steps p.tables e below (T973.setTop (mkF m 479 #[iv p0, iv p1, iv p2, iv p3, iv p4, rv b853, iv (v0_107_j p0 p1 p2 p3 p4), rv b888, iv 1, .val .null] [(.int (nar .boolean (v0_405_f_failed p0 p1 p2 p3 p4)))])) t) => k972 t (st973.trans kk)
          have k975 := fun (t : State) (kk : Steps p.tables e below (T973.setTop (mkF m 482 #[iv p0, iv p1, iv p2, iv p3, iv p4, rv b853, iv (v0_107_j p0 p1 p2 p3 p4), rv b888, iv 1, .val .null] [(.int 5), (.ref b853), (.int (nar .boolean (v0_405_f_failed p0 p1 p2 p3 p4)))])) t) => k974 t (by
            refine XS.aload X973.here hx rfl (hb hby at_479) rfl rfl ?_
            refine XS.iconst X973.here hx rfl (hb hby at_481) ?_
            exact kk)
          have f976 := (f957.keep Kq961 (ninS ne_b853_b888 (ninS ne_b853_xl_891 nin0)))
          have Zz977 : n0 ≤ T961.heap.size := (Nat.le_trans Z0 K961.1)
          obtain ⟨_, _, ⟨T977, L977, k977, n977⟩, -, X977, ⟨Lc977, hQ977, l977, y977, z977⟩, st977⟩ := Jvm.LawKit.callS X973 hx (y := (⟨cLw, "noNeg", "([BI)Z"⟩ : MethodName)) hown (mvT hZ (hw _ (List.mem_of_getElem? (i := 43) rfl))) (mvT hZ (hw _ (List.mem_of_getElem? (i := 44) rfl))) (mvT hZ (hw _ (List.mem_of_getElem? (i := 3) rfl))) (mvT hZ (hw _ (List.mem_of_getElem? (i := 45) rfl))) (by decide) (backOf (W := 1) (rm9 l Z a0 hw [] b853 (5 : Int32) k853 ([(v0_9_e p0), (v0_16_e p1), (v0_23_e p2), (v0_30_e p3), (v0_38_e p4)] : List Int32) T961.heap n0 Zz977 f976 VL883) hZ (hw _ (List.mem_of_getElem? (i := 45) rfl)) (hw _ (List.mem_of_getElem? (i := 3) rfl)) (by decide) (by decide)) (g := (mkF m 482 #[iv p0, iv p1, iv p2, iv p3, iv p4, rv b853, iv (v0_107_j p0 p1 p2 p3 p4), rv b888, iv 1, .val .null] [(.int 5), (.ref b853), (.int (nar .boolean (v0_405_f_failed p0 p1 p2 p3 p4)))])) rfl (by rw [hml]; rfl) (argsL := [(.ref b853), (.int 5)]) (rest := [(.int (nar .boolean (v0_405_f_failed p0 p1 p2 p3 p4)))]) (lenOf pd_2 rfl) rfl (by show 2 * 0 + _ ≤ _; exact Nat.le_of_eq rfl) (hb hby at_482) (fun _ _ => ⟨rfl, e973, (by decide : 8 + 0 ≤ _), (by decide : 2098 + 0 ≤ _)⟩)
          dsimp only [Pt.U, Pt.locs, Pt.cells, Pt.slots] at X977 l977 y977 z977 st977 hQ977
          subst l977 y977 z977
          obtain ⟨rfl, N977q, e977⟩ := hQ977
          have N977 := Fr.app N973 N977q
          have k978 := fun (t : State) (kk : Steps p.tables e below (T977.setTop (mkF m 485 #[iv p0, iv p1, iv p2, iv p3, iv p4, rv b853, iv (v0_107_j p0 p1 p2 p3 p4), rv b888, iv 1, .val .null] [(.int (v9_ret (5 : Int32) ([(v0_9_e p0), (v0_16_e p1), (v0_23_e p2), (v0_30_e p3), (v0_38_e p4)] : List Int32))), (.int (nar .boolean (v0_405_f_failed p0 p1 p2 p3 p4)))])) t) => k975 t (st977 _ kk)
          have k983 := fun (t : State) (kk : Steps p.tables e below (T977.setTop (mkF m 501 #[iv p0, iv p1, iv p2, iv p3, iv p4, rv b853, iv (v0_107_j p0 p1 p2 p3 p4), rv b888, iv 1, .val .null] [(.int (v0_493_s0 p0 p1 p2 p3 p4))])) t) => k978 t (by
            suffices k980 : Steps p.tables e below (T977.setTop (mkF m 493 #[iv p0, iv p1, iv p2, iv p3, iv p4, rv b853, iv (v0_107_j p0 p1 p2 p3 p4), rv b888, iv 1, .val .null] [(.int (v0_485_s0 p0 p1 p2 p3 p4)), (.int (nar .boolean (v0_405_f_failed p0 p1 p2 p3 p4)))])) t by
              by_cases hc485_979 : (v9_ret (5 : Int32) ([(v0_9_e p0), (v0_16_e p1), (v0_23_e p2), (v0_30_e p3), (v0_38_e p4)] : List Int32)) = (0 : Int32)
              · rw [(show (v0_485_s0 p0 p1 p2 p3 p4) = (1 : Int32) from if_pos hc485_979)] at k980
                refine XS.ifNo X977.here hx rfl (hb hby at_485) rfl ((if0 _ _).trans (teq hc485_979).2) ?_
                refine XS.iconst X977.here hx rfl (hb hby at_488) ?_
                refine XS.goto X977.here hx rfl (pc0 := 489) (pc' := 493) rfl (hb hby at_489) (by decide) (by decide) ?_
                exact k980
              · rw [(show (v0_485_s0 p0 p1 p2 p3 p4) = (0 : Int32) from if_neg hc485_979)] at k980
                refine XS.ifYes X977.here hx rfl (pc0 := 485) (pc' := 492) rfl (hb hby at_485) rfl ((if0 _ _).trans (feq hc485_979).2) (by decide) (by decide) ?_
                refine XS.iconst X977.here hx rfl (hb hby at_492) ?_
                exact k980
            suffices k982 : Steps p.tables e below (T977.setTop (mkF m 501 #[iv p0, iv p1, iv p2, iv p3, iv p4, rv b853, iv (v0_107_j p0 p1 p2 p3 p4), rv b888, iv 1, .val .null] [(.int (v0_493_s0 p0 p1 p2 p3 p4))])) t by
              by_cases hc493_981 : (nar .boolean (v0_405_f_failed p0 p1 p2 p3 p4)) = (v0_485_s0 p0 p1 p2 p3 p4)
              · rw [(show (v0_493_s0 p0 p1 p2 p3 p4) = (1 : Int32) from if_pos hc493_981)] at k982
                refine XS.icmpNo X977.here hx rfl (hb hby at_493) rfl (teq hc493_981).2 ?_
                refine XS.iconst X977.here hx rfl (hb hby at_496) ?_
                refine XS.goto X977.here hx rfl (pc0 := 497) (pc' := 501) rfl (hb hby at_497) (by decide) (by decide) ?_
                exact k982
              · rw [(show (v0_493_s0 p0 p1 p2 p3 p4) = (0 : Int32) from if_neg hc493_981)] at k982
                refine XS.icmpYes X977.here hx rfl (pc0 := 493) (pc' := 500) rfl (hb hby at_493) rfl (feq hc493_981).2 (by decide) (by decide) ?_
                show Steps p.tables e below (T977.setTop (mkF m 500 #[iv p0, iv p1, iv p2, iv p3, iv p4, rv b853, iv (v0_107_j p0 p1 p2 p3 p4), rv b888, iv 1, .val .null] [])) _
                refine XS.iconst X977.here hx rfl (hb hby at_500) ?_
                exact k982
            exact kk)
          obtain ⟨fs, hr, hrun, hended, hW, hsame⟩ := X977.leave (v := some (.int (nar .boolean (v0_493_s0 p0 p1 p2 p3 p4)))) (fun h => by rw [Bd.returns] at h; cases h) hlk
          have hv : (v0_ret p0 p1 p2 p3 p4) = (nar .boolean (v0_493_s0 p0 p1 p2 p3 p4)) := ((if_pos hC929).trans ((if_pos hC945).trans (if_pos hC961)))
          have hone : (nar .boolean (v0_493_s0 p0 p1 p2 p3 p4)) = 1 := hv.symm.trans (own_law p0 p1 p2 p3 p4)
          refine ⟨_, _, k983 _ ?_, hrun, hended, _, _, rfl, ?_, ⟨_, rfl⟩, hW, hsame.mono (by decide) (by decide)⟩
          · show Steps p.tables e below (T977.setTop (mkF m 501 #[iv p0, iv p1, iv p2, iv p3, iv p4, rv b853, iv (v0_107_j p0 p1 p2 p3 p4), rv b888, iv 1, .val .null] [(.int (v0_493_s0 p0 p1 p2 p3 p4))])) _
            exact retN X977 hx (t := .boolean) Bd.returns (by simp) (hb hby at_501) hr
          · show Q0 Z p0 p1 p2 p3 p4 h0 n0 _ T977.heap _
            rw [e977]
            exact ⟨congrArg (fun z => some (Value.int z)) hone, N977⟩
        · obtain ⟨hC961, xr_961, k_xr_961, rfl, N961q, Kq961, Eq961_0, Fq961_0, Fq961_1, Fq961_2, Fq961_3, Fq961_4, Vq961_0, VLq961_0, sx_xr_961, Vx_xr_961, VLx_xr_961⟩ := hQ961
          have ne_b853_xr_961 : b853 ≠ xr_961 := Nat.ne_of_lt (Nat.lt_of_lt_of_le f957.lt sx_xr_961)
          have ne_b888_xr_961 : b888 ≠ xr_961 := Nat.ne_of_lt (Nat.lt_of_lt_of_le Eq945_0.lt sx_xr_961)
          have ne_xl_891_xr_961 : xl_891 ≠ xr_961 := Nat.ne_of_lt (Nat.lt_of_lt_of_le V945n.lt sx_xr_961)
          have sz_xr_961 : h0.size ≤ xr_961 := Nat.le_trans K945.1 sx_xr_961
          have g_xr_961 : n0 ≤ xr_961 := Nat.le_trans Z0 sz_xr_961
          have K961 : Keep h0 T961.heap [] := K945.trans Kq961 (allS (Or.inr sz_b888) (allS (Or.inr sz_xl_891) all0))
          have Fn961_1 : Fld Z T961.heap b888 cSe "boundaryLine" "Z" (.int (v0_405_f_boundaryLine p0 p1 p2 p3 p4)) := Fq961_1
          have Fn961_2 : Fld Z T961.heap b888 cSe "failed" "Z" (.int (v0_405_f_failed p0 p1 p2 p3 p4)) := Fq961_2
          have Fn961_3 : Fld Z T961.heap b888 cSe "position" "I" (.int (v0_405_f_position p0 p1 p2 p3)) := Fq961_3
          have Fn961_4 : Fld Z T961.heap b888 cSe "lineLength" "I" (.int (v0_405_f_lineLength p0 p1 p2 p3 p4)) := Fq961_4
          have V961n : Arv Z T961.heap xl_891 k_xl_891 .byte (2048 : Int32) (List.map Value.int (v0_405_L0 p0 p1 p2 p3 p4)) (.int 0) := Vq961_0
          have VL961n : (v0_405_L0 p0 p1 p2 p3 p4).length = ((2048 : Int32)).toNatClampNeg := VLq961_0
          have hCn961 : ¬ ((v0_405_cls p0 p1 p2 p3 p4) = (0 : Int32)) := fun q => absurd (hC961.symm.trans q) (by decide)
          have N961 := Fr.app N951 N961q
          have k963 := fun (t : State) (kk : Steps p.tables e below (T961.setTop (mkF m 408 #[iv p0, iv p1, iv p2, iv p3, iv p4, rv b853, iv (v0_107_j p0 p1 p2 p3 p4), rv b888, iv 1, .val .null] [(.ref xr_961)])) t) => k960 t (st961.trans kk)
          have k984 := fun (t : State) (kk : Steps p.tables e below (T961.setTop (mkF m 423 #[iv p0, iv p1, iv p2, iv p3, iv p4, rv b853, iv (v0_107_j p0 p1 p2 p3 p4), rv b888, iv 1, rv xr_961] [(.int 4), (.int (v0_107_j p0 p1 p2 p3 p4)), (.int 4), (.ref b853), (.ref xr_961)])) t) => k963 t (by
            refine XS.astore X961.here hx rfl (hb hby at_408) rfl rfl (l' := #[iv p0, iv p1, iv p2, iv p3, iv p4, rv b853, iv (v0_107_j p0 p1 p2 p3 p4), rv b888, iv 1, rv xr_961]) rfl ?_
            refine XS.iload X961.here hx rfl (hb hby at_410) rfl ?_
            refine XS.ifNo X961.here hx rfl (hb hby at_412) rfl ((if0 _ _).trans (feq (by decide : ¬ ((1 : Int32) = (0 : Int32)))).1) ?_
            refine XS.aload X961.here hx rfl (hb hby at_415) rfl rfl ?_
            refine XS.aload X961.here hx rfl (hb hby at_417) rfl rfl ?_
            refine XS.iconst X961.here hx rfl (hb hby at_419) ?_
            refine XS.iload X961.here hx rfl (hb hby at_420) rfl ?_
            refine XS.iconst X961.here hx rfl (hb hby at_422) ?_
            exact kk)
          have hc423_985 : (v0_107_j p0 p1 p2 p3 p4) = (4 : Int32) := own_e4y p0 p1 p2 p3 p4 hC929 hC945 hCn961
          have k986 := fun (t : State) (kk : Steps p.tables e below (T961.setTop (mkF m 431 #[iv p0, iv p1, iv p2, iv p3, iv p4, rv b853, iv (v0_107_j p0 p1 p2 p3 p4), rv b888, iv 1, rv xr_961] [(.int 1), (.int 4), (.ref b853), (.ref xr_961)])) t) => k984 t (by
            refine XS.icmpNo X961.here hx rfl (hb hby at_423) rfl (teq hc423_985).2 ?_
            refine XS.iconst X961.here hx rfl (hb hby at_426) ?_
            refine XS.goto X961.here hx rfl (pc0 := 427) (pc' := 431) rfl (hb hby at_427) (by decide) (by decide) ?_
            exact kk)
          have f987 := (f957.keep Kq961 (ninS ne_b853_b888 (ninS ne_b853_xl_891 nin0)))
          have Zz988 : n0 ≤ T961.heap.size := (Nat.le_trans Z0 K961.1)
          obtain ⟨_, _, ⟨T988, L988, k988, n988⟩, -, X988, ⟨Lc988, hQ988, l988, y988, z988⟩, st988⟩ := Jvm.LawKit.callS X961 hx (y := (⟨cLw, "hits", "([B[BIZ)Z"⟩ : MethodName)) hown (mvT hZ (hw _ (List.mem_of_getElem? (i := 35) rfl))) (mvT hZ (hw _ (List.mem_of_getElem? (i := 36) rfl))) (mvT hZ (hw _ (List.mem_of_getElem? (i := 3) rfl))) (mvT hZ (hw _ (List.mem_of_getElem? (i := 37) rfl))) (by decide) (backOf (W := 0) (rm7 l Z a0 hw [] xr_961 b853 (4 : Int32) (1 : Int32) k853 ([(v0_9_e p0), (v0_16_e p1), (v0_23_e p2), (v0_30_e p3), (v0_38_e p4)] : List Int32) k_xr_961 ((v0_335_f_lineLength p0 p1 p2 p3) - (2 : Int32)) (v13_27_L (2 : Int32) (v0_335_f_lineLength p0 p1 p2 p3) (v0_335_L0 p0 p1 p2 p3)) T961.heap n0 Zz988 (by decide : ¬ (4 : Int32) < 0 ∧ (4 : Int32) < (5 : Int32)) f987 VL883 Vx_xr_961 VLx_xr_961) hZ (hw _ (List.mem_of_getElem? (i := 37) rfl)) (hw _ (List.mem_of_getElem? (i := 3) rfl)) (by decide) (by decide)) (g := (mkF m 431 #[iv p0, iv p1, iv p2, iv p3, iv p4, rv b853, iv (v0_107_j p0 p1 p2 p3 p4), rv b888, iv 1, rv xr_961] [(.int 1), (.int 4), (.ref b853), (.ref xr_961)])) rfl (by rw [hml]; rfl) (argsL := [(.ref xr_961), (.ref b853), (.int 4), (.int 1)]) (rest := []) (lenOf pd_9 rfl) rfl (by show 2 * 0 + _ ≤ _; exact Nat.le_of_eq rfl) (hb hby at_431) (fun _ _ => ⟨rfl, rfl, (by decide : 8 + 0 ≤ _), (by decide : 2098 + 0 ≤ _)⟩)
          dsimp only [Pt.U, Pt.locs, Pt.cells, Pt.slots] at X988 l988 y988 z988 st988 hQ988
          subst l988 y988 z988
          obtain ⟨rfl, N988q, e988⟩ := hQ988
          have N988 := Fr.app N961 N988q
          have k989 := fun (t : State) (kk : Steps p.tables e below (T988.setTop (mkF m 434 #[iv p0, iv p1, iv p2, iv p3, iv p4, rv b853, iv (v0_107_j p0 p1 p2 p3 p4), rv b888, iv 1, rv xr_961] [(.int (v7_ret (4 : Int32) (1 : Int32) ([(v0_9_e p0), (v0_16_e p1), (v0_23_e p2), (v0_30_e p3), (v0_38_e p4)] : List Int32) ((v0_335_f_lineLength p0 p1 p2 p3) - (2 : Int32)) (v13_27_L (2 : Int32) (v0_335_f_lineLength p0 p1 p2 p3) (v0_335_L0 p0 p1 p2 p3))))])) t) => k986 t (st988 _ kk)
          by_cases hc434_990 : (v7_ret (4 : Int32) (1 : Int32) ([(v0_9_e p0), (v0_16_e p1), (v0_23_e p2), (v0_30_e p3), (v0_38_e p4)] : List Int32) ((v0_335_f_lineLength p0 p1 p2 p3) - (2 : Int32)) (v13_27_L (2 : Int32) (v0_335_f_lineLength p0 p1 p2 p3) (v0_335_L0 p0 p1 p2 p3))) = (0 : Int32)
          · have k991 := fun (t : State) (kk : Steps p.tables e below (T988.setTop (mkF m 447 #[iv p0, iv p1, iv p2, iv p3, iv p4, rv b853, iv (v0_107_j p0 p1 p2 p3 p4), rv b888, iv 0, rv xr_961] [(.int 4), (.int (v0_107_j p0 p1 p2 p3 p4))])) t) => k989 t (by
              show Steps p.tables e below (T988.setTop (mkF m 434 #[iv p0, iv p1, iv p2, iv p3, iv p4, rv b853, iv (v0_107_j p0 p1 p2 p3 p4), rv b888, iv 1, rv xr_961] [(.int (v7_ret (4 : Int32) (1 : Int32) ([(v0_9_e p0), (v0_16_e p1), (v0_23_e p2), (v0_30_e p3), (v0_38_e p4)] : List Int32) ((v0_335_f_lineLength p0 p1 p2 p3) - (2 : Int32)) (v13_27_L (2 : Int32) (v0_335_f_lineLength p0 p1 p2 p3) (v0_335_L0 p0 p1 p2 p3))))])) _
              refine XS.ifYes X988.here hx rfl (pc0 := 434) (pc' := 441) rfl (hb hby at_434) rfl ((if0 _ _).trans (teq hc434_990).1) (by decide) (by decide) ?_
              refine XS.iconst X988.here hx rfl (hb hby at_441) ?_
              refine XS.istore X988.here hx rfl (hb hby at_442) rfl (l' := #[iv p0, iv p1, iv p2, iv p3, iv p4, rv b853, iv (v0_107_j p0 p1 p2 p3 p4), rv b888, iv 0, rv xr_961]) rfl ?_
              refine XS.iload X988.here hx rfl (hb hby at_444) rfl ?_
              refine XS.iconst X988.here hx rfl (hb hby at_446) ?_
              exact kk)
            have hc447_992 : (v0_107_j p0 p1 p2 p3 p4) = (4 : Int32) := own_e4y p0 p1 p2 p3 p4 hC929 hC945 hCn961
            have k993 := fun (t : State) (kk : Steps p.tables e below (T988.setTop (mkF m 468 #[iv p0, iv p1, iv p2, iv p3, iv p4, rv b853, iv (v0_107_j p0 p1 p2 p3 p4), rv b888, iv 0, rv xr_961] [(.int 0)])) t) => k991 t (by
              refine XS.icmpNo X988.here hx rfl (hb hby at_447) rfl (teq hc447_992).2 ?_
              refine XS.iload X988.here hx rfl (hb hby at_450) rfl ?_
              refine XS.ifYes X988.here hx rfl (pc0 := 452) (pc' := 467) rfl (hb hby at_452) rfl ((if0 _ _).trans (teq (rfl : (0 : Int32) = (0 : Int32))).1) (by decide) (by decide) ?_
              refine XS.iconst X988.here hx rfl (hb hby at_467) ?_
              exact kk)
            obtain ⟨fs, hr, hrun, hended, hW, hsame⟩ := X988.leave (v := some (.int 0)) (fun h => by rw [Bd.returns] at h; cases h) hlk
            have hv : (v0_ret p0 p1 p2 p3 p4) = (0 : Int32) := ((if_pos hC929).trans ((if_pos hC945).trans ((if_neg hCn961).trans (if_pos hc434_990))))
            have hone : (0 : Int32) = 1 := hv.symm.trans (own_law p0 p1 p2 p3 p4)
            exact absurd hone (by decide)
          · have k994 := fun (t : State) (kk : Steps p.tables e below (T988.setTop (mkF m 447 #[iv p0, iv p1, iv p2, iv p3, iv p4, rv b853, iv (v0_107_j p0 p1 p2 p3 p4), rv b888, iv 1, rv xr_961] [(.int 4), (.int (v0_107_j p0 p1 p2 p3 p4))])) t) => k989 t (by
              refine XS.ifNo X988.here hx rfl (hb hby at_434) rfl ((if0 _ _).trans (feq hc434_990).1) ?_
              refine XS.iconst X988.here hx rfl (hb hby at_437) ?_
              refine XS.goto X988.here hx rfl (pc0 := 438) (pc' := 442) rfl (hb hby at_438) (by decide) (by decide) ?_
              show Steps p.tables e below (T988.setTop (mkF m 442 #[iv p0, iv p1, iv p2, iv p3, iv p4, rv b853, iv (v0_107_j p0 p1 p2 p3 p4), rv b888, iv 1, rv xr_961] [(.int 1)])) _
              refine XS.istore X988.here hx rfl (hb hby at_442) rfl (l' := #[iv p0, iv p1, iv p2, iv p3, iv p4, rv b853, iv (v0_107_j p0 p1 p2 p3 p4), rv b888, iv 1, rv xr_961]) rfl ?_
              refine XS.iload X988.here hx rfl (hb hby at_444) rfl ?_
              refine XS.iconst X988.here hx rfl (hb hby at_446) ?_
              exact kk)
            have hc447_995 : (v0_107_j p0 p1 p2 p3 p4) = (4 : Int32) := own_e4y p0 p1 p2 p3 p4 hC929 hC945 hCn961
            have k996 := fun (t : State) (kk : Steps p.tables e below (T988.setTop (mkF m 457 #[iv p0, iv p1, iv p2, iv p3, iv p4, rv b853, iv (v0_107_j p0 p1 p2 p3 p4), rv b888, iv 1, rv xr_961] [(.ref b888)])) t) => k994 t (by
              refine XS.icmpNo X988.here hx rfl (hb hby at_447) rfl (teq hc447_995).2 ?_
              refine XS.iload X988.here hx rfl (hb hby at_450) rfl ?_
              refine XS.ifNo X988.here hx rfl (hb hby at_452) rfl ((if0 _ _).trans (feq (by decide : ¬ ((1 : Int32) = (0 : Int32)))).1) ?_
              refine XS.aload X988.here hx rfl (hb hby at_455) rfl rfl ?_
              exact kk)
            have Zz997 : n0 ≤ T961.heap.size := (Nat.le_trans Z0 K961.1)
            obtain ⟨cq997, kq997, q997a, q997b, q997c⟩ := isOf hZ e988 Eq961_0
            obtain ⟨_, _, ⟨T997, L997, k997, n997⟩, -, X997, ⟨Lc997, hQ997, l997, y997, z997⟩, st997⟩ := X988.virtualBack hx (y := (⟨cSe, "failed", "()Z"⟩ : MethodName)) (z := (⟨cSe, "failed", "()Z"⟩ : MethodName)) hown (mvT hZ (hw _ (List.mem_of_getElem? (i := 38) rfl))) (mvT hZ (hw _ (List.mem_of_getElem? (i := 39) rfl))) (notFace_of_selects (args := #[]) (mvT hZ (hw _ (List.mem_of_getElem? (i := 41) rfl)))) (mvT hZ (hw _ (List.mem_of_getElem? (i := 41) rfl))) (mvT hZ (hw _ (List.mem_of_getElem? (i := 40) rfl))) (by decide) (backOf (W := 0) (rm8 l Z a0 hw [] b888 (v0_405_f_failed p0 p1 p2 p3 p4) T961.heap n0 Zz997 Fn961_2) hZ (hw _ (List.mem_of_getElem? (i := 42) rfl)) (hw _ (List.mem_of_getElem? (i := 13) rfl)) (by decide) (by decide)) q997a q997c (g := (mkF m 457 #[iv p0, iv p1, iv p2, iv p3, iv p4, rv b853, iv (v0_107_j p0 p1 p2 p3 p4), rv b888, iv 1, rv xr_961] [(.ref b888)])) rfl (by rw [hml]; rfl) (Steps.refl _) (argsL := []) (rest := []) (lenOf pd_10 rfl) rfl (by show 2 * 0 + _ ≤ _; exact Nat.le_of_eq rfl) (hb hby at_457) (fun _ _ => ⟨rfl, e988, (by decide : 8 + 0 ≤ _), (by decide : 2098 + 0 ≤ _)⟩)
            dsimp only [Pt.U, Pt.locs, Pt.cells, Pt.slots] at X997 l997 y997 z997 st997 hQ997
            subst l997 y997 z997
            obtain ⟨rfl, N997q, e997⟩ := hQ997
            have N997 := Fr.app N988 N997q
            have k998 := fun (t : State) (kk : Steps p.tables e below (T997.setTop (mkF m 460 #[iv p0, iv p1, iv p2, iv p3, iv p4, rv b853, iv (v0_107_j p0 p1 p2 p3 p4), rv b888, iv 1, rv xr_961] [(.int (nar .boolean (v0_405_f_failed p0 p1 p2 p3 p4)))])) t) => k996 t (st997.trans kk)
            have k1001 := fun (t : State) (kk : Steps p.tables e below (T997.setTop (mkF m 468 #[iv p0, iv p1, iv p2, iv p3, iv p4, rv b853, iv (v0_107_j p0 p1 p2 p3 p4), rv b888, iv 1, rv xr_961] [(.int (v0_460_s0 p0 p1 p2 p3 p4))])) t) => k998 t (by
              suffices k1000 : Steps p.tables e below (T997.setTop (mkF m 468 #[iv p0, iv p1, iv p2, iv p3, iv p4, rv b853, iv (v0_107_j p0 p1 p2 p3 p4), rv b888, iv 1, rv xr_961] [(.int (v0_460_s0 p0 p1 p2 p3 p4))])) t by
                by_cases hc460_999 : (nar .boolean (v0_405_f_failed p0 p1 p2 p3 p4)) = (0 : Int32)
                · rw [(show (v0_460_s0 p0 p1 p2 p3 p4) = (1 : Int32) from if_pos hc460_999)] at k1000
                  refine XS.ifNo X997.here hx rfl (hb hby at_460) rfl ((if0 _ _).trans (teq hc460_999).2) ?_
                  refine XS.iconst X997.here hx rfl (hb hby at_463) ?_
                  refine XS.goto X997.here hx rfl (pc0 := 464) (pc' := 468) rfl (hb hby at_464) (by decide) (by decide) ?_
                  exact k1000
                · rw [(show (v0_460_s0 p0 p1 p2 p3 p4) = (0 : Int32) from if_neg hc460_999)] at k1000
                  refine XS.ifYes X997.here hx rfl (pc0 := 460) (pc' := 467) rfl (hb hby at_460) rfl ((if0 _ _).trans (feq hc460_999).2) (by decide) (by decide) ?_
                  refine XS.iconst X997.here hx rfl (hb hby at_467) ?_
                  exact k1000
              exact kk)
            obtain ⟨fs, hr, hrun, hended, hW, hsame⟩ := X997.leave (v := some (.int (nar .boolean (v0_460_s0 p0 p1 p2 p3 p4)))) (fun h => by rw [Bd.returns] at h; cases h) hlk
            have hv : (v0_ret p0 p1 p2 p3 p4) = (nar .boolean (v0_460_s0 p0 p1 p2 p3 p4)) := ((if_pos hC929).trans ((if_pos hC945).trans ((if_neg hCn961).trans (if_neg hc434_990))))
            have hone : (nar .boolean (v0_460_s0 p0 p1 p2 p3 p4)) = 1 := hv.symm.trans (own_law p0 p1 p2 p3 p4)
            refine ⟨_, _, k1001 _ ?_, hrun, hended, _, _, rfl, ?_, ⟨_, rfl⟩, hW, hsame.mono (by decide) (by decide)⟩
            · show Steps p.tables e below (T997.setTop (mkF m 468 #[iv p0, iv p1, iv p2, iv p3, iv p4, rv b853, iv (v0_107_j p0 p1 p2 p3 p4), rv b888, iv 1, rv xr_961] [(.int (v0_460_s0 p0 p1 p2 p3 p4))])) _
              exact retN X997 hx (t := .boolean) Bd.returns (by simp) (hb hby at_468) hr
            · show Q0 Z p0 p1 p2 p3 p4 h0 n0 _ T997.heap _
              rw [e997]
              exact ⟨congrArg (fun z => some (Value.int z)) hone, N997⟩
      · obtain ⟨hC945, xr_945, k_xr_945, rfl, N945q, Kq945, Eq945_0, Fq945_0, Fq945_1, Fq945_2, Fq945_3, Fq945_4, Vq945_0, VLq945_0, sx_xr_945, Vx_xr_945, VLx_xr_945⟩ := hQ945
        have ne_b853_xr_945 : b853 ≠ xr_945 := Nat.ne_of_lt (Nat.lt_of_lt_of_le f941.lt sx_xr_945)
        have ne_b888_xr_945 : b888 ≠ xr_945 := Nat.ne_of_lt (Nat.lt_of_lt_of_le Eq929_0.lt sx_xr_945)
        have ne_xl_891_xr_945 : xl_891 ≠ xr_945 := Nat.ne_of_lt (Nat.lt_of_lt_of_le V929n.lt sx_xr_945)
        have sz_xr_945 : h0.size ≤ xr_945 := Nat.le_trans K929.1 sx_xr_945
        have g_xr_945 : n0 ≤ xr_945 := Nat.le_trans Z0 sz_xr_945
        have K945 : Keep h0 T945.heap [] := K929.trans Kq945 (allS (Or.inr sz_b888) (allS (Or.inr sz_xl_891) all0))
        have Fn945_1 : Fld Z T945.heap b888 cSe "boundaryLine" "Z" (.int (v0_335_f_boundaryLine p0 p1 p2 p3)) := Fq945_1
        have Fn945_2 : Fld Z T945.heap b888 cSe "failed" "Z" (.int (v0_335_f_failed p0 p1 p2 p3)) := Fq945_2
        have Fn945_3 : Fld Z T945.heap b888 cSe "position" "I" (.int (v0_335_f_position p0 p1 p2)) := Fq945_3
        have Fn945_4 : Fld Z T945.heap b888 cSe "lineLength" "I" (.int (v0_335_f_lineLength p0 p1 p2 p3)) := Fq945_4
        have V945n : Arv Z T945.heap xl_891 k_xl_891 .byte (2048 : Int32) (List.map Value.int (v0_335_L0 p0 p1 p2 p3)) (.int 0) := Vq945_0
        have VL945n : (v0_335_L0 p0 p1 p2 p3).length = ((2048 : Int32)).toNatClampNeg := VLq945_0
        have hCn945 : ¬ ((v0_335_cls p0 p1 p2 p3) = (0 : Int32)) := fun q => absurd (hC945.symm.trans q) (by decide)
        have N945 := Fr.app N935 N945q
        have k947 := fun (t : State) (kk : Steps p.tables e below (T945.setTop (mkF m 338 #[iv p0, iv p1, iv p2, iv p3, iv p4, rv b853, iv (v0_107_j p0 p1 p2 p3 p4), rv b888, iv 1, .val .null] [(.ref xr_945)])) t) => k944 t (st945.trans kk)
        have k1002 := fun (t : State) (kk : Steps p.tables e below (T945.setTop (mkF m 353 #[iv p0, iv p1, iv p2, iv p3, iv p4, rv b853, iv (v0_107_j p0 p1 p2 p3 p4), rv b888, iv 1, rv xr_945] [(.int 3), (.int (v0_107_j p0 p1 p2 p3 p4)), (.int 3), (.ref b853), (.ref xr_945)])) t) => k947 t (by
          show Steps p.tables e below (T945.setTop (mkF m 338 #[iv p0, iv p1, iv p2, iv p3, iv p4, rv b853, iv (v0_107_j p0 p1 p2 p3 p4), rv b888, iv 1, .val .null] [(.ref xr_945)])) _
          refine XS.astore X945.here hx rfl (hb hby at_338) rfl rfl (l' := #[iv p0, iv p1, iv p2, iv p3, iv p4, rv b853, iv (v0_107_j p0 p1 p2 p3 p4), rv b888, iv 1, rv xr_945]) rfl ?_
          refine XS.iload X945.here hx rfl (hb hby at_340) rfl ?_
          refine XS.ifNo X945.here hx rfl (hb hby at_342) rfl ((if0 _ _).trans (feq (by decide : ¬ ((1 : Int32) = (0 : Int32)))).1) ?_
          refine XS.aload X945.here hx rfl (hb hby at_345) rfl rfl ?_
          refine XS.aload X945.here hx rfl (hb hby at_347) rfl rfl ?_
          refine XS.iconst X945.here hx rfl (hb hby at_349) ?_
          refine XS.iload X945.here hx rfl (hb hby at_350) rfl ?_
          refine XS.iconst X945.here hx rfl (hb hby at_352) ?_
          exact kk)
        have hc353_1003 : (v0_107_j p0 p1 p2 p3 p4) = (3 : Int32) := own_e3y p0 p1 p2 p3 p4 hC929 hCn945
        have k1004 := fun (t : State) (kk : Steps p.tables e below (T945.setTop (mkF m 361 #[iv p0, iv p1, iv p2, iv p3, iv p4, rv b853, iv (v0_107_j p0 p1 p2 p3 p4), rv b888, iv 1, rv xr_945] [(.int 1), (.int 3), (.ref b853), (.ref xr_945)])) t) => k1002 t (by
          refine XS.icmpNo X945.here hx rfl (hb hby at_353) rfl (teq hc353_1003).2 ?_
          refine XS.iconst X945.here hx rfl (hb hby at_356) ?_
          refine XS.goto X945.here hx rfl (pc0 := 357) (pc' := 361) rfl (hb hby at_357) (by decide) (by decide) ?_
          exact kk)
        have f1005 := (f941.keep Kq945 (ninS ne_b853_b888 (ninS ne_b853_xl_891 nin0)))
        have Zz1006 : n0 ≤ T945.heap.size := (Nat.le_trans Z0 K945.1)
        obtain ⟨_, _, ⟨T1006, L1006, k1006, n1006⟩, -, X1006, ⟨Lc1006, hQ1006, l1006, y1006, z1006⟩, st1006⟩ := Jvm.LawKit.callS X945 hx (y := (⟨cLw, "hits", "([B[BIZ)Z"⟩ : MethodName)) hown (mvT hZ (hw _ (List.mem_of_getElem? (i := 35) rfl))) (mvT hZ (hw _ (List.mem_of_getElem? (i := 36) rfl))) (mvT hZ (hw _ (List.mem_of_getElem? (i := 3) rfl))) (mvT hZ (hw _ (List.mem_of_getElem? (i := 37) rfl))) (by decide) (backOf (W := 0) (rm7 l Z a0 hw [] xr_945 b853 (3 : Int32) (1 : Int32) k853 ([(v0_9_e p0), (v0_16_e p1), (v0_23_e p2), (v0_30_e p3), (v0_38_e p4)] : List Int32) k_xr_945 ((v0_265_f_lineLength p0 p1 p2) - (2 : Int32)) (v13_27_L (2 : Int32) (v0_265_f_lineLength p0 p1 p2) (v0_265_L0 p0 p1 p2)) T945.heap n0 Zz1006 (by decide : ¬ (3 : Int32) < 0 ∧ (3 : Int32) < (5 : Int32)) f1005 VL883 Vx_xr_945 VLx_xr_945) hZ (hw _ (List.mem_of_getElem? (i := 37) rfl)) (hw _ (List.mem_of_getElem? (i := 3) rfl)) (by decide) (by decide)) (g := (mkF m 361 #[iv p0, iv p1, iv p2, iv p3, iv p4, rv b853, iv (v0_107_j p0 p1 p2 p3 p4), rv b888, iv 1, rv xr_945] [(.int 1), (.int 3), (.ref b853), (.ref xr_945)])) rfl (by rw [hml]; rfl) (argsL := [(.ref xr_945), (.ref b853), (.int 3), (.int 1)]) (rest := []) (lenOf pd_9 rfl) rfl (by show 2 * 0 + _ ≤ _; exact Nat.le_of_eq rfl) (hb hby at_361) (fun _ _ => ⟨rfl, rfl, (by decide : 7 + 0 ≤ _), (by decide : 2090 + 0 ≤ _)⟩)
        dsimp only [Pt.U, Pt.locs, Pt.cells, Pt.slots] at X1006 l1006 y1006 z1006 st1006 hQ1006
        subst l1006 y1006 z1006
        obtain ⟨rfl, N1006q, e1006⟩ := hQ1006
        have N1006 := Fr.app N945 N1006q
        have k1007 := fun (t : State) (kk : Steps p.tables e below (T1006.setTop (mkF m 364 #[iv p0, iv p1, iv p2, iv p3, iv p4, rv b853, iv (v0_107_j p0 p1 p2 p3 p4), rv b888, iv 1, rv xr_945] [(.int (v7_ret (3 : Int32) (1 : Int32) ([(v0_9_e p0), (v0_16_e p1), (v0_23_e p2), (v0_30_e p3), (v0_38_e p4)] : List Int32) ((v0_265_f_lineLength p0 p1 p2) - (2 : Int32)) (v13_27_L (2 : Int32) (v0_265_f_lineLength p0 p1 p2) (v0_265_L0 p0 p1 p2))))])) t) => k1004 t (st1006 _ kk)
        by_cases hc364_1008 : (v7_ret (3 : Int32) (1 : Int32) ([(v0_9_e p0), (v0_16_e p1), (v0_23_e p2), (v0_30_e p3), (v0_38_e p4)] : List Int32) ((v0_265_f_lineLength p0 p1 p2) - (2 : Int32)) (v13_27_L (2 : Int32) (v0_265_f_lineLength p0 p1 p2) (v0_265_L0 p0 p1 p2))) = (0 : Int32)
        · have k1009 := fun (t : State) (kk : Steps p.tables e below (T1006.setTop (mkF m 377 #[iv p0, iv p1, iv p2, iv p3, iv p4, rv b853, iv (v0_107_j p0 p1 p2 p3 p4), rv b888, iv 0, rv xr_945] [(.int 3), (.int (v0_107_j p0 p1 p2 p3 p4))])) t) => k1007 t (by
            refine XS.ifYes X1006.here hx rfl (pc0 := 364) (pc' := 371) rfl (hb hby at_364) rfl ((if0 _ _).trans (teq hc364_1008).1) (by decide) (by decide) ?_
            show Steps p.tables e below (T1006.setTop (mkF m 371 #[iv p0, iv p1, iv p2, iv p3, iv p4, rv b853, iv (v0_107_j p0 p1 p2 p3 p4), rv b888, iv 1, rv xr_945] [])) _
            refine XS.iconst X1006.here hx rfl (hb hby at_371) ?_
            refine XS.istore X1006.here hx rfl (hb hby at_372) rfl (l' := #[iv p0, iv p1, iv p2, iv p3, iv p4, rv b853, iv (v0_107_j p0 p1 p2 p3 p4), rv b888, iv 0, rv xr_945]) rfl ?_
            refine XS.iload X1006.here hx rfl (hb hby at_374) rfl ?_
            refine XS.iconst X1006.here hx rfl (hb hby at_376) ?_
            exact kk)
          have hc377_1010 : (v0_107_j p0 p1 p2 p3 p4) = (3 : Int32) := own_e3y p0 p1 p2 p3 p4 hC929 hCn945
          have k1011 := fun (t : State) (kk : Steps p.tables e below (T1006.setTop (mkF m 398 #[iv p0, iv p1, iv p2, iv p3, iv p4, rv b853, iv (v0_107_j p0 p1 p2 p3 p4), rv b888, iv 0, rv xr_945] [(.int 0)])) t) => k1009 t (by
            refine XS.icmpNo X1006.here hx rfl (hb hby at_377) rfl (teq hc377_1010).2 ?_
            refine XS.iload X1006.here hx rfl (hb hby at_380) rfl ?_
            refine XS.ifYes X1006.here hx rfl (pc0 := 382) (pc' := 397) rfl (hb hby at_382) rfl ((if0 _ _).trans (teq (rfl : (0 : Int32) = (0 : Int32))).1) (by decide) (by decide) ?_
            refine XS.iconst X1006.here hx rfl (hb hby at_397) ?_
            exact kk)
          obtain ⟨fs, hr, hrun, hended, hW, hsame⟩ := X1006.leave (v := some (.int 0)) (fun h => by rw [Bd.returns] at h; cases h) hlk
          have hv : (v0_ret p0 p1 p2 p3 p4) = (0 : Int32) := ((if_pos hC929).trans ((if_neg hCn945).trans (if_pos hc364_1008)))
          have hone : (0 : Int32) = 1 := hv.symm.trans (own_law p0 p1 p2 p3 p4)
          exact absurd hone (by decide)
        · have k1012 := fun (t : State) (kk : Steps p.tables e below (T1006.setTop (mkF m 377 #[iv p0, iv p1, iv p2, iv p3, iv p4, rv b853, iv (v0_107_j p0 p1 p2 p3 p4), rv b888, iv 1, rv xr_945] [(.int 3), (.int (v0_107_j p0 p1 p2 p3 p4))])) t) => k1007 t (by
            refine XS.ifNo X1006.here hx rfl (hb hby at_364) rfl ((if0 _ _).trans (feq hc364_1008).1) ?_
            refine XS.iconst X1006.here hx rfl (hb hby at_367) ?_
            refine XS.goto X1006.here hx rfl (pc0 := 368) (pc' := 372) rfl (hb hby at_368) (by decide) (by decide) ?_
            refine XS.istore X1006.here hx rfl (hb hby at_372) rfl (l' := #[iv p0, iv p1, iv p2, iv p3, iv p4, rv b853, iv (v0_107_j p0 p1 p2 p3 p4), rv b888, iv 1, rv xr_945]) rfl ?_
            show Steps p.tables e below (T1006.setTop (mkF m 374 #[iv p0, iv p1, iv p2, iv p3, iv p4, rv b853, iv (v0_107_j p0 p1 p2 p3 p4), rv b888, iv 1, rv xr_945] [])) _
            refine XS.iload X1006.here hx rfl (hb hby at_374) rfl ?_
            refine XS.iconst X1006.here hx rfl (hb hby at_376) ?_
            exact kk)
          have hc377_1013 : (v0_107_j p0 p1 p2 p3 p4) = (3 : Int32) := own_e3y p0 p1 p2 p3 p4 hC929 hCn945
          have k1014 := fun (t : State) (kk : Steps p.tables e below (T1006.setTop (mkF m 387 #[iv p0, iv p1, iv p2, iv p3, iv p4, rv b853, iv (v0_107_j p0 p1 p2 p3 p4), rv b888, iv 1, rv xr_945] [(.ref b888)])) t) => k1012 t (by
            refine XS.icmpNo X1006.here hx rfl (hb hby at_377) rfl (teq hc377_1013).2 ?_
            refine XS.iload X1006.here hx rfl (hb hby at_380) rfl ?_
            refine XS.ifNo X1006.here hx rfl (hb hby at_382) rfl ((if0 _ _).trans (feq (by decide : ¬ ((1 : Int32) = (0 : Int32)))).1) ?_
            refine XS.aload X1006.here hx rfl (hb hby at_385) rfl rfl ?_
            exact kk)
          have Zz1015 : n0 ≤ T945.heap.size := (Nat.le_trans Z0 K945.1)
          obtain ⟨cq1015, kq1015, q1015a, q1015b, q1015c⟩ := isOf hZ e1006 Eq945_0
          obtain ⟨_, _, ⟨T1015, L1015, k1015, n1015⟩, -, X1015, ⟨Lc1015, hQ1015, l1015, y1015, z1015⟩, st1015⟩ := X1006.virtualBack hx (y := (⟨cSe, "failed", "()Z"⟩ : MethodName)) (z := (⟨cSe, "failed", "()Z"⟩ : MethodName)) hown (mvT hZ (hw _ (List.mem_of_getElem? (i := 38) rfl))) (mvT hZ (hw _ (List.mem_of_getElem? (i := 39) rfl))) (notFace_of_selects (args := #[]) (mvT hZ (hw _ (List.mem_of_getElem? (i := 41) rfl)))) (mvT hZ (hw _ (List.mem_of_getElem? (i := 41) rfl))) (mvT hZ (hw _ (List.mem_of_getElem? (i := 40) rfl))) (by decide) (backOf (W := 0) (rm8 l Z a0 hw [] b888 (v0_335_f_failed p0 p1 p2 p3) T945.heap n0 Zz1015 Fn945_2) hZ (hw _ (List.mem_of_getElem? (i := 42) rfl)) (hw _ (List.mem_of_getElem? (i := 13) rfl)) (by decide) (by decide)) q1015a q1015c (g := (mkF m 387 #[iv p0, iv p1, iv p2, iv p3, iv p4, rv b853, iv (v0_107_j p0 p1 p2 p3 p4), rv b888, iv 1, rv xr_945] [(.ref b888)])) rfl (by rw [hml]; rfl) (Steps.refl _) (argsL := []) (rest := []) (lenOf pd_10 rfl) rfl (by show 2 * 0 + _ ≤ _; exact Nat.le_of_eq rfl) (hb hby at_387) (fun _ _ => ⟨rfl, e1006, (by decide : 7 + 0 ≤ _), (by decide : 2090 + 0 ≤ _)⟩)
          dsimp only [Pt.U, Pt.locs, Pt.cells, Pt.slots] at X1015 l1015 y1015 z1015 st1015 hQ1015
          subst l1015 y1015 z1015
          obtain ⟨rfl, N1015q, e1015⟩ := hQ1015
          have N1015 := Fr.app N1006 N1015q
          have k1016 := fun (t : State) (kk : Steps p.tables e below (T1015.setTop (mkF m 390 #[iv p0, iv p1, iv p2, iv p3, iv p4, rv b853, iv (v0_107_j p0 p1 p2 p3 p4), rv b888, iv 1, rv xr_945] [(.int (nar .boolean (v0_335_f_failed p0 p1 p2 p3)))])) t) => k1014 t (st1015.trans kk)
          have k1019 := fun (t : State) (kk : Steps p.tables e below (T1015.setTop (mkF m 398 #[iv p0, iv p1, iv p2, iv p3, iv p4, rv b853, iv (v0_107_j p0 p1 p2 p3 p4), rv b888, iv 1, rv xr_945] [(.int (v0_390_s0 p0 p1 p2 p3))])) t) => k1016 t (by
            suffices k1018 : Steps p.tables e below (T1015.setTop (mkF m 398 #[iv p0, iv p1, iv p2, iv p3, iv p4, rv b853, iv (v0_107_j p0 p1 p2 p3 p4), rv b888, iv 1, rv xr_945] [(.int (v0_390_s0 p0 p1 p2 p3))])) t by
              by_cases hc390_1017 : (nar .boolean (v0_335_f_failed p0 p1 p2 p3)) = (0 : Int32)
              · rw [(show (v0_390_s0 p0 p1 p2 p3) = (1 : Int32) from if_pos hc390_1017)] at k1018
                refine XS.ifNo X1015.here hx rfl (hb hby at_390) rfl ((if0 _ _).trans (teq hc390_1017).2) ?_
                refine XS.iconst X1015.here hx rfl (hb hby at_393) ?_
                refine XS.goto X1015.here hx rfl (pc0 := 394) (pc' := 398) rfl (hb hby at_394) (by decide) (by decide) ?_
                exact k1018
              · rw [(show (v0_390_s0 p0 p1 p2 p3) = (0 : Int32) from if_neg hc390_1017)] at k1018
                refine XS.ifYes X1015.here hx rfl (pc0 := 390) (pc' := 397) rfl (hb hby at_390) rfl ((if0 _ _).trans (feq hc390_1017).2) (by decide) (by decide) ?_
                refine XS.iconst X1015.here hx rfl (hb hby at_397) ?_
                exact k1018
            exact kk)
          obtain ⟨fs, hr, hrun, hended, hW, hsame⟩ := X1015.leave (v := some (.int (nar .boolean (v0_390_s0 p0 p1 p2 p3)))) (fun h => by rw [Bd.returns] at h; cases h) hlk
          have hv : (v0_ret p0 p1 p2 p3 p4) = (nar .boolean (v0_390_s0 p0 p1 p2 p3)) := ((if_pos hC929).trans ((if_neg hCn945).trans (if_neg hc364_1008)))
          have hone : (nar .boolean (v0_390_s0 p0 p1 p2 p3)) = 1 := hv.symm.trans (own_law p0 p1 p2 p3 p4)
          refine ⟨_, _, k1019 _ ?_, hrun, hended, _, _, rfl, ?_, ⟨_, rfl⟩, hW, hsame.mono (by decide) (by decide)⟩
          · show Steps p.tables e below (T1015.setTop (mkF m 398 #[iv p0, iv p1, iv p2, iv p3, iv p4, rv b853, iv (v0_107_j p0 p1 p2 p3 p4), rv b888, iv 1, rv xr_945] [(.int (v0_390_s0 p0 p1 p2 p3))])) _
            exact retN X1015 hx (t := .boolean) Bd.returns (by simp) (hb hby at_398) hr
          · show Q0 Z p0 p1 p2 p3 p4 h0 n0 _ T1015.heap _
            rw [e1015]
            exact ⟨congrArg (fun z => some (Value.int z)) hone, N1015⟩
    · obtain ⟨hC929, xr_929, k_xr_929, rfl, N929q, Kq929, Eq929_0, Fq929_0, Fq929_1, Fq929_2, Fq929_3, Fq929_4, Vq929_0, VLq929_0, sx_xr_929, Vx_xr_929, VLx_xr_929⟩ := hQ929
      have ne_b853_xr_929 : b853 ≠ xr_929 := Nat.ne_of_lt (Nat.lt_of_lt_of_le f925.lt sx_xr_929)
      have ne_b888_xr_929 : b888 ≠ xr_929 := Nat.ne_of_lt (Nat.lt_of_lt_of_le Eq914_0.lt sx_xr_929)
      have ne_xl_891_xr_929 : xl_891 ≠ xr_929 := Nat.ne_of_lt (Nat.lt_of_lt_of_le V914n.lt sx_xr_929)
      have sz_xr_929 : h0.size ≤ xr_929 := Nat.le_trans K914.1 sx_xr_929
      have g_xr_929 : n0 ≤ xr_929 := Nat.le_trans Z0 sz_xr_929
      have K929 : Keep h0 T929.heap [] := K914.trans Kq929 (allS (Or.inr sz_b888) (allS (Or.inr sz_xl_891) all0))
      have Fn929_1 : Fld Z T929.heap b888 cSe "boundaryLine" "Z" (.int (v0_265_f_boundaryLine p0 p1 p2)) := Fq929_1
      have Fn929_2 : Fld Z T929.heap b888 cSe "failed" "Z" (.int (v0_265_f_failed p0 p1 p2)) := Fq929_2
      have Fn929_3 : Fld Z T929.heap b888 cSe "position" "I" (.int (v0_265_f_position p0 p1)) := Fq929_3
      have Fn929_4 : Fld Z T929.heap b888 cSe "lineLength" "I" (.int (v0_265_f_lineLength p0 p1 p2)) := Fq929_4
      have V929n : Arv Z T929.heap xl_891 k_xl_891 .byte (2048 : Int32) (List.map Value.int (v0_265_L0 p0 p1 p2)) (.int 0) := Vq929_0
      have VL929n : (v0_265_L0 p0 p1 p2).length = ((2048 : Int32)).toNatClampNeg := VLq929_0
      have hCn929 : ¬ ((v0_265_cls p0 p1 p2) = (0 : Int32)) := fun q => absurd (hC929.symm.trans q) (by decide)
      have N929 := Fr.app N919 N929q
      have k931 := fun (t : State) (kk : Steps p.tables e below (T929.setTop (mkF m 268 #[iv p0, iv p1, iv p2, iv p3, iv p4, rv b853, iv (v0_107_j p0 p1 p2 p3 p4), rv b888, iv 1, .val .null] [(.ref xr_929)])) t) => k928 t (st929.trans kk)
      have k1020 := fun (t : State) (kk : Steps p.tables e below (T929.setTop (mkF m 283 #[iv p0, iv p1, iv p2, iv p3, iv p4, rv b853, iv (v0_107_j p0 p1 p2 p3 p4), rv b888, iv 1, rv xr_929] [(.int 2), (.int (v0_107_j p0 p1 p2 p3 p4)), (.int 2), (.ref b853), (.ref xr_929)])) t) => k931 t (by
        refine XS.astore X929.here hx rfl (hb hby at_268) rfl rfl (l' := #[iv p0, iv p1, iv p2, iv p3, iv p4, rv b853, iv (v0_107_j p0 p1 p2 p3 p4), rv b888, iv 1, rv xr_929]) rfl ?_
        show Steps p.tables e below (T929.setTop (mkF m 270 #[iv p0, iv p1, iv p2, iv p3, iv p4, rv b853, iv (v0_107_j p0 p1 p2 p3 p4), rv b888, iv 1, rv xr_929] [])) _
        refine XS.iload X929.here hx rfl (hb hby at_270) rfl ?_
        refine XS.ifNo X929.here hx rfl (hb hby at_272) rfl ((if0 _ _).trans (feq (by decide : ¬ ((1 : Int32) = (0 : Int32)))).1) ?_
        refine XS.aload X929.here hx rfl (hb hby at_275) rfl rfl ?_
        refine XS.aload X929.here hx rfl (hb hby at_277) rfl rfl ?_
        refine XS.iconst X929.here hx rfl (hb hby at_279) ?_
        refine XS.iload X929.here hx rfl (hb hby at_280) rfl ?_
        refine XS.iconst X929.here hx rfl (hb hby at_282) ?_
        exact kk)
      have hc283_1021 : (v0_107_j p0 p1 p2 p3 p4) = (2 : Int32) := own_e2y p0 p1 p2 p3 p4 hCn929
      have k1022 := fun (t : State) (kk : Steps p.tables e below (T929.setTop (mkF m 291 #[iv p0, iv p1, iv p2, iv p3, iv p4, rv b853, iv (v0_107_j p0 p1 p2 p3 p4), rv b888, iv 1, rv xr_929] [(.int 1), (.int 2), (.ref b853), (.ref xr_929)])) t) => k1020 t (by
        refine XS.icmpNo X929.here hx rfl (hb hby at_283) rfl (teq hc283_1021).2 ?_
        refine XS.iconst X929.here hx rfl (hb hby at_286) ?_
        refine XS.goto X929.here hx rfl (pc0 := 287) (pc' := 291) rfl (hb hby at_287) (by decide) (by decide) ?_
        exact kk)
      have f1023 := (f925.keep Kq929 (ninS ne_b853_b888 (ninS ne_b853_xl_891 nin0)))
      have Zz1024 : n0 ≤ T929.heap.size := (Nat.le_trans Z0 K929.1)
      obtain ⟨_, _, ⟨T1024, L1024, k1024, n1024⟩, -, X1024, ⟨Lc1024, hQ1024, l1024, y1024, z1024⟩, st1024⟩ := Jvm.LawKit.callS X929 hx (y := (⟨cLw, "hits", "([B[BIZ)Z"⟩ : MethodName)) hown (mvT hZ (hw _ (List.mem_of_getElem? (i := 35) rfl))) (mvT hZ (hw _ (List.mem_of_getElem? (i := 36) rfl))) (mvT hZ (hw _ (List.mem_of_getElem? (i := 3) rfl))) (mvT hZ (hw _ (List.mem_of_getElem? (i := 37) rfl))) (by decide) (backOf (W := 0) (rm7 l Z a0 hw [] xr_929 b853 (2 : Int32) (1 : Int32) k853 ([(v0_9_e p0), (v0_16_e p1), (v0_23_e p2), (v0_30_e p3), (v0_38_e p4)] : List Int32) k_xr_929 ((v0_195_f_lineLength p0 p1) - (2 : Int32)) (v13_27_L (2 : Int32) (v0_195_f_lineLength p0 p1) (v0_195_L0 p0 p1)) T929.heap n0 Zz1024 (by decide : ¬ (2 : Int32) < 0 ∧ (2 : Int32) < (5 : Int32)) f1023 VL883 Vx_xr_929 VLx_xr_929) hZ (hw _ (List.mem_of_getElem? (i := 37) rfl)) (hw _ (List.mem_of_getElem? (i := 3) rfl)) (by decide) (by decide)) (g := (mkF m 291 #[iv p0, iv p1, iv p2, iv p3, iv p4, rv b853, iv (v0_107_j p0 p1 p2 p3 p4), rv b888, iv 1, rv xr_929] [(.int 1), (.int 2), (.ref b853), (.ref xr_929)])) rfl (by rw [hml]; rfl) (argsL := [(.ref xr_929), (.ref b853), (.int 2), (.int 1)]) (rest := []) (lenOf pd_9 rfl) rfl (by show 2 * 0 + _ ≤ _; exact Nat.le_of_eq rfl) (hb hby at_291) (fun _ _ => ⟨rfl, rfl, (by decide : 6 + 0 ≤ _), (by decide : 2082 + 0 ≤ _)⟩)
      dsimp only [Pt.U, Pt.locs, Pt.cells, Pt.slots] at X1024 l1024 y1024 z1024 st1024 hQ1024
      subst l1024 y1024 z1024
      obtain ⟨rfl, N1024q, e1024⟩ := hQ1024
      have N1024 := Fr.app N929 N1024q
      have k1025 := fun (t : State) (kk : Steps p.tables e below (T1024.setTop (mkF m 294 #[iv p0, iv p1, iv p2, iv p3, iv p4, rv b853, iv (v0_107_j p0 p1 p2 p3 p4), rv b888, iv 1, rv xr_929] [(.int (v7_ret (2 : Int32) (1 : Int32) ([(v0_9_e p0), (v0_16_e p1), (v0_23_e p2), (v0_30_e p3), (v0_38_e p4)] : List Int32) ((v0_195_f_lineLength p0 p1) - (2 : Int32)) (v13_27_L (2 : Int32) (v0_195_f_lineLength p0 p1) (v0_195_L0 p0 p1))))])) t) => k1022 t (st1024 _ kk)
      by_cases hc294_1026 : (v7_ret (2 : Int32) (1 : Int32) ([(v0_9_e p0), (v0_16_e p1), (v0_23_e p2), (v0_30_e p3), (v0_38_e p4)] : List Int32) ((v0_195_f_lineLength p0 p1) - (2 : Int32)) (v13_27_L (2 : Int32) (v0_195_f_lineLength p0 p1) (v0_195_L0 p0 p1))) = (0 : Int32)
      · have k1027 := fun (t : State) (kk : Steps p.tables e below (T1024.setTop (mkF m 307 #[iv p0, iv p1, iv p2, iv p3, iv p4, rv b853, iv (v0_107_j p0 p1 p2 p3 p4), rv b888, iv 0, rv xr_929] [(.int 2), (.int (v0_107_j p0 p1 p2 p3 p4))])) t) => k1025 t (by
          refine XS.ifYes X1024.here hx rfl (pc0 := 294) (pc' := 301) rfl (hb hby at_294) rfl ((if0 _ _).trans (teq hc294_1026).1) (by decide) (by decide) ?_
          refine XS.iconst X1024.here hx rfl (hb hby at_301) ?_
          show Steps p.tables e below (T1024.setTop (mkF m 302 #[iv p0, iv p1, iv p2, iv p3, iv p4, rv b853, iv (v0_107_j p0 p1 p2 p3 p4), rv b888, iv 1, rv xr_929] [(.int 0)])) _
          refine XS.istore X1024.here hx rfl (hb hby at_302) rfl (l' := #[iv p0, iv p1, iv p2, iv p3, iv p4, rv b853, iv (v0_107_j p0 p1 p2 p3 p4), rv b888, iv 0, rv xr_929]) rfl ?_
          refine XS.iload X1024.here hx rfl (hb hby at_304) rfl ?_
          refine XS.iconst X1024.here hx rfl (hb hby at_306) ?_
          exact kk)
        have hc307_1028 : (v0_107_j p0 p1 p2 p3 p4) = (2 : Int32) := own_e2y p0 p1 p2 p3 p4 hCn929
        have k1029 := fun (t : State) (kk : Steps p.tables e below (T1024.setTop (mkF m 328 #[iv p0, iv p1, iv p2, iv p3, iv p4, rv b853, iv (v0_107_j p0 p1 p2 p3 p4), rv b888, iv 0, rv xr_929] [(.int 0)])) t) => k1027 t (by
          refine XS.icmpNo X1024.here hx rfl (hb hby at_307) rfl (teq hc307_1028).2 ?_
          refine XS.iload X1024.here hx rfl (hb hby at_310) rfl ?_
          refine XS.ifYes X1024.here hx rfl (pc0 := 312) (pc' := 327) rfl (hb hby at_312) rfl ((if0 _ _).trans (teq (rfl : (0 : Int32) = (0 : Int32))).1) (by decide) (by decide) ?_
          refine XS.iconst X1024.here hx rfl (hb hby at_327) ?_
          exact kk)
        obtain ⟨fs, hr, hrun, hended, hW, hsame⟩ := X1024.leave (v := some (.int 0)) (fun h => by rw [Bd.returns] at h; cases h) hlk
        have hv : (v0_ret p0 p1 p2 p3 p4) = (0 : Int32) := ((if_neg hCn929).trans (if_pos hc294_1026))
        have hone : (0 : Int32) = 1 := hv.symm.trans (own_law p0 p1 p2 p3 p4)
        exact absurd hone (by decide)
      · have k1030 := fun (t : State) (kk : Steps p.tables e below (T1024.setTop (mkF m 307 #[iv p0, iv p1, iv p2, iv p3, iv p4, rv b853, iv (v0_107_j p0 p1 p2 p3 p4), rv b888, iv 1, rv xr_929] [(.int 2), (.int (v0_107_j p0 p1 p2 p3 p4))])) t) => k1025 t (by
          refine XS.ifNo X1024.here hx rfl (hb hby at_294) rfl ((if0 _ _).trans (feq hc294_1026).1) ?_
          refine XS.iconst X1024.here hx rfl (hb hby at_297) ?_
          refine XS.goto X1024.here hx rfl (pc0 := 298) (pc' := 302) rfl (hb hby at_298) (by decide) (by decide) ?_
          refine XS.istore X1024.here hx rfl (hb hby at_302) rfl (l' := #[iv p0, iv p1, iv p2, iv p3, iv p4, rv b853, iv (v0_107_j p0 p1 p2 p3 p4), rv b888, iv 1, rv xr_929]) rfl ?_
          refine XS.iload X1024.here hx rfl (hb hby at_304) rfl ?_
          show Steps p.tables e below (T1024.setTop (mkF m 306 #[iv p0, iv p1, iv p2, iv p3, iv p4, rv b853, iv (v0_107_j p0 p1 p2 p3 p4), rv b888, iv 1, rv xr_929] [(.int (v0_107_j p0 p1 p2 p3 p4))])) _
          refine XS.iconst X1024.here hx rfl (hb hby at_306) ?_
          exact kk)
        have hc307_1031 : (v0_107_j p0 p1 p2 p3 p4) = (2 : Int32) := own_e2y p0 p1 p2 p3 p4 hCn929
        have k1032 := fun (t : State) (kk : Steps p.tables e below (T1024.setTop (mkF m 317 #[iv p0, iv p1, iv p2, iv p3, iv p4, rv b853, iv (v0_107_j p0 p1 p2 p3 p4), rv b888, iv 1, rv xr_929] [(.ref b888)])) t) => k1030 t (by
          refine XS.icmpNo X1024.here hx rfl (hb hby at_307) rfl (teq hc307_1031).2 ?_
          refine XS.iload X1024.here hx rfl (hb hby at_310) rfl ?_
          refine XS.ifNo X1024.here hx rfl (hb hby at_312) rfl ((if0 _ _).trans (feq (by decide : ¬ ((1 : Int32) = (0 : Int32)))).1) ?_
          refine XS.aload X1024.here hx rfl (hb hby at_315) rfl rfl ?_
          exact kk)
        have Zz1033 : n0 ≤ T929.heap.size := (Nat.le_trans Z0 K929.1)
        obtain ⟨cq1033, kq1033, q1033a, q1033b, q1033c⟩ := isOf hZ e1024 Eq929_0
        obtain ⟨_, _, ⟨T1033, L1033, k1033, n1033⟩, -, X1033, ⟨Lc1033, hQ1033, l1033, y1033, z1033⟩, st1033⟩ := X1024.virtualBack hx (y := (⟨cSe, "failed", "()Z"⟩ : MethodName)) (z := (⟨cSe, "failed", "()Z"⟩ : MethodName)) hown (mvT hZ (hw _ (List.mem_of_getElem? (i := 38) rfl))) (mvT hZ (hw _ (List.mem_of_getElem? (i := 39) rfl))) (notFace_of_selects (args := #[]) (mvT hZ (hw _ (List.mem_of_getElem? (i := 41) rfl)))) (mvT hZ (hw _ (List.mem_of_getElem? (i := 41) rfl))) (mvT hZ (hw _ (List.mem_of_getElem? (i := 40) rfl))) (by decide) (backOf (W := 0) (rm8 l Z a0 hw [] b888 (v0_265_f_failed p0 p1 p2) T929.heap n0 Zz1033 Fn929_2) hZ (hw _ (List.mem_of_getElem? (i := 42) rfl)) (hw _ (List.mem_of_getElem? (i := 13) rfl)) (by decide) (by decide)) q1033a q1033c (g := (mkF m 317 #[iv p0, iv p1, iv p2, iv p3, iv p4, rv b853, iv (v0_107_j p0 p1 p2 p3 p4), rv b888, iv 1, rv xr_929] [(.ref b888)])) rfl (by rw [hml]; rfl) (Steps.refl _) (argsL := []) (rest := []) (lenOf pd_10 rfl) rfl (by show 2 * 0 + _ ≤ _; exact Nat.le_of_eq rfl) (hb hby at_317) (fun _ _ => ⟨rfl, e1024, (by decide : 6 + 0 ≤ _), (by decide : 2082 + 0 ≤ _)⟩)
        dsimp only [Pt.U, Pt.locs, Pt.cells, Pt.slots] at X1033 l1033 y1033 z1033 st1033 hQ1033
        subst l1033 y1033 z1033
        obtain ⟨rfl, N1033q, e1033⟩ := hQ1033
        have N1033 := Fr.app N1024 N1033q
        have k1034 := fun (t : State) (kk : Steps p.tables e below (T1033.setTop (mkF m 320 #[iv p0, iv p1, iv p2, iv p3, iv p4, rv b853, iv (v0_107_j p0 p1 p2 p3 p4), rv b888, iv 1, rv xr_929] [(.int (nar .boolean (v0_265_f_failed p0 p1 p2)))])) t) => k1032 t (st1033.trans kk)
        have k1037 := fun (t : State) (kk : Steps p.tables e below (T1033.setTop (mkF m 328 #[iv p0, iv p1, iv p2, iv p3, iv p4, rv b853, iv (v0_107_j p0 p1 p2 p3 p4), rv b888, iv 1, rv xr_929] [(.int (v0_320_s0 p0 p1 p2))])) t) => k1034 t (by
          suffices k1036 : Steps p.tables e below (T1033.setTop (mkF m 328 #[iv p0, iv p1, iv p2, iv p3, iv p4, rv b853, iv (v0_107_j p0 p1 p2 p3 p4), rv b888, iv 1, rv xr_929] [(.int (v0_320_s0 p0 p1 p2))])) t by
            by_cases hc320_1035 : (nar .boolean (v0_265_f_failed p0 p1 p2)) = (0 : Int32)
            · rw [(show (v0_320_s0 p0 p1 p2) = (1 : Int32) from if_pos hc320_1035)] at k1036
              refine XS.ifNo X1033.here hx rfl (hb hby at_320) rfl ((if0 _ _).trans (teq hc320_1035).2) ?_
              refine XS.iconst X1033.here hx rfl (hb hby at_323) ?_
              refine XS.goto X1033.here hx rfl (pc0 := 324) (pc' := 328) rfl (hb hby at_324) (by decide) (by decide) ?_
              exact k1036
            · rw [(show (v0_320_s0 p0 p1 p2) = (0 : Int32) from if_neg hc320_1035)] at k1036
              refine XS.ifYes X1033.here hx rfl (pc0 := 320) (pc' := 327) rfl (hb hby at_320) rfl ((if0 _ _).trans (feq hc320_1035).2) (by decide) (by decide) ?_
              refine XS.iconst X1033.here hx rfl (hb hby at_327) ?_
              exact k1036
          exact kk)
        obtain ⟨fs, hr, hrun, hended, hW, hsame⟩ := X1033.leave (v := some (.int (nar .boolean (v0_320_s0 p0 p1 p2)))) (fun h => by rw [Bd.returns] at h; cases h) hlk
        have hv : (v0_ret p0 p1 p2 p3 p4) = (nar .boolean (v0_320_s0 p0 p1 p2)) := ((if_neg hCn929).trans (if_neg hc294_1026))
        have hone : (nar .boolean (v0_320_s0 p0 p1 p2)) = 1 := hv.symm.trans (own_law p0 p1 p2 p3 p4)
        refine ⟨_, _, k1037 _ ?_, hrun, hended, _, _, rfl, ?_, ⟨_, rfl⟩, hW, hsame.mono (by decide) (by decide)⟩
        · show Steps p.tables e below (T1033.setTop (mkF m 328 #[iv p0, iv p1, iv p2, iv p3, iv p4, rv b853, iv (v0_107_j p0 p1 p2 p3 p4), rv b888, iv 1, rv xr_929] [(.int (v0_320_s0 p0 p1 p2))])) _
          exact retN X1033 hx (t := .boolean) Bd.returns (by simp) (hb hby at_328) hr
        · show Q0 Z p0 p1 p2 p3 p4 h0 n0 _ T1033.heap _
          rw [e1033]
          exact ⟨congrArg (fun z => some (Value.int z)) hone, N1033⟩
  have k1038 := fun (t : State) (kk : Steps p.tables e below (T883.setTop (mkF m 44 #[iv p0, iv p1, iv p2, iv p3, iv p4, rv b853, .unset, .unset, .unset, .unset] [(.int 0), (.ref b853)])) t) => k885 t (by
    refine XS.aload X883.here hx rfl (hb hby at_41) rfl rfl ?_
    refine XS.iconst X883.here hx rfl (hb hby at_43) ?_
    exact kk)
  have Zz1039 : n0 ≤ h883.size := (Nat.le_trans Z0 K883.1)
  obtain ⟨_, _, ⟨T1039, L1039, k1039, n1039⟩, -, X1039, ⟨Lc1039, hQ1039, l1039, y1039, z1039⟩, st1039⟩ := Jvm.LawKit.callS X883 hx (y := (⟨cLw, "ok", "([BI)Z"⟩ : MethodName)) hown (mvT hZ (hw _ (List.mem_of_getElem? (i := 5) rfl))) (mvT hZ (hw _ (List.mem_of_getElem? (i := 6) rfl))) (mvT hZ (hw _ (List.mem_of_getElem? (i := 3) rfl))) (mvT hZ (hw _ (List.mem_of_getElem? (i := 7) rfl))) (by decide) (backOf (W := 0) (rm2 l Z a0 hw [] b853 (0 : Int32) k853 ([(v0_9_e p0), (v0_16_e p1), (v0_23_e p2), (v0_30_e p3), (v0_38_e p4)] : List Int32) h883 n0 Zz1039 (by decide : ¬ (0 : Int32) < 0 ∧ (0 : Int32) < (5 : Int32)) V883 VL883) hZ (hw _ (List.mem_of_getElem? (i := 7) rfl)) (hw _ (List.mem_of_getElem? (i := 3) rfl)) (by decide) (by decide)) (g := (mkF m 44 #[iv p0, iv p1, iv p2, iv p3, iv p4, rv b853, .unset, .unset, .unset, .unset] [(.int 0), (.ref b853)])) rfl (by rw [hml]; rfl) (argsL := [(.ref b853), (.int 0)]) (rest := []) (lenOf pd_2 rfl) rfl (by show 2 * 0 + _ ≤ _; exact Nat.le_of_eq rfl) (hb hby at_44) (fun _ _ => ⟨rfl, e883, (by decide : 1 + 0 ≤ _), (by decide : 5 + 0 ≤ _)⟩)
  dsimp only [Pt.U, Pt.locs, Pt.cells, Pt.slots] at X1039 l1039 y1039 z1039 st1039 hQ1039
  subst l1039 y1039 z1039
  obtain ⟨rfl, N1039q, e1039⟩ := hQ1039
  have N1039 := Fr.app N883 N1039q
  have k1040 := fun (t : State) (kk : Steps p.tables e below (T1039.setTop (mkF m 47 #[iv p0, iv p1, iv p2, iv p3, iv p4, rv b853, .unset, .unset, .unset, .unset] [(.int (v2_ret (0 : Int32) ([(v0_9_e p0), (v0_16_e p1), (v0_23_e p2), (v0_30_e p3), (v0_38_e p4)] : List Int32)))])) t) => k1038 t (st1039 _ kk)
  by_cases hc47_1041 : (v2_ret (0 : Int32) ([(v0_9_e p0), (v0_16_e p1), (v0_23_e p2), (v0_30_e p3), (v0_38_e p4)] : List Int32)) = (0 : Int32)
  · have k1042 := fun (t : State) (kk : Steps p.tables e below (T1039.setTop (mkF m 57 #[iv p0, iv p1, iv p2, iv p3, iv p4, rv b853, .unset, .unset, .unset, .unset] [(.int 1), (.ref b853)])) t) => k1040 t (by
      show Steps p.tables e below (T1039.setTop (mkF m 47 #[iv p0, iv p1, iv p2, iv p3, iv p4, rv b853, .unset, .unset, .unset, .unset] [(.int (v2_ret (0 : Int32) ([(v0_9_e p0), (v0_16_e p1), (v0_23_e p2), (v0_30_e p3), (v0_38_e p4)] : List Int32)))])) _
      refine XS.ifYes X1039.here hx rfl (pc0 := 47) (pc' := 54) rfl (hb hby at_47) rfl ((if0 _ _).trans (teq hc47_1041).1) (by decide) (by decide) ?_
      refine XS.aload X1039.here hx rfl (hb hby at_54) rfl rfl ?_
      refine XS.iconst X1039.here hx rfl (hb hby at_56) ?_
      exact kk)
    have Zz1043 : n0 ≤ h883.size := (Nat.le_trans Z0 K883.1)
    obtain ⟨_, _, ⟨T1043, L1043, k1043, n1043⟩, -, X1043, ⟨Lc1043, hQ1043, l1043, y1043, z1043⟩, st1043⟩ := Jvm.LawKit.callS X1039 hx (y := (⟨cLw, "ok", "([BI)Z"⟩ : MethodName)) hown (mvT hZ (hw _ (List.mem_of_getElem? (i := 5) rfl))) (mvT hZ (hw _ (List.mem_of_getElem? (i := 6) rfl))) (mvT hZ (hw _ (List.mem_of_getElem? (i := 3) rfl))) (mvT hZ (hw _ (List.mem_of_getElem? (i := 7) rfl))) (by decide) (backOf (W := 0) (rm2 l Z a0 hw [] b853 (1 : Int32) k853 ([(v0_9_e p0), (v0_16_e p1), (v0_23_e p2), (v0_30_e p3), (v0_38_e p4)] : List Int32) h883 n0 Zz1043 (by decide : ¬ (1 : Int32) < 0 ∧ (1 : Int32) < (5 : Int32)) V883 VL883) hZ (hw _ (List.mem_of_getElem? (i := 7) rfl)) (hw _ (List.mem_of_getElem? (i := 3) rfl)) (by decide) (by decide)) (g := (mkF m 57 #[iv p0, iv p1, iv p2, iv p3, iv p4, rv b853, .unset, .unset, .unset, .unset] [(.int 1), (.ref b853)])) rfl (by rw [hml]; rfl) (argsL := [(.ref b853), (.int 1)]) (rest := []) (lenOf pd_2 rfl) rfl (by show 2 * 0 + _ ≤ _; exact Nat.le_of_eq rfl) (hb hby at_57) (fun _ _ => ⟨rfl, e1039, (by decide : 1 + 0 ≤ _), (by decide : 5 + 0 ≤ _)⟩)
    dsimp only [Pt.U, Pt.locs, Pt.cells, Pt.slots] at X1043 l1043 y1043 z1043 st1043 hQ1043
    subst l1043 y1043 z1043
    obtain ⟨rfl, N1043q, e1043⟩ := hQ1043
    have N1043 := Fr.app N1039 N1043q
    have k1044 := fun (t : State) (kk : Steps p.tables e below (T1043.setTop (mkF m 60 #[iv p0, iv p1, iv p2, iv p3, iv p4, rv b853, .unset, .unset, .unset, .unset] [(.int (v2_ret (1 : Int32) ([(v0_9_e p0), (v0_16_e p1), (v0_23_e p2), (v0_30_e p3), (v0_38_e p4)] : List Int32)))])) t) => k1042 t (st1043 _ kk)
    by_cases hc60_1045 : (v2_ret (1 : Int32) ([(v0_9_e p0), (v0_16_e p1), (v0_23_e p2), (v0_30_e p3), (v0_38_e p4)] : List Int32)) = (0 : Int32)
    · have k1046 := fun (t : State) (kk : Steps p.tables e below (T1043.setTop (mkF m 70 #[iv p0, iv p1, iv p2, iv p3, iv p4, rv b853, .unset, .unset, .unset, .unset] [(.int 2), (.ref b853)])) t) => k1044 t (by
        refine XS.ifYes X1043.here hx rfl (pc0 := 60) (pc' := 67) rfl (hb hby at_60) rfl ((if0 _ _).trans (teq hc60_1045).1) (by decide) (by decide) ?_
        refine XS.aload X1043.here hx rfl (hb hby at_67) rfl rfl ?_
        refine XS.iconst X1043.here hx rfl (hb hby at_69) ?_
        exact kk)
      have Zz1047 : n0 ≤ h883.size := (Nat.le_trans Z0 K883.1)
      obtain ⟨_, _, ⟨T1047, L1047, k1047, n1047⟩, -, X1047, ⟨Lc1047, hQ1047, l1047, y1047, z1047⟩, st1047⟩ := Jvm.LawKit.callS X1043 hx (y := (⟨cLw, "ok", "([BI)Z"⟩ : MethodName)) hown (mvT hZ (hw _ (List.mem_of_getElem? (i := 5) rfl))) (mvT hZ (hw _ (List.mem_of_getElem? (i := 6) rfl))) (mvT hZ (hw _ (List.mem_of_getElem? (i := 3) rfl))) (mvT hZ (hw _ (List.mem_of_getElem? (i := 7) rfl))) (by decide) (backOf (W := 0) (rm2 l Z a0 hw [] b853 (2 : Int32) k853 ([(v0_9_e p0), (v0_16_e p1), (v0_23_e p2), (v0_30_e p3), (v0_38_e p4)] : List Int32) h883 n0 Zz1047 (by decide : ¬ (2 : Int32) < 0 ∧ (2 : Int32) < (5 : Int32)) V883 VL883) hZ (hw _ (List.mem_of_getElem? (i := 7) rfl)) (hw _ (List.mem_of_getElem? (i := 3) rfl)) (by decide) (by decide)) (g := (mkF m 70 #[iv p0, iv p1, iv p2, iv p3, iv p4, rv b853, .unset, .unset, .unset, .unset] [(.int 2), (.ref b853)])) rfl (by rw [hml]; rfl) (argsL := [(.ref b853), (.int 2)]) (rest := []) (lenOf pd_2 rfl) rfl (by show 2 * 0 + _ ≤ _; exact Nat.le_of_eq rfl) (hb hby at_70) (fun _ _ => ⟨rfl, e1043, (by decide : 1 + 0 ≤ _), (by decide : 5 + 0 ≤ _)⟩)
      dsimp only [Pt.U, Pt.locs, Pt.cells, Pt.slots] at X1047 l1047 y1047 z1047 st1047 hQ1047
      subst l1047 y1047 z1047
      obtain ⟨rfl, N1047q, e1047⟩ := hQ1047
      have N1047 := Fr.app N1043 N1047q
      have k1048 := fun (t : State) (kk : Steps p.tables e below (T1047.setTop (mkF m 73 #[iv p0, iv p1, iv p2, iv p3, iv p4, rv b853, .unset, .unset, .unset, .unset] [(.int (v2_ret (2 : Int32) ([(v0_9_e p0), (v0_16_e p1), (v0_23_e p2), (v0_30_e p3), (v0_38_e p4)] : List Int32)))])) t) => k1046 t (st1047 _ kk)
      by_cases hc73_1049 : (v2_ret (2 : Int32) ([(v0_9_e p0), (v0_16_e p1), (v0_23_e p2), (v0_30_e p3), (v0_38_e p4)] : List Int32)) = (0 : Int32)
      · have k1050 := fun (t : State) (kk : Steps p.tables e below (T1047.setTop (mkF m 83 #[iv p0, iv p1, iv p2, iv p3, iv p4, rv b853, .unset, .unset, .unset, .unset] [(.int 3), (.ref b853)])) t) => k1048 t (by
          refine XS.ifYes X1047.here hx rfl (pc0 := 73) (pc' := 80) rfl (hb hby at_73) rfl ((if0 _ _).trans (teq hc73_1049).1) (by decide) (by decide) ?_
          refine XS.aload X1047.here hx rfl (hb hby at_80) rfl rfl ?_
          refine XS.iconst X1047.here hx rfl (hb hby at_82) ?_
          exact kk)
        have Zz1051 : n0 ≤ h883.size := (Nat.le_trans Z0 K883.1)
        obtain ⟨_, _, ⟨T1051, L1051, k1051, n1051⟩, -, X1051, ⟨Lc1051, hQ1051, l1051, y1051, z1051⟩, st1051⟩ := Jvm.LawKit.callS X1047 hx (y := (⟨cLw, "ok", "([BI)Z"⟩ : MethodName)) hown (mvT hZ (hw _ (List.mem_of_getElem? (i := 5) rfl))) (mvT hZ (hw _ (List.mem_of_getElem? (i := 6) rfl))) (mvT hZ (hw _ (List.mem_of_getElem? (i := 3) rfl))) (mvT hZ (hw _ (List.mem_of_getElem? (i := 7) rfl))) (by decide) (backOf (W := 0) (rm2 l Z a0 hw [] b853 (3 : Int32) k853 ([(v0_9_e p0), (v0_16_e p1), (v0_23_e p2), (v0_30_e p3), (v0_38_e p4)] : List Int32) h883 n0 Zz1051 (by decide : ¬ (3 : Int32) < 0 ∧ (3 : Int32) < (5 : Int32)) V883 VL883) hZ (hw _ (List.mem_of_getElem? (i := 7) rfl)) (hw _ (List.mem_of_getElem? (i := 3) rfl)) (by decide) (by decide)) (g := (mkF m 83 #[iv p0, iv p1, iv p2, iv p3, iv p4, rv b853, .unset, .unset, .unset, .unset] [(.int 3), (.ref b853)])) rfl (by rw [hml]; rfl) (argsL := [(.ref b853), (.int 3)]) (rest := []) (lenOf pd_2 rfl) rfl (by show 2 * 0 + _ ≤ _; exact Nat.le_of_eq rfl) (hb hby at_83) (fun _ _ => ⟨rfl, e1047, (by decide : 1 + 0 ≤ _), (by decide : 5 + 0 ≤ _)⟩)
        dsimp only [Pt.U, Pt.locs, Pt.cells, Pt.slots] at X1051 l1051 y1051 z1051 st1051 hQ1051
        subst l1051 y1051 z1051
        obtain ⟨rfl, N1051q, e1051⟩ := hQ1051
        have N1051 := Fr.app N1047 N1051q
        have k1052 := fun (t : State) (kk : Steps p.tables e below (T1051.setTop (mkF m 86 #[iv p0, iv p1, iv p2, iv p3, iv p4, rv b853, .unset, .unset, .unset, .unset] [(.int (v2_ret (3 : Int32) ([(v0_9_e p0), (v0_16_e p1), (v0_23_e p2), (v0_30_e p3), (v0_38_e p4)] : List Int32)))])) t) => k1050 t (st1051 _ kk)
        by_cases hc86_1053 : (v2_ret (3 : Int32) ([(v0_9_e p0), (v0_16_e p1), (v0_23_e p2), (v0_30_e p3), (v0_38_e p4)] : List Int32)) = (0 : Int32)
        · have k1054 := fun (t : State) (kk : Steps p.tables e below (T1051.setTop (mkF m 96 #[iv p0, iv p1, iv p2, iv p3, iv p4, rv b853, .unset, .unset, .unset, .unset] [(.int 4), (.ref b853)])) t) => k1052 t (by
            refine XS.ifYes X1051.here hx rfl (pc0 := 86) (pc' := 93) rfl (hb hby at_86) rfl ((if0 _ _).trans (teq hc86_1053).1) (by decide) (by decide) ?_
            refine XS.aload X1051.here hx rfl (hb hby at_93) rfl rfl ?_
            refine XS.iconst X1051.here hx rfl (hb hby at_95) ?_
            exact kk)
          have Zz1055 : n0 ≤ h883.size := (Nat.le_trans Z0 K883.1)
          obtain ⟨_, _, ⟨T1055, L1055, k1055, n1055⟩, -, X1055, ⟨Lc1055, hQ1055, l1055, y1055, z1055⟩, st1055⟩ := Jvm.LawKit.callS X1051 hx (y := (⟨cLw, "ok", "([BI)Z"⟩ : MethodName)) hown (mvT hZ (hw _ (List.mem_of_getElem? (i := 5) rfl))) (mvT hZ (hw _ (List.mem_of_getElem? (i := 6) rfl))) (mvT hZ (hw _ (List.mem_of_getElem? (i := 3) rfl))) (mvT hZ (hw _ (List.mem_of_getElem? (i := 7) rfl))) (by decide) (backOf (W := 0) (rm2 l Z a0 hw [] b853 (4 : Int32) k853 ([(v0_9_e p0), (v0_16_e p1), (v0_23_e p2), (v0_30_e p3), (v0_38_e p4)] : List Int32) h883 n0 Zz1055 (by decide : ¬ (4 : Int32) < 0 ∧ (4 : Int32) < (5 : Int32)) V883 VL883) hZ (hw _ (List.mem_of_getElem? (i := 7) rfl)) (hw _ (List.mem_of_getElem? (i := 3) rfl)) (by decide) (by decide)) (g := (mkF m 96 #[iv p0, iv p1, iv p2, iv p3, iv p4, rv b853, .unset, .unset, .unset, .unset] [(.int 4), (.ref b853)])) rfl (by rw [hml]; rfl) (argsL := [(.ref b853), (.int 4)]) (rest := []) (lenOf pd_2 rfl) rfl (by show 2 * 0 + _ ≤ _; exact Nat.le_of_eq rfl) (hb hby at_96) (fun _ _ => ⟨rfl, e1051, (by decide : 1 + 0 ≤ _), (by decide : 5 + 0 ≤ _)⟩)
          dsimp only [Pt.U, Pt.locs, Pt.cells, Pt.slots] at X1055 l1055 y1055 z1055 st1055 hQ1055
          subst l1055 y1055 z1055
          obtain ⟨rfl, N1055q, e1055⟩ := hQ1055
          have N1055 := Fr.app N1051 N1055q
          have k1056 := fun (t : State) (kk : Steps p.tables e below (T1055.setTop (mkF m 99 #[iv p0, iv p1, iv p2, iv p3, iv p4, rv b853, .unset, .unset, .unset, .unset] [(.int (v2_ret (4 : Int32) ([(v0_9_e p0), (v0_16_e p1), (v0_23_e p2), (v0_30_e p3), (v0_38_e p4)] : List Int32)))])) t) => k1054 t (st1055 _ kk)
          by_cases hc99_1057 : (v2_ret (4 : Int32) ([(v0_9_e p0), (v0_16_e p1), (v0_23_e p2), (v0_30_e p3), (v0_38_e p4)] : List Int32)) = (0 : Int32)
          · have k1058 := fun (t : State) (kk : Steps p.tables e below (T1055.setTop (mkF m 107 #[iv p0, iv p1, iv p2, iv p3, iv p4, rv b853, .unset, .unset, .unset, .unset] [(.int (-1 : Int32))])) t) => k1056 t (by
              show Steps p.tables e below (T1055.setTop (mkF m 99 #[iv p0, iv p1, iv p2, iv p3, iv p4, rv b853, .unset, .unset, .unset, .unset] [(.int (v2_ret (4 : Int32) ([(v0_9_e p0), (v0_16_e p1), (v0_23_e p2), (v0_30_e p3), (v0_38_e p4)] : List Int32)))])) _
              refine XS.ifYes X1055.here hx rfl (pc0 := 99) (pc' := 106) rfl (hb hby at_99) rfl ((if0 _ _).trans (teq hc99_1057).1) (by decide) (by decide) ?_
              refine XS.iconst X1055.here hx rfl (hb hby at_106) ?_
              exact kk)
            have hE1059 : (v0_107_j p0 p1 p2 p3 p4) = (-1 : Int32) := ((if_pos hc47_1041).trans ((if_pos hc60_1045).trans ((if_pos hc73_1049).trans ((if_pos hc86_1053).trans (if_pos hc99_1057)))))
            exact join886 _ N1055 T1055 X1055 e1055 (by rw [hE1059]; exact k1058)
          · have k1060 := fun (t : State) (kk : Steps p.tables e below (T1055.setTop (mkF m 107 #[iv p0, iv p1, iv p2, iv p3, iv p4, rv b853, .unset, .unset, .unset, .unset] [(.int 4)])) t) => k1056 t (by
              refine XS.ifNo X1055.here hx rfl (hb hby at_99) rfl ((if0 _ _).trans (feq hc99_1057).1) ?_
              refine XS.iconst X1055.here hx rfl (hb hby at_102) ?_
              refine XS.goto X1055.here hx rfl (pc0 := 103) (pc' := 107) rfl (hb hby at_103) (by decide) (by decide) ?_
              exact kk)
            have hE1061 : (v0_107_j p0 p1 p2 p3 p4) = (4 : Int32) := ((if_pos hc47_1041).trans ((if_pos hc60_1045).trans ((if_pos hc73_1049).trans ((if_pos hc86_1053).trans (if_neg hc99_1057)))))
            exact join886 _ N1055 T1055 X1055 e1055 (by rw [hE1061]; exact k1060)
        · have k1062 := fun (t : State) (kk : Steps p.tables e below (T1051.setTop (mkF m 107 #[iv p0, iv p1, iv p2, iv p3, iv p4, rv b853, .unset, .unset, .unset, .unset] [(.int 3)])) t) => k1052 t (by
            refine XS.ifNo X1051.here hx rfl (hb hby at_86) rfl ((if0 _ _).trans (feq hc86_1053).1) ?_
            refine XS.iconst X1051.here hx rfl (hb hby at_89) ?_
            refine XS.goto X1051.here hx rfl (pc0 := 90) (pc' := 107) rfl (hb hby at_90) (by decide) (by decide) ?_
            exact kk)
          have hE1063 : (v0_107_j p0 p1 p2 p3 p4) = (3 : Int32) := ((if_pos hc47_1041).trans ((if_pos hc60_1045).trans ((if_pos hc73_1049).trans (if_neg hc86_1053))))
          exact join886 _ N1051 T1051 X1051 e1051 (by rw [hE1063]; exact k1062)
      · have k1064 := fun (t : State) (kk : Steps p.tables e below (T1047.setTop (mkF m 107 #[iv p0, iv p1, iv p2, iv p3, iv p4, rv b853, .unset, .unset, .unset, .unset] [(.int 2)])) t) => k1048 t (by
          refine XS.ifNo X1047.here hx rfl (hb hby at_73) rfl ((if0 _ _).trans (feq hc73_1049).1) ?_
          refine XS.iconst X1047.here hx rfl (hb hby at_76) ?_
          refine XS.goto X1047.here hx rfl (pc0 := 77) (pc' := 107) rfl (hb hby at_77) (by decide) (by decide) ?_
          exact kk)
        have hE1065 : (v0_107_j p0 p1 p2 p3 p4) = (2 : Int32) := ((if_pos hc47_1041).trans ((if_pos hc60_1045).trans (if_neg hc73_1049)))
        exact join886 _ N1047 T1047 X1047 e1047 (by rw [hE1065]; exact k1064)
    · have k1066 := fun (t : State) (kk : Steps p.tables e below (T1043.setTop (mkF m 107 #[iv p0, iv p1, iv p2, iv p3, iv p4, rv b853, .unset, .unset, .unset, .unset] [(.int 1)])) t) => k1044 t (by
        refine XS.ifNo X1043.here hx rfl (hb hby at_60) rfl ((if0 _ _).trans (feq hc60_1045).1) ?_
        show Steps p.tables e below (T1043.setTop (mkF m 63 #[iv p0, iv p1, iv p2, iv p3, iv p4, rv b853, .unset, .unset, .unset, .unset] [])) _
        refine XS.iconst X1043.here hx rfl (hb hby at_63) ?_
        refine XS.goto X1043.here hx rfl (pc0 := 64) (pc' := 107) rfl (hb hby at_64) (by decide) (by decide) ?_
        exact kk)
      have hE1067 : (v0_107_j p0 p1 p2 p3 p4) = (1 : Int32) := ((if_pos hc47_1041).trans (if_neg hc60_1045))
      exact join886 _ N1043 T1043 X1043 e1043 (by rw [hE1067]; exact k1066)
  · have k1068 := fun (t : State) (kk : Steps p.tables e below (T1039.setTop (mkF m 107 #[iv p0, iv p1, iv p2, iv p3, iv p4, rv b853, .unset, .unset, .unset, .unset] [(.int 0)])) t) => k1040 t (by
      refine XS.ifNo X1039.here hx rfl (hb hby at_47) rfl ((if0 _ _).trans (feq hc47_1041).1) ?_
      refine XS.iconst X1039.here hx rfl (hb hby at_50) ?_
      refine XS.goto X1039.here hx rfl (pc0 := 51) (pc' := 107) rfl (hb hby at_51) (by decide) (by decide) ?_
      exact kk)
    have hE1069 : (v0_107_j p0 p1 p2 p3 p4) = (0 : Int32) := (if_neg hc47_1041)
    exact join886 _ N1039 T1039 X1039 e1039 (by rw [hE1069]; exact k1068)
set_option maxRecDepth 65536 in
set_option maxHeartbeats 40000000 in
theorem comes_1 {Post : Tables → Env → Array Value → State → Outcome → State → Prop} (hpost : ∀ tb e args s v u, (limb_1_1.after args s (.returned v) u = true ∧ limb_1_2.after args s (.returned v) u = true ∧ True) → FrameEnd s (.returned v) u (Jvm.fieldLocs frame_1_writes args s ++ Jvm.arrayLocs frame_1_arrays args s ++ Jvm.staticLocs frame_1_statics s) 16 4224 → Post tb e args s (.returned v) u) :
    ArmFor flags0 classFile x code maxLocals ret World_1 tables_1 room_1 Calls_1 rest_1 Pre_1 Post := by
  intro l hfl _ _ p e ha hc hk s m args below hf hA hF happ hP
  obtain ⟨hcalls, hrest, hpre⟩ := hP
  obtain ⟨-, -, -, hnamed, -, -, -, hat⟩ := (Spec.applies_iff hf).mp happ
  obtain ⟨hg, hn⟩ := and_e (Cond.before_iff.mp (show (Jvm.Cond.and given_1 narrow_1).before args s = true from hpre))
  obtain ⟨hcnt, hg0⟩ := and_e hg
  obtain ⟨ha0, hg1⟩ := and_e hg0
  obtain ⟨ha1, hg2⟩ := and_e hg1
  obtain ⟨ha2, hg3⟩ := and_e hg2
  obtain ⟨ha3, hg4⟩ := and_e hg3
  have ha4 := hg4
  obtain ⟨w0, w1, w2, w3, w4, rfl⟩ : ∃ w0 w1 w2 w3 w4 : Value, args = #[w0, w1, w2, w3, w4] := by
    have hs : args.size = 5 := by simpa [Cond.value, given_1] using hcnt
    obtain ⟨L⟩ := args
    match L, hs with
    | [w0, w1, w2, w3, w4], _ => exact ⟨w0, w1, w2, w3, w4, rfl⟩
  have hw := fun d (hd : d ∈ tables_1) => atoms_spec (ws := Jvm.Cond.code x code maxLocals ret :: tables_1) hat d (List.mem_cons_of_mem _ hd)
  have hfit : Fit s := fun {y c} hc i hi => by
    obtain ⟨ha, rfl⟩ := Array.getElem?_eq_some_iff.mp hc
    have q := List.all_eq_true.mp ((Array.all_eq_true_iff_forall_mem.mp hF) _ (Array.getElem_mem ha)) i (List.mem_range.mpr hi)
    simpa [Array.getElem?_eq_getElem hi] using q
  obtain ⟨p0, ea0⟩ := is_v ha0
  obtain rfl : w0 = (.int p0) := Option.some.inj ea0
  obtain ⟨p1, ea1⟩ := is_v ha1
  obtain rfl : w1 = (.int p1) := Option.some.inj ea1
  obtain ⟨p2, ea2⟩ := is_v ha2
  obtain rfl : w2 = (.int p2) := Option.some.inj ea2
  obtain ⟨p3, ea3⟩ := is_v ha3
  obtain rfl : w3 = (.int p3) := Option.some.inj ea3
  obtain ⟨p4, ea4⟩ := is_v ha4
  obtain rfl : w4 = (.int p4) := Option.some.inj ea4
  obtain ⟨n, o, h1, h2, h3, _, L, rfl, ⟨rfl, N⟩, hq⟩ := rm0 l s _ hw tables_1 p0 p1 p2 p3 p4 s.heap s.heap.size (Nat.le_refl _)  p e ha hc hk s m _ below hf ((Spec.applies_iff_loose hf).mp happ).1 ⟨rfl, State.Warmed39.refl s, rfl⟩ trivial
  refine ⟨n, _, h1, h2, h3, hpost _ _ _ _ _ _ ⟨Cond.after_iff.mpr rfl, Cond.after_iff.mpr (eq_i res_at (Term.int_eval (1)) rfl), trivial⟩ ⟨hq.1, hq.2.1, (hq.2.2.sift fun y hy => Or.inr (N y hy)).mono (by decide) (by decide)⟩⟩
theorem main_1_1 : Claimed_1_1 := comes_1 fun _ _ _ _ _ _ h hF => ⟨h.1, hF⟩
theorem main_1_2 : Claimed_1_2 := comes_1 fun _ _ _ _ _ _ h hF => ⟨h.2.1, hF⟩
end Jvm.Pilot.@@N@@
namespace Jvm.Pilot.@@N@@
open Jvm Jvm.ClassFile Sem Op Lib Jvm.Free Jvm.Stand Jvm.Pilot.@@N@@.Jvm.D
/-! MADE BY PROGRAM (witnessworld.py) out of the Statement's table words and the real class files: 12 classes; the members and pool entries that the words name. The judged class is class 1, her method 9. -/
namespace start1
open Jvm.ClassFile
def u (s : String) : CpInfo := .utf8 (stringToUtf16 s)
/-- a pool by its gaps: so many unusable entries, then the entry; so many at the end -/
def gap : Nat → List CpInfo → List CpInfo
  | 0, r => r
  | n + 1, r => .unusable :: gap n r
def poolList (es : List (Nat × CpInfo)) (last : Nat) : List CpInfo := es.foldr (fun e r => gap e.1 (e.2 :: r)) (gap last [])
def pool (es : List (Nat × CpInfo)) (last : Nat) : Array CpInfo := ⟨poolList es last⟩
def fileOf (pool : Array CpInfo) (this : Nat) (attrs : Array Attribute := #[]) (ms : Array MethodInfo := #[]) (fl : Nat := 33) (sup : Nat := 0) (ifs : Array Nat := #[]) (fds : Array FieldInfo := #[]) : ClassFile where
  minorVersion := 0
  majorVersion := 65
  constantPool := pool
  accessFlags := fl
  thisClass := this
  superClass := sup
  interfaces := ifs
  fields := fds
  methods := ms
  attributes := attrs
def plain (name : String) (sup : Option ClassId) : Class where
  name := name
  kind := .ordinary
  loader := none
  accessFlags := 33
  super := sup
  interfaces := #[]
  cf := none
  fields := #[]
  methods := #[]
  instanceTypes := #[]
  staticTypes := #[]
  resolved := #[]
  callSites := []
  init := .initialized
  statics := none
  mirror := none

def pool0 : Array CpInfo := pool [(5, u "<init>"), (0, u "()V"), (1, .class_ 10), (1, u "java/lang/Object")] 113

def k0c0 : Code := { maxStack := 0, maxLocals := 1, code := object_method_1_code, exceptionTable := #[], attributes := #[] }
def k0m0 : Method := { name := "<init>", desc := "()V", sig := { parameters := [], returnType := none }, accessFlags := 1, code := some k0c0 }
/-- java/lang/Object -/
def k0 : Class := { plain "java/lang/Object" none with
  accessFlags := 33
  interfaces := #[]
  cf := some (fileOf pool0 8 #[] #[{ accessFlags := 1, nameIndex := 5, descriptorIndex := 6, attributes := #[] }] 33 0 #[] #[])
  fields := #[]
  methods := #[k0m0]
  instanceTypes := #[]
  staticTypes := #[]
  resolved := Array.replicate 124 none
  statics := none }

def pool1 : Array CpInfo := pool [(2, .class_ 4), (0, .nameAndType 5 6), (0, u "java/lang/Object"), (0, u "<init>"), (0, u "()V"), (0, .methodref 8 9), (0, .class_ 10), (0, .nameAndType 11 12), (0, u "com/example/studybridge/studybridge/codec/mime/SearchSeePinLaw"), (0, u "end"), (0, u "(B)Z"), (0, .methodref 8 14), (0, .nameAndType 15 16), (0, u "start"), (0, u "([BI)I"), (0, .methodref 8 18), (0, .nameAndType 19 12), (0, u "ws"), (0, .methodref 8 21), (0, .nameAndType 22 23), (0, u "noNeg"), (0, u "([BI)Z"), (0, .methodref 8 25), (0, .nameAndType 26 23), (0, u "good"), (0, .methodref 8 28), (0, .nameAndType 29 30), (0, u "pick"), (0, u "(I)B"), (0, .methodref 8 32), (0, .nameAndType 33 23), (0, u "ok"), (0, .class_ 35), (0, u "com/example/studybridge/studybridge/codec/mime/MultipartBoundary$Search"), (0, .methodref 34 3), (0, .methodref 34 38), (0, .nameAndType 39 40), (0, u "see"), (0, u "(B)[B"), (0, .methodref 8 42), (0, .nameAndType 43 44), (0, u "hits"), (0, u "([B[BIZ)Z"), (0, .methodref 34 46), (0, .nameAndType 47 48), (0, u "failed"), (0, u "()Z"), (3, u "law"), (0, u "(IIIII)Z")] 8

def k1m0 : Method := { name := "<init>", desc := "()V", sig := { parameters := [], returnType := none }, accessFlags := 1, code := none }
def k1c1 : Code := { maxStack := 2, maxLocals := 3, code := method_2_code, exceptionTable := #[], attributes := #[] }
def k1m1 : Method := { name := "pick", desc := "(I)B", sig := { parameters := [.int], returnType := some .byte }, accessFlags := 10, code := some k1c1 }
def k1c2 : Code := { maxStack := 2, maxLocals := 1, code := method_3_code, exceptionTable := #[], attributes := #[] }
def k1m2 : Method := { name := "end", desc := "(B)Z", sig := { parameters := [.byte], returnType := some .boolean }, accessFlags := 10, code := some k1c2 }
def k1c3 : Code := { maxStack := 2, maxLocals := 1, code := method_4_code, exceptionTable := #[], attributes := #[] }
def k1m3 : Method := { name := "ws", desc := "(B)Z", sig := { parameters := [.byte], returnType := some .boolean }, accessFlags := 10, code := some k1c3 }
def k1c4 : Code := { maxStack := 2, maxLocals := 2, code := method_5_code, exceptionTable := #[], attributes := #[] }
def k1m4 : Method := { name := "noNeg", desc := "([BI)Z", sig := { parameters := [(.array .byte), .int], returnType := some .boolean }, accessFlags := 10, code := some k1c4 }
def k1c5 : Code := { maxStack := 3, maxLocals := 3, code := method_6_code, exceptionTable := #[], attributes := #[] }
def k1m5 : Method := { name := "start", desc := "([BI)I", sig := { parameters := [(.array .byte), .int], returnType := some .int }, accessFlags := 10, code := some k1c5 }
def k1c6 : Code := { maxStack := 3, maxLocals := 5, code := method_7_code, exceptionTable := #[], attributes := #[] }
def k1m6 : Method := { name := "good", desc := "([BI)Z", sig := { parameters := [(.array .byte), .int], returnType := some .boolean }, accessFlags := 10, code := some k1c6 }
def k1c7 : Code := { maxStack := 2, maxLocals := 2, code := method_8_code, exceptionTable := #[], attributes := #[] }
def k1m7 : Method := { name := "ok", desc := "([BI)Z", sig := { parameters := [(.array .byte), .int], returnType := some .boolean }, accessFlags := 10, code := some k1c7 }
def k1c8 : Code := { maxStack := 4, maxLocals := 6, code := method_9_code, exceptionTable := #[], attributes := #[] }
def k1m8 : Method := { name := "hits", desc := "([B[BIZ)Z", sig := { parameters := [(.array .byte), (.array .byte), .int, .boolean], returnType := some .boolean }, accessFlags := 10, code := some k1c8 }
def k1c9 : Code := { maxStack := 5, maxLocals := 10, code := code, exceptionTable := #[], attributes := #[] }
def k1m9 : Method := { name := "law", desc := "(IIIII)Z", sig := { parameters := [.int, .int, .int, .int, .int], returnType := some .boolean }, accessFlags := 9, code := some k1c9 }
/-- com/example/studybridge/studybridge/codec/mime/SearchSeePinLaw -/
def k1 : Class := { plain "com/example/studybridge/studybridge/codec/mime/SearchSeePinLaw" (some 0) with
  accessFlags := 49
  interfaces := #[]
  cf := some (fileOf pool1 8 #[] #[{ accessFlags := 1, nameIndex := 5, descriptorIndex := 6, attributes := #[] }, { accessFlags := 10, nameIndex := 29, descriptorIndex := 30, attributes := #[] }, { accessFlags := 10, nameIndex := 11, descriptorIndex := 12, attributes := #[] }, { accessFlags := 10, nameIndex := 19, descriptorIndex := 12, attributes := #[] }, { accessFlags := 10, nameIndex := 22, descriptorIndex := 23, attributes := #[] }, { accessFlags := 10, nameIndex := 15, descriptorIndex := 16, attributes := #[] }, { accessFlags := 10, nameIndex := 26, descriptorIndex := 23, attributes := #[] }, { accessFlags := 10, nameIndex := 33, descriptorIndex := 23, attributes := #[] }, { accessFlags := 10, nameIndex := 43, descriptorIndex := 44, attributes := #[] }, { accessFlags := 9, nameIndex := 52, descriptorIndex := 53, attributes := #[] }] 49 2 #[] #[])
  fields := #[]
  methods := #[k1m0, k1m1, k1m2, k1m3, k1m4, k1m5, k1m6, k1m7, k1m8, k1m9]
  instanceTypes := #[]
  staticTypes := #[]
  resolved := Array.replicate 62 none
  statics := none }

def pool2 : Array CpInfo := pool [(1, .class_ 2), (0, u "com/example/studybridge/studybridge/codec/mime/MultipartBoundary"), (0, .methodref 4 5), (0, .class_ 6), (0, .nameAndType 7 8), (0, u "java/lang/Object"), (0, u "<init>"), (0, u "()V"), (0, .fieldref 10 11), (0, .class_ 12), (0, .nameAndType 13 14), (0, u "com/example/studybridge/studybridge/codec/mime/MultipartBoundary$Search"), (0, u "line"), (0, u "[B"), (0, .fieldref 10 16), (0, .nameAndType 17 18), (0, u "boundaryLine"), (0, u "Z"), (0, .fieldref 10 20), (0, .nameAndType 21 18), (0, u "failed"), (0, .fieldref 10 23), (0, .nameAndType 24 25), (0, u "lineLength"), (0, u "I"), (0, .methodref 27 28), (0, .class_ 29), (0, .nameAndType 30 31), (0, u "java/util/Arrays"), (0, u "copyOfRange"), (0, u "([BII)[B"), (0, .fieldref 10 33), (0, .nameAndType 34 25), (0, u "position"), (2, u "see"), (0, u "(B)[B"), (2, u "()Z")] 5

def k2c0 : Code := { maxStack := 2, maxLocals := 1, code := prog_45_method_1_code, exceptionTable := #[], attributes := #[] }
def k2m0 : Method := { name := "<init>", desc := "()V", sig := { parameters := [], returnType := none }, accessFlags := 0, code := some k2c0 }
def k2c1 : Code := { maxStack := 3, maxLocals := 5, code := prog_45_method_2_code, exceptionTable := #[], attributes := #[] }
def k2m1 : Method := { name := "see", desc := "(B)[B", sig := { parameters := [.byte], returnType := some (.array .byte) }, accessFlags := 0, code := some k2c1 }
def k2c2 : Code := { maxStack := 1, maxLocals := 1, code := prog_45_method_3_code, exceptionTable := #[], attributes := #[] }
def k2m2 : Method := { name := "failed", desc := "()Z", sig := { parameters := [], returnType := some .boolean }, accessFlags := 0, code := some k2c2 }
/-- com/example/studybridge/studybridge/codec/mime/MultipartBoundary$Search -/
def k2 : Class := { plain "com/example/studybridge/studybridge/codec/mime/MultipartBoundary$Search" (some 0) with
  accessFlags := 48
  interfaces := #[]
  cf := some (fileOf pool2 10 #[.nestHost 1] #[{ accessFlags := 0, nameIndex := 7, descriptorIndex := 8, attributes := #[] }, { accessFlags := 0, nameIndex := 37, descriptorIndex := 38, attributes := #[] }, { accessFlags := 0, nameIndex := 21, descriptorIndex := 41, attributes := #[] }] 48 4 #[] #[{ accessFlags := 18, nameIndex := 13, descriptorIndex := 14, attributes := #[] }, { accessFlags := 2, nameIndex := 24, descriptorIndex := 25, attributes := #[] }, { accessFlags := 2, nameIndex := 17, descriptorIndex := 18, attributes := #[] }, { accessFlags := 2, nameIndex := 34, descriptorIndex := 25, attributes := #[] }, { accessFlags := 2, nameIndex := 21, descriptorIndex := 18, attributes := #[] }])
  fields := #[{ name := "line", type := (.array .byte), accessFlags := 18, slot := 0, constantValue := 0 }, { name := "lineLength", type := .int, accessFlags := 2, slot := 1, constantValue := 0 }, { name := "boundaryLine", type := .boolean, accessFlags := 2, slot := 2, constantValue := 0 }, { name := "position", type := .int, accessFlags := 2, slot := 3, constantValue := 0 }, { name := "failed", type := .boolean, accessFlags := 2, slot := 4, constantValue := 0 }]
  methods := #[k2m0, k2m1, k2m2]
  instanceTypes := #[(.array .byte), .int, .boolean, .int, .boolean]
  staticTypes := #[]
  resolved := Array.replicate 47 none
  statics := none }

def pool3 : Array CpInfo := pool [(2, .class_ 4), (1, u "java/lang/Object"), (0, u "<init>"), (0, u "()V"), (7, .class_ 16), (1, u "java/util/Arrays"), (57, .class_ 76), (1, u "java/util/Arrays$NaturalOrder"), (36, .class_ 115), (1, u "java/util/Arrays$LegacyMergeSort"), (1, u "Z"), (21, u "copyOfRange"), (10, .methodref 151 152), (0, .class_ 153), (0, .nameAndType 154 155), (0, u "java/lang/System"), (0, u "arraycopy"), (0, u "(Ljava/lang/Object;ILjava/lang/Object;II)V"), (148, .methodref 305 306), (0, .class_ 307), (0, .nameAndType 308 309), (0, u "java/lang/Math"), (0, u "min"), (0, u "(II)I"), (29, .methodref 14 340), (0, .nameAndType 341 342), (0, u "copyOfRangeByte"), (0, u "([BII)[B"), (0, .methodref 14 344), (0, .nameAndType 345 346), (0, u "checkLength"), (0, u "(II)V"), (28, .class_ 376), (0, u "java/util/Arrays$ArrayList"), (68, u "$assertionsDisabled"), (269, u "MIN_ARRAY_SORT_GRAN"), (0, u "I"), (2, u "INSERTIONSORT_THRESHOLD"), (255, .class_ 976), (0, u "java/util/Arrays$ArrayItr")] 52

def k3m0 : Method := { name := "<init>", desc := "()V", sig := { parameters := [], returnType := none }, accessFlags := 2, code := none }
def k3c1 : Code := { maxStack := 4, maxLocals := 2, code := jdk_65_method_131_code, exceptionTable := #[], attributes := #[] }
def k3m1 : Method := { name := "checkLength", desc := "(II)V", sig := { parameters := [.int, .int], returnType := none }, accessFlags := 10, code := some k3c1 }
def k3c2 : Code := { maxStack := 3, maxLocals := 3, code := jdk_65_method_132_code, exceptionTable := #[], attributes := #[] }
def k3m2 : Method := { name := "copyOfRange", desc := "([BII)[B", sig := { parameters := [(.array .byte), .int, .int], returnType := some (.array .byte) }, accessFlags := 9, code := some k3c2 }
def k3c3 : Code := { maxStack := 6, maxLocals := 5, code := jdk_65_method_133_code, exceptionTable := #[], attributes := #[] }
def k3m3 : Method := { name := "copyOfRangeByte", desc := "([BII)[B", sig := { parameters := [(.array .byte), .int, .int], returnType := some (.array .byte) }, accessFlags := 10, code := some k3c3 }
/-- java/util/Arrays -/
def k3 : Class := { plain "java/util/Arrays" (some 0) with
  accessFlags := 49
  interfaces := #[]
  cf := some (fileOf pool3 14 #[.nestMembers #[975, 375, 113, 74]] #[{ accessFlags := 2, nameIndex := 5, descriptorIndex := 6, attributes := #[] }, { accessFlags := 10, nameIndex := 345, descriptorIndex := 346, attributes := #[] }, { accessFlags := 9, nameIndex := 139, descriptorIndex := 342, attributes := #[] }, { accessFlags := 10, nameIndex := 341, descriptorIndex := 342, attributes := #[] }] 49 2 #[] #[{ accessFlags := 26, nameIndex := 715, descriptorIndex := 716, attributes := #[] }, { accessFlags := 26, nameIndex := 719, descriptorIndex := 716, attributes := #[] }, { accessFlags := 4120, nameIndex := 445, descriptorIndex := 117, attributes := #[] }])
  fields := #[{ name := "MIN_ARRAY_SORT_GRAN", type := .int, accessFlags := 26, slot := 0, constantValue := 0 }, { name := "INSERTIONSORT_THRESHOLD", type := .int, accessFlags := 26, slot := 1, constantValue := 0 }, { name := "$assertionsDisabled", type := .boolean, accessFlags := 4120, slot := 2, constantValue := 0 }]
  methods := #[k3m0, k3m1, k3m2, k3m3]
  instanceTypes := #[]
  staticTypes := #[.int, .int, .boolean]
  resolved := Array.replicate 1029 none
  statics := none }

def pool4 : Array CpInfo := pool [(1, .class_ 2), (0, u "java/lang/Math"), (1, .class_ 6), (1, u "java/lang/Object"), (0, u "<init>"), (0, u "()V"), (89, .class_ 100), (1, u "java/lang/Math$RandomNumberGeneratorHolder"), (71, u "negativeZeroFloatBits"), (0, u "J"), (2, u "negativeZeroDoubleBits"), (24, u "min"), (43, u "$assertionsDisabled"), (0, u "Z"), (88, u "(II)I"), (2, u "twoToTheDoubleScaleDown"), (0, u "D"), (4, u "twoToTheDoubleScaleUp"), (9, u "E"), (3, u "PI"), (2, u "TAU"), (2, u "DEGREES_TO_RADIANS"), (0, u "RADIANS_TO_DEGREES")] 94

def k4m0 : Method := { name := "<init>", desc := "()V", sig := { parameters := [], returnType := none }, accessFlags := 2, code := none }
def k4c1 : Code := { maxStack := 2, maxLocals := 2, code := jdk_29_method_69_code, exceptionTable := #[], attributes := #[] }
def k4m1 : Method := { name := "min", desc := "(II)I", sig := { parameters := [.int, .int], returnType := some .int }, accessFlags := 9, code := some k4c1 }
/-- java/lang/Math -/
def k4 : Class := { plain "java/lang/Math" (some 0) with
  accessFlags := 49
  interfaces := #[]
  cf := some (fileOf pool4 1 #[.nestMembers #[98]] #[{ accessFlags := 2, nameIndex := 7, descriptorIndex := 8, attributes := #[] }, { accessFlags := 9, nameIndex := 201, descriptorIndex := 335, attributes := #[] }] 49 4 #[] #[{ accessFlags := 25, nameIndex := 354, descriptorIndex := 339, attributes := #[] }, { accessFlags := 25, nameIndex := 358, descriptorIndex := 339, attributes := #[] }, { accessFlags := 25, nameIndex := 361, descriptorIndex := 339, attributes := #[] }, { accessFlags := 26, nameIndex := 364, descriptorIndex := 339, attributes := #[] }, { accessFlags := 26, nameIndex := 365, descriptorIndex := 339, attributes := #[] }, { accessFlags := 26, nameIndex := 172, descriptorIndex := 173, attributes := #[] }, { accessFlags := 26, nameIndex := 176, descriptorIndex := 173, attributes := #[] }, { accessFlags := 8, nameIndex := 344, descriptorIndex := 339, attributes := #[] }, { accessFlags := 8, nameIndex := 338, descriptorIndex := 339, attributes := #[] }, { accessFlags := 4120, nameIndex := 245, descriptorIndex := 246, attributes := #[] }])
  fields := #[{ name := "E", type := .double, accessFlags := 25, slot := 0, constantValue := 0 }, { name := "PI", type := .double, accessFlags := 25, slot := 1, constantValue := 0 }, { name := "TAU", type := .double, accessFlags := 25, slot := 2, constantValue := 0 }, { name := "DEGREES_TO_RADIANS", type := .double, accessFlags := 26, slot := 3, constantValue := 0 }, { name := "RADIANS_TO_DEGREES", type := .double, accessFlags := 26, slot := 4, constantValue := 0 }, { name := "negativeZeroFloatBits", type := .long, accessFlags := 26, slot := 5, constantValue := 0 }, { name := "negativeZeroDoubleBits", type := .long, accessFlags := 26, slot := 6, constantValue := 0 }, { name := "twoToTheDoubleScaleUp", type := .double, accessFlags := 8, slot := 7, constantValue := 0 }, { name := "twoToTheDoubleScaleDown", type := .double, accessFlags := 8, slot := 8, constantValue := 0 }, { name := "$assertionsDisabled", type := .boolean, accessFlags := 4120, slot := 9, constantValue := 0 }]
  methods := #[k4m0, k4m1]
  instanceTypes := #[]
  staticTypes := #[.double, .double, .double, .double, .double, .long, .long, .double, .double, .boolean]
  resolved := Array.replicate 460 none
  statics := none }

def pool5 : Array CpInfo := pool [(2, .class_ 4), (1, u "java/lang/Object"), (0, u "<init>"), (0, u "()V"), (1, .class_ 10), (1, u "java/lang/System"), (0, u "allowSecurityManager"), (0, u "I"), (16, u "cons"), (0, u "Ljava/io/Console;"), (77, .class_ 110), (1, u "java/lang/System$CallersHolder"), (43, u "initialErrStream"), (0, u "Ljava/io/PrintStream;"), (19, u "security"), (0, u "Ljava/lang/SecurityManager;"), (31, .class_ 209), (0, u "java/lang/System$1"), (7, u "props"), (0, u "Ljava/util/Properties;"), (2, u "lineSeparator"), (0, u "Ljava/lang/String;"), (96, .class_ 321), (1, u "java/lang/System$LoggerFinder"), (5, .class_ 328), (0, u "java/lang/System$Logger"), (67, u "err"), (2, u "out"), (91, u "notSupportedJnuEncoding"), (15, u "in"), (17, u "initialIn"), (0, u "Ljava/io/InputStream;"), (35, u "bootLayer"), (0, u "Ljava/lang/ModuleLayer;"), (99, .class_ 664), (0, u "java/lang/System$2"), (9, u "NEVER"), (2, u "MAYBE"), (49, u "arraycopy"), (0, u "(Ljava/lang/Object;ILjava/lang/Object;II)V"), (72, .class_ 802), (0, u "java/lang/System$Logger$Level")] 31

def k5m0 : Method := { name := "<init>", desc := "()V", sig := { parameters := [], returnType := none }, accessFlags := 2, code := none }
def k5m1 : Method := { name := "arraycopy", desc := "(Ljava/lang/Object;ILjava/lang/Object;II)V", sig := { parameters := [(.object "java/lang/Object"), .int, (.object "java/lang/Object"), .int, .int], returnType := none }, accessFlags := 265, code := none }
/-- java/lang/System -/
def k5 : Class := { plain "java/lang/System" (some 0) with
  accessFlags := 49
  interfaces := #[]
  cf := some (fileOf pool5 8 #[.nestMembers #[319, 327, 801, 108, 663, 208]] #[{ accessFlags := 2, nameIndex := 5, descriptorIndex := 6, attributes := #[] }, { accessFlags := 265, nameIndex := 727, descriptorIndex := 728, attributes := #[] }] 49 2 #[] #[{ accessFlags := 25, nameIndex := 507, descriptorIndex := 526, attributes := #[] }, { accessFlags := 25, nameIndex := 399, descriptorIndex := 155, attributes := #[] }, { accessFlags := 25, nameIndex := 396, descriptorIndex := 155, attributes := #[] }, { accessFlags := 10, nameIndex := 525, descriptorIndex := 526, attributes := #[] }, { accessFlags := 26, nameIndex := 674, descriptorIndex := 12, attributes := #[] }, { accessFlags := 26, nameIndex := 677, descriptorIndex := 12, attributes := #[] }, { accessFlags := 10, nameIndex := 11, descriptorIndex := 12, attributes := #[] }, { accessFlags := 74, nameIndex := 175, descriptorIndex := 176, attributes := #[] }, { accessFlags := 10, nameIndex := 491, descriptorIndex := 222, attributes := #[] }, { accessFlags := 74, nameIndex := 29, descriptorIndex := 30, attributes := #[] }, { accessFlags := 74, nameIndex := 154, descriptorIndex := 155, attributes := #[] }, { accessFlags := 10, nameIndex := 217, descriptorIndex := 218, attributes := #[] }, { accessFlags := 10, nameIndex := 221, descriptorIndex := 222, attributes := #[] }, { accessFlags := 8, nameIndex := 562, descriptorIndex := 563, attributes := #[] }])
  fields := #[{ name := "in", type := (.object "java/io/InputStream"), accessFlags := 25, slot := 0, constantValue := 0 }, { name := "out", type := (.object "java/io/PrintStream"), accessFlags := 25, slot := 1, constantValue := 0 }, { name := "err", type := (.object "java/io/PrintStream"), accessFlags := 25, slot := 2, constantValue := 0 }, { name := "initialIn", type := (.object "java/io/InputStream"), accessFlags := 10, slot := 3, constantValue := 0 }, { name := "NEVER", type := .int, accessFlags := 26, slot := 4, constantValue := 0 }, { name := "MAYBE", type := .int, accessFlags := 26, slot := 5, constantValue := 0 }, { name := "allowSecurityManager", type := .int, accessFlags := 10, slot := 6, constantValue := 0 }, { name := "security", type := (.object "java/lang/SecurityManager"), accessFlags := 74, slot := 7, constantValue := 0 }, { name := "notSupportedJnuEncoding", type := (.object "java/lang/String"), accessFlags := 10, slot := 8, constantValue := 0 }, { name := "cons", type := (.object "java/io/Console"), accessFlags := 74, slot := 9, constantValue := 0 }, { name := "initialErrStream", type := (.object "java/io/PrintStream"), accessFlags := 74, slot := 10, constantValue := 0 }, { name := "props", type := (.object "java/util/Properties"), accessFlags := 10, slot := 11, constantValue := 0 }, { name := "lineSeparator", type := (.object "java/lang/String"), accessFlags := 10, slot := 12, constantValue := 0 }, { name := "bootLayer", type := (.object "java/lang/ModuleLayer"), accessFlags := 8, slot := 13, constantValue := 0 }]
  methods := #[k5m0, k5m1]
  instanceTypes := #[]
  staticTypes := #[(.object "java/io/InputStream"), (.object "java/io/PrintStream"), (.object "java/io/PrintStream"), (.object "java/io/InputStream"), .int, .int, .int, (.object "java/lang/SecurityManager"), (.object "java/lang/String"), (.object "java/io/Console"), (.object "java/io/PrintStream"), (.object "java/util/Properties"), (.object "java/lang/String"), (.object "java/lang/ModuleLayer")]
  resolved := Array.replicate 834 none
  statics := none }

def pool6 : Array CpInfo := pool [(1, u "java/lang/Cloneable"), (0, .class_ 1), (0, u "java/lang/Object"), (0, .class_ 3)] 3

/-- java/lang/Cloneable -/
def k6 : Class := { plain "java/lang/Cloneable" (some 0) with
  accessFlags := 1537
  interfaces := #[]
  cf := some (fileOf pool6 2 #[] #[] 1537 4 #[] #[])
  fields := #[]
  methods := #[]
  instanceTypes := #[]
  staticTypes := #[]
  resolved := Array.replicate 8 none
  statics := none }

def pool7 : Array CpInfo := pool [(1, u "java/io/Serializable"), (0, .class_ 1), (0, u "java/lang/Object"), (0, .class_ 3)] 3

/-- java/io/Serializable -/
def k7 : Class := { plain "java/io/Serializable" (some 0) with
  accessFlags := 1537
  interfaces := #[]
  cf := some (fileOf pool7 2 #[] #[] 1537 4 #[] #[])
  fields := #[]
  methods := #[]
  instanceTypes := #[]
  staticTypes := #[]
  resolved := Array.replicate 8 none
  statics := none }

/-- the primitive byte -/
def k8 : Class := { plain "byte" none with kind := .primitive 'B', accessFlags := 0x411 }
/-- [B -/
def k9 : Class := { plain "[B" (some 0) with kind := .array 8 .byte, interfaces := #[6, 7], accessFlags := 1041 }

/-- the primitive int -/
def k10 : Class := { plain "int" none with kind := .primitive 'I', accessFlags := 0x411 }
/-- [I -/
def k11 : Class := { plain "[I" (some 0) with kind := .array 10 .int, interfaces := #[6, 7], accessFlags := 1041 }

def heap : Heap := #[]
def classes : Array Class := #[k0, k1, k2, k3, k4, k5, k6, k7, k8, k9, k10, k11]
def interned : List (Array UInt16 × Addr) := []
def slotsUsed : Nat := 0
def theMethod : MethodId := ⟨1, 9⟩
def args0 : Array Value := #[.int 1, .int 2, .int 3, .int 4, .int 5]
def aboutOver (below : List Frame) : State where
  vm := { classes := classes, interned := interned.toArray }
  heap := heap
  slotsUsed := slotsUsed
  threads := #[{ frames := .invoking theMethod args0 :: below }]
def below0 : List Frame := [.native { method := ⟨0, 0⟩, args := #[] }]
def about1 : State := aboutOver below0
def p0 : Program := .bare "" "" ""
def e0 : Env := launch0.env 0 0 0
theorem w_frames : about1.frames = Frame.invoking theMethod args0 :: below0 := rfl
set_option maxRecDepth 65536 in
theorem w_args : argsFit about1.vm theMethod args0 = true := by decide +kernel
set_option maxRecDepth 65536 in
theorem w_heap : heapFits about1 = true := by decide +kernel
set_option maxRecDepth 65536 in
theorem w_runnable : about1.curStatus? = some .runnable := by decide +kernel
set_option maxRecDepth 65536 in
theorem w_alone : about1.alone = true := by decide +kernel
set_option maxRecDepth 65536 in
theorem w_named : about1.methodNamed? x = some theMethod := by decide +kernel
set_option maxRecDepth 65536 in
theorem w_hears : about1.hears theMethod below0 = true := by decide +kernel
set_option maxRecDepth 65536 in
theorem w_ripe : about1.ripe theMethod args0 below0 = true := by decide +kernel
theorem w_running : about1.status = .running := rfl
set_option maxRecDepth 65536 in
theorem w_room : about1.hasRoom e0.platform room_1 = true :=
  launch0.hasRoom_least _ room_1 (by decide +kernel) (by decide +kernel) (by decide +kernel) (by decide +kernel) (by decide +kernel) (by decide +kernel)
theorem allAtoms_all (ts : List Jvm.Cond) (a : Array Jvm.Value) (st : Jvm.State) : (allAtoms ts).before a st = ts.all (fun c => c.before a st) := by
  induction ts with
  | nil => rfl
  | cons c t ih =>
    show (Jvm.Cond.and c (allAtoms t)).before a st = _
    rw [Jvm.Cond.before_and, ih, List.all_cons]
def words1 : List Jvm.Cond := Jvm.Cond.code x code maxLocals ret :: tables_1
/-- a 'code' word, met by the world's own term for the bytes: nothing is compared byte by byte -/
theorem code_word {y : MethodName} {bytes : ByteArray} {mx : Nat} {rt : Option FieldType} {a : Array Value} {s : State} {m : MethodId} {meth : Method} {c : Code} (h1 : s.methodNamed? y = some m) (h2 : s.vm.method? m = some meth) (h3 : meth.code = some c) (h4 : c.code = bytes)
    (h5 : (c.maxLocals == mx && c.exceptionTable.isEmpty && decide (c.maxStack ≤ mostOperands) && decide (meth.sig.returnType = rt) && !meth.locks && decide (parseMethodDescriptor y.desc = some meth.sig)) = true) : (Jvm.Cond.code y bytes mx rt).before a s = true := by
  simp only [Bool.and_eq_true, beq_iff_eq, Bool.not_eq_true', decide_eq_true_eq] at h5
  obtain ⟨⟨⟨⟨⟨g1, g2⟩, g3⟩, g4⟩, g5⟩, g6⟩ := h5
  simp [Cond.before, Cond.holds, Cond.value, h1, h2, h3, h4, g1, g2, g3, g4, g5, g6]
def isCode : Jvm.Cond → Bool
  | .code _ _ _ _ => true
  | _ => false
theorem all_split {L : List Jvm.Cond} {P : Jvm.Cond → Bool} (h1 : L.all (fun c => isCode c || P c) = true) (h2 : ∀ c ∈ L.filter isCode, P c = true) : L.all P = true := by
  refine List.all_eq_true.mpr fun c hc => ?_
  have h := List.all_eq_true.mp h1 c hc
  rcases Bool.eq_false_or_eq_true (isCode c) with hi | hi
  · exact h2 c (List.mem_filter.mpr ⟨hc, hi⟩)
  · simpa [hi] using h
set_option maxRecDepth 65536 in
theorem w_c0 : (Jvm.Cond.code x code maxLocals ret).before args0 about1 = true := code_word (m := ⟨1, 9⟩) (meth := k1m9) (c := k1c9) (by decide +kernel) rfl rfl rfl (by decide +kernel)
set_option maxRecDepth 65536 in
theorem w_c1 : (Jvm.Cond.code ({ cls := "com/example/studybridge/studybridge/codec/mime/SearchSeePinLaw", name := "pick", desc := "(I)B" } : Jvm.MethodName) method_2_code (3 : Nat) (Option.some Jvm.ClassFile.FieldType.byte)).before args0 about1 = true := code_word (m := ⟨1, 1⟩) (meth := k1m1) (c := k1c1) (by decide +kernel) rfl rfl rfl (by decide +kernel)
set_option maxRecDepth 65536 in
theorem w_c2 : (Jvm.Cond.code ({ cls := "com/example/studybridge/studybridge/codec/mime/SearchSeePinLaw", name := "ok", desc := "([BI)Z" } : Jvm.MethodName) method_8_code (2 : Nat) (Option.some Jvm.ClassFile.FieldType.boolean)).before args0 about1 = true := code_word (m := ⟨1, 7⟩) (meth := k1m7) (c := k1c7) (by decide +kernel) rfl rfl rfl (by decide +kernel)
set_option maxRecDepth 65536 in
theorem w_c3 : (Jvm.Cond.code ({ cls := "com/example/studybridge/studybridge/codec/mime/SearchSeePinLaw", name := "end", desc := "(B)Z" } : Jvm.MethodName) method_3_code (1 : Nat) (Option.some Jvm.ClassFile.FieldType.boolean)).before args0 about1 = true := code_word (m := ⟨1, 2⟩) (meth := k1m2) (c := k1c2) (by decide +kernel) rfl rfl rfl (by decide +kernel)
set_option maxRecDepth 65536 in
theorem w_c4 : (Jvm.Cond.code ({ cls := "com/example/studybridge/studybridge/codec/mime/MultipartBoundary$Search", name := "<init>", desc := "()V" } : Jvm.MethodName) prog_45_method_1_code (1 : Nat) (Option.none : Option Jvm.ClassFile.FieldType)).before args0 about1 = true := code_word (m := ⟨2, 0⟩) (meth := k2m0) (c := k2c0) (by decide +kernel) rfl rfl rfl (by decide +kernel)
set_option maxRecDepth 65536 in
theorem w_c5 : (Jvm.Cond.code ({ cls := "java/lang/Object", name := "<init>", desc := "()V" } : Jvm.MethodName) object_method_1_code (1 : Nat) (Option.none : Option Jvm.ClassFile.FieldType)).before args0 about1 = true := code_word (m := ⟨0, 0⟩) (meth := k0m0) (c := k0c0) (by decide +kernel) rfl rfl rfl (by decide +kernel)
set_option maxRecDepth 65536 in
theorem w_c6 : (Jvm.Cond.code ({ cls := "com/example/studybridge/studybridge/codec/mime/MultipartBoundary$Search", name := "see", desc := "(B)[B" } : Jvm.MethodName) prog_45_method_2_code (5 : Nat) (Option.some (Jvm.ClassFile.FieldType.array Jvm.ClassFile.FieldType.byte))).before args0 about1 = true := code_word (m := ⟨2, 1⟩) (meth := k2m1) (c := k2c1) (by decide +kernel) rfl rfl rfl (by decide +kernel)
set_option maxRecDepth 65536 in
theorem w_c7 : (Jvm.Cond.code ({ cls := "com/example/studybridge/studybridge/codec/mime/SearchSeePinLaw", name := "hits", desc := "([B[BIZ)Z" } : Jvm.MethodName) method_9_code (6 : Nat) (Option.some Jvm.ClassFile.FieldType.boolean)).before args0 about1 = true := code_word (m := ⟨1, 8⟩) (meth := k1m8) (c := k1c8) (by decide +kernel) rfl rfl rfl (by decide +kernel)
set_option maxRecDepth 65536 in
theorem w_c8 : (Jvm.Cond.code ({ cls := "com/example/studybridge/studybridge/codec/mime/MultipartBoundary$Search", name := "failed", desc := "()Z" } : Jvm.MethodName) prog_45_method_3_code (1 : Nat) (Option.some Jvm.ClassFile.FieldType.boolean)).before args0 about1 = true := code_word (m := ⟨2, 2⟩) (meth := k2m2) (c := k2c2) (by decide +kernel) rfl rfl rfl (by decide +kernel)
set_option maxRecDepth 65536 in
theorem w_c9 : (Jvm.Cond.code ({ cls := "com/example/studybridge/studybridge/codec/mime/SearchSeePinLaw", name := "noNeg", desc := "([BI)Z" } : Jvm.MethodName) method_5_code (2 : Nat) (Option.some Jvm.ClassFile.FieldType.boolean)).before args0 about1 = true := code_word (m := ⟨1, 4⟩) (meth := k1m4) (c := k1c4) (by decide +kernel) rfl rfl rfl (by decide +kernel)
set_option maxRecDepth 65536 in
theorem w_c10 : (Jvm.Cond.code ({ cls := "com/example/studybridge/studybridge/codec/mime/SearchSeePinLaw", name := "good", desc := "([BI)Z" } : Jvm.MethodName) method_7_code (5 : Nat) (Option.some Jvm.ClassFile.FieldType.boolean)).before args0 about1 = true := code_word (m := ⟨1, 6⟩) (meth := k1m6) (c := k1c6) (by decide +kernel) rfl rfl rfl (by decide +kernel)
set_option maxRecDepth 65536 in
theorem w_c11 : (Jvm.Cond.code ({ cls := "com/example/studybridge/studybridge/codec/mime/SearchSeePinLaw", name := "start", desc := "([BI)I" } : Jvm.MethodName) method_6_code (3 : Nat) (Option.some Jvm.ClassFile.FieldType.int)).before args0 about1 = true := code_word (m := ⟨1, 5⟩) (meth := k1m5) (c := k1c5) (by decide +kernel) rfl rfl rfl (by decide +kernel)
set_option maxRecDepth 65536 in
theorem w_c12 : (Jvm.Cond.code ({ cls := "java/util/Arrays", name := "copyOfRange", desc := "([BII)[B" } : Jvm.MethodName) jdk_65_method_132_code (3 : Nat) (Option.some (Jvm.ClassFile.FieldType.array Jvm.ClassFile.FieldType.byte))).before args0 about1 = true := code_word (m := ⟨3, 2⟩) (meth := k3m2) (c := k3c2) (by decide +kernel) rfl rfl rfl (by decide +kernel)
set_option maxRecDepth 65536 in
theorem w_c13 : (Jvm.Cond.code ({ cls := "java/util/Arrays", name := "copyOfRangeByte", desc := "([BII)[B" } : Jvm.MethodName) jdk_65_method_133_code (5 : Nat) (Option.some (Jvm.ClassFile.FieldType.array Jvm.ClassFile.FieldType.byte))).before args0 about1 = true := code_word (m := ⟨3, 3⟩) (meth := k3m3) (c := k3c3) (by decide +kernel) rfl rfl rfl (by decide +kernel)
set_option maxRecDepth 65536 in
theorem w_c14 : (Jvm.Cond.code ({ cls := "java/util/Arrays", name := "checkLength", desc := "(II)V" } : Jvm.MethodName) jdk_65_method_131_code (2 : Nat) (Option.none : Option Jvm.ClassFile.FieldType)).before args0 about1 = true := code_word (m := ⟨3, 1⟩) (meth := k3m1) (c := k3c1) (by decide +kernel) rfl rfl rfl (by decide +kernel)
set_option maxRecDepth 65536 in
theorem w_c15 : (Jvm.Cond.code ({ cls := "java/lang/Math", name := "min", desc := "(II)I" } : Jvm.MethodName) jdk_29_method_69_code (2 : Nat) (Option.some Jvm.ClassFile.FieldType.int)).before args0 about1 = true := code_word (m := ⟨4, 1⟩) (meth := k4m1) (c := k4c1) (by decide +kernel) rfl rfl rfl (by decide +kernel)
set_option maxRecDepth 65536 in
theorem w_c16 : (Jvm.Cond.code ({ cls := "com/example/studybridge/studybridge/codec/mime/SearchSeePinLaw", name := "ws", desc := "(B)Z" } : Jvm.MethodName) method_4_code (1 : Nat) (Option.some Jvm.ClassFile.FieldType.boolean)).before args0 about1 = true := code_word (m := ⟨1, 3⟩) (meth := k1m3) (c := k1c3) (by decide +kernel) rfl rfl rfl (by decide +kernel)
def codes1 : List Jvm.Cond := [Jvm.Cond.code x code maxLocals ret, Jvm.Cond.code ({ cls := "com/example/studybridge/studybridge/codec/mime/SearchSeePinLaw", name := "pick", desc := "(I)B" } : Jvm.MethodName) method_2_code (3 : Nat) (Option.some Jvm.ClassFile.FieldType.byte), Jvm.Cond.code ({ cls := "com/example/studybridge/studybridge/codec/mime/SearchSeePinLaw", name := "ok", desc := "([BI)Z" } : Jvm.MethodName) method_8_code (2 : Nat) (Option.some Jvm.ClassFile.FieldType.boolean), Jvm.Cond.code ({ cls := "com/example/studybridge/studybridge/codec/mime/SearchSeePinLaw", name := "end", desc := "(B)Z" } : Jvm.MethodName) method_3_code (1 : Nat) (Option.some Jvm.ClassFile.FieldType.boolean), Jvm.Cond.code ({ cls := "com/example/studybridge/studybridge/codec/mime/MultipartBoundary$Search", name := "<init>", desc := "()V" } : Jvm.MethodName) prog_45_method_1_code (1 : Nat) (Option.none : Option Jvm.ClassFile.FieldType), Jvm.Cond.code ({ cls := "java/lang/Object", name := "<init>", desc := "()V" } : Jvm.MethodName) object_method_1_code (1 : Nat) (Option.none : Option Jvm.ClassFile.FieldType), Jvm.Cond.code ({ cls := "com/example/studybridge/studybridge/codec/mime/MultipartBoundary$Search", name := "see", desc := "(B)[B" } : Jvm.MethodName) prog_45_method_2_code (5 : Nat) (Option.some (Jvm.ClassFile.FieldType.array Jvm.ClassFile.FieldType.byte)), Jvm.Cond.code ({ cls := "com/example/studybridge/studybridge/codec/mime/SearchSeePinLaw", name := "hits", desc := "([B[BIZ)Z" } : Jvm.MethodName) method_9_code (6 : Nat) (Option.some Jvm.ClassFile.FieldType.boolean), Jvm.Cond.code ({ cls := "com/example/studybridge/studybridge/codec/mime/MultipartBoundary$Search", name := "failed", desc := "()Z" } : Jvm.MethodName) prog_45_method_3_code (1 : Nat) (Option.some Jvm.ClassFile.FieldType.boolean), Jvm.Cond.code ({ cls := "com/example/studybridge/studybridge/codec/mime/SearchSeePinLaw", name := "noNeg", desc := "([BI)Z" } : Jvm.MethodName) method_5_code (2 : Nat) (Option.some Jvm.ClassFile.FieldType.boolean), Jvm.Cond.code ({ cls := "com/example/studybridge/studybridge/codec/mime/SearchSeePinLaw", name := "good", desc := "([BI)Z" } : Jvm.MethodName) method_7_code (5 : Nat) (Option.some Jvm.ClassFile.FieldType.boolean), Jvm.Cond.code ({ cls := "com/example/studybridge/studybridge/codec/mime/SearchSeePinLaw", name := "start", desc := "([BI)I" } : Jvm.MethodName) method_6_code (3 : Nat) (Option.some Jvm.ClassFile.FieldType.int), Jvm.Cond.code ({ cls := "java/util/Arrays", name := "copyOfRange", desc := "([BII)[B" } : Jvm.MethodName) jdk_65_method_132_code (3 : Nat) (Option.some (Jvm.ClassFile.FieldType.array Jvm.ClassFile.FieldType.byte)), Jvm.Cond.code ({ cls := "java/util/Arrays", name := "copyOfRangeByte", desc := "([BII)[B" } : Jvm.MethodName) jdk_65_method_133_code (5 : Nat) (Option.some (Jvm.ClassFile.FieldType.array Jvm.ClassFile.FieldType.byte)), Jvm.Cond.code ({ cls := "java/util/Arrays", name := "checkLength", desc := "(II)V" } : Jvm.MethodName) jdk_65_method_131_code (2 : Nat) (Option.none : Option Jvm.ClassFile.FieldType), Jvm.Cond.code ({ cls := "java/lang/Math", name := "min", desc := "(II)I" } : Jvm.MethodName) jdk_29_method_69_code (2 : Nat) (Option.some Jvm.ClassFile.FieldType.int), Jvm.Cond.code ({ cls := "com/example/studybridge/studybridge/codec/mime/SearchSeePinLaw", name := "ws", desc := "(B)Z" } : Jvm.MethodName) method_4_code (1 : Nat) (Option.some Jvm.ClassFile.FieldType.boolean)]
set_option maxRecDepth 65536 in
theorem codes_eq : words1.filter isCode = codes1 := rfl
theorem w_codes : ∀ c ∈ words1.filter isCode, c.before args0 about1 = true := by
  rw [codes_eq]
  intro c hc
  simp only [codes1, List.mem_cons, List.not_mem_nil, or_false] at hc
  rcases hc with rfl | rfl | rfl | rfl | rfl | rfl | rfl | rfl | rfl | rfl | rfl | rfl | rfl | rfl | rfl | rfl | rfl
  · exact w_c0
  · exact w_c1
  · exact w_c2
  · exact w_c3
  · exact w_c4
  · exact w_c5
  · exact w_c6
  · exact w_c7
  · exact w_c8
  · exact w_c9
  · exact w_c10
  · exact w_c11
  · exact w_c12
  · exact w_c13
  · exact w_c14
  · exact w_c15
  · exact w_c16
set_option maxRecDepth 65536 in
theorem w_t1 : (words1.take 24).all (fun c => isCode c || c.before args0 about1) = true := by decide +kernel
set_option maxRecDepth 65536 in
theorem w_t2 : ((words1.drop 24).take 24).all (fun c => isCode c || c.before args0 about1) = true := by decide +kernel
set_option maxRecDepth 65536 in
theorem w_t3 : (((words1.drop 24).drop 24).take 24).all (fun c => isCode c || c.before args0 about1) = true := by decide +kernel
set_option maxRecDepth 65536 in
theorem w_t4 : (((words1.drop 24).drop 24).drop 24).all (fun c => isCode c || c.before args0 about1) = true := by decide +kernel
theorem w_tables : (allAtoms (Jvm.Cond.code x code maxLocals ret :: tables_1)).before args0 about1 = true := by
  rw [allAtoms_all]
  show words1.all (fun c => c.before args0 about1) = true
  refine all_split ?_ w_codes
  rw [← List.take_append_drop 24 words1, List.all_append, w_t1, ← List.take_append_drop 24 (words1.drop 24), List.all_append, w_t2, ← List.take_append_drop 24 ((words1.drop 24).drop 24), List.all_append, w_t3, w_t4]
  rfl
set_option maxRecDepth 65536 in
theorem w_case : (Jvm.Cond.and given_1 narrow_1).before args0 about1 = true := by decide +kernel
theorem w_applies : (headSpec (Jvm.Cond.code x code maxLocals ret :: tables_1) room_1).applies x e0.platform about1 = true :=
  (Spec.applies_iff w_frames).mpr ⟨w_running, w_runnable, w_alone, w_named, w_hears, w_ripe, w_room, w_tables⟩
theorem atStart : AtStart classFile x code maxLocals ret World_1 tables_1 room_1 Calls_1 rest_1 Pre_1 launch0 p0 e0 about1 theMethod args0 below0 :=
  ⟨lists_1, trivial, launch0.admits_env _ _ _, launch0.least_env, fairChoices_fair.cas, fairChoices_fair.clock, w_frames, w_args, w_heap, w_applies, trivial, trivial, w_case⟩
end start1
theorem witness_1 : WitnessClaimed_1 := ⟨start1.p0, start1.e0, start1.about1, start1.theMethod, start1.args0, start1.below0, start1.atStart⟩
end Jvm.Pilot.@@N@@
