import JvmDerived
import JvmDerived.Pilot.@@N@@Statement
import JvmDerived.Pilot.@@N@@Code
set_option linter.unusedVariables false
set_option linter.unusedSimpArgs false
namespace Jvm.RoadKit
open Sem ClassFile Op Lib Jvm.Stand Jvm.Free Jvm.LawKit
section New
variable {p : Program} {l : Launch} {e : Env} {R : Room} {s : State} {m : MethodId} {args : Array Value} {below : List Frame} {meth : Method} {c : Code} {T : State} {locs : List Loc} {cells slots : Nat}
theorem retI (X : Stand p l e R s m args below meth c T locs cells slots) (hx : p.tables.exec = Jvm.exec) {pc : Nat} {Ls : Array Slot} {z : Int32} {rest : List Value} (hret : meth.sig.returnType = some .int) (hd : decode c.code pc = .ok (.ireturn, 1)) {fs : List Frame}
    (hl : ∀ (f : JFrame) (acts : List Action), f.method = m → f.locked = none → f.entered = [] → (doReturn e (T.setTop f) acts (some (.int z))).1 = T.setFrames fs) : Steps p.tables e below (T.setTop (mkF m pc Ls (.int z :: rest))) (T.setFrames fs) := by
  have hm' : T.vm.method? m = some meth := X.method'
  have hn : narrow .int (.int z) = .int z := rfl
  show Steps p.tables e below (T.setTop { method := m, pc := pc, locals := Ls, stack := _ :: rest, locked := none }) _
  jvm_step X.here [X.here.top, hx, hd, hm', hret, hn]
  first | (intro acts; rw [hl _ acts rfl rfl rfl]) | rw [hl _ _ rfl rfl rfl]
  exact Steps.refl _
end New
end Jvm.RoadKit

namespace Jvm.Pilot.@@N@@
open Jvm Jvm.ClassFile Sem Op Lib Jvm.Free Jvm.Stand Jvm.LawKit Jvm.RoadKit Bundle Jvm.Pilot.@@N@@.Jvm.D
theorem own_le {Z : State} {n0 : Nat} {h : Heap} (O : Old Z n0 h) : n0 ≤ h.size := O.1 ▸ O.2.1
theorem own_narb {c : Prop} [Decidable c] : nar .boolean (if c then (1 : Int32) else 0) = if c then (1 : Int32) else 0 := by split <;> rfl
theorem own_narb' {c : Prop} [Decidable c] : nar .boolean (if c then (0 : Int32) else 1) = if c then (0 : Int32) else 1 := by split <;> rfl
theorem own_eqc {t : Term} {k : Int32} {a0 : Array Value} {Z : State} (h : (Jvm.Cond.eq t (.int k)).value a0 Z none Z [] = some true) : t.eval a0 Z none [] Z = some (.int k) := by
  obtain ⟨x, y, e1, e2, k1, -⟩ := cmp_v (Or.inl h)
  obtain rfl : Value.int k = y := Option.some.inj ((Term.int_eval k).symm.trans e2)
  cases x <;> simp [Kin, Value.isRef] at k1
  simp [Jvm.Cond.value, e1, Term.int_eval] at h
  rw [e1, h]

theorem own_tri (x : Int32) : (x < (0 : Int32) ∧ ¬ (0 : Int32) < x ∧ ¬ x = (0 : Int32)) ∨ (¬ x < (0 : Int32) ∧ (0 : Int32) < x ∧ ¬ x = (0 : Int32)) ∨ (¬ x < (0 : Int32) ∧ ¬ (0 : Int32) < x ∧ x = (0 : Int32)) := by
  simp only [Int32.lt_iff_toInt_lt, ← Int32.toInt_inj]
  have : (0 : Int32).toInt = 0 := rfl
  omega
theorem d_ord_0 : decode jdk_37_method_2_code 0 = .ok (.aload_n 0, 1) := by decide +kernel
theorem d_ord_1 : decode jdk_37_method_2_code 1 = .ok (.getfield 7, 3) := by decide +kernel
theorem d_ord_4 : decode jdk_37_method_2_code 4 = .ok (.ireturn, 1) := by decide +kernel
theorem pn_ord : plainName "java/lang/Enum" = true := by first | (simp [plainName, overriddenIn]; done) | decide +kernel
theorem ef_ord (m : MethodId) (a1 : Addr) : entryFrame m #[(.ref a1)] 1 = (mkF m 0 #[.val (.ref a1)] []) := by first | (simp [entryFrame, mkF, argsToLocals, Value.category]; done) | rfl
def Q_ord (Z : State) (a1 : Addr) (w2 : Int32) (h0 : Heap) (n0 : Nat) (v : Option Value) (h : Heap) (L : List Loc) : Prop := v = some (.int w2) ∧ Fr n0 L ∧ h = h0
set_option maxRecDepth 65536 in
set_option maxHeartbeats 40000000 in
theorem rm_ord (l : Launch) (Z : State) (a0 : Array Value) (hw : ∀ d ∈ tables_1, d.before a0 Z = true) (ws : List Jvm.Cond) (a1 : Addr) (w2 : Int32) (h0 : Heap) (n0 : Nat) (O0 : Old Z n0 h0) (F1 : Fld Z h0 a1 "java/lang/Enum" "ordinal" "I" (.int w2)) :
    MetFree l (⟨"java/lang/Enum", "ordinal", "()I"⟩ : MethodName) (head1 (Jvm.Cond.code (⟨"java/lang/Enum", "ordinal", "()I"⟩ : MethodName) jdk_37_method_2_code 1 (some .int) :: ws) ({ frames := 0, cells := 0, slots := 0, locals := 0 } : Room)) (fun a U => a = #[(.ref a1)] ∧ Z.Warmed39 U.vm ∧ U.heap = h0) (fun _ _ _ _ _ => True) (fun _ U o U' => ∃ v L, o = .returned v ∧ Q_ord Z a1 w2 h0 n0 v U'.heap L ∧ FrameEnd U o U' L ({ frames := 0, cells := 0, slots := 0, locals := 0 } : Room).cells ({ frames := 0, cells := 0, slots := 0, locals := 0 } : Room).slots) := by
  refine MetFree.of_bodySF (plainFor_of_name pn_ord) hisR ?_
  intro p e s m args below meth c s₁ Bd hml0 hP hK
  obtain ⟨rfl, hZ, hh⟩ := hP
  have hx := Bd.exec
  have hby := Bd.bytes
  have hml : c.maxLocals = 1 := hml0
  have hown : s.vm.findClass "java/lang/Enum" = some m.cls := findClass_of_methodNamed Bd.named
  have hnm := (name_of_methodNamed Bd.named Bd.method).1
  have X0 : Stand p l e ({ frames := 0, cells := 0, slots := 0, locals := 0 } : Room) s m #[(.ref a1)] below meth c s₁ [] 0 0 := Stand.of_body Bd
  have e0 : s₁.heap = h0 := by rw [← hh, Bd.state]; rfl
  have N0 := Fr.nil n0
  have pre0 : ∀ t, Steps p.tables e below (s₁.setTop (mkF m 0 #[.val (.ref a1)] [])) t → Steps p.tables e below (s₁.setTop (entryFrame m #[(.ref a1)] 1)) t := fun t k => castTop (ef_ord m a1) k
  have pre_1 : ∀ t, Steps p.tables e below (s₁.setTop (mkF m 1 #[.val (.ref a1)] [(.ref a1)])) t → Steps p.tables e below (s₁.setTop (entryFrame m #[(.ref a1)] 1)) t := by
    intro t k
    refine pre0 t ?_
    show Steps p.tables e below (s₁.setTop (mkF m 0 #[.val (.ref a1)] [])) _
    refine XS.aloadN X0.here hx rfl (hb hby d_ord_0) rfl rfl ?_
    show Steps p.tables e below (s₁.setTop (mkF m 1 #[.val (.ref a1)] [(.ref a1)])) _
    exact k
  obtain ⟨T2, X2, e2, st2⟩ := getF X0 hx hZ hown (host := "") (Or.inl (hw _ (List.mem_of_getElem? (i := 15) rfl))) Via.refl e0 F1 (g := (mkF m 1 #[.val (.ref a1)] [(.ref a1)])) rfl rfl (hb hby d_ord_1)
  have pre_3 : ∀ t, Steps p.tables e below (T2.setTop (mkF m 4 #[.val (.ref a1)] [(.int w2)])) t → Steps p.tables e below (s₁.setTop (entryFrame m #[(.ref a1)] 1)) t := fun t k => pre_1 t (st2 t k)
  obtain ⟨fs, hr, hrun, hended, hW, hsame⟩ := X2.leave (v := some (.int w2)) (fun h => by rw [Bd.returns] at h; cases h)
  refine ⟨_, _, pre_3 _ ?_, hrun, hended, _, _, rfl, ?_, ⟨_, rfl⟩, hW, hsame.mono (by decide) (by decide)⟩
  · show Steps p.tables e below (T2.setTop (mkF m 4 #[.val (.ref a1)] [(.int w2)])) _
    exact retI X2 hx Bd.returns (hb hby d_ord_4) hr
  · show Q_ord Z a1 w2 h0 n0 _ T2.heap _
    rw [e2]
    exact ⟨rfl, N0, rfl⟩
theorem d_holds0_0 : decode prog_38_method_4_code 0 = .ok (.aload_n 0, 1) := by decide +kernel
theorem d_holds0_1 : decode prog_38_method_4_code 1 = .ok (.invokevirtual 35, 3) := by decide +kernel
theorem d_holds0_4 : decode prog_38_method_4_code 4 = .ok (.tableswitch 32 0 3 #[42, 54, 66, 78], 32) := by decide +kernel
theorem d_holds0_46 : decode prog_38_method_4_code 46 = .ok (.iload_n 1, 1) := by decide +kernel
theorem d_holds0_47 : decode prog_38_method_4_code 47 = .ok (.ifCond .ge 7, 3) := by decide +kernel
theorem d_holds0_50 : decode prog_38_method_4_code 50 = .ok (.iconst 1, 1) := by decide +kernel
theorem d_holds0_51 : decode prog_38_method_4_code 51 = .ok (.goto 40, 3) := by decide +kernel
theorem d_holds0_54 : decode prog_38_method_4_code 54 = .ok (.iconst 0, 1) := by decide +kernel
theorem d_holds0_55 : decode prog_38_method_4_code 55 = .ok (.goto 36, 3) := by decide +kernel
theorem d_holds0_91 : decode prog_38_method_4_code 91 = .ok (.ireturn, 1) := by decide +kernel
theorem pn_holds0 : plainName "com/example/quadshape/quadshape/core/validation/Comparison" = true := by first | (simp [plainName, overriddenIn]; done) | decide +kernel
theorem pd_holds0_0 : parseMethodDescriptor "()I" = some ⟨[], some .int⟩ := by decide +kernel
theorem ef_holds0 (m : MethodId) (a1 : Addr) (p2 : Int32) : entryFrame m #[(.ref a1), (.int p2)] 2 = (mkF m 0 #[.val (.ref a1), .val (.int p2)] []) := by first | (simp [entryFrame, mkF, argsToLocals, Value.category]; done) | rfl
def Q_holds0 (Z : State) (a1 : Addr) (p2 : Int32)  (h0 : Heap) (n0 : Nat) (v : Option Value) (h : Heap) (L : List Loc) : Prop := v = some (.int (if p2 < (0 : Int32) then (1 : Int32) else (0 : Int32))) ∧ Fr n0 L ∧ h = h0
set_option maxRecDepth 65536 in
set_option maxHeartbeats 40000000 in
theorem rm_holds0 (l : Launch) (Z : State) (a0 : Array Value) (hw : ∀ d ∈ tables_1, d.before a0 Z = true) (ws : List Jvm.Cond) (a1 : Addr) (p2 : Int32)  (h0 : Heap) (n0 : Nat) (O0 : Old Z n0 h0) (E1 : Exa Z h0 a1 "com/example/quadshape/quadshape/core/validation/Comparison") (F1 : Fld Z h0 a1 "java/lang/Enum" "ordinal" "I" (.int (0 : Int32))) :
    MetFree l (⟨"com/example/quadshape/quadshape/core/validation/Comparison", "holds", "(I)Z"⟩ : MethodName) (head1 (Jvm.Cond.code (⟨"com/example/quadshape/quadshape/core/validation/Comparison", "holds", "(I)Z"⟩ : MethodName) prog_38_method_4_code 2 (some .boolean) :: ws) ({ frames := 1, cells := 0, slots := 0, locals := 12 } : Room)) (fun a U => a = #[(.ref a1), (.int p2)] ∧ Z.Warmed39 U.vm ∧ U.heap = h0) (fun _ _ _ _ _ => True) (fun _ U o U' => ∃ v L, o = .returned v ∧ Q_holds0 Z a1 p2  h0 n0 v U'.heap L ∧ FrameEnd U o U' L ({ frames := 1, cells := 0, slots := 0, locals := 12 } : Room).cells ({ frames := 1, cells := 0, slots := 0, locals := 12 } : Room).slots) := by
  refine MetFree.of_bodySF (plainFor_of_name pn_holds0) hisR ?_
  intro p e s m args below meth c s₁ Bd hml0 hP hK
  obtain ⟨rfl, hZ, hh⟩ := hP
  have hx := Bd.exec
  have hby := Bd.bytes
  have hml : c.maxLocals = 2 := hml0
  have hown : s.vm.findClass "com/example/quadshape/quadshape/core/validation/Comparison" = some m.cls := findClass_of_methodNamed Bd.named
  have hnm := (name_of_methodNamed Bd.named Bd.method).1
  have X0 : Stand p l e ({ frames := 1, cells := 0, slots := 0, locals := 12 } : Room) s m #[(.ref a1), (.int p2)] below meth c s₁ [] 0 0 := Stand.of_body Bd
  have e0 : s₁.heap = h0 := by rw [← hh, Bd.state]; rfl
  have N0 := Fr.nil n0
  have pre0 : ∀ t, Steps p.tables e below (s₁.setTop (mkF m 0 #[.val (.ref a1), .val (.int p2)] [])) t → Steps p.tables e below (s₁.setTop (entryFrame m #[(.ref a1), (.int p2)] 2)) t := fun t k => castTop (ef_holds0 m a1 p2) k
  have pre_1 : ∀ t, Steps p.tables e below (s₁.setTop (mkF m 1 #[.val (.ref a1), .val (.int p2)] [(.ref a1)])) t → Steps p.tables e below (s₁.setTop (entryFrame m #[(.ref a1), (.int p2)] 2)) t := by
    intro t k
    refine pre0 t ?_
    show Steps p.tables e below (s₁.setTop (mkF m 0 #[.val (.ref a1), .val (.int p2)] [])) _
    refine XS.aloadN X0.here hx rfl (hb hby d_holds0_0) rfl rfl ?_
    show Steps p.tables e below (s₁.setTop (mkF m 1 #[.val (.ref a1), .val (.int p2)] [(.ref a1)])) _
    exact k
  obtain ⟨cq2, kq2, qa2, qb2, qc2⟩ := isOf hZ e0 E1
  obtain ⟨_, _, ⟨T2, L2, k2, n2⟩, -, X2, ⟨Lc2, hQ2, l2, y2, z2⟩, st2⟩ := X0.virtualBackUp hx (x := (⟨"com/example/quadshape/quadshape/core/validation/Comparison", "ordinal", "()I"⟩ : MethodName)) (y := (⟨"java/lang/Enum", "ordinal", "()I"⟩ : MethodName)) hown (mvT hZ (hw _ (List.mem_of_getElem? (i := 8) rfl))) (mvT hZ (hw _ (List.mem_of_getElem? (i := 9) rfl))) (mvT hZ (hw _ (List.mem_of_getElem? (i := 10) rfl))) (by decide) (mvT hZ (hw _ (List.mem_of_getElem? (i := 12) rfl))) (mvT hZ (hw _ (List.mem_of_getElem? (i := 11) rfl))) (backOf (W := 0) (rm_ord l Z a0 hw [] a1 (0 : Int32) h0 n0 O0 F1) hZ (hw _ (List.mem_of_getElem? (i := 14) rfl)) (hw _ (List.mem_of_getElem? (i := 13) rfl)) (by decide) (by decide)) qa2 qc2 (g := (mkF m 1 #[.val (.ref a1), .val (.int p2)] [(.ref a1)])) rfl (by rw [hml]; rfl) (Steps.refl _) (argsL := []) (rest := []) (lenOf pd_holds0_0 rfl) rfl (by show 2 * 0 + _ ≤ _; exact Nat.le_of_eq rfl) (hb hby d_holds0_1) (fun _ _ => ⟨rfl, e0, (by decide : 0 + 0 ≤ _), (by decide : 0 + 0 ≤ _)⟩)
  dsimp only [Pt.U, Pt.locs, Pt.cells, Pt.slots] at X2 l2 y2 z2 st2 hQ2
  subst l2 y2 z2
  obtain ⟨rfl, N2q, e2⟩ := hQ2
  have N2 := Fr.app N0 N2q
  have pre_3 : ∀ t, Steps p.tables e below (T2.setTop (mkF m 4 #[.val (.ref a1), .val (.int p2)] [(.int (0 : Int32))])) t → Steps p.tables e below (s₁.setTop (entryFrame m #[(.ref a1), (.int p2)] 2)) t := fun t k => pre_1 t (st2.trans k)
  have pre_4 : ∀ t, Steps p.tables e below (T2.setTop (mkF m 47 #[.val (.ref a1), .val (.int p2)] [(.int p2)])) t → Steps p.tables e below (s₁.setTop (entryFrame m #[(.ref a1), (.int p2)] 2)) t := by
    intro t k
    refine pre_3 t ?_
    show Steps p.tables e below (T2.setTop (mkF m 4 #[.val (.ref a1), .val (.int p2)] [(.int (0 : Int32))])) _
    refine XS.tswIn X2.here hx rfl (pc0 := 4) (pc' := 46) rfl (hb hby d_holds0_4) rfl (by decide) (o := 42) rfl (by decide) (by decide) ?_
    show Steps p.tables e below (T2.setTop (mkF m 46 #[.val (.ref a1), .val (.int p2)] [])) _
    refine XS.iloadN X2.here hx rfl (hb hby d_holds0_46) rfl ?_
    show Steps p.tables e below (T2.setTop (mkF m 47 #[.val (.ref a1), .val (.int p2)] [(.int p2)])) _
    exact k
  by_cases hc5 : p2 < (0 : Int32)
  · skip
    have pre_6 : ∀ t, Steps p.tables e below (T2.setTop (mkF m 91 #[.val (.ref a1), .val (.int p2)] [(.int (1 : Int32))])) t → Steps p.tables e below (s₁.setTop (entryFrame m #[(.ref a1), (.int p2)] 2)) t := by
      intro t k
      refine pre_4 t ?_
      show Steps p.tables e below (T2.setTop (mkF m 47 #[.val (.ref a1), .val (.int p2)] [(.int p2)])) _
      refine XS.ifNo X2.here hx rfl (hb hby d_holds0_47) rfl (XT.i0_ge_f hc5) ?_
      show Steps p.tables e below (T2.setTop (mkF m 50 #[.val (.ref a1), .val (.int p2)] [])) _
      refine XS.iconst X2.here hx rfl (hb hby d_holds0_50) ?_
      show Steps p.tables e below (T2.setTop (mkF m 51 #[.val (.ref a1), .val (.int p2)] [(.int (1 : Int32))])) _
      refine XS.goto X2.here hx rfl (pc0 := 51) (pc' := 91) rfl (hb hby d_holds0_51) (by decide) (by decide) ?_
      show Steps p.tables e below (T2.setTop (mkF m 91 #[.val (.ref a1), .val (.int p2)] [(.int (1 : Int32))])) _
      exact k
    obtain ⟨fs, hr, hrun, hended, hW, hsame⟩ := X2.leave (v := some (.int (1 : Int32))) (fun h => by rw [Bd.returns] at h; cases h)
    refine ⟨_, _, pre_6 _ ?_, hrun, hended, _, _, rfl, ?_, ⟨_, rfl⟩, hW, hsame.mono (by decide) (by decide)⟩
    · show Steps p.tables e below (T2.setTop (mkF m 91 #[.val (.ref a1), .val (.int p2)] [(.int (1 : Int32))])) _
      exact retN X2 hx (t := .boolean) Bd.returns (by simp) (hb hby d_holds0_91) hr
    · show Q_holds0 Z a1 p2  h0 n0 _ T2.heap _
      rw [e2]
      exact ⟨by simp [hc5], N2, rfl⟩
  · skip
    have pre_7 : ∀ t, Steps p.tables e below (T2.setTop (mkF m 91 #[.val (.ref a1), .val (.int p2)] [(.int (0 : Int32))])) t → Steps p.tables e below (s₁.setTop (entryFrame m #[(.ref a1), (.int p2)] 2)) t := by
      intro t k
      refine pre_4 t ?_
      show Steps p.tables e below (T2.setTop (mkF m 47 #[.val (.ref a1), .val (.int p2)] [(.int p2)])) _
      refine XS.ifYes X2.here hx rfl (pc0 := 47) (pc' := 54) rfl (hb hby d_holds0_47) rfl (XT.i0_ge_t hc5) (by decide) (by decide) ?_
      show Steps p.tables e below (T2.setTop (mkF m 54 #[.val (.ref a1), .val (.int p2)] [])) _
      refine XS.iconst X2.here hx rfl (hb hby d_holds0_54) ?_
      show Steps p.tables e below (T2.setTop (mkF m 55 #[.val (.ref a1), .val (.int p2)] [(.int (0 : Int32))])) _
      refine XS.goto X2.here hx rfl (pc0 := 55) (pc' := 91) rfl (hb hby d_holds0_55) (by decide) (by decide) ?_
      show Steps p.tables e below (T2.setTop (mkF m 91 #[.val (.ref a1), .val (.int p2)] [(.int (0 : Int32))])) _
      exact k
    obtain ⟨fs, hr, hrun, hended, hW, hsame⟩ := X2.leave (v := some (.int (0 : Int32))) (fun h => by rw [Bd.returns] at h; cases h)
    refine ⟨_, _, pre_7 _ ?_, hrun, hended, _, _, rfl, ?_, ⟨_, rfl⟩, hW, hsame.mono (by decide) (by decide)⟩
    · show Steps p.tables e below (T2.setTop (mkF m 91 #[.val (.ref a1), .val (.int p2)] [(.int (0 : Int32))])) _
      exact retN X2 hx (t := .boolean) Bd.returns (by simp) (hb hby d_holds0_91) hr
    · show Q_holds0 Z a1 p2  h0 n0 _ T2.heap _
      rw [e2]
      exact ⟨by simp [hc5], N2, rfl⟩
theorem d_holds1_0 : decode prog_38_method_4_code 0 = .ok (.aload_n 0, 1) := by decide +kernel
theorem d_holds1_1 : decode prog_38_method_4_code 1 = .ok (.invokevirtual 35, 3) := by decide +kernel
theorem d_holds1_4 : decode prog_38_method_4_code 4 = .ok (.tableswitch 32 0 3 #[42, 54, 66, 78], 32) := by decide +kernel
theorem d_holds1_58 : decode prog_38_method_4_code 58 = .ok (.iload_n 1, 1) := by decide +kernel
theorem d_holds1_59 : decode prog_38_method_4_code 59 = .ok (.ifCond .gt 7, 3) := by decide +kernel
theorem d_holds1_62 : decode prog_38_method_4_code 62 = .ok (.iconst 1, 1) := by decide +kernel
theorem d_holds1_63 : decode prog_38_method_4_code 63 = .ok (.goto 28, 3) := by decide +kernel
theorem d_holds1_66 : decode prog_38_method_4_code 66 = .ok (.iconst 0, 1) := by decide +kernel
theorem d_holds1_67 : decode prog_38_method_4_code 67 = .ok (.goto 24, 3) := by decide +kernel
theorem d_holds1_91 : decode prog_38_method_4_code 91 = .ok (.ireturn, 1) := by decide +kernel
theorem pn_holds1 : plainName "com/example/quadshape/quadshape/core/validation/Comparison" = true := by first | (simp [plainName, overriddenIn]; done) | decide +kernel
theorem pd_holds1_0 : parseMethodDescriptor "()I" = some ⟨[], some .int⟩ := by decide +kernel
theorem ef_holds1 (m : MethodId) (a1 : Addr) (p2 : Int32) : entryFrame m #[(.ref a1), (.int p2)] 2 = (mkF m 0 #[.val (.ref a1), .val (.int p2)] []) := by first | (simp [entryFrame, mkF, argsToLocals, Value.category]; done) | rfl
def Q_holds1 (Z : State) (a1 : Addr) (p2 : Int32)  (h0 : Heap) (n0 : Nat) (v : Option Value) (h : Heap) (L : List Loc) : Prop := v = some (.int (if (0 : Int32) < p2 then (0 : Int32) else (1 : Int32))) ∧ Fr n0 L ∧ h = h0
set_option maxRecDepth 65536 in
set_option maxHeartbeats 40000000 in
theorem rm_holds1 (l : Launch) (Z : State) (a0 : Array Value) (hw : ∀ d ∈ tables_1, d.before a0 Z = true) (ws : List Jvm.Cond) (a1 : Addr) (p2 : Int32)  (h0 : Heap) (n0 : Nat) (O0 : Old Z n0 h0) (E1 : Exa Z h0 a1 "com/example/quadshape/quadshape/core/validation/Comparison") (F1 : Fld Z h0 a1 "java/lang/Enum" "ordinal" "I" (.int (1 : Int32))) :
    MetFree l (⟨"com/example/quadshape/quadshape/core/validation/Comparison", "holds", "(I)Z"⟩ : MethodName) (head1 (Jvm.Cond.code (⟨"com/example/quadshape/quadshape/core/validation/Comparison", "holds", "(I)Z"⟩ : MethodName) prog_38_method_4_code 2 (some .boolean) :: ws) ({ frames := 1, cells := 0, slots := 0, locals := 12 } : Room)) (fun a U => a = #[(.ref a1), (.int p2)] ∧ Z.Warmed39 U.vm ∧ U.heap = h0) (fun _ _ _ _ _ => True) (fun _ U o U' => ∃ v L, o = .returned v ∧ Q_holds1 Z a1 p2  h0 n0 v U'.heap L ∧ FrameEnd U o U' L ({ frames := 1, cells := 0, slots := 0, locals := 12 } : Room).cells ({ frames := 1, cells := 0, slots := 0, locals := 12 } : Room).slots) := by
  refine MetFree.of_bodySF (plainFor_of_name pn_holds1) hisR ?_
  intro p e s m args below meth c s₁ Bd hml0 hP hK
  obtain ⟨rfl, hZ, hh⟩ := hP
  have hx := Bd.exec
  have hby := Bd.bytes
  have hml : c.maxLocals = 2 := hml0
  have hown : s.vm.findClass "com/example/quadshape/quadshape/core/validation/Comparison" = some m.cls := findClass_of_methodNamed Bd.named
  have hnm := (name_of_methodNamed Bd.named Bd.method).1
  have X0 : Stand p l e ({ frames := 1, cells := 0, slots := 0, locals := 12 } : Room) s m #[(.ref a1), (.int p2)] below meth c s₁ [] 0 0 := Stand.of_body Bd
  have e0 : s₁.heap = h0 := by rw [← hh, Bd.state]; rfl
  have N0 := Fr.nil n0
  have pre0 : ∀ t, Steps p.tables e below (s₁.setTop (mkF m 0 #[.val (.ref a1), .val (.int p2)] [])) t → Steps p.tables e below (s₁.setTop (entryFrame m #[(.ref a1), (.int p2)] 2)) t := fun t k => castTop (ef_holds1 m a1 p2) k
  have pre_1 : ∀ t, Steps p.tables e below (s₁.setTop (mkF m 1 #[.val (.ref a1), .val (.int p2)] [(.ref a1)])) t → Steps p.tables e below (s₁.setTop (entryFrame m #[(.ref a1), (.int p2)] 2)) t := by
    intro t k
    refine pre0 t ?_
    show Steps p.tables e below (s₁.setTop (mkF m 0 #[.val (.ref a1), .val (.int p2)] [])) _
    refine XS.aloadN X0.here hx rfl (hb hby d_holds1_0) rfl rfl ?_
    show Steps p.tables e below (s₁.setTop (mkF m 1 #[.val (.ref a1), .val (.int p2)] [(.ref a1)])) _
    exact k
  obtain ⟨cq2, kq2, qa2, qb2, qc2⟩ := isOf hZ e0 E1
  obtain ⟨_, _, ⟨T2, L2, k2, n2⟩, -, X2, ⟨Lc2, hQ2, l2, y2, z2⟩, st2⟩ := X0.virtualBackUp hx (x := (⟨"com/example/quadshape/quadshape/core/validation/Comparison", "ordinal", "()I"⟩ : MethodName)) (y := (⟨"java/lang/Enum", "ordinal", "()I"⟩ : MethodName)) hown (mvT hZ (hw _ (List.mem_of_getElem? (i := 8) rfl))) (mvT hZ (hw _ (List.mem_of_getElem? (i := 9) rfl))) (mvT hZ (hw _ (List.mem_of_getElem? (i := 10) rfl))) (by decide) (mvT hZ (hw _ (List.mem_of_getElem? (i := 12) rfl))) (mvT hZ (hw _ (List.mem_of_getElem? (i := 11) rfl))) (backOf (W := 0) (rm_ord l Z a0 hw [] a1 (1 : Int32) h0 n0 O0 F1) hZ (hw _ (List.mem_of_getElem? (i := 14) rfl)) (hw _ (List.mem_of_getElem? (i := 13) rfl)) (by decide) (by decide)) qa2 qc2 (g := (mkF m 1 #[.val (.ref a1), .val (.int p2)] [(.ref a1)])) rfl (by rw [hml]; rfl) (Steps.refl _) (argsL := []) (rest := []) (lenOf pd_holds1_0 rfl) rfl (by show 2 * 0 + _ ≤ _; exact Nat.le_of_eq rfl) (hb hby d_holds1_1) (fun _ _ => ⟨rfl, e0, (by decide : 0 + 0 ≤ _), (by decide : 0 + 0 ≤ _)⟩)
  dsimp only [Pt.U, Pt.locs, Pt.cells, Pt.slots] at X2 l2 y2 z2 st2 hQ2
  subst l2 y2 z2
  obtain ⟨rfl, N2q, e2⟩ := hQ2
  have N2 := Fr.app N0 N2q
  have pre_3 : ∀ t, Steps p.tables e below (T2.setTop (mkF m 4 #[.val (.ref a1), .val (.int p2)] [(.int (1 : Int32))])) t → Steps p.tables e below (s₁.setTop (entryFrame m #[(.ref a1), (.int p2)] 2)) t := fun t k => pre_1 t (st2.trans k)
  have pre_4 : ∀ t, Steps p.tables e below (T2.setTop (mkF m 59 #[.val (.ref a1), .val (.int p2)] [(.int p2)])) t → Steps p.tables e below (s₁.setTop (entryFrame m #[(.ref a1), (.int p2)] 2)) t := by
    intro t k
    refine pre_3 t ?_
    show Steps p.tables e below (T2.setTop (mkF m 4 #[.val (.ref a1), .val (.int p2)] [(.int (1 : Int32))])) _
    refine XS.tswIn X2.here hx rfl (pc0 := 4) (pc' := 58) rfl (hb hby d_holds1_4) rfl (by decide) (o := 54) rfl (by decide) (by decide) ?_
    show Steps p.tables e below (T2.setTop (mkF m 58 #[.val (.ref a1), .val (.int p2)] [])) _
    refine XS.iloadN X2.here hx rfl (hb hby d_holds1_58) rfl ?_
    show Steps p.tables e below (T2.setTop (mkF m 59 #[.val (.ref a1), .val (.int p2)] [(.int p2)])) _
    exact k
  by_cases hc5 : (0 : Int32) < p2
  · skip
    have pre_6 : ∀ t, Steps p.tables e below (T2.setTop (mkF m 91 #[.val (.ref a1), .val (.int p2)] [(.int (0 : Int32))])) t → Steps p.tables e below (s₁.setTop (entryFrame m #[(.ref a1), (.int p2)] 2)) t := by
      intro t k
      refine pre_4 t ?_
      show Steps p.tables e below (T2.setTop (mkF m 59 #[.val (.ref a1), .val (.int p2)] [(.int p2)])) _
      refine XS.ifYes X2.here hx rfl (pc0 := 59) (pc' := 66) rfl (hb hby d_holds1_59) rfl (XT.i0_gt_t hc5) (by decide) (by decide) ?_
      show Steps p.tables e below (T2.setTop (mkF m 66 #[.val (.ref a1), .val (.int p2)] [])) _
      refine XS.iconst X2.here hx rfl (hb hby d_holds1_66) ?_
      show Steps p.tables e below (T2.setTop (mkF m 67 #[.val (.ref a1), .val (.int p2)] [(.int (0 : Int32))])) _
      refine XS.goto X2.here hx rfl (pc0 := 67) (pc' := 91) rfl (hb hby d_holds1_67) (by decide) (by decide) ?_
      show Steps p.tables e below (T2.setTop (mkF m 91 #[.val (.ref a1), .val (.int p2)] [(.int (0 : Int32))])) _
      exact k
    obtain ⟨fs, hr, hrun, hended, hW, hsame⟩ := X2.leave (v := some (.int (0 : Int32))) (fun h => by rw [Bd.returns] at h; cases h)
    refine ⟨_, _, pre_6 _ ?_, hrun, hended, _, _, rfl, ?_, ⟨_, rfl⟩, hW, hsame.mono (by decide) (by decide)⟩
    · show Steps p.tables e below (T2.setTop (mkF m 91 #[.val (.ref a1), .val (.int p2)] [(.int (0 : Int32))])) _
      exact retN X2 hx (t := .boolean) Bd.returns (by simp) (hb hby d_holds1_91) hr
    · show Q_holds1 Z a1 p2  h0 n0 _ T2.heap _
      rw [e2]
      exact ⟨by simp [hc5], N2, rfl⟩
  · skip
    have pre_7 : ∀ t, Steps p.tables e below (T2.setTop (mkF m 91 #[.val (.ref a1), .val (.int p2)] [(.int (1 : Int32))])) t → Steps p.tables e below (s₁.setTop (entryFrame m #[(.ref a1), (.int p2)] 2)) t := by
      intro t k
      refine pre_4 t ?_
      show Steps p.tables e below (T2.setTop (mkF m 59 #[.val (.ref a1), .val (.int p2)] [(.int p2)])) _
      refine XS.ifNo X2.here hx rfl (hb hby d_holds1_59) rfl (XT.i0_gt_f hc5) ?_
      show Steps p.tables e below (T2.setTop (mkF m 62 #[.val (.ref a1), .val (.int p2)] [])) _
      refine XS.iconst X2.here hx rfl (hb hby d_holds1_62) ?_
      show Steps p.tables e below (T2.setTop (mkF m 63 #[.val (.ref a1), .val (.int p2)] [(.int (1 : Int32))])) _
      refine XS.goto X2.here hx rfl (pc0 := 63) (pc' := 91) rfl (hb hby d_holds1_63) (by decide) (by decide) ?_
      show Steps p.tables e below (T2.setTop (mkF m 91 #[.val (.ref a1), .val (.int p2)] [(.int (1 : Int32))])) _
      exact k
    obtain ⟨fs, hr, hrun, hended, hW, hsame⟩ := X2.leave (v := some (.int (1 : Int32))) (fun h => by rw [Bd.returns] at h; cases h)
    refine ⟨_, _, pre_7 _ ?_, hrun, hended, _, _, rfl, ?_, ⟨_, rfl⟩, hW, hsame.mono (by decide) (by decide)⟩
    · show Steps p.tables e below (T2.setTop (mkF m 91 #[.val (.ref a1), .val (.int p2)] [(.int (1 : Int32))])) _
      exact retN X2 hx (t := .boolean) Bd.returns (by simp) (hb hby d_holds1_91) hr
    · show Q_holds1 Z a1 p2  h0 n0 _ T2.heap _
      rw [e2]
      exact ⟨by simp [hc5], N2, rfl⟩
theorem d_holds2_0 : decode prog_38_method_4_code 0 = .ok (.aload_n 0, 1) := by decide +kernel
theorem d_holds2_1 : decode prog_38_method_4_code 1 = .ok (.invokevirtual 35, 3) := by decide +kernel
theorem d_holds2_4 : decode prog_38_method_4_code 4 = .ok (.tableswitch 32 0 3 #[42, 54, 66, 78], 32) := by decide +kernel
theorem d_holds2_70 : decode prog_38_method_4_code 70 = .ok (.iload_n 1, 1) := by decide +kernel
theorem d_holds2_71 : decode prog_38_method_4_code 71 = .ok (.ifCond .lt 7, 3) := by decide +kernel
theorem d_holds2_74 : decode prog_38_method_4_code 74 = .ok (.iconst 1, 1) := by decide +kernel
theorem d_holds2_75 : decode prog_38_method_4_code 75 = .ok (.goto 16, 3) := by decide +kernel
theorem d_holds2_78 : decode prog_38_method_4_code 78 = .ok (.iconst 0, 1) := by decide +kernel
theorem d_holds2_79 : decode prog_38_method_4_code 79 = .ok (.goto 12, 3) := by decide +kernel
theorem d_holds2_91 : decode prog_38_method_4_code 91 = .ok (.ireturn, 1) := by decide +kernel
theorem pn_holds2 : plainName "com/example/quadshape/quadshape/core/validation/Comparison" = true := by first | (simp [plainName, overriddenIn]; done) | decide +kernel
theorem pd_holds2_0 : parseMethodDescriptor "()I" = some ⟨[], some .int⟩ := by decide +kernel
theorem ef_holds2 (m : MethodId) (a1 : Addr) (p2 : Int32) : entryFrame m #[(.ref a1), (.int p2)] 2 = (mkF m 0 #[.val (.ref a1), .val (.int p2)] []) := by first | (simp [entryFrame, mkF, argsToLocals, Value.category]; done) | rfl
def Q_holds2 (Z : State) (a1 : Addr) (p2 : Int32)  (h0 : Heap) (n0 : Nat) (v : Option Value) (h : Heap) (L : List Loc) : Prop := v = some (.int (if p2 < (0 : Int32) then (0 : Int32) else (1 : Int32))) ∧ Fr n0 L ∧ h = h0
set_option maxRecDepth 65536 in
set_option maxHeartbeats 40000000 in
theorem rm_holds2 (l : Launch) (Z : State) (a0 : Array Value) (hw : ∀ d ∈ tables_1, d.before a0 Z = true) (ws : List Jvm.Cond) (a1 : Addr) (p2 : Int32)  (h0 : Heap) (n0 : Nat) (O0 : Old Z n0 h0) (E1 : Exa Z h0 a1 "com/example/quadshape/quadshape/core/validation/Comparison") (F1 : Fld Z h0 a1 "java/lang/Enum" "ordinal" "I" (.int (2 : Int32))) :
    MetFree l (⟨"com/example/quadshape/quadshape/core/validation/Comparison", "holds", "(I)Z"⟩ : MethodName) (head1 (Jvm.Cond.code (⟨"com/example/quadshape/quadshape/core/validation/Comparison", "holds", "(I)Z"⟩ : MethodName) prog_38_method_4_code 2 (some .boolean) :: ws) ({ frames := 1, cells := 0, slots := 0, locals := 12 } : Room)) (fun a U => a = #[(.ref a1), (.int p2)] ∧ Z.Warmed39 U.vm ∧ U.heap = h0) (fun _ _ _ _ _ => True) (fun _ U o U' => ∃ v L, o = .returned v ∧ Q_holds2 Z a1 p2  h0 n0 v U'.heap L ∧ FrameEnd U o U' L ({ frames := 1, cells := 0, slots := 0, locals := 12 } : Room).cells ({ frames := 1, cells := 0, slots := 0, locals := 12 } : Room).slots) := by
  refine MetFree.of_bodySF (plainFor_of_name pn_holds2) hisR ?_
  intro p e s m args below meth c s₁ Bd hml0 hP hK
  obtain ⟨rfl, hZ, hh⟩ := hP
  have hx := Bd.exec
  have hby := Bd.bytes
  have hml : c.maxLocals = 2 := hml0
  have hown : s.vm.findClass "com/example/quadshape/quadshape/core/validation/Comparison" = some m.cls := findClass_of_methodNamed Bd.named
  have hnm := (name_of_methodNamed Bd.named Bd.method).1
  have X0 : Stand p l e ({ frames := 1, cells := 0, slots := 0, locals := 12 } : Room) s m #[(.ref a1), (.int p2)] below meth c s₁ [] 0 0 := Stand.of_body Bd
  have e0 : s₁.heap = h0 := by rw [← hh, Bd.state]; rfl
  have N0 := Fr.nil n0
  have pre0 : ∀ t, Steps p.tables e below (s₁.setTop (mkF m 0 #[.val (.ref a1), .val (.int p2)] [])) t → Steps p.tables e below (s₁.setTop (entryFrame m #[(.ref a1), (.int p2)] 2)) t := fun t k => castTop (ef_holds2 m a1 p2) k
  have pre_1 : ∀ t, Steps p.tables e below (s₁.setTop (mkF m 1 #[.val (.ref a1), .val (.int p2)] [(.ref a1)])) t → Steps p.tables e below (s₁.setTop (entryFrame m #[(.ref a1), (.int p2)] 2)) t := by
    intro t k
    refine pre0 t ?_
    show Steps p.tables e below (s₁.setTop (mkF m 0 #[.val (.ref a1), .val (.int p2)] [])) _
    refine XS.aloadN X0.here hx rfl (hb hby d_holds2_0) rfl rfl ?_
    show Steps p.tables e below (s₁.setTop (mkF m 1 #[.val (.ref a1), .val (.int p2)] [(.ref a1)])) _
    exact k
  obtain ⟨cq2, kq2, qa2, qb2, qc2⟩ := isOf hZ e0 E1
  obtain ⟨_, _, ⟨T2, L2, k2, n2⟩, -, X2, ⟨Lc2, hQ2, l2, y2, z2⟩, st2⟩ := X0.virtualBackUp hx (x := (⟨"com/example/quadshape/quadshape/core/validation/Comparison", "ordinal", "()I"⟩ : MethodName)) (y := (⟨"java/lang/Enum", "ordinal", "()I"⟩ : MethodName)) hown (mvT hZ (hw _ (List.mem_of_getElem? (i := 8) rfl))) (mvT hZ (hw _ (List.mem_of_getElem? (i := 9) rfl))) (mvT hZ (hw _ (List.mem_of_getElem? (i := 10) rfl))) (by decide) (mvT hZ (hw _ (List.mem_of_getElem? (i := 12) rfl))) (mvT hZ (hw _ (List.mem_of_getElem? (i := 11) rfl))) (backOf (W := 0) (rm_ord l Z a0 hw [] a1 (2 : Int32) h0 n0 O0 F1) hZ (hw _ (List.mem_of_getElem? (i := 14) rfl)) (hw _ (List.mem_of_getElem? (i := 13) rfl)) (by decide) (by decide)) qa2 qc2 (g := (mkF m 1 #[.val (.ref a1), .val (.int p2)] [(.ref a1)])) rfl (by rw [hml]; rfl) (Steps.refl _) (argsL := []) (rest := []) (lenOf pd_holds2_0 rfl) rfl (by show 2 * 0 + _ ≤ _; exact Nat.le_of_eq rfl) (hb hby d_holds2_1) (fun _ _ => ⟨rfl, e0, (by decide : 0 + 0 ≤ _), (by decide : 0 + 0 ≤ _)⟩)
  dsimp only [Pt.U, Pt.locs, Pt.cells, Pt.slots] at X2 l2 y2 z2 st2 hQ2
  subst l2 y2 z2
  obtain ⟨rfl, N2q, e2⟩ := hQ2
  have N2 := Fr.app N0 N2q
  have pre_3 : ∀ t, Steps p.tables e below (T2.setTop (mkF m 4 #[.val (.ref a1), .val (.int p2)] [(.int (2 : Int32))])) t → Steps p.tables e below (s₁.setTop (entryFrame m #[(.ref a1), (.int p2)] 2)) t := fun t k => pre_1 t (st2.trans k)
  have pre_4 : ∀ t, Steps p.tables e below (T2.setTop (mkF m 71 #[.val (.ref a1), .val (.int p2)] [(.int p2)])) t → Steps p.tables e below (s₁.setTop (entryFrame m #[(.ref a1), (.int p2)] 2)) t := by
    intro t k
    refine pre_3 t ?_
    show Steps p.tables e below (T2.setTop (mkF m 4 #[.val (.ref a1), .val (.int p2)] [(.int (2 : Int32))])) _
    refine XS.tswIn X2.here hx rfl (pc0 := 4) (pc' := 70) rfl (hb hby d_holds2_4) rfl (by decide) (o := 66) rfl (by decide) (by decide) ?_
    show Steps p.tables e below (T2.setTop (mkF m 70 #[.val (.ref a1), .val (.int p2)] [])) _
    refine XS.iloadN X2.here hx rfl (hb hby d_holds2_70) rfl ?_
    show Steps p.tables e below (T2.setTop (mkF m 71 #[.val (.ref a1), .val (.int p2)] [(.int p2)])) _
    exact k
  by_cases hc5 : p2 < (0 : Int32)
  · skip
    have pre_6 : ∀ t, Steps p.tables e below (T2.setTop (mkF m 91 #[.val (.ref a1), .val (.int p2)] [(.int (0 : Int32))])) t → Steps p.tables e below (s₁.setTop (entryFrame m #[(.ref a1), (.int p2)] 2)) t := by
      intro t k
      refine pre_4 t ?_
      show Steps p.tables e below (T2.setTop (mkF m 71 #[.val (.ref a1), .val (.int p2)] [(.int p2)])) _
      refine XS.ifYes X2.here hx rfl (pc0 := 71) (pc' := 78) rfl (hb hby d_holds2_71) rfl (XT.i0_lt_t hc5) (by decide) (by decide) ?_
      show Steps p.tables e below (T2.setTop (mkF m 78 #[.val (.ref a1), .val (.int p2)] [])) _
      refine XS.iconst X2.here hx rfl (hb hby d_holds2_78) ?_
      show Steps p.tables e below (T2.setTop (mkF m 79 #[.val (.ref a1), .val (.int p2)] [(.int (0 : Int32))])) _
      refine XS.goto X2.here hx rfl (pc0 := 79) (pc' := 91) rfl (hb hby d_holds2_79) (by decide) (by decide) ?_
      show Steps p.tables e below (T2.setTop (mkF m 91 #[.val (.ref a1), .val (.int p2)] [(.int (0 : Int32))])) _
      exact k
    obtain ⟨fs, hr, hrun, hended, hW, hsame⟩ := X2.leave (v := some (.int (0 : Int32))) (fun h => by rw [Bd.returns] at h; cases h)
    refine ⟨_, _, pre_6 _ ?_, hrun, hended, _, _, rfl, ?_, ⟨_, rfl⟩, hW, hsame.mono (by decide) (by decide)⟩
    · show Steps p.tables e below (T2.setTop (mkF m 91 #[.val (.ref a1), .val (.int p2)] [(.int (0 : Int32))])) _
      exact retN X2 hx (t := .boolean) Bd.returns (by simp) (hb hby d_holds2_91) hr
    · show Q_holds2 Z a1 p2  h0 n0 _ T2.heap _
      rw [e2]
      exact ⟨by simp [hc5], N2, rfl⟩
  · skip
    have pre_7 : ∀ t, Steps p.tables e below (T2.setTop (mkF m 91 #[.val (.ref a1), .val (.int p2)] [(.int (1 : Int32))])) t → Steps p.tables e below (s₁.setTop (entryFrame m #[(.ref a1), (.int p2)] 2)) t := by
      intro t k
      refine pre_4 t ?_
      show Steps p.tables e below (T2.setTop (mkF m 71 #[.val (.ref a1), .val (.int p2)] [(.int p2)])) _
      refine XS.ifNo X2.here hx rfl (hb hby d_holds2_71) rfl (XT.i0_lt_f hc5) ?_
      show Steps p.tables e below (T2.setTop (mkF m 74 #[.val (.ref a1), .val (.int p2)] [])) _
      refine XS.iconst X2.here hx rfl (hb hby d_holds2_74) ?_
      show Steps p.tables e below (T2.setTop (mkF m 75 #[.val (.ref a1), .val (.int p2)] [(.int (1 : Int32))])) _
      refine XS.goto X2.here hx rfl (pc0 := 75) (pc' := 91) rfl (hb hby d_holds2_75) (by decide) (by decide) ?_
      show Steps p.tables e below (T2.setTop (mkF m 91 #[.val (.ref a1), .val (.int p2)] [(.int (1 : Int32))])) _
      exact k
    obtain ⟨fs, hr, hrun, hended, hW, hsame⟩ := X2.leave (v := some (.int (1 : Int32))) (fun h => by rw [Bd.returns] at h; cases h)
    refine ⟨_, _, pre_7 _ ?_, hrun, hended, _, _, rfl, ?_, ⟨_, rfl⟩, hW, hsame.mono (by decide) (by decide)⟩
    · show Steps p.tables e below (T2.setTop (mkF m 91 #[.val (.ref a1), .val (.int p2)] [(.int (1 : Int32))])) _
      exact retN X2 hx (t := .boolean) Bd.returns (by simp) (hb hby d_holds2_91) hr
    · show Q_holds2 Z a1 p2  h0 n0 _ T2.heap _
      rw [e2]
      exact ⟨by simp [hc5], N2, rfl⟩
theorem d_holds3_0 : decode prog_38_method_4_code 0 = .ok (.aload_n 0, 1) := by decide +kernel
theorem d_holds3_1 : decode prog_38_method_4_code 1 = .ok (.invokevirtual 35, 3) := by decide +kernel
theorem d_holds3_4 : decode prog_38_method_4_code 4 = .ok (.tableswitch 32 0 3 #[42, 54, 66, 78], 32) := by decide +kernel
theorem d_holds3_82 : decode prog_38_method_4_code 82 = .ok (.iload_n 1, 1) := by decide +kernel
theorem d_holds3_83 : decode prog_38_method_4_code 83 = .ok (.ifCond .le 7, 3) := by decide +kernel
theorem d_holds3_86 : decode prog_38_method_4_code 86 = .ok (.iconst 1, 1) := by decide +kernel
theorem d_holds3_87 : decode prog_38_method_4_code 87 = .ok (.goto 4, 3) := by decide +kernel
theorem d_holds3_90 : decode prog_38_method_4_code 90 = .ok (.iconst 0, 1) := by decide +kernel
theorem d_holds3_91 : decode prog_38_method_4_code 91 = .ok (.ireturn, 1) := by decide +kernel
theorem pn_holds3 : plainName "com/example/quadshape/quadshape/core/validation/Comparison" = true := by first | (simp [plainName, overriddenIn]; done) | decide +kernel
theorem pd_holds3_0 : parseMethodDescriptor "()I" = some ⟨[], some .int⟩ := by decide +kernel
theorem ef_holds3 (m : MethodId) (a1 : Addr) (p2 : Int32) : entryFrame m #[(.ref a1), (.int p2)] 2 = (mkF m 0 #[.val (.ref a1), .val (.int p2)] []) := by first | (simp [entryFrame, mkF, argsToLocals, Value.category]; done) | rfl
def Q_holds3 (Z : State) (a1 : Addr) (p2 : Int32)  (h0 : Heap) (n0 : Nat) (v : Option Value) (h : Heap) (L : List Loc) : Prop := v = some (.int (if (0 : Int32) < p2 then (1 : Int32) else (0 : Int32))) ∧ Fr n0 L ∧ h = h0
set_option maxRecDepth 65536 in
set_option maxHeartbeats 40000000 in
theorem rm_holds3 (l : Launch) (Z : State) (a0 : Array Value) (hw : ∀ d ∈ tables_1, d.before a0 Z = true) (ws : List Jvm.Cond) (a1 : Addr) (p2 : Int32)  (h0 : Heap) (n0 : Nat) (O0 : Old Z n0 h0) (E1 : Exa Z h0 a1 "com/example/quadshape/quadshape/core/validation/Comparison") (F1 : Fld Z h0 a1 "java/lang/Enum" "ordinal" "I" (.int (3 : Int32))) :
    MetFree l (⟨"com/example/quadshape/quadshape/core/validation/Comparison", "holds", "(I)Z"⟩ : MethodName) (head1 (Jvm.Cond.code (⟨"com/example/quadshape/quadshape/core/validation/Comparison", "holds", "(I)Z"⟩ : MethodName) prog_38_method_4_code 2 (some .boolean) :: ws) ({ frames := 1, cells := 0, slots := 0, locals := 12 } : Room)) (fun a U => a = #[(.ref a1), (.int p2)] ∧ Z.Warmed39 U.vm ∧ U.heap = h0) (fun _ _ _ _ _ => True) (fun _ U o U' => ∃ v L, o = .returned v ∧ Q_holds3 Z a1 p2  h0 n0 v U'.heap L ∧ FrameEnd U o U' L ({ frames := 1, cells := 0, slots := 0, locals := 12 } : Room).cells ({ frames := 1, cells := 0, slots := 0, locals := 12 } : Room).slots) := by
  refine MetFree.of_bodySF (plainFor_of_name pn_holds3) hisR ?_
  intro p e s m args below meth c s₁ Bd hml0 hP hK
  obtain ⟨rfl, hZ, hh⟩ := hP
  have hx := Bd.exec
  have hby := Bd.bytes
  have hml : c.maxLocals = 2 := hml0
  have hown : s.vm.findClass "com/example/quadshape/quadshape/core/validation/Comparison" = some m.cls := findClass_of_methodNamed Bd.named
  have hnm := (name_of_methodNamed Bd.named Bd.method).1
  have X0 : Stand p l e ({ frames := 1, cells := 0, slots := 0, locals := 12 } : Room) s m #[(.ref a1), (.int p2)] below meth c s₁ [] 0 0 := Stand.of_body Bd
  have e0 : s₁.heap = h0 := by rw [← hh, Bd.state]; rfl
  have N0 := Fr.nil n0
  have pre0 : ∀ t, Steps p.tables e below (s₁.setTop (mkF m 0 #[.val (.ref a1), .val (.int p2)] [])) t → Steps p.tables e below (s₁.setTop (entryFrame m #[(.ref a1), (.int p2)] 2)) t := fun t k => castTop (ef_holds3 m a1 p2) k
  have pre_1 : ∀ t, Steps p.tables e below (s₁.setTop (mkF m 1 #[.val (.ref a1), .val (.int p2)] [(.ref a1)])) t → Steps p.tables e below (s₁.setTop (entryFrame m #[(.ref a1), (.int p2)] 2)) t := by
    intro t k
    refine pre0 t ?_
    show Steps p.tables e below (s₁.setTop (mkF m 0 #[.val (.ref a1), .val (.int p2)] [])) _
    refine XS.aloadN X0.here hx rfl (hb hby d_holds3_0) rfl rfl ?_
    show Steps p.tables e below (s₁.setTop (mkF m 1 #[.val (.ref a1), .val (.int p2)] [(.ref a1)])) _
    exact k
  obtain ⟨cq2, kq2, qa2, qb2, qc2⟩ := isOf hZ e0 E1
  obtain ⟨_, _, ⟨T2, L2, k2, n2⟩, -, X2, ⟨Lc2, hQ2, l2, y2, z2⟩, st2⟩ := X0.virtualBackUp hx (x := (⟨"com/example/quadshape/quadshape/core/validation/Comparison", "ordinal", "()I"⟩ : MethodName)) (y := (⟨"java/lang/Enum", "ordinal", "()I"⟩ : MethodName)) hown (mvT hZ (hw _ (List.mem_of_getElem? (i := 8) rfl))) (mvT hZ (hw _ (List.mem_of_getElem? (i := 9) rfl))) (mvT hZ (hw _ (List.mem_of_getElem? (i := 10) rfl))) (by decide) (mvT hZ (hw _ (List.mem_of_getElem? (i := 12) rfl))) (mvT hZ (hw _ (List.mem_of_getElem? (i := 11) rfl))) (backOf (W := 0) (rm_ord l Z a0 hw [] a1 (3 : Int32) h0 n0 O0 F1) hZ (hw _ (List.mem_of_getElem? (i := 14) rfl)) (hw _ (List.mem_of_getElem? (i := 13) rfl)) (by decide) (by decide)) qa2 qc2 (g := (mkF m 1 #[.val (.ref a1), .val (.int p2)] [(.ref a1)])) rfl (by rw [hml]; rfl) (Steps.refl _) (argsL := []) (rest := []) (lenOf pd_holds3_0 rfl) rfl (by show 2 * 0 + _ ≤ _; exact Nat.le_of_eq rfl) (hb hby d_holds3_1) (fun _ _ => ⟨rfl, e0, (by decide : 0 + 0 ≤ _), (by decide : 0 + 0 ≤ _)⟩)
  dsimp only [Pt.U, Pt.locs, Pt.cells, Pt.slots] at X2 l2 y2 z2 st2 hQ2
  subst l2 y2 z2
  obtain ⟨rfl, N2q, e2⟩ := hQ2
  have N2 := Fr.app N0 N2q
  have pre_3 : ∀ t, Steps p.tables e below (T2.setTop (mkF m 4 #[.val (.ref a1), .val (.int p2)] [(.int (3 : Int32))])) t → Steps p.tables e below (s₁.setTop (entryFrame m #[(.ref a1), (.int p2)] 2)) t := fun t k => pre_1 t (st2.trans k)
  have pre_4 : ∀ t, Steps p.tables e below (T2.setTop (mkF m 83 #[.val (.ref a1), .val (.int p2)] [(.int p2)])) t → Steps p.tables e below (s₁.setTop (entryFrame m #[(.ref a1), (.int p2)] 2)) t := by
    intro t k
    refine pre_3 t ?_
    show Steps p.tables e below (T2.setTop (mkF m 4 #[.val (.ref a1), .val (.int p2)] [(.int (3 : Int32))])) _
    refine XS.tswIn X2.here hx rfl (pc0 := 4) (pc' := 82) rfl (hb hby d_holds3_4) rfl (by decide) (o := 78) rfl (by decide) (by decide) ?_
    show Steps p.tables e below (T2.setTop (mkF m 82 #[.val (.ref a1), .val (.int p2)] [])) _
    refine XS.iloadN X2.here hx rfl (hb hby d_holds3_82) rfl ?_
    show Steps p.tables e below (T2.setTop (mkF m 83 #[.val (.ref a1), .val (.int p2)] [(.int p2)])) _
    exact k
  by_cases hc5 : (0 : Int32) < p2
  · skip
    have pre_6 : ∀ t, Steps p.tables e below (T2.setTop (mkF m 91 #[.val (.ref a1), .val (.int p2)] [(.int (1 : Int32))])) t → Steps p.tables e below (s₁.setTop (entryFrame m #[(.ref a1), (.int p2)] 2)) t := by
      intro t k
      refine pre_4 t ?_
      show Steps p.tables e below (T2.setTop (mkF m 83 #[.val (.ref a1), .val (.int p2)] [(.int p2)])) _
      refine XS.ifNo X2.here hx rfl (hb hby d_holds3_83) rfl (XT.i0_le_f hc5) ?_
      show Steps p.tables e below (T2.setTop (mkF m 86 #[.val (.ref a1), .val (.int p2)] [])) _
      refine XS.iconst X2.here hx rfl (hb hby d_holds3_86) ?_
      show Steps p.tables e below (T2.setTop (mkF m 87 #[.val (.ref a1), .val (.int p2)] [(.int (1 : Int32))])) _
      refine XS.goto X2.here hx rfl (pc0 := 87) (pc' := 91) rfl (hb hby d_holds3_87) (by decide) (by decide) ?_
      show Steps p.tables e below (T2.setTop (mkF m 91 #[.val (.ref a1), .val (.int p2)] [(.int (1 : Int32))])) _
      exact k
    obtain ⟨fs, hr, hrun, hended, hW, hsame⟩ := X2.leave (v := some (.int (1 : Int32))) (fun h => by rw [Bd.returns] at h; cases h)
    refine ⟨_, _, pre_6 _ ?_, hrun, hended, _, _, rfl, ?_, ⟨_, rfl⟩, hW, hsame.mono (by decide) (by decide)⟩
    · show Steps p.tables e below (T2.setTop (mkF m 91 #[.val (.ref a1), .val (.int p2)] [(.int (1 : Int32))])) _
      exact retN X2 hx (t := .boolean) Bd.returns (by simp) (hb hby d_holds3_91) hr
    · show Q_holds3 Z a1 p2  h0 n0 _ T2.heap _
      rw [e2]
      exact ⟨by simp [hc5], N2, rfl⟩
  · skip
    have pre_7 : ∀ t, Steps p.tables e below (T2.setTop (mkF m 91 #[.val (.ref a1), .val (.int p2)] [(.int (0 : Int32))])) t → Steps p.tables e below (s₁.setTop (entryFrame m #[(.ref a1), (.int p2)] 2)) t := by
      intro t k
      refine pre_4 t ?_
      show Steps p.tables e below (T2.setTop (mkF m 83 #[.val (.ref a1), .val (.int p2)] [(.int p2)])) _
      refine XS.ifYes X2.here hx rfl (pc0 := 83) (pc' := 90) rfl (hb hby d_holds3_83) rfl (XT.i0_le_t hc5) (by decide) (by decide) ?_
      show Steps p.tables e below (T2.setTop (mkF m 90 #[.val (.ref a1), .val (.int p2)] [])) _
      refine XS.iconst X2.here hx rfl (hb hby d_holds3_90) ?_
      show Steps p.tables e below (T2.setTop (mkF m 91 #[.val (.ref a1), .val (.int p2)] [(.int (0 : Int32))])) _
      exact k
    obtain ⟨fs, hr, hrun, hended, hW, hsame⟩ := X2.leave (v := some (.int (0 : Int32))) (fun h => by rw [Bd.returns] at h; cases h)
    refine ⟨_, _, pre_7 _ ?_, hrun, hended, _, _, rfl, ?_, ⟨_, rfl⟩, hW, hsame.mono (by decide) (by decide)⟩
    · show Steps p.tables e below (T2.setTop (mkF m 91 #[.val (.ref a1), .val (.int p2)] [(.int (0 : Int32))])) _
      exact retN X2 hx (t := .boolean) Bd.returns (by simp) (hb hby d_holds3_91) hr
    · show Q_holds3 Z a1 p2  h0 n0 _ T2.heap _
      rw [e2]
      exact ⟨by simp [hc5], N2, rfl⟩
theorem pn_law : plainName "com/example/quadshape/quadshape/core/validation/ComparisonHoldsPinLaw" = true := by first | (simp [plainName, overriddenIn]; done) | decide +kernel
theorem pd_law_0 : parseMethodDescriptor "(I)Z" = some ⟨[.int], some .boolean⟩ := by decide +kernel
theorem ef_law (m : MethodId) (p1 : Int32) : entryFrame m #[(.int p1)] maxLocals = (mkF m 0 #[.val (.int p1), .unset, .unset, .unset, .unset, .unset, .unset, .unset, .unset, .unset, .unset] []) := by first | (simp [entryFrame, mkF, argsToLocals, Value.category, maxLocals]; done) | rfl
def Q_law (Z : State) (p1 : Int32) (aLESS : Addr) (aLESS_OR_EQUAL : Addr) (aGREATER_OR_EQUAL : Addr) (aGREATER : Addr) (h0 : Heap) (n0 : Nat) (v : Option Value) (h : Heap) (L : List Loc) : Prop := v = some (.int 1) ∧ Fr n0 L
set_option maxRecDepth 65536 in
set_option maxHeartbeats 40000000 in
theorem rm_law (l : Launch) (Z : State) (a0 : Array Value) (hw : ∀ d ∈ tables_1, d.before a0 Z = true) (ws : List Jvm.Cond) (p1 : Int32) (aLESS : Addr) (aLESS_OR_EQUAL : Addr) (aGREATER_OR_EQUAL : Addr) (aGREATER : Addr) (h0 : Heap) (n0 : Nat) (O0 : Old Z n0 h0) (S_aLESS : Sta Z Z.heap "com/example/quadshape/quadshape/core/validation/Comparison" "LESS" "Lcom/example/quadshape/quadshape/core/validation/Comparison;" (.ref aLESS)) (E_aLESS : Exa Z Z.heap aLESS "com/example/quadshape/quadshape/core/validation/Comparison") (F_aLESS_ordinal : Fld Z Z.heap aLESS "java/lang/Enum" "ordinal" "I" (.int (0 : Int32))) (S_aLESS_OR_EQUAL : Sta Z Z.heap "com/example/quadshape/quadshape/core/validation/Comparison" "LESS_OR_EQUAL" "Lcom/example/quadshape/quadshape/core/validation/Comparison;" (.ref aLESS_OR_EQUAL)) (E_aLESS_OR_EQUAL : Exa Z Z.heap aLESS_OR_EQUAL "com/example/quadshape/quadshape/core/validation/Comparison") (F_aLESS_OR_EQUAL_ordinal : Fld Z Z.heap aLESS_OR_EQUAL "java/lang/Enum" "ordinal" "I" (.int (1 : Int32))) (S_aGREATER_OR_EQUAL : Sta Z Z.heap "com/example/quadshape/quadshape/core/validation/Comparison" "GREATER_OR_EQUAL" "Lcom/example/quadshape/quadshape/core/validation/Comparison;" (.ref aGREATER_OR_EQUAL)) (E_aGREATER_OR_EQUAL : Exa Z Z.heap aGREATER_OR_EQUAL "com/example/quadshape/quadshape/core/validation/Comparison") (F_aGREATER_OR_EQUAL_ordinal : Fld Z Z.heap aGREATER_OR_EQUAL "java/lang/Enum" "ordinal" "I" (.int (2 : Int32))) (S_aGREATER : Sta Z Z.heap "com/example/quadshape/quadshape/core/validation/Comparison" "GREATER" "Lcom/example/quadshape/quadshape/core/validation/Comparison;" (.ref aGREATER)) (E_aGREATER : Exa Z Z.heap aGREATER "com/example/quadshape/quadshape/core/validation/Comparison") (F_aGREATER_ordinal : Fld Z Z.heap aGREATER "java/lang/Enum" "ordinal" "I" (.int (3 : Int32))) :
    MetFree l x (head1 (Jvm.Cond.code x code maxLocals ret :: ws) room_1) (fun a U => a = #[(.int p1)] ∧ Z.Warmed39 U.vm ∧ U.heap = h0) (fun _ _ _ _ _ => True) (fun _ U o U' => ∃ v L, o = .returned v ∧ Q_law Z p1 aLESS aLESS_OR_EQUAL aGREATER_OR_EQUAL aGREATER h0 n0 v U'.heap L ∧ FrameEnd U o U' L room_1.cells room_1.slots) := by
  refine MetFree.of_bodySF (plainFor_of_name pn_law) hisR ?_
  intro p e s m args below meth c s₁ Bd hml0 hP hK
  obtain ⟨rfl, hZ, hh⟩ := hP
  have hx := Bd.exec
  have hby := Bd.bytes
  have hml : c.maxLocals = 11 := hml0
  have hown : s.vm.findClass "com/example/quadshape/quadshape/core/validation/ComparisonHoldsPinLaw" = some m.cls := findClass_of_methodNamed Bd.named
  have hnm := (name_of_methodNamed Bd.named Bd.method).1
  have X0 : Stand p l e room_1 s m #[(.int p1)] below meth c s₁ [] 0 0 := Stand.of_body Bd
  have e0 : s₁.heap = h0 := by rw [← hh, Bd.state]; rfl
  have N0 := Fr.nil n0
  have pre0 : ∀ t, Steps p.tables e below (s₁.setTop (mkF m 0 #[.val (.int p1), .unset, .unset, .unset, .unset, .unset, .unset, .unset, .unset, .unset, .unset] [])) t → Steps p.tables e below (s₁.setTop (entryFrame m #[(.int p1)] maxLocals)) t := fun t k => castTop (ef_law m p1) k
  obtain ⟨T1, X1, e1, st1⟩ := getS X0 hx hZ hown (host := "") (hw _ (List.mem_of_getElem? (i := 0) rfl)) Via.refl e0 (S_aLESS.ext O0.2) (g := (mkF m 0 #[.val (.int p1), .unset, .unset, .unset, .unset, .unset, .unset, .unset, .unset, .unset, .unset] [])) rfl (hb hby at_0)
  have pre_2 : ∀ t, Steps p.tables e below (T1.setTop (mkF m 3 #[.val (.int p1), .unset, .unset, .unset, .unset, .unset, .unset, .unset, .unset, .unset, .unset] [(.ref aLESS)])) t → Steps p.tables e below (s₁.setTop (entryFrame m #[(.int p1)] maxLocals)) t := fun t k => pre0 t (st1 t k)
  have pre_3 : ∀ t, Steps p.tables e below (T1.setTop (mkF m 4 #[.val (.int p1), .unset, .unset, .unset, .unset, .unset, .unset, .unset, .unset, .unset, .unset] [(.int p1), (.ref aLESS)])) t → Steps p.tables e below (s₁.setTop (entryFrame m #[(.int p1)] maxLocals)) t := by
    intro t k
    refine pre_2 t ?_
    show Steps p.tables e below (T1.setTop (mkF m 3 #[.val (.int p1), .unset, .unset, .unset, .unset, .unset, .unset, .unset, .unset, .unset, .unset] [(.ref aLESS)])) _
    refine XS.iloadN X1.here hx rfl (hb hby at_3) rfl ?_
    show Steps p.tables e below (T1.setTop (mkF m 4 #[.val (.int p1), .unset, .unset, .unset, .unset, .unset, .unset, .unset, .unset, .unset, .unset] [(.int p1), (.ref aLESS)])) _
    exact k
  obtain ⟨cq4, kq4, qa4, qb4, qc4⟩ := isOf hZ e1 (E_aLESS.ext O0.2)
  obtain ⟨_, _, ⟨T4, L4, k4, n4⟩, -, X4, ⟨Lc4, hQ4, l4, y4, z4⟩, st4⟩ := X1.virtualBack hx (y := (⟨"com/example/quadshape/quadshape/core/validation/Comparison", "holds", "(I)Z"⟩ : MethodName)) (z := (⟨"com/example/quadshape/quadshape/core/validation/Comparison", "holds", "(I)Z"⟩ : MethodName)) hown (mvT hZ (hw _ (List.mem_of_getElem? (i := 3) rfl))) (mvT hZ (hw _ (List.mem_of_getElem? (i := 4) rfl))) (notFace_of_selects (args := #[]) (mvT hZ (hw _ (List.mem_of_getElem? (i := 6) rfl)))) (mvT hZ (hw _ (List.mem_of_getElem? (i := 6) rfl))) (mvT hZ (hw _ (List.mem_of_getElem? (i := 5) rfl))) (by decide) (backOf (W := 0) (rm_holds0 l Z a0 hw [] aLESS p1 h0 n0 O0 (E_aLESS.ext O0.2) (F_aLESS_ordinal.ext O0.2)) hZ (hw _ (List.mem_of_getElem? (i := 7) rfl)) (hw _ (List.mem_of_getElem? (i := 1) rfl)) (by decide) (by decide)) qa4 qc4 (g := (mkF m 4 #[.val (.int p1), .unset, .unset, .unset, .unset, .unset, .unset, .unset, .unset, .unset, .unset] [(.int p1), (.ref aLESS)])) rfl (by rw [hml]; rfl) (Steps.refl _) (argsL := [(.int p1)]) (rest := []) (lenOf pd_law_0 rfl) rfl (by show 2 * 0 + _ ≤ _; exact Nat.le_of_eq rfl) (hb hby at_4) (fun _ _ => ⟨rfl, e1, (by decide : 0 + 0 ≤ _), (by decide : 0 + 0 ≤ _)⟩)
  dsimp only [Pt.U, Pt.locs, Pt.cells, Pt.slots] at X4 l4 y4 z4 st4 hQ4
  subst l4 y4 z4
  obtain ⟨rfl, N4q, e4⟩ := hQ4
  have N4 := Fr.app N0 N4q
  have pre_5 : ∀ t, Steps p.tables e below (T4.setTop (mkF m 7 #[.val (.int p1), .unset, .unset, .unset, .unset, .unset, .unset, .unset, .unset, .unset, .unset] [(.int (if p1 < (0 : Int32) then (1 : Int32) else (0 : Int32)))])) t → Steps p.tables e below (s₁.setTop (entryFrame m #[(.int p1)] maxLocals)) t := fun t k => pre_3 t (st4.trans k)
  have pre_6 : ∀ t, Steps p.tables e below (T4.setTop (mkF m 8 #[.val (.int p1), .val (.int (if p1 < (0 : Int32) then (1 : Int32) else (0 : Int32))), .unset, .unset, .unset, .unset, .unset, .unset, .unset, .unset, .unset] [])) t → Steps p.tables e below (s₁.setTop (entryFrame m #[(.int p1)] maxLocals)) t := by
    intro t k
    refine pre_5 t ?_
    show Steps p.tables e below (T4.setTop (mkF m 7 #[.val (.int p1), .unset, .unset, .unset, .unset, .unset, .unset, .unset, .unset, .unset, .unset] [(.int (if p1 < (0 : Int32) then (1 : Int32) else (0 : Int32)))])) _
    refine XS.istoreN X4.here hx rfl (hb hby at_7) rfl (l' := #[.val (.int p1), .val (.int (if p1 < (0 : Int32) then (1 : Int32) else (0 : Int32))), .unset, .unset, .unset, .unset, .unset, .unset, .unset, .unset, .unset]) rfl ?_
    show Steps p.tables e below (T4.setTop (mkF m 8 #[.val (.int p1), .val (.int (if p1 < (0 : Int32) then (1 : Int32) else (0 : Int32))), .unset, .unset, .unset, .unset, .unset, .unset, .unset, .unset, .unset] [])) _
    exact k
  obtain ⟨T7, X7, e7, st7⟩ := getS X4 hx hZ hown (host := "") (hw _ (List.mem_of_getElem? (i := 17) rfl)) Via.refl e4 (S_aLESS_OR_EQUAL.ext O0.2) (g := (mkF m 8 #[.val (.int p1), .val (.int (if p1 < (0 : Int32) then (1 : Int32) else (0 : Int32))), .unset, .unset, .unset, .unset, .unset, .unset, .unset, .unset, .unset] [])) rfl (hb hby at_8)
  have pre_8 : ∀ t, Steps p.tables e below (T7.setTop (mkF m 11 #[.val (.int p1), .val (.int (if p1 < (0 : Int32) then (1 : Int32) else (0 : Int32))), .unset, .unset, .unset, .unset, .unset, .unset, .unset, .unset, .unset] [(.ref aLESS_OR_EQUAL)])) t → Steps p.tables e below (s₁.setTop (entryFrame m #[(.int p1)] maxLocals)) t := fun t k => pre_6 t (st7 t k)
  have pre_9 : ∀ t, Steps p.tables e below (T7.setTop (mkF m 12 #[.val (.int p1), .val (.int (if p1 < (0 : Int32) then (1 : Int32) else (0 : Int32))), .unset, .unset, .unset, .unset, .unset, .unset, .unset, .unset, .unset] [(.int p1), (.ref aLESS_OR_EQUAL)])) t → Steps p.tables e below (s₁.setTop (entryFrame m #[(.int p1)] maxLocals)) t := by
    intro t k
    refine pre_8 t ?_
    show Steps p.tables e below (T7.setTop (mkF m 11 #[.val (.int p1), .val (.int (if p1 < (0 : Int32) then (1 : Int32) else (0 : Int32))), .unset, .unset, .unset, .unset, .unset, .unset, .unset, .unset, .unset] [(.ref aLESS_OR_EQUAL)])) _
    refine XS.iloadN X7.here hx rfl (hb hby at_11) rfl ?_
    show Steps p.tables e below (T7.setTop (mkF m 12 #[.val (.int p1), .val (.int (if p1 < (0 : Int32) then (1 : Int32) else (0 : Int32))), .unset, .unset, .unset, .unset, .unset, .unset, .unset, .unset, .unset] [(.int p1), (.ref aLESS_OR_EQUAL)])) _
    exact k
  obtain ⟨cq10, kq10, qa10, qb10, qc10⟩ := isOf hZ e7 (E_aLESS_OR_EQUAL.ext O0.2)
  obtain ⟨_, _, ⟨T10, L10, k10, n10⟩, -, X10, ⟨Lc10, hQ10, l10, y10, z10⟩, st10⟩ := X7.virtualBack hx (y := (⟨"com/example/quadshape/quadshape/core/validation/Comparison", "holds", "(I)Z"⟩ : MethodName)) (z := (⟨"com/example/quadshape/quadshape/core/validation/Comparison", "holds", "(I)Z"⟩ : MethodName)) hown (mvT hZ (hw _ (List.mem_of_getElem? (i := 3) rfl))) (mvT hZ (hw _ (List.mem_of_getElem? (i := 4) rfl))) (notFace_of_selects (args := #[]) (mvT hZ (hw _ (List.mem_of_getElem? (i := 6) rfl)))) (mvT hZ (hw _ (List.mem_of_getElem? (i := 6) rfl))) (mvT hZ (hw _ (List.mem_of_getElem? (i := 5) rfl))) (by decide) (backOf (W := 0) (rm_holds1 l Z a0 hw [] aLESS_OR_EQUAL p1 h0 n0 O0 (E_aLESS_OR_EQUAL.ext O0.2) (F_aLESS_OR_EQUAL_ordinal.ext O0.2)) hZ (hw _ (List.mem_of_getElem? (i := 7) rfl)) (hw _ (List.mem_of_getElem? (i := 1) rfl)) (by decide) (by decide)) qa10 qc10 (g := (mkF m 12 #[.val (.int p1), .val (.int (if p1 < (0 : Int32) then (1 : Int32) else (0 : Int32))), .unset, .unset, .unset, .unset, .unset, .unset, .unset, .unset, .unset] [(.int p1), (.ref aLESS_OR_EQUAL)])) rfl (by rw [hml]; rfl) (Steps.refl _) (argsL := [(.int p1)]) (rest := []) (lenOf pd_law_0 rfl) rfl (by show 2 * 0 + _ ≤ _; exact Nat.le_of_eq rfl) (hb hby at_12) (fun _ _ => ⟨rfl, e7, (by decide : 0 + 0 ≤ _), (by decide : 0 + 0 ≤ _)⟩)
  dsimp only [Pt.U, Pt.locs, Pt.cells, Pt.slots] at X10 l10 y10 z10 st10 hQ10
  subst l10 y10 z10
  obtain ⟨rfl, N10q, e10⟩ := hQ10
  have N10 := Fr.app N4 N10q
  have pre_11 : ∀ t, Steps p.tables e below (T10.setTop (mkF m 15 #[.val (.int p1), .val (.int (if p1 < (0 : Int32) then (1 : Int32) else (0 : Int32))), .unset, .unset, .unset, .unset, .unset, .unset, .unset, .unset, .unset] [(.int (if (0 : Int32) < p1 then (0 : Int32) else (1 : Int32)))])) t → Steps p.tables e below (s₁.setTop (entryFrame m #[(.int p1)] maxLocals)) t := fun t k => pre_9 t (st10.trans k)
  have pre_12 : ∀ t, Steps p.tables e below (T10.setTop (mkF m 16 #[.val (.int p1), .val (.int (if p1 < (0 : Int32) then (1 : Int32) else (0 : Int32))), .val (.int (if (0 : Int32) < p1 then (0 : Int32) else (1 : Int32))), .unset, .unset, .unset, .unset, .unset, .unset, .unset, .unset] [])) t → Steps p.tables e below (s₁.setTop (entryFrame m #[(.int p1)] maxLocals)) t := by
    intro t k
    refine pre_11 t ?_
    show Steps p.tables e below (T10.setTop (mkF m 15 #[.val (.int p1), .val (.int (if p1 < (0 : Int32) then (1 : Int32) else (0 : Int32))), .unset, .unset, .unset, .unset, .unset, .unset, .unset, .unset, .unset] [(.int (if (0 : Int32) < p1 then (0 : Int32) else (1 : Int32)))])) _
    refine XS.istoreN X10.here hx rfl (hb hby at_15) rfl (l' := #[.val (.int p1), .val (.int (if p1 < (0 : Int32) then (1 : Int32) else (0 : Int32))), .val (.int (if (0 : Int32) < p1 then (0 : Int32) else (1 : Int32))), .unset, .unset, .unset, .unset, .unset, .unset, .unset, .unset]) rfl ?_
    show Steps p.tables e below (T10.setTop (mkF m 16 #[.val (.int p1), .val (.int (if p1 < (0 : Int32) then (1 : Int32) else (0 : Int32))), .val (.int (if (0 : Int32) < p1 then (0 : Int32) else (1 : Int32))), .unset, .unset, .unset, .unset, .unset, .unset, .unset, .unset] [])) _
    exact k
  obtain ⟨T13, X13, e13, st13⟩ := getS X10 hx hZ hown (host := "") (hw _ (List.mem_of_getElem? (i := 19) rfl)) Via.refl e10 (S_aGREATER_OR_EQUAL.ext O0.2) (g := (mkF m 16 #[.val (.int p1), .val (.int (if p1 < (0 : Int32) then (1 : Int32) else (0 : Int32))), .val (.int (if (0 : Int32) < p1 then (0 : Int32) else (1 : Int32))), .unset, .unset, .unset, .unset, .unset, .unset, .unset, .unset] [])) rfl (hb hby at_16)
  have pre_14 : ∀ t, Steps p.tables e below (T13.setTop (mkF m 19 #[.val (.int p1), .val (.int (if p1 < (0 : Int32) then (1 : Int32) else (0 : Int32))), .val (.int (if (0 : Int32) < p1 then (0 : Int32) else (1 : Int32))), .unset, .unset, .unset, .unset, .unset, .unset, .unset, .unset] [(.ref aGREATER_OR_EQUAL)])) t → Steps p.tables e below (s₁.setTop (entryFrame m #[(.int p1)] maxLocals)) t := fun t k => pre_12 t (st13 t k)
  have pre_15 : ∀ t, Steps p.tables e below (T13.setTop (mkF m 20 #[.val (.int p1), .val (.int (if p1 < (0 : Int32) then (1 : Int32) else (0 : Int32))), .val (.int (if (0 : Int32) < p1 then (0 : Int32) else (1 : Int32))), .unset, .unset, .unset, .unset, .unset, .unset, .unset, .unset] [(.int p1), (.ref aGREATER_OR_EQUAL)])) t → Steps p.tables e below (s₁.setTop (entryFrame m #[(.int p1)] maxLocals)) t := by
    intro t k
    refine pre_14 t ?_
    show Steps p.tables e below (T13.setTop (mkF m 19 #[.val (.int p1), .val (.int (if p1 < (0 : Int32) then (1 : Int32) else (0 : Int32))), .val (.int (if (0 : Int32) < p1 then (0 : Int32) else (1 : Int32))), .unset, .unset, .unset, .unset, .unset, .unset, .unset, .unset] [(.ref aGREATER_OR_EQUAL)])) _
    refine XS.iloadN X13.here hx rfl (hb hby at_19) rfl ?_
    show Steps p.tables e below (T13.setTop (mkF m 20 #[.val (.int p1), .val (.int (if p1 < (0 : Int32) then (1 : Int32) else (0 : Int32))), .val (.int (if (0 : Int32) < p1 then (0 : Int32) else (1 : Int32))), .unset, .unset, .unset, .unset, .unset, .unset, .unset, .unset] [(.int p1), (.ref aGREATER_OR_EQUAL)])) _
    exact k
  obtain ⟨cq16, kq16, qa16, qb16, qc16⟩ := isOf hZ e13 (E_aGREATER_OR_EQUAL.ext O0.2)
  obtain ⟨_, _, ⟨T16, L16, k16, n16⟩, -, X16, ⟨Lc16, hQ16, l16, y16, z16⟩, st16⟩ := X13.virtualBack hx (y := (⟨"com/example/quadshape/quadshape/core/validation/Comparison", "holds", "(I)Z"⟩ : MethodName)) (z := (⟨"com/example/quadshape/quadshape/core/validation/Comparison", "holds", "(I)Z"⟩ : MethodName)) hown (mvT hZ (hw _ (List.mem_of_getElem? (i := 3) rfl))) (mvT hZ (hw _ (List.mem_of_getElem? (i := 4) rfl))) (notFace_of_selects (args := #[]) (mvT hZ (hw _ (List.mem_of_getElem? (i := 6) rfl)))) (mvT hZ (hw _ (List.mem_of_getElem? (i := 6) rfl))) (mvT hZ (hw _ (List.mem_of_getElem? (i := 5) rfl))) (by decide) (backOf (W := 0) (rm_holds2 l Z a0 hw [] aGREATER_OR_EQUAL p1 h0 n0 O0 (E_aGREATER_OR_EQUAL.ext O0.2) (F_aGREATER_OR_EQUAL_ordinal.ext O0.2)) hZ (hw _ (List.mem_of_getElem? (i := 7) rfl)) (hw _ (List.mem_of_getElem? (i := 1) rfl)) (by decide) (by decide)) qa16 qc16 (g := (mkF m 20 #[.val (.int p1), .val (.int (if p1 < (0 : Int32) then (1 : Int32) else (0 : Int32))), .val (.int (if (0 : Int32) < p1 then (0 : Int32) else (1 : Int32))), .unset, .unset, .unset, .unset, .unset, .unset, .unset, .unset] [(.int p1), (.ref aGREATER_OR_EQUAL)])) rfl (by rw [hml]; rfl) (Steps.refl _) (argsL := [(.int p1)]) (rest := []) (lenOf pd_law_0 rfl) rfl (by show 2 * 0 + _ ≤ _; exact Nat.le_of_eq rfl) (hb hby at_20) (fun _ _ => ⟨rfl, e13, (by decide : 0 + 0 ≤ _), (by decide : 0 + 0 ≤ _)⟩)
  dsimp only [Pt.U, Pt.locs, Pt.cells, Pt.slots] at X16 l16 y16 z16 st16 hQ16
  subst l16 y16 z16
  obtain ⟨rfl, N16q, e16⟩ := hQ16
  have N16 := Fr.app N10 N16q
  have pre_17 : ∀ t, Steps p.tables e below (T16.setTop (mkF m 23 #[.val (.int p1), .val (.int (if p1 < (0 : Int32) then (1 : Int32) else (0 : Int32))), .val (.int (if (0 : Int32) < p1 then (0 : Int32) else (1 : Int32))), .unset, .unset, .unset, .unset, .unset, .unset, .unset, .unset] [(.int (if p1 < (0 : Int32) then (0 : Int32) else (1 : Int32)))])) t → Steps p.tables e below (s₁.setTop (entryFrame m #[(.int p1)] maxLocals)) t := fun t k => pre_15 t (st16.trans k)
  have pre_18 : ∀ t, Steps p.tables e below (T16.setTop (mkF m 24 #[.val (.int p1), .val (.int (if p1 < (0 : Int32) then (1 : Int32) else (0 : Int32))), .val (.int (if (0 : Int32) < p1 then (0 : Int32) else (1 : Int32))), .val (.int (if p1 < (0 : Int32) then (0 : Int32) else (1 : Int32))), .unset, .unset, .unset, .unset, .unset, .unset, .unset] [])) t → Steps p.tables e below (s₁.setTop (entryFrame m #[(.int p1)] maxLocals)) t := by
    intro t k
    refine pre_17 t ?_
    show Steps p.tables e below (T16.setTop (mkF m 23 #[.val (.int p1), .val (.int (if p1 < (0 : Int32) then (1 : Int32) else (0 : Int32))), .val (.int (if (0 : Int32) < p1 then (0 : Int32) else (1 : Int32))), .unset, .unset, .unset, .unset, .unset, .unset, .unset, .unset] [(.int (if p1 < (0 : Int32) then (0 : Int32) else (1 : Int32)))])) _
    refine XS.istoreN X16.here hx rfl (hb hby at_23) rfl (l' := #[.val (.int p1), .val (.int (if p1 < (0 : Int32) then (1 : Int32) else (0 : Int32))), .val (.int (if (0 : Int32) < p1 then (0 : Int32) else (1 : Int32))), .val (.int (if p1 < (0 : Int32) then (0 : Int32) else (1 : Int32))), .unset, .unset, .unset, .unset, .unset, .unset, .unset]) rfl ?_
    show Steps p.tables e below (T16.setTop (mkF m 24 #[.val (.int p1), .val (.int (if p1 < (0 : Int32) then (1 : Int32) else (0 : Int32))), .val (.int (if (0 : Int32) < p1 then (0 : Int32) else (1 : Int32))), .val (.int (if p1 < (0 : Int32) then (0 : Int32) else (1 : Int32))), .unset, .unset, .unset, .unset, .unset, .unset, .unset] [])) _
    exact k
  obtain ⟨T19, X19, e19, st19⟩ := getS X16 hx hZ hown (host := "") (hw _ (List.mem_of_getElem? (i := 21) rfl)) Via.refl e16 (S_aGREATER.ext O0.2) (g := (mkF m 24 #[.val (.int p1), .val (.int (if p1 < (0 : Int32) then (1 : Int32) else (0 : Int32))), .val (.int (if (0 : Int32) < p1 then (0 : Int32) else (1 : Int32))), .val (.int (if p1 < (0 : Int32) then (0 : Int32) else (1 : Int32))), .unset, .unset, .unset, .unset, .unset, .unset, .unset] [])) rfl (hb hby at_24)
  have pre_20 : ∀ t, Steps p.tables e below (T19.setTop (mkF m 27 #[.val (.int p1), .val (.int (if p1 < (0 : Int32) then (1 : Int32) else (0 : Int32))), .val (.int (if (0 : Int32) < p1 then (0 : Int32) else (1 : Int32))), .val (.int (if p1 < (0 : Int32) then (0 : Int32) else (1 : Int32))), .unset, .unset, .unset, .unset, .unset, .unset, .unset] [(.ref aGREATER)])) t → Steps p.tables e below (s₁.setTop (entryFrame m #[(.int p1)] maxLocals)) t := fun t k => pre_18 t (st19 t k)
  have pre_21 : ∀ t, Steps p.tables e below (T19.setTop (mkF m 28 #[.val (.int p1), .val (.int (if p1 < (0 : Int32) then (1 : Int32) else (0 : Int32))), .val (.int (if (0 : Int32) < p1 then (0 : Int32) else (1 : Int32))), .val (.int (if p1 < (0 : Int32) then (0 : Int32) else (1 : Int32))), .unset, .unset, .unset, .unset, .unset, .unset, .unset] [(.int p1), (.ref aGREATER)])) t → Steps p.tables e below (s₁.setTop (entryFrame m #[(.int p1)] maxLocals)) t := by
    intro t k
    refine pre_20 t ?_
    show Steps p.tables e below (T19.setTop (mkF m 27 #[.val (.int p1), .val (.int (if p1 < (0 : Int32) then (1 : Int32) else (0 : Int32))), .val (.int (if (0 : Int32) < p1 then (0 : Int32) else (1 : Int32))), .val (.int (if p1 < (0 : Int32) then (0 : Int32) else (1 : Int32))), .unset, .unset, .unset, .unset, .unset, .unset, .unset] [(.ref aGREATER)])) _
    refine XS.iloadN X19.here hx rfl (hb hby at_27) rfl ?_
    show Steps p.tables e below (T19.setTop (mkF m 28 #[.val (.int p1), .val (.int (if p1 < (0 : Int32) then (1 : Int32) else (0 : Int32))), .val (.int (if (0 : Int32) < p1 then (0 : Int32) else (1 : Int32))), .val (.int (if p1 < (0 : Int32) then (0 : Int32) else (1 : Int32))), .unset, .unset, .unset, .unset, .unset, .unset, .unset] [(.int p1), (.ref aGREATER)])) _
    exact k
  obtain ⟨cq22, kq22, qa22, qb22, qc22⟩ := isOf hZ e19 (E_aGREATER.ext O0.2)
  obtain ⟨_, _, ⟨T22, L22, k22, n22⟩, -, X22, ⟨Lc22, hQ22, l22, y22, z22⟩, st22⟩ := X19.virtualBack hx (y := (⟨"com/example/quadshape/quadshape/core/validation/Comparison", "holds", "(I)Z"⟩ : MethodName)) (z := (⟨"com/example/quadshape/quadshape/core/validation/Comparison", "holds", "(I)Z"⟩ : MethodName)) hown (mvT hZ (hw _ (List.mem_of_getElem? (i := 3) rfl))) (mvT hZ (hw _ (List.mem_of_getElem? (i := 4) rfl))) (notFace_of_selects (args := #[]) (mvT hZ (hw _ (List.mem_of_getElem? (i := 6) rfl)))) (mvT hZ (hw _ (List.mem_of_getElem? (i := 6) rfl))) (mvT hZ (hw _ (List.mem_of_getElem? (i := 5) rfl))) (by decide) (backOf (W := 0) (rm_holds3 l Z a0 hw [] aGREATER p1 h0 n0 O0 (E_aGREATER.ext O0.2) (F_aGREATER_ordinal.ext O0.2)) hZ (hw _ (List.mem_of_getElem? (i := 7) rfl)) (hw _ (List.mem_of_getElem? (i := 1) rfl)) (by decide) (by decide)) qa22 qc22 (g := (mkF m 28 #[.val (.int p1), .val (.int (if p1 < (0 : Int32) then (1 : Int32) else (0 : Int32))), .val (.int (if (0 : Int32) < p1 then (0 : Int32) else (1 : Int32))), .val (.int (if p1 < (0 : Int32) then (0 : Int32) else (1 : Int32))), .unset, .unset, .unset, .unset, .unset, .unset, .unset] [(.int p1), (.ref aGREATER)])) rfl (by rw [hml]; rfl) (Steps.refl _) (argsL := [(.int p1)]) (rest := []) (lenOf pd_law_0 rfl) rfl (by show 2 * 0 + _ ≤ _; exact Nat.le_of_eq rfl) (hb hby at_28) (fun _ _ => ⟨rfl, e19, (by decide : 0 + 0 ≤ _), (by decide : 0 + 0 ≤ _)⟩)
  dsimp only [Pt.U, Pt.locs, Pt.cells, Pt.slots] at X22 l22 y22 z22 st22 hQ22
  subst l22 y22 z22
  obtain ⟨rfl, N22q, e22⟩ := hQ22
  have N22 := Fr.app N16 N22q
  have pre_23 : ∀ t, Steps p.tables e below (T22.setTop (mkF m 31 #[.val (.int p1), .val (.int (if p1 < (0 : Int32) then (1 : Int32) else (0 : Int32))), .val (.int (if (0 : Int32) < p1 then (0 : Int32) else (1 : Int32))), .val (.int (if p1 < (0 : Int32) then (0 : Int32) else (1 : Int32))), .unset, .unset, .unset, .unset, .unset, .unset, .unset] [(.int (if (0 : Int32) < p1 then (1 : Int32) else (0 : Int32)))])) t → Steps p.tables e below (s₁.setTop (entryFrame m #[(.int p1)] maxLocals)) t := fun t k => pre_21 t (st22.trans k)
  have pre_24 : ∀ t, Steps p.tables e below (T22.setTop (mkF m 33 #[.val (.int p1), .val (.int (if p1 < (0 : Int32) then (1 : Int32) else (0 : Int32))), .val (.int (if (0 : Int32) < p1 then (0 : Int32) else (1 : Int32))), .val (.int (if p1 < (0 : Int32) then (0 : Int32) else (1 : Int32))), .val (.int (if (0 : Int32) < p1 then (1 : Int32) else (0 : Int32))), .unset, .unset, .unset, .unset, .unset, .unset] [])) t → Steps p.tables e below (s₁.setTop (entryFrame m #[(.int p1)] maxLocals)) t := by
    intro t k
    refine pre_23 t ?_
    show Steps p.tables e below (T22.setTop (mkF m 31 #[.val (.int p1), .val (.int (if p1 < (0 : Int32) then (1 : Int32) else (0 : Int32))), .val (.int (if (0 : Int32) < p1 then (0 : Int32) else (1 : Int32))), .val (.int (if p1 < (0 : Int32) then (0 : Int32) else (1 : Int32))), .unset, .unset, .unset, .unset, .unset, .unset, .unset] [(.int (if (0 : Int32) < p1 then (1 : Int32) else (0 : Int32)))])) _
    refine XS.istore X22.here hx rfl (hb hby at_31) rfl (l' := #[.val (.int p1), .val (.int (if p1 < (0 : Int32) then (1 : Int32) else (0 : Int32))), .val (.int (if (0 : Int32) < p1 then (0 : Int32) else (1 : Int32))), .val (.int (if p1 < (0 : Int32) then (0 : Int32) else (1 : Int32))), .val (.int (if (0 : Int32) < p1 then (1 : Int32) else (0 : Int32))), .unset, .unset, .unset, .unset, .unset, .unset]) rfl ?_
    show Steps p.tables e below (T22.setTop (mkF m 33 #[.val (.int p1), .val (.int (if p1 < (0 : Int32) then (1 : Int32) else (0 : Int32))), .val (.int (if (0 : Int32) < p1 then (0 : Int32) else (1 : Int32))), .val (.int (if p1 < (0 : Int32) then (0 : Int32) else (1 : Int32))), .val (.int (if (0 : Int32) < p1 then (1 : Int32) else (0 : Int32))), .unset, .unset, .unset, .unset, .unset, .unset] [])) _
    exact k
  rcases own_tri p1 with ⟨t1, t2, t3⟩ | ⟨t1, t2, t3⟩ | ⟨t1, t2, t3⟩
  · skip
    have pre_25 : ∀ t, Steps p.tables e below (T22.setTop (mkF m 170 #[.val (.int p1), .val (.int (if p1 < (0 : Int32) then (1 : Int32) else (0 : Int32))), .val (.int (if (0 : Int32) < p1 then (0 : Int32) else (1 : Int32))), .val (.int (if p1 < (0 : Int32) then (0 : Int32) else (1 : Int32))), .val (.int (if (0 : Int32) < p1 then (1 : Int32) else (0 : Int32))), .val (.int (0 : Int32)), .val (.int (1 : Int32)), .val (.int (1 : Int32)), .val (.int (1 : Int32)), .val (.int (1 : Int32)), .val (.int (1 : Int32))] [(.int (1 : Int32))])) t → Steps p.tables e below (s₁.setTop (entryFrame m #[(.int p1)] maxLocals)) t := by
      intro t k
      refine pre_24 t ?_
      show Steps p.tables e below (T22.setTop (mkF m 33 #[.val (.int p1), .val (.int (if p1 < (0 : Int32) then (1 : Int32) else (0 : Int32))), .val (.int (if (0 : Int32) < p1 then (0 : Int32) else (1 : Int32))), .val (.int (if p1 < (0 : Int32) then (0 : Int32) else (1 : Int32))), .val (.int (if (0 : Int32) < p1 then (1 : Int32) else (0 : Int32))), .unset, .unset, .unset, .unset, .unset, .unset] [])) _
      refine XS.iloadN X22.here hx rfl (hb hby at_33) rfl ?_
      show Steps p.tables e below (T22.setTop (mkF m 34 #[.val (.int p1), .val (.int (if p1 < (0 : Int32) then (1 : Int32) else (0 : Int32))), .val (.int (if (0 : Int32) < p1 then (0 : Int32) else (1 : Int32))), .val (.int (if p1 < (0 : Int32) then (0 : Int32) else (1 : Int32))), .val (.int (if (0 : Int32) < p1 then (1 : Int32) else (0 : Int32))), .unset, .unset, .unset, .unset, .unset, .unset] [(.int p1)])) _
      refine XS.ifYes X22.here hx rfl (pc0 := 34) (pc' := 41) rfl (hb hby at_34) rfl (XT.i0_ne_t t3) (by decide) (by decide) ?_
      show Steps p.tables e below (T22.setTop (mkF m 41 #[.val (.int p1), .val (.int (if p1 < (0 : Int32) then (1 : Int32) else (0 : Int32))), .val (.int (if (0 : Int32) < p1 then (0 : Int32) else (1 : Int32))), .val (.int (if p1 < (0 : Int32) then (0 : Int32) else (1 : Int32))), .val (.int (if (0 : Int32) < p1 then (1 : Int32) else (0 : Int32))), .unset, .unset, .unset, .unset, .unset, .unset] [])) _
      refine XS.iconst X22.here hx rfl (hb hby at_41) ?_
      show Steps p.tables e below (T22.setTop (mkF m 42 #[.val (.int p1), .val (.int (if p1 < (0 : Int32) then (1 : Int32) else (0 : Int32))), .val (.int (if (0 : Int32) < p1 then (0 : Int32) else (1 : Int32))), .val (.int (if p1 < (0 : Int32) then (0 : Int32) else (1 : Int32))), .val (.int (if (0 : Int32) < p1 then (1 : Int32) else (0 : Int32))), .unset, .unset, .unset, .unset, .unset, .unset] [(.int (0 : Int32))])) _
      refine XS.istore X22.here hx rfl (hb hby at_42) rfl (l' := #[.val (.int p1), .val (.int (if p1 < (0 : Int32) then (1 : Int32) else (0 : Int32))), .val (.int (if (0 : Int32) < p1 then (0 : Int32) else (1 : Int32))), .val (.int (if p1 < (0 : Int32) then (0 : Int32) else (1 : Int32))), .val (.int (if (0 : Int32) < p1 then (1 : Int32) else (0 : Int32))), .val (.int (0 : Int32)), .unset, .unset, .unset, .unset, .unset]) rfl ?_
      show Steps p.tables e below (T22.setTop (mkF m 44 #[.val (.int p1), .val (.int (if p1 < (0 : Int32) then (1 : Int32) else (0 : Int32))), .val (.int (if (0 : Int32) < p1 then (0 : Int32) else (1 : Int32))), .val (.int (if p1 < (0 : Int32) then (0 : Int32) else (1 : Int32))), .val (.int (if (0 : Int32) < p1 then (1 : Int32) else (0 : Int32))), .val (.int (0 : Int32)), .unset, .unset, .unset, .unset, .unset] [])) _
      refine XS.iloadN X22.here hx rfl (hb hby at_44) rfl ?_
      show Steps p.tables e below (T22.setTop (mkF m 45 #[.val (.int p1), .val (.int (if p1 < (0 : Int32) then (1 : Int32) else (0 : Int32))), .val (.int (if (0 : Int32) < p1 then (0 : Int32) else (1 : Int32))), .val (.int (if p1 < (0 : Int32) then (0 : Int32) else (1 : Int32))), .val (.int (if (0 : Int32) < p1 then (1 : Int32) else (0 : Int32))), .val (.int (0 : Int32)), .unset, .unset, .unset, .unset, .unset] [(.int (if p1 < (0 : Int32) then (1 : Int32) else (0 : Int32)))])) _
      refine XS.iloadN X22.here hx rfl (hb hby at_45) rfl ?_
      show Steps p.tables e below (T22.setTop (mkF m 46 #[.val (.int p1), .val (.int (if p1 < (0 : Int32) then (1 : Int32) else (0 : Int32))), .val (.int (if (0 : Int32) < p1 then (0 : Int32) else (1 : Int32))), .val (.int (if p1 < (0 : Int32) then (0 : Int32) else (1 : Int32))), .val (.int (if (0 : Int32) < p1 then (1 : Int32) else (0 : Int32))), .val (.int (0 : Int32)), .unset, .unset, .unset, .unset, .unset] [(.int p1), (.int (if p1 < (0 : Int32) then (1 : Int32) else (0 : Int32)))])) _
      refine XS.ifNo X22.here hx rfl (hb hby at_46) rfl (XT.i0_ge_f t1) ?_
      show Steps p.tables e below (T22.setTop (mkF m 49 #[.val (.int p1), .val (.int (if p1 < (0 : Int32) then (1 : Int32) else (0 : Int32))), .val (.int (if (0 : Int32) < p1 then (0 : Int32) else (1 : Int32))), .val (.int (if p1 < (0 : Int32) then (0 : Int32) else (1 : Int32))), .val (.int (if (0 : Int32) < p1 then (1 : Int32) else (0 : Int32))), .val (.int (0 : Int32)), .unset, .unset, .unset, .unset, .unset] [(.int (if p1 < (0 : Int32) then (1 : Int32) else (0 : Int32)))])) _
      refine XS.iconst X22.here hx rfl (hb hby at_49) ?_
      show Steps p.tables e below (T22.setTop (mkF m 50 #[.val (.int p1), .val (.int (if p1 < (0 : Int32) then (1 : Int32) else (0 : Int32))), .val (.int (if (0 : Int32) < p1 then (0 : Int32) else (1 : Int32))), .val (.int (if p1 < (0 : Int32) then (0 : Int32) else (1 : Int32))), .val (.int (if (0 : Int32) < p1 then (1 : Int32) else (0 : Int32))), .val (.int (0 : Int32)), .unset, .unset, .unset, .unset, .unset] [(.int (1 : Int32)), (.int (if p1 < (0 : Int32) then (1 : Int32) else (0 : Int32)))])) _
      refine XS.goto X22.here hx rfl (pc0 := 50) (pc' := 54) rfl (hb hby at_50) (by decide) (by decide) ?_
      show Steps p.tables e below (T22.setTop (mkF m 54 #[.val (.int p1), .val (.int (if p1 < (0 : Int32) then (1 : Int32) else (0 : Int32))), .val (.int (if (0 : Int32) < p1 then (0 : Int32) else (1 : Int32))), .val (.int (if p1 < (0 : Int32) then (0 : Int32) else (1 : Int32))), .val (.int (if (0 : Int32) < p1 then (1 : Int32) else (0 : Int32))), .val (.int (0 : Int32)), .unset, .unset, .unset, .unset, .unset] [(.int (1 : Int32)), (.int (if p1 < (0 : Int32) then (1 : Int32) else (0 : Int32)))])) _
      refine XS.icmpNo X22.here hx rfl (hb hby at_54) rfl (XT.ii_ne_f (by simp only [if_pos t1] <;> decide)) ?_
      show Steps p.tables e below (T22.setTop (mkF m 57 #[.val (.int p1), .val (.int (if p1 < (0 : Int32) then (1 : Int32) else (0 : Int32))), .val (.int (if (0 : Int32) < p1 then (0 : Int32) else (1 : Int32))), .val (.int (if p1 < (0 : Int32) then (0 : Int32) else (1 : Int32))), .val (.int (if (0 : Int32) < p1 then (1 : Int32) else (0 : Int32))), .val (.int (0 : Int32)), .unset, .unset, .unset, .unset, .unset] [])) _
      refine XS.iconst X22.here hx rfl (hb hby at_57) ?_
      show Steps p.tables e below (T22.setTop (mkF m 58 #[.val (.int p1), .val (.int (if p1 < (0 : Int32) then (1 : Int32) else (0 : Int32))), .val (.int (if (0 : Int32) < p1 then (0 : Int32) else (1 : Int32))), .val (.int (if p1 < (0 : Int32) then (0 : Int32) else (1 : Int32))), .val (.int (if (0 : Int32) < p1 then (1 : Int32) else (0 : Int32))), .val (.int (0 : Int32)), .unset, .unset, .unset, .unset, .unset] [(.int (1 : Int32))])) _
      refine XS.goto X22.here hx rfl (pc0 := 58) (pc' := 62) rfl (hb hby at_58) (by decide) (by decide) ?_
      show Steps p.tables e below (T22.setTop (mkF m 62 #[.val (.int p1), .val (.int (if p1 < (0 : Int32) then (1 : Int32) else (0 : Int32))), .val (.int (if (0 : Int32) < p1 then (0 : Int32) else (1 : Int32))), .val (.int (if p1 < (0 : Int32) then (0 : Int32) else (1 : Int32))), .val (.int (if (0 : Int32) < p1 then (1 : Int32) else (0 : Int32))), .val (.int (0 : Int32)), .unset, .unset, .unset, .unset, .unset] [(.int (1 : Int32))])) _
      refine XS.istore X22.here hx rfl (hb hby at_62) rfl (l' := #[.val (.int p1), .val (.int (if p1 < (0 : Int32) then (1 : Int32) else (0 : Int32))), .val (.int (if (0 : Int32) < p1 then (0 : Int32) else (1 : Int32))), .val (.int (if p1 < (0 : Int32) then (0 : Int32) else (1 : Int32))), .val (.int (if (0 : Int32) < p1 then (1 : Int32) else (0 : Int32))), .val (.int (0 : Int32)), .val (.int (1 : Int32)), .unset, .unset, .unset, .unset]) rfl ?_
      show Steps p.tables e below (T22.setTop (mkF m 64 #[.val (.int p1), .val (.int (if p1 < (0 : Int32) then (1 : Int32) else (0 : Int32))), .val (.int (if (0 : Int32) < p1 then (0 : Int32) else (1 : Int32))), .val (.int (if p1 < (0 : Int32) then (0 : Int32) else (1 : Int32))), .val (.int (if (0 : Int32) < p1 then (1 : Int32) else (0 : Int32))), .val (.int (0 : Int32)), .val (.int (1 : Int32)), .unset, .unset, .unset, .unset] [])) _
      refine XS.iloadN X22.here hx rfl (hb hby at_64) rfl ?_
      show Steps p.tables e below (T22.setTop (mkF m 65 #[.val (.int p1), .val (.int (if p1 < (0 : Int32) then (1 : Int32) else (0 : Int32))), .val (.int (if (0 : Int32) < p1 then (0 : Int32) else (1 : Int32))), .val (.int (if p1 < (0 : Int32) then (0 : Int32) else (1 : Int32))), .val (.int (if (0 : Int32) < p1 then (1 : Int32) else (0 : Int32))), .val (.int (0 : Int32)), .val (.int (1 : Int32)), .unset, .unset, .unset, .unset] [(.int (if p1 < (0 : Int32) then (1 : Int32) else (0 : Int32)))])) _
      refine XS.iloadN X22.here hx rfl (hb hby at_65) rfl ?_
      show Steps p.tables e below (T22.setTop (mkF m 66 #[.val (.int p1), .val (.int (if p1 < (0 : Int32) then (1 : Int32) else (0 : Int32))), .val (.int (if (0 : Int32) < p1 then (0 : Int32) else (1 : Int32))), .val (.int (if p1 < (0 : Int32) then (0 : Int32) else (1 : Int32))), .val (.int (if (0 : Int32) < p1 then (1 : Int32) else (0 : Int32))), .val (.int (0 : Int32)), .val (.int (1 : Int32)), .unset, .unset, .unset, .unset] [(.int (if p1 < (0 : Int32) then (0 : Int32) else (1 : Int32))), (.int (if p1 < (0 : Int32) then (1 : Int32) else (0 : Int32)))])) _
      refine XS.icmpNo X22.here hx rfl (hb hby at_66) rfl (XT.ii_eq_f (by simp only [if_pos t1] <;> decide)) ?_
      show Steps p.tables e below (T22.setTop (mkF m 69 #[.val (.int p1), .val (.int (if p1 < (0 : Int32) then (1 : Int32) else (0 : Int32))), .val (.int (if (0 : Int32) < p1 then (0 : Int32) else (1 : Int32))), .val (.int (if p1 < (0 : Int32) then (0 : Int32) else (1 : Int32))), .val (.int (if (0 : Int32) < p1 then (1 : Int32) else (0 : Int32))), .val (.int (0 : Int32)), .val (.int (1 : Int32)), .unset, .unset, .unset, .unset] [])) _
      refine XS.iconst X22.here hx rfl (hb hby at_69) ?_
      show Steps p.tables e below (T22.setTop (mkF m 70 #[.val (.int p1), .val (.int (if p1 < (0 : Int32) then (1 : Int32) else (0 : Int32))), .val (.int (if (0 : Int32) < p1 then (0 : Int32) else (1 : Int32))), .val (.int (if p1 < (0 : Int32) then (0 : Int32) else (1 : Int32))), .val (.int (if (0 : Int32) < p1 then (1 : Int32) else (0 : Int32))), .val (.int (0 : Int32)), .val (.int (1 : Int32)), .unset, .unset, .unset, .unset] [(.int (1 : Int32))])) _
      refine XS.goto X22.here hx rfl (pc0 := 70) (pc' := 74) rfl (hb hby at_70) (by decide) (by decide) ?_
      show Steps p.tables e below (T22.setTop (mkF m 74 #[.val (.int p1), .val (.int (if p1 < (0 : Int32) then (1 : Int32) else (0 : Int32))), .val (.int (if (0 : Int32) < p1 then (0 : Int32) else (1 : Int32))), .val (.int (if p1 < (0 : Int32) then (0 : Int32) else (1 : Int32))), .val (.int (if (0 : Int32) < p1 then (1 : Int32) else (0 : Int32))), .val (.int (0 : Int32)), .val (.int (1 : Int32)), .unset, .unset, .unset, .unset] [(.int (1 : Int32))])) _
      refine XS.istore X22.here hx rfl (hb hby at_74) rfl (l' := #[.val (.int p1), .val (.int (if p1 < (0 : Int32) then (1 : Int32) else (0 : Int32))), .val (.int (if (0 : Int32) < p1 then (0 : Int32) else (1 : Int32))), .val (.int (if p1 < (0 : Int32) then (0 : Int32) else (1 : Int32))), .val (.int (if (0 : Int32) < p1 then (1 : Int32) else (0 : Int32))), .val (.int (0 : Int32)), .val (.int (1 : Int32)), .val (.int (1 : Int32)), .unset, .unset, .unset]) rfl ?_
      show Steps p.tables e below (T22.setTop (mkF m 76 #[.val (.int p1), .val (.int (if p1 < (0 : Int32) then (1 : Int32) else (0 : Int32))), .val (.int (if (0 : Int32) < p1 then (0 : Int32) else (1 : Int32))), .val (.int (if p1 < (0 : Int32) then (0 : Int32) else (1 : Int32))), .val (.int (if (0 : Int32) < p1 then (1 : Int32) else (0 : Int32))), .val (.int (0 : Int32)), .val (.int (1 : Int32)), .val (.int (1 : Int32)), .unset, .unset, .unset] [])) _
      refine XS.iloadN X22.here hx rfl (hb hby at_76) rfl ?_
      show Steps p.tables e below (T22.setTop (mkF m 77 #[.val (.int p1), .val (.int (if p1 < (0 : Int32) then (1 : Int32) else (0 : Int32))), .val (.int (if (0 : Int32) < p1 then (0 : Int32) else (1 : Int32))), .val (.int (if p1 < (0 : Int32) then (0 : Int32) else (1 : Int32))), .val (.int (if (0 : Int32) < p1 then (1 : Int32) else (0 : Int32))), .val (.int (0 : Int32)), .val (.int (1 : Int32)), .val (.int (1 : Int32)), .unset, .unset, .unset] [(.int (if (0 : Int32) < p1 then (0 : Int32) else (1 : Int32)))])) _
      refine XS.iload X22.here hx rfl (hb hby at_77) rfl ?_
      show Steps p.tables e below (T22.setTop (mkF m 79 #[.val (.int p1), .val (.int (if p1 < (0 : Int32) then (1 : Int32) else (0 : Int32))), .val (.int (if (0 : Int32) < p1 then (0 : Int32) else (1 : Int32))), .val (.int (if p1 < (0 : Int32) then (0 : Int32) else (1 : Int32))), .val (.int (if (0 : Int32) < p1 then (1 : Int32) else (0 : Int32))), .val (.int (0 : Int32)), .val (.int (1 : Int32)), .val (.int (1 : Int32)), .unset, .unset, .unset] [(.int (if (0 : Int32) < p1 then (1 : Int32) else (0 : Int32))), (.int (if (0 : Int32) < p1 then (0 : Int32) else (1 : Int32)))])) _
      refine XS.icmpNo X22.here hx rfl (hb hby at_79) rfl (XT.ii_eq_f (by simp only [if_neg t2] <;> decide)) ?_
      show Steps p.tables e below (T22.setTop (mkF m 82 #[.val (.int p1), .val (.int (if p1 < (0 : Int32) then (1 : Int32) else (0 : Int32))), .val (.int (if (0 : Int32) < p1 then (0 : Int32) else (1 : Int32))), .val (.int (if p1 < (0 : Int32) then (0 : Int32) else (1 : Int32))), .val (.int (if (0 : Int32) < p1 then (1 : Int32) else (0 : Int32))), .val (.int (0 : Int32)), .val (.int (1 : Int32)), .val (.int (1 : Int32)), .unset, .unset, .unset] [])) _
      refine XS.iconst X22.here hx rfl (hb hby at_82) ?_
      show Steps p.tables e below (T22.setTop (mkF m 83 #[.val (.int p1), .val (.int (if p1 < (0 : Int32) then (1 : Int32) else (0 : Int32))), .val (.int (if (0 : Int32) < p1 then (0 : Int32) else (1 : Int32))), .val (.int (if p1 < (0 : Int32) then (0 : Int32) else (1 : Int32))), .val (.int (if (0 : Int32) < p1 then (1 : Int32) else (0 : Int32))), .val (.int (0 : Int32)), .val (.int (1 : Int32)), .val (.int (1 : Int32)), .unset, .unset, .unset] [(.int (1 : Int32))])) _
      refine XS.goto X22.here hx rfl (pc0 := 83) (pc' := 87) rfl (hb hby at_83) (by decide) (by decide) ?_
      show Steps p.tables e below (T22.setTop (mkF m 87 #[.val (.int p1), .val (.int (if p1 < (0 : Int32) then (1 : Int32) else (0 : Int32))), .val (.int (if (0 : Int32) < p1 then (0 : Int32) else (1 : Int32))), .val (.int (if p1 < (0 : Int32) then (0 : Int32) else (1 : Int32))), .val (.int (if (0 : Int32) < p1 then (1 : Int32) else (0 : Int32))), .val (.int (0 : Int32)), .val (.int (1 : Int32)), .val (.int (1 : Int32)), .unset, .unset, .unset] [(.int (1 : Int32))])) _
      refine XS.istore X22.here hx rfl (hb hby at_87) rfl (l' := #[.val (.int p1), .val (.int (if p1 < (0 : Int32) then (1 : Int32) else (0 : Int32))), .val (.int (if (0 : Int32) < p1 then (0 : Int32) else (1 : Int32))), .val (.int (if p1 < (0 : Int32) then (0 : Int32) else (1 : Int32))), .val (.int (if (0 : Int32) < p1 then (1 : Int32) else (0 : Int32))), .val (.int (0 : Int32)), .val (.int (1 : Int32)), .val (.int (1 : Int32)), .val (.int (1 : Int32)), .unset, .unset]) rfl ?_
      show Steps p.tables e below (T22.setTop (mkF m 89 #[.val (.int p1), .val (.int (if p1 < (0 : Int32) then (1 : Int32) else (0 : Int32))), .val (.int (if (0 : Int32) < p1 then (0 : Int32) else (1 : Int32))), .val (.int (if p1 < (0 : Int32) then (0 : Int32) else (1 : Int32))), .val (.int (if (0 : Int32) < p1 then (1 : Int32) else (0 : Int32))), .val (.int (0 : Int32)), .val (.int (1 : Int32)), .val (.int (1 : Int32)), .val (.int (1 : Int32)), .unset, .unset] [])) _
      refine XS.iloadN X22.here hx rfl (hb hby at_89) rfl ?_
      show Steps p.tables e below (T22.setTop (mkF m 90 #[.val (.int p1), .val (.int (if p1 < (0 : Int32) then (1 : Int32) else (0 : Int32))), .val (.int (if (0 : Int32) < p1 then (0 : Int32) else (1 : Int32))), .val (.int (if p1 < (0 : Int32) then (0 : Int32) else (1 : Int32))), .val (.int (if (0 : Int32) < p1 then (1 : Int32) else (0 : Int32))), .val (.int (0 : Int32)), .val (.int (1 : Int32)), .val (.int (1 : Int32)), .val (.int (1 : Int32)), .unset, .unset] [(.int (if (0 : Int32) < p1 then (0 : Int32) else (1 : Int32)))])) _
      refine XS.iloadN X22.here hx rfl (hb hby at_90) rfl ?_
      show Steps p.tables e below (T22.setTop (mkF m 91 #[.val (.int p1), .val (.int (if p1 < (0 : Int32) then (1 : Int32) else (0 : Int32))), .val (.int (if (0 : Int32) < p1 then (0 : Int32) else (1 : Int32))), .val (.int (if p1 < (0 : Int32) then (0 : Int32) else (1 : Int32))), .val (.int (if (0 : Int32) < p1 then (1 : Int32) else (0 : Int32))), .val (.int (0 : Int32)), .val (.int (1 : Int32)), .val (.int (1 : Int32)), .val (.int (1 : Int32)), .unset, .unset] [(.int (if p1 < (0 : Int32) then (1 : Int32) else (0 : Int32))), (.int (if (0 : Int32) < p1 then (0 : Int32) else (1 : Int32)))])) _
      refine XS.ifYes X22.here hx rfl (pc0 := 91) (pc' := 99) rfl (hb hby at_91) rfl (XT.i0_ne_t (by simp only [if_pos t1] <;> decide)) (by decide) (by decide) ?_
      show Steps p.tables e below (T22.setTop (mkF m 99 #[.val (.int p1), .val (.int (if p1 < (0 : Int32) then (1 : Int32) else (0 : Int32))), .val (.int (if (0 : Int32) < p1 then (0 : Int32) else (1 : Int32))), .val (.int (if p1 < (0 : Int32) then (0 : Int32) else (1 : Int32))), .val (.int (if (0 : Int32) < p1 then (1 : Int32) else (0 : Int32))), .val (.int (0 : Int32)), .val (.int (1 : Int32)), .val (.int (1 : Int32)), .val (.int (1 : Int32)), .unset, .unset] [(.int (if (0 : Int32) < p1 then (0 : Int32) else (1 : Int32)))])) _
      refine XS.iconst X22.here hx rfl (hb hby at_99) ?_
      show Steps p.tables e below (T22.setTop (mkF m 100 #[.val (.int p1), .val (.int (if p1 < (0 : Int32) then (1 : Int32) else (0 : Int32))), .val (.int (if (0 : Int32) < p1 then (0 : Int32) else (1 : Int32))), .val (.int (if p1 < (0 : Int32) then (0 : Int32) else (1 : Int32))), .val (.int (if (0 : Int32) < p1 then (1 : Int32) else (0 : Int32))), .val (.int (0 : Int32)), .val (.int (1 : Int32)), .val (.int (1 : Int32)), .val (.int (1 : Int32)), .unset, .unset] [(.int (1 : Int32)), (.int (if (0 : Int32) < p1 then (0 : Int32) else (1 : Int32)))])) _
      refine XS.goto X22.here hx rfl (pc0 := 100) (pc' := 104) rfl (hb hby at_100) (by decide) (by decide) ?_
      show Steps p.tables e below (T22.setTop (mkF m 104 #[.val (.int p1), .val (.int (if p1 < (0 : Int32) then (1 : Int32) else (0 : Int32))), .val (.int (if (0 : Int32) < p1 then (0 : Int32) else (1 : Int32))), .val (.int (if p1 < (0 : Int32) then (0 : Int32) else (1 : Int32))), .val (.int (if (0 : Int32) < p1 then (1 : Int32) else (0 : Int32))), .val (.int (0 : Int32)), .val (.int (1 : Int32)), .val (.int (1 : Int32)), .val (.int (1 : Int32)), .unset, .unset] [(.int (1 : Int32)), (.int (if (0 : Int32) < p1 then (0 : Int32) else (1 : Int32)))])) _
      refine XS.icmpNo X22.here hx rfl (hb hby at_104) rfl (XT.ii_ne_f (by simp only [if_neg t2] <;> decide)) ?_
      show Steps p.tables e below (T22.setTop (mkF m 107 #[.val (.int p1), .val (.int (if p1 < (0 : Int32) then (1 : Int32) else (0 : Int32))), .val (.int (if (0 : Int32) < p1 then (0 : Int32) else (1 : Int32))), .val (.int (if p1 < (0 : Int32) then (0 : Int32) else (1 : Int32))), .val (.int (if (0 : Int32) < p1 then (1 : Int32) else (0 : Int32))), .val (.int (0 : Int32)), .val (.int (1 : Int32)), .val (.int (1 : Int32)), .val (.int (1 : Int32)), .unset, .unset] [])) _
      refine XS.iconst X22.here hx rfl (hb hby at_107) ?_
      show Steps p.tables e below (T22.setTop (mkF m 108 #[.val (.int p1), .val (.int (if p1 < (0 : Int32) then (1 : Int32) else (0 : Int32))), .val (.int (if (0 : Int32) < p1 then (0 : Int32) else (1 : Int32))), .val (.int (if p1 < (0 : Int32) then (0 : Int32) else (1 : Int32))), .val (.int (if (0 : Int32) < p1 then (1 : Int32) else (0 : Int32))), .val (.int (0 : Int32)), .val (.int (1 : Int32)), .val (.int (1 : Int32)), .val (.int (1 : Int32)), .unset, .unset] [(.int (1 : Int32))])) _
      refine XS.goto X22.here hx rfl (pc0 := 108) (pc' := 112) rfl (hb hby at_108) (by decide) (by decide) ?_
      show Steps p.tables e below (T22.setTop (mkF m 112 #[.val (.int p1), .val (.int (if p1 < (0 : Int32) then (1 : Int32) else (0 : Int32))), .val (.int (if (0 : Int32) < p1 then (0 : Int32) else (1 : Int32))), .val (.int (if p1 < (0 : Int32) then (0 : Int32) else (1 : Int32))), .val (.int (if (0 : Int32) < p1 then (1 : Int32) else (0 : Int32))), .val (.int (0 : Int32)), .val (.int (1 : Int32)), .val (.int (1 : Int32)), .val (.int (1 : Int32)), .unset, .unset] [(.int (1 : Int32))])) _
      refine XS.istore X22.here hx rfl (hb hby at_112) rfl (l' := #[.val (.int p1), .val (.int (if p1 < (0 : Int32) then (1 : Int32) else (0 : Int32))), .val (.int (if (0 : Int32) < p1 then (0 : Int32) else (1 : Int32))), .val (.int (if p1 < (0 : Int32) then (0 : Int32) else (1 : Int32))), .val (.int (if (0 : Int32) < p1 then (1 : Int32) else (0 : Int32))), .val (.int (0 : Int32)), .val (.int (1 : Int32)), .val (.int (1 : Int32)), .val (.int (1 : Int32)), .val (.int (1 : Int32)), .unset]) rfl ?_
      show Steps p.tables e below (T22.setTop (mkF m 114 #[.val (.int p1), .val (.int (if p1 < (0 : Int32) then (1 : Int32) else (0 : Int32))), .val (.int (if (0 : Int32) < p1 then (0 : Int32) else (1 : Int32))), .val (.int (if p1 < (0 : Int32) then (0 : Int32) else (1 : Int32))), .val (.int (if (0 : Int32) < p1 then (1 : Int32) else (0 : Int32))), .val (.int (0 : Int32)), .val (.int (1 : Int32)), .val (.int (1 : Int32)), .val (.int (1 : Int32)), .val (.int (1 : Int32)), .unset] [])) _
      refine XS.iloadN X22.here hx rfl (hb hby at_114) rfl ?_
      show Steps p.tables e below (T22.setTop (mkF m 115 #[.val (.int p1), .val (.int (if p1 < (0 : Int32) then (1 : Int32) else (0 : Int32))), .val (.int (if (0 : Int32) < p1 then (0 : Int32) else (1 : Int32))), .val (.int (if p1 < (0 : Int32) then (0 : Int32) else (1 : Int32))), .val (.int (if (0 : Int32) < p1 then (1 : Int32) else (0 : Int32))), .val (.int (0 : Int32)), .val (.int (1 : Int32)), .val (.int (1 : Int32)), .val (.int (1 : Int32)), .val (.int (1 : Int32)), .unset] [(.int (if p1 < (0 : Int32) then (0 : Int32) else (1 : Int32)))])) _
      refine XS.iload X22.here hx rfl (hb hby at_115) rfl ?_
      show Steps p.tables e below (T22.setTop (mkF m 117 #[.val (.int p1), .val (.int (if p1 < (0 : Int32) then (1 : Int32) else (0 : Int32))), .val (.int (if (0 : Int32) < p1 then (0 : Int32) else (1 : Int32))), .val (.int (if p1 < (0 : Int32) then (0 : Int32) else (1 : Int32))), .val (.int (if (0 : Int32) < p1 then (1 : Int32) else (0 : Int32))), .val (.int (0 : Int32)), .val (.int (1 : Int32)), .val (.int (1 : Int32)), .val (.int (1 : Int32)), .val (.int (1 : Int32)), .unset] [(.int (if (0 : Int32) < p1 then (1 : Int32) else (0 : Int32))), (.int (if p1 < (0 : Int32) then (0 : Int32) else (1 : Int32)))])) _
      refine XS.ifNo X22.here hx rfl (hb hby at_117) rfl (XT.i0_ne_f (by simp only [if_neg t2] <;> decide)) ?_
      show Steps p.tables e below (T22.setTop (mkF m 120 #[.val (.int p1), .val (.int (if p1 < (0 : Int32) then (1 : Int32) else (0 : Int32))), .val (.int (if (0 : Int32) < p1 then (0 : Int32) else (1 : Int32))), .val (.int (if p1 < (0 : Int32) then (0 : Int32) else (1 : Int32))), .val (.int (if (0 : Int32) < p1 then (1 : Int32) else (0 : Int32))), .val (.int (0 : Int32)), .val (.int (1 : Int32)), .val (.int (1 : Int32)), .val (.int (1 : Int32)), .val (.int (1 : Int32)), .unset] [(.int (if p1 < (0 : Int32) then (0 : Int32) else (1 : Int32)))])) _
      refine XS.iload X22.here hx rfl (hb hby at_120) rfl ?_
      show Steps p.tables e below (T22.setTop (mkF m 122 #[.val (.int p1), .val (.int (if p1 < (0 : Int32) then (1 : Int32) else (0 : Int32))), .val (.int (if (0 : Int32) < p1 then (0 : Int32) else (1 : Int32))), .val (.int (if p1 < (0 : Int32) then (0 : Int32) else (1 : Int32))), .val (.int (if (0 : Int32) < p1 then (1 : Int32) else (0 : Int32))), .val (.int (0 : Int32)), .val (.int (1 : Int32)), .val (.int (1 : Int32)), .val (.int (1 : Int32)), .val (.int (1 : Int32)), .unset] [(.int (0 : Int32)), (.int (if p1 < (0 : Int32) then (0 : Int32) else (1 : Int32)))])) _
      refine XS.ifYes X22.here hx rfl (pc0 := 122) (pc' := 129) rfl (hb hby at_122) rfl (XT.i0_eq_t (by decide)) (by decide) (by decide) ?_
      show Steps p.tables e below (T22.setTop (mkF m 129 #[.val (.int p1), .val (.int (if p1 < (0 : Int32) then (1 : Int32) else (0 : Int32))), .val (.int (if (0 : Int32) < p1 then (0 : Int32) else (1 : Int32))), .val (.int (if p1 < (0 : Int32) then (0 : Int32) else (1 : Int32))), .val (.int (if (0 : Int32) < p1 then (1 : Int32) else (0 : Int32))), .val (.int (0 : Int32)), .val (.int (1 : Int32)), .val (.int (1 : Int32)), .val (.int (1 : Int32)), .val (.int (1 : Int32)), .unset] [(.int (if p1 < (0 : Int32) then (0 : Int32) else (1 : Int32)))])) _
      refine XS.iconst X22.here hx rfl (hb hby at_129) ?_
      show Steps p.tables e below (T22.setTop (mkF m 130 #[.val (.int p1), .val (.int (if p1 < (0 : Int32) then (1 : Int32) else (0 : Int32))), .val (.int (if (0 : Int32) < p1 then (0 : Int32) else (1 : Int32))), .val (.int (if p1 < (0 : Int32) then (0 : Int32) else (1 : Int32))), .val (.int (if (0 : Int32) < p1 then (1 : Int32) else (0 : Int32))), .val (.int (0 : Int32)), .val (.int (1 : Int32)), .val (.int (1 : Int32)), .val (.int (1 : Int32)), .val (.int (1 : Int32)), .unset] [(.int (0 : Int32)), (.int (if p1 < (0 : Int32) then (0 : Int32) else (1 : Int32)))])) _
      refine XS.icmpNo X22.here hx rfl (hb hby at_130) rfl (XT.ii_ne_f (by simp only [if_pos t1] <;> decide)) ?_
      show Steps p.tables e below (T22.setTop (mkF m 133 #[.val (.int p1), .val (.int (if p1 < (0 : Int32) then (1 : Int32) else (0 : Int32))), .val (.int (if (0 : Int32) < p1 then (0 : Int32) else (1 : Int32))), .val (.int (if p1 < (0 : Int32) then (0 : Int32) else (1 : Int32))), .val (.int (if (0 : Int32) < p1 then (1 : Int32) else (0 : Int32))), .val (.int (0 : Int32)), .val (.int (1 : Int32)), .val (.int (1 : Int32)), .val (.int (1 : Int32)), .val (.int (1 : Int32)), .unset] [])) _
      refine XS.iconst X22.here hx rfl (hb hby at_133) ?_
      show Steps p.tables e below (T22.setTop (mkF m 134 #[.val (.int p1), .val (.int (if p1 < (0 : Int32) then (1 : Int32) else (0 : Int32))), .val (.int (if (0 : Int32) < p1 then (0 : Int32) else (1 : Int32))), .val (.int (if p1 < (0 : Int32) then (0 : Int32) else (1 : Int32))), .val (.int (if (0 : Int32) < p1 then (1 : Int32) else (0 : Int32))), .val (.int (0 : Int32)), .val (.int (1 : Int32)), .val (.int (1 : Int32)), .val (.int (1 : Int32)), .val (.int (1 : Int32)), .unset] [(.int (1 : Int32))])) _
      refine XS.goto X22.here hx rfl (pc0 := 134) (pc' := 138) rfl (hb hby at_134) (by decide) (by decide) ?_
      show Steps p.tables e below (T22.setTop (mkF m 138 #[.val (.int p1), .val (.int (if p1 < (0 : Int32) then (1 : Int32) else (0 : Int32))), .val (.int (if (0 : Int32) < p1 then (0 : Int32) else (1 : Int32))), .val (.int (if p1 < (0 : Int32) then (0 : Int32) else (1 : Int32))), .val (.int (if (0 : Int32) < p1 then (1 : Int32) else (0 : Int32))), .val (.int (0 : Int32)), .val (.int (1 : Int32)), .val (.int (1 : Int32)), .val (.int (1 : Int32)), .val (.int (1 : Int32)), .unset] [(.int (1 : Int32))])) _
      refine XS.istore X22.here hx rfl (hb hby at_138) rfl (l' := #[.val (.int p1), .val (.int (if p1 < (0 : Int32) then (1 : Int32) else (0 : Int32))), .val (.int (if (0 : Int32) < p1 then (0 : Int32) else (1 : Int32))), .val (.int (if p1 < (0 : Int32) then (0 : Int32) else (1 : Int32))), .val (.int (if (0 : Int32) < p1 then (1 : Int32) else (0 : Int32))), .val (.int (0 : Int32)), .val (.int (1 : Int32)), .val (.int (1 : Int32)), .val (.int (1 : Int32)), .val (.int (1 : Int32)), .val (.int (1 : Int32))]) rfl ?_
      show Steps p.tables e below (T22.setTop (mkF m 140 #[.val (.int p1), .val (.int (if p1 < (0 : Int32) then (1 : Int32) else (0 : Int32))), .val (.int (if (0 : Int32) < p1 then (0 : Int32) else (1 : Int32))), .val (.int (if p1 < (0 : Int32) then (0 : Int32) else (1 : Int32))), .val (.int (if (0 : Int32) < p1 then (1 : Int32) else (0 : Int32))), .val (.int (0 : Int32)), .val (.int (1 : Int32)), .val (.int (1 : Int32)), .val (.int (1 : Int32)), .val (.int (1 : Int32)), .val (.int (1 : Int32))] [])) _
      refine XS.iload X22.here hx rfl (hb hby at_140) rfl ?_
      show Steps p.tables e below (T22.setTop (mkF m 142 #[.val (.int p1), .val (.int (if p1 < (0 : Int32) then (1 : Int32) else (0 : Int32))), .val (.int (if (0 : Int32) < p1 then (0 : Int32) else (1 : Int32))), .val (.int (if p1 < (0 : Int32) then (0 : Int32) else (1 : Int32))), .val (.int (if (0 : Int32) < p1 then (1 : Int32) else (0 : Int32))), .val (.int (0 : Int32)), .val (.int (1 : Int32)), .val (.int (1 : Int32)), .val (.int (1 : Int32)), .val (.int (1 : Int32)), .val (.int (1 : Int32))] [(.int (1 : Int32))])) _
      refine XS.ifNo X22.here hx rfl (hb hby at_142) rfl (XT.i0_eq_f (by decide)) ?_
      show Steps p.tables e below (T22.setTop (mkF m 145 #[.val (.int p1), .val (.int (if p1 < (0 : Int32) then (1 : Int32) else (0 : Int32))), .val (.int (if (0 : Int32) < p1 then (0 : Int32) else (1 : Int32))), .val (.int (if p1 < (0 : Int32) then (0 : Int32) else (1 : Int32))), .val (.int (if (0 : Int32) < p1 then (1 : Int32) else (0 : Int32))), .val (.int (0 : Int32)), .val (.int (1 : Int32)), .val (.int (1 : Int32)), .val (.int (1 : Int32)), .val (.int (1 : Int32)), .val (.int (1 : Int32))] [])) _
      refine XS.iload X22.here hx rfl (hb hby at_145) rfl ?_
      show Steps p.tables e below (T22.setTop (mkF m 147 #[.val (.int p1), .val (.int (if p1 < (0 : Int32) then (1 : Int32) else (0 : Int32))), .val (.int (if (0 : Int32) < p1 then (0 : Int32) else (1 : Int32))), .val (.int (if p1 < (0 : Int32) then (0 : Int32) else (1 : Int32))), .val (.int (if (0 : Int32) < p1 then (1 : Int32) else (0 : Int32))), .val (.int (0 : Int32)), .val (.int (1 : Int32)), .val (.int (1 : Int32)), .val (.int (1 : Int32)), .val (.int (1 : Int32)), .val (.int (1 : Int32))] [(.int (1 : Int32))])) _
      refine XS.ifNo X22.here hx rfl (hb hby at_147) rfl (XT.i0_eq_f (by decide)) ?_
      show Steps p.tables e below (T22.setTop (mkF m 150 #[.val (.int p1), .val (.int (if p1 < (0 : Int32) then (1 : Int32) else (0 : Int32))), .val (.int (if (0 : Int32) < p1 then (0 : Int32) else (1 : Int32))), .val (.int (if p1 < (0 : Int32) then (0 : Int32) else (1 : Int32))), .val (.int (if (0 : Int32) < p1 then (1 : Int32) else (0 : Int32))), .val (.int (0 : Int32)), .val (.int (1 : Int32)), .val (.int (1 : Int32)), .val (.int (1 : Int32)), .val (.int (1 : Int32)), .val (.int (1 : Int32))] [])) _
      refine XS.iload X22.here hx rfl (hb hby at_150) rfl ?_
      show Steps p.tables e below (T22.setTop (mkF m 152 #[.val (.int p1), .val (.int (if p1 < (0 : Int32) then (1 : Int32) else (0 : Int32))), .val (.int (if (0 : Int32) < p1 then (0 : Int32) else (1 : Int32))), .val (.int (if p1 < (0 : Int32) then (0 : Int32) else (1 : Int32))), .val (.int (if (0 : Int32) < p1 then (1 : Int32) else (0 : Int32))), .val (.int (0 : Int32)), .val (.int (1 : Int32)), .val (.int (1 : Int32)), .val (.int (1 : Int32)), .val (.int (1 : Int32)), .val (.int (1 : Int32))] [(.int (1 : Int32))])) _
      refine XS.ifNo X22.here hx rfl (hb hby at_152) rfl (XT.i0_eq_f (by decide)) ?_
      show Steps p.tables e below (T22.setTop (mkF m 155 #[.val (.int p1), .val (.int (if p1 < (0 : Int32) then (1 : Int32) else (0 : Int32))), .val (.int (if (0 : Int32) < p1 then (0 : Int32) else (1 : Int32))), .val (.int (if p1 < (0 : Int32) then (0 : Int32) else (1 : Int32))), .val (.int (if (0 : Int32) < p1 then (1 : Int32) else (0 : Int32))), .val (.int (0 : Int32)), .val (.int (1 : Int32)), .val (.int (1 : Int32)), .val (.int (1 : Int32)), .val (.int (1 : Int32)), .val (.int (1 : Int32))] [])) _
      refine XS.iload X22.here hx rfl (hb hby at_155) rfl ?_
      show Steps p.tables e below (T22.setTop (mkF m 157 #[.val (.int p1), .val (.int (if p1 < (0 : Int32) then (1 : Int32) else (0 : Int32))), .val (.int (if (0 : Int32) < p1 then (0 : Int32) else (1 : Int32))), .val (.int (if p1 < (0 : Int32) then (0 : Int32) else (1 : Int32))), .val (.int (if (0 : Int32) < p1 then (1 : Int32) else (0 : Int32))), .val (.int (0 : Int32)), .val (.int (1 : Int32)), .val (.int (1 : Int32)), .val (.int (1 : Int32)), .val (.int (1 : Int32)), .val (.int (1 : Int32))] [(.int (1 : Int32))])) _
      refine XS.ifNo X22.here hx rfl (hb hby at_157) rfl (XT.i0_eq_f (by decide)) ?_
      show Steps p.tables e below (T22.setTop (mkF m 160 #[.val (.int p1), .val (.int (if p1 < (0 : Int32) then (1 : Int32) else (0 : Int32))), .val (.int (if (0 : Int32) < p1 then (0 : Int32) else (1 : Int32))), .val (.int (if p1 < (0 : Int32) then (0 : Int32) else (1 : Int32))), .val (.int (if (0 : Int32) < p1 then (1 : Int32) else (0 : Int32))), .val (.int (0 : Int32)), .val (.int (1 : Int32)), .val (.int (1 : Int32)), .val (.int (1 : Int32)), .val (.int (1 : Int32)), .val (.int (1 : Int32))] [])) _
      refine XS.iload X22.here hx rfl (hb hby at_160) rfl ?_
      show Steps p.tables e below (T22.setTop (mkF m 162 #[.val (.int p1), .val (.int (if p1 < (0 : Int32) then (1 : Int32) else (0 : Int32))), .val (.int (if (0 : Int32) < p1 then (0 : Int32) else (1 : Int32))), .val (.int (if p1 < (0 : Int32) then (0 : Int32) else (1 : Int32))), .val (.int (if (0 : Int32) < p1 then (1 : Int32) else (0 : Int32))), .val (.int (0 : Int32)), .val (.int (1 : Int32)), .val (.int (1 : Int32)), .val (.int (1 : Int32)), .val (.int (1 : Int32)), .val (.int (1 : Int32))] [(.int (1 : Int32))])) _
      refine XS.ifNo X22.here hx rfl (hb hby at_162) rfl (XT.i0_eq_f (by decide)) ?_
      show Steps p.tables e below (T22.setTop (mkF m 165 #[.val (.int p1), .val (.int (if p1 < (0 : Int32) then (1 : Int32) else (0 : Int32))), .val (.int (if (0 : Int32) < p1 then (0 : Int32) else (1 : Int32))), .val (.int (if p1 < (0 : Int32) then (0 : Int32) else (1 : Int32))), .val (.int (if (0 : Int32) < p1 then (1 : Int32) else (0 : Int32))), .val (.int (0 : Int32)), .val (.int (1 : Int32)), .val (.int (1 : Int32)), .val (.int (1 : Int32)), .val (.int (1 : Int32)), .val (.int (1 : Int32))] [])) _
      refine XS.iconst X22.here hx rfl (hb hby at_165) ?_
      show Steps p.tables e below (T22.setTop (mkF m 166 #[.val (.int p1), .val (.int (if p1 < (0 : Int32) then (1 : Int32) else (0 : Int32))), .val (.int (if (0 : Int32) < p1 then (0 : Int32) else (1 : Int32))), .val (.int (if p1 < (0 : Int32) then (0 : Int32) else (1 : Int32))), .val (.int (if (0 : Int32) < p1 then (1 : Int32) else (0 : Int32))), .val (.int (0 : Int32)), .val (.int (1 : Int32)), .val (.int (1 : Int32)), .val (.int (1 : Int32)), .val (.int (1 : Int32)), .val (.int (1 : Int32))] [(.int (1 : Int32))])) _
      refine XS.goto X22.here hx rfl (pc0 := 166) (pc' := 170) rfl (hb hby at_166) (by decide) (by decide) ?_
      show Steps p.tables e below (T22.setTop (mkF m 170 #[.val (.int p1), .val (.int (if p1 < (0 : Int32) then (1 : Int32) else (0 : Int32))), .val (.int (if (0 : Int32) < p1 then (0 : Int32) else (1 : Int32))), .val (.int (if p1 < (0 : Int32) then (0 : Int32) else (1 : Int32))), .val (.int (if (0 : Int32) < p1 then (1 : Int32) else (0 : Int32))), .val (.int (0 : Int32)), .val (.int (1 : Int32)), .val (.int (1 : Int32)), .val (.int (1 : Int32)), .val (.int (1 : Int32)), .val (.int (1 : Int32))] [(.int (1 : Int32))])) _
      exact k
    obtain ⟨fs, hr, hrun, hended, hW, hsame⟩ := X22.leave (v := some (.int (1 : Int32))) (fun h => by rw [Bd.returns] at h; cases h)
    refine ⟨_, _, pre_25 _ ?_, hrun, hended, _, _, rfl, ?_, ⟨_, rfl⟩, hW, hsame.mono (by decide) (by decide)⟩
    · show Steps p.tables e below (T22.setTop (mkF m 170 #[.val (.int p1), .val (.int (if p1 < (0 : Int32) then (1 : Int32) else (0 : Int32))), .val (.int (if (0 : Int32) < p1 then (0 : Int32) else (1 : Int32))), .val (.int (if p1 < (0 : Int32) then (0 : Int32) else (1 : Int32))), .val (.int (if (0 : Int32) < p1 then (1 : Int32) else (0 : Int32))), .val (.int (0 : Int32)), .val (.int (1 : Int32)), .val (.int (1 : Int32)), .val (.int (1 : Int32)), .val (.int (1 : Int32)), .val (.int (1 : Int32))] [(.int (1 : Int32))])) _
      exact retN X22 hx (t := .boolean) Bd.returns (by simp) (hb hby at_170) hr
    · show Q_law Z p1 aLESS aLESS_OR_EQUAL aGREATER_OR_EQUAL aGREATER h0 n0 _ T22.heap _
      rw [e22]
      exact ⟨rfl, N22⟩
  · skip
    have pre_26 : ∀ t, Steps p.tables e below (T22.setTop (mkF m 170 #[.val (.int p1), .val (.int (if p1 < (0 : Int32) then (1 : Int32) else (0 : Int32))), .val (.int (if (0 : Int32) < p1 then (0 : Int32) else (1 : Int32))), .val (.int (if p1 < (0 : Int32) then (0 : Int32) else (1 : Int32))), .val (.int (if (0 : Int32) < p1 then (1 : Int32) else (0 : Int32))), .val (.int (0 : Int32)), .val (.int (1 : Int32)), .val (.int (1 : Int32)), .val (.int (1 : Int32)), .val (.int (1 : Int32)), .val (.int (1 : Int32))] [(.int (1 : Int32))])) t → Steps p.tables e below (s₁.setTop (entryFrame m #[(.int p1)] maxLocals)) t := by
      intro t k
      refine pre_24 t ?_
      show Steps p.tables e below (T22.setTop (mkF m 33 #[.val (.int p1), .val (.int (if p1 < (0 : Int32) then (1 : Int32) else (0 : Int32))), .val (.int (if (0 : Int32) < p1 then (0 : Int32) else (1 : Int32))), .val (.int (if p1 < (0 : Int32) then (0 : Int32) else (1 : Int32))), .val (.int (if (0 : Int32) < p1 then (1 : Int32) else (0 : Int32))), .unset, .unset, .unset, .unset, .unset, .unset] [])) _
      refine XS.iloadN X22.here hx rfl (hb hby at_33) rfl ?_
      show Steps p.tables e below (T22.setTop (mkF m 34 #[.val (.int p1), .val (.int (if p1 < (0 : Int32) then (1 : Int32) else (0 : Int32))), .val (.int (if (0 : Int32) < p1 then (0 : Int32) else (1 : Int32))), .val (.int (if p1 < (0 : Int32) then (0 : Int32) else (1 : Int32))), .val (.int (if (0 : Int32) < p1 then (1 : Int32) else (0 : Int32))), .unset, .unset, .unset, .unset, .unset, .unset] [(.int p1)])) _
      refine XS.ifYes X22.here hx rfl (pc0 := 34) (pc' := 41) rfl (hb hby at_34) rfl (XT.i0_ne_t t3) (by decide) (by decide) ?_
      show Steps p.tables e below (T22.setTop (mkF m 41 #[.val (.int p1), .val (.int (if p1 < (0 : Int32) then (1 : Int32) else (0 : Int32))), .val (.int (if (0 : Int32) < p1 then (0 : Int32) else (1 : Int32))), .val (.int (if p1 < (0 : Int32) then (0 : Int32) else (1 : Int32))), .val (.int (if (0 : Int32) < p1 then (1 : Int32) else (0 : Int32))), .unset, .unset, .unset, .unset, .unset, .unset] [])) _
      refine XS.iconst X22.here hx rfl (hb hby at_41) ?_
      show Steps p.tables e below (T22.setTop (mkF m 42 #[.val (.int p1), .val (.int (if p1 < (0 : Int32) then (1 : Int32) else (0 : Int32))), .val (.int (if (0 : Int32) < p1 then (0 : Int32) else (1 : Int32))), .val (.int (if p1 < (0 : Int32) then (0 : Int32) else (1 : Int32))), .val (.int (if (0 : Int32) < p1 then (1 : Int32) else (0 : Int32))), .unset, .unset, .unset, .unset, .unset, .unset] [(.int (0 : Int32))])) _
      refine XS.istore X22.here hx rfl (hb hby at_42) rfl (l' := #[.val (.int p1), .val (.int (if p1 < (0 : Int32) then (1 : Int32) else (0 : Int32))), .val (.int (if (0 : Int32) < p1 then (0 : Int32) else (1 : Int32))), .val (.int (if p1 < (0 : Int32) then (0 : Int32) else (1 : Int32))), .val (.int (if (0 : Int32) < p1 then (1 : Int32) else (0 : Int32))), .val (.int (0 : Int32)), .unset, .unset, .unset, .unset, .unset]) rfl ?_
      show Steps p.tables e below (T22.setTop (mkF m 44 #[.val (.int p1), .val (.int (if p1 < (0 : Int32) then (1 : Int32) else (0 : Int32))), .val (.int (if (0 : Int32) < p1 then (0 : Int32) else (1 : Int32))), .val (.int (if p1 < (0 : Int32) then (0 : Int32) else (1 : Int32))), .val (.int (if (0 : Int32) < p1 then (1 : Int32) else (0 : Int32))), .val (.int (0 : Int32)), .unset, .unset, .unset, .unset, .unset] [])) _
      refine XS.iloadN X22.here hx rfl (hb hby at_44) rfl ?_
      show Steps p.tables e below (T22.setTop (mkF m 45 #[.val (.int p1), .val (.int (if p1 < (0 : Int32) then (1 : Int32) else (0 : Int32))), .val (.int (if (0 : Int32) < p1 then (0 : Int32) else (1 : Int32))), .val (.int (if p1 < (0 : Int32) then (0 : Int32) else (1 : Int32))), .val (.int (if (0 : Int32) < p1 then (1 : Int32) else (0 : Int32))), .val (.int (0 : Int32)), .unset, .unset, .unset, .unset, .unset] [(.int (if p1 < (0 : Int32) then (1 : Int32) else (0 : Int32)))])) _
      refine XS.iloadN X22.here hx rfl (hb hby at_45) rfl ?_
      show Steps p.tables e below (T22.setTop (mkF m 46 #[.val (.int p1), .val (.int (if p1 < (0 : Int32) then (1 : Int32) else (0 : Int32))), .val (.int (if (0 : Int32) < p1 then (0 : Int32) else (1 : Int32))), .val (.int (if p1 < (0 : Int32) then (0 : Int32) else (1 : Int32))), .val (.int (if (0 : Int32) < p1 then (1 : Int32) else (0 : Int32))), .val (.int (0 : Int32)), .unset, .unset, .unset, .unset, .unset] [(.int p1), (.int (if p1 < (0 : Int32) then (1 : Int32) else (0 : Int32)))])) _
      refine XS.ifYes X22.here hx rfl (pc0 := 46) (pc' := 53) rfl (hb hby at_46) rfl (XT.i0_ge_t t1) (by decide) (by decide) ?_
      show Steps p.tables e below (T22.setTop (mkF m 53 #[.val (.int p1), .val (.int (if p1 < (0 : Int32) then (1 : Int32) else (0 : Int32))), .val (.int (if (0 : Int32) < p1 then (0 : Int32) else (1 : Int32))), .val (.int (if p1 < (0 : Int32) then (0 : Int32) else (1 : Int32))), .val (.int (if (0 : Int32) < p1 then (1 : Int32) else (0 : Int32))), .val (.int (0 : Int32)), .unset, .unset, .unset, .unset, .unset] [(.int (if p1 < (0 : Int32) then (1 : Int32) else (0 : Int32)))])) _
      refine XS.iconst X22.here hx rfl (hb hby at_53) ?_
      show Steps p.tables e below (T22.setTop (mkF m 54 #[.val (.int p1), .val (.int (if p1 < (0 : Int32) then (1 : Int32) else (0 : Int32))), .val (.int (if (0 : Int32) < p1 then (0 : Int32) else (1 : Int32))), .val (.int (if p1 < (0 : Int32) then (0 : Int32) else (1 : Int32))), .val (.int (if (0 : Int32) < p1 then (1 : Int32) else (0 : Int32))), .val (.int (0 : Int32)), .unset, .unset, .unset, .unset, .unset] [(.int (0 : Int32)), (.int (if p1 < (0 : Int32) then (1 : Int32) else (0 : Int32)))])) _
      refine XS.icmpNo X22.here hx rfl (hb hby at_54) rfl (XT.ii_ne_f (by simp only [if_neg t1] <;> decide)) ?_
      show Steps p.tables e below (T22.setTop (mkF m 57 #[.val (.int p1), .val (.int (if p1 < (0 : Int32) then (1 : Int32) else (0 : Int32))), .val (.int (if (0 : Int32) < p1 then (0 : Int32) else (1 : Int32))), .val (.int (if p1 < (0 : Int32) then (0 : Int32) else (1 : Int32))), .val (.int (if (0 : Int32) < p1 then (1 : Int32) else (0 : Int32))), .val (.int (0 : Int32)), .unset, .unset, .unset, .unset, .unset] [])) _
      refine XS.iconst X22.here hx rfl (hb hby at_57) ?_
      show Steps p.tables e below (T22.setTop (mkF m 58 #[.val (.int p1), .val (.int (if p1 < (0 : Int32) then (1 : Int32) else (0 : Int32))), .val (.int (if (0 : Int32) < p1 then (0 : Int32) else (1 : Int32))), .val (.int (if p1 < (0 : Int32) then (0 : Int32) else (1 : Int32))), .val (.int (if (0 : Int32) < p1 then (1 : Int32) else (0 : Int32))), .val (.int (0 : Int32)), .unset, .unset, .unset, .unset, .unset] [(.int (1 : Int32))])) _
      refine XS.goto X22.here hx rfl (pc0 := 58) (pc' := 62) rfl (hb hby at_58) (by decide) (by decide) ?_
      show Steps p.tables e below (T22.setTop (mkF m 62 #[.val (.int p1), .val (.int (if p1 < (0 : Int32) then (1 : Int32) else (0 : Int32))), .val (.int (if (0 : Int32) < p1 then (0 : Int32) else (1 : Int32))), .val (.int (if p1 < (0 : Int32) then (0 : Int32) else (1 : Int32))), .val (.int (if (0 : Int32) < p1 then (1 : Int32) else (0 : Int32))), .val (.int (0 : Int32)), .unset, .unset, .unset, .unset, .unset] [(.int (1 : Int32))])) _
      refine XS.istore X22.here hx rfl (hb hby at_62) rfl (l' := #[.val (.int p1), .val (.int (if p1 < (0 : Int32) then (1 : Int32) else (0 : Int32))), .val (.int (if (0 : Int32) < p1 then (0 : Int32) else (1 : Int32))), .val (.int (if p1 < (0 : Int32) then (0 : Int32) else (1 : Int32))), .val (.int (if (0 : Int32) < p1 then (1 : Int32) else (0 : Int32))), .val (.int (0 : Int32)), .val (.int (1 : Int32)), .unset, .unset, .unset, .unset]) rfl ?_
      show Steps p.tables e below (T22.setTop (mkF m 64 #[.val (.int p1), .val (.int (if p1 < (0 : Int32) then (1 : Int32) else (0 : Int32))), .val (.int (if (0 : Int32) < p1 then (0 : Int32) else (1 : Int32))), .val (.int (if p1 < (0 : Int32) then (0 : Int32) else (1 : Int32))), .val (.int (if (0 : Int32) < p1 then (1 : Int32) else (0 : Int32))), .val (.int (0 : Int32)), .val (.int (1 : Int32)), .unset, .unset, .unset, .unset] [])) _
      refine XS.iloadN X22.here hx rfl (hb hby at_64) rfl ?_
      show Steps p.tables e below (T22.setTop (mkF m 65 #[.val (.int p1), .val (.int (if p1 < (0 : Int32) then (1 : Int32) else (0 : Int32))), .val (.int (if (0 : Int32) < p1 then (0 : Int32) else (1 : Int32))), .val (.int (if p1 < (0 : Int32) then (0 : Int32) else (1 : Int32))), .val (.int (if (0 : Int32) < p1 then (1 : Int32) else (0 : Int32))), .val (.int (0 : Int32)), .val (.int (1 : Int32)), .unset, .unset, .unset, .unset] [(.int (if p1 < (0 : Int32) then (1 : Int32) else (0 : Int32)))])) _
      refine XS.iloadN X22.here hx rfl (hb hby at_65) rfl ?_
      show Steps p.tables e below (T22.setTop (mkF m 66 #[.val (.int p1), .val (.int (if p1 < (0 : Int32) then (1 : Int32) else (0 : Int32))), .val (.int (if (0 : Int32) < p1 then (0 : Int32) else (1 : Int32))), .val (.int (if p1 < (0 : Int32) then (0 : Int32) else (1 : Int32))), .val (.int (if (0 : Int32) < p1 then (1 : Int32) else (0 : Int32))), .val (.int (0 : Int32)), .val (.int (1 : Int32)), .unset, .unset, .unset, .unset] [(.int (if p1 < (0 : Int32) then (0 : Int32) else (1 : Int32))), (.int (if p1 < (0 : Int32) then (1 : Int32) else (0 : Int32)))])) _
      refine XS.icmpNo X22.here hx rfl (hb hby at_66) rfl (XT.ii_eq_f (by simp only [if_neg t1] <;> decide)) ?_
      show Steps p.tables e below (T22.setTop (mkF m 69 #[.val (.int p1), .val (.int (if p1 < (0 : Int32) then (1 : Int32) else (0 : Int32))), .val (.int (if (0 : Int32) < p1 then (0 : Int32) else (1 : Int32))), .val (.int (if p1 < (0 : Int32) then (0 : Int32) else (1 : Int32))), .val (.int (if (0 : Int32) < p1 then (1 : Int32) else (0 : Int32))), .val (.int (0 : Int32)), .val (.int (1 : Int32)), .unset, .unset, .unset, .unset] [])) _
      refine XS.iconst X22.here hx rfl (hb hby at_69) ?_
      show Steps p.tables e below (T22.setTop (mkF m 70 #[.val (.int p1), .val (.int (if p1 < (0 : Int32) then (1 : Int32) else (0 : Int32))), .val (.int (if (0 : Int32) < p1 then (0 : Int32) else (1 : Int32))), .val (.int (if p1 < (0 : Int32) then (0 : Int32) else (1 : Int32))), .val (.int (if (0 : Int32) < p1 then (1 : Int32) else (0 : Int32))), .val (.int (0 : Int32)), .val (.int (1 : Int32)), .unset, .unset, .unset, .unset] [(.int (1 : Int32))])) _
      refine XS.goto X22.here hx rfl (pc0 := 70) (pc' := 74) rfl (hb hby at_70) (by decide) (by decide) ?_
      show Steps p.tables e below (T22.setTop (mkF m 74 #[.val (.int p1), .val (.int (if p1 < (0 : Int32) then (1 : Int32) else (0 : Int32))), .val (.int (if (0 : Int32) < p1 then (0 : Int32) else (1 : Int32))), .val (.int (if p1 < (0 : Int32) then (0 : Int32) else (1 : Int32))), .val (.int (if (0 : Int32) < p1 then (1 : Int32) else (0 : Int32))), .val (.int (0 : Int32)), .val (.int (1 : Int32)), .unset, .unset, .unset, .unset] [(.int (1 : Int32))])) _
      refine XS.istore X22.here hx rfl (hb hby at_74) rfl (l' := #[.val (.int p1), .val (.int (if p1 < (0 : Int32) then (1 : Int32) else (0 : Int32))), .val (.int (if (0 : Int32) < p1 then (0 : Int32) else (1 : Int32))), .val (.int (if p1 < (0 : Int32) then (0 : Int32) else (1 : Int32))), .val (.int (if (0 : Int32) < p1 then (1 : Int32) else (0 : Int32))), .val (.int (0 : Int32)), .val (.int (1 : Int32)), .val (.int (1 : Int32)), .unset, .unset, .unset]) rfl ?_
      show Steps p.tables e below (T22.setTop (mkF m 76 #[.val (.int p1), .val (.int (if p1 < (0 : Int32) then (1 : Int32) else (0 : Int32))), .val (.int (if (0 : Int32) < p1 then (0 : Int32) else (1 : Int32))), .val (.int (if p1 < (0 : Int32) then (0 : Int32) else (1 : Int32))), .val (.int (if (0 : Int32) < p1 then (1 : Int32) else (0 : Int32))), .val (.int (0 : Int32)), .val (.int (1 : Int32)), .val (.int (1 : Int32)), .unset, .unset, .unset] [])) _
      refine XS.iloadN X22.here hx rfl (hb hby at_76) rfl ?_
      show Steps p.tables e below (T22.setTop (mkF m 77 #[.val (.int p1), .val (.int (if p1 < (0 : Int32) then (1 : Int32) else (0 : Int32))), .val (.int (if (0 : Int32) < p1 then (0 : Int32) else (1 : Int32))), .val (.int (if p1 < (0 : Int32) then (0 : Int32) else (1 : Int32))), .val (.int (if (0 : Int32) < p1 then (1 : Int32) else (0 : Int32))), .val (.int (0 : Int32)), .val (.int (1 : Int32)), .val (.int (1 : Int32)), .unset, .unset, .unset] [(.int (if (0 : Int32) < p1 then (0 : Int32) else (1 : Int32)))])) _
      refine XS.iload X22.here hx rfl (hb hby at_77) rfl ?_
      show Steps p.tables e below (T22.setTop (mkF m 79 #[.val (.int p1), .val (.int (if p1 < (0 : Int32) then (1 : Int32) else (0 : Int32))), .val (.int (if (0 : Int32) < p1 then (0 : Int32) else (1 : Int32))), .val (.int (if p1 < (0 : Int32) then (0 : Int32) else (1 : Int32))), .val (.int (if (0 : Int32) < p1 then (1 : Int32) else (0 : Int32))), .val (.int (0 : Int32)), .val (.int (1 : Int32)), .val (.int (1 : Int32)), .unset, .unset, .unset] [(.int (if (0 : Int32) < p1 then (1 : Int32) else (0 : Int32))), (.int (if (0 : Int32) < p1 then (0 : Int32) else (1 : Int32)))])) _
      refine XS.icmpNo X22.here hx rfl (hb hby at_79) rfl (XT.ii_eq_f (by simp only [if_pos t2] <;> decide)) ?_
      show Steps p.tables e below (T22.setTop (mkF m 82 #[.val (.int p1), .val (.int (if p1 < (0 : Int32) then (1 : Int32) else (0 : Int32))), .val (.int (if (0 : Int32) < p1 then (0 : Int32) else (1 : Int32))), .val (.int (if p1 < (0 : Int32) then (0 : Int32) else (1 : Int32))), .val (.int (if (0 : Int32) < p1 then (1 : Int32) else (0 : Int32))), .val (.int (0 : Int32)), .val (.int (1 : Int32)), .val (.int (1 : Int32)), .unset, .unset, .unset] [])) _
      refine XS.iconst X22.here hx rfl (hb hby at_82) ?_
      show Steps p.tables e below (T22.setTop (mkF m 83 #[.val (.int p1), .val (.int (if p1 < (0 : Int32) then (1 : Int32) else (0 : Int32))), .val (.int (if (0 : Int32) < p1 then (0 : Int32) else (1 : Int32))), .val (.int (if p1 < (0 : Int32) then (0 : Int32) else (1 : Int32))), .val (.int (if (0 : Int32) < p1 then (1 : Int32) else (0 : Int32))), .val (.int (0 : Int32)), .val (.int (1 : Int32)), .val (.int (1 : Int32)), .unset, .unset, .unset] [(.int (1 : Int32))])) _
      refine XS.goto X22.here hx rfl (pc0 := 83) (pc' := 87) rfl (hb hby at_83) (by decide) (by decide) ?_
      show Steps p.tables e below (T22.setTop (mkF m 87 #[.val (.int p1), .val (.int (if p1 < (0 : Int32) then (1 : Int32) else (0 : Int32))), .val (.int (if (0 : Int32) < p1 then (0 : Int32) else (1 : Int32))), .val (.int (if p1 < (0 : Int32) then (0 : Int32) else (1 : Int32))), .val (.int (if (0 : Int32) < p1 then (1 : Int32) else (0 : Int32))), .val (.int (0 : Int32)), .val (.int (1 : Int32)), .val (.int (1 : Int32)), .unset, .unset, .unset] [(.int (1 : Int32))])) _
      refine XS.istore X22.here hx rfl (hb hby at_87) rfl (l' := #[.val (.int p1), .val (.int (if p1 < (0 : Int32) then (1 : Int32) else (0 : Int32))), .val (.int (if (0 : Int32) < p1 then (0 : Int32) else (1 : Int32))), .val (.int (if p1 < (0 : Int32) then (0 : Int32) else (1 : Int32))), .val (.int (if (0 : Int32) < p1 then (1 : Int32) else (0 : Int32))), .val (.int (0 : Int32)), .val (.int (1 : Int32)), .val (.int (1 : Int32)), .val (.int (1 : Int32)), .unset, .unset]) rfl ?_
      show Steps p.tables e below (T22.setTop (mkF m 89 #[.val (.int p1), .val (.int (if p1 < (0 : Int32) then (1 : Int32) else (0 : Int32))), .val (.int (if (0 : Int32) < p1 then (0 : Int32) else (1 : Int32))), .val (.int (if p1 < (0 : Int32) then (0 : Int32) else (1 : Int32))), .val (.int (if (0 : Int32) < p1 then (1 : Int32) else (0 : Int32))), .val (.int (0 : Int32)), .val (.int (1 : Int32)), .val (.int (1 : Int32)), .val (.int (1 : Int32)), .unset, .unset] [])) _
      refine XS.iloadN X22.here hx rfl (hb hby at_89) rfl ?_
      show Steps p.tables e below (T22.setTop (mkF m 90 #[.val (.int p1), .val (.int (if p1 < (0 : Int32) then (1 : Int32) else (0 : Int32))), .val (.int (if (0 : Int32) < p1 then (0 : Int32) else (1 : Int32))), .val (.int (if p1 < (0 : Int32) then (0 : Int32) else (1 : Int32))), .val (.int (if (0 : Int32) < p1 then (1 : Int32) else (0 : Int32))), .val (.int (0 : Int32)), .val (.int (1 : Int32)), .val (.int (1 : Int32)), .val (.int (1 : Int32)), .unset, .unset] [(.int (if (0 : Int32) < p1 then (0 : Int32) else (1 : Int32)))])) _
      refine XS.iloadN X22.here hx rfl (hb hby at_90) rfl ?_
      show Steps p.tables e below (T22.setTop (mkF m 91 #[.val (.int p1), .val (.int (if p1 < (0 : Int32) then (1 : Int32) else (0 : Int32))), .val (.int (if (0 : Int32) < p1 then (0 : Int32) else (1 : Int32))), .val (.int (if p1 < (0 : Int32) then (0 : Int32) else (1 : Int32))), .val (.int (if (0 : Int32) < p1 then (1 : Int32) else (0 : Int32))), .val (.int (0 : Int32)), .val (.int (1 : Int32)), .val (.int (1 : Int32)), .val (.int (1 : Int32)), .unset, .unset] [(.int (if p1 < (0 : Int32) then (1 : Int32) else (0 : Int32))), (.int (if (0 : Int32) < p1 then (0 : Int32) else (1 : Int32)))])) _
      refine XS.ifNo X22.here hx rfl (hb hby at_91) rfl (XT.i0_ne_f (by simp only [if_neg t1] <;> decide)) ?_
      show Steps p.tables e below (T22.setTop (mkF m 94 #[.val (.int p1), .val (.int (if p1 < (0 : Int32) then (1 : Int32) else (0 : Int32))), .val (.int (if (0 : Int32) < p1 then (0 : Int32) else (1 : Int32))), .val (.int (if p1 < (0 : Int32) then (0 : Int32) else (1 : Int32))), .val (.int (if (0 : Int32) < p1 then (1 : Int32) else (0 : Int32))), .val (.int (0 : Int32)), .val (.int (1 : Int32)), .val (.int (1 : Int32)), .val (.int (1 : Int32)), .unset, .unset] [(.int (if (0 : Int32) < p1 then (0 : Int32) else (1 : Int32)))])) _
      refine XS.iload X22.here hx rfl (hb hby at_94) rfl ?_
      show Steps p.tables e below (T22.setTop (mkF m 96 #[.val (.int p1), .val (.int (if p1 < (0 : Int32) then (1 : Int32) else (0 : Int32))), .val (.int (if (0 : Int32) < p1 then (0 : Int32) else (1 : Int32))), .val (.int (if p1 < (0 : Int32) then (0 : Int32) else (1 : Int32))), .val (.int (if (0 : Int32) < p1 then (1 : Int32) else (0 : Int32))), .val (.int (0 : Int32)), .val (.int (1 : Int32)), .val (.int (1 : Int32)), .val (.int (1 : Int32)), .unset, .unset] [(.int (0 : Int32)), (.int (if (0 : Int32) < p1 then (0 : Int32) else (1 : Int32)))])) _
      refine XS.ifYes X22.here hx rfl (pc0 := 96) (pc' := 103) rfl (hb hby at_96) rfl (XT.i0_eq_t (by decide)) (by decide) (by decide) ?_
      show Steps p.tables e below (T22.setTop (mkF m 103 #[.val (.int p1), .val (.int (if p1 < (0 : Int32) then (1 : Int32) else (0 : Int32))), .val (.int (if (0 : Int32) < p1 then (0 : Int32) else (1 : Int32))), .val (.int (if p1 < (0 : Int32) then (0 : Int32) else (1 : Int32))), .val (.int (if (0 : Int32) < p1 then (1 : Int32) else (0 : Int32))), .val (.int (0 : Int32)), .val (.int (1 : Int32)), .val (.int (1 : Int32)), .val (.int (1 : Int32)), .unset, .unset] [(.int (if (0 : Int32) < p1 then (0 : Int32) else (1 : Int32)))])) _
      refine XS.iconst X22.here hx rfl (hb hby at_103) ?_
      show Steps p.tables e below (T22.setTop (mkF m 104 #[.val (.int p1), .val (.int (if p1 < (0 : Int32) then (1 : Int32) else (0 : Int32))), .val (.int (if (0 : Int32) < p1 then (0 : Int32) else (1 : Int32))), .val (.int (if p1 < (0 : Int32) then (0 : Int32) else (1 : Int32))), .val (.int (if (0 : Int32) < p1 then (1 : Int32) else (0 : Int32))), .val (.int (0 : Int32)), .val (.int (1 : Int32)), .val (.int (1 : Int32)), .val (.int (1 : Int32)), .unset, .unset] [(.int (0 : Int32)), (.int (if (0 : Int32) < p1 then (0 : Int32) else (1 : Int32)))])) _
      refine XS.icmpNo X22.here hx rfl (hb hby at_104) rfl (XT.ii_ne_f (by simp only [if_pos t2] <;> decide)) ?_
      show Steps p.tables e below (T22.setTop (mkF m 107 #[.val (.int p1), .val (.int (if p1 < (0 : Int32) then (1 : Int32) else (0 : Int32))), .val (.int (if (0 : Int32) < p1 then (0 : Int32) else (1 : Int32))), .val (.int (if p1 < (0 : Int32) then (0 : Int32) else (1 : Int32))), .val (.int (if (0 : Int32) < p1 then (1 : Int32) else (0 : Int32))), .val (.int (0 : Int32)), .val (.int (1 : Int32)), .val (.int (1 : Int32)), .val (.int (1 : Int32)), .unset, .unset] [])) _
      refine XS.iconst X22.here hx rfl (hb hby at_107) ?_
      show Steps p.tables e below (T22.setTop (mkF m 108 #[.val (.int p1), .val (.int (if p1 < (0 : Int32) then (1 : Int32) else (0 : Int32))), .val (.int (if (0 : Int32) < p1 then (0 : Int32) else (1 : Int32))), .val (.int (if p1 < (0 : Int32) then (0 : Int32) else (1 : Int32))), .val (.int (if (0 : Int32) < p1 then (1 : Int32) else (0 : Int32))), .val (.int (0 : Int32)), .val (.int (1 : Int32)), .val (.int (1 : Int32)), .val (.int (1 : Int32)), .unset, .unset] [(.int (1 : Int32))])) _
      refine XS.goto X22.here hx rfl (pc0 := 108) (pc' := 112) rfl (hb hby at_108) (by decide) (by decide) ?_
      show Steps p.tables e below (T22.setTop (mkF m 112 #[.val (.int p1), .val (.int (if p1 < (0 : Int32) then (1 : Int32) else (0 : Int32))), .val (.int (if (0 : Int32) < p1 then (0 : Int32) else (1 : Int32))), .val (.int (if p1 < (0 : Int32) then (0 : Int32) else (1 : Int32))), .val (.int (if (0 : Int32) < p1 then (1 : Int32) else (0 : Int32))), .val (.int (0 : Int32)), .val (.int (1 : Int32)), .val (.int (1 : Int32)), .val (.int (1 : Int32)), .unset, .unset] [(.int (1 : Int32))])) _
      refine XS.istore X22.here hx rfl (hb hby at_112) rfl (l' := #[.val (.int p1), .val (.int (if p1 < (0 : Int32) then (1 : Int32) else (0 : Int32))), .val (.int (if (0 : Int32) < p1 then (0 : Int32) else (1 : Int32))), .val (.int (if p1 < (0 : Int32) then (0 : Int32) else (1 : Int32))), .val (.int (if (0 : Int32) < p1 then (1 : Int32) else (0 : Int32))), .val (.int (0 : Int32)), .val (.int (1 : Int32)), .val (.int (1 : Int32)), .val (.int (1 : Int32)), .val (.int (1 : Int32)), .unset]) rfl ?_
      show Steps p.tables e below (T22.setTop (mkF m 114 #[.val (.int p1), .val (.int (if p1 < (0 : Int32) then (1 : Int32) else (0 : Int32))), .val (.int (if (0 : Int32) < p1 then (0 : Int32) else (1 : Int32))), .val (.int (if p1 < (0 : Int32) then (0 : Int32) else (1 : Int32))), .val (.int (if (0 : Int32) < p1 then (1 : Int32) else (0 : Int32))), .val (.int (0 : Int32)), .val (.int (1 : Int32)), .val (.int (1 : Int32)), .val (.int (1 : Int32)), .val (.int (1 : Int32)), .unset] [])) _
      refine XS.iloadN X22.here hx rfl (hb hby at_114) rfl ?_
      show Steps p.tables e below (T22.setTop (mkF m 115 #[.val (.int p1), .val (.int (if p1 < (0 : Int32) then (1 : Int32) else (0 : Int32))), .val (.int (if (0 : Int32) < p1 then (0 : Int32) else (1 : Int32))), .val (.int (if p1 < (0 : Int32) then (0 : Int32) else (1 : Int32))), .val (.int (if (0 : Int32) < p1 then (1 : Int32) else (0 : Int32))), .val (.int (0 : Int32)), .val (.int (1 : Int32)), .val (.int (1 : Int32)), .val (.int (1 : Int32)), .val (.int (1 : Int32)), .unset] [(.int (if p1 < (0 : Int32) then (0 : Int32) else (1 : Int32)))])) _
      refine XS.iload X22.here hx rfl (hb hby at_115) rfl ?_
      show Steps p.tables e below (T22.setTop (mkF m 117 #[.val (.int p1), .val (.int (if p1 < (0 : Int32) then (1 : Int32) else (0 : Int32))), .val (.int (if (0 : Int32) < p1 then (0 : Int32) else (1 : Int32))), .val (.int (if p1 < (0 : Int32) then (0 : Int32) else (1 : Int32))), .val (.int (if (0 : Int32) < p1 then (1 : Int32) else (0 : Int32))), .val (.int (0 : Int32)), .val (.int (1 : Int32)), .val (.int (1 : Int32)), .val (.int (1 : Int32)), .val (.int (1 : Int32)), .unset] [(.int (if (0 : Int32) < p1 then (1 : Int32) else (0 : Int32))), (.int (if p1 < (0 : Int32) then (0 : Int32) else (1 : Int32)))])) _
      refine XS.ifYes X22.here hx rfl (pc0 := 117) (pc' := 125) rfl (hb hby at_117) rfl (XT.i0_ne_t (by simp only [if_pos t2] <;> decide)) (by decide) (by decide) ?_
      show Steps p.tables e below (T22.setTop (mkF m 125 #[.val (.int p1), .val (.int (if p1 < (0 : Int32) then (1 : Int32) else (0 : Int32))), .val (.int (if (0 : Int32) < p1 then (0 : Int32) else (1 : Int32))), .val (.int (if p1 < (0 : Int32) then (0 : Int32) else (1 : Int32))), .val (.int (if (0 : Int32) < p1 then (1 : Int32) else (0 : Int32))), .val (.int (0 : Int32)), .val (.int (1 : Int32)), .val (.int (1 : Int32)), .val (.int (1 : Int32)), .val (.int (1 : Int32)), .unset] [(.int (if p1 < (0 : Int32) then (0 : Int32) else (1 : Int32)))])) _
      refine XS.iconst X22.here hx rfl (hb hby at_125) ?_
      show Steps p.tables e below (T22.setTop (mkF m 126 #[.val (.int p1), .val (.int (if p1 < (0 : Int32) then (1 : Int32) else (0 : Int32))), .val (.int (if (0 : Int32) < p1 then (0 : Int32) else (1 : Int32))), .val (.int (if p1 < (0 : Int32) then (0 : Int32) else (1 : Int32))), .val (.int (if (0 : Int32) < p1 then (1 : Int32) else (0 : Int32))), .val (.int (0 : Int32)), .val (.int (1 : Int32)), .val (.int (1 : Int32)), .val (.int (1 : Int32)), .val (.int (1 : Int32)), .unset] [(.int (1 : Int32)), (.int (if p1 < (0 : Int32) then (0 : Int32) else (1 : Int32)))])) _
      refine XS.goto X22.here hx rfl (pc0 := 126) (pc' := 130) rfl (hb hby at_126) (by decide) (by decide) ?_
      show Steps p.tables e below (T22.setTop (mkF m 130 #[.val (.int p1), .val (.int (if p1 < (0 : Int32) then (1 : Int32) else (0 : Int32))), .val (.int (if (0 : Int32) < p1 then (0 : Int32) else (1 : Int32))), .val (.int (if p1 < (0 : Int32) then (0 : Int32) else (1 : Int32))), .val (.int (if (0 : Int32) < p1 then (1 : Int32) else (0 : Int32))), .val (.int (0 : Int32)), .val (.int (1 : Int32)), .val (.int (1 : Int32)), .val (.int (1 : Int32)), .val (.int (1 : Int32)), .unset] [(.int (1 : Int32)), (.int (if p1 < (0 : Int32) then (0 : Int32) else (1 : Int32)))])) _
      refine XS.icmpNo X22.here hx rfl (hb hby at_130) rfl (XT.ii_ne_f (by simp only [if_neg t1] <;> decide)) ?_
      show Steps p.tables e below (T22.setTop (mkF m 133 #[.val (.int p1), .val (.int (if p1 < (0 : Int32) then (1 : Int32) else (0 : Int32))), .val (.int (if (0 : Int32) < p1 then (0 : Int32) else (1 : Int32))), .val (.int (if p1 < (0 : Int32) then (0 : Int32) else (1 : Int32))), .val (.int (if (0 : Int32) < p1 then (1 : Int32) else (0 : Int32))), .val (.int (0 : Int32)), .val (.int (1 : Int32)), .val (.int (1 : Int32)), .val (.int (1 : Int32)), .val (.int (1 : Int32)), .unset] [])) _
      refine XS.iconst X22.here hx rfl (hb hby at_133) ?_
      show Steps p.tables e below (T22.setTop (mkF m 134 #[.val (.int p1), .val (.int (if p1 < (0 : Int32) then (1 : Int32) else (0 : Int32))), .val (.int (if (0 : Int32) < p1 then (0 : Int32) else (1 : Int32))), .val (.int (if p1 < (0 : Int32) then (0 : Int32) else (1 : Int32))), .val (.int (if (0 : Int32) < p1 then (1 : Int32) else (0 : Int32))), .val (.int (0 : Int32)), .val (.int (1 : Int32)), .val (.int (1 : Int32)), .val (.int (1 : Int32)), .val (.int (1 : Int32)), .unset] [(.int (1 : Int32))])) _
      refine XS.goto X22.here hx rfl (pc0 := 134) (pc' := 138) rfl (hb hby at_134) (by decide) (by decide) ?_
      show Steps p.tables e below (T22.setTop (mkF m 138 #[.val (.int p1), .val (.int (if p1 < (0 : Int32) then (1 : Int32) else (0 : Int32))), .val (.int (if (0 : Int32) < p1 then (0 : Int32) else (1 : Int32))), .val (.int (if p1 < (0 : Int32) then (0 : Int32) else (1 : Int32))), .val (.int (if (0 : Int32) < p1 then (1 : Int32) else (0 : Int32))), .val (.int (0 : Int32)), .val (.int (1 : Int32)), .val (.int (1 : Int32)), .val (.int (1 : Int32)), .val (.int (1 : Int32)), .unset] [(.int (1 : Int32))])) _
      refine XS.istore X22.here hx rfl (hb hby at_138) rfl (l' := #[.val (.int p1), .val (.int (if p1 < (0 : Int32) then (1 : Int32) else (0 : Int32))), .val (.int (if (0 : Int32) < p1 then (0 : Int32) else (1 : Int32))), .val (.int (if p1 < (0 : Int32) then (0 : Int32) else (1 : Int32))), .val (.int (if (0 : Int32) < p1 then (1 : Int32) else (0 : Int32))), .val (.int (0 : Int32)), .val (.int (1 : Int32)), .val (.int (1 : Int32)), .val (.int (1 : Int32)), .val (.int (1 : Int32)), .val (.int (1 : Int32))]) rfl ?_
      show Steps p.tables e below (T22.setTop (mkF m 140 #[.val (.int p1), .val (.int (if p1 < (0 : Int32) then (1 : Int32) else (0 : Int32))), .val (.int (if (0 : Int32) < p1 then (0 : Int32) else (1 : Int32))), .val (.int (if p1 < (0 : Int32) then (0 : Int32) else (1 : Int32))), .val (.int (if (0 : Int32) < p1 then (1 : Int32) else (0 : Int32))), .val (.int (0 : Int32)), .val (.int (1 : Int32)), .val (.int (1 : Int32)), .val (.int (1 : Int32)), .val (.int (1 : Int32)), .val (.int (1 : Int32))] [])) _
      refine XS.iload X22.here hx rfl (hb hby at_140) rfl ?_
      show Steps p.tables e below (T22.setTop (mkF m 142 #[.val (.int p1), .val (.int (if p1 < (0 : Int32) then (1 : Int32) else (0 : Int32))), .val (.int (if (0 : Int32) < p1 then (0 : Int32) else (1 : Int32))), .val (.int (if p1 < (0 : Int32) then (0 : Int32) else (1 : Int32))), .val (.int (if (0 : Int32) < p1 then (1 : Int32) else (0 : Int32))), .val (.int (0 : Int32)), .val (.int (1 : Int32)), .val (.int (1 : Int32)), .val (.int (1 : Int32)), .val (.int (1 : Int32)), .val (.int (1 : Int32))] [(.int (1 : Int32))])) _
      refine XS.ifNo X22.here hx rfl (hb hby at_142) rfl (XT.i0_eq_f (by decide)) ?_
      show Steps p.tables e below (T22.setTop (mkF m 145 #[.val (.int p1), .val (.int (if p1 < (0 : Int32) then (1 : Int32) else (0 : Int32))), .val (.int (if (0 : Int32) < p1 then (0 : Int32) else (1 : Int32))), .val (.int (if p1 < (0 : Int32) then (0 : Int32) else (1 : Int32))), .val (.int (if (0 : Int32) < p1 then (1 : Int32) else (0 : Int32))), .val (.int (0 : Int32)), .val (.int (1 : Int32)), .val (.int (1 : Int32)), .val (.int (1 : Int32)), .val (.int (1 : Int32)), .val (.int (1 : Int32))] [])) _
      refine XS.iload X22.here hx rfl (hb hby at_145) rfl ?_
      show Steps p.tables e below (T22.setTop (mkF m 147 #[.val (.int p1), .val (.int (if p1 < (0 : Int32) then (1 : Int32) else (0 : Int32))), .val (.int (if (0 : Int32) < p1 then (0 : Int32) else (1 : Int32))), .val (.int (if p1 < (0 : Int32) then (0 : Int32) else (1 : Int32))), .val (.int (if (0 : Int32) < p1 then (1 : Int32) else (0 : Int32))), .val (.int (0 : Int32)), .val (.int (1 : Int32)), .val (.int (1 : Int32)), .val (.int (1 : Int32)), .val (.int (1 : Int32)), .val (.int (1 : Int32))] [(.int (1 : Int32))])) _
      refine XS.ifNo X22.here hx rfl (hb hby at_147) rfl (XT.i0_eq_f (by decide)) ?_
      show Steps p.tables e below (T22.setTop (mkF m 150 #[.val (.int p1), .val (.int (if p1 < (0 : Int32) then (1 : Int32) else (0 : Int32))), .val (.int (if (0 : Int32) < p1 then (0 : Int32) else (1 : Int32))), .val (.int (if p1 < (0 : Int32) then (0 : Int32) else (1 : Int32))), .val (.int (if (0 : Int32) < p1 then (1 : Int32) else (0 : Int32))), .val (.int (0 : Int32)), .val (.int (1 : Int32)), .val (.int (1 : Int32)), .val (.int (1 : Int32)), .val (.int (1 : Int32)), .val (.int (1 : Int32))] [])) _
      refine XS.iload X22.here hx rfl (hb hby at_150) rfl ?_
      show Steps p.tables e below (T22.setTop (mkF m 152 #[.val (.int p1), .val (.int (if p1 < (0 : Int32) then (1 : Int32) else (0 : Int32))), .val (.int (if (0 : Int32) < p1 then (0 : Int32) else (1 : Int32))), .val (.int (if p1 < (0 : Int32) then (0 : Int32) else (1 : Int32))), .val (.int (if (0 : Int32) < p1 then (1 : Int32) else (0 : Int32))), .val (.int (0 : Int32)), .val (.int (1 : Int32)), .val (.int (1 : Int32)), .val (.int (1 : Int32)), .val (.int (1 : Int32)), .val (.int (1 : Int32))] [(.int (1 : Int32))])) _
      refine XS.ifNo X22.here hx rfl (hb hby at_152) rfl (XT.i0_eq_f (by decide)) ?_
      show Steps p.tables e below (T22.setTop (mkF m 155 #[.val (.int p1), .val (.int (if p1 < (0 : Int32) then (1 : Int32) else (0 : Int32))), .val (.int (if (0 : Int32) < p1 then (0 : Int32) else (1 : Int32))), .val (.int (if p1 < (0 : Int32) then (0 : Int32) else (1 : Int32))), .val (.int (if (0 : Int32) < p1 then (1 : Int32) else (0 : Int32))), .val (.int (0 : Int32)), .val (.int (1 : Int32)), .val (.int (1 : Int32)), .val (.int (1 : Int32)), .val (.int (1 : Int32)), .val (.int (1 : Int32))] [])) _
      refine XS.iload X22.here hx rfl (hb hby at_155) rfl ?_
      show Steps p.tables e below (T22.setTop (mkF m 157 #[.val (.int p1), .val (.int (if p1 < (0 : Int32) then (1 : Int32) else (0 : Int32))), .val (.int (if (0 : Int32) < p1 then (0 : Int32) else (1 : Int32))), .val (.int (if p1 < (0 : Int32) then (0 : Int32) else (1 : Int32))), .val (.int (if (0 : Int32) < p1 then (1 : Int32) else (0 : Int32))), .val (.int (0 : Int32)), .val (.int (1 : Int32)), .val (.int (1 : Int32)), .val (.int (1 : Int32)), .val (.int (1 : Int32)), .val (.int (1 : Int32))] [(.int (1 : Int32))])) _
      refine XS.ifNo X22.here hx rfl (hb hby at_157) rfl (XT.i0_eq_f (by decide)) ?_
      show Steps p.tables e below (T22.setTop (mkF m 160 #[.val (.int p1), .val (.int (if p1 < (0 : Int32) then (1 : Int32) else (0 : Int32))), .val (.int (if (0 : Int32) < p1 then (0 : Int32) else (1 : Int32))), .val (.int (if p1 < (0 : Int32) then (0 : Int32) else (1 : Int32))), .val (.int (if (0 : Int32) < p1 then (1 : Int32) else (0 : Int32))), .val (.int (0 : Int32)), .val (.int (1 : Int32)), .val (.int (1 : Int32)), .val (.int (1 : Int32)), .val (.int (1 : Int32)), .val (.int (1 : Int32))] [])) _
      refine XS.iload X22.here hx rfl (hb hby at_160) rfl ?_
      show Steps p.tables e below (T22.setTop (mkF m 162 #[.val (.int p1), .val (.int (if p1 < (0 : Int32) then (1 : Int32) else (0 : Int32))), .val (.int (if (0 : Int32) < p1 then (0 : Int32) else (1 : Int32))), .val (.int (if p1 < (0 : Int32) then (0 : Int32) else (1 : Int32))), .val (.int (if (0 : Int32) < p1 then (1 : Int32) else (0 : Int32))), .val (.int (0 : Int32)), .val (.int (1 : Int32)), .val (.int (1 : Int32)), .val (.int (1 : Int32)), .val (.int (1 : Int32)), .val (.int (1 : Int32))] [(.int (1 : Int32))])) _
      refine XS.ifNo X22.here hx rfl (hb hby at_162) rfl (XT.i0_eq_f (by decide)) ?_
      show Steps p.tables e below (T22.setTop (mkF m 165 #[.val (.int p1), .val (.int (if p1 < (0 : Int32) then (1 : Int32) else (0 : Int32))), .val (.int (if (0 : Int32) < p1 then (0 : Int32) else (1 : Int32))), .val (.int (if p1 < (0 : Int32) then (0 : Int32) else (1 : Int32))), .val (.int (if (0 : Int32) < p1 then (1 : Int32) else (0 : Int32))), .val (.int (0 : Int32)), .val (.int (1 : Int32)), .val (.int (1 : Int32)), .val (.int (1 : Int32)), .val (.int (1 : Int32)), .val (.int (1 : Int32))] [])) _
      refine XS.iconst X22.here hx rfl (hb hby at_165) ?_
      show Steps p.tables e below (T22.setTop (mkF m 166 #[.val (.int p1), .val (.int (if p1 < (0 : Int32) then (1 : Int32) else (0 : Int32))), .val (.int (if (0 : Int32) < p1 then (0 : Int32) else (1 : Int32))), .val (.int (if p1 < (0 : Int32) then (0 : Int32) else (1 : Int32))), .val (.int (if (0 : Int32) < p1 then (1 : Int32) else (0 : Int32))), .val (.int (0 : Int32)), .val (.int (1 : Int32)), .val (.int (1 : Int32)), .val (.int (1 : Int32)), .val (.int (1 : Int32)), .val (.int (1 : Int32))] [(.int (1 : Int32))])) _
      refine XS.goto X22.here hx rfl (pc0 := 166) (pc' := 170) rfl (hb hby at_166) (by decide) (by decide) ?_
      show Steps p.tables e below (T22.setTop (mkF m 170 #[.val (.int p1), .val (.int (if p1 < (0 : Int32) then (1 : Int32) else (0 : Int32))), .val (.int (if (0 : Int32) < p1 then (0 : Int32) else (1 : Int32))), .val (.int (if p1 < (0 : Int32) then (0 : Int32) else (1 : Int32))), .val (.int (if (0 : Int32) < p1 then (1 : Int32) else (0 : Int32))), .val (.int (0 : Int32)), .val (.int (1 : Int32)), .val (.int (1 : Int32)), .val (.int (1 : Int32)), .val (.int (1 : Int32)), .val (.int (1 : Int32))] [(.int (1 : Int32))])) _
      exact k
    obtain ⟨fs, hr, hrun, hended, hW, hsame⟩ := X22.leave (v := some (.int (1 : Int32))) (fun h => by rw [Bd.returns] at h; cases h)
    refine ⟨_, _, pre_26 _ ?_, hrun, hended, _, _, rfl, ?_, ⟨_, rfl⟩, hW, hsame.mono (by decide) (by decide)⟩
    · show Steps p.tables e below (T22.setTop (mkF m 170 #[.val (.int p1), .val (.int (if p1 < (0 : Int32) then (1 : Int32) else (0 : Int32))), .val (.int (if (0 : Int32) < p1 then (0 : Int32) else (1 : Int32))), .val (.int (if p1 < (0 : Int32) then (0 : Int32) else (1 : Int32))), .val (.int (if (0 : Int32) < p1 then (1 : Int32) else (0 : Int32))), .val (.int (0 : Int32)), .val (.int (1 : Int32)), .val (.int (1 : Int32)), .val (.int (1 : Int32)), .val (.int (1 : Int32)), .val (.int (1 : Int32))] [(.int (1 : Int32))])) _
      exact retN X22 hx (t := .boolean) Bd.returns (by simp) (hb hby at_170) hr
    · show Q_law Z p1 aLESS aLESS_OR_EQUAL aGREATER_OR_EQUAL aGREATER h0 n0 _ T22.heap _
      rw [e22]
      exact ⟨rfl, N22⟩
  · skip
    have pre_27 : ∀ t, Steps p.tables e below (T22.setTop (mkF m 170 #[.val (.int p1), .val (.int (if p1 < (0 : Int32) then (1 : Int32) else (0 : Int32))), .val (.int (if (0 : Int32) < p1 then (0 : Int32) else (1 : Int32))), .val (.int (if p1 < (0 : Int32) then (0 : Int32) else (1 : Int32))), .val (.int (if (0 : Int32) < p1 then (1 : Int32) else (0 : Int32))), .val (.int (1 : Int32)), .val (.int (1 : Int32)), .val (.int (1 : Int32)), .val (.int (1 : Int32)), .val (.int (1 : Int32)), .val (.int (1 : Int32))] [(.int (1 : Int32))])) t → Steps p.tables e below (s₁.setTop (entryFrame m #[(.int p1)] maxLocals)) t := by
      intro t k
      refine pre_24 t ?_
      show Steps p.tables e below (T22.setTop (mkF m 33 #[.val (.int p1), .val (.int (if p1 < (0 : Int32) then (1 : Int32) else (0 : Int32))), .val (.int (if (0 : Int32) < p1 then (0 : Int32) else (1 : Int32))), .val (.int (if p1 < (0 : Int32) then (0 : Int32) else (1 : Int32))), .val (.int (if (0 : Int32) < p1 then (1 : Int32) else (0 : Int32))), .unset, .unset, .unset, .unset, .unset, .unset] [])) _
      refine XS.iloadN X22.here hx rfl (hb hby at_33) rfl ?_
      show Steps p.tables e below (T22.setTop (mkF m 34 #[.val (.int p1), .val (.int (if p1 < (0 : Int32) then (1 : Int32) else (0 : Int32))), .val (.int (if (0 : Int32) < p1 then (0 : Int32) else (1 : Int32))), .val (.int (if p1 < (0 : Int32) then (0 : Int32) else (1 : Int32))), .val (.int (if (0 : Int32) < p1 then (1 : Int32) else (0 : Int32))), .unset, .unset, .unset, .unset, .unset, .unset] [(.int p1)])) _
      refine XS.ifNo X22.here hx rfl (hb hby at_34) rfl (XT.i0_ne_f t3) ?_
      show Steps p.tables e below (T22.setTop (mkF m 37 #[.val (.int p1), .val (.int (if p1 < (0 : Int32) then (1 : Int32) else (0 : Int32))), .val (.int (if (0 : Int32) < p1 then (0 : Int32) else (1 : Int32))), .val (.int (if p1 < (0 : Int32) then (0 : Int32) else (1 : Int32))), .val (.int (if (0 : Int32) < p1 then (1 : Int32) else (0 : Int32))), .unset, .unset, .unset, .unset, .unset, .unset] [])) _
      refine XS.iconst X22.here hx rfl (hb hby at_37) ?_
      show Steps p.tables e below (T22.setTop (mkF m 38 #[.val (.int p1), .val (.int (if p1 < (0 : Int32) then (1 : Int32) else (0 : Int32))), .val (.int (if (0 : Int32) < p1 then (0 : Int32) else (1 : Int32))), .val (.int (if p1 < (0 : Int32) then (0 : Int32) else (1 : Int32))), .val (.int (if (0 : Int32) < p1 then (1 : Int32) else (0 : Int32))), .unset, .unset, .unset, .unset, .unset, .unset] [(.int (1 : Int32))])) _
      refine XS.goto X22.here hx rfl (pc0 := 38) (pc' := 42) rfl (hb hby at_38) (by decide) (by decide) ?_
      show Steps p.tables e below (T22.setTop (mkF m 42 #[.val (.int p1), .val (.int (if p1 < (0 : Int32) then (1 : Int32) else (0 : Int32))), .val (.int (if (0 : Int32) < p1 then (0 : Int32) else (1 : Int32))), .val (.int (if p1 < (0 : Int32) then (0 : Int32) else (1 : Int32))), .val (.int (if (0 : Int32) < p1 then (1 : Int32) else (0 : Int32))), .unset, .unset, .unset, .unset, .unset, .unset] [(.int (1 : Int32))])) _
      refine XS.istore X22.here hx rfl (hb hby at_42) rfl (l' := #[.val (.int p1), .val (.int (if p1 < (0 : Int32) then (1 : Int32) else (0 : Int32))), .val (.int (if (0 : Int32) < p1 then (0 : Int32) else (1 : Int32))), .val (.int (if p1 < (0 : Int32) then (0 : Int32) else (1 : Int32))), .val (.int (if (0 : Int32) < p1 then (1 : Int32) else (0 : Int32))), .val (.int (1 : Int32)), .unset, .unset, .unset, .unset, .unset]) rfl ?_
      show Steps p.tables e below (T22.setTop (mkF m 44 #[.val (.int p1), .val (.int (if p1 < (0 : Int32) then (1 : Int32) else (0 : Int32))), .val (.int (if (0 : Int32) < p1 then (0 : Int32) else (1 : Int32))), .val (.int (if p1 < (0 : Int32) then (0 : Int32) else (1 : Int32))), .val (.int (if (0 : Int32) < p1 then (1 : Int32) else (0 : Int32))), .val (.int (1 : Int32)), .unset, .unset, .unset, .unset, .unset] [])) _
      refine XS.iloadN X22.here hx rfl (hb hby at_44) rfl ?_
      show Steps p.tables e below (T22.setTop (mkF m 45 #[.val (.int p1), .val (.int (if p1 < (0 : Int32) then (1 : Int32) else (0 : Int32))), .val (.int (if (0 : Int32) < p1 then (0 : Int32) else (1 : Int32))), .val (.int (if p1 < (0 : Int32) then (0 : Int32) else (1 : Int32))), .val (.int (if (0 : Int32) < p1 then (1 : Int32) else (0 : Int32))), .val (.int (1 : Int32)), .unset, .unset, .unset, .unset, .unset] [(.int (if p1 < (0 : Int32) then (1 : Int32) else (0 : Int32)))])) _
      refine XS.iloadN X22.here hx rfl (hb hby at_45) rfl ?_
      show Steps p.tables e below (T22.setTop (mkF m 46 #[.val (.int p1), .val (.int (if p1 < (0 : Int32) then (1 : Int32) else (0 : Int32))), .val (.int (if (0 : Int32) < p1 then (0 : Int32) else (1 : Int32))), .val (.int (if p1 < (0 : Int32) then (0 : Int32) else (1 : Int32))), .val (.int (if (0 : Int32) < p1 then (1 : Int32) else (0 : Int32))), .val (.int (1 : Int32)), .unset, .unset, .unset, .unset, .unset] [(.int p1), (.int (if p1 < (0 : Int32) then (1 : Int32) else (0 : Int32)))])) _
      refine XS.ifYes X22.here hx rfl (pc0 := 46) (pc' := 53) rfl (hb hby at_46) rfl (XT.i0_ge_t t1) (by decide) (by decide) ?_
      show Steps p.tables e below (T22.setTop (mkF m 53 #[.val (.int p1), .val (.int (if p1 < (0 : Int32) then (1 : Int32) else (0 : Int32))), .val (.int (if (0 : Int32) < p1 then (0 : Int32) else (1 : Int32))), .val (.int (if p1 < (0 : Int32) then (0 : Int32) else (1 : Int32))), .val (.int (if (0 : Int32) < p1 then (1 : Int32) else (0 : Int32))), .val (.int (1 : Int32)), .unset, .unset, .unset, .unset, .unset] [(.int (if p1 < (0 : Int32) then (1 : Int32) else (0 : Int32)))])) _
      refine XS.iconst X22.here hx rfl (hb hby at_53) ?_
      show Steps p.tables e below (T22.setTop (mkF m 54 #[.val (.int p1), .val (.int (if p1 < (0 : Int32) then (1 : Int32) else (0 : Int32))), .val (.int (if (0 : Int32) < p1 then (0 : Int32) else (1 : Int32))), .val (.int (if p1 < (0 : Int32) then (0 : Int32) else (1 : Int32))), .val (.int (if (0 : Int32) < p1 then (1 : Int32) else (0 : Int32))), .val (.int (1 : Int32)), .unset, .unset, .unset, .unset, .unset] [(.int (0 : Int32)), (.int (if p1 < (0 : Int32) then (1 : Int32) else (0 : Int32)))])) _
      refine XS.icmpNo X22.here hx rfl (hb hby at_54) rfl (XT.ii_ne_f (by simp only [if_neg t1] <;> decide)) ?_
      show Steps p.tables e below (T22.setTop (mkF m 57 #[.val (.int p1), .val (.int (if p1 < (0 : Int32) then (1 : Int32) else (0 : Int32))), .val (.int (if (0 : Int32) < p1 then (0 : Int32) else (1 : Int32))), .val (.int (if p1 < (0 : Int32) then (0 : Int32) else (1 : Int32))), .val (.int (if (0 : Int32) < p1 then (1 : Int32) else (0 : Int32))), .val (.int (1 : Int32)), .unset, .unset, .unset, .unset, .unset] [])) _
      refine XS.iconst X22.here hx rfl (hb hby at_57) ?_
      show Steps p.tables e below (T22.setTop (mkF m 58 #[.val (.int p1), .val (.int (if p1 < (0 : Int32) then (1 : Int32) else (0 : Int32))), .val (.int (if (0 : Int32) < p1 then (0 : Int32) else (1 : Int32))), .val (.int (if p1 < (0 : Int32) then (0 : Int32) else (1 : Int32))), .val (.int (if (0 : Int32) < p1 then (1 : Int32) else (0 : Int32))), .val (.int (1 : Int32)), .unset, .unset, .unset, .unset, .unset] [(.int (1 : Int32))])) _
      refine XS.goto X22.here hx rfl (pc0 := 58) (pc' := 62) rfl (hb hby at_58) (by decide) (by decide) ?_
      show Steps p.tables e below (T22.setTop (mkF m 62 #[.val (.int p1), .val (.int (if p1 < (0 : Int32) then (1 : Int32) else (0 : Int32))), .val (.int (if (0 : Int32) < p1 then (0 : Int32) else (1 : Int32))), .val (.int (if p1 < (0 : Int32) then (0 : Int32) else (1 : Int32))), .val (.int (if (0 : Int32) < p1 then (1 : Int32) else (0 : Int32))), .val (.int (1 : Int32)), .unset, .unset, .unset, .unset, .unset] [(.int (1 : Int32))])) _
      refine XS.istore X22.here hx rfl (hb hby at_62) rfl (l' := #[.val (.int p1), .val (.int (if p1 < (0 : Int32) then (1 : Int32) else (0 : Int32))), .val (.int (if (0 : Int32) < p1 then (0 : Int32) else (1 : Int32))), .val (.int (if p1 < (0 : Int32) then (0 : Int32) else (1 : Int32))), .val (.int (if (0 : Int32) < p1 then (1 : Int32) else (0 : Int32))), .val (.int (1 : Int32)), .val (.int (1 : Int32)), .unset, .unset, .unset, .unset]) rfl ?_
      show Steps p.tables e below (T22.setTop (mkF m 64 #[.val (.int p1), .val (.int (if p1 < (0 : Int32) then (1 : Int32) else (0 : Int32))), .val (.int (if (0 : Int32) < p1 then (0 : Int32) else (1 : Int32))), .val (.int (if p1 < (0 : Int32) then (0 : Int32) else (1 : Int32))), .val (.int (if (0 : Int32) < p1 then (1 : Int32) else (0 : Int32))), .val (.int (1 : Int32)), .val (.int (1 : Int32)), .unset, .unset, .unset, .unset] [])) _
      refine XS.iloadN X22.here hx rfl (hb hby at_64) rfl ?_
      show Steps p.tables e below (T22.setTop (mkF m 65 #[.val (.int p1), .val (.int (if p1 < (0 : Int32) then (1 : Int32) else (0 : Int32))), .val (.int (if (0 : Int32) < p1 then (0 : Int32) else (1 : Int32))), .val (.int (if p1 < (0 : Int32) then (0 : Int32) else (1 : Int32))), .val (.int (if (0 : Int32) < p1 then (1 : Int32) else (0 : Int32))), .val (.int (1 : Int32)), .val (.int (1 : Int32)), .unset, .unset, .unset, .unset] [(.int (if p1 < (0 : Int32) then (1 : Int32) else (0 : Int32)))])) _
      refine XS.iloadN X22.here hx rfl (hb hby at_65) rfl ?_
      show Steps p.tables e below (T22.setTop (mkF m 66 #[.val (.int p1), .val (.int (if p1 < (0 : Int32) then (1 : Int32) else (0 : Int32))), .val (.int (if (0 : Int32) < p1 then (0 : Int32) else (1 : Int32))), .val (.int (if p1 < (0 : Int32) then (0 : Int32) else (1 : Int32))), .val (.int (if (0 : Int32) < p1 then (1 : Int32) else (0 : Int32))), .val (.int (1 : Int32)), .val (.int (1 : Int32)), .unset, .unset, .unset, .unset] [(.int (if p1 < (0 : Int32) then (0 : Int32) else (1 : Int32))), (.int (if p1 < (0 : Int32) then (1 : Int32) else (0 : Int32)))])) _
      refine XS.icmpNo X22.here hx rfl (hb hby at_66) rfl (XT.ii_eq_f (by simp only [if_neg t1] <;> decide)) ?_
      show Steps p.tables e below (T22.setTop (mkF m 69 #[.val (.int p1), .val (.int (if p1 < (0 : Int32) then (1 : Int32) else (0 : Int32))), .val (.int (if (0 : Int32) < p1 then (0 : Int32) else (1 : Int32))), .val (.int (if p1 < (0 : Int32) then (0 : Int32) else (1 : Int32))), .val (.int (if (0 : Int32) < p1 then (1 : Int32) else (0 : Int32))), .val (.int (1 : Int32)), .val (.int (1 : Int32)), .unset, .unset, .unset, .unset] [])) _
      refine XS.iconst X22.here hx rfl (hb hby at_69) ?_
      show Steps p.tables e below (T22.setTop (mkF m 70 #[.val (.int p1), .val (.int (if p1 < (0 : Int32) then (1 : Int32) else (0 : Int32))), .val (.int (if (0 : Int32) < p1 then (0 : Int32) else (1 : Int32))), .val (.int (if p1 < (0 : Int32) then (0 : Int32) else (1 : Int32))), .val (.int (if (0 : Int32) < p1 then (1 : Int32) else (0 : Int32))), .val (.int (1 : Int32)), .val (.int (1 : Int32)), .unset, .unset, .unset, .unset] [(.int (1 : Int32))])) _
      refine XS.goto X22.here hx rfl (pc0 := 70) (pc' := 74) rfl (hb hby at_70) (by decide) (by decide) ?_
      show Steps p.tables e below (T22.setTop (mkF m 74 #[.val (.int p1), .val (.int (if p1 < (0 : Int32) then (1 : Int32) else (0 : Int32))), .val (.int (if (0 : Int32) < p1 then (0 : Int32) else (1 : Int32))), .val (.int (if p1 < (0 : Int32) then (0 : Int32) else (1 : Int32))), .val (.int (if (0 : Int32) < p1 then (1 : Int32) else (0 : Int32))), .val (.int (1 : Int32)), .val (.int (1 : Int32)), .unset, .unset, .unset, .unset] [(.int (1 : Int32))])) _
      refine XS.istore X22.here hx rfl (hb hby at_74) rfl (l' := #[.val (.int p1), .val (.int (if p1 < (0 : Int32) then (1 : Int32) else (0 : Int32))), .val (.int (if (0 : Int32) < p1 then (0 : Int32) else (1 : Int32))), .val (.int (if p1 < (0 : Int32) then (0 : Int32) else (1 : Int32))), .val (.int (if (0 : Int32) < p1 then (1 : Int32) else (0 : Int32))), .val (.int (1 : Int32)), .val (.int (1 : Int32)), .val (.int (1 : Int32)), .unset, .unset, .unset]) rfl ?_
      show Steps p.tables e below (T22.setTop (mkF m 76 #[.val (.int p1), .val (.int (if p1 < (0 : Int32) then (1 : Int32) else (0 : Int32))), .val (.int (if (0 : Int32) < p1 then (0 : Int32) else (1 : Int32))), .val (.int (if p1 < (0 : Int32) then (0 : Int32) else (1 : Int32))), .val (.int (if (0 : Int32) < p1 then (1 : Int32) else (0 : Int32))), .val (.int (1 : Int32)), .val (.int (1 : Int32)), .val (.int (1 : Int32)), .unset, .unset, .unset] [])) _
      refine XS.iloadN X22.here hx rfl (hb hby at_76) rfl ?_
      show Steps p.tables e below (T22.setTop (mkF m 77 #[.val (.int p1), .val (.int (if p1 < (0 : Int32) then (1 : Int32) else (0 : Int32))), .val (.int (if (0 : Int32) < p1 then (0 : Int32) else (1 : Int32))), .val (.int (if p1 < (0 : Int32) then (0 : Int32) else (1 : Int32))), .val (.int (if (0 : Int32) < p1 then (1 : Int32) else (0 : Int32))), .val (.int (1 : Int32)), .val (.int (1 : Int32)), .val (.int (1 : Int32)), .unset, .unset, .unset] [(.int (if (0 : Int32) < p1 then (0 : Int32) else (1 : Int32)))])) _
      refine XS.iload X22.here hx rfl (hb hby at_77) rfl ?_
      show Steps p.tables e below (T22.setTop (mkF m 79 #[.val (.int p1), .val (.int (if p1 < (0 : Int32) then (1 : Int32) else (0 : Int32))), .val (.int (if (0 : Int32) < p1 then (0 : Int32) else (1 : Int32))), .val (.int (if p1 < (0 : Int32) then (0 : Int32) else (1 : Int32))), .val (.int (if (0 : Int32) < p1 then (1 : Int32) else (0 : Int32))), .val (.int (1 : Int32)), .val (.int (1 : Int32)), .val (.int (1 : Int32)), .unset, .unset, .unset] [(.int (if (0 : Int32) < p1 then (1 : Int32) else (0 : Int32))), (.int (if (0 : Int32) < p1 then (0 : Int32) else (1 : Int32)))])) _
      refine XS.icmpNo X22.here hx rfl (hb hby at_79) rfl (XT.ii_eq_f (by simp only [if_neg t2] <;> decide)) ?_
      show Steps p.tables e below (T22.setTop (mkF m 82 #[.val (.int p1), .val (.int (if p1 < (0 : Int32) then (1 : Int32) else (0 : Int32))), .val (.int (if (0 : Int32) < p1 then (0 : Int32) else (1 : Int32))), .val (.int (if p1 < (0 : Int32) then (0 : Int32) else (1 : Int32))), .val (.int (if (0 : Int32) < p1 then (1 : Int32) else (0 : Int32))), .val (.int (1 : Int32)), .val (.int (1 : Int32)), .val (.int (1 : Int32)), .unset, .unset, .unset] [])) _
      refine XS.iconst X22.here hx rfl (hb hby at_82) ?_
      show Steps p.tables e below (T22.setTop (mkF m 83 #[.val (.int p1), .val (.int (if p1 < (0 : Int32) then (1 : Int32) else (0 : Int32))), .val (.int (if (0 : Int32) < p1 then (0 : Int32) else (1 : Int32))), .val (.int (if p1 < (0 : Int32) then (0 : Int32) else (1 : Int32))), .val (.int (if (0 : Int32) < p1 then (1 : Int32) else (0 : Int32))), .val (.int (1 : Int32)), .val (.int (1 : Int32)), .val (.int (1 : Int32)), .unset, .unset, .unset] [(.int (1 : Int32))])) _
      refine XS.goto X22.here hx rfl (pc0 := 83) (pc' := 87) rfl (hb hby at_83) (by decide) (by decide) ?_
      show Steps p.tables e below (T22.setTop (mkF m 87 #[.val (.int p1), .val (.int (if p1 < (0 : Int32) then (1 : Int32) else (0 : Int32))), .val (.int (if (0 : Int32) < p1 then (0 : Int32) else (1 : Int32))), .val (.int (if p1 < (0 : Int32) then (0 : Int32) else (1 : Int32))), .val (.int (if (0 : Int32) < p1 then (1 : Int32) else (0 : Int32))), .val (.int (1 : Int32)), .val (.int (1 : Int32)), .val (.int (1 : Int32)), .unset, .unset, .unset] [(.int (1 : Int32))])) _
      refine XS.istore X22.here hx rfl (hb hby at_87) rfl (l' := #[.val (.int p1), .val (.int (if p1 < (0 : Int32) then (1 : Int32) else (0 : Int32))), .val (.int (if (0 : Int32) < p1 then (0 : Int32) else (1 : Int32))), .val (.int (if p1 < (0 : Int32) then (0 : Int32) else (1 : Int32))), .val (.int (if (0 : Int32) < p1 then (1 : Int32) else (0 : Int32))), .val (.int (1 : Int32)), .val (.int (1 : Int32)), .val (.int (1 : Int32)), .val (.int (1 : Int32)), .unset, .unset]) rfl ?_
      show Steps p.tables e below (T22.setTop (mkF m 89 #[.val (.int p1), .val (.int (if p1 < (0 : Int32) then (1 : Int32) else (0 : Int32))), .val (.int (if (0 : Int32) < p1 then (0 : Int32) else (1 : Int32))), .val (.int (if p1 < (0 : Int32) then (0 : Int32) else (1 : Int32))), .val (.int (if (0 : Int32) < p1 then (1 : Int32) else (0 : Int32))), .val (.int (1 : Int32)), .val (.int (1 : Int32)), .val (.int (1 : Int32)), .val (.int (1 : Int32)), .unset, .unset] [])) _
      refine XS.iloadN X22.here hx rfl (hb hby at_89) rfl ?_
      show Steps p.tables e below (T22.setTop (mkF m 90 #[.val (.int p1), .val (.int (if p1 < (0 : Int32) then (1 : Int32) else (0 : Int32))), .val (.int (if (0 : Int32) < p1 then (0 : Int32) else (1 : Int32))), .val (.int (if p1 < (0 : Int32) then (0 : Int32) else (1 : Int32))), .val (.int (if (0 : Int32) < p1 then (1 : Int32) else (0 : Int32))), .val (.int (1 : Int32)), .val (.int (1 : Int32)), .val (.int (1 : Int32)), .val (.int (1 : Int32)), .unset, .unset] [(.int (if (0 : Int32) < p1 then (0 : Int32) else (1 : Int32)))])) _
      refine XS.iloadN X22.here hx rfl (hb hby at_90) rfl ?_
      show Steps p.tables e below (T22.setTop (mkF m 91 #[.val (.int p1), .val (.int (if p1 < (0 : Int32) then (1 : Int32) else (0 : Int32))), .val (.int (if (0 : Int32) < p1 then (0 : Int32) else (1 : Int32))), .val (.int (if p1 < (0 : Int32) then (0 : Int32) else (1 : Int32))), .val (.int (if (0 : Int32) < p1 then (1 : Int32) else (0 : Int32))), .val (.int (1 : Int32)), .val (.int (1 : Int32)), .val (.int (1 : Int32)), .val (.int (1 : Int32)), .unset, .unset] [(.int (if p1 < (0 : Int32) then (1 : Int32) else (0 : Int32))), (.int (if (0 : Int32) < p1 then (0 : Int32) else (1 : Int32)))])) _
      refine XS.ifNo X22.here hx rfl (hb hby at_91) rfl (XT.i0_ne_f (by simp only [if_neg t1] <;> decide)) ?_
      show Steps p.tables e below (T22.setTop (mkF m 94 #[.val (.int p1), .val (.int (if p1 < (0 : Int32) then (1 : Int32) else (0 : Int32))), .val (.int (if (0 : Int32) < p1 then (0 : Int32) else (1 : Int32))), .val (.int (if p1 < (0 : Int32) then (0 : Int32) else (1 : Int32))), .val (.int (if (0 : Int32) < p1 then (1 : Int32) else (0 : Int32))), .val (.int (1 : Int32)), .val (.int (1 : Int32)), .val (.int (1 : Int32)), .val (.int (1 : Int32)), .unset, .unset] [(.int (if (0 : Int32) < p1 then (0 : Int32) else (1 : Int32)))])) _
      refine XS.iload X22.here hx rfl (hb hby at_94) rfl ?_
      show Steps p.tables e below (T22.setTop (mkF m 96 #[.val (.int p1), .val (.int (if p1 < (0 : Int32) then (1 : Int32) else (0 : Int32))), .val (.int (if (0 : Int32) < p1 then (0 : Int32) else (1 : Int32))), .val (.int (if p1 < (0 : Int32) then (0 : Int32) else (1 : Int32))), .val (.int (if (0 : Int32) < p1 then (1 : Int32) else (0 : Int32))), .val (.int (1 : Int32)), .val (.int (1 : Int32)), .val (.int (1 : Int32)), .val (.int (1 : Int32)), .unset, .unset] [(.int (1 : Int32)), (.int (if (0 : Int32) < p1 then (0 : Int32) else (1 : Int32)))])) _
      refine XS.ifNo X22.here hx rfl (hb hby at_96) rfl (XT.i0_eq_f (by decide)) ?_
      show Steps p.tables e below (T22.setTop (mkF m 99 #[.val (.int p1), .val (.int (if p1 < (0 : Int32) then (1 : Int32) else (0 : Int32))), .val (.int (if (0 : Int32) < p1 then (0 : Int32) else (1 : Int32))), .val (.int (if p1 < (0 : Int32) then (0 : Int32) else (1 : Int32))), .val (.int (if (0 : Int32) < p1 then (1 : Int32) else (0 : Int32))), .val (.int (1 : Int32)), .val (.int (1 : Int32)), .val (.int (1 : Int32)), .val (.int (1 : Int32)), .unset, .unset] [(.int (if (0 : Int32) < p1 then (0 : Int32) else (1 : Int32)))])) _
      refine XS.iconst X22.here hx rfl (hb hby at_99) ?_
      show Steps p.tables e below (T22.setTop (mkF m 100 #[.val (.int p1), .val (.int (if p1 < (0 : Int32) then (1 : Int32) else (0 : Int32))), .val (.int (if (0 : Int32) < p1 then (0 : Int32) else (1 : Int32))), .val (.int (if p1 < (0 : Int32) then (0 : Int32) else (1 : Int32))), .val (.int (if (0 : Int32) < p1 then (1 : Int32) else (0 : Int32))), .val (.int (1 : Int32)), .val (.int (1 : Int32)), .val (.int (1 : Int32)), .val (.int (1 : Int32)), .unset, .unset] [(.int (1 : Int32)), (.int (if (0 : Int32) < p1 then (0 : Int32) else (1 : Int32)))])) _
      refine XS.goto X22.here hx rfl (pc0 := 100) (pc' := 104) rfl (hb hby at_100) (by decide) (by decide) ?_
      show Steps p.tables e below (T22.setTop (mkF m 104 #[.val (.int p1), .val (.int (if p1 < (0 : Int32) then (1 : Int32) else (0 : Int32))), .val (.int (if (0 : Int32) < p1 then (0 : Int32) else (1 : Int32))), .val (.int (if p1 < (0 : Int32) then (0 : Int32) else (1 : Int32))), .val (.int (if (0 : Int32) < p1 then (1 : Int32) else (0 : Int32))), .val (.int (1 : Int32)), .val (.int (1 : Int32)), .val (.int (1 : Int32)), .val (.int (1 : Int32)), .unset, .unset] [(.int (1 : Int32)), (.int (if (0 : Int32) < p1 then (0 : Int32) else (1 : Int32)))])) _
      refine XS.icmpNo X22.here hx rfl (hb hby at_104) rfl (XT.ii_ne_f (by simp only [if_neg t2] <;> decide)) ?_
      show Steps p.tables e below (T22.setTop (mkF m 107 #[.val (.int p1), .val (.int (if p1 < (0 : Int32) then (1 : Int32) else (0 : Int32))), .val (.int (if (0 : Int32) < p1 then (0 : Int32) else (1 : Int32))), .val (.int (if p1 < (0 : Int32) then (0 : Int32) else (1 : Int32))), .val (.int (if (0 : Int32) < p1 then (1 : Int32) else (0 : Int32))), .val (.int (1 : Int32)), .val (.int (1 : Int32)), .val (.int (1 : Int32)), .val (.int (1 : Int32)), .unset, .unset] [])) _
      refine XS.iconst X22.here hx rfl (hb hby at_107) ?_
      show Steps p.tables e below (T22.setTop (mkF m 108 #[.val (.int p1), .val (.int (if p1 < (0 : Int32) then (1 : Int32) else (0 : Int32))), .val (.int (if (0 : Int32) < p1 then (0 : Int32) else (1 : Int32))), .val (.int (if p1 < (0 : Int32) then (0 : Int32) else (1 : Int32))), .val (.int (if (0 : Int32) < p1 then (1 : Int32) else (0 : Int32))), .val (.int (1 : Int32)), .val (.int (1 : Int32)), .val (.int (1 : Int32)), .val (.int (1 : Int32)), .unset, .unset] [(.int (1 : Int32))])) _
      refine XS.goto X22.here hx rfl (pc0 := 108) (pc' := 112) rfl (hb hby at_108) (by decide) (by decide) ?_
      show Steps p.tables e below (T22.setTop (mkF m 112 #[.val (.int p1), .val (.int (if p1 < (0 : Int32) then (1 : Int32) else (0 : Int32))), .val (.int (if (0 : Int32) < p1 then (0 : Int32) else (1 : Int32))), .val (.int (if p1 < (0 : Int32) then (0 : Int32) else (1 : Int32))), .val (.int (if (0 : Int32) < p1 then (1 : Int32) else (0 : Int32))), .val (.int (1 : Int32)), .val (.int (1 : Int32)), .val (.int (1 : Int32)), .val (.int (1 : Int32)), .unset, .unset] [(.int (1 : Int32))])) _
      refine XS.istore X22.here hx rfl (hb hby at_112) rfl (l' := #[.val (.int p1), .val (.int (if p1 < (0 : Int32) then (1 : Int32) else (0 : Int32))), .val (.int (if (0 : Int32) < p1 then (0 : Int32) else (1 : Int32))), .val (.int (if p1 < (0 : Int32) then (0 : Int32) else (1 : Int32))), .val (.int (if (0 : Int32) < p1 then (1 : Int32) else (0 : Int32))), .val (.int (1 : Int32)), .val (.int (1 : Int32)), .val (.int (1 : Int32)), .val (.int (1 : Int32)), .val (.int (1 : Int32)), .unset]) rfl ?_
      show Steps p.tables e below (T22.setTop (mkF m 114 #[.val (.int p1), .val (.int (if p1 < (0 : Int32) then (1 : Int32) else (0 : Int32))), .val (.int (if (0 : Int32) < p1 then (0 : Int32) else (1 : Int32))), .val (.int (if p1 < (0 : Int32) then (0 : Int32) else (1 : Int32))), .val (.int (if (0 : Int32) < p1 then (1 : Int32) else (0 : Int32))), .val (.int (1 : Int32)), .val (.int (1 : Int32)), .val (.int (1 : Int32)), .val (.int (1 : Int32)), .val (.int (1 : Int32)), .unset] [])) _
      refine XS.iloadN X22.here hx rfl (hb hby at_114) rfl ?_
      show Steps p.tables e below (T22.setTop (mkF m 115 #[.val (.int p1), .val (.int (if p1 < (0 : Int32) then (1 : Int32) else (0 : Int32))), .val (.int (if (0 : Int32) < p1 then (0 : Int32) else (1 : Int32))), .val (.int (if p1 < (0 : Int32) then (0 : Int32) else (1 : Int32))), .val (.int (if (0 : Int32) < p1 then (1 : Int32) else (0 : Int32))), .val (.int (1 : Int32)), .val (.int (1 : Int32)), .val (.int (1 : Int32)), .val (.int (1 : Int32)), .val (.int (1 : Int32)), .unset] [(.int (if p1 < (0 : Int32) then (0 : Int32) else (1 : Int32)))])) _
      refine XS.iload X22.here hx rfl (hb hby at_115) rfl ?_
      show Steps p.tables e below (T22.setTop (mkF m 117 #[.val (.int p1), .val (.int (if p1 < (0 : Int32) then (1 : Int32) else (0 : Int32))), .val (.int (if (0 : Int32) < p1 then (0 : Int32) else (1 : Int32))), .val (.int (if p1 < (0 : Int32) then (0 : Int32) else (1 : Int32))), .val (.int (if (0 : Int32) < p1 then (1 : Int32) else (0 : Int32))), .val (.int (1 : Int32)), .val (.int (1 : Int32)), .val (.int (1 : Int32)), .val (.int (1 : Int32)), .val (.int (1 : Int32)), .unset] [(.int (if (0 : Int32) < p1 then (1 : Int32) else (0 : Int32))), (.int (if p1 < (0 : Int32) then (0 : Int32) else (1 : Int32)))])) _
      refine XS.ifNo X22.here hx rfl (hb hby at_117) rfl (XT.i0_ne_f (by simp only [if_neg t2] <;> decide)) ?_
      show Steps p.tables e below (T22.setTop (mkF m 120 #[.val (.int p1), .val (.int (if p1 < (0 : Int32) then (1 : Int32) else (0 : Int32))), .val (.int (if (0 : Int32) < p1 then (0 : Int32) else (1 : Int32))), .val (.int (if p1 < (0 : Int32) then (0 : Int32) else (1 : Int32))), .val (.int (if (0 : Int32) < p1 then (1 : Int32) else (0 : Int32))), .val (.int (1 : Int32)), .val (.int (1 : Int32)), .val (.int (1 : Int32)), .val (.int (1 : Int32)), .val (.int (1 : Int32)), .unset] [(.int (if p1 < (0 : Int32) then (0 : Int32) else (1 : Int32)))])) _
      refine XS.iload X22.here hx rfl (hb hby at_120) rfl ?_
      show Steps p.tables e below (T22.setTop (mkF m 122 #[.val (.int p1), .val (.int (if p1 < (0 : Int32) then (1 : Int32) else (0 : Int32))), .val (.int (if (0 : Int32) < p1 then (0 : Int32) else (1 : Int32))), .val (.int (if p1 < (0 : Int32) then (0 : Int32) else (1 : Int32))), .val (.int (if (0 : Int32) < p1 then (1 : Int32) else (0 : Int32))), .val (.int (1 : Int32)), .val (.int (1 : Int32)), .val (.int (1 : Int32)), .val (.int (1 : Int32)), .val (.int (1 : Int32)), .unset] [(.int (1 : Int32)), (.int (if p1 < (0 : Int32) then (0 : Int32) else (1 : Int32)))])) _
      refine XS.ifNo X22.here hx rfl (hb hby at_122) rfl (XT.i0_eq_f (by decide)) ?_
      show Steps p.tables e below (T22.setTop (mkF m 125 #[.val (.int p1), .val (.int (if p1 < (0 : Int32) then (1 : Int32) else (0 : Int32))), .val (.int (if (0 : Int32) < p1 then (0 : Int32) else (1 : Int32))), .val (.int (if p1 < (0 : Int32) then (0 : Int32) else (1 : Int32))), .val (.int (if (0 : Int32) < p1 then (1 : Int32) else (0 : Int32))), .val (.int (1 : Int32)), .val (.int (1 : Int32)), .val (.int (1 : Int32)), .val (.int (1 : Int32)), .val (.int (1 : Int32)), .unset] [(.int (if p1 < (0 : Int32) then (0 : Int32) else (1 : Int32)))])) _
      refine XS.iconst X22.here hx rfl (hb hby at_125) ?_
      show Steps p.tables e below (T22.setTop (mkF m 126 #[.val (.int p1), .val (.int (if p1 < (0 : Int32) then (1 : Int32) else (0 : Int32))), .val (.int (if (0 : Int32) < p1 then (0 : Int32) else (1 : Int32))), .val (.int (if p1 < (0 : Int32) then (0 : Int32) else (1 : Int32))), .val (.int (if (0 : Int32) < p1 then (1 : Int32) else (0 : Int32))), .val (.int (1 : Int32)), .val (.int (1 : Int32)), .val (.int (1 : Int32)), .val (.int (1 : Int32)), .val (.int (1 : Int32)), .unset] [(.int (1 : Int32)), (.int (if p1 < (0 : Int32) then (0 : Int32) else (1 : Int32)))])) _
      refine XS.goto X22.here hx rfl (pc0 := 126) (pc' := 130) rfl (hb hby at_126) (by decide) (by decide) ?_
      show Steps p.tables e below (T22.setTop (mkF m 130 #[.val (.int p1), .val (.int (if p1 < (0 : Int32) then (1 : Int32) else (0 : Int32))), .val (.int (if (0 : Int32) < p1 then (0 : Int32) else (1 : Int32))), .val (.int (if p1 < (0 : Int32) then (0 : Int32) else (1 : Int32))), .val (.int (if (0 : Int32) < p1 then (1 : Int32) else (0 : Int32))), .val (.int (1 : Int32)), .val (.int (1 : Int32)), .val (.int (1 : Int32)), .val (.int (1 : Int32)), .val (.int (1 : Int32)), .unset] [(.int (1 : Int32)), (.int (if p1 < (0 : Int32) then (0 : Int32) else (1 : Int32)))])) _
      refine XS.icmpNo X22.here hx rfl (hb hby at_130) rfl (XT.ii_ne_f (by simp only [if_neg t1] <;> decide)) ?_
      show Steps p.tables e below (T22.setTop (mkF m 133 #[.val (.int p1), .val (.int (if p1 < (0 : Int32) then (1 : Int32) else (0 : Int32))), .val (.int (if (0 : Int32) < p1 then (0 : Int32) else (1 : Int32))), .val (.int (if p1 < (0 : Int32) then (0 : Int32) else (1 : Int32))), .val (.int (if (0 : Int32) < p1 then (1 : Int32) else (0 : Int32))), .val (.int (1 : Int32)), .val (.int (1 : Int32)), .val (.int (1 : Int32)), .val (.int (1 : Int32)), .val (.int (1 : Int32)), .unset] [])) _
      refine XS.iconst X22.here hx rfl (hb hby at_133) ?_
      show Steps p.tables e below (T22.setTop (mkF m 134 #[.val (.int p1), .val (.int (if p1 < (0 : Int32) then (1 : Int32) else (0 : Int32))), .val (.int (if (0 : Int32) < p1 then (0 : Int32) else (1 : Int32))), .val (.int (if p1 < (0 : Int32) then (0 : Int32) else (1 : Int32))), .val (.int (if (0 : Int32) < p1 then (1 : Int32) else (0 : Int32))), .val (.int (1 : Int32)), .val (.int (1 : Int32)), .val (.int (1 : Int32)), .val (.int (1 : Int32)), .val (.int (1 : Int32)), .unset] [(.int (1 : Int32))])) _
      refine XS.goto X22.here hx rfl (pc0 := 134) (pc' := 138) rfl (hb hby at_134) (by decide) (by decide) ?_
      show Steps p.tables e below (T22.setTop (mkF m 138 #[.val (.int p1), .val (.int (if p1 < (0 : Int32) then (1 : Int32) else (0 : Int32))), .val (.int (if (0 : Int32) < p1 then (0 : Int32) else (1 : Int32))), .val (.int (if p1 < (0 : Int32) then (0 : Int32) else (1 : Int32))), .val (.int (if (0 : Int32) < p1 then (1 : Int32) else (0 : Int32))), .val (.int (1 : Int32)), .val (.int (1 : Int32)), .val (.int (1 : Int32)), .val (.int (1 : Int32)), .val (.int (1 : Int32)), .unset] [(.int (1 : Int32))])) _
      refine XS.istore X22.here hx rfl (hb hby at_138) rfl (l' := #[.val (.int p1), .val (.int (if p1 < (0 : Int32) then (1 : Int32) else (0 : Int32))), .val (.int (if (0 : Int32) < p1 then (0 : Int32) else (1 : Int32))), .val (.int (if p1 < (0 : Int32) then (0 : Int32) else (1 : Int32))), .val (.int (if (0 : Int32) < p1 then (1 : Int32) else (0 : Int32))), .val (.int (1 : Int32)), .val (.int (1 : Int32)), .val (.int (1 : Int32)), .val (.int (1 : Int32)), .val (.int (1 : Int32)), .val (.int (1 : Int32))]) rfl ?_
      show Steps p.tables e below (T22.setTop (mkF m 140 #[.val (.int p1), .val (.int (if p1 < (0 : Int32) then (1 : Int32) else (0 : Int32))), .val (.int (if (0 : Int32) < p1 then (0 : Int32) else (1 : Int32))), .val (.int (if p1 < (0 : Int32) then (0 : Int32) else (1 : Int32))), .val (.int (if (0 : Int32) < p1 then (1 : Int32) else (0 : Int32))), .val (.int (1 : Int32)), .val (.int (1 : Int32)), .val (.int (1 : Int32)), .val (.int (1 : Int32)), .val (.int (1 : Int32)), .val (.int (1 : Int32))] [])) _
      refine XS.iload X22.here hx rfl (hb hby at_140) rfl ?_
      show Steps p.tables e below (T22.setTop (mkF m 142 #[.val (.int p1), .val (.int (if p1 < (0 : Int32) then (1 : Int32) else (0 : Int32))), .val (.int (if (0 : Int32) < p1 then (0 : Int32) else (1 : Int32))), .val (.int (if p1 < (0 : Int32) then (0 : Int32) else (1 : Int32))), .val (.int (if (0 : Int32) < p1 then (1 : Int32) else (0 : Int32))), .val (.int (1 : Int32)), .val (.int (1 : Int32)), .val (.int (1 : Int32)), .val (.int (1 : Int32)), .val (.int (1 : Int32)), .val (.int (1 : Int32))] [(.int (1 : Int32))])) _
      refine XS.ifNo X22.here hx rfl (hb hby at_142) rfl (XT.i0_eq_f (by decide)) ?_
      show Steps p.tables e below (T22.setTop (mkF m 145 #[.val (.int p1), .val (.int (if p1 < (0 : Int32) then (1 : Int32) else (0 : Int32))), .val (.int (if (0 : Int32) < p1 then (0 : Int32) else (1 : Int32))), .val (.int (if p1 < (0 : Int32) then (0 : Int32) else (1 : Int32))), .val (.int (if (0 : Int32) < p1 then (1 : Int32) else (0 : Int32))), .val (.int (1 : Int32)), .val (.int (1 : Int32)), .val (.int (1 : Int32)), .val (.int (1 : Int32)), .val (.int (1 : Int32)), .val (.int (1 : Int32))] [])) _
      refine XS.iload X22.here hx rfl (hb hby at_145) rfl ?_
      show Steps p.tables e below (T22.setTop (mkF m 147 #[.val (.int p1), .val (.int (if p1 < (0 : Int32) then (1 : Int32) else (0 : Int32))), .val (.int (if (0 : Int32) < p1 then (0 : Int32) else (1 : Int32))), .val (.int (if p1 < (0 : Int32) then (0 : Int32) else (1 : Int32))), .val (.int (if (0 : Int32) < p1 then (1 : Int32) else (0 : Int32))), .val (.int (1 : Int32)), .val (.int (1 : Int32)), .val (.int (1 : Int32)), .val (.int (1 : Int32)), .val (.int (1 : Int32)), .val (.int (1 : Int32))] [(.int (1 : Int32))])) _
      refine XS.ifNo X22.here hx rfl (hb hby at_147) rfl (XT.i0_eq_f (by decide)) ?_
      show Steps p.tables e below (T22.setTop (mkF m 150 #[.val (.int p1), .val (.int (if p1 < (0 : Int32) then (1 : Int32) else (0 : Int32))), .val (.int (if (0 : Int32) < p1 then (0 : Int32) else (1 : Int32))), .val (.int (if p1 < (0 : Int32) then (0 : Int32) else (1 : Int32))), .val (.int (if (0 : Int32) < p1 then (1 : Int32) else (0 : Int32))), .val (.int (1 : Int32)), .val (.int (1 : Int32)), .val (.int (1 : Int32)), .val (.int (1 : Int32)), .val (.int (1 : Int32)), .val (.int (1 : Int32))] [])) _
      refine XS.iload X22.here hx rfl (hb hby at_150) rfl ?_
      show Steps p.tables e below (T22.setTop (mkF m 152 #[.val (.int p1), .val (.int (if p1 < (0 : Int32) then (1 : Int32) else (0 : Int32))), .val (.int (if (0 : Int32) < p1 then (0 : Int32) else (1 : Int32))), .val (.int (if p1 < (0 : Int32) then (0 : Int32) else (1 : Int32))), .val (.int (if (0 : Int32) < p1 then (1 : Int32) else (0 : Int32))), .val (.int (1 : Int32)), .val (.int (1 : Int32)), .val (.int (1 : Int32)), .val (.int (1 : Int32)), .val (.int (1 : Int32)), .val (.int (1 : Int32))] [(.int (1 : Int32))])) _
      refine XS.ifNo X22.here hx rfl (hb hby at_152) rfl (XT.i0_eq_f (by decide)) ?_
      show Steps p.tables e below (T22.setTop (mkF m 155 #[.val (.int p1), .val (.int (if p1 < (0 : Int32) then (1 : Int32) else (0 : Int32))), .val (.int (if (0 : Int32) < p1 then (0 : Int32) else (1 : Int32))), .val (.int (if p1 < (0 : Int32) then (0 : Int32) else (1 : Int32))), .val (.int (if (0 : Int32) < p1 then (1 : Int32) else (0 : Int32))), .val (.int (1 : Int32)), .val (.int (1 : Int32)), .val (.int (1 : Int32)), .val (.int (1 : Int32)), .val (.int (1 : Int32)), .val (.int (1 : Int32))] [])) _
      refine XS.iload X22.here hx rfl (hb hby at_155) rfl ?_
      show Steps p.tables e below (T22.setTop (mkF m 157 #[.val (.int p1), .val (.int (if p1 < (0 : Int32) then (1 : Int32) else (0 : Int32))), .val (.int (if (0 : Int32) < p1 then (0 : Int32) else (1 : Int32))), .val (.int (if p1 < (0 : Int32) then (0 : Int32) else (1 : Int32))), .val (.int (if (0 : Int32) < p1 then (1 : Int32) else (0 : Int32))), .val (.int (1 : Int32)), .val (.int (1 : Int32)), .val (.int (1 : Int32)), .val (.int (1 : Int32)), .val (.int (1 : Int32)), .val (.int (1 : Int32))] [(.int (1 : Int32))])) _
      refine XS.ifNo X22.here hx rfl (hb hby at_157) rfl (XT.i0_eq_f (by decide)) ?_
      show Steps p.tables e below (T22.setTop (mkF m 160 #[.val (.int p1), .val (.int (if p1 < (0 : Int32) then (1 : Int32) else (0 : Int32))), .val (.int (if (0 : Int32) < p1 then (0 : Int32) else (1 : Int32))), .val (.int (if p1 < (0 : Int32) then (0 : Int32) else (1 : Int32))), .val (.int (if (0 : Int32) < p1 then (1 : Int32) else (0 : Int32))), .val (.int (1 : Int32)), .val (.int (1 : Int32)), .val (.int (1 : Int32)), .val (.int (1 : Int32)), .val (.int (1 : Int32)), .val (.int (1 : Int32))] [])) _
      refine XS.iload X22.here hx rfl (hb hby at_160) rfl ?_
      show Steps p.tables e below (T22.setTop (mkF m 162 #[.val (.int p1), .val (.int (if p1 < (0 : Int32) then (1 : Int32) else (0 : Int32))), .val (.int (if (0 : Int32) < p1 then (0 : Int32) else (1 : Int32))), .val (.int (if p1 < (0 : Int32) then (0 : Int32) else (1 : Int32))), .val (.int (if (0 : Int32) < p1 then (1 : Int32) else (0 : Int32))), .val (.int (1 : Int32)), .val (.int (1 : Int32)), .val (.int (1 : Int32)), .val (.int (1 : Int32)), .val (.int (1 : Int32)), .val (.int (1 : Int32))] [(.int (1 : Int32))])) _
      refine XS.ifNo X22.here hx rfl (hb hby at_162) rfl (XT.i0_eq_f (by decide)) ?_
      show Steps p.tables e below (T22.setTop (mkF m 165 #[.val (.int p1), .val (.int (if p1 < (0 : Int32) then (1 : Int32) else (0 : Int32))), .val (.int (if (0 : Int32) < p1 then (0 : Int32) else (1 : Int32))), .val (.int (if p1 < (0 : Int32) then (0 : Int32) else (1 : Int32))), .val (.int (if (0 : Int32) < p1 then (1 : Int32) else (0 : Int32))), .val (.int (1 : Int32)), .val (.int (1 : Int32)), .val (.int (1 : Int32)), .val (.int (1 : Int32)), .val (.int (1 : Int32)), .val (.int (1 : Int32))] [])) _
      refine XS.iconst X22.here hx rfl (hb hby at_165) ?_
      show Steps p.tables e below (T22.setTop (mkF m 166 #[.val (.int p1), .val (.int (if p1 < (0 : Int32) then (1 : Int32) else (0 : Int32))), .val (.int (if (0 : Int32) < p1 then (0 : Int32) else (1 : Int32))), .val (.int (if p1 < (0 : Int32) then (0 : Int32) else (1 : Int32))), .val (.int (if (0 : Int32) < p1 then (1 : Int32) else (0 : Int32))), .val (.int (1 : Int32)), .val (.int (1 : Int32)), .val (.int (1 : Int32)), .val (.int (1 : Int32)), .val (.int (1 : Int32)), .val (.int (1 : Int32))] [(.int (1 : Int32))])) _
      refine XS.goto X22.here hx rfl (pc0 := 166) (pc' := 170) rfl (hb hby at_166) (by decide) (by decide) ?_
      show Steps p.tables e below (T22.setTop (mkF m 170 #[.val (.int p1), .val (.int (if p1 < (0 : Int32) then (1 : Int32) else (0 : Int32))), .val (.int (if (0 : Int32) < p1 then (0 : Int32) else (1 : Int32))), .val (.int (if p1 < (0 : Int32) then (0 : Int32) else (1 : Int32))), .val (.int (if (0 : Int32) < p1 then (1 : Int32) else (0 : Int32))), .val (.int (1 : Int32)), .val (.int (1 : Int32)), .val (.int (1 : Int32)), .val (.int (1 : Int32)), .val (.int (1 : Int32)), .val (.int (1 : Int32))] [(.int (1 : Int32))])) _
      exact k
    obtain ⟨fs, hr, hrun, hended, hW, hsame⟩ := X22.leave (v := some (.int (1 : Int32))) (fun h => by rw [Bd.returns] at h; cases h)
    refine ⟨_, _, pre_27 _ ?_, hrun, hended, _, _, rfl, ?_, ⟨_, rfl⟩, hW, hsame.mono (by decide) (by decide)⟩
    · show Steps p.tables e below (T22.setTop (mkF m 170 #[.val (.int p1), .val (.int (if p1 < (0 : Int32) then (1 : Int32) else (0 : Int32))), .val (.int (if (0 : Int32) < p1 then (0 : Int32) else (1 : Int32))), .val (.int (if p1 < (0 : Int32) then (0 : Int32) else (1 : Int32))), .val (.int (if (0 : Int32) < p1 then (1 : Int32) else (0 : Int32))), .val (.int (1 : Int32)), .val (.int (1 : Int32)), .val (.int (1 : Int32)), .val (.int (1 : Int32)), .val (.int (1 : Int32)), .val (.int (1 : Int32))] [(.int (1 : Int32))])) _
      exact retN X22 hx (t := .boolean) Bd.returns (by simp) (hb hby at_170) hr
    · show Q_law Z p1 aLESS aLESS_OR_EQUAL aGREATER_OR_EQUAL aGREATER h0 n0 _ T22.heap _
      rw [e22]
      exact ⟨rfl, N22⟩
set_option maxRecDepth 65536 in
set_option maxHeartbeats 40000000 in
theorem comes_1 {Post : Tables → Env → Array Value → State → Outcome → State → Prop} (hpost : ∀ tb e args s v u, (limb_1_1.after args s (.returned v) u = true ∧ limb_1_2.after args s (.returned v) u = true ∧ True) → FrameEnd s (.returned v) u (Jvm.fieldLocs frame_1_writes args s ++ Jvm.arrayLocs frame_1_arrays args s ++ Jvm.staticLocs frame_1_statics s) 0 0 → Post tb e args s (.returned v) u) :
    ArmFor flags0 classFile x code maxLocals ret World_1 tables_1 room_1 Calls_1 rest_1 Pre_1 Post := by
  intro l hfl _ _ p e ha hc hk s m args below hf hA hF happ hP
  obtain ⟨hcalls, hrest, hpre⟩ := hP
  obtain ⟨-, -, -, hnamed, -, -, -, hat⟩ := (Spec.applies_iff hf).mp happ
  obtain ⟨hg, hn⟩ := and_e (Cond.before_iff.mp (show (Jvm.Cond.and given_1 narrow_1).before args s = true from hpre))
  obtain ⟨hg0, hgs⟩ := and_e hg
  obtain ⟨w0, rfl⟩ : ∃ w0 : Value, args = #[w0] := by
    have hs : args.size = 1 := by simpa [Cond.value, given_1] using hg0
    obtain ⟨L⟩ := args
    match L, hs with
    | [w0], _ => exact ⟨w0, rfl⟩
  have hw := fun d (hd : d ∈ tables_1) => atoms_spec (ws := Jvm.Cond.code x code maxLocals ret :: tables_1) hat d (List.mem_cons_of_mem _ hd)
  have hfit : Fit s := fun {y c} hc i hi => by
    obtain ⟨ha, rfl⟩ := Array.getElem?_eq_some_iff.mp hc
    have q := List.all_eq_true.mp ((Array.all_eq_true_iff_forall_mem.mp hF) _ (Array.getElem_mem ha)) i (List.mem_range.mpr hi)
    simpa [Array.getElem?_eq_getElem hi] using q
  obtain ⟨i0, ei0⟩ := is_v hgs
  obtain rfl : w0 = (.int i0) := Option.some.inj ei0
  obtain ⟨hn0, hr0⟩ := and_e hn
  obtain ⟨hn1, hr1⟩ := and_e hr0
  obtain ⟨hn2, hr2⟩ := and_e hr1
  obtain ⟨hn3, hr3⟩ := and_e hr2
  obtain ⟨hn4, hr4⟩ := and_e hr3
  obtain ⟨hn5, hr5⟩ := and_e hr4
  obtain ⟨hn6, hr6⟩ := and_e hr5
  have hn7 := hr6
  obtain ⟨aLESS, evaLESS⟩ := exa_v hn0
  have S_aLESS := Sta.start evaLESS (Or.inr ⟨(hw _ (List.mem_of_getElem? (i := 1) rfl)), (hw _ (List.mem_of_getElem? (i := 2) rfl))⟩)
  have E_aLESS := Exa.start evaLESS hn0
  have F_aLESS_ordinal := Fld.start ((fld_at evaLESS).symm.trans (own_eqc hn1))
  obtain ⟨aLESS_OR_EQUAL, evaLESS_OR_EQUAL⟩ := exa_v hn2
  have S_aLESS_OR_EQUAL := Sta.start evaLESS_OR_EQUAL (Or.inr ⟨(hw _ (List.mem_of_getElem? (i := 1) rfl)), (hw _ (List.mem_of_getElem? (i := 18) rfl))⟩)
  have E_aLESS_OR_EQUAL := Exa.start evaLESS_OR_EQUAL hn2
  have F_aLESS_OR_EQUAL_ordinal := Fld.start ((fld_at evaLESS_OR_EQUAL).symm.trans (own_eqc hn3))
  obtain ⟨aGREATER_OR_EQUAL, evaGREATER_OR_EQUAL⟩ := exa_v hn4
  have S_aGREATER_OR_EQUAL := Sta.start evaGREATER_OR_EQUAL (Or.inr ⟨(hw _ (List.mem_of_getElem? (i := 1) rfl)), (hw _ (List.mem_of_getElem? (i := 20) rfl))⟩)
  have E_aGREATER_OR_EQUAL := Exa.start evaGREATER_OR_EQUAL hn4
  have F_aGREATER_OR_EQUAL_ordinal := Fld.start ((fld_at evaGREATER_OR_EQUAL).symm.trans (own_eqc hn5))
  obtain ⟨aGREATER, evaGREATER⟩ := exa_v hn6
  have S_aGREATER := Sta.start evaGREATER (Or.inr ⟨(hw _ (List.mem_of_getElem? (i := 1) rfl)), (hw _ (List.mem_of_getElem? (i := 22) rfl))⟩)
  have E_aGREATER := Exa.start evaGREATER hn6
  have F_aGREATER_ordinal := Fld.start ((fld_at evaGREATER).symm.trans (own_eqc hn7))
  obtain ⟨n, o, h1, h2, h3, _, L, rfl, ⟨rfl, N⟩, hq⟩ := rm_law l s _ hw tables_1 i0 aLESS aLESS_OR_EQUAL aGREATER_OR_EQUAL aGREATER s.heap s.heap.size (Old.start s) S_aLESS E_aLESS F_aLESS_ordinal S_aLESS_OR_EQUAL E_aLESS_OR_EQUAL F_aLESS_OR_EQUAL_ordinal S_aGREATER_OR_EQUAL E_aGREATER_OR_EQUAL F_aGREATER_OR_EQUAL_ordinal S_aGREATER E_aGREATER F_aGREATER_ordinal p e ha hc hk s m _ below hf ((Spec.applies_iff_loose hf).mp happ).1 ⟨rfl, State.Warmed39.refl s, rfl⟩ trivial
  refine ⟨n, _, h1, h2, h3, hpost _ _ _ _ _ _ ⟨Cond.after_iff.mpr rfl, Cond.after_iff.mpr (eq_i res_at (Term.int_eval (1)) rfl), trivial⟩ ⟨hq.1, hq.2.1, (hq.2.2.sift fun y hy => Or.inr (N y hy)).mono (by decide) (by decide)⟩⟩
theorem main_1_1 : Claimed_1_1 := comes_1 fun _ _ _ _ _ _ h hF => ⟨h.1, hF⟩
theorem main_1_2 : Claimed_1_2 := comes_1 fun _ _ _ _ _ _ h hF => ⟨h.2.1, hF⟩
end Jvm.Pilot.@@N@@
namespace Jvm.Pilot.@@N@@
open Jvm Jvm.ClassFile Sem Op Lib Jvm.Free Jvm.Stand Jvm.Pilot.@@N@@.Jvm.D
/-! MADE BY PROGRAM (witnessworld.py) out of the Statement's table words and the real class files: 12 classes; the members and pool entries that the words name. The judged class is class 1, her method 1. -/
namespace start1
open Jvm.ClassFile
def u (s : String) : CpInfo := .utf8 (stringToUtf16 s)
/-- a pool by its gaps: so many unusable entries, then the entry; so many at the end -/
def gap : Nat → List CpInfo → List CpInfo
  | 0, r => r
  | n + 1, r => .unusable :: gap n r
def poolList (es : List (Nat × CpInfo)) (last : Nat) : List CpInfo := es.foldr (fun e r => gap e.1 (e.2 :: r)) (gap last [])
def pool (es : List (Nat × CpInfo)) (last : Nat) : Array CpInfo := ⟨poolList es last⟩
def fileOf (pool : Array CpInfo) (this : Nat) (attrs : Array Attribute := #[]) (ms : Array MethodInfo := #[]) (fl : Nat := 33) (sup : Nat := 0) (ifs : Array Nat := #[]) (fds : Array FieldInfo := #[]) : ClassFile where
  minorVersion := 0
  majorVersion := 65
  constantPool := pool
  accessFlags := fl
  thisClass := this
  superClass := sup
  interfaces := ifs
  fields := fds
  methods := ms
  attributes := attrs
def plain (name : String) (sup : Option ClassId) : Class where
  name := name
  kind := .ordinary
  loader := none
  accessFlags := 33
  super := sup
  interfaces := #[]
  cf := none
  fields := #[]
  methods := #[]
  instanceTypes := #[]
  staticTypes := #[]
  resolved := #[]
  callSites := []
  init := .initialized
  statics := none
  mirror := none

def pool0 : Array CpInfo := pool [(5, u "<init>"), (0, u "()V"), (1, .class_ 10), (1, u "java/lang/Object")] 113

def k0m0 : Method := { name := "<init>", desc := "()V", sig := { parameters := [], returnType := none }, accessFlags := 1, code := none }
/-- java/lang/Object -/
def k0 : Class := { plain "java/lang/Object" none with
  accessFlags := 33
  interfaces := #[]
  cf := some (fileOf pool0 8 #[] #[{ accessFlags := 1, nameIndex := 5, descriptorIndex := 6, attributes := #[] }] 33 0 #[] #[])
  fields := #[]
  methods := #[k0m0]
  instanceTypes := #[]
  staticTypes := #[]
  resolved := Array.replicate 124 none
  statics := none }

def pool1 : Array CpInfo := pool [(2, .class_ 4), (1, u "java/lang/Object"), (0, u "<init>"), (0, u "()V"), (0, .fieldref 8 9), (0, .class_ 10), (0, .nameAndType 11 12), (0, u "com/example/quadshape/quadshape/core/validation/Comparison"), (0, u "LESS"), (0, u "Lcom/example/quadshape/quadshape/core/validation/Comparison;"), (0, .methodref 8 14), (0, .nameAndType 15 16), (0, u "holds"), (0, u "(I)Z"), (0, .fieldref 8 18), (0, .nameAndType 19 12), (0, u "LESS_OR_EQUAL"), (0, .fieldref 8 21), (0, .nameAndType 22 12), (0, u "GREATER_OR_EQUAL"), (0, .fieldref 8 24), (0, .nameAndType 25 12), (0, u "GREATER"), (0, .class_ 27), (0, u "com/example/quadshape/quadshape/core/validation/ComparisonHoldsPinLaw"), (2, u "law")] 3

def k1m0 : Method := { name := "<init>", desc := "()V", sig := { parameters := [], returnType := none }, accessFlags := 1, code := none }
def k1c1 : Code := { maxStack := 2, maxLocals := 11, code := code, exceptionTable := #[], attributes := #[] }
def k1m1 : Method := { name := "law", desc := "(I)Z", sig := { parameters := [.int], returnType := some .boolean }, accessFlags := 9, code := some k1c1 }
/-- com/example/quadshape/quadshape/core/validation/ComparisonHoldsPinLaw -/
def k1 : Class := { plain "com/example/quadshape/quadshape/core/validation/ComparisonHoldsPinLaw" (some 0) with
  accessFlags := 49
  interfaces := #[]
  cf := some (fileOf pool1 26 #[] #[{ accessFlags := 1, nameIndex := 5, descriptorIndex := 6, attributes := #[] }, { accessFlags := 9, nameIndex := 30, descriptorIndex := 16, attributes := #[] }] 49 2 #[] #[])
  fields := #[]
  methods := #[k1m0, k1m1]
  instanceTypes := #[]
  staticTypes := #[]
  resolved := Array.replicate 34 none
  statics := none }

def pool2 : Array CpInfo := pool [(1, .class_ 2), (0, u "java/lang/constant/Constable"), (0, .class_ 4), (0, u "java/lang/Object")] 6

/-- java/lang/constant/Constable -/
def k2 : Class := { plain "java/lang/constant/Constable" (some 0) with
  accessFlags := 1537
  interfaces := #[]
  cf := some (fileOf pool2 1 #[] #[] 1537 3 #[] #[])
  fields := #[]
  methods := #[]
  instanceTypes := #[]
  staticTypes := #[]
  resolved := Array.replicate 11 none
  statics := none }

def pool3 : Array CpInfo := pool [(1, .class_ 2), (0, u "java/lang/Comparable"), (0, .class_ 4), (0, u "java/lang/Object")] 7

/-- java/lang/Comparable -/
def k3 : Class := { plain "java/lang/Comparable" (some 0) with
  accessFlags := 1537
  interfaces := #[]
  cf := some (fileOf pool3 1 #[] #[] 1537 3 #[] #[])
  fields := #[]
  methods := #[]
  instanceTypes := #[]
  staticTypes := #[]
  resolved := Array.replicate 12 none
  statics := none }

def pool4 : Array CpInfo := pool [(1, .class_ 2), (0, u "java/io/Serializable"), (0, .class_ 4), (0, u "java/lang/Object")] 2

/-- java/io/Serializable -/
def k4 : Class := { plain "java/io/Serializable" (some 0) with
  accessFlags := 1537
  interfaces := #[]
  cf := some (fileOf pool4 1 #[] #[] 1537 3 #[] #[])
  fields := #[]
  methods := #[]
  instanceTypes := #[]
  staticTypes := #[]
  resolved := Array.replicate 7 none
  statics := none }

def pool5 : Array CpInfo := pool [(2, .class_ 4), (1, u "java/lang/Enum"), (0, u "name"), (0, u "Ljava/lang/String;"), (0, .fieldref 2 8), (0, .nameAndType 9 10), (0, u "ordinal"), (0, u "I"), (1, .class_ 14), (1, u "java/lang/Object"), (4, u "hash"), (86, .class_ 108), (1, u "java/lang/Enum$EnumDesc"), (2, .class_ 112), (0, u "java/lang/constant/Constable"), (0, .class_ 114), (0, u "java/lang/Comparable"), (0, .class_ 116), (0, u "java/io/Serializable"), (9, u "()I")] 77

def k5c0 : Code := { maxStack := 1, maxLocals := 1, code := jdk_37_method_2_code, exceptionTable := #[], attributes := #[] }
def k5m0 : Method := { name := "ordinal", desc := "()I", sig := { parameters := [], returnType := some .int }, accessFlags := 17, code := some k5c0 }
/-- java/lang/Enum -/
def k5 : Class := { plain "java/lang/Enum" (some 0) with
  accessFlags := 1057
  interfaces := #[2, 3, 4]
  cf := some (fileOf pool5 2 #[.nestMembers #[106]] #[{ accessFlags := 17, nameIndex := 9, descriptorIndex := 126, attributes := #[] }] 1057 12 #[111, 113, 115] #[{ accessFlags := 18, nameIndex := 5, descriptorIndex := 6, attributes := #[] }, { accessFlags := 18, nameIndex := 9, descriptorIndex := 10, attributes := #[] }, { accessFlags := 2, nameIndex := 19, descriptorIndex := 10, attributes := #[] }])
  fields := #[{ name := "name", type := (.object "java/lang/String"), accessFlags := 18, slot := 0, constantValue := 0 }, { name := "ordinal", type := .int, accessFlags := 18, slot := 1, constantValue := 0 }, { name := "hash", type := .int, accessFlags := 2, slot := 2, constantValue := 0 }]
  methods := #[k5m0]
  instanceTypes := #[(.object "java/lang/String"), .int, .int]
  staticTypes := #[]
  resolved := Array.replicate 204 none
  statics := none }

def pool6 : Array CpInfo := pool [(1, .class_ 2), (0, u "com/example/quadshape/quadshape/core/validation/Comparison"), (2, u "LESS"), (0, u "Lcom/example/quadshape/quadshape/core/validation/Comparison;"), (2, u "LESS_OR_EQUAL"), (2, u "GREATER_OR_EQUAL"), (2, u "GREATER"), (2, u "$VALUES"), (0, u "[Lcom/example/quadshape/quadshape/core/validation/Comparison;"), (6, .class_ 28), (1, u "java/lang/Enum"), (6, .methodref 1 36), (0, .nameAndType 37 38), (0, u "ordinal"), (0, u "()I"), (21, u "holds"), (0, u "(I)Z")] 5

def k6c0 : Code := { maxStack := 4, maxLocals := 2, code := prog_38_method_4_code, exceptionTable := #[], attributes := #[] }
def k6m0 : Method := { name := "holds", desc := "(I)Z", sig := { parameters := [.int], returnType := some .boolean }, accessFlags := 0, code := some k6c0 }
/-- com/example/quadshape/quadshape/core/validation/Comparison -/
def k6 : Class := { plain "com/example/quadshape/quadshape/core/validation/Comparison" (some 5) with
  accessFlags := 16432
  interfaces := #[]
  cf := some (fileOf pool6 1 #[] #[{ accessFlags := 0, nameIndex := 60, descriptorIndex := 61, attributes := #[] }] 16432 26 #[] #[{ accessFlags := 16409, nameIndex := 5, descriptorIndex := 6, attributes := #[] }, { accessFlags := 16409, nameIndex := 9, descriptorIndex := 6, attributes := #[] }, { accessFlags := 16409, nameIndex := 12, descriptorIndex := 6, attributes := #[] }, { accessFlags := 16409, nameIndex := 15, descriptorIndex := 6, attributes := #[] }, { accessFlags := 4122, nameIndex := 18, descriptorIndex := 19, attributes := #[] }])
  fields := #[{ name := "LESS", type := (.object "com/example/quadshape/quadshape/core/validation/Comparison"), accessFlags := 16409, slot := 0, constantValue := 0 }, { name := "LESS_OR_EQUAL", type := (.object "com/example/quadshape/quadshape/core/validation/Comparison"), accessFlags := 16409, slot := 1, constantValue := 0 }, { name := "GREATER_OR_EQUAL", type := (.object "com/example/quadshape/quadshape/core/validation/Comparison"), accessFlags := 16409, slot := 2, constantValue := 0 }, { name := "GREATER", type := (.object "com/example/quadshape/quadshape/core/validation/Comparison"), accessFlags := 16409, slot := 3, constantValue := 0 }, { name := "$VALUES", type := (.array (.object "com/example/quadshape/quadshape/core/validation/Comparison")), accessFlags := 4122, slot := 4, constantValue := 0 }]
  methods := #[k6m0]
  instanceTypes := #[(.object "java/lang/String"), .int, .int]
  staticTypes := #[(.object "com/example/quadshape/quadshape/core/validation/Comparison"), (.object "com/example/quadshape/quadshape/core/validation/Comparison"), (.object "com/example/quadshape/quadshape/core/validation/Comparison"), (.object "com/example/quadshape/quadshape/core/validation/Comparison"), (.array (.object "com/example/quadshape/quadshape/core/validation/Comparison"))]
  resolved := Array.replicate 67 none
  statics := some 0 }

def pool7 : Array CpInfo := pool [(1, u "java/lang/Cloneable"), (0, .class_ 1), (0, u "java/lang/Object"), (0, .class_ 3)] 3

/-- java/lang/Cloneable -/
def k7 : Class := { plain "java/lang/Cloneable" (some 0) with
  accessFlags := 1537
  interfaces := #[]
  cf := some (fileOf pool7 2 #[] #[] 1537 4 #[] #[])
  fields := #[]
  methods := #[]
  instanceTypes := #[]
  staticTypes := #[]
  resolved := Array.replicate 8 none
  statics := none }

/-- the primitive byte -/
def k8 : Class := { plain "byte" none with kind := .primitive 'B', accessFlags := 0x411 }
/-- [B -/
def k9 : Class := { plain "[B" (some 0) with kind := .array 8 .byte, interfaces := #[7, 4], accessFlags := 1041 }

/-- the primitive int -/
def k10 : Class := { plain "int" none with kind := .primitive 'I', accessFlags := 0x411 }
/-- [I -/
def k11 : Class := { plain "[I" (some 0) with kind := .array 10 .int, interfaces := #[7, 4], accessFlags := 1041 }

def heap : Heap := #[{ cls := 6, slots := #[.ref 1, .ref 2, .ref 3, .ref 4, .null], vm := .statics 6 },
  { cls := 6, slots := #[.null, .int 0, .int 0], vm := .none },
  { cls := 6, slots := #[.null, .int 1, .int 0], vm := .none },
  { cls := 6, slots := #[.null, .int 2, .int 0], vm := .none },
  { cls := 6, slots := #[.null, .int 3, .int 0], vm := .none }]
def classes : Array Class := #[k0, k1, k2, k3, k4, k5, k6, k7, k8, k9, k10, k11]
def interned : List (Array UInt16 × Addr) := []
def slotsUsed : Nat := 17
def theMethod : MethodId := ⟨1, 1⟩
def args0 : Array Value := #[.int 5]
def aboutOver (below : List Frame) : State where
  vm := { classes := classes, interned := interned.toArray }
  heap := heap
  slotsUsed := slotsUsed
  threads := #[{ frames := .invoking theMethod args0 :: below }]
def below0 : List Frame := [.native { method := ⟨0, 0⟩, args := #[] }]
def about1 : State := aboutOver below0
def p0 : Program := .bare "" "" ""
def e0 : Env := launch0.env 0 0 0
theorem w_frames : about1.frames = Frame.invoking theMethod args0 :: below0 := rfl
set_option maxRecDepth 65536 in
theorem w_args : argsFit about1.vm theMethod args0 = true := by decide +kernel
set_option maxRecDepth 65536 in
theorem w_heap : heapFits about1 = true := by decide +kernel
set_option maxRecDepth 65536 in
theorem w_runnable : about1.curStatus? = some .runnable := by decide +kernel
set_option maxRecDepth 65536 in
theorem w_alone : about1.alone = true := by decide +kernel
set_option maxRecDepth 65536 in
theorem w_named : about1.methodNamed? x = some theMethod := by decide +kernel
set_option maxRecDepth 65536 in
theorem w_hears : about1.hears theMethod below0 = true := by decide +kernel
set_option maxRecDepth 65536 in
theorem w_ripe : about1.ripe theMethod args0 below0 = true := by decide +kernel
theorem w_running : about1.status = .running := rfl
set_option maxRecDepth 65536 in
theorem w_room : about1.hasRoom e0.platform room_1 = true :=
  launch0.hasRoom_least _ room_1 (by decide +kernel) (by decide +kernel) (by decide +kernel) (by decide +kernel) (by decide +kernel) (by decide +kernel)
theorem allAtoms_all (ts : List Jvm.Cond) (a : Array Jvm.Value) (st : Jvm.State) : (allAtoms ts).before a st = ts.all (fun c => c.before a st) := by
  induction ts with
  | nil => rfl
  | cons c t ih =>
    show (Jvm.Cond.and c (allAtoms t)).before a st = _
    rw [Jvm.Cond.before_and, ih, List.all_cons]
def words1 : List Jvm.Cond := Jvm.Cond.code x code maxLocals ret :: tables_1
/-- a 'code' word, met by the world's own term for the bytes: nothing is compared byte by byte -/
theorem code_word {y : MethodName} {bytes : ByteArray} {mx : Nat} {rt : Option FieldType} {a : Array Value} {s : State} {m : MethodId} {meth : Method} {c : Code} (h1 : s.methodNamed? y = some m) (h2 : s.vm.method? m = some meth) (h3 : meth.code = some c) (h4 : c.code = bytes)
    (h5 : (c.maxLocals == mx && c.exceptionTable.isEmpty && decide (c.maxStack ≤ mostOperands) && decide (meth.sig.returnType = rt) && !meth.locks && decide (parseMethodDescriptor y.desc = some meth.sig)) = true) : (Jvm.Cond.code y bytes mx rt).before a s = true := by
  simp only [Bool.and_eq_true, beq_iff_eq, Bool.not_eq_true', decide_eq_true_eq] at h5
  obtain ⟨⟨⟨⟨⟨g1, g2⟩, g3⟩, g4⟩, g5⟩, g6⟩ := h5
  simp [Cond.before, Cond.holds, Cond.value, h1, h2, h3, h4, g1, g2, g3, g4, g5, g6]
def isCode : Jvm.Cond → Bool
  | .code _ _ _ _ => true
  | _ => false
theorem all_split {L : List Jvm.Cond} {P : Jvm.Cond → Bool} (h1 : L.all (fun c => isCode c || P c) = true) (h2 : ∀ c ∈ L.filter isCode, P c = true) : L.all P = true := by
  refine List.all_eq_true.mpr fun c hc => ?_
  have h := List.all_eq_true.mp h1 c hc
  rcases Bool.eq_false_or_eq_true (isCode c) with hi | hi
  · exact h2 c (List.mem_filter.mpr ⟨hc, hi⟩)
  · simpa [hi] using h
set_option maxRecDepth 65536 in
theorem w_c0 : (Jvm.Cond.code x code maxLocals ret).before args0 about1 = true := code_word (m := ⟨1, 1⟩) (meth := k1m1) (c := k1c1) (by decide +kernel) rfl rfl rfl (by decide +kernel)
set_option maxRecDepth 65536 in
theorem w_c1 : (Jvm.Cond.code ({ cls := "com/example/quadshape/quadshape/core/validation/Comparison", name := "holds", desc := "(I)Z" } : Jvm.MethodName) prog_38_method_4_code (2 : Nat) (Option.some Jvm.ClassFile.FieldType.boolean)).before args0 about1 = true := code_word (m := ⟨6, 0⟩) (meth := k6m0) (c := k6c0) (by decide +kernel) rfl rfl rfl (by decide +kernel)
set_option maxRecDepth 65536 in
theorem w_c2 : (Jvm.Cond.code ({ cls := "java/lang/Enum", name := "ordinal", desc := "()I" } : Jvm.MethodName) jdk_37_method_2_code (1 : Nat) (Option.some Jvm.ClassFile.FieldType.int)).before args0 about1 = true := code_word (m := ⟨5, 0⟩) (meth := k5m0) (c := k5c0) (by decide +kernel) rfl rfl rfl (by decide +kernel)
def codes1 : List Jvm.Cond := [Jvm.Cond.code x code maxLocals ret, Jvm.Cond.code ({ cls := "com/example/quadshape/quadshape/core/validation/Comparison", name := "holds", desc := "(I)Z" } : Jvm.MethodName) prog_38_method_4_code (2 : Nat) (Option.some Jvm.ClassFile.FieldType.boolean), Jvm.Cond.code ({ cls := "java/lang/Enum", name := "ordinal", desc := "()I" } : Jvm.MethodName) jdk_37_method_2_code (1 : Nat) (Option.some Jvm.ClassFile.FieldType.int)]
set_option maxRecDepth 65536 in
theorem codes_eq : words1.filter isCode = codes1 := rfl
theorem w_codes : ∀ c ∈ words1.filter isCode, c.before args0 about1 = true := by
  rw [codes_eq]
  intro c hc
  simp only [codes1, List.mem_cons, List.not_mem_nil, or_false] at hc
  rcases hc with rfl | rfl | rfl
  · exact w_c0
  · exact w_c1
  · exact w_c2
set_option maxRecDepth 65536 in
theorem w_t1 : words1.all (fun c => isCode c || c.before args0 about1) = true := by decide +kernel
theorem w_tables : (allAtoms (Jvm.Cond.code x code maxLocals ret :: tables_1)).before args0 about1 = true := by
  rw [allAtoms_all]
  show words1.all (fun c => c.before args0 about1) = true
  refine all_split ?_ w_codes
  rw [w_t1]
set_option maxRecDepth 65536 in
theorem w_case : (Jvm.Cond.and given_1 narrow_1).before args0 about1 = true := by decide +kernel
theorem w_applies : (headSpec (Jvm.Cond.code x code maxLocals ret :: tables_1) room_1).applies x e0.platform about1 = true :=
  (Spec.applies_iff w_frames).mpr ⟨w_running, w_runnable, w_alone, w_named, w_hears, w_ripe, w_room, w_tables⟩
theorem atStart : AtStart classFile x code maxLocals ret World_1 tables_1 room_1 Calls_1 rest_1 Pre_1 launch0 p0 e0 about1 theMethod args0 below0 :=
  ⟨lists_1, trivial, launch0.admits_env _ _ _, launch0.least_env, fairChoices_fair.cas, fairChoices_fair.clock, w_frames, w_args, w_heap, w_applies, trivial, trivial, w_case⟩
end start1
theorem witness_1 : WitnessClaimed_1 := ⟨start1.p0, start1.e0, start1.about1, start1.theMethod, start1.args0, start1.below0, start1.atStart⟩
end Jvm.Pilot.@@N@@
