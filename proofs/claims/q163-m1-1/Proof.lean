import JvmDerived
import JvmDerived.Pilot.@@N@@Statement
import JvmDerived.Pilot.@@N@@Code
set_option linter.unusedVariables false
set_option linter.unusedSimpArgs false
namespace Jvm.RoadKit
open Sem ClassFile Op Lib Jvm.Stand Jvm.Free Jvm.LawKit
section New
variable {p : Program} {l : Launch} {e : Env} {R : Room} {s : State} {m : MethodId} {args : Array Value} {below : List Frame} {meth : Method} {c : Code} {T : State} {locs : List Loc} {cells slots : Nat}
theorem retI (X : Stand p l e R s m args below meth c T locs cells slots) (hx : p.tables.exec = Jvm.exec) {pc : Nat} {Ls : Array Slot} {z : Int32} {rest : List Value} (hret : meth.sig.returnType = some .int) (hd : decode c.code pc = .ok (.ireturn, 1)) {fs : List Frame}
    (hl : ∀ (f : JFrame) (acts : List Action), f.method = m → f.locked = none → f.entered = [] → (doReturn e (T.setTop f) acts (some (.int z))).1 = T.setFrames fs) : Steps p.tables e below (T.setTop (mkF m pc Ls (.int z :: rest))) (T.setFrames fs) := by
  have hm' : T.vm.method? m = some meth := X.method'
  have hn : narrow .int (.int z) = .int z := rfl
  show Steps p.tables e below (T.setTop { method := m, pc := pc, locals := Ls, stack := _ :: rest, locked := none }) _
  jvm_step X.here [X.here.top, hx, hd, hm', hret, hn]
  first | (intro acts; rw [hl _ acts rfl rfl rfl]) | rw [hl _ _ rfl rfl rfl]
  exact Steps.refl _
end New
end Jvm.RoadKit

namespace Jvm.Pilot.@@N@@
open Jvm Jvm.ClassFile Sem Op Lib Jvm.Free Jvm.Stand Jvm.LawKit Jvm.RoadKit Bundle Jvm.Pilot.@@N@@.Jvm.D
theorem own_le {Z : State} {n0 : Nat} {h : Heap} (O : Old Z n0 h) : n0 ≤ h.size := O.1 ▸ O.2.1
theorem own_narb {c : Prop} [Decidable c] : nar .boolean (if c then (1 : Int32) else 0) = if c then (1 : Int32) else 0 := by split <;> rfl
theorem own_narb' {c : Prop} [Decidable c] : nar .boolean (if c then (0 : Int32) else 1) = if c then (0 : Int32) else 1 := by split <;> rfl
theorem own_eqc {t : Term} {k : Int32} {a0 : Array Value} {Z : State} (h : (Jvm.Cond.eq t (.int k)).value a0 Z none Z [] = some true) : t.eval a0 Z none [] Z = some (.int k) := by
  obtain ⟨x, y, e1, e2, k1, -⟩ := cmp_v (Or.inl h)
  obtain rfl : Value.int k = y := Option.some.inj ((Term.int_eval k).symm.trans e2)
  cases x <;> simp [Kin, Value.isRef] at k1
  simp [Jvm.Cond.value, e1, Term.int_eval] at h
  rw [e1, h]

theorem d_pick_0 : decode method_2_code 0 = .ok (.iload_n 0, 1) := by decide +kernel
theorem d_pick_1 : decode method_2_code 1 = .ok (.ldc 7, 2) := by decide +kernel
theorem d_pick_3 : decode method_2_code 3 = .ok (.iand, 1) := by decide +kernel
theorem d_pick_4 : decode method_2_code 4 = .ok (.iconst 5, 1) := by decide +kernel
theorem d_pick_5 : decode method_2_code 5 = .ok (.irem, 1) := by decide +kernel
theorem d_pick_6 : decode method_2_code 6 = .ok (.istore_n 1, 1) := by decide +kernel
theorem d_pick_7 : decode method_2_code 7 = .ok (.iload_n 1, 1) := by decide +kernel
theorem d_pick_8 : decode method_2_code 8 = .ok (.ifCond .ne 7, 3) := by decide +kernel
theorem d_pick_11 : decode method_2_code 11 = .ok (.getstatic 8, 3) := by decide +kernel
theorem d_pick_14 : decode method_2_code 14 = .ok (.areturn, 1) := by decide +kernel
theorem d_pick_15 : decode method_2_code 15 = .ok (.iload_n 1, 1) := by decide +kernel
theorem d_pick_16 : decode method_2_code 16 = .ok (.iconst 1, 1) := by decide +kernel
theorem d_pick_17 : decode method_2_code 17 = .ok (.if_icmp .ne 7, 3) := by decide +kernel
theorem d_pick_20 : decode method_2_code 20 = .ok (.getstatic 14, 3) := by decide +kernel
theorem d_pick_23 : decode method_2_code 23 = .ok (.areturn, 1) := by decide +kernel
theorem d_pick_24 : decode method_2_code 24 = .ok (.iload_n 1, 1) := by decide +kernel
theorem d_pick_25 : decode method_2_code 25 = .ok (.iconst 2, 1) := by decide +kernel
theorem d_pick_26 : decode method_2_code 26 = .ok (.if_icmp .ne 7, 3) := by decide +kernel
theorem d_pick_29 : decode method_2_code 29 = .ok (.getstatic 17, 3) := by decide +kernel
theorem d_pick_32 : decode method_2_code 32 = .ok (.areturn, 1) := by decide +kernel
theorem d_pick_33 : decode method_2_code 33 = .ok (.iload_n 1, 1) := by decide +kernel
theorem d_pick_34 : decode method_2_code 34 = .ok (.iconst 3, 1) := by decide +kernel
theorem d_pick_35 : decode method_2_code 35 = .ok (.if_icmp .ne 7, 3) := by decide +kernel
theorem d_pick_38 : decode method_2_code 38 = .ok (.getstatic 20, 3) := by decide +kernel
theorem d_pick_41 : decode method_2_code 41 = .ok (.areturn, 1) := by decide +kernel
theorem d_pick_42 : decode method_2_code 42 = .ok (.getstatic 23, 3) := by decide +kernel
theorem d_pick_45 : decode method_2_code 45 = .ok (.areturn, 1) := by decide +kernel
theorem pn_pick : plainName "com/example/vaxwire/vaxwire/hl7/TypedWholePinLaw" = true := by first | (simp [plainName, overriddenIn]; done) | decide +kernel
theorem ef_pick (m : MethodId) (p1 : Int32) : entryFrame m #[(.int p1)] 2 = (mkF m 0 #[.val (.int p1), .unset] []) := by first | (simp [entryFrame, mkF, argsToLocals, Value.category]; done) | rfl
def Q_pick (Z : State) (p1 : Int32) (aTS : Addr) (aSI : Addr) (aNM : Addr) (aDT : Addr) (aDR : Addr) (h0 : Heap) (n0 : Nat) (v : Option Value) (h : Heap) (L : List Loc) : Prop := ∃ a, v = some (.ref a) ∧ Fr n0 L ∧ h = h0
set_option maxRecDepth 65536 in
set_option maxHeartbeats 40000000 in
theorem rm_pick (l : Launch) (Z : State) (a0 : Array Value) (hw : ∀ d ∈ tables_1, d.before a0 Z = true) (ws : List Jvm.Cond) (p1 : Int32) (aTS : Addr) (aSI : Addr) (aNM : Addr) (aDT : Addr) (aDR : Addr) (h0 : Heap) (n0 : Nat) (O0 : Old Z n0 h0) (S_aTS : Sta Z Z.heap "com/example/vaxwire/vaxwire/hl7/DataType" "TS" "Lcom/example/vaxwire/vaxwire/hl7/DataType;" (.ref aTS)) (S_aSI : Sta Z Z.heap "com/example/vaxwire/vaxwire/hl7/DataType" "SI" "Lcom/example/vaxwire/vaxwire/hl7/DataType;" (.ref aSI)) (S_aNM : Sta Z Z.heap "com/example/vaxwire/vaxwire/hl7/DataType" "NM" "Lcom/example/vaxwire/vaxwire/hl7/DataType;" (.ref aNM)) (S_aDT : Sta Z Z.heap "com/example/vaxwire/vaxwire/hl7/DataType" "DT" "Lcom/example/vaxwire/vaxwire/hl7/DataType;" (.ref aDT)) (S_aDR : Sta Z Z.heap "com/example/vaxwire/vaxwire/hl7/DataType" "DR" "Lcom/example/vaxwire/vaxwire/hl7/DataType;" (.ref aDR)) :
    MetFree l (⟨"com/example/vaxwire/vaxwire/hl7/TypedWholePinLaw", "pick", "(I)Lcom/example/vaxwire/vaxwire/hl7/DataType;"⟩ : MethodName) (head1 (Jvm.Cond.code (⟨"com/example/vaxwire/vaxwire/hl7/TypedWholePinLaw", "pick", "(I)Lcom/example/vaxwire/vaxwire/hl7/DataType;"⟩ : MethodName) method_2_code 2 (some (.object "com/example/vaxwire/vaxwire/hl7/DataType")) :: ws) ({ frames := 0, cells := 0, slots := 0, locals := 0 } : Room)) (fun a U => a = #[(.int p1)] ∧ Z.Warmed39 U.vm ∧ U.heap = h0) (fun _ _ _ _ _ => True) (fun _ U o U' => ∃ v L, o = .returned v ∧ Q_pick Z p1 aTS aSI aNM aDT aDR h0 n0 v U'.heap L ∧ FrameEnd U o U' L ({ frames := 0, cells := 0, slots := 0, locals := 0 } : Room).cells ({ frames := 0, cells := 0, slots := 0, locals := 0 } : Room).slots) := by
  refine MetFree.of_bodySF (plainFor_of_name pn_pick) hisR ?_
  intro p e s m args below meth c s₁ Bd hml0 hP hK
  obtain ⟨rfl, hZ, hh⟩ := hP
  have hx := Bd.exec
  have hby := Bd.bytes
  have hml : c.maxLocals = 2 := hml0
  have hown : s.vm.findClass "com/example/vaxwire/vaxwire/hl7/TypedWholePinLaw" = some m.cls := findClass_of_methodNamed Bd.named
  have hnm := (name_of_methodNamed Bd.named Bd.method).1
  have X0 : Stand p l e ({ frames := 0, cells := 0, slots := 0, locals := 0 } : Room) s m #[(.int p1)] below meth c s₁ [] 0 0 := Stand.of_body Bd
  have e0 : s₁.heap = h0 := by rw [← hh, Bd.state]; rfl
  have N0 := Fr.nil n0
  have pre0 : ∀ t, Steps p.tables e below (s₁.setTop (mkF m 0 #[.val (.int p1), .unset] [])) t → Steps p.tables e below (s₁.setTop (entryFrame m #[(.int p1)] 2)) t := fun t k => castTop (ef_pick m p1) k
  have pre_1 : ∀ t, Steps p.tables e below (s₁.setTop (mkF m 8 #[.val (.int p1), .val (.int ((p1 &&& (2147483647 : Int32)) % (5 : Int32)))] [(.int ((p1 &&& (2147483647 : Int32)) % (5 : Int32)))])) t → Steps p.tables e below (s₁.setTop (entryFrame m #[(.int p1)] 2)) t := by
    intro t k
    refine pre0 t ?_
    show Steps p.tables e below (s₁.setTop (mkF m 0 #[.val (.int p1), .unset] [])) _
    refine XS.iloadN X0.here hx rfl (hb hby d_pick_0) rfl ?_
    show Steps p.tables e below (s₁.setTop (mkF m 1 #[.val (.int p1), .unset] [(.int p1)])) _
    refine X0.ldcInt hx hown (mvT hZ (hw _ (List.mem_of_getElem? (i := 4) rfl))) (g := (mkF m 1 #[.val (.int p1), .unset] [(.int p1)])) rfl (hb hby d_pick_1) _ ?_
    show Steps p.tables e below (s₁.setTop (mkF m 3 #[.val (.int p1), .unset] [(.int (2147483647 : Int32)), (.int p1)])) _
    refine XS.iand X0.here hx rfl (hb hby d_pick_3) rfl ?_
    show Steps p.tables e below (s₁.setTop (mkF m 4 #[.val (.int p1), .unset] [(.int (p1 &&& (2147483647 : Int32)))])) _
    refine XS.iconst X0.here hx rfl (hb hby d_pick_4) ?_
    show Steps p.tables e below (s₁.setTop (mkF m 5 #[.val (.int p1), .unset] [(.int (5 : Int32)), (.int (p1 &&& (2147483647 : Int32)))])) _
    refine iremM X0 hx rfl (hb hby d_pick_5) rfl (by decide) ?_
    show Steps p.tables e below (s₁.setTop (mkF m 6 #[.val (.int p1), .unset] [(.int ((p1 &&& (2147483647 : Int32)) % (5 : Int32)))])) _
    refine XS.istoreN X0.here hx rfl (hb hby d_pick_6) rfl (l' := #[.val (.int p1), .val (.int ((p1 &&& (2147483647 : Int32)) % (5 : Int32)))]) rfl ?_
    show Steps p.tables e below (s₁.setTop (mkF m 7 #[.val (.int p1), .val (.int ((p1 &&& (2147483647 : Int32)) % (5 : Int32)))] [])) _
    refine XS.iloadN X0.here hx rfl (hb hby d_pick_7) rfl ?_
    show Steps p.tables e below (s₁.setTop (mkF m 8 #[.val (.int p1), .val (.int ((p1 &&& (2147483647 : Int32)) % (5 : Int32)))] [(.int ((p1 &&& (2147483647 : Int32)) % (5 : Int32)))])) _
    exact k
  by_cases hc2 : ((p1 &&& (2147483647 : Int32)) % (5 : Int32)) = (0 : Int32)
  · skip
    have pre_3 : ∀ t, Steps p.tables e below (s₁.setTop (mkF m 11 #[.val (.int p1), .val (.int ((p1 &&& (2147483647 : Int32)) % (5 : Int32)))] [])) t → Steps p.tables e below (s₁.setTop (entryFrame m #[(.int p1)] 2)) t := by
      intro t k
      refine pre_1 t ?_
      show Steps p.tables e below (s₁.setTop (mkF m 8 #[.val (.int p1), .val (.int ((p1 &&& (2147483647 : Int32)) % (5 : Int32)))] [(.int ((p1 &&& (2147483647 : Int32)) % (5 : Int32)))])) _
      refine XS.ifNo X0.here hx rfl (hb hby d_pick_8) rfl (XT.i0_ne_f hc2) ?_
      show Steps p.tables e below (s₁.setTop (mkF m 11 #[.val (.int p1), .val (.int ((p1 &&& (2147483647 : Int32)) % (5 : Int32)))] [])) _
      exact k
    obtain ⟨T4, X4, e4, st4⟩ := getS X0 hx hZ hown (host := "") (hw _ (List.mem_of_getElem? (i := 43) rfl)) Via.refl e0 (S_aNM.ext O0.2) (g := (mkF m 11 #[.val (.int p1), .val (.int ((p1 &&& (2147483647 : Int32)) % (5 : Int32)))] [])) rfl (hb hby d_pick_11)
    have pre_5 : ∀ t, Steps p.tables e below (T4.setTop (mkF m 14 #[.val (.int p1), .val (.int ((p1 &&& (2147483647 : Int32)) % (5 : Int32)))] [(.ref aNM)])) t → Steps p.tables e below (s₁.setTop (entryFrame m #[(.int p1)] 2)) t := fun t k => pre_3 t (st4 t k)
    obtain ⟨fs, hr, hrun, hended, hW, hsame⟩ := X4.leave (v := some (.ref aNM)) (fun h => by rw [Bd.returns] at h; cases h)
    refine ⟨_, _, pre_5 _ ?_, hrun, hended, _, _, rfl, ?_, ⟨_, rfl⟩, hW, hsame.mono (by decide) (by decide)⟩
    · show Steps p.tables e below (T4.setTop (mkF m 14 #[.val (.int p1), .val (.int ((p1 &&& (2147483647 : Int32)) % (5 : Int32)))] [(.ref aNM)])) _
      exact retOut X4 hx (t := (.object "com/example/vaxwire/vaxwire/hl7/DataType")) Bd.returns rfl (Or.inr (Or.inr (Or.inr (Or.inr ⟨rfl, rfl, rfl⟩)))) (hb hby d_pick_14) hr
    · show Q_pick Z p1 aTS aSI aNM aDT aDR h0 n0 _ T4.heap _
      rw [e4]
      exact ⟨aNM, rfl, N0, rfl⟩
  · skip
    have pre_6 : ∀ t, Steps p.tables e below (s₁.setTop (mkF m 17 #[.val (.int p1), .val (.int ((p1 &&& (2147483647 : Int32)) % (5 : Int32)))] [(.int (1 : Int32)), (.int ((p1 &&& (2147483647 : Int32)) % (5 : Int32)))])) t → Steps p.tables e below (s₁.setTop (entryFrame m #[(.int p1)] 2)) t := by
      intro t k
      refine pre_1 t ?_
      show Steps p.tables e below (s₁.setTop (mkF m 8 #[.val (.int p1), .val (.int ((p1 &&& (2147483647 : Int32)) % (5 : Int32)))] [(.int ((p1 &&& (2147483647 : Int32)) % (5 : Int32)))])) _
      refine XS.ifYes X0.here hx rfl (pc0 := 8) (pc' := 15) rfl (hb hby d_pick_8) rfl (XT.i0_ne_t hc2) (by decide) (by decide) ?_
      show Steps p.tables e below (s₁.setTop (mkF m 15 #[.val (.int p1), .val (.int ((p1 &&& (2147483647 : Int32)) % (5 : Int32)))] [])) _
      refine XS.iloadN X0.here hx rfl (hb hby d_pick_15) rfl ?_
      show Steps p.tables e below (s₁.setTop (mkF m 16 #[.val (.int p1), .val (.int ((p1 &&& (2147483647 : Int32)) % (5 : Int32)))] [(.int ((p1 &&& (2147483647 : Int32)) % (5 : Int32)))])) _
      refine XS.iconst X0.here hx rfl (hb hby d_pick_16) ?_
      show Steps p.tables e below (s₁.setTop (mkF m 17 #[.val (.int p1), .val (.int ((p1 &&& (2147483647 : Int32)) % (5 : Int32)))] [(.int (1 : Int32)), (.int ((p1 &&& (2147483647 : Int32)) % (5 : Int32)))])) _
      exact k
    by_cases hc7 : ((p1 &&& (2147483647 : Int32)) % (5 : Int32)) = (1 : Int32)
    · skip
      have pre_8 : ∀ t, Steps p.tables e below (s₁.setTop (mkF m 20 #[.val (.int p1), .val (.int ((p1 &&& (2147483647 : Int32)) % (5 : Int32)))] [])) t → Steps p.tables e below (s₁.setTop (entryFrame m #[(.int p1)] 2)) t := by
        intro t k
        refine pre_6 t ?_
        show Steps p.tables e below (s₁.setTop (mkF m 17 #[.val (.int p1), .val (.int ((p1 &&& (2147483647 : Int32)) % (5 : Int32)))] [(.int (1 : Int32)), (.int ((p1 &&& (2147483647 : Int32)) % (5 : Int32)))])) _
        refine XS.icmpNo X0.here hx rfl (hb hby d_pick_17) rfl (XT.ii_ne_f hc7) ?_
        show Steps p.tables e below (s₁.setTop (mkF m 20 #[.val (.int p1), .val (.int ((p1 &&& (2147483647 : Int32)) % (5 : Int32)))] [])) _
        exact k
      obtain ⟨T9, X9, e9, st9⟩ := getS X0 hx hZ hown (host := "") (hw _ (List.mem_of_getElem? (i := 41) rfl)) Via.refl e0 (S_aSI.ext O0.2) (g := (mkF m 20 #[.val (.int p1), .val (.int ((p1 &&& (2147483647 : Int32)) % (5 : Int32)))] [])) rfl (hb hby d_pick_20)
      have pre_10 : ∀ t, Steps p.tables e below (T9.setTop (mkF m 23 #[.val (.int p1), .val (.int ((p1 &&& (2147483647 : Int32)) % (5 : Int32)))] [(.ref aSI)])) t → Steps p.tables e below (s₁.setTop (entryFrame m #[(.int p1)] 2)) t := fun t k => pre_8 t (st9 t k)
      obtain ⟨fs, hr, hrun, hended, hW, hsame⟩ := X9.leave (v := some (.ref aSI)) (fun h => by rw [Bd.returns] at h; cases h)
      refine ⟨_, _, pre_10 _ ?_, hrun, hended, _, _, rfl, ?_, ⟨_, rfl⟩, hW, hsame.mono (by decide) (by decide)⟩
      · show Steps p.tables e below (T9.setTop (mkF m 23 #[.val (.int p1), .val (.int ((p1 &&& (2147483647 : Int32)) % (5 : Int32)))] [(.ref aSI)])) _
        exact retOut X9 hx (t := (.object "com/example/vaxwire/vaxwire/hl7/DataType")) Bd.returns rfl (Or.inr (Or.inr (Or.inr (Or.inr ⟨rfl, rfl, rfl⟩)))) (hb hby d_pick_23) hr
      · show Q_pick Z p1 aTS aSI aNM aDT aDR h0 n0 _ T9.heap _
        rw [e9]
        exact ⟨aSI, rfl, N0, rfl⟩
    · skip
      have pre_11 : ∀ t, Steps p.tables e below (s₁.setTop (mkF m 26 #[.val (.int p1), .val (.int ((p1 &&& (2147483647 : Int32)) % (5 : Int32)))] [(.int (2 : Int32)), (.int ((p1 &&& (2147483647 : Int32)) % (5 : Int32)))])) t → Steps p.tables e below (s₁.setTop (entryFrame m #[(.int p1)] 2)) t := by
        intro t k
        refine pre_6 t ?_
        show Steps p.tables e below (s₁.setTop (mkF m 17 #[.val (.int p1), .val (.int ((p1 &&& (2147483647 : Int32)) % (5 : Int32)))] [(.int (1 : Int32)), (.int ((p1 &&& (2147483647 : Int32)) % (5 : Int32)))])) _
        refine XS.icmpYes X0.here hx rfl (pc0 := 17) (pc' := 24) rfl (hb hby d_pick_17) rfl (XT.ii_ne_t hc7) (by decide) (by decide) ?_
        show Steps p.tables e below (s₁.setTop (mkF m 24 #[.val (.int p1), .val (.int ((p1 &&& (2147483647 : Int32)) % (5 : Int32)))] [])) _
        refine XS.iloadN X0.here hx rfl (hb hby d_pick_24) rfl ?_
        show Steps p.tables e below (s₁.setTop (mkF m 25 #[.val (.int p1), .val (.int ((p1 &&& (2147483647 : Int32)) % (5 : Int32)))] [(.int ((p1 &&& (2147483647 : Int32)) % (5 : Int32)))])) _
        refine XS.iconst X0.here hx rfl (hb hby d_pick_25) ?_
        show Steps p.tables e below (s₁.setTop (mkF m 26 #[.val (.int p1), .val (.int ((p1 &&& (2147483647 : Int32)) % (5 : Int32)))] [(.int (2 : Int32)), (.int ((p1 &&& (2147483647 : Int32)) % (5 : Int32)))])) _
        exact k
      by_cases hc12 : ((p1 &&& (2147483647 : Int32)) % (5 : Int32)) = (2 : Int32)
      · skip
        have pre_13 : ∀ t, Steps p.tables e below (s₁.setTop (mkF m 29 #[.val (.int p1), .val (.int ((p1 &&& (2147483647 : Int32)) % (5 : Int32)))] [])) t → Steps p.tables e below (s₁.setTop (entryFrame m #[(.int p1)] 2)) t := by
          intro t k
          refine pre_11 t ?_
          show Steps p.tables e below (s₁.setTop (mkF m 26 #[.val (.int p1), .val (.int ((p1 &&& (2147483647 : Int32)) % (5 : Int32)))] [(.int (2 : Int32)), (.int ((p1 &&& (2147483647 : Int32)) % (5 : Int32)))])) _
          refine XS.icmpNo X0.here hx rfl (hb hby d_pick_26) rfl (XT.ii_ne_f hc12) ?_
          show Steps p.tables e below (s₁.setTop (mkF m 29 #[.val (.int p1), .val (.int ((p1 &&& (2147483647 : Int32)) % (5 : Int32)))] [])) _
          exact k
        obtain ⟨T14, X14, e14, st14⟩ := getS X0 hx hZ hown (host := "") (hw _ (List.mem_of_getElem? (i := 45) rfl)) Via.refl e0 (S_aDT.ext O0.2) (g := (mkF m 29 #[.val (.int p1), .val (.int ((p1 &&& (2147483647 : Int32)) % (5 : Int32)))] [])) rfl (hb hby d_pick_29)
        have pre_15 : ∀ t, Steps p.tables e below (T14.setTop (mkF m 32 #[.val (.int p1), .val (.int ((p1 &&& (2147483647 : Int32)) % (5 : Int32)))] [(.ref aDT)])) t → Steps p.tables e below (s₁.setTop (entryFrame m #[(.int p1)] 2)) t := fun t k => pre_13 t (st14 t k)
        obtain ⟨fs, hr, hrun, hended, hW, hsame⟩ := X14.leave (v := some (.ref aDT)) (fun h => by rw [Bd.returns] at h; cases h)
        refine ⟨_, _, pre_15 _ ?_, hrun, hended, _, _, rfl, ?_, ⟨_, rfl⟩, hW, hsame.mono (by decide) (by decide)⟩
        · show Steps p.tables e below (T14.setTop (mkF m 32 #[.val (.int p1), .val (.int ((p1 &&& (2147483647 : Int32)) % (5 : Int32)))] [(.ref aDT)])) _
          exact retOut X14 hx (t := (.object "com/example/vaxwire/vaxwire/hl7/DataType")) Bd.returns rfl (Or.inr (Or.inr (Or.inr (Or.inr ⟨rfl, rfl, rfl⟩)))) (hb hby d_pick_32) hr
        · show Q_pick Z p1 aTS aSI aNM aDT aDR h0 n0 _ T14.heap _
          rw [e14]
          exact ⟨aDT, rfl, N0, rfl⟩
      · skip
        have pre_16 : ∀ t, Steps p.tables e below (s₁.setTop (mkF m 35 #[.val (.int p1), .val (.int ((p1 &&& (2147483647 : Int32)) % (5 : Int32)))] [(.int (3 : Int32)), (.int ((p1 &&& (2147483647 : Int32)) % (5 : Int32)))])) t → Steps p.tables e below (s₁.setTop (entryFrame m #[(.int p1)] 2)) t := by
          intro t k
          refine pre_11 t ?_
          show Steps p.tables e below (s₁.setTop (mkF m 26 #[.val (.int p1), .val (.int ((p1 &&& (2147483647 : Int32)) % (5 : Int32)))] [(.int (2 : Int32)), (.int ((p1 &&& (2147483647 : Int32)) % (5 : Int32)))])) _
          refine XS.icmpYes X0.here hx rfl (pc0 := 26) (pc' := 33) rfl (hb hby d_pick_26) rfl (XT.ii_ne_t hc12) (by decide) (by decide) ?_
          show Steps p.tables e below (s₁.setTop (mkF m 33 #[.val (.int p1), .val (.int ((p1 &&& (2147483647 : Int32)) % (5 : Int32)))] [])) _
          refine XS.iloadN X0.here hx rfl (hb hby d_pick_33) rfl ?_
          show Steps p.tables e below (s₁.setTop (mkF m 34 #[.val (.int p1), .val (.int ((p1 &&& (2147483647 : Int32)) % (5 : Int32)))] [(.int ((p1 &&& (2147483647 : Int32)) % (5 : Int32)))])) _
          refine XS.iconst X0.here hx rfl (hb hby d_pick_34) ?_
          show Steps p.tables e below (s₁.setTop (mkF m 35 #[.val (.int p1), .val (.int ((p1 &&& (2147483647 : Int32)) % (5 : Int32)))] [(.int (3 : Int32)), (.int ((p1 &&& (2147483647 : Int32)) % (5 : Int32)))])) _
          exact k
        by_cases hc17 : ((p1 &&& (2147483647 : Int32)) % (5 : Int32)) = (3 : Int32)
        · skip
          have pre_18 : ∀ t, Steps p.tables e below (s₁.setTop (mkF m 38 #[.val (.int p1), .val (.int ((p1 &&& (2147483647 : Int32)) % (5 : Int32)))] [])) t → Steps p.tables e below (s₁.setTop (entryFrame m #[(.int p1)] 2)) t := by
            intro t k
            refine pre_16 t ?_
            show Steps p.tables e below (s₁.setTop (mkF m 35 #[.val (.int p1), .val (.int ((p1 &&& (2147483647 : Int32)) % (5 : Int32)))] [(.int (3 : Int32)), (.int ((p1 &&& (2147483647 : Int32)) % (5 : Int32)))])) _
            refine XS.icmpNo X0.here hx rfl (hb hby d_pick_35) rfl (XT.ii_ne_f hc17) ?_
            show Steps p.tables e below (s₁.setTop (mkF m 38 #[.val (.int p1), .val (.int ((p1 &&& (2147483647 : Int32)) % (5 : Int32)))] [])) _
            exact k
          obtain ⟨T19, X19, e19, st19⟩ := getS X0 hx hZ hown (host := "") (hw _ (List.mem_of_getElem? (i := 5) rfl)) Via.refl e0 (S_aTS.ext O0.2) (g := (mkF m 38 #[.val (.int p1), .val (.int ((p1 &&& (2147483647 : Int32)) % (5 : Int32)))] [])) rfl (hb hby d_pick_38)
          have pre_20 : ∀ t, Steps p.tables e below (T19.setTop (mkF m 41 #[.val (.int p1), .val (.int ((p1 &&& (2147483647 : Int32)) % (5 : Int32)))] [(.ref aTS)])) t → Steps p.tables e below (s₁.setTop (entryFrame m #[(.int p1)] 2)) t := fun t k => pre_18 t (st19 t k)
          obtain ⟨fs, hr, hrun, hended, hW, hsame⟩ := X19.leave (v := some (.ref aTS)) (fun h => by rw [Bd.returns] at h; cases h)
          refine ⟨_, _, pre_20 _ ?_, hrun, hended, _, _, rfl, ?_, ⟨_, rfl⟩, hW, hsame.mono (by decide) (by decide)⟩
          · show Steps p.tables e below (T19.setTop (mkF m 41 #[.val (.int p1), .val (.int ((p1 &&& (2147483647 : Int32)) % (5 : Int32)))] [(.ref aTS)])) _
            exact retOut X19 hx (t := (.object "com/example/vaxwire/vaxwire/hl7/DataType")) Bd.returns rfl (Or.inr (Or.inr (Or.inr (Or.inr ⟨rfl, rfl, rfl⟩)))) (hb hby d_pick_41) hr
          · show Q_pick Z p1 aTS aSI aNM aDT aDR h0 n0 _ T19.heap _
            rw [e19]
            exact ⟨aTS, rfl, N0, rfl⟩
        · skip
          have pre_21 : ∀ t, Steps p.tables e below (s₁.setTop (mkF m 42 #[.val (.int p1), .val (.int ((p1 &&& (2147483647 : Int32)) % (5 : Int32)))] [])) t → Steps p.tables e below (s₁.setTop (entryFrame m #[(.int p1)] 2)) t := by
            intro t k
            refine pre_16 t ?_
            show Steps p.tables e below (s₁.setTop (mkF m 35 #[.val (.int p1), .val (.int ((p1 &&& (2147483647 : Int32)) % (5 : Int32)))] [(.int (3 : Int32)), (.int ((p1 &&& (2147483647 : Int32)) % (5 : Int32)))])) _
            refine XS.icmpYes X0.here hx rfl (pc0 := 35) (pc' := 42) rfl (hb hby d_pick_35) rfl (XT.ii_ne_t hc17) (by decide) (by decide) ?_
            show Steps p.tables e below (s₁.setTop (mkF m 42 #[.val (.int p1), .val (.int ((p1 &&& (2147483647 : Int32)) % (5 : Int32)))] [])) _
            exact k
          obtain ⟨T22, X22, e22, st22⟩ := getS X0 hx hZ hown (host := "") (hw _ (List.mem_of_getElem? (i := 47) rfl)) Via.refl e0 (S_aDR.ext O0.2) (g := (mkF m 42 #[.val (.int p1), .val (.int ((p1 &&& (2147483647 : Int32)) % (5 : Int32)))] [])) rfl (hb hby d_pick_42)
          have pre_23 : ∀ t, Steps p.tables e below (T22.setTop (mkF m 45 #[.val (.int p1), .val (.int ((p1 &&& (2147483647 : Int32)) % (5 : Int32)))] [(.ref aDR)])) t → Steps p.tables e below (s₁.setTop (entryFrame m #[(.int p1)] 2)) t := fun t k => pre_21 t (st22 t k)
          obtain ⟨fs, hr, hrun, hended, hW, hsame⟩ := X22.leave (v := some (.ref aDR)) (fun h => by rw [Bd.returns] at h; cases h)
          refine ⟨_, _, pre_23 _ ?_, hrun, hended, _, _, rfl, ?_, ⟨_, rfl⟩, hW, hsame.mono (by decide) (by decide)⟩
          · show Steps p.tables e below (T22.setTop (mkF m 45 #[.val (.int p1), .val (.int ((p1 &&& (2147483647 : Int32)) % (5 : Int32)))] [(.ref aDR)])) _
            exact retOut X22 hx (t := (.object "com/example/vaxwire/vaxwire/hl7/DataType")) Bd.returns rfl (Or.inr (Or.inr (Or.inr (Or.inr ⟨rfl, rfl, rfl⟩)))) (hb hby d_pick_45) hr
          · show Q_pick Z p1 aTS aSI aNM aDT aDR h0 n0 _ T22.heap _
            rw [e22]
            exact ⟨aDR, rfl, N0, rfl⟩
theorem d_rec_0 : decode jdk_30_method_1_code 0 = .ok (.aload_n 0, 1) := by decide +kernel
theorem d_rec_1 : decode jdk_30_method_1_code 1 = .ok (.invokespecial 1, 3) := by decide +kernel
theorem d_rec_4 : decode jdk_30_method_1_code 4 = .ok (.return_, 1) := by decide +kernel
theorem pn_rec : plainName "java/lang/Record" = true := by first | (simp [plainName, overriddenIn]; done) | decide +kernel
theorem ef_rec (m : MethodId) (a1 : Addr) : entryFrame m #[(.ref a1)] 1 = (mkF m 0 #[.val (.ref a1)] []) := by first | (simp [entryFrame, mkF, argsToLocals, Value.category]; done) | rfl
def Q_rec (Z : State) (a1 : Addr)  (h0 : Heap) (n0 : Nat) (v : Option Value) (h : Heap) (L : List Loc) : Prop := v = none ∧ Fr n0 L ∧ h = h0
set_option maxRecDepth 65536 in
set_option maxHeartbeats 40000000 in
theorem rm_rec (l : Launch) (Z : State) (a0 : Array Value) (hw : ∀ d ∈ tables_1, d.before a0 Z = true) (ws : List Jvm.Cond) (a1 : Addr)  (h0 : Heap) (n0 : Nat) (O0 : Old Z n0 h0)  :
    MetFree l (⟨"java/lang/Record", "<init>", "()V"⟩ : MethodName) (head1 (Jvm.Cond.code (⟨"java/lang/Record", "<init>", "()V"⟩ : MethodName) jdk_30_method_1_code 1 none :: ws) ({ frames := 1, cells := 0, slots := 0, locals := 12 } : Room)) (fun a U => a = #[(.ref a1)] ∧ Z.Warmed39 U.vm ∧ U.heap = h0) (fun _ _ _ _ _ => True) (fun _ U o U' => ∃ v L, o = .returned v ∧ Q_rec Z a1  h0 n0 v U'.heap L ∧ FrameEnd U o U' L ({ frames := 1, cells := 0, slots := 0, locals := 12 } : Room).cells ({ frames := 1, cells := 0, slots := 0, locals := 12 } : Room).slots) := by
  refine MetFree.of_bodySF (plainFor_of_name pn_rec) hisR ?_
  intro p e s m args below meth c s₁ Bd hml0 hP hK
  obtain ⟨rfl, hZ, hh⟩ := hP
  have hx := Bd.exec
  have hby := Bd.bytes
  have hml : c.maxLocals = 1 := hml0
  have hown : s.vm.findClass "java/lang/Record" = some m.cls := findClass_of_methodNamed Bd.named
  have hnm := (name_of_methodNamed Bd.named Bd.method).1
  have X0 : Stand p l e ({ frames := 1, cells := 0, slots := 0, locals := 12 } : Room) s m #[(.ref a1)] below meth c s₁ [] 0 0 := Stand.of_body Bd
  have e0 : s₁.heap = h0 := by rw [← hh, Bd.state]; rfl
  have N0 := Fr.nil n0
  have pre0 : ∀ t, Steps p.tables e below (s₁.setTop (mkF m 0 #[.val (.ref a1)] [])) t → Steps p.tables e below (s₁.setTop (entryFrame m #[(.ref a1)] 1)) t := fun t k => castTop (ef_rec m a1) k
  have pre_1 : ∀ t, Steps p.tables e below (s₁.setTop (mkF m 1 #[.val (.ref a1)] [(.ref a1)])) t → Steps p.tables e below (s₁.setTop (entryFrame m #[(.ref a1)] 1)) t := by
    intro t k
    refine pre0 t ?_
    show Steps p.tables e below (s₁.setTop (mkF m 0 #[.val (.ref a1)] [])) _
    refine XS.aloadN X0.here hx rfl (hb hby d_rec_0) rfl rfl ?_
    show Steps p.tables e below (s₁.setTop (mkF m 1 #[.val (.ref a1)] [(.ref a1)])) _
    exact k
  obtain ⟨T2, X2, e2, st2⟩ := initO X0 hx hZ hown (hw _ (List.mem_of_getElem? (i := 19) rfl)) (hw _ (List.mem_of_getElem? (i := 20) rfl)) (hw _ (List.mem_of_getElem? (i := 21) rfl)) e0 (g := (mkF m 1 #[.val (.ref a1)] [(.ref a1)])) rfl (by rw [hml]; rfl) rfl (hb hby d_rec_1) (by decide) (W := 0) (by show 2 * 0 + _ ≤ _; exact Nat.le_of_eq rfl) (by decide)
  have pre_3 : ∀ t, Steps p.tables e below (T2.setTop (mkF m 4 #[.val (.ref a1)] [])) t → Steps p.tables e below (s₁.setTop (entryFrame m #[(.ref a1)] 1)) t := fun t k => pre_1 t (st2 t k)
  obtain ⟨fs, hr, hrun, hended, hW, hsame⟩ := X2.leave (v := none) (fun _ => rfl)
  refine ⟨_, _, pre_3 _ ?_, hrun, hended, _, _, rfl, ?_, ⟨_, rfl⟩, hW, hsame.mono (by decide) (by decide)⟩
  · show Steps p.tables e below (T2.setTop (mkF m 4 #[.val (.ref a1)] [])) _
    exact X2.returnOut hx Bd.returns (hb hby d_rec_4) hr
  · show Q_rec Z a1  h0 n0 _ T2.heap _
    rw [e2]
    exact ⟨rfl, N0, rfl⟩
theorem d_ini_0 : decode prog_61_method_1_code 0 = .ok (.aload_n 0, 1) := by decide +kernel
theorem d_ini_1 : decode prog_61_method_1_code 1 = .ok (.invokespecial 3, 3) := by decide +kernel
theorem d_ini_4 : decode prog_61_method_1_code 4 = .ok (.aload_n 0, 1) := by decide +kernel
theorem d_ini_5 : decode prog_61_method_1_code 5 = .ok (.iload_n 1, 1) := by decide +kernel
theorem d_ini_6 : decode prog_61_method_1_code 6 = .ok (.putfield 9, 3) := by decide +kernel
theorem d_ini_9 : decode prog_61_method_1_code 9 = .ok (.aload_n 0, 1) := by decide +kernel
theorem d_ini_10 : decode prog_61_method_1_code 10 = .ok (.aload_n 2, 1) := by decide +kernel
theorem d_ini_11 : decode prog_61_method_1_code 11 = .ok (.putfield 15, 3) := by decide +kernel
theorem d_ini_14 : decode prog_61_method_1_code 14 = .ok (.return_, 1) := by decide +kernel
theorem pn_ini : plainName "com/example/vaxwire/vaxwire/hl7/FieldTypes$Typed" = true := by first | (simp [plainName, overriddenIn]; done) | decide +kernel
theorem pd_ini_0 : parseMethodDescriptor "()V" = some ⟨[], none⟩ := by decide +kernel
theorem ef_ini (m : MethodId) (a1 : Addr) (p2 : Int32) (a3 : Addr) : entryFrame m #[(.ref a1), (.int p2), (.ref a3)] 3 = (mkF m 0 #[.val (.ref a1), .val (.int p2), .val (.ref a3)] []) := by first | (simp [entryFrame, mkF, argsToLocals, Value.category]; done) | rfl
def Q_ini (Z : State) (a1 : Addr) (p2 : Int32) (a3 : Addr) (u1 u2 : Value) (h0 : Heap) (n0 : Nat) (v : Option Value) (h : Heap) (L : List Loc) : Prop := v = none ∧ Fr n0 L ∧ Keep h0 h [a1] ∧ Fld Z h a1 "com/example/vaxwire/vaxwire/hl7/FieldTypes$Typed" "component" "I" (.int p2) ∧ Fld Z h a1 "com/example/vaxwire/vaxwire/hl7/FieldTypes$Typed" "type" "Lcom/example/vaxwire/vaxwire/hl7/DataType;" (.ref a3)
set_option maxRecDepth 65536 in
set_option maxHeartbeats 40000000 in
theorem rm_ini (l : Launch) (Z : State) (a0 : Array Value) (hw : ∀ d ∈ tables_1, d.before a0 Z = true) (ws : List Jvm.Cond) (a1 : Addr) (p2 : Int32) (a3 : Addr) (u1 u2 : Value) (h0 : Heap) (n0 : Nat) (O0 : Old Z n0 h0) (E1 : Exa Z h0 a1 "com/example/vaxwire/vaxwire/hl7/FieldTypes$Typed") (F1 : Fld Z h0 a1 "com/example/vaxwire/vaxwire/hl7/FieldTypes$Typed" "component" "I" u1) (F2 : Fld Z h0 a1 "com/example/vaxwire/vaxwire/hl7/FieldTypes$Typed" "type" "Lcom/example/vaxwire/vaxwire/hl7/DataType;" u2) (g1 : n0 ≤ a1) :
    MetFree l (⟨"com/example/vaxwire/vaxwire/hl7/FieldTypes$Typed", "<init>", "(ILcom/example/vaxwire/vaxwire/hl7/DataType;)V"⟩ : MethodName) (head1 (Jvm.Cond.code (⟨"com/example/vaxwire/vaxwire/hl7/FieldTypes$Typed", "<init>", "(ILcom/example/vaxwire/vaxwire/hl7/DataType;)V"⟩ : MethodName) prog_61_method_1_code 3 none :: ws) ({ frames := 2, cells := 0, slots := 0, locals := 24 } : Room)) (fun a U => a = #[(.ref a1), (.int p2), (.ref a3)] ∧ Z.Warmed39 U.vm ∧ U.heap = h0) (fun _ _ _ _ _ => True) (fun _ U o U' => ∃ v L, o = .returned v ∧ Q_ini Z a1 p2 a3 u1 u2 h0 n0 v U'.heap L ∧ FrameEnd U o U' L ({ frames := 2, cells := 0, slots := 0, locals := 24 } : Room).cells ({ frames := 2, cells := 0, slots := 0, locals := 24 } : Room).slots) := by
  refine MetFree.of_bodySF (plainFor_of_name pn_ini) hisR ?_
  intro p e s m args below meth c s₁ Bd hml0 hP hK
  obtain ⟨rfl, hZ, hh⟩ := hP
  have hx := Bd.exec
  have hby := Bd.bytes
  have hml : c.maxLocals = 3 := hml0
  have hown : s.vm.findClass "com/example/vaxwire/vaxwire/hl7/FieldTypes$Typed" = some m.cls := findClass_of_methodNamed Bd.named
  have hnm := (name_of_methodNamed Bd.named Bd.method).1
  have X0 : Stand p l e ({ frames := 2, cells := 0, slots := 0, locals := 24 } : Room) s m #[(.ref a1), (.int p2), (.ref a3)] below meth c s₁ [] 0 0 := Stand.of_body Bd
  have e0 : s₁.heap = h0 := by rw [← hh, Bd.state]; rfl
  have N0 := Fr.nil n0
  have pre0 : ∀ t, Steps p.tables e below (s₁.setTop (mkF m 0 #[.val (.ref a1), .val (.int p2), .val (.ref a3)] [])) t → Steps p.tables e below (s₁.setTop (entryFrame m #[(.ref a1), (.int p2), (.ref a3)] 3)) t := fun t k => castTop (ef_ini m a1 p2 a3) k
  have pre_1 : ∀ t, Steps p.tables e below (s₁.setTop (mkF m 1 #[.val (.ref a1), .val (.int p2), .val (.ref a3)] [(.ref a1)])) t → Steps p.tables e below (s₁.setTop (entryFrame m #[(.ref a1), (.int p2), (.ref a3)] 3)) t := by
    intro t k
    refine pre0 t ?_
    show Steps p.tables e below (s₁.setTop (mkF m 0 #[.val (.ref a1), .val (.int p2), .val (.ref a3)] [])) _
    refine XS.aloadN X0.here hx rfl (hb hby d_ini_0) rfl rfl ?_
    show Steps p.tables e below (s₁.setTop (mkF m 1 #[.val (.ref a1), .val (.int p2), .val (.ref a3)] [(.ref a1)])) _
    exact k
  obtain ⟨_, _, ⟨T2, L2, k2, n2⟩, -, X2, ⟨Lc2, hQ2, l2, y2, z2⟩, st2⟩ := X0.specialBack hx (y := (⟨"java/lang/Record", "<init>", "()V"⟩ : MethodName)) rfl hown (mvT hZ (hw _ (List.mem_of_getElem? (i := 14) rfl))) (mvT hZ (hw _ (List.mem_of_getElem? (i := 15) rfl))) (mvT hZ (hw _ (List.mem_of_getElem? (i := 18) rfl))) (by decide) (backOf (W := 0) (rm_rec l Z a0 hw [] a1 h0 n0 O0) hZ (hw _ (List.mem_of_getElem? (i := 18) rfl)) (hw _ (List.mem_of_getElem? (i := 17) rfl)) (by decide) (by decide)) (g := (mkF m 1 #[.val (.ref a1), .val (.int p2), .val (.ref a3)] [(.ref a1)])) rfl (by rw [hml]; rfl) (Steps.refl _) (a := a1) (argsL := []) (rest := []) (lenOf pd_ini_0 rfl) rfl (by show 2 * 0 + _ ≤ _; exact Nat.le_of_eq rfl) (hb hby d_ini_1) (fun _ _ => ⟨rfl, e0, (by decide : 0 + 0 ≤ _), (by decide : 0 + 0 ≤ _)⟩)
  dsimp only [Pt.U, Pt.locs, Pt.cells, Pt.slots] at X2 l2 y2 z2 st2 hQ2
  subst l2 y2 z2
  obtain ⟨rfl, N2q, e2⟩ := hQ2
  have N2 := Fr.app N0 N2q
  have pre_3 : ∀ t, Steps p.tables e below (T2.setTop (mkF m 4 #[.val (.ref a1), .val (.int p2), .val (.ref a3)] [])) t → Steps p.tables e below (s₁.setTop (entryFrame m #[(.ref a1), (.int p2), (.ref a3)] 3)) t := fun t k => pre_1 t (st2.trans k)
  have pre_4 : ∀ t, Steps p.tables e below (T2.setTop (mkF m 6 #[.val (.ref a1), .val (.int p2), .val (.ref a3)] [(.int p2), (.ref a1)])) t → Steps p.tables e below (s₁.setTop (entryFrame m #[(.ref a1), (.int p2), (.ref a3)] 3)) t := by
    intro t k
    refine pre_3 t ?_
    show Steps p.tables e below (T2.setTop (mkF m 4 #[.val (.ref a1), .val (.int p2), .val (.ref a3)] [])) _
    refine XS.aloadN X2.here hx rfl (hb hby d_ini_4) rfl rfl ?_
    show Steps p.tables e below (T2.setTop (mkF m 5 #[.val (.ref a1), .val (.int p2), .val (.ref a3)] [(.ref a1)])) _
    refine XS.iloadN X2.here hx rfl (hb hby d_ini_5) rfl ?_
    show Steps p.tables e below (T2.setTop (mkF m 6 #[.val (.ref a1), .val (.int p2), .val (.ref a3)] [(.int p2), (.ref a1)])) _
    exact k
  obtain ⟨T5, h5, X5, e5, W5, st5⟩ := putF X2 hx hZ hown (host := "") (Or.inl (hw _ (List.mem_of_getElem? (i := 22) rfl))) Via.refl e2 F1 E1 (Or.inr ⟨(hw _ (List.mem_of_getElem? (i := 23) rfl)), rfl, hnm⟩) (hw _ (List.mem_of_getElem? (i := 9) rfl)) (ty := .int) (by decide) rfl rfl (g := (mkF m 6 #[.val (.ref a1), .val (.int p2), .val (.ref a3)] [(.int p2), (.ref a1)])) rfl rfl (hb hby d_ini_6)
  have Fw5 := F1.same W5
  have N5 := Fr.snoc X5 N2 g1
  have O5 : Old Z n0 h5 := O0.wr W5 g1
  have pre_6 : ∀ t, Steps p.tables e below (T5.setTop (mkF m 9 #[.val (.ref a1), .val (.int p2), .val (.ref a3)] [])) t → Steps p.tables e below (s₁.setTop (entryFrame m #[(.ref a1), (.int p2), (.ref a3)] 3)) t := fun t k => pre_4 t (st5 t k)
  have pre_7 : ∀ t, Steps p.tables e below (T5.setTop (mkF m 11 #[.val (.ref a1), .val (.int p2), .val (.ref a3)] [(.ref a3), (.ref a1)])) t → Steps p.tables e below (s₁.setTop (entryFrame m #[(.ref a1), (.int p2), (.ref a3)] 3)) t := by
    intro t k
    refine pre_6 t ?_
    show Steps p.tables e below (T5.setTop (mkF m 9 #[.val (.ref a1), .val (.int p2), .val (.ref a3)] [])) _
    refine XS.aloadN X5.here hx rfl (hb hby d_ini_9) rfl rfl ?_
    show Steps p.tables e below (T5.setTop (mkF m 10 #[.val (.ref a1), .val (.int p2), .val (.ref a3)] [(.ref a1)])) _
    refine XS.aloadN X5.here hx rfl (hb hby d_ini_10) rfl rfl ?_
    show Steps p.tables e below (T5.setTop (mkF m 11 #[.val (.ref a1), .val (.int p2), .val (.ref a3)] [(.ref a3), (.ref a1)])) _
    exact k
  obtain ⟨T8, h8, X8, e8, W8, st8⟩ := putF X5 hx hZ hown (host := "") (Or.inl (hw _ (List.mem_of_getElem? (i := 24) rfl))) Via.refl e5 (F2.other W5 (Or.inr (slot_ne (Or.inr (hw _ (List.mem_of_getElem? (i := 25) rfl))) (Or.inr (hw _ (List.mem_of_getElem? (i := 23) rfl))) (by decide) (t := (.object "com/example/vaxwire/vaxwire/hl7/DataType")) (t' := .int) (by decide) (by decide)))) (E1.wr W5) (Or.inr ⟨(hw _ (List.mem_of_getElem? (i := 25) rfl)), rfl, hnm⟩) (hw _ (List.mem_of_getElem? (i := 9) rfl)) (ty := (.object "com/example/vaxwire/vaxwire/hl7/DataType")) (by decide) rfl rfl (g := (mkF m 11 #[.val (.ref a1), .val (.int p2), .val (.ref a3)] [(.ref a3), (.ref a1)])) rfl rfl (hb hby d_ini_11)
  have Fw8 := (F2.other W5 (Or.inr (slot_ne (Or.inr (hw _ (List.mem_of_getElem? (i := 25) rfl))) (Or.inr (hw _ (List.mem_of_getElem? (i := 23) rfl))) (by decide) (t := (.object "com/example/vaxwire/vaxwire/hl7/DataType")) (t' := .int) (by decide) (by decide)))).same W8
  have N8 := Fr.snoc X8 N5 g1
  have O8 : Old Z n0 h8 := O5.wr W8 g1
  have pre_9 : ∀ t, Steps p.tables e below (T8.setTop (mkF m 14 #[.val (.ref a1), .val (.int p2), .val (.ref a3)] [])) t → Steps p.tables e below (s₁.setTop (entryFrame m #[(.ref a1), (.int p2), (.ref a3)] 3)) t := fun t k => pre_7 t (st8 t k)
  obtain ⟨fs, hr, hrun, hended, hW, hsame⟩ := X8.leave (v := none) (fun _ => rfl)
  refine ⟨_, _, pre_9 _ ?_, hrun, hended, _, _, rfl, ?_, ⟨_, rfl⟩, hW, hsame.mono (by decide) (by decide)⟩
  · show Steps p.tables e below (T8.setTop (mkF m 14 #[.val (.ref a1), .val (.int p2), .val (.ref a3)] [])) _
    exact X8.returnOut hx Bd.returns (hb hby d_ini_14) hr
  · show Q_ini Z a1 p2 a3 u1 u2 h0 n0 _ T8.heap _
    rw [e8]
    exact ⟨rfl, N8, (((Keep.refl h0 [a1]).wr W5 (Or.inl (List.mem_of_getElem? (i := 0) rfl))).wr W8 (Or.inl (List.mem_of_getElem? (i := 0) rfl))), (Fw5.other W8 (Or.inr (slot_ne (Or.inr (hw _ (List.mem_of_getElem? (i := 23) rfl))) (Or.inr (hw _ (List.mem_of_getElem? (i := 25) rfl))) (by decide) (t := .int) (t' := (.object "com/example/vaxwire/vaxwire/hl7/DataType")) (by decide) (by decide)))), Fw8⟩
theorem d_whole_0 : decode prog_61_method_2_code 0 = .ok (.aload_n 0, 1) := by decide +kernel
theorem d_whole_1 : decode prog_61_method_2_code 1 = .ok (.getfield 9, 3) := by decide +kernel
theorem d_whole_4 : decode prog_61_method_2_code 4 = .ok (.ifCond .ne 7, 3) := by decide +kernel
theorem d_whole_7 : decode prog_61_method_2_code 7 = .ok (.iconst 1, 1) := by decide +kernel
theorem d_whole_8 : decode prog_61_method_2_code 8 = .ok (.goto 4, 3) := by decide +kernel
theorem d_whole_11 : decode prog_61_method_2_code 11 = .ok (.iconst 0, 1) := by decide +kernel
theorem d_whole_12 : decode prog_61_method_2_code 12 = .ok (.ireturn, 1) := by decide +kernel
theorem pn_whole : plainName "com/example/vaxwire/vaxwire/hl7/FieldTypes$Typed" = true := by first | (simp [plainName, overriddenIn]; done) | decide +kernel
theorem ef_whole (m : MethodId) (a1 : Addr) : entryFrame m #[(.ref a1)] 1 = (mkF m 0 #[.val (.ref a1)] []) := by first | (simp [entryFrame, mkF, argsToLocals, Value.category]; done) | rfl
def Q_whole (Z : State) (a1 : Addr) (w2 : Int32) (h0 : Heap) (n0 : Nat) (v : Option Value) (h : Heap) (L : List Loc) : Prop := v = some (.int (if w2 = 0 then (1 : Int32) else 0)) ∧ Fr n0 L ∧ h = h0
set_option maxRecDepth 65536 in
set_option maxHeartbeats 40000000 in
theorem rm_whole (l : Launch) (Z : State) (a0 : Array Value) (hw : ∀ d ∈ tables_1, d.before a0 Z = true) (ws : List Jvm.Cond) (a1 : Addr) (w2 : Int32) (h0 : Heap) (n0 : Nat) (O0 : Old Z n0 h0) (F1 : Fld Z h0 a1 "com/example/vaxwire/vaxwire/hl7/FieldTypes$Typed" "component" "I" (.int w2)) :
    MetFree l (⟨"com/example/vaxwire/vaxwire/hl7/FieldTypes$Typed", "whole", "()Z"⟩ : MethodName) (head1 (Jvm.Cond.code (⟨"com/example/vaxwire/vaxwire/hl7/FieldTypes$Typed", "whole", "()Z"⟩ : MethodName) prog_61_method_2_code 1 (some .boolean) :: ws) ({ frames := 0, cells := 0, slots := 0, locals := 0 } : Room)) (fun a U => a = #[(.ref a1)] ∧ Z.Warmed39 U.vm ∧ U.heap = h0) (fun _ _ _ _ _ => True) (fun _ U o U' => ∃ v L, o = .returned v ∧ Q_whole Z a1 w2 h0 n0 v U'.heap L ∧ FrameEnd U o U' L ({ frames := 0, cells := 0, slots := 0, locals := 0 } : Room).cells ({ frames := 0, cells := 0, slots := 0, locals := 0 } : Room).slots) := by
  refine MetFree.of_bodySF (plainFor_of_name pn_whole) hisR ?_
  intro p e s m args below meth c s₁ Bd hml0 hP hK
  obtain ⟨rfl, hZ, hh⟩ := hP
  have hx := Bd.exec
  have hby := Bd.bytes
  have hml : c.maxLocals = 1 := hml0
  have hown : s.vm.findClass "com/example/vaxwire/vaxwire/hl7/FieldTypes$Typed" = some m.cls := findClass_of_methodNamed Bd.named
  have hnm := (name_of_methodNamed Bd.named Bd.method).1
  have X0 : Stand p l e ({ frames := 0, cells := 0, slots := 0, locals := 0 } : Room) s m #[(.ref a1)] below meth c s₁ [] 0 0 := Stand.of_body Bd
  have e0 : s₁.heap = h0 := by rw [← hh, Bd.state]; rfl
  have N0 := Fr.nil n0
  have pre0 : ∀ t, Steps p.tables e below (s₁.setTop (mkF m 0 #[.val (.ref a1)] [])) t → Steps p.tables e below (s₁.setTop (entryFrame m #[(.ref a1)] 1)) t := fun t k => castTop (ef_whole m a1) k
  have pre_1 : ∀ t, Steps p.tables e below (s₁.setTop (mkF m 1 #[.val (.ref a1)] [(.ref a1)])) t → Steps p.tables e below (s₁.setTop (entryFrame m #[(.ref a1)] 1)) t := by
    intro t k
    refine pre0 t ?_
    show Steps p.tables e below (s₁.setTop (mkF m 0 #[.val (.ref a1)] [])) _
    refine XS.aloadN X0.here hx rfl (hb hby d_whole_0) rfl rfl ?_
    show Steps p.tables e below (s₁.setTop (mkF m 1 #[.val (.ref a1)] [(.ref a1)])) _
    exact k
  obtain ⟨T2, X2, e2, st2⟩ := getF X0 hx hZ hown (host := "") (Or.inl (hw _ (List.mem_of_getElem? (i := 22) rfl))) Via.refl e0 F1 (g := (mkF m 1 #[.val (.ref a1)] [(.ref a1)])) rfl rfl (hb hby d_whole_1)
  have pre_3 : ∀ t, Steps p.tables e below (T2.setTop (mkF m 4 #[.val (.ref a1)] [(.int w2)])) t → Steps p.tables e below (s₁.setTop (entryFrame m #[(.ref a1)] 1)) t := fun t k => pre_1 t (st2 t k)
  by_cases hc4 : w2 = (0 : Int32)
  · skip
    have pre_5 : ∀ t, Steps p.tables e below (T2.setTop (mkF m 12 #[.val (.ref a1)] [(.int (1 : Int32))])) t → Steps p.tables e below (s₁.setTop (entryFrame m #[(.ref a1)] 1)) t := by
      intro t k
      refine pre_3 t ?_
      show Steps p.tables e below (T2.setTop (mkF m 4 #[.val (.ref a1)] [(.int w2)])) _
      refine XS.ifNo X2.here hx rfl (hb hby d_whole_4) rfl (XT.i0_ne_f hc4) ?_
      show Steps p.tables e below (T2.setTop (mkF m 7 #[.val (.ref a1)] [])) _
      refine XS.iconst X2.here hx rfl (hb hby d_whole_7) ?_
      show Steps p.tables e below (T2.setTop (mkF m 8 #[.val (.ref a1)] [(.int (1 : Int32))])) _
      refine XS.goto X2.here hx rfl (pc0 := 8) (pc' := 12) rfl (hb hby d_whole_8) (by decide) (by decide) ?_
      show Steps p.tables e below (T2.setTop (mkF m 12 #[.val (.ref a1)] [(.int (1 : Int32))])) _
      exact k
    obtain ⟨fs, hr, hrun, hended, hW, hsame⟩ := X2.leave (v := some (.int (1 : Int32))) (fun h => by rw [Bd.returns] at h; cases h)
    refine ⟨_, _, pre_5 _ ?_, hrun, hended, _, _, rfl, ?_, ⟨_, rfl⟩, hW, hsame.mono (by decide) (by decide)⟩
    · show Steps p.tables e below (T2.setTop (mkF m 12 #[.val (.ref a1)] [(.int (1 : Int32))])) _
      exact retN X2 hx (t := .boolean) Bd.returns (by simp) (hb hby d_whole_12) hr
    · show Q_whole Z a1 w2 h0 n0 _ T2.heap _
      rw [e2]
      exact ⟨by simp [hc4], N0, rfl⟩
  · skip
    have pre_6 : ∀ t, Steps p.tables e below (T2.setTop (mkF m 12 #[.val (.ref a1)] [(.int (0 : Int32))])) t → Steps p.tables e below (s₁.setTop (entryFrame m #[(.ref a1)] 1)) t := by
      intro t k
      refine pre_3 t ?_
      show Steps p.tables e below (T2.setTop (mkF m 4 #[.val (.ref a1)] [(.int w2)])) _
      refine XS.ifYes X2.here hx rfl (pc0 := 4) (pc' := 11) rfl (hb hby d_whole_4) rfl (XT.i0_ne_t hc4) (by decide) (by decide) ?_
      show Steps p.tables e below (T2.setTop (mkF m 11 #[.val (.ref a1)] [])) _
      refine XS.iconst X2.here hx rfl (hb hby d_whole_11) ?_
      show Steps p.tables e below (T2.setTop (mkF m 12 #[.val (.ref a1)] [(.int (0 : Int32))])) _
      exact k
    obtain ⟨fs, hr, hrun, hended, hW, hsame⟩ := X2.leave (v := some (.int (0 : Int32))) (fun h => by rw [Bd.returns] at h; cases h)
    refine ⟨_, _, pre_6 _ ?_, hrun, hended, _, _, rfl, ?_, ⟨_, rfl⟩, hW, hsame.mono (by decide) (by decide)⟩
    · show Steps p.tables e below (T2.setTop (mkF m 12 #[.val (.ref a1)] [(.int (0 : Int32))])) _
      exact retN X2 hx (t := .boolean) Bd.returns (by simp) (hb hby d_whole_12) hr
    · show Q_whole Z a1 w2 h0 n0 _ T2.heap _
      rw [e2]
      exact ⟨by simp [hc4], N0, rfl⟩
theorem d_comp_0 : decode prog_61_method_6_code 0 = .ok (.aload_n 0, 1) := by decide +kernel
theorem d_comp_1 : decode prog_61_method_6_code 1 = .ok (.getfield 9, 3) := by decide +kernel
theorem d_comp_4 : decode prog_61_method_6_code 4 = .ok (.ireturn, 1) := by decide +kernel
theorem pn_comp : plainName "com/example/vaxwire/vaxwire/hl7/FieldTypes$Typed" = true := by first | (simp [plainName, overriddenIn]; done) | decide +kernel
theorem ef_comp (m : MethodId) (a1 : Addr) : entryFrame m #[(.ref a1)] 1 = (mkF m 0 #[.val (.ref a1)] []) := by first | (simp [entryFrame, mkF, argsToLocals, Value.category]; done) | rfl
def Q_comp (Z : State) (a1 : Addr) (w2 : Int32) (h0 : Heap) (n0 : Nat) (v : Option Value) (h : Heap) (L : List Loc) : Prop := v = some (.int w2) ∧ Fr n0 L ∧ h = h0
set_option maxRecDepth 65536 in
set_option maxHeartbeats 40000000 in
theorem rm_comp (l : Launch) (Z : State) (a0 : Array Value) (hw : ∀ d ∈ tables_1, d.before a0 Z = true) (ws : List Jvm.Cond) (a1 : Addr) (w2 : Int32) (h0 : Heap) (n0 : Nat) (O0 : Old Z n0 h0) (F1 : Fld Z h0 a1 "com/example/vaxwire/vaxwire/hl7/FieldTypes$Typed" "component" "I" (.int w2)) :
    MetFree l (⟨"com/example/vaxwire/vaxwire/hl7/FieldTypes$Typed", "component", "()I"⟩ : MethodName) (head1 (Jvm.Cond.code (⟨"com/example/vaxwire/vaxwire/hl7/FieldTypes$Typed", "component", "()I"⟩ : MethodName) prog_61_method_6_code 1 (some .int) :: ws) ({ frames := 0, cells := 0, slots := 0, locals := 0 } : Room)) (fun a U => a = #[(.ref a1)] ∧ Z.Warmed39 U.vm ∧ U.heap = h0) (fun _ _ _ _ _ => True) (fun _ U o U' => ∃ v L, o = .returned v ∧ Q_comp Z a1 w2 h0 n0 v U'.heap L ∧ FrameEnd U o U' L ({ frames := 0, cells := 0, slots := 0, locals := 0 } : Room).cells ({ frames := 0, cells := 0, slots := 0, locals := 0 } : Room).slots) := by
  refine MetFree.of_bodySF (plainFor_of_name pn_comp) hisR ?_
  intro p e s m args below meth c s₁ Bd hml0 hP hK
  obtain ⟨rfl, hZ, hh⟩ := hP
  have hx := Bd.exec
  have hby := Bd.bytes
  have hml : c.maxLocals = 1 := hml0
  have hown : s.vm.findClass "com/example/vaxwire/vaxwire/hl7/FieldTypes$Typed" = some m.cls := findClass_of_methodNamed Bd.named
  have hnm := (name_of_methodNamed Bd.named Bd.method).1
  have X0 : Stand p l e ({ frames := 0, cells := 0, slots := 0, locals := 0 } : Room) s m #[(.ref a1)] below meth c s₁ [] 0 0 := Stand.of_body Bd
  have e0 : s₁.heap = h0 := by rw [← hh, Bd.state]; rfl
  have N0 := Fr.nil n0
  have pre0 : ∀ t, Steps p.tables e below (s₁.setTop (mkF m 0 #[.val (.ref a1)] [])) t → Steps p.tables e below (s₁.setTop (entryFrame m #[(.ref a1)] 1)) t := fun t k => castTop (ef_comp m a1) k
  have pre_1 : ∀ t, Steps p.tables e below (s₁.setTop (mkF m 1 #[.val (.ref a1)] [(.ref a1)])) t → Steps p.tables e below (s₁.setTop (entryFrame m #[(.ref a1)] 1)) t := by
    intro t k
    refine pre0 t ?_
    show Steps p.tables e below (s₁.setTop (mkF m 0 #[.val (.ref a1)] [])) _
    refine XS.aloadN X0.here hx rfl (hb hby d_comp_0) rfl rfl ?_
    show Steps p.tables e below (s₁.setTop (mkF m 1 #[.val (.ref a1)] [(.ref a1)])) _
    exact k
  obtain ⟨T2, X2, e2, st2⟩ := getF X0 hx hZ hown (host := "") (Or.inl (hw _ (List.mem_of_getElem? (i := 22) rfl))) Via.refl e0 F1 (g := (mkF m 1 #[.val (.ref a1)] [(.ref a1)])) rfl rfl (hb hby d_comp_1)
  have pre_3 : ∀ t, Steps p.tables e below (T2.setTop (mkF m 4 #[.val (.ref a1)] [(.int w2)])) t → Steps p.tables e below (s₁.setTop (entryFrame m #[(.ref a1)] 1)) t := fun t k => pre_1 t (st2 t k)
  obtain ⟨fs, hr, hrun, hended, hW, hsame⟩ := X2.leave (v := some (.int w2)) (fun h => by rw [Bd.returns] at h; cases h)
  refine ⟨_, _, pre_3 _ ?_, hrun, hended, _, _, rfl, ?_, ⟨_, rfl⟩, hW, hsame.mono (by decide) (by decide)⟩
  · show Steps p.tables e below (T2.setTop (mkF m 4 #[.val (.ref a1)] [(.int w2)])) _
    exact retI X2 hx Bd.returns (hb hby d_comp_4) hr
  · show Q_comp Z a1 w2 h0 n0 _ T2.heap _
    rw [e2]
    exact ⟨rfl, N0, rfl⟩
theorem d_type_0 : decode prog_61_method_7_code 0 = .ok (.aload_n 0, 1) := by decide +kernel
theorem d_type_1 : decode prog_61_method_7_code 1 = .ok (.getfield 15, 3) := by decide +kernel
theorem d_type_4 : decode prog_61_method_7_code 4 = .ok (.areturn, 1) := by decide +kernel
theorem pn_type : plainName "com/example/vaxwire/vaxwire/hl7/FieldTypes$Typed" = true := by first | (simp [plainName, overriddenIn]; done) | decide +kernel
theorem ef_type (m : MethodId) (a1 : Addr) : entryFrame m #[(.ref a1)] 1 = (mkF m 0 #[.val (.ref a1)] []) := by first | (simp [entryFrame, mkF, argsToLocals, Value.category]; done) | rfl
def Q_type (Z : State) (a1 : Addr) (w2 : Addr) (h0 : Heap) (n0 : Nat) (v : Option Value) (h : Heap) (L : List Loc) : Prop := v = some (.ref w2) ∧ Fr n0 L ∧ h = h0
set_option maxRecDepth 65536 in
set_option maxHeartbeats 40000000 in
theorem rm_type (l : Launch) (Z : State) (a0 : Array Value) (hw : ∀ d ∈ tables_1, d.before a0 Z = true) (ws : List Jvm.Cond) (a1 : Addr) (w2 : Addr) (h0 : Heap) (n0 : Nat) (O0 : Old Z n0 h0) (F1 : Fld Z h0 a1 "com/example/vaxwire/vaxwire/hl7/FieldTypes$Typed" "type" "Lcom/example/vaxwire/vaxwire/hl7/DataType;" (.ref w2)) :
    MetFree l (⟨"com/example/vaxwire/vaxwire/hl7/FieldTypes$Typed", "type", "()Lcom/example/vaxwire/vaxwire/hl7/DataType;"⟩ : MethodName) (head1 (Jvm.Cond.code (⟨"com/example/vaxwire/vaxwire/hl7/FieldTypes$Typed", "type", "()Lcom/example/vaxwire/vaxwire/hl7/DataType;"⟩ : MethodName) prog_61_method_7_code 1 (some (.object "com/example/vaxwire/vaxwire/hl7/DataType")) :: ws) ({ frames := 0, cells := 0, slots := 0, locals := 0 } : Room)) (fun a U => a = #[(.ref a1)] ∧ Z.Warmed39 U.vm ∧ U.heap = h0) (fun _ _ _ _ _ => True) (fun _ U o U' => ∃ v L, o = .returned v ∧ Q_type Z a1 w2 h0 n0 v U'.heap L ∧ FrameEnd U o U' L ({ frames := 0, cells := 0, slots := 0, locals := 0 } : Room).cells ({ frames := 0, cells := 0, slots := 0, locals := 0 } : Room).slots) := by
  refine MetFree.of_bodySF (plainFor_of_name pn_type) hisR ?_
  intro p e s m args below meth c s₁ Bd hml0 hP hK
  obtain ⟨rfl, hZ, hh⟩ := hP
  have hx := Bd.exec
  have hby := Bd.bytes
  have hml : c.maxLocals = 1 := hml0
  have hown : s.vm.findClass "com/example/vaxwire/vaxwire/hl7/FieldTypes$Typed" = some m.cls := findClass_of_methodNamed Bd.named
  have hnm := (name_of_methodNamed Bd.named Bd.method).1
  have X0 : Stand p l e ({ frames := 0, cells := 0, slots := 0, locals := 0 } : Room) s m #[(.ref a1)] below meth c s₁ [] 0 0 := Stand.of_body Bd
  have e0 : s₁.heap = h0 := by rw [← hh, Bd.state]; rfl
  have N0 := Fr.nil n0
  have pre0 : ∀ t, Steps p.tables e below (s₁.setTop (mkF m 0 #[.val (.ref a1)] [])) t → Steps p.tables e below (s₁.setTop (entryFrame m #[(.ref a1)] 1)) t := fun t k => castTop (ef_type m a1) k
  have pre_1 : ∀ t, Steps p.tables e below (s₁.setTop (mkF m 1 #[.val (.ref a1)] [(.ref a1)])) t → Steps p.tables e below (s₁.setTop (entryFrame m #[(.ref a1)] 1)) t := by
    intro t k
    refine pre0 t ?_
    show Steps p.tables e below (s₁.setTop (mkF m 0 #[.val (.ref a1)] [])) _
    refine XS.aloadN X0.here hx rfl (hb hby d_type_0) rfl rfl ?_
    show Steps p.tables e below (s₁.setTop (mkF m 1 #[.val (.ref a1)] [(.ref a1)])) _
    exact k
  obtain ⟨T2, X2, e2, st2⟩ := getF X0 hx hZ hown (host := "") (Or.inl (hw _ (List.mem_of_getElem? (i := 24) rfl))) Via.refl e0 F1 (g := (mkF m 1 #[.val (.ref a1)] [(.ref a1)])) rfl rfl (hb hby d_type_1)
  have pre_3 : ∀ t, Steps p.tables e below (T2.setTop (mkF m 4 #[.val (.ref a1)] [(.ref w2)])) t → Steps p.tables e below (s₁.setTop (entryFrame m #[(.ref a1)] 1)) t := fun t k => pre_1 t (st2 t k)
  obtain ⟨fs, hr, hrun, hended, hW, hsame⟩ := X2.leave (v := some (.ref w2)) (fun h => by rw [Bd.returns] at h; cases h)
  refine ⟨_, _, pre_3 _ ?_, hrun, hended, _, _, rfl, ?_, ⟨_, rfl⟩, hW, hsame.mono (by decide) (by decide)⟩
  · show Steps p.tables e below (T2.setTop (mkF m 4 #[.val (.ref a1)] [(.ref w2)])) _
    exact retOut X2 hx (t := (.object "com/example/vaxwire/vaxwire/hl7/DataType")) Bd.returns rfl (Or.inr (Or.inr (Or.inr (Or.inr ⟨rfl, rfl, rfl⟩)))) (hb hby d_type_4) hr
  · show Q_type Z a1 w2 h0 n0 _ T2.heap _
    rw [e2]
    exact ⟨rfl, N0, rfl⟩
theorem pn_law : plainName "com/example/vaxwire/vaxwire/hl7/TypedWholePinLaw" = true := by first | (simp [plainName, overriddenIn]; done) | decide +kernel
theorem pd_law_0 : parseMethodDescriptor "(I)Lcom/example/vaxwire/vaxwire/hl7/DataType;" = some ⟨[.int], some (.object "com/example/vaxwire/vaxwire/hl7/DataType")⟩ := by decide +kernel
theorem pd_law_1 : parseMethodDescriptor "(ILcom/example/vaxwire/vaxwire/hl7/DataType;)V" = some ⟨[.int, (.object "com/example/vaxwire/vaxwire/hl7/DataType")], none⟩ := by decide +kernel
theorem pd_law_2 : parseMethodDescriptor "()Z" = some ⟨[], some .boolean⟩ := by decide +kernel
theorem pd_law_3 : parseMethodDescriptor "()I" = some ⟨[], some .int⟩ := by decide +kernel
theorem pd_law_4 : parseMethodDescriptor "()Lcom/example/vaxwire/vaxwire/hl7/DataType;" = some ⟨[], some (.object "com/example/vaxwire/vaxwire/hl7/DataType")⟩ := by decide +kernel
theorem ef_law (m : MethodId) (p1 : Int32) (p2 : Int32) : entryFrame m #[(.int p1), (.int p2)] maxLocals = (mkF m 0 #[.val (.int p1), .val (.int p2), .unset, .unset, .unset, .unset] []) := by first | (simp [entryFrame, mkF, argsToLocals, Value.category, maxLocals]; done) | rfl
def Q_law (Z : State) (p1 : Int32) (p2 : Int32) (aTS : Addr) (aSI : Addr) (aNM : Addr) (aDT : Addr) (aDR : Addr) (h0 : Heap) (n0 : Nat) (v : Option Value) (h : Heap) (L : List Loc) : Prop := v = some (.int 1) ∧ Fr n0 L
set_option maxRecDepth 65536 in
set_option maxHeartbeats 40000000 in
theorem rm_law (l : Launch) (Z : State) (a0 : Array Value) (hw : ∀ d ∈ tables_1, d.before a0 Z = true) (ws : List Jvm.Cond) (p1 : Int32) (p2 : Int32) (aTS : Addr) (aSI : Addr) (aNM : Addr) (aDT : Addr) (aDR : Addr) (h0 : Heap) (n0 : Nat) (O0 : Old Z n0 h0) (S_aTS : Sta Z Z.heap "com/example/vaxwire/vaxwire/hl7/DataType" "TS" "Lcom/example/vaxwire/vaxwire/hl7/DataType;" (.ref aTS)) (S_aSI : Sta Z Z.heap "com/example/vaxwire/vaxwire/hl7/DataType" "SI" "Lcom/example/vaxwire/vaxwire/hl7/DataType;" (.ref aSI)) (S_aNM : Sta Z Z.heap "com/example/vaxwire/vaxwire/hl7/DataType" "NM" "Lcom/example/vaxwire/vaxwire/hl7/DataType;" (.ref aNM)) (S_aDT : Sta Z Z.heap "com/example/vaxwire/vaxwire/hl7/DataType" "DT" "Lcom/example/vaxwire/vaxwire/hl7/DataType;" (.ref aDT)) (S_aDR : Sta Z Z.heap "com/example/vaxwire/vaxwire/hl7/DataType" "DR" "Lcom/example/vaxwire/vaxwire/hl7/DataType;" (.ref aDR)) :
    MetFree l x (head1 (Jvm.Cond.code x code maxLocals ret :: ws) room_1) (fun a U => a = #[(.int p1), (.int p2)] ∧ Z.Warmed39 U.vm ∧ U.heap = h0) (fun _ _ _ _ _ => True) (fun _ U o U' => ∃ v L, o = .returned v ∧ Q_law Z p1 p2 aTS aSI aNM aDT aDR h0 n0 v U'.heap L ∧ FrameEnd U o U' L room_1.cells room_1.slots) := by
  refine MetFree.of_bodySF (plainFor_of_name pn_law) hisR ?_
  intro p e s m args below meth c s₁ Bd hml0 hP hK
  obtain ⟨rfl, hZ, hh⟩ := hP
  have hx := Bd.exec
  have hby := Bd.bytes
  have hml : c.maxLocals = 6 := hml0
  have hown : s.vm.findClass "com/example/vaxwire/vaxwire/hl7/TypedWholePinLaw" = some m.cls := findClass_of_methodNamed Bd.named
  have hnm := (name_of_methodNamed Bd.named Bd.method).1
  have X0 : Stand p l e room_1 s m #[(.int p1), (.int p2)] below meth c s₁ [] 0 0 := Stand.of_body Bd
  have e0 : s₁.heap = h0 := by rw [← hh, Bd.state]; rfl
  have N0 := Fr.nil n0
  have pre0 : ∀ t, Steps p.tables e below (s₁.setTop (mkF m 0 #[.val (.int p1), .val (.int p2), .unset, .unset, .unset, .unset] [])) t → Steps p.tables e below (s₁.setTop (entryFrame m #[(.int p1), (.int p2)] maxLocals)) t := fun t k => castTop (ef_law m p1 p2) k
  have pre_1 : ∀ t, Steps p.tables e below (s₁.setTop (mkF m 1 #[.val (.int p1), .val (.int p2), .unset, .unset, .unset, .unset] [(.int p2)])) t → Steps p.tables e below (s₁.setTop (entryFrame m #[(.int p1), (.int p2)] maxLocals)) t := by
    intro t k
    refine pre0 t ?_
    show Steps p.tables e below (s₁.setTop (mkF m 0 #[.val (.int p1), .val (.int p2), .unset, .unset, .unset, .unset] [])) _
    refine XS.iloadN X0.here hx rfl (hb hby at_0) rfl ?_
    show Steps p.tables e below (s₁.setTop (mkF m 1 #[.val (.int p1), .val (.int p2), .unset, .unset, .unset, .unset] [(.int p2)])) _
    exact k
  obtain ⟨_, _, ⟨T2, L2, k2, n2⟩, -, X2, ⟨Lc2, hQ2, l2, y2, z2⟩, st2⟩ := Jvm.LawKit.callS X0 hx (y := (⟨"com/example/vaxwire/vaxwire/hl7/TypedWholePinLaw", "pick", "(I)Lcom/example/vaxwire/vaxwire/hl7/DataType;"⟩ : MethodName)) hown (mvT hZ (hw _ (List.mem_of_getElem? (i := 0) rfl))) (mvT hZ (hw _ (List.mem_of_getElem? (i := 1) rfl))) (mvT hZ (hw _ (List.mem_of_getElem? (i := 2) rfl))) (mvT hZ (hw _ (List.mem_of_getElem? (i := 3) rfl))) (by decide) (backOf (W := 0) (rm_pick l Z a0 hw [] p2 aTS aSI aNM aDT aDR h0 n0 O0 S_aTS S_aSI S_aNM S_aDT S_aDR) hZ (hw _ (List.mem_of_getElem? (i := 3) rfl)) (hw _ (List.mem_of_getElem? (i := 2) rfl)) (by decide) (by decide)) (g := (mkF m 1 #[.val (.int p1), .val (.int p2), .unset, .unset, .unset, .unset] [(.int p2)])) rfl (by rw [hml]; rfl) (argsL := [(.int p2)]) (rest := []) (lenOf pd_law_0 rfl) rfl (by show 2 * 0 + _ ≤ _; exact Nat.le_of_eq rfl) (hb hby at_1) (fun _ _ => ⟨rfl, e0, (by decide : 0 + 0 ≤ _), (by decide : 0 + 0 ≤ _)⟩)
  dsimp only [Pt.U, Pt.locs, Pt.cells, Pt.slots] at X2 l2 y2 z2 st2 hQ2
  subst l2 y2 z2
  obtain ⟨d2, rfl, N2q, e2⟩ := hQ2
  have N2 := Fr.app N0 N2q
  have pre_3 : ∀ t, Steps p.tables e below (T2.setTop (mkF m 4 #[.val (.int p1), .val (.int p2), .unset, .unset, .unset, .unset] [(.ref d2)])) t → Steps p.tables e below (s₁.setTop (entryFrame m #[(.int p1), (.int p2)] maxLocals)) t := fun t k => pre_1 t (st2 t k)
  have pre_4 : ∀ t, Steps p.tables e below (T2.setTop (mkF m 5 #[.val (.int p1), .val (.int p2), .val (.ref d2), .unset, .unset, .unset] [])) t → Steps p.tables e below (s₁.setTop (entryFrame m #[(.int p1), (.int p2)] maxLocals)) t := by
    intro t k
    refine pre_3 t ?_
    show Steps p.tables e below (T2.setTop (mkF m 4 #[.val (.int p1), .val (.int p2), .unset, .unset, .unset, .unset] [(.ref d2)])) _
    refine XS.astoreN X2.here hx rfl (hb hby at_4) rfl rfl (l' := #[.val (.int p1), .val (.int p2), .val (.ref d2), .unset, .unset, .unset]) rfl ?_
    show Steps p.tables e below (T2.setTop (mkF m 5 #[.val (.int p1), .val (.int p2), .val (.ref d2), .unset, .unset, .unset] [])) _
    exact k
  obtain ⟨T5, h5, X5, e5, E5, A5, D5, -, st5⟩ := newO X2 hx hZ hown (hw _ (List.mem_of_getElem? (i := 8) rfl)) (hw _ (List.mem_of_getElem? (i := 9) rfl)) (hw _ (List.mem_of_getElem? (i := 10) rfl)) e2 (g := (mkF m 5 #[.val (.int p1), .val (.int p2), .val (.ref d2), .unset, .unset, .unset] [])) rfl (hb hby at_5) (by decide) (by decide)
  obtain ⟨b5, g5⟩ : ∃ z, z = h0.size := ⟨_, rfl⟩
  rw [← g5] at A5 D5 st5
  have O5 : Old Z n0 h5 := O0.ext E5
  have F6 : Fld Z h5 b5 "com/example/vaxwire/vaxwire/hl7/FieldTypes$Typed" "component" "I" (.int (0 : Int32)) := D5 (Or.inr (hw _ (List.mem_of_getElem? (i := 23) rfl))) (ty := .int) (by decide)
  have F7 : Fld Z h5 b5 "com/example/vaxwire/vaxwire/hl7/FieldTypes$Typed" "type" "Lcom/example/vaxwire/vaxwire/hl7/DataType;" .null := D5 (Or.inr (hw _ (List.mem_of_getElem? (i := 25) rfl))) (ty := (.object "com/example/vaxwire/vaxwire/hl7/DataType")) (by decide)
  have pre_8 : ∀ t, Steps p.tables e below (T5.setTop (mkF m 8 #[.val (.int p1), .val (.int p2), .val (.ref d2), .unset, .unset, .unset] [(.ref b5)])) t → Steps p.tables e below (s₁.setTop (entryFrame m #[(.int p1), (.int p2)] maxLocals)) t := fun t k => pre_4 t (st5 t k)
  have pre_9 : ∀ t, Steps p.tables e below (T5.setTop (mkF m 11 #[.val (.int p1), .val (.int p2), .val (.ref d2), .unset, .unset, .unset] [(.ref d2), (.int p1), (.ref b5), (.ref b5)])) t → Steps p.tables e below (s₁.setTop (entryFrame m #[(.int p1), (.int p2)] maxLocals)) t := by
    intro t k
    refine pre_8 t ?_
    show Steps p.tables e below (T5.setTop (mkF m 8 #[.val (.int p1), .val (.int p2), .val (.ref d2), .unset, .unset, .unset] [(.ref b5)])) _
    refine XS.dup X5.here hx rfl (hb hby at_8) rfl rfl ?_
    show Steps p.tables e below (T5.setTop (mkF m 9 #[.val (.int p1), .val (.int p2), .val (.ref d2), .unset, .unset, .unset] [(.ref b5), (.ref b5)])) _
    refine XS.iloadN X5.here hx rfl (hb hby at_9) rfl ?_
    show Steps p.tables e below (T5.setTop (mkF m 10 #[.val (.int p1), .val (.int p2), .val (.ref d2), .unset, .unset, .unset] [(.int p1), (.ref b5), (.ref b5)])) _
    refine XS.aloadN X5.here hx rfl (hb hby at_10) rfl rfl ?_
    show Steps p.tables e below (T5.setTop (mkF m 11 #[.val (.int p1), .val (.int p2), .val (.ref d2), .unset, .unset, .unset] [(.ref d2), (.int p1), (.ref b5), (.ref b5)])) _
    exact k
  obtain ⟨_, _, ⟨T10, L10, k10, n10⟩, -, X10, ⟨Lc10, hQ10, l10, y10, z10⟩, st10⟩ := X5.specialBack hx (y := (⟨"com/example/vaxwire/vaxwire/hl7/FieldTypes$Typed", "<init>", "(ILcom/example/vaxwire/vaxwire/hl7/DataType;)V"⟩ : MethodName)) rfl hown (mvT hZ (hw _ (List.mem_of_getElem? (i := 11) rfl))) (mvT hZ (hw _ (List.mem_of_getElem? (i := 12) rfl))) (mvT hZ (hw _ (List.mem_of_getElem? (i := 13) rfl))) (by decide) (backOf (W := 1) (rm_ini l Z a0 hw [] b5 p1 d2 (.int (0 : Int32)) .null h5 n0 O5 A5 F6 F7 (Nat.le_trans (own_le O0) (Nat.le_of_eq g5.symm))) hZ (hw _ (List.mem_of_getElem? (i := 13) rfl)) (hw _ (List.mem_of_getElem? (i := 10) rfl)) (by decide) (by decide)) (g := (mkF m 11 #[.val (.int p1), .val (.int p2), .val (.ref d2), .unset, .unset, .unset] [(.ref d2), (.int p1), (.ref b5), (.ref b5)])) rfl (by rw [hml]; rfl) (Steps.refl _) (a := b5) (argsL := [(.int p1), (.ref d2)]) (rest := [(.ref b5)]) (lenOf pd_law_1 rfl) rfl (by show 2 * 0 + _ ≤ _; exact Nat.le_of_eq rfl) (hb hby at_11) (fun _ _ => ⟨rfl, e5, (by decide : 1 + 0 ≤ _), (by decide : 2 + 0 ≤ _)⟩)
  dsimp only [Pt.U, Pt.locs, Pt.cells, Pt.slots] at X10 l10 y10 z10 st10 hQ10
  subst l10 y10 z10
  obtain ⟨rfl, N10q, K10, Fc10, Ft10⟩ := hQ10
  have N10 := Fr.app N2 N10q
  have O10 : Old Z n0 T10.heap := O5.keep K10 (allS (Nat.le_trans (own_le O0) (Nat.le_of_eq g5.symm)) all0)
  have pre_11 : ∀ t, Steps p.tables e below (T10.setTop (mkF m 14 #[.val (.int p1), .val (.int p2), .val (.ref d2), .unset, .unset, .unset] [(.ref b5)])) t → Steps p.tables e below (s₁.setTop (entryFrame m #[(.int p1), (.int p2)] maxLocals)) t := fun t k => pre_9 t (st10.trans k)
  have pre_12 : ∀ t, Steps p.tables e below (T10.setTop (mkF m 15 #[.val (.int p1), .val (.int p2), .val (.ref d2), .val (.ref b5), .unset, .unset] [])) t → Steps p.tables e below (s₁.setTop (entryFrame m #[(.int p1), (.int p2)] maxLocals)) t := by
    intro t k
    refine pre_11 t ?_
    show Steps p.tables e below (T10.setTop (mkF m 14 #[.val (.int p1), .val (.int p2), .val (.ref d2), .unset, .unset, .unset] [(.ref b5)])) _
    refine XS.astoreN X10.here hx rfl (hb hby at_14) rfl rfl (l' := #[.val (.int p1), .val (.int p2), .val (.ref d2), .val (.ref b5), .unset, .unset]) rfl ?_
    show Steps p.tables e below (T10.setTop (mkF m 15 #[.val (.int p1), .val (.int p2), .val (.ref d2), .val (.ref b5), .unset, .unset] [])) _
    exact k
  obtain ⟨T13, h13, X13, e13, E13, A13, D13, -, st13⟩ := newO X10 hx hZ hown (hw _ (List.mem_of_getElem? (i := 8) rfl)) (hw _ (List.mem_of_getElem? (i := 9) rfl)) (hw _ (List.mem_of_getElem? (i := 10) rfl)) rfl (g := (mkF m 15 #[.val (.int p1), .val (.int p2), .val (.ref d2), .val (.ref b5), .unset, .unset] [])) rfl (hb hby at_15) (by decide) (by decide)
  obtain ⟨b13, g13⟩ : ∃ z, z = T10.heap.size := ⟨_, rfl⟩
  rw [← g13] at A13 D13 st13
  have O13 : Old Z n0 h13 := O10.ext E13
  have F14 : Fld Z h13 b13 "com/example/vaxwire/vaxwire/hl7/FieldTypes$Typed" "component" "I" (.int (0 : Int32)) := D13 (Or.inr (hw _ (List.mem_of_getElem? (i := 23) rfl))) (ty := .int) (by decide)
  have F15 : Fld Z h13 b13 "com/example/vaxwire/vaxwire/hl7/FieldTypes$Typed" "type" "Lcom/example/vaxwire/vaxwire/hl7/DataType;" .null := D13 (Or.inr (hw _ (List.mem_of_getElem? (i := 25) rfl))) (ty := (.object "com/example/vaxwire/vaxwire/hl7/DataType")) (by decide)
  have pre_16 : ∀ t, Steps p.tables e below (T13.setTop (mkF m 18 #[.val (.int p1), .val (.int p2), .val (.ref d2), .val (.ref b5), .unset, .unset] [(.ref b13)])) t → Steps p.tables e below (s₁.setTop (entryFrame m #[(.int p1), (.int p2)] maxLocals)) t := fun t k => pre_12 t (st13 t k)
  have pre_17 : ∀ t, Steps p.tables e below (T13.setTop (mkF m 21 #[.val (.int p1), .val (.int p2), .val (.ref d2), .val (.ref b5), .unset, .unset] [(.ref d2), (.int (0 : Int32)), (.ref b13), (.ref b13)])) t → Steps p.tables e below (s₁.setTop (entryFrame m #[(.int p1), (.int p2)] maxLocals)) t := by
    intro t k
    refine pre_16 t ?_
    show Steps p.tables e below (T13.setTop (mkF m 18 #[.val (.int p1), .val (.int p2), .val (.ref d2), .val (.ref b5), .unset, .unset] [(.ref b13)])) _
    refine XS.dup X13.here hx rfl (hb hby at_18) rfl rfl ?_
    show Steps p.tables e below (T13.setTop (mkF m 19 #[.val (.int p1), .val (.int p2), .val (.ref d2), .val (.ref b5), .unset, .unset] [(.ref b13), (.ref b13)])) _
    refine XS.iconst X13.here hx rfl (hb hby at_19) ?_
    show Steps p.tables e below (T13.setTop (mkF m 20 #[.val (.int p1), .val (.int p2), .val (.ref d2), .val (.ref b5), .unset, .unset] [(.int (0 : Int32)), (.ref b13), (.ref b13)])) _
    refine XS.aloadN X13.here hx rfl (hb hby at_20) rfl rfl ?_
    show Steps p.tables e below (T13.setTop (mkF m 21 #[.val (.int p1), .val (.int p2), .val (.ref d2), .val (.ref b5), .unset, .unset] [(.ref d2), (.int (0 : Int32)), (.ref b13), (.ref b13)])) _
    exact k
  obtain ⟨_, _, ⟨T18, L18, k18, n18⟩, -, X18, ⟨Lc18, hQ18, l18, y18, z18⟩, st18⟩ := X13.specialBack hx (y := (⟨"com/example/vaxwire/vaxwire/hl7/FieldTypes$Typed", "<init>", "(ILcom/example/vaxwire/vaxwire/hl7/DataType;)V"⟩ : MethodName)) rfl hown (mvT hZ (hw _ (List.mem_of_getElem? (i := 11) rfl))) (mvT hZ (hw _ (List.mem_of_getElem? (i := 12) rfl))) (mvT hZ (hw _ (List.mem_of_getElem? (i := 13) rfl))) (by decide) (backOf (W := 1) (rm_ini l Z a0 hw [] b13 (0 : Int32) d2 (.int (0 : Int32)) .null h13 n0 O13 A13 F14 F15 (Nat.le_trans (own_le O10) (Nat.le_of_eq g13.symm))) hZ (hw _ (List.mem_of_getElem? (i := 13) rfl)) (hw _ (List.mem_of_getElem? (i := 10) rfl)) (by decide) (by decide)) (g := (mkF m 21 #[.val (.int p1), .val (.int p2), .val (.ref d2), .val (.ref b5), .unset, .unset] [(.ref d2), (.int (0 : Int32)), (.ref b13), (.ref b13)])) rfl (by rw [hml]; rfl) (Steps.refl _) (a := b13) (argsL := [(.int (0 : Int32)), (.ref d2)]) (rest := [(.ref b13)]) (lenOf pd_law_1 rfl) rfl (by show 2 * 0 + _ ≤ _; exact Nat.le_of_eq rfl) (hb hby at_21) (fun _ _ => ⟨rfl, e13, (by decide : 2 + 0 ≤ _), (by decide : 4 + 0 ≤ _)⟩)
  dsimp only [Pt.U, Pt.locs, Pt.cells, Pt.slots] at X18 l18 y18 z18 st18 hQ18
  subst l18 y18 z18
  obtain ⟨rfl, N18q, K18, Fc18, Ft18⟩ := hQ18
  have N18 := Fr.app N10 N18q
  have O18 : Old Z n0 T18.heap := O13.keep K18 (allS (Nat.le_trans (own_le O10) (Nat.le_of_eq g13.symm)) all0)
  have pre_19 : ∀ t, Steps p.tables e below (T18.setTop (mkF m 24 #[.val (.int p1), .val (.int p2), .val (.ref d2), .val (.ref b5), .unset, .unset] [(.ref b13)])) t → Steps p.tables e below (s₁.setTop (entryFrame m #[(.int p1), (.int p2)] maxLocals)) t := fun t k => pre_17 t (st18.trans k)
  have pre_20 : ∀ t, Steps p.tables e below (T18.setTop (mkF m 27 #[.val (.int p1), .val (.int p2), .val (.ref d2), .val (.ref b5), .val (.ref b13), .unset] [(.int p1)])) t → Steps p.tables e below (s₁.setTop (entryFrame m #[(.int p1), (.int p2)] maxLocals)) t := by
    intro t k
    refine pre_19 t ?_
    show Steps p.tables e below (T18.setTop (mkF m 24 #[.val (.int p1), .val (.int p2), .val (.ref d2), .val (.ref b5), .unset, .unset] [(.ref b13)])) _
    refine XS.astore X18.here hx rfl (hb hby at_24) rfl rfl (l' := #[.val (.int p1), .val (.int p2), .val (.ref d2), .val (.ref b5), .val (.ref b13), .unset]) rfl ?_
    show Steps p.tables e below (T18.setTop (mkF m 26 #[.val (.int p1), .val (.int p2), .val (.ref d2), .val (.ref b5), .val (.ref b13), .unset] [])) _
    refine XS.iloadN X18.here hx rfl (hb hby at_26) rfl ?_
    show Steps p.tables e below (T18.setTop (mkF m 27 #[.val (.int p1), .val (.int p2), .val (.ref d2), .val (.ref b5), .val (.ref b13), .unset] [(.int p1)])) _
    exact k
  have pre_22 : ∀ t, Steps p.tables e below (T18.setTop (mkF m 35 #[.val (.int p1), .val (.int p2), .val (.ref d2), .val (.ref b5), .val (.ref b13), .unset] [(.int (if p1 = (0 : Int32) then (1 : Int32) else (0 : Int32)))])) t → Steps p.tables e below (s₁.setTop (entryFrame m #[(.int p1), (.int p2)] maxLocals)) t := by
    intro t k
    refine pre_20 t ?_
    by_cases hm21 : p1 = (0 : Int32)
    · skip
      show Steps p.tables e below (T18.setTop (mkF m 27 #[.val (.int p1), .val (.int p2), .val (.ref d2), .val (.ref b5), .val (.ref b13), .unset] [(.int p1)])) _
      refine XS.ifNo X18.here hx rfl (hb hby at_27) rfl (XT.i0_ne_f hm21) ?_
      show Steps p.tables e below (T18.setTop (mkF m 30 #[.val (.int p1), .val (.int p2), .val (.ref d2), .val (.ref b5), .val (.ref b13), .unset] [])) _
      refine XS.iconst X18.here hx rfl (hb hby at_30) ?_
      show Steps p.tables e below (T18.setTop (mkF m 31 #[.val (.int p1), .val (.int p2), .val (.ref d2), .val (.ref b5), .val (.ref b13), .unset] [(.int (1 : Int32))])) _
      refine XS.goto X18.here hx rfl (pc0 := 31) (pc' := 35) rfl (hb hby at_31) (by decide) (by decide) ?_
      show Steps p.tables e below (T18.setTop (mkF m 35 #[.val (.int p1), .val (.int p2), .val (.ref d2), .val (.ref b5), .val (.ref b13), .unset] [(.int (1 : Int32))])) _
      first | exact k | (simp only [if_pos hm21] at k; exact k)
    · skip
      show Steps p.tables e below (T18.setTop (mkF m 27 #[.val (.int p1), .val (.int p2), .val (.ref d2), .val (.ref b5), .val (.ref b13), .unset] [(.int p1)])) _
      refine XS.ifYes X18.here hx rfl (pc0 := 27) (pc' := 34) rfl (hb hby at_27) rfl (XT.i0_ne_t hm21) (by decide) (by decide) ?_
      show Steps p.tables e below (T18.setTop (mkF m 34 #[.val (.int p1), .val (.int p2), .val (.ref d2), .val (.ref b5), .val (.ref b13), .unset] [])) _
      refine XS.iconst X18.here hx rfl (hb hby at_34) ?_
      show Steps p.tables e below (T18.setTop (mkF m 35 #[.val (.int p1), .val (.int p2), .val (.ref d2), .val (.ref b5), .val (.ref b13), .unset] [(.int (0 : Int32))])) _
      first | exact k | (simp only [if_neg hm21] at k; exact k)
  have pre_23 : ∀ t, Steps p.tables e below (T18.setTop (mkF m 38 #[.val (.int p1), .val (.int p2), .val (.ref d2), .val (.ref b5), .val (.ref b13), .val (.int (if p1 = (0 : Int32) then (1 : Int32) else (0 : Int32)))] [(.ref b5)])) t → Steps p.tables e below (s₁.setTop (entryFrame m #[(.int p1), (.int p2)] maxLocals)) t := by
    intro t k
    refine pre_22 t ?_
    show Steps p.tables e below (T18.setTop (mkF m 35 #[.val (.int p1), .val (.int p2), .val (.ref d2), .val (.ref b5), .val (.ref b13), .unset] [(.int (if p1 = (0 : Int32) then (1 : Int32) else (0 : Int32)))])) _
    refine XS.istore X18.here hx rfl (hb hby at_35) rfl (l' := #[.val (.int p1), .val (.int p2), .val (.ref d2), .val (.ref b5), .val (.ref b13), .val (.int (if p1 = (0 : Int32) then (1 : Int32) else (0 : Int32)))]) rfl ?_
    show Steps p.tables e below (T18.setTop (mkF m 37 #[.val (.int p1), .val (.int p2), .val (.ref d2), .val (.ref b5), .val (.ref b13), .val (.int (if p1 = (0 : Int32) then (1 : Int32) else (0 : Int32)))] [])) _
    refine XS.aloadN X18.here hx rfl (hb hby at_37) rfl rfl ?_
    show Steps p.tables e below (T18.setTop (mkF m 38 #[.val (.int p1), .val (.int p2), .val (.ref d2), .val (.ref b5), .val (.ref b13), .val (.int (if p1 = (0 : Int32) then (1 : Int32) else (0 : Int32)))] [(.ref b5)])) _
    exact k
  obtain ⟨cq24, kq24, qa24, qb24, qc24⟩ := isOf hZ rfl (((A5.keep K10).ext E13).keep K18)
  obtain ⟨_, _, ⟨T24, L24, k24, n24⟩, -, X24, ⟨Lc24, hQ24, l24, y24, z24⟩, st24⟩ := X18.virtualBack hx (y := (⟨"com/example/vaxwire/vaxwire/hl7/FieldTypes$Typed", "whole", "()Z"⟩ : MethodName)) (z := (⟨"com/example/vaxwire/vaxwire/hl7/FieldTypes$Typed", "whole", "()Z"⟩ : MethodName)) hown (mvT hZ (hw _ (List.mem_of_getElem? (i := 26) rfl))) (mvT hZ (hw _ (List.mem_of_getElem? (i := 27) rfl))) (notFace_of_selects (args := #[]) (mvT hZ (hw _ (List.mem_of_getElem? (i := 29) rfl)))) (mvT hZ (hw _ (List.mem_of_getElem? (i := 29) rfl))) (mvT hZ (hw _ (List.mem_of_getElem? (i := 28) rfl))) (by decide) (backOf (W := 0) (rm_whole l Z a0 hw [] b5 p1 T18.heap n0 O18 ((Fc10.ext E13).keep K18 (ninS (Nat.ne_of_lt (Nat.lt_of_lt_of_le (A5.keep K10).lt (Nat.le_of_eq g13.symm))) nin0))) hZ (hw _ (List.mem_of_getElem? (i := 30) rfl)) (hw _ (List.mem_of_getElem? (i := 10) rfl)) (by decide) (by decide)) qa24 qc24 (g := (mkF m 38 #[.val (.int p1), .val (.int p2), .val (.ref d2), .val (.ref b5), .val (.ref b13), .val (.int (if p1 = (0 : Int32) then (1 : Int32) else (0 : Int32)))] [(.ref b5)])) rfl (by rw [hml]; rfl) (Steps.refl _) (argsL := []) (rest := []) (lenOf pd_law_2 rfl) rfl (by show 2 * 0 + _ ≤ _; exact Nat.le_of_eq rfl) (hb hby at_38) (fun _ _ => ⟨rfl, rfl, (by decide : 2 + 0 ≤ _), (by decide : 4 + 0 ≤ _)⟩)
  dsimp only [Pt.U, Pt.locs, Pt.cells, Pt.slots] at X24 l24 y24 z24 st24 hQ24
  subst l24 y24 z24
  obtain ⟨rfl, N24q, e24⟩ := hQ24
  have N24 := Fr.app N18 N24q
  have pre_25 : ∀ t, Steps p.tables e below (T24.setTop (mkF m 41 #[.val (.int p1), .val (.int p2), .val (.ref d2), .val (.ref b5), .val (.ref b13), .val (.int (if p1 = (0 : Int32) then (1 : Int32) else (0 : Int32)))] [(.int (if p1 = (0 : Int32) then (1 : Int32) else (0 : Int32)))])) t → Steps p.tables e below (s₁.setTop (entryFrame m #[(.int p1), (.int p2)] maxLocals)) t := fun t k => pre_23 t (st24.trans k)
  have pre_26 : ∀ t, Steps p.tables e below (T24.setTop (mkF m 43 #[.val (.int p1), .val (.int p2), .val (.ref d2), .val (.ref b5), .val (.ref b13), .val (.int (if p1 = (0 : Int32) then (1 : Int32) else (0 : Int32)))] [(.int (if p1 = (0 : Int32) then (1 : Int32) else (0 : Int32))), (.int (if p1 = (0 : Int32) then (1 : Int32) else (0 : Int32)))])) t → Steps p.tables e below (s₁.setTop (entryFrame m #[(.int p1), (.int p2)] maxLocals)) t := by
    intro t k
    refine pre_25 t ?_
    show Steps p.tables e below (T24.setTop (mkF m 41 #[.val (.int p1), .val (.int p2), .val (.ref d2), .val (.ref b5), .val (.ref b13), .val (.int (if p1 = (0 : Int32) then (1 : Int32) else (0 : Int32)))] [(.int (if p1 = (0 : Int32) then (1 : Int32) else (0 : Int32)))])) _
    refine XS.iload X24.here hx rfl (hb hby at_41) rfl ?_
    show Steps p.tables e below (T24.setTop (mkF m 43 #[.val (.int p1), .val (.int p2), .val (.ref d2), .val (.ref b5), .val (.ref b13), .val (.int (if p1 = (0 : Int32) then (1 : Int32) else (0 : Int32)))] [(.int (if p1 = (0 : Int32) then (1 : Int32) else (0 : Int32))), (.int (if p1 = (0 : Int32) then (1 : Int32) else (0 : Int32)))])) _
    exact k
  by_cases hc27 : p1 = (0 : Int32)
  · skip
    have pre_28 : ∀ t, Steps p.tables e below (T24.setTop (mkF m 48 #[.val (.int p1), .val (.int p2), .val (.ref d2), .val (.ref b5), .val (.ref b13), .val (.int (if p1 = (0 : Int32) then (1 : Int32) else (0 : Int32)))] [(.ref b13)])) t → Steps p.tables e below (s₁.setTop (entryFrame m #[(.int p1), (.int p2)] maxLocals)) t := by
      intro t k
      refine pre_26 t ?_
      show Steps p.tables e below (T24.setTop (mkF m 43 #[.val (.int p1), .val (.int p2), .val (.ref d2), .val (.ref b5), .val (.ref b13), .val (.int (if p1 = (0 : Int32) then (1 : Int32) else (0 : Int32)))] [(.int (if p1 = (0 : Int32) then (1 : Int32) else (0 : Int32))), (.int (if p1 = (0 : Int32) then (1 : Int32) else (0 : Int32)))])) _
      refine XS.icmpNo X24.here hx rfl (hb hby at_43) rfl (XT.ii_ne_f (by simp only [if_pos hc27] <;> decide)) ?_
      show Steps p.tables e below (T24.setTop (mkF m 46 #[.val (.int p1), .val (.int p2), .val (.ref d2), .val (.ref b5), .val (.ref b13), .val (.int (if p1 = (0 : Int32) then (1 : Int32) else (0 : Int32)))] [])) _
      refine XS.aload X24.here hx rfl (hb hby at_46) rfl rfl ?_
      show Steps p.tables e below (T24.setTop (mkF m 48 #[.val (.int p1), .val (.int p2), .val (.ref d2), .val (.ref b5), .val (.ref b13), .val (.int (if p1 = (0 : Int32) then (1 : Int32) else (0 : Int32)))] [(.ref b13)])) _
      exact k
    obtain ⟨cq29, kq29, qa29, qb29, qc29⟩ := isOf hZ e24 (A13.keep K18)
    obtain ⟨_, _, ⟨T29, L29, k29, n29⟩, -, X29, ⟨Lc29, hQ29, l29, y29, z29⟩, st29⟩ := X24.virtualBack hx (y := (⟨"com/example/vaxwire/vaxwire/hl7/FieldTypes$Typed", "whole", "()Z"⟩ : MethodName)) (z := (⟨"com/example/vaxwire/vaxwire/hl7/FieldTypes$Typed", "whole", "()Z"⟩ : MethodName)) hown (mvT hZ (hw _ (List.mem_of_getElem? (i := 26) rfl))) (mvT hZ (hw _ (List.mem_of_getElem? (i := 27) rfl))) (notFace_of_selects (args := #[]) (mvT hZ (hw _ (List.mem_of_getElem? (i := 29) rfl)))) (mvT hZ (hw _ (List.mem_of_getElem? (i := 29) rfl))) (mvT hZ (hw _ (List.mem_of_getElem? (i := 28) rfl))) (by decide) (backOf (W := 0) (rm_whole l Z a0 hw [] b13 (0 : Int32) T18.heap n0 O18 Fc18) hZ (hw _ (List.mem_of_getElem? (i := 30) rfl)) (hw _ (List.mem_of_getElem? (i := 10) rfl)) (by decide) (by decide)) qa29 qc29 (g := (mkF m 48 #[.val (.int p1), .val (.int p2), .val (.ref d2), .val (.ref b5), .val (.ref b13), .val (.int (if p1 = (0 : Int32) then (1 : Int32) else (0 : Int32)))] [(.ref b13)])) rfl (by rw [hml]; rfl) (Steps.refl _) (argsL := []) (rest := []) (lenOf pd_law_2 rfl) rfl (by show 2 * 0 + _ ≤ _; exact Nat.le_of_eq rfl) (hb hby at_48) (fun _ _ => ⟨rfl, e24, (by decide : 2 + 0 ≤ _), (by decide : 4 + 0 ≤ _)⟩)
    dsimp only [Pt.U, Pt.locs, Pt.cells, Pt.slots] at X29 l29 y29 z29 st29 hQ29
    subst l29 y29 z29
    obtain ⟨rfl, N29q, e29⟩ := hQ29
    have N29 := Fr.app N24 N29q
    have pre_30 : ∀ t, Steps p.tables e below (T29.setTop (mkF m 51 #[.val (.int p1), .val (.int p2), .val (.ref d2), .val (.ref b5), .val (.ref b13), .val (.int (if p1 = (0 : Int32) then (1 : Int32) else (0 : Int32)))] [(.int (if (0 : Int32) = (0 : Int32) then (1 : Int32) else (0 : Int32)))])) t → Steps p.tables e below (s₁.setTop (entryFrame m #[(.int p1), (.int p2)] maxLocals)) t := fun t k => pre_28 t (st29.trans k)
    have pre_31 : ∀ t, Steps p.tables e below (T29.setTop (mkF m 55 #[.val (.int p1), .val (.int p2), .val (.ref d2), .val (.ref b5), .val (.ref b13), .val (.int (if p1 = (0 : Int32) then (1 : Int32) else (0 : Int32)))] [(.ref b5)])) t → Steps p.tables e below (s₁.setTop (entryFrame m #[(.int p1), (.int p2)] maxLocals)) t := by
      intro t k
      refine pre_30 t ?_
      show Steps p.tables e below (T29.setTop (mkF m 51 #[.val (.int p1), .val (.int p2), .val (.ref d2), .val (.ref b5), .val (.ref b13), .val (.int (if p1 = (0 : Int32) then (1 : Int32) else (0 : Int32)))] [(.int (if (0 : Int32) = (0 : Int32) then (1 : Int32) else (0 : Int32)))])) _
      refine XS.ifNo X29.here hx rfl (hb hby at_51) rfl (XT.i0_eq_f (by simp only [if_pos (rfl : (0 : Int32) = 0)] <;> decide)) ?_
      show Steps p.tables e below (T29.setTop (mkF m 54 #[.val (.int p1), .val (.int p2), .val (.ref d2), .val (.ref b5), .val (.ref b13), .val (.int (if p1 = (0 : Int32) then (1 : Int32) else (0 : Int32)))] [])) _
      refine XS.aloadN X29.here hx rfl (hb hby at_54) rfl rfl ?_
      show Steps p.tables e below (T29.setTop (mkF m 55 #[.val (.int p1), .val (.int p2), .val (.ref d2), .val (.ref b5), .val (.ref b13), .val (.int (if p1 = (0 : Int32) then (1 : Int32) else (0 : Int32)))] [(.ref b5)])) _
      exact k
    obtain ⟨cq32, kq32, qa32, qb32, qc32⟩ := isOf hZ e29 (((A5.keep K10).ext E13).keep K18)
    obtain ⟨_, _, ⟨T32, L32, k32, n32⟩, -, X32, ⟨Lc32, hQ32, l32, y32, z32⟩, st32⟩ := X29.virtualBack hx (y := (⟨"com/example/vaxwire/vaxwire/hl7/FieldTypes$Typed", "component", "()I"⟩ : MethodName)) (z := (⟨"com/example/vaxwire/vaxwire/hl7/FieldTypes$Typed", "component", "()I"⟩ : MethodName)) hown (mvT hZ (hw _ (List.mem_of_getElem? (i := 31) rfl))) (mvT hZ (hw _ (List.mem_of_getElem? (i := 32) rfl))) (notFace_of_selects (args := #[]) (mvT hZ (hw _ (List.mem_of_getElem? (i := 34) rfl)))) (mvT hZ (hw _ (List.mem_of_getElem? (i := 34) rfl))) (mvT hZ (hw _ (List.mem_of_getElem? (i := 33) rfl))) (by decide) (backOf (W := 0) (rm_comp l Z a0 hw [] b5 p1 T18.heap n0 O18 ((Fc10.ext E13).keep K18 (ninS (Nat.ne_of_lt (Nat.lt_of_lt_of_le (A5.keep K10).lt (Nat.le_of_eq g13.symm))) nin0))) hZ (hw _ (List.mem_of_getElem? (i := 35) rfl)) (hw _ (List.mem_of_getElem? (i := 10) rfl)) (by decide) (by decide)) qa32 qc32 (g := (mkF m 55 #[.val (.int p1), .val (.int p2), .val (.ref d2), .val (.ref b5), .val (.ref b13), .val (.int (if p1 = (0 : Int32) then (1 : Int32) else (0 : Int32)))] [(.ref b5)])) rfl (by rw [hml]; rfl) (Steps.refl _) (argsL := []) (rest := []) (lenOf pd_law_3 rfl) rfl (by show 2 * 0 + _ ≤ _; exact Nat.le_of_eq rfl) (hb hby at_55) (fun _ _ => ⟨rfl, e29, (by decide : 2 + 0 ≤ _), (by decide : 4 + 0 ≤ _)⟩)
    dsimp only [Pt.U, Pt.locs, Pt.cells, Pt.slots] at X32 l32 y32 z32 st32 hQ32
    subst l32 y32 z32
    obtain ⟨rfl, N32q, e32⟩ := hQ32
    have N32 := Fr.app N29 N32q
    have pre_33 : ∀ t, Steps p.tables e below (T32.setTop (mkF m 58 #[.val (.int p1), .val (.int p2), .val (.ref d2), .val (.ref b5), .val (.ref b13), .val (.int (if p1 = (0 : Int32) then (1 : Int32) else (0 : Int32)))] [(.int p1)])) t → Steps p.tables e below (s₁.setTop (entryFrame m #[(.int p1), (.int p2)] maxLocals)) t := fun t k => pre_31 t (st32.trans k)
    have pre_34 : ∀ t, Steps p.tables e below (T32.setTop (mkF m 63 #[.val (.int p1), .val (.int p2), .val (.ref d2), .val (.ref b5), .val (.ref b13), .val (.int (if p1 = (0 : Int32) then (1 : Int32) else (0 : Int32)))] [(.ref b5)])) t → Steps p.tables e below (s₁.setTop (entryFrame m #[(.int p1), (.int p2)] maxLocals)) t := by
      intro t k
      refine pre_33 t ?_
      show Steps p.tables e below (T32.setTop (mkF m 58 #[.val (.int p1), .val (.int p2), .val (.ref d2), .val (.ref b5), .val (.ref b13), .val (.int (if p1 = (0 : Int32) then (1 : Int32) else (0 : Int32)))] [(.int p1)])) _
      refine XS.iloadN X32.here hx rfl (hb hby at_58) rfl ?_
      show Steps p.tables e below (T32.setTop (mkF m 59 #[.val (.int p1), .val (.int p2), .val (.ref d2), .val (.ref b5), .val (.ref b13), .val (.int (if p1 = (0 : Int32) then (1 : Int32) else (0 : Int32)))] [(.int p1), (.int p1)])) _
      refine XS.icmpNo X32.here hx rfl (hb hby at_59) rfl (XT.ii_ne_f rfl) ?_
      show Steps p.tables e below (T32.setTop (mkF m 62 #[.val (.int p1), .val (.int p2), .val (.ref d2), .val (.ref b5), .val (.ref b13), .val (.int (if p1 = (0 : Int32) then (1 : Int32) else (0 : Int32)))] [])) _
      refine XS.aloadN X32.here hx rfl (hb hby at_62) rfl rfl ?_
      show Steps p.tables e below (T32.setTop (mkF m 63 #[.val (.int p1), .val (.int p2), .val (.ref d2), .val (.ref b5), .val (.ref b13), .val (.int (if p1 = (0 : Int32) then (1 : Int32) else (0 : Int32)))] [(.ref b5)])) _
      exact k
    obtain ⟨cq35, kq35, qa35, qb35, qc35⟩ := isOf hZ e32 (((A5.keep K10).ext E13).keep K18)
    obtain ⟨_, _, ⟨T35, L35, k35, n35⟩, -, X35, ⟨Lc35, hQ35, l35, y35, z35⟩, st35⟩ := X32.virtualBack hx (y := (⟨"com/example/vaxwire/vaxwire/hl7/FieldTypes$Typed", "type", "()Lcom/example/vaxwire/vaxwire/hl7/DataType;"⟩ : MethodName)) (z := (⟨"com/example/vaxwire/vaxwire/hl7/FieldTypes$Typed", "type", "()Lcom/example/vaxwire/vaxwire/hl7/DataType;"⟩ : MethodName)) hown (mvT hZ (hw _ (List.mem_of_getElem? (i := 36) rfl))) (mvT hZ (hw _ (List.mem_of_getElem? (i := 37) rfl))) (notFace_of_selects (args := #[]) (mvT hZ (hw _ (List.mem_of_getElem? (i := 39) rfl)))) (mvT hZ (hw _ (List.mem_of_getElem? (i := 39) rfl))) (mvT hZ (hw _ (List.mem_of_getElem? (i := 38) rfl))) (by decide) (backOf (W := 0) (rm_type l Z a0 hw [] b5 d2 T18.heap n0 O18 ((Ft10.ext E13).keep K18 (ninS (Nat.ne_of_lt (Nat.lt_of_lt_of_le (A5.keep K10).lt (Nat.le_of_eq g13.symm))) nin0))) hZ (hw _ (List.mem_of_getElem? (i := 40) rfl)) (hw _ (List.mem_of_getElem? (i := 10) rfl)) (by decide) (by decide)) qa35 qc35 (g := (mkF m 63 #[.val (.int p1), .val (.int p2), .val (.ref d2), .val (.ref b5), .val (.ref b13), .val (.int (if p1 = (0 : Int32) then (1 : Int32) else (0 : Int32)))] [(.ref b5)])) rfl (by rw [hml]; rfl) (Steps.refl _) (argsL := []) (rest := []) (lenOf pd_law_4 rfl) rfl (by show 2 * 0 + _ ≤ _; exact Nat.le_of_eq rfl) (hb hby at_63) (fun _ _ => ⟨rfl, e32, (by decide : 2 + 0 ≤ _), (by decide : 4 + 0 ≤ _)⟩)
    dsimp only [Pt.U, Pt.locs, Pt.cells, Pt.slots] at X35 l35 y35 z35 st35 hQ35
    subst l35 y35 z35
    obtain ⟨rfl, N35q, e35⟩ := hQ35
    have N35 := Fr.app N32 N35q
    have pre_36 : ∀ t, Steps p.tables e below (T35.setTop (mkF m 66 #[.val (.int p1), .val (.int p2), .val (.ref d2), .val (.ref b5), .val (.ref b13), .val (.int (if p1 = (0 : Int32) then (1 : Int32) else (0 : Int32)))] [(.ref d2)])) t → Steps p.tables e below (s₁.setTop (entryFrame m #[(.int p1), (.int p2)] maxLocals)) t := fun t k => pre_34 t (st35.trans k)
    have pre_37 : ∀ t, Steps p.tables e below (T35.setTop (mkF m 75 #[.val (.int p1), .val (.int p2), .val (.ref d2), .val (.ref b5), .val (.ref b13), .val (.int (if p1 = (0 : Int32) then (1 : Int32) else (0 : Int32)))] [(.int (1 : Int32))])) t → Steps p.tables e below (s₁.setTop (entryFrame m #[(.int p1), (.int p2)] maxLocals)) t := by
      intro t k
      refine pre_36 t ?_
      show Steps p.tables e below (T35.setTop (mkF m 66 #[.val (.int p1), .val (.int p2), .val (.ref d2), .val (.ref b5), .val (.ref b13), .val (.int (if p1 = (0 : Int32) then (1 : Int32) else (0 : Int32)))] [(.ref d2)])) _
      refine XS.aloadN X35.here hx rfl (hb hby at_66) rfl rfl ?_
      show Steps p.tables e below (T35.setTop (mkF m 67 #[.val (.int p1), .val (.int p2), .val (.ref d2), .val (.ref b5), .val (.ref b13), .val (.int (if p1 = (0 : Int32) then (1 : Int32) else (0 : Int32)))] [(.ref d2), (.ref d2)])) _
      refine XT.acmpNo X35.here hx rfl (hb hby at_67) rfl rfl rfl (XT.aa_ne_f rfl) ?_
      show Steps p.tables e below (T35.setTop (mkF m 70 #[.val (.int p1), .val (.int p2), .val (.ref d2), .val (.ref b5), .val (.ref b13), .val (.int (if p1 = (0 : Int32) then (1 : Int32) else (0 : Int32)))] [])) _
      refine XS.iconst X35.here hx rfl (hb hby at_70) ?_
      show Steps p.tables e below (T35.setTop (mkF m 71 #[.val (.int p1), .val (.int p2), .val (.ref d2), .val (.ref b5), .val (.ref b13), .val (.int (if p1 = (0 : Int32) then (1 : Int32) else (0 : Int32)))] [(.int (1 : Int32))])) _
      refine XS.goto X35.here hx rfl (pc0 := 71) (pc' := 75) rfl (hb hby at_71) (by decide) (by decide) ?_
      show Steps p.tables e below (T35.setTop (mkF m 75 #[.val (.int p1), .val (.int p2), .val (.ref d2), .val (.ref b5), .val (.ref b13), .val (.int (if p1 = (0 : Int32) then (1 : Int32) else (0 : Int32)))] [(.int (1 : Int32))])) _
      exact k
    obtain ⟨fs, hr, hrun, hended, hW, hsame⟩ := X35.leave (v := some (.int (1 : Int32))) (fun h => by rw [Bd.returns] at h; cases h)
    refine ⟨_, _, pre_37 _ ?_, hrun, hended, _, _, rfl, ?_, ⟨_, rfl⟩, hW, hsame.mono (by decide) (by decide)⟩
    · show Steps p.tables e below (T35.setTop (mkF m 75 #[.val (.int p1), .val (.int p2), .val (.ref d2), .val (.ref b5), .val (.ref b13), .val (.int (if p1 = (0 : Int32) then (1 : Int32) else (0 : Int32)))] [(.int (1 : Int32))])) _
      exact retN X35 hx (t := .boolean) Bd.returns (by simp) (hb hby at_75) hr
    · show Q_law Z p1 p2 aTS aSI aNM aDT aDR h0 n0 _ T35.heap _
      rw [e35]
      exact ⟨rfl, N35⟩
  · skip
    have pre_38 : ∀ t, Steps p.tables e below (T24.setTop (mkF m 48 #[.val (.int p1), .val (.int p2), .val (.ref d2), .val (.ref b5), .val (.ref b13), .val (.int (if p1 = (0 : Int32) then (1 : Int32) else (0 : Int32)))] [(.ref b13)])) t → Steps p.tables e below (s₁.setTop (entryFrame m #[(.int p1), (.int p2)] maxLocals)) t := by
      intro t k
      refine pre_26 t ?_
      show Steps p.tables e below (T24.setTop (mkF m 43 #[.val (.int p1), .val (.int p2), .val (.ref d2), .val (.ref b5), .val (.ref b13), .val (.int (if p1 = (0 : Int32) then (1 : Int32) else (0 : Int32)))] [(.int (if p1 = (0 : Int32) then (1 : Int32) else (0 : Int32))), (.int (if p1 = (0 : Int32) then (1 : Int32) else (0 : Int32)))])) _
      refine XS.icmpNo X24.here hx rfl (hb hby at_43) rfl (XT.ii_ne_f (by simp only [if_neg hc27] <;> decide)) ?_
      show Steps p.tables e below (T24.setTop (mkF m 46 #[.val (.int p1), .val (.int p2), .val (.ref d2), .val (.ref b5), .val (.ref b13), .val (.int (if p1 = (0 : Int32) then (1 : Int32) else (0 : Int32)))] [])) _
      refine XS.aload X24.here hx rfl (hb hby at_46) rfl rfl ?_
      show Steps p.tables e below (T24.setTop (mkF m 48 #[.val (.int p1), .val (.int p2), .val (.ref d2), .val (.ref b5), .val (.ref b13), .val (.int (if p1 = (0 : Int32) then (1 : Int32) else (0 : Int32)))] [(.ref b13)])) _
      exact k
    obtain ⟨cq39, kq39, qa39, qb39, qc39⟩ := isOf hZ e24 (A13.keep K18)
    obtain ⟨_, _, ⟨T39, L39, k39, n39⟩, -, X39, ⟨Lc39, hQ39, l39, y39, z39⟩, st39⟩ := X24.virtualBack hx (y := (⟨"com/example/vaxwire/vaxwire/hl7/FieldTypes$Typed", "whole", "()Z"⟩ : MethodName)) (z := (⟨"com/example/vaxwire/vaxwire/hl7/FieldTypes$Typed", "whole", "()Z"⟩ : MethodName)) hown (mvT hZ (hw _ (List.mem_of_getElem? (i := 26) rfl))) (mvT hZ (hw _ (List.mem_of_getElem? (i := 27) rfl))) (notFace_of_selects (args := #[]) (mvT hZ (hw _ (List.mem_of_getElem? (i := 29) rfl)))) (mvT hZ (hw _ (List.mem_of_getElem? (i := 29) rfl))) (mvT hZ (hw _ (List.mem_of_getElem? (i := 28) rfl))) (by decide) (backOf (W := 0) (rm_whole l Z a0 hw [] b13 (0 : Int32) T18.heap n0 O18 Fc18) hZ (hw _ (List.mem_of_getElem? (i := 30) rfl)) (hw _ (List.mem_of_getElem? (i := 10) rfl)) (by decide) (by decide)) qa39 qc39 (g := (mkF m 48 #[.val (.int p1), .val (.int p2), .val (.ref d2), .val (.ref b5), .val (.ref b13), .val (.int (if p1 = (0 : Int32) then (1 : Int32) else (0 : Int32)))] [(.ref b13)])) rfl (by rw [hml]; rfl) (Steps.refl _) (argsL := []) (rest := []) (lenOf pd_law_2 rfl) rfl (by show 2 * 0 + _ ≤ _; exact Nat.le_of_eq rfl) (hb hby at_48) (fun _ _ => ⟨rfl, e24, (by decide : 2 + 0 ≤ _), (by decide : 4 + 0 ≤ _)⟩)
    dsimp only [Pt.U, Pt.locs, Pt.cells, Pt.slots] at X39 l39 y39 z39 st39 hQ39
    subst l39 y39 z39
    obtain ⟨rfl, N39q, e39⟩ := hQ39
    have N39 := Fr.app N24 N39q
    have pre_40 : ∀ t, Steps p.tables e below (T39.setTop (mkF m 51 #[.val (.int p1), .val (.int p2), .val (.ref d2), .val (.ref b5), .val (.ref b13), .val (.int (if p1 = (0 : Int32) then (1 : Int32) else (0 : Int32)))] [(.int (if (0 : Int32) = (0 : Int32) then (1 : Int32) else (0 : Int32)))])) t → Steps p.tables e below (s₁.setTop (entryFrame m #[(.int p1), (.int p2)] maxLocals)) t := fun t k => pre_38 t (st39.trans k)
    have pre_41 : ∀ t, Steps p.tables e below (T39.setTop (mkF m 55 #[.val (.int p1), .val (.int p2), .val (.ref d2), .val (.ref b5), .val (.ref b13), .val (.int (if p1 = (0 : Int32) then (1 : Int32) else (0 : Int32)))] [(.ref b5)])) t → Steps p.tables e below (s₁.setTop (entryFrame m #[(.int p1), (.int p2)] maxLocals)) t := by
      intro t k
      refine pre_40 t ?_
      show Steps p.tables e below (T39.setTop (mkF m 51 #[.val (.int p1), .val (.int p2), .val (.ref d2), .val (.ref b5), .val (.ref b13), .val (.int (if p1 = (0 : Int32) then (1 : Int32) else (0 : Int32)))] [(.int (if (0 : Int32) = (0 : Int32) then (1 : Int32) else (0 : Int32)))])) _
      refine XS.ifNo X39.here hx rfl (hb hby at_51) rfl (XT.i0_eq_f (by simp only [if_pos (rfl : (0 : Int32) = 0)] <;> decide)) ?_
      show Steps p.tables e below (T39.setTop (mkF m 54 #[.val (.int p1), .val (.int p2), .val (.ref d2), .val (.ref b5), .val (.ref b13), .val (.int (if p1 = (0 : Int32) then (1 : Int32) else (0 : Int32)))] [])) _
      refine XS.aloadN X39.here hx rfl (hb hby at_54) rfl rfl ?_
      show Steps p.tables e below (T39.setTop (mkF m 55 #[.val (.int p1), .val (.int p2), .val (.ref d2), .val (.ref b5), .val (.ref b13), .val (.int (if p1 = (0 : Int32) then (1 : Int32) else (0 : Int32)))] [(.ref b5)])) _
      exact k
    obtain ⟨cq42, kq42, qa42, qb42, qc42⟩ := isOf hZ e39 (((A5.keep K10).ext E13).keep K18)
    obtain ⟨_, _, ⟨T42, L42, k42, n42⟩, -, X42, ⟨Lc42, hQ42, l42, y42, z42⟩, st42⟩ := X39.virtualBack hx (y := (⟨"com/example/vaxwire/vaxwire/hl7/FieldTypes$Typed", "component", "()I"⟩ : MethodName)) (z := (⟨"com/example/vaxwire/vaxwire/hl7/FieldTypes$Typed", "component", "()I"⟩ : MethodName)) hown (mvT hZ (hw _ (List.mem_of_getElem? (i := 31) rfl))) (mvT hZ (hw _ (List.mem_of_getElem? (i := 32) rfl))) (notFace_of_selects (args := #[]) (mvT hZ (hw _ (List.mem_of_getElem? (i := 34) rfl)))) (mvT hZ (hw _ (List.mem_of_getElem? (i := 34) rfl))) (mvT hZ (hw _ (List.mem_of_getElem? (i := 33) rfl))) (by decide) (backOf (W := 0) (rm_comp l Z a0 hw [] b5 p1 T18.heap n0 O18 ((Fc10.ext E13).keep K18 (ninS (Nat.ne_of_lt (Nat.lt_of_lt_of_le (A5.keep K10).lt (Nat.le_of_eq g13.symm))) nin0))) hZ (hw _ (List.mem_of_getElem? (i := 35) rfl)) (hw _ (List.mem_of_getElem? (i := 10) rfl)) (by decide) (by decide)) qa42 qc42 (g := (mkF m 55 #[.val (.int p1), .val (.int p2), .val (.ref d2), .val (.ref b5), .val (.ref b13), .val (.int (if p1 = (0 : Int32) then (1 : Int32) else (0 : Int32)))] [(.ref b5)])) rfl (by rw [hml]; rfl) (Steps.refl _) (argsL := []) (rest := []) (lenOf pd_law_3 rfl) rfl (by show 2 * 0 + _ ≤ _; exact Nat.le_of_eq rfl) (hb hby at_55) (fun _ _ => ⟨rfl, e39, (by decide : 2 + 0 ≤ _), (by decide : 4 + 0 ≤ _)⟩)
    dsimp only [Pt.U, Pt.locs, Pt.cells, Pt.slots] at X42 l42 y42 z42 st42 hQ42
    subst l42 y42 z42
    obtain ⟨rfl, N42q, e42⟩ := hQ42
    have N42 := Fr.app N39 N42q
    have pre_43 : ∀ t, Steps p.tables e below (T42.setTop (mkF m 58 #[.val (.int p1), .val (.int p2), .val (.ref d2), .val (.ref b5), .val (.ref b13), .val (.int (if p1 = (0 : Int32) then (1 : Int32) else (0 : Int32)))] [(.int p1)])) t → Steps p.tables e below (s₁.setTop (entryFrame m #[(.int p1), (.int p2)] maxLocals)) t := fun t k => pre_41 t (st42.trans k)
    have pre_44 : ∀ t, Steps p.tables e below (T42.setTop (mkF m 63 #[.val (.int p1), .val (.int p2), .val (.ref d2), .val (.ref b5), .val (.ref b13), .val (.int (if p1 = (0 : Int32) then (1 : Int32) else (0 : Int32)))] [(.ref b5)])) t → Steps p.tables e below (s₁.setTop (entryFrame m #[(.int p1), (.int p2)] maxLocals)) t := by
      intro t k
      refine pre_43 t ?_
      show Steps p.tables e below (T42.setTop (mkF m 58 #[.val (.int p1), .val (.int p2), .val (.ref d2), .val (.ref b5), .val (.ref b13), .val (.int (if p1 = (0 : Int32) then (1 : Int32) else (0 : Int32)))] [(.int p1)])) _
      refine XS.iloadN X42.here hx rfl (hb hby at_58) rfl ?_
      show Steps p.tables e below (T42.setTop (mkF m 59 #[.val (.int p1), .val (.int p2), .val (.ref d2), .val (.ref b5), .val (.ref b13), .val (.int (if p1 = (0 : Int32) then (1 : Int32) else (0 : Int32)))] [(.int p1), (.int p1)])) _
      refine XS.icmpNo X42.here hx rfl (hb hby at_59) rfl (XT.ii_ne_f rfl) ?_
      show Steps p.tables e below (T42.setTop (mkF m 62 #[.val (.int p1), .val (.int p2), .val (.ref d2), .val (.ref b5), .val (.ref b13), .val (.int (if p1 = (0 : Int32) then (1 : Int32) else (0 : Int32)))] [])) _
      refine XS.aloadN X42.here hx rfl (hb hby at_62) rfl rfl ?_
      show Steps p.tables e below (T42.setTop (mkF m 63 #[.val (.int p1), .val (.int p2), .val (.ref d2), .val (.ref b5), .val (.ref b13), .val (.int (if p1 = (0 : Int32) then (1 : Int32) else (0 : Int32)))] [(.ref b5)])) _
      exact k
    obtain ⟨cq45, kq45, qa45, qb45, qc45⟩ := isOf hZ e42 (((A5.keep K10).ext E13).keep K18)
    obtain ⟨_, _, ⟨T45, L45, k45, n45⟩, -, X45, ⟨Lc45, hQ45, l45, y45, z45⟩, st45⟩ := X42.virtualBack hx (y := (⟨"com/example/vaxwire/vaxwire/hl7/FieldTypes$Typed", "type", "()Lcom/example/vaxwire/vaxwire/hl7/DataType;"⟩ : MethodName)) (z := (⟨"com/example/vaxwire/vaxwire/hl7/FieldTypes$Typed", "type", "()Lcom/example/vaxwire/vaxwire/hl7/DataType;"⟩ : MethodName)) hown (mvT hZ (hw _ (List.mem_of_getElem? (i := 36) rfl))) (mvT hZ (hw _ (List.mem_of_getElem? (i := 37) rfl))) (notFace_of_selects (args := #[]) (mvT hZ (hw _ (List.mem_of_getElem? (i := 39) rfl)))) (mvT hZ (hw _ (List.mem_of_getElem? (i := 39) rfl))) (mvT hZ (hw _ (List.mem_of_getElem? (i := 38) rfl))) (by decide) (backOf (W := 0) (rm_type l Z a0 hw [] b5 d2 T18.heap n0 O18 ((Ft10.ext E13).keep K18 (ninS (Nat.ne_of_lt (Nat.lt_of_lt_of_le (A5.keep K10).lt (Nat.le_of_eq g13.symm))) nin0))) hZ (hw _ (List.mem_of_getElem? (i := 40) rfl)) (hw _ (List.mem_of_getElem? (i := 10) rfl)) (by decide) (by decide)) qa45 qc45 (g := (mkF m 63 #[.val (.int p1), .val (.int p2), .val (.ref d2), .val (.ref b5), .val (.ref b13), .val (.int (if p1 = (0 : Int32) then (1 : Int32) else (0 : Int32)))] [(.ref b5)])) rfl (by rw [hml]; rfl) (Steps.refl _) (argsL := []) (rest := []) (lenOf pd_law_4 rfl) rfl (by show 2 * 0 + _ ≤ _; exact Nat.le_of_eq rfl) (hb hby at_63) (fun _ _ => ⟨rfl, e42, (by decide : 2 + 0 ≤ _), (by decide : 4 + 0 ≤ _)⟩)
    dsimp only [Pt.U, Pt.locs, Pt.cells, Pt.slots] at X45 l45 y45 z45 st45 hQ45
    subst l45 y45 z45
    obtain ⟨rfl, N45q, e45⟩ := hQ45
    have N45 := Fr.app N42 N45q
    have pre_46 : ∀ t, Steps p.tables e below (T45.setTop (mkF m 66 #[.val (.int p1), .val (.int p2), .val (.ref d2), .val (.ref b5), .val (.ref b13), .val (.int (if p1 = (0 : Int32) then (1 : Int32) else (0 : Int32)))] [(.ref d2)])) t → Steps p.tables e below (s₁.setTop (entryFrame m #[(.int p1), (.int p2)] maxLocals)) t := fun t k => pre_44 t (st45.trans k)
    have pre_47 : ∀ t, Steps p.tables e below (T45.setTop (mkF m 75 #[.val (.int p1), .val (.int p2), .val (.ref d2), .val (.ref b5), .val (.ref b13), .val (.int (if p1 = (0 : Int32) then (1 : Int32) else (0 : Int32)))] [(.int (1 : Int32))])) t → Steps p.tables e below (s₁.setTop (entryFrame m #[(.int p1), (.int p2)] maxLocals)) t := by
      intro t k
      refine pre_46 t ?_
      show Steps p.tables e below (T45.setTop (mkF m 66 #[.val (.int p1), .val (.int p2), .val (.ref d2), .val (.ref b5), .val (.ref b13), .val (.int (if p1 = (0 : Int32) then (1 : Int32) else (0 : Int32)))] [(.ref d2)])) _
      refine XS.aloadN X45.here hx rfl (hb hby at_66) rfl rfl ?_
      show Steps p.tables e below (T45.setTop (mkF m 67 #[.val (.int p1), .val (.int p2), .val (.ref d2), .val (.ref b5), .val (.ref b13), .val (.int (if p1 = (0 : Int32) then (1 : Int32) else (0 : Int32)))] [(.ref d2), (.ref d2)])) _
      refine XT.acmpNo X45.here hx rfl (hb hby at_67) rfl rfl rfl (XT.aa_ne_f rfl) ?_
      show Steps p.tables e below (T45.setTop (mkF m 70 #[.val (.int p1), .val (.int p2), .val (.ref d2), .val (.ref b5), .val (.ref b13), .val (.int (if p1 = (0 : Int32) then (1 : Int32) else (0 : Int32)))] [])) _
      refine XS.iconst X45.here hx rfl (hb hby at_70) ?_
      show Steps p.tables e below (T45.setTop (mkF m 71 #[.val (.int p1), .val (.int p2), .val (.ref d2), .val (.ref b5), .val (.ref b13), .val (.int (if p1 = (0 : Int32) then (1 : Int32) else (0 : Int32)))] [(.int (1 : Int32))])) _
      refine XS.goto X45.here hx rfl (pc0 := 71) (pc' := 75) rfl (hb hby at_71) (by decide) (by decide) ?_
      show Steps p.tables e below (T45.setTop (mkF m 75 #[.val (.int p1), .val (.int p2), .val (.ref d2), .val (.ref b5), .val (.ref b13), .val (.int (if p1 = (0 : Int32) then (1 : Int32) else (0 : Int32)))] [(.int (1 : Int32))])) _
      exact k
    obtain ⟨fs, hr, hrun, hended, hW, hsame⟩ := X45.leave (v := some (.int (1 : Int32))) (fun h => by rw [Bd.returns] at h; cases h)
    refine ⟨_, _, pre_47 _ ?_, hrun, hended, _, _, rfl, ?_, ⟨_, rfl⟩, hW, hsame.mono (by decide) (by decide)⟩
    · show Steps p.tables e below (T45.setTop (mkF m 75 #[.val (.int p1), .val (.int p2), .val (.ref d2), .val (.ref b5), .val (.ref b13), .val (.int (if p1 = (0 : Int32) then (1 : Int32) else (0 : Int32)))] [(.int (1 : Int32))])) _
      exact retN X45 hx (t := .boolean) Bd.returns (by simp) (hb hby at_75) hr
    · show Q_law Z p1 p2 aTS aSI aNM aDT aDR h0 n0 _ T45.heap _
      rw [e45]
      exact ⟨rfl, N45⟩
set_option maxRecDepth 65536 in
set_option maxHeartbeats 40000000 in
theorem comes_1 {Post : Tables → Env → Array Value → State → Outcome → State → Prop} (hpost : ∀ tb e args s v u, (limb_1_1.after args s (.returned v) u = true ∧ limb_1_2.after args s (.returned v) u = true ∧ True) → FrameEnd s (.returned v) u (Jvm.fieldLocs frame_1_writes args s ++ Jvm.arrayLocs frame_1_arrays args s ++ Jvm.staticLocs frame_1_statics s) 16 128 → Post tb e args s (.returned v) u) :
    ArmFor flags0 classFile x code maxLocals ret World_1 tables_1 room_1 Calls_1 rest_1 Pre_1 Post := by
  intro l hfl _ _ p e ha hc hk s m args below hf hA hF happ hP
  obtain ⟨hcalls, hrest, hpre⟩ := hP
  obtain ⟨-, -, -, hnamed, -, -, -, hat⟩ := (Spec.applies_iff hf).mp happ
  obtain ⟨hg, hn⟩ := and_e (Cond.before_iff.mp (show (Jvm.Cond.and given_1 narrow_1).before args s = true from hpre))
  obtain ⟨hg0, hgs⟩ := and_e hg
  obtain ⟨w0, w1, rfl⟩ : ∃ w0 w1 : Value, args = #[w0, w1] := by
    have hs : args.size = 2 := by simpa [Cond.value, given_1] using hg0
    obtain ⟨L⟩ := args
    match L, hs with
    | [w0, w1], _ => exact ⟨w0, w1, rfl⟩
  have hw := fun d (hd : d ∈ tables_1) => atoms_spec (ws := Jvm.Cond.code x code maxLocals ret :: tables_1) hat d (List.mem_cons_of_mem _ hd)
  have hfit : Fit s := fun {y c} hc i hi => by
    obtain ⟨ha, rfl⟩ := Array.getElem?_eq_some_iff.mp hc
    have q := List.all_eq_true.mp ((Array.all_eq_true_iff_forall_mem.mp hF) _ (Array.getElem_mem ha)) i (List.mem_range.mpr hi)
    simpa [Array.getElem?_eq_getElem hi] using q
  obtain ⟨ha0, hgs0⟩ := and_e hgs
  obtain ⟨i0, ei0⟩ := is_v ha0
  obtain rfl : w0 = (.int i0) := Option.some.inj ei0
  obtain ⟨i1, ei1⟩ := is_v hgs0
  obtain rfl : w1 = (.int i1) := Option.some.inj ei1
  obtain ⟨hn0, hr0⟩ := and_e hn
  obtain ⟨hn1, hr1⟩ := and_e hr0
  obtain ⟨hn2, hr2⟩ := and_e hr1
  obtain ⟨hn3, hr3⟩ := and_e hr2
  have hn4 := hr3
  obtain ⟨aTS, evaTS⟩ := exa_v hn0
  have S_aTS := Sta.start evaTS (Or.inr ⟨(hw _ (List.mem_of_getElem? (i := 6) rfl)), (hw _ (List.mem_of_getElem? (i := 7) rfl))⟩)
  have E_aTS := Exa.start evaTS hn0
  obtain ⟨aSI, evaSI⟩ := exa_v hn1
  have S_aSI := Sta.start evaSI (Or.inr ⟨(hw _ (List.mem_of_getElem? (i := 6) rfl)), (hw _ (List.mem_of_getElem? (i := 42) rfl))⟩)
  have E_aSI := Exa.start evaSI hn1
  obtain ⟨aNM, evaNM⟩ := exa_v hn2
  have S_aNM := Sta.start evaNM (Or.inr ⟨(hw _ (List.mem_of_getElem? (i := 6) rfl)), (hw _ (List.mem_of_getElem? (i := 44) rfl))⟩)
  have E_aNM := Exa.start evaNM hn2
  obtain ⟨aDT, evaDT⟩ := exa_v hn3
  have S_aDT := Sta.start evaDT (Or.inr ⟨(hw _ (List.mem_of_getElem? (i := 6) rfl)), (hw _ (List.mem_of_getElem? (i := 46) rfl))⟩)
  have E_aDT := Exa.start evaDT hn3
  obtain ⟨aDR, evaDR⟩ := exa_v hn4
  have S_aDR := Sta.start evaDR (Or.inr ⟨(hw _ (List.mem_of_getElem? (i := 6) rfl)), (hw _ (List.mem_of_getElem? (i := 48) rfl))⟩)
  have E_aDR := Exa.start evaDR hn4
  obtain ⟨n, o, h1, h2, h3, _, L, rfl, ⟨rfl, N⟩, hq⟩ := rm_law l s _ hw tables_1 i0 i1 aTS aSI aNM aDT aDR s.heap s.heap.size (Old.start s) S_aTS S_aSI S_aNM S_aDT S_aDR p e ha hc hk s m _ below hf ((Spec.applies_iff_loose hf).mp happ).1 ⟨rfl, State.Warmed39.refl s, rfl⟩ trivial
  refine ⟨n, _, h1, h2, h3, hpost _ _ _ _ _ _ ⟨Cond.after_iff.mpr rfl, Cond.after_iff.mpr (eq_i res_at (Term.int_eval (1)) rfl), trivial⟩ ⟨hq.1, hq.2.1, (hq.2.2.sift fun y hy => Or.inr (N y hy)).mono (by decide) (by decide)⟩⟩
theorem main_1_1 : Claimed_1_1 := comes_1 fun _ _ _ _ _ _ h hF => ⟨h.1, hF⟩
theorem main_1_2 : Claimed_1_2 := comes_1 fun _ _ _ _ _ _ h hF => ⟨h.2.1, hF⟩
end Jvm.Pilot.@@N@@
namespace Jvm.Pilot.@@N@@
open Jvm Jvm.ClassFile Sem Op Lib Jvm.Free Jvm.Stand Jvm.Pilot.@@N@@.Jvm.D
/-! MADE BY PROGRAM (witnessworld.py) out of the Statement's table words and the real class files: 14 classes; the members and pool entries that the words name. The judged class is class 1, her method 2. -/
namespace start1
open Jvm.ClassFile
def u (s : String) : CpInfo := .utf8 (stringToUtf16 s)
/-- a pool by its gaps: so many unusable entries, then the entry; so many at the end -/
def gap : Nat → List CpInfo → List CpInfo
  | 0, r => r
  | n + 1, r => .unusable :: gap n r
def poolList (es : List (Nat × CpInfo)) (last : Nat) : List CpInfo := es.foldr (fun e r => gap e.1 (e.2 :: r)) (gap last [])
def pool (es : List (Nat × CpInfo)) (last : Nat) : Array CpInfo := ⟨poolList es last⟩
def fileOf (pool : Array CpInfo) (this : Nat) (attrs : Array Attribute := #[]) (ms : Array MethodInfo := #[]) (fl : Nat := 33) (sup : Nat := 0) (ifs : Array Nat := #[]) (fds : Array FieldInfo := #[]) : ClassFile where
  minorVersion := 0
  majorVersion := 65
  constantPool := pool
  accessFlags := fl
  thisClass := this
  superClass := sup
  interfaces := ifs
  fields := fds
  methods := ms
  attributes := attrs
def plain (name : String) (sup : Option ClassId) : Class where
  name := name
  kind := .ordinary
  loader := none
  accessFlags := 33
  super := sup
  interfaces := #[]
  cf := none
  fields := #[]
  methods := #[]
  instanceTypes := #[]
  staticTypes := #[]
  resolved := #[]
  callSites := []
  init := .initialized
  statics := none
  mirror := none

def pool0 : Array CpInfo := pool [(5, u "<init>"), (0, u "()V"), (1, .class_ 10), (1, u "java/lang/Object")] 113

def k0c0 : Code := { maxStack := 0, maxLocals := 1, code := object_method_1_code, exceptionTable := #[], attributes := #[] }
def k0m0 : Method := { name := "<init>", desc := "()V", sig := { parameters := [], returnType := none }, accessFlags := 1, code := some k0c0 }
/-- java/lang/Object -/
def k0 : Class := { plain "java/lang/Object" none with
  accessFlags := 33
  interfaces := #[]
  cf := some (fileOf pool0 8 #[] #[{ accessFlags := 1, nameIndex := 5, descriptorIndex := 6, attributes := #[] }] 33 0 #[] #[])
  fields := #[]
  methods := #[k0m0]
  instanceTypes := #[]
  staticTypes := #[]
  resolved := Array.replicate 124 none
  statics := none }

def pool1 : Array CpInfo := pool [(2, .class_ 4), (1, u "java/lang/Object"), (0, u "<init>"), (0, u "()V"), (0, .integer 2147483647), (0, .fieldref 9 10), (0, .class_ 11), (0, .nameAndType 12 13), (0, u "com/example/vaxwire/vaxwire/hl7/DataType"), (0, u "NM"), (0, u "Lcom/example/vaxwire/vaxwire/hl7/DataType;"), (0, .fieldref 9 15), (0, .nameAndType 16 13), (0, u "SI"), (0, .fieldref 9 18), (0, .nameAndType 19 13), (0, u "DT"), (0, .fieldref 9 21), (0, .nameAndType 22 13), (0, u "TS"), (0, .fieldref 9 24), (0, .nameAndType 25 13), (0, u "DR"), (0, .methodref 27 28), (0, .class_ 29), (0, .nameAndType 30 31), (0, u "com/example/vaxwire/vaxwire/hl7/TypedWholePinLaw"), (0, u "pick"), (0, u "(I)Lcom/example/vaxwire/vaxwire/hl7/DataType;"), (0, .class_ 33), (0, u "com/example/vaxwire/vaxwire/hl7/FieldTypes$Typed"), (0, .methodref 32 35), (0, .nameAndType 5 36), (0, u "(ILcom/example/vaxwire/vaxwire/hl7/DataType;)V"), (0, .methodref 32 38), (0, .nameAndType 39 40), (0, u "whole"), (0, u "()Z"), (0, .methodref 32 42), (0, .nameAndType 43 44), (0, u "component"), (0, u "()I"), (0, .methodref 32 46), (0, .nameAndType 47 48), (0, u "type"), (0, u "()Lcom/example/vaxwire/vaxwire/hl7/DataType;"), (3, u "law"), (0, u "(II)Z")] 6

def k1m0 : Method := { name := "<init>", desc := "()V", sig := { parameters := [], returnType := none }, accessFlags := 2, code := none }
def k1c1 : Code := { maxStack := 2, maxLocals := 2, code := method_2_code, exceptionTable := #[], attributes := #[] }
def k1m1 : Method := { name := "pick", desc := "(I)Lcom/example/vaxwire/vaxwire/hl7/DataType;", sig := { parameters := [.int], returnType := some (.object "com/example/vaxwire/vaxwire/hl7/DataType") }, accessFlags := 10, code := some k1c1 }
def k1c2 : Code := { maxStack := 4, maxLocals := 6, code := code, exceptionTable := #[], attributes := #[] }
def k1m2 : Method := { name := "law", desc := "(II)Z", sig := { parameters := [.int, .int], returnType := some .boolean }, accessFlags := 9, code := some k1c2 }
/-- com/example/vaxwire/vaxwire/hl7/TypedWholePinLaw -/
def k1 : Class := { plain "com/example/vaxwire/vaxwire/hl7/TypedWholePinLaw" (some 0) with
  accessFlags := 49
  interfaces := #[]
  cf := some (fileOf pool1 27 #[] #[{ accessFlags := 2, nameIndex := 5, descriptorIndex := 6, attributes := #[] }, { accessFlags := 10, nameIndex := 30, descriptorIndex := 31, attributes := #[] }, { accessFlags := 9, nameIndex := 52, descriptorIndex := 53, attributes := #[] }] 49 2 #[] #[])
  fields := #[]
  methods := #[k1m0, k1m1, k1m2]
  instanceTypes := #[]
  staticTypes := #[]
  resolved := Array.replicate 60 none
  statics := none }

def pool2 : Array CpInfo := pool [(1, .class_ 2), (0, u "java/lang/constant/Constable"), (0, .class_ 4), (0, u "java/lang/Object")] 6

/-- java/lang/constant/Constable -/
def k2 : Class := { plain "java/lang/constant/Constable" (some 0) with
  accessFlags := 1537
  interfaces := #[]
  cf := some (fileOf pool2 1 #[] #[] 1537 3 #[] #[])
  fields := #[]
  methods := #[]
  instanceTypes := #[]
  staticTypes := #[]
  resolved := Array.replicate 11 none
  statics := none }

def pool3 : Array CpInfo := pool [(1, .class_ 2), (0, u "java/lang/Comparable"), (0, .class_ 4), (0, u "java/lang/Object")] 7

/-- java/lang/Comparable -/
def k3 : Class := { plain "java/lang/Comparable" (some 0) with
  accessFlags := 1537
  interfaces := #[]
  cf := some (fileOf pool3 1 #[] #[] 1537 3 #[] #[])
  fields := #[]
  methods := #[]
  instanceTypes := #[]
  staticTypes := #[]
  resolved := Array.replicate 12 none
  statics := none }

def pool4 : Array CpInfo := pool [(1, .class_ 2), (0, u "java/io/Serializable"), (0, .class_ 4), (0, u "java/lang/Object")] 2

/-- java/io/Serializable -/
def k4 : Class := { plain "java/io/Serializable" (some 0) with
  accessFlags := 1537
  interfaces := #[]
  cf := some (fileOf pool4 1 #[] #[] 1537 3 #[] #[])
  fields := #[]
  methods := #[]
  instanceTypes := #[]
  staticTypes := #[]
  resolved := Array.replicate 7 none
  statics := none }

def pool5 : Array CpInfo := pool [(2, .class_ 4), (1, u "java/lang/Enum"), (0, u "name"), (0, u "Ljava/lang/String;"), (2, u "ordinal"), (0, u "I"), (1, .class_ 14), (1, u "java/lang/Object"), (4, u "hash"), (86, .class_ 108), (1, u "java/lang/Enum$EnumDesc"), (2, .class_ 112), (0, u "java/lang/constant/Constable"), (0, .class_ 114), (0, u "java/lang/Comparable"), (0, .class_ 116), (0, u "java/io/Serializable")] 87

/-- java/lang/Enum -/
def k5 : Class := { plain "java/lang/Enum" (some 0) with
  accessFlags := 1057
  interfaces := #[2, 3, 4]
  cf := some (fileOf pool5 2 #[.nestMembers #[106]] #[] 1057 12 #[111, 113, 115] #[{ accessFlags := 18, nameIndex := 5, descriptorIndex := 6, attributes := #[] }, { accessFlags := 18, nameIndex := 9, descriptorIndex := 10, attributes := #[] }, { accessFlags := 2, nameIndex := 19, descriptorIndex := 10, attributes := #[] }])
  fields := #[{ name := "name", type := (.object "java/lang/String"), accessFlags := 18, slot := 0, constantValue := 0 }, { name := "ordinal", type := .int, accessFlags := 18, slot := 1, constantValue := 0 }, { name := "hash", type := .int, accessFlags := 2, slot := 2, constantValue := 0 }]
  methods := #[]
  instanceTypes := #[(.object "java/lang/String"), .int, .int]
  staticTypes := #[]
  resolved := Array.replicate 204 none
  statics := none }

def pool6 : Array CpInfo := pool [(1, .class_ 2), (0, u "com/example/vaxwire/vaxwire/hl7/DataType"), (2, u "NM"), (0, u "Lcom/example/vaxwire/vaxwire/hl7/DataType;"), (2, u "SI"), (2, u "DT"), (2, u "TS"), (2, u "DR"), (2, u "$VALUES"), (0, u "[Lcom/example/vaxwire/vaxwire/hl7/DataType;"), (6, .class_ 31), (1, u "java/lang/Enum"), (8, u "form"), (0, u "Ljava/lang/String;"), (2, u "parts"), (0, u "I"), (60, .class_ 108), (1, u "com/example/vaxwire/vaxwire/hl7/DataType$TimePart"), (88, u "YEAR_DIGITS"), (2, u "MONTH_DIGITS"), (1, u "DAY_DIGITS"), (1, u "HOUR_DIGITS"), (1, u "MINUTE_DIGITS"), (1, u "SECOND_DIGITS"), (1, u "FRACTION_DIGITS"), (0, u "ZONE_LENGTH"), (1, u "LAST_HOUR"), (1, u "LAST_OF_SIXTY"), (1, u "DECIMAL")] 22

/-- com/example/vaxwire/vaxwire/hl7/DataType -/
def k6 : Class := { plain "com/example/vaxwire/vaxwire/hl7/DataType" (some 5) with
  accessFlags := 16433
  interfaces := #[]
  cf := some (fileOf pool6 1 #[.nestMembers #[106]] #[] 16433 29 #[] #[{ accessFlags := 16409, nameIndex := 5, descriptorIndex := 6, attributes := #[] }, { accessFlags := 16409, nameIndex := 9, descriptorIndex := 6, attributes := #[] }, { accessFlags := 16409, nameIndex := 12, descriptorIndex := 6, attributes := #[] }, { accessFlags := 16409, nameIndex := 15, descriptorIndex := 6, attributes := #[] }, { accessFlags := 16409, nameIndex := 18, descriptorIndex := 6, attributes := #[] }, { accessFlags := 26, nameIndex := 197, descriptorIndex := 45, attributes := #[] }, { accessFlags := 26, nameIndex := 200, descriptorIndex := 45, attributes := #[] }, { accessFlags := 26, nameIndex := 202, descriptorIndex := 45, attributes := #[] }, { accessFlags := 26, nameIndex := 204, descriptorIndex := 45, attributes := #[] }, { accessFlags := 26, nameIndex := 206, descriptorIndex := 45, attributes := #[] }, { accessFlags := 26, nameIndex := 208, descriptorIndex := 45, attributes := #[] }, { accessFlags := 26, nameIndex := 210, descriptorIndex := 45, attributes := #[] }, { accessFlags := 26, nameIndex := 211, descriptorIndex := 45, attributes := #[] }, { accessFlags := 26, nameIndex := 213, descriptorIndex := 45, attributes := #[] }, { accessFlags := 26, nameIndex := 215, descriptorIndex := 45, attributes := #[] }, { accessFlags := 26, nameIndex := 217, descriptorIndex := 45, attributes := #[] }, { accessFlags := 18, nameIndex := 40, descriptorIndex := 41, attributes := #[] }, { accessFlags := 18, nameIndex := 44, descriptorIndex := 45, attributes := #[] }, { accessFlags := 4122, nameIndex := 21, descriptorIndex := 22, attributes := #[] }])
  fields := #[{ name := "NM", type := (.object "com/example/vaxwire/vaxwire/hl7/DataType"), accessFlags := 16409, slot := 0, constantValue := 0 }, { name := "SI", type := (.object "com/example/vaxwire/vaxwire/hl7/DataType"), accessFlags := 16409, slot := 1, constantValue := 0 }, { name := "DT", type := (.object "com/example/vaxwire/vaxwire/hl7/DataType"), accessFlags := 16409, slot := 2, constantValue := 0 }, { name := "TS", type := (.object "com/example/vaxwire/vaxwire/hl7/DataType"), accessFlags := 16409, slot := 3, constantValue := 0 }, { name := "DR", type := (.object "com/example/vaxwire/vaxwire/hl7/DataType"), accessFlags := 16409, slot := 4, constantValue := 0 }, { name := "YEAR_DIGITS", type := .int, accessFlags := 26, slot := 5, constantValue := 0 }, { name := "MONTH_DIGITS", type := .int, accessFlags := 26, slot := 6, constantValue := 0 }, { name := "DAY_DIGITS", type := .int, accessFlags := 26, slot := 7, constantValue := 0 }, { name := "HOUR_DIGITS", type := .int, accessFlags := 26, slot := 8, constantValue := 0 }, { name := "MINUTE_DIGITS", type := .int, accessFlags := 26, slot := 9, constantValue := 0 }, { name := "SECOND_DIGITS", type := .int, accessFlags := 26, slot := 10, constantValue := 0 }, { name := "FRACTION_DIGITS", type := .int, accessFlags := 26, slot := 11, constantValue := 0 }, { name := "ZONE_LENGTH", type := .int, accessFlags := 26, slot := 12, constantValue := 0 }, { name := "LAST_HOUR", type := .int, accessFlags := 26, slot := 13, constantValue := 0 }, { name := "LAST_OF_SIXTY", type := .int, accessFlags := 26, slot := 14, constantValue := 0 }, { name := "DECIMAL", type := .int, accessFlags := 26, slot := 15, constantValue := 0 }, { name := "form", type := (.object "java/lang/String"), accessFlags := 18, slot := 3, constantValue := 0 }, { name := "parts", type := .int, accessFlags := 18, slot := 4, constantValue := 0 }, { name := "$VALUES", type := (.array (.object "com/example/vaxwire/vaxwire/hl7/DataType")), accessFlags := 4122, slot := 16, constantValue := 0 }]
  methods := #[]
  instanceTypes := #[(.object "java/lang/String"), .int, .int, (.object "java/lang/String"), .int]
  staticTypes := #[(.object "com/example/vaxwire/vaxwire/hl7/DataType"), (.object "com/example/vaxwire/vaxwire/hl7/DataType"), (.object "com/example/vaxwire/vaxwire/hl7/DataType"), (.object "com/example/vaxwire/vaxwire/hl7/DataType"), (.object "com/example/vaxwire/vaxwire/hl7/DataType"), .int, .int, .int, .int, .int, .int, .int, .int, .int, .int, .int, (.array (.object "com/example/vaxwire/vaxwire/hl7/DataType"))]
  resolved := Array.replicate 240 none
  statics := some 0 }

def pool7 : Array CpInfo := pool [(1, .methodref 2 3), (0, .class_ 4), (0, .nameAndType 5 6), (0, u "java/lang/Object"), (0, u "<init>"), (0, u "()V"), (0, .class_ 8), (0, u "java/lang/Record")] 13

def k7c0 : Code := { maxStack := 1, maxLocals := 1, code := jdk_30_method_1_code, exceptionTable := #[], attributes := #[] }
def k7m0 : Method := { name := "<init>", desc := "()V", sig := { parameters := [], returnType := none }, accessFlags := 4, code := some k7c0 }
/-- java/lang/Record -/
def k7 : Class := { plain "java/lang/Record" (some 0) with
  accessFlags := 1057
  interfaces := #[]
  cf := some (fileOf pool7 7 #[] #[{ accessFlags := 4, nameIndex := 5, descriptorIndex := 6, attributes := #[] }] 1057 2 #[] #[])
  fields := #[]
  methods := #[k7m0]
  instanceTypes := #[]
  staticTypes := #[]
  resolved := Array.replicate 22 none
  statics := none }

def pool8 : Array CpInfo := pool [(1, .class_ 2), (0, u "com/example/vaxwire/vaxwire/hl7/FieldTypes"), (0, .methodref 4 5), (0, .class_ 6), (0, .nameAndType 7 8), (0, u "java/lang/Record"), (0, u "<init>"), (0, u "()V"), (0, .fieldref 10 11), (0, .class_ 12), (0, .nameAndType 13 14), (0, u "com/example/vaxwire/vaxwire/hl7/FieldTypes$Typed"), (0, u "component"), (0, u "I"), (0, .fieldref 10 16), (0, .nameAndType 17 18), (0, u "type"), (0, u "Lcom/example/vaxwire/vaxwire/hl7/DataType;"), (12, u "(ILcom/example/vaxwire/vaxwire/hl7/DataType;)V"), (3, u "whole"), (0, u "()Z"), (2, u "()I"), (1, u "()Lcom/example/vaxwire/vaxwire/hl7/DataType;")] 23

def k8c0 : Code := { maxStack := 2, maxLocals := 3, code := prog_61_method_1_code, exceptionTable := #[], attributes := #[] }
def k8m0 : Method := { name := "<init>", desc := "(ILcom/example/vaxwire/vaxwire/hl7/DataType;)V", sig := { parameters := [.int, (.object "com/example/vaxwire/vaxwire/hl7/DataType")], returnType := none }, accessFlags := 1, code := some k8c0 }
def k8c1 : Code := { maxStack := 1, maxLocals := 1, code := prog_61_method_2_code, exceptionTable := #[], attributes := #[] }
def k8m1 : Method := { name := "whole", desc := "()Z", sig := { parameters := [], returnType := some .boolean }, accessFlags := 1, code := some k8c1 }
def k8c2 : Code := { maxStack := 1, maxLocals := 1, code := prog_61_method_6_code, exceptionTable := #[], attributes := #[] }
def k8m2 : Method := { name := "component", desc := "()I", sig := { parameters := [], returnType := some .int }, accessFlags := 1, code := some k8c2 }
def k8c3 : Code := { maxStack := 1, maxLocals := 1, code := prog_61_method_7_code, exceptionTable := #[], attributes := #[] }
def k8m3 : Method := { name := "type", desc := "()Lcom/example/vaxwire/vaxwire/hl7/DataType;", sig := { parameters := [], returnType := some (.object "com/example/vaxwire/vaxwire/hl7/DataType") }, accessFlags := 1, code := some k8c3 }
/-- com/example/vaxwire/vaxwire/hl7/FieldTypes$Typed -/
def k8 : Class := { plain "com/example/vaxwire/vaxwire/hl7/FieldTypes$Typed" (some 7) with
  accessFlags := 49
  interfaces := #[]
  cf := some (fileOf pool8 10 #[.nestHost 1] #[{ accessFlags := 1, nameIndex := 7, descriptorIndex := 31, attributes := #[] }, { accessFlags := 1, nameIndex := 35, descriptorIndex := 36, attributes := #[] }, { accessFlags := 1, nameIndex := 13, descriptorIndex := 39, attributes := #[] }, { accessFlags := 1, nameIndex := 17, descriptorIndex := 41, attributes := #[] }] 49 4 #[] #[{ accessFlags := 18, nameIndex := 13, descriptorIndex := 14, attributes := #[] }, { accessFlags := 18, nameIndex := 17, descriptorIndex := 18, attributes := #[] }])
  fields := #[{ name := "component", type := .int, accessFlags := 18, slot := 0, constantValue := 0 }, { name := "type", type := (.object "com/example/vaxwire/vaxwire/hl7/DataType"), accessFlags := 18, slot := 1, constantValue := 0 }]
  methods := #[k8m0, k8m1, k8m2, k8m3]
  instanceTypes := #[.int, (.object "com/example/vaxwire/vaxwire/hl7/DataType")]
  staticTypes := #[]
  resolved := Array.replicate 65 none
  statics := none }

def pool9 : Array CpInfo := pool [(1, u "java/lang/Cloneable"), (0, .class_ 1), (0, u "java/lang/Object"), (0, .class_ 3)] 3

/-- java/lang/Cloneable -/
def k9 : Class := { plain "java/lang/Cloneable" (some 0) with
  accessFlags := 1537
  interfaces := #[]
  cf := some (fileOf pool9 2 #[] #[] 1537 4 #[] #[])
  fields := #[]
  methods := #[]
  instanceTypes := #[]
  staticTypes := #[]
  resolved := Array.replicate 8 none
  statics := none }

/-- the primitive byte -/
def k10 : Class := { plain "byte" none with kind := .primitive 'B', accessFlags := 0x411 }
/-- [B -/
def k11 : Class := { plain "[B" (some 0) with kind := .array 10 .byte, interfaces := #[9, 4], accessFlags := 1041 }

/-- the primitive int -/
def k12 : Class := { plain "int" none with kind := .primitive 'I', accessFlags := 0x411 }
/-- [I -/
def k13 : Class := { plain "[I" (some 0) with kind := .array 12 .int, interfaces := #[9, 4], accessFlags := 1041 }

def heap : Heap := #[{ cls := 6, slots := #[.ref 1, .ref 1, .ref 1, .ref 1, .ref 1, .int 0, .int 0, .int 0, .int 0, .int 0, .int 0, .int 0, .int 0, .int 0, .int 0, .int 0, .null], vm := .statics 6 },
  { cls := 6, slots := #[.null, .int 0, .int 0, .null, .int 0], vm := .none }]
def classes : Array Class := #[k0, k1, k2, k3, k4, k5, k6, k7, k8, k9, k10, k11, k12, k13]
def interned : List (Array UInt16 × Addr) := []
def slotsUsed : Nat := 22
def theMethod : MethodId := ⟨1, 2⟩
def args0 : Array Value := #[.int 5, .int 7]
def aboutOver (below : List Frame) : State where
  vm := { classes := classes, interned := interned.toArray }
  heap := heap
  slotsUsed := slotsUsed
  threads := #[{ frames := .invoking theMethod args0 :: below }]
def below0 : List Frame := [.native { method := ⟨0, 0⟩, args := #[] }]
def about1 : State := aboutOver below0
def p0 : Program := .bare "" "" ""
def e0 : Env := launch0.env 0 0 0
theorem w_frames : about1.frames = Frame.invoking theMethod args0 :: below0 := rfl
set_option maxRecDepth 65536 in
theorem w_args : argsFit about1.vm theMethod args0 = true := by decide +kernel
set_option maxRecDepth 65536 in
theorem w_heap : heapFits about1 = true := by decide +kernel
set_option maxRecDepth 65536 in
theorem w_runnable : about1.curStatus? = some .runnable := by decide +kernel
set_option maxRecDepth 65536 in
theorem w_alone : about1.alone = true := by decide +kernel
set_option maxRecDepth 65536 in
theorem w_named : about1.methodNamed? x = some theMethod := by decide +kernel
set_option maxRecDepth 65536 in
theorem w_hears : about1.hears theMethod below0 = true := by decide +kernel
set_option maxRecDepth 65536 in
theorem w_ripe : about1.ripe theMethod args0 below0 = true := by decide +kernel
theorem w_running : about1.status = .running := rfl
set_option maxRecDepth 65536 in
theorem w_room : about1.hasRoom e0.platform room_1 = true :=
  launch0.hasRoom_least _ room_1 (by decide +kernel) (by decide +kernel) (by decide +kernel) (by decide +kernel) (by decide +kernel) (by decide +kernel)
theorem allAtoms_all (ts : List Jvm.Cond) (a : Array Jvm.Value) (st : Jvm.State) : (allAtoms ts).before a st = ts.all (fun c => c.before a st) := by
  induction ts with
  | nil => rfl
  | cons c t ih =>
    show (Jvm.Cond.and c (allAtoms t)).before a st = _
    rw [Jvm.Cond.before_and, ih, List.all_cons]
def words1 : List Jvm.Cond := Jvm.Cond.code x code maxLocals ret :: tables_1
/-- a 'code' word, met by the world's own term for the bytes: nothing is compared byte by byte -/
theorem code_word {y : MethodName} {bytes : ByteArray} {mx : Nat} {rt : Option FieldType} {a : Array Value} {s : State} {m : MethodId} {meth : Method} {c : Code} (h1 : s.methodNamed? y = some m) (h2 : s.vm.method? m = some meth) (h3 : meth.code = some c) (h4 : c.code = bytes)
    (h5 : (c.maxLocals == mx && c.exceptionTable.isEmpty && decide (c.maxStack ≤ mostOperands) && decide (meth.sig.returnType = rt) && !meth.locks && decide (parseMethodDescriptor y.desc = some meth.sig)) = true) : (Jvm.Cond.code y bytes mx rt).before a s = true := by
  simp only [Bool.and_eq_true, beq_iff_eq, Bool.not_eq_true', decide_eq_true_eq] at h5
  obtain ⟨⟨⟨⟨⟨g1, g2⟩, g3⟩, g4⟩, g5⟩, g6⟩ := h5
  simp [Cond.before, Cond.holds, Cond.value, h1, h2, h3, h4, g1, g2, g3, g4, g5, g6]
def isCode : Jvm.Cond → Bool
  | .code _ _ _ _ => true
  | _ => false
theorem all_split {L : List Jvm.Cond} {P : Jvm.Cond → Bool} (h1 : L.all (fun c => isCode c || P c) = true) (h2 : ∀ c ∈ L.filter isCode, P c = true) : L.all P = true := by
  refine List.all_eq_true.mpr fun c hc => ?_
  have h := List.all_eq_true.mp h1 c hc
  rcases Bool.eq_false_or_eq_true (isCode c) with hi | hi
  · exact h2 c (List.mem_filter.mpr ⟨hc, hi⟩)
  · simpa [hi] using h
set_option maxRecDepth 65536 in
theorem w_c0 : (Jvm.Cond.code x code maxLocals ret).before args0 about1 = true := code_word (m := ⟨1, 2⟩) (meth := k1m2) (c := k1c2) (by decide +kernel) rfl rfl rfl (by decide +kernel)
set_option maxRecDepth 65536 in
theorem w_c1 : (Jvm.Cond.code ({ cls := "com/example/vaxwire/vaxwire/hl7/TypedWholePinLaw", name := "pick", desc := "(I)Lcom/example/vaxwire/vaxwire/hl7/DataType;" } : Jvm.MethodName) method_2_code (2 : Nat) (Option.some (Jvm.ClassFile.FieldType.object "com/example/vaxwire/vaxwire/hl7/DataType"))).before args0 about1 = true := code_word (m := ⟨1, 1⟩) (meth := k1m1) (c := k1c1) (by decide +kernel) rfl rfl rfl (by decide +kernel)
set_option maxRecDepth 65536 in
theorem w_c2 : (Jvm.Cond.code ({ cls := "com/example/vaxwire/vaxwire/hl7/FieldTypes$Typed", name := "<init>", desc := "(ILcom/example/vaxwire/vaxwire/hl7/DataType;)V" } : Jvm.MethodName) prog_61_method_1_code (3 : Nat) (Option.none : Option Jvm.ClassFile.FieldType)).before args0 about1 = true := code_word (m := ⟨8, 0⟩) (meth := k8m0) (c := k8c0) (by decide +kernel) rfl rfl rfl (by decide +kernel)
set_option maxRecDepth 65536 in
theorem w_c3 : (Jvm.Cond.code ({ cls := "java/lang/Record", name := "<init>", desc := "()V" } : Jvm.MethodName) jdk_30_method_1_code (1 : Nat) (Option.none : Option Jvm.ClassFile.FieldType)).before args0 about1 = true := code_word (m := ⟨7, 0⟩) (meth := k7m0) (c := k7c0) (by decide +kernel) rfl rfl rfl (by decide +kernel)
set_option maxRecDepth 65536 in
theorem w_c4 : (Jvm.Cond.code ({ cls := "java/lang/Object", name := "<init>", desc := "()V" } : Jvm.MethodName) object_method_1_code (1 : Nat) (Option.none : Option Jvm.ClassFile.FieldType)).before args0 about1 = true := code_word (m := ⟨0, 0⟩) (meth := k0m0) (c := k0c0) (by decide +kernel) rfl rfl rfl (by decide +kernel)
set_option maxRecDepth 65536 in
theorem w_c5 : (Jvm.Cond.code ({ cls := "com/example/vaxwire/vaxwire/hl7/FieldTypes$Typed", name := "whole", desc := "()Z" } : Jvm.MethodName) prog_61_method_2_code (1 : Nat) (Option.some Jvm.ClassFile.FieldType.boolean)).before args0 about1 = true := code_word (m := ⟨8, 1⟩) (meth := k8m1) (c := k8c1) (by decide +kernel) rfl rfl rfl (by decide +kernel)
set_option maxRecDepth 65536 in
theorem w_c6 : (Jvm.Cond.code ({ cls := "com/example/vaxwire/vaxwire/hl7/FieldTypes$Typed", name := "component", desc := "()I" } : Jvm.MethodName) prog_61_method_6_code (1 : Nat) (Option.some Jvm.ClassFile.FieldType.int)).before args0 about1 = true := code_word (m := ⟨8, 2⟩) (meth := k8m2) (c := k8c2) (by decide +kernel) rfl rfl rfl (by decide +kernel)
set_option maxRecDepth 65536 in
theorem w_c7 : (Jvm.Cond.code ({ cls := "com/example/vaxwire/vaxwire/hl7/FieldTypes$Typed", name := "type", desc := "()Lcom/example/vaxwire/vaxwire/hl7/DataType;" } : Jvm.MethodName) prog_61_method_7_code (1 : Nat) (Option.some (Jvm.ClassFile.FieldType.object "com/example/vaxwire/vaxwire/hl7/DataType"))).before args0 about1 = true := code_word (m := ⟨8, 3⟩) (meth := k8m3) (c := k8c3) (by decide +kernel) rfl rfl rfl (by decide +kernel)
def codes1 : List Jvm.Cond := [Jvm.Cond.code x code maxLocals ret, Jvm.Cond.code ({ cls := "com/example/vaxwire/vaxwire/hl7/TypedWholePinLaw", name := "pick", desc := "(I)Lcom/example/vaxwire/vaxwire/hl7/DataType;" } : Jvm.MethodName) method_2_code (2 : Nat) (Option.some (Jvm.ClassFile.FieldType.object "com/example/vaxwire/vaxwire/hl7/DataType")), Jvm.Cond.code ({ cls := "com/example/vaxwire/vaxwire/hl7/FieldTypes$Typed", name := "<init>", desc := "(ILcom/example/vaxwire/vaxwire/hl7/DataType;)V" } : Jvm.MethodName) prog_61_method_1_code (3 : Nat) (Option.none : Option Jvm.ClassFile.FieldType), Jvm.Cond.code ({ cls := "java/lang/Record", name := "<init>", desc := "()V" } : Jvm.MethodName) jdk_30_method_1_code (1 : Nat) (Option.none : Option Jvm.ClassFile.FieldType), Jvm.Cond.code ({ cls := "java/lang/Object", name := "<init>", desc := "()V" } : Jvm.MethodName) object_method_1_code (1 : Nat) (Option.none : Option Jvm.ClassFile.FieldType), Jvm.Cond.code ({ cls := "com/example/vaxwire/vaxwire/hl7/FieldTypes$Typed", name := "whole", desc := "()Z" } : Jvm.MethodName) prog_61_method_2_code (1 : Nat) (Option.some Jvm.ClassFile.FieldType.boolean), Jvm.Cond.code ({ cls := "com/example/vaxwire/vaxwire/hl7/FieldTypes$Typed", name := "component", desc := "()I" } : Jvm.MethodName) prog_61_method_6_code (1 : Nat) (Option.some Jvm.ClassFile.FieldType.int), Jvm.Cond.code ({ cls := "com/example/vaxwire/vaxwire/hl7/FieldTypes$Typed", name := "type", desc := "()Lcom/example/vaxwire/vaxwire/hl7/DataType;" } : Jvm.MethodName) prog_61_method_7_code (1 : Nat) (Option.some (Jvm.ClassFile.FieldType.object "com/example/vaxwire/vaxwire/hl7/DataType"))]
set_option maxRecDepth 65536 in
theorem codes_eq : words1.filter isCode = codes1 := rfl
theorem w_codes : ∀ c ∈ words1.filter isCode, c.before args0 about1 = true := by
  rw [codes_eq]
  intro c hc
  simp only [codes1, List.mem_cons, List.not_mem_nil, or_false] at hc
  rcases hc with rfl | rfl | rfl | rfl | rfl | rfl | rfl | rfl
  · exact w_c0
  · exact w_c1
  · exact w_c2
  · exact w_c3
  · exact w_c4
  · exact w_c5
  · exact w_c6
  · exact w_c7
set_option maxRecDepth 65536 in
theorem w_t1 : (words1.take 24).all (fun c => isCode c || c.before args0 about1) = true := by decide +kernel
set_option maxRecDepth 65536 in
theorem w_t2 : ((words1.drop 24).take 24).all (fun c => isCode c || c.before args0 about1) = true := by decide +kernel
set_option maxRecDepth 65536 in
theorem w_t3 : ((words1.drop 24).drop 24).all (fun c => isCode c || c.before args0 about1) = true := by decide +kernel
theorem w_tables : (allAtoms (Jvm.Cond.code x code maxLocals ret :: tables_1)).before args0 about1 = true := by
  rw [allAtoms_all]
  show words1.all (fun c => c.before args0 about1) = true
  refine all_split ?_ w_codes
  rw [← List.take_append_drop 24 words1, List.all_append, w_t1, ← List.take_append_drop 24 (words1.drop 24), List.all_append, w_t2, w_t3]
  rfl
set_option maxRecDepth 65536 in
theorem w_case : (Jvm.Cond.and given_1 narrow_1).before args0 about1 = true := by decide +kernel
theorem w_applies : (headSpec (Jvm.Cond.code x code maxLocals ret :: tables_1) room_1).applies x e0.platform about1 = true :=
  (Spec.applies_iff w_frames).mpr ⟨w_running, w_runnable, w_alone, w_named, w_hears, w_ripe, w_room, w_tables⟩
theorem atStart : AtStart classFile x code maxLocals ret World_1 tables_1 room_1 Calls_1 rest_1 Pre_1 launch0 p0 e0 about1 theMethod args0 below0 :=
  ⟨lists_1, trivial, launch0.admits_env _ _ _, launch0.least_env, fairChoices_fair.cas, fairChoices_fair.clock, w_frames, w_args, w_heap, w_applies, trivial, trivial, w_case⟩
end start1
theorem witness_1 : WitnessClaimed_1 := ⟨start1.p0, start1.e0, start1.about1, start1.theMethod, start1.args0, start1.below0, start1.atStart⟩
end Jvm.Pilot.@@N@@
