import JvmDerived
import JvmDerived.Pilot.@@N@@Statement
import JvmDerived.Pilot.@@N@@Code
set_option linter.unusedVariables false
set_option linter.unusedSimpArgs false
namespace Jvm.RoadKit
open Sem ClassFile Op Lib Jvm.Stand Jvm.Free Jvm.LawKit
section New
variable {p : Program} {l : Launch} {e : Env} {R : Room} {s : State} {m : MethodId} {args : Array Value} {below : List Frame} {meth : Method} {c : Code} {T : State} {locs : List Loc} {cells slots : Nat}
theorem retI (X : Stand p l e R s m args below meth c T locs cells slots) (hx : p.tables.exec = Jvm.exec) {pc : Nat} {Ls : Array Slot} {z : Int32} {rest : List Value} (hret : meth.sig.returnType = some .int) (hd : decode c.code pc = .ok (.ireturn, 1)) {fs : List Frame}
    (hl : ∀ (f : JFrame) (acts : List Action), f.method = m → f.locked = none → f.entered = [] → (doReturn e (T.setTop f) acts (some (.int z))).1 = T.setFrames fs) : Steps p.tables e below (T.setTop (mkF m pc Ls (.int z :: rest))) (T.setFrames fs) := by
  have hm' : T.vm.method? m = some meth := X.method'
  have hn : narrow .int (.int z) = .int z := rfl
  show Steps p.tables e below (T.setTop { method := m, pc := pc, locals := Ls, stack := _ :: rest, locked := none }) _
  jvm_step X.here [X.here.top, hx, hd, hm', hret, hn]
  first | (intro acts; rw [hl _ acts rfl rfl rfl]) | rw [hl _ _ rfl rfl rfl]
  exact Steps.refl _
end New
end Jvm.RoadKit

namespace Jvm.Pilot.@@N@@
open Jvm Jvm.ClassFile Sem Op Lib Jvm.Free Jvm.Stand Jvm.LawKit Jvm.RoadKit Bundle Jvm.Pilot.@@N@@.Jvm.D
theorem own_le {Z : State} {n0 : Nat} {h : Heap} (O : Old Z n0 h) : n0 ≤ h.size := O.1 ▸ O.2.1
theorem own_narb {c : Prop} [Decidable c] : nar .boolean (if c then (1 : Int32) else 0) = if c then (1 : Int32) else 0 := by split <;> rfl
theorem own_narb' {c : Prop} [Decidable c] : nar .boolean (if c then (0 : Int32) else 1) = if c then (0 : Int32) else 1 := by split <;> rfl
theorem own_eqc {t : Term} {k : Int32} {a0 : Array Value} {Z : State} (h : (Jvm.Cond.eq t (.int k)).value a0 Z none Z [] = some true) : t.eval a0 Z none [] Z = some (.int k) := by
  obtain ⟨x, y, e1, e2, k1, -⟩ := cmp_v (Or.inl h)
  obtain rfl : Value.int k = y := Option.some.inj ((Term.int_eval k).symm.trans e2)
  cases x <;> simp [Kin, Value.isRef] at k1
  simp [Jvm.Cond.value, e1, Term.int_eval] at h
  rw [e1, h]

theorem d_of0_0 : decode prog_17_method_2_code 0 = .ok (.iload_n 0, 1) := by decide +kernel
theorem d_of0_1 : decode prog_17_method_2_code 1 = .ok (.ifCond .eq 9, 3) := by decide +kernel
theorem d_of0_10 : decode prog_17_method_2_code 10 = .ok (.getstatic 17, 3) := by decide +kernel
theorem d_of0_13 : decode prog_17_method_2_code 13 = .ok (.areturn, 1) := by decide +kernel
theorem pn_of0 : plainName "com/example/foretell/foretell/core/BooleanValue" = true := by first | (simp [plainName, overriddenIn]; done) | decide +kernel
theorem ef_of0 (m : MethodId)  : entryFrame m #[(.int (0 : Int32))] 1 = (mkF m 0 #[.val (.int (0 : Int32))] []) := by first | (simp [entryFrame, mkF, argsToLocals, Value.category]; done) | rfl
def Q_of0 (Z : State)  (aFALSE : Addr) (h0 : Heap) (n0 : Nat) (v : Option Value) (h : Heap) (L : List Loc) : Prop := v = some (.ref aFALSE) ∧ Fr n0 L ∧ h = h0
set_option maxRecDepth 65536 in
set_option maxHeartbeats 40000000 in
theorem rm_of0 (l : Launch) (Z : State) (a0 : Array Value) (hw : ∀ d ∈ tables_1, d.before a0 Z = true) (ws : List Jvm.Cond)  (aFALSE : Addr) (h0 : Heap) (n0 : Nat) (O0 : Old Z n0 h0) (S1 : Sta Z Z.heap "com/example/foretell/foretell/core/BooleanValue" "FALSE" "Lcom/example/foretell/foretell/core/BooleanValue;" (.ref aFALSE)) :
    MetFree l (⟨"com/example/foretell/foretell/core/BooleanValue", "of", "(Z)Lcom/example/foretell/foretell/core/BooleanValue;"⟩ : MethodName) (head1 (Jvm.Cond.code (⟨"com/example/foretell/foretell/core/BooleanValue", "of", "(Z)Lcom/example/foretell/foretell/core/BooleanValue;"⟩ : MethodName) prog_17_method_2_code 1 (some (.object "com/example/foretell/foretell/core/BooleanValue")) :: ws) ({ frames := 0, cells := 0, slots := 0, locals := 0 } : Room)) (fun a U => a = #[(.int (0 : Int32))] ∧ Z.Warmed39 U.vm ∧ U.heap = h0) (fun _ _ _ _ _ => True) (fun _ U o U' => ∃ v L, o = .returned v ∧ Q_of0 Z  aFALSE h0 n0 v U'.heap L ∧ FrameEnd U o U' L ({ frames := 0, cells := 0, slots := 0, locals := 0 } : Room).cells ({ frames := 0, cells := 0, slots := 0, locals := 0 } : Room).slots) := by
  refine MetFree.of_bodySF (plainFor_of_name pn_of0) hisR ?_
  intro p e s m args below meth c s₁ Bd hml0 hP hK
  obtain ⟨rfl, hZ, hh⟩ := hP
  have hx := Bd.exec
  have hby := Bd.bytes
  have hml : c.maxLocals = 1 := hml0
  have hown : s.vm.findClass "com/example/foretell/foretell/core/BooleanValue" = some m.cls := findClass_of_methodNamed Bd.named
  have hnm := (name_of_methodNamed Bd.named Bd.method).1
  have X0 : Stand p l e ({ frames := 0, cells := 0, slots := 0, locals := 0 } : Room) s m #[(.int (0 : Int32))] below meth c s₁ [] 0 0 := Stand.of_body Bd
  have e0 : s₁.heap = h0 := by rw [← hh, Bd.state]; rfl
  have N0 := Fr.nil n0
  have pre0 : ∀ t, Steps p.tables e below (s₁.setTop (mkF m 0 #[.val (.int (0 : Int32))] [])) t → Steps p.tables e below (s₁.setTop (entryFrame m #[(.int (0 : Int32))] 1)) t := fun t k => castTop (ef_of0 m ) k
  have pre_1 : ∀ t, Steps p.tables e below (s₁.setTop (mkF m 10 #[.val (.int (0 : Int32))] [])) t → Steps p.tables e below (s₁.setTop (entryFrame m #[(.int (0 : Int32))] 1)) t := by
    intro t k
    refine pre0 t ?_
    show Steps p.tables e below (s₁.setTop (mkF m 0 #[.val (.int (0 : Int32))] [])) _
    refine XS.iloadN X0.here hx rfl (hb hby d_of0_0) rfl ?_
    show Steps p.tables e below (s₁.setTop (mkF m 1 #[.val (.int (0 : Int32))] [(.int (0 : Int32))])) _
    refine XS.ifYes X0.here hx rfl (pc0 := 1) (pc' := 10) rfl (hb hby d_of0_1) rfl (XT.i0_eq_t (by decide)) (by decide) (by decide) ?_
    show Steps p.tables e below (s₁.setTop (mkF m 10 #[.val (.int (0 : Int32))] [])) _
    exact k
  obtain ⟨T2, X2, e2, st2⟩ := getS X0 hx hZ hown (host := "") (hw _ (List.mem_of_getElem? (i := 4) rfl)) Via.refl e0 (S1.ext O0.2) (g := (mkF m 10 #[.val (.int (0 : Int32))] [])) rfl (hb hby d_of0_10)
  have pre_3 : ∀ t, Steps p.tables e below (T2.setTop (mkF m 13 #[.val (.int (0 : Int32))] [(.ref aFALSE)])) t → Steps p.tables e below (s₁.setTop (entryFrame m #[(.int (0 : Int32))] 1)) t := fun t k => pre_1 t (st2 t k)
  obtain ⟨fs, hr, hrun, hended, hW, hsame⟩ := X2.leave (v := some (.ref aFALSE)) (fun h => by rw [Bd.returns] at h; cases h)
  refine ⟨_, _, pre_3 _ ?_, hrun, hended, _, _, rfl, ?_, ⟨_, rfl⟩, hW, hsame.mono (by decide) (by decide)⟩
  · show Steps p.tables e below (T2.setTop (mkF m 13 #[.val (.int (0 : Int32))] [(.ref aFALSE)])) _
    exact retOut X2 hx (t := (.object "com/example/foretell/foretell/core/BooleanValue")) Bd.returns rfl (Or.inr (Or.inr (Or.inr (Or.inr ⟨rfl, rfl, rfl⟩)))) (hb hby d_of0_13) hr
  · show Q_of0 Z  aFALSE h0 n0 _ T2.heap _
    rw [e2]
    exact ⟨rfl, N0, rfl⟩
theorem d_val0_0 : decode prog_17_method_3_code 0 = .ok (.aload_n 0, 1) := by decide +kernel
theorem d_val0_1 : decode prog_17_method_3_code 1 = .ok (.getfield 7, 3) := by decide +kernel
theorem d_val0_4 : decode prog_17_method_3_code 4 = .ok (.ireturn, 1) := by decide +kernel
theorem pn_val0 : plainName "com/example/foretell/foretell/core/BooleanValue" = true := by first | (simp [plainName, overriddenIn]; done) | decide +kernel
theorem ef_val0 (m : MethodId) (a1 : Addr) : entryFrame m #[(.ref a1)] 1 = (mkF m 0 #[.val (.ref a1)] []) := by first | (simp [entryFrame, mkF, argsToLocals, Value.category]; done) | rfl
def Q_val0 (Z : State) (a1 : Addr)  (h0 : Heap) (n0 : Nat) (v : Option Value) (h : Heap) (L : List Loc) : Prop := v = some (.int (0 : Int32)) ∧ Fr n0 L ∧ h = h0
set_option maxRecDepth 65536 in
set_option maxHeartbeats 40000000 in
theorem rm_val0 (l : Launch) (Z : State) (a0 : Array Value) (hw : ∀ d ∈ tables_1, d.before a0 Z = true) (ws : List Jvm.Cond) (a1 : Addr)  (h0 : Heap) (n0 : Nat) (O0 : Old Z n0 h0) (F1 : Fld Z h0 a1 "com/example/foretell/foretell/core/BooleanValue" "value" "Z" (.int (0 : Int32))) :
    MetFree l (⟨"com/example/foretell/foretell/core/BooleanValue", "value", "()Z"⟩ : MethodName) (head1 (Jvm.Cond.code (⟨"com/example/foretell/foretell/core/BooleanValue", "value", "()Z"⟩ : MethodName) prog_17_method_3_code 1 (some .boolean) :: ws) ({ frames := 0, cells := 0, slots := 0, locals := 0 } : Room)) (fun a U => a = #[(.ref a1)] ∧ Z.Warmed39 U.vm ∧ U.heap = h0) (fun _ _ _ _ _ => True) (fun _ U o U' => ∃ v L, o = .returned v ∧ Q_val0 Z a1  h0 n0 v U'.heap L ∧ FrameEnd U o U' L ({ frames := 0, cells := 0, slots := 0, locals := 0 } : Room).cells ({ frames := 0, cells := 0, slots := 0, locals := 0 } : Room).slots) := by
  refine MetFree.of_bodySF (plainFor_of_name pn_val0) hisR ?_
  intro p e s m args below meth c s₁ Bd hml0 hP hK
  obtain ⟨rfl, hZ, hh⟩ := hP
  have hx := Bd.exec
  have hby := Bd.bytes
  have hml : c.maxLocals = 1 := hml0
  have hown : s.vm.findClass "com/example/foretell/foretell/core/BooleanValue" = some m.cls := findClass_of_methodNamed Bd.named
  have hnm := (name_of_methodNamed Bd.named Bd.method).1
  have X0 : Stand p l e ({ frames := 0, cells := 0, slots := 0, locals := 0 } : Room) s m #[(.ref a1)] below meth c s₁ [] 0 0 := Stand.of_body Bd
  have e0 : s₁.heap = h0 := by rw [← hh, Bd.state]; rfl
  have N0 := Fr.nil n0
  have pre0 : ∀ t, Steps p.tables e below (s₁.setTop (mkF m 0 #[.val (.ref a1)] [])) t → Steps p.tables e below (s₁.setTop (entryFrame m #[(.ref a1)] 1)) t := fun t k => castTop (ef_val0 m a1) k
  have pre_1 : ∀ t, Steps p.tables e below (s₁.setTop (mkF m 1 #[.val (.ref a1)] [(.ref a1)])) t → Steps p.tables e below (s₁.setTop (entryFrame m #[(.ref a1)] 1)) t := by
    intro t k
    refine pre0 t ?_
    show Steps p.tables e below (s₁.setTop (mkF m 0 #[.val (.ref a1)] [])) _
    refine XS.aloadN X0.here hx rfl (hb hby d_val0_0) rfl rfl ?_
    show Steps p.tables e below (s₁.setTop (mkF m 1 #[.val (.ref a1)] [(.ref a1)])) _
    exact k
  obtain ⟨T2, X2, e2, st2⟩ := getF X0 hx hZ hown (host := "") (Or.inl (hw _ (List.mem_of_getElem? (i := 13) rfl))) Via.refl e0 F1 (g := (mkF m 1 #[.val (.ref a1)] [(.ref a1)])) rfl rfl (hb hby d_val0_1)
  have pre_3 : ∀ t, Steps p.tables e below (T2.setTop (mkF m 4 #[.val (.ref a1)] [(.int (0 : Int32))])) t → Steps p.tables e below (s₁.setTop (entryFrame m #[(.ref a1)] 1)) t := fun t k => pre_1 t (st2 t k)
  obtain ⟨fs, hr, hrun, hended, hW, hsame⟩ := X2.leave (v := some (.int (0 : Int32))) (fun h => by rw [Bd.returns] at h; cases h)
  refine ⟨_, _, pre_3 _ ?_, hrun, hended, _, _, rfl, ?_, ⟨_, rfl⟩, hW, hsame.mono (by decide) (by decide)⟩
  · show Steps p.tables e below (T2.setTop (mkF m 4 #[.val (.ref a1)] [(.int (0 : Int32))])) _
    exact retN X2 hx (t := .boolean) Bd.returns (by simp) (hb hby d_val0_4) hr
  · show Q_val0 Z a1  h0 n0 _ T2.heap _
    rw [e2]
    exact ⟨rfl, N0, rfl⟩
theorem d_of1_0 : decode prog_17_method_2_code 0 = .ok (.iload_n 0, 1) := by decide +kernel
theorem d_of1_1 : decode prog_17_method_2_code 1 = .ok (.ifCond .eq 9, 3) := by decide +kernel
theorem d_of1_4 : decode prog_17_method_2_code 4 = .ok (.getstatic 13, 3) := by decide +kernel
theorem d_of1_7 : decode prog_17_method_2_code 7 = .ok (.goto 6, 3) := by decide +kernel
theorem d_of1_13 : decode prog_17_method_2_code 13 = .ok (.areturn, 1) := by decide +kernel
theorem pn_of1 : plainName "com/example/foretell/foretell/core/BooleanValue" = true := by first | (simp [plainName, overriddenIn]; done) | decide +kernel
theorem ef_of1 (m : MethodId)  : entryFrame m #[(.int (1 : Int32))] 1 = (mkF m 0 #[.val (.int (1 : Int32))] []) := by first | (simp [entryFrame, mkF, argsToLocals, Value.category]; done) | rfl
def Q_of1 (Z : State)  (aTRUE : Addr) (h0 : Heap) (n0 : Nat) (v : Option Value) (h : Heap) (L : List Loc) : Prop := v = some (.ref aTRUE) ∧ Fr n0 L ∧ h = h0
set_option maxRecDepth 65536 in
set_option maxHeartbeats 40000000 in
theorem rm_of1 (l : Launch) (Z : State) (a0 : Array Value) (hw : ∀ d ∈ tables_1, d.before a0 Z = true) (ws : List Jvm.Cond)  (aTRUE : Addr) (h0 : Heap) (n0 : Nat) (O0 : Old Z n0 h0) (S1 : Sta Z Z.heap "com/example/foretell/foretell/core/BooleanValue" "TRUE" "Lcom/example/foretell/foretell/core/BooleanValue;" (.ref aTRUE)) :
    MetFree l (⟨"com/example/foretell/foretell/core/BooleanValue", "of", "(Z)Lcom/example/foretell/foretell/core/BooleanValue;"⟩ : MethodName) (head1 (Jvm.Cond.code (⟨"com/example/foretell/foretell/core/BooleanValue", "of", "(Z)Lcom/example/foretell/foretell/core/BooleanValue;"⟩ : MethodName) prog_17_method_2_code 1 (some (.object "com/example/foretell/foretell/core/BooleanValue")) :: ws) ({ frames := 0, cells := 0, slots := 0, locals := 0 } : Room)) (fun a U => a = #[(.int (1 : Int32))] ∧ Z.Warmed39 U.vm ∧ U.heap = h0) (fun _ _ _ _ _ => True) (fun _ U o U' => ∃ v L, o = .returned v ∧ Q_of1 Z  aTRUE h0 n0 v U'.heap L ∧ FrameEnd U o U' L ({ frames := 0, cells := 0, slots := 0, locals := 0 } : Room).cells ({ frames := 0, cells := 0, slots := 0, locals := 0 } : Room).slots) := by
  refine MetFree.of_bodySF (plainFor_of_name pn_of1) hisR ?_
  intro p e s m args below meth c s₁ Bd hml0 hP hK
  obtain ⟨rfl, hZ, hh⟩ := hP
  have hx := Bd.exec
  have hby := Bd.bytes
  have hml : c.maxLocals = 1 := hml0
  have hown : s.vm.findClass "com/example/foretell/foretell/core/BooleanValue" = some m.cls := findClass_of_methodNamed Bd.named
  have hnm := (name_of_methodNamed Bd.named Bd.method).1
  have X0 : Stand p l e ({ frames := 0, cells := 0, slots := 0, locals := 0 } : Room) s m #[(.int (1 : Int32))] below meth c s₁ [] 0 0 := Stand.of_body Bd
  have e0 : s₁.heap = h0 := by rw [← hh, Bd.state]; rfl
  have N0 := Fr.nil n0
  have pre0 : ∀ t, Steps p.tables e below (s₁.setTop (mkF m 0 #[.val (.int (1 : Int32))] [])) t → Steps p.tables e below (s₁.setTop (entryFrame m #[(.int (1 : Int32))] 1)) t := fun t k => castTop (ef_of1 m ) k
  have pre_1 : ∀ t, Steps p.tables e below (s₁.setTop (mkF m 4 #[.val (.int (1 : Int32))] [])) t → Steps p.tables e below (s₁.setTop (entryFrame m #[(.int (1 : Int32))] 1)) t := by
    intro t k
    refine pre0 t ?_
    show Steps p.tables e below (s₁.setTop (mkF m 0 #[.val (.int (1 : Int32))] [])) _
    refine XS.iloadN X0.here hx rfl (hb hby d_of1_0) rfl ?_
    show Steps p.tables e below (s₁.setTop (mkF m 1 #[.val (.int (1 : Int32))] [(.int (1 : Int32))])) _
    refine XS.ifNo X0.here hx rfl (hb hby d_of1_1) rfl (XT.i0_eq_f (by decide)) ?_
    show Steps p.tables e below (s₁.setTop (mkF m 4 #[.val (.int (1 : Int32))] [])) _
    exact k
  obtain ⟨T2, X2, e2, st2⟩ := getS X0 hx hZ hown (host := "") (hw _ (List.mem_of_getElem? (i := 6) rfl)) Via.refl e0 (S1.ext O0.2) (g := (mkF m 4 #[.val (.int (1 : Int32))] [])) rfl (hb hby d_of1_4)
  have pre_3 : ∀ t, Steps p.tables e below (T2.setTop (mkF m 7 #[.val (.int (1 : Int32))] [(.ref aTRUE)])) t → Steps p.tables e below (s₁.setTop (entryFrame m #[(.int (1 : Int32))] 1)) t := fun t k => pre_1 t (st2 t k)
  have pre_4 : ∀ t, Steps p.tables e below (T2.setTop (mkF m 13 #[.val (.int (1 : Int32))] [(.ref aTRUE)])) t → Steps p.tables e below (s₁.setTop (entryFrame m #[(.int (1 : Int32))] 1)) t := by
    intro t k
    refine pre_3 t ?_
    show Steps p.tables e below (T2.setTop (mkF m 7 #[.val (.int (1 : Int32))] [(.ref aTRUE)])) _
    refine XS.goto X2.here hx rfl (pc0 := 7) (pc' := 13) rfl (hb hby d_of1_7) (by decide) (by decide) ?_
    show Steps p.tables e below (T2.setTop (mkF m 13 #[.val (.int (1 : Int32))] [(.ref aTRUE)])) _
    exact k
  obtain ⟨fs, hr, hrun, hended, hW, hsame⟩ := X2.leave (v := some (.ref aTRUE)) (fun h => by rw [Bd.returns] at h; cases h)
  refine ⟨_, _, pre_4 _ ?_, hrun, hended, _, _, rfl, ?_, ⟨_, rfl⟩, hW, hsame.mono (by decide) (by decide)⟩
  · show Steps p.tables e below (T2.setTop (mkF m 13 #[.val (.int (1 : Int32))] [(.ref aTRUE)])) _
    exact retOut X2 hx (t := (.object "com/example/foretell/foretell/core/BooleanValue")) Bd.returns rfl (Or.inr (Or.inr (Or.inr (Or.inr ⟨rfl, rfl, rfl⟩)))) (hb hby d_of1_13) hr
  · show Q_of1 Z  aTRUE h0 n0 _ T2.heap _
    rw [e2]
    exact ⟨rfl, N0, rfl⟩
theorem d_val1_0 : decode prog_17_method_3_code 0 = .ok (.aload_n 0, 1) := by decide +kernel
theorem d_val1_1 : decode prog_17_method_3_code 1 = .ok (.getfield 7, 3) := by decide +kernel
theorem d_val1_4 : decode prog_17_method_3_code 4 = .ok (.ireturn, 1) := by decide +kernel
theorem pn_val1 : plainName "com/example/foretell/foretell/core/BooleanValue" = true := by first | (simp [plainName, overriddenIn]; done) | decide +kernel
theorem ef_val1 (m : MethodId) (a1 : Addr) : entryFrame m #[(.ref a1)] 1 = (mkF m 0 #[.val (.ref a1)] []) := by first | (simp [entryFrame, mkF, argsToLocals, Value.category]; done) | rfl
def Q_val1 (Z : State) (a1 : Addr)  (h0 : Heap) (n0 : Nat) (v : Option Value) (h : Heap) (L : List Loc) : Prop := v = some (.int (1 : Int32)) ∧ Fr n0 L ∧ h = h0
set_option maxRecDepth 65536 in
set_option maxHeartbeats 40000000 in
theorem rm_val1 (l : Launch) (Z : State) (a0 : Array Value) (hw : ∀ d ∈ tables_1, d.before a0 Z = true) (ws : List Jvm.Cond) (a1 : Addr)  (h0 : Heap) (n0 : Nat) (O0 : Old Z n0 h0) (F1 : Fld Z h0 a1 "com/example/foretell/foretell/core/BooleanValue" "value" "Z" (.int (1 : Int32))) :
    MetFree l (⟨"com/example/foretell/foretell/core/BooleanValue", "value", "()Z"⟩ : MethodName) (head1 (Jvm.Cond.code (⟨"com/example/foretell/foretell/core/BooleanValue", "value", "()Z"⟩ : MethodName) prog_17_method_3_code 1 (some .boolean) :: ws) ({ frames := 0, cells := 0, slots := 0, locals := 0 } : Room)) (fun a U => a = #[(.ref a1)] ∧ Z.Warmed39 U.vm ∧ U.heap = h0) (fun _ _ _ _ _ => True) (fun _ U o U' => ∃ v L, o = .returned v ∧ Q_val1 Z a1  h0 n0 v U'.heap L ∧ FrameEnd U o U' L ({ frames := 0, cells := 0, slots := 0, locals := 0 } : Room).cells ({ frames := 0, cells := 0, slots := 0, locals := 0 } : Room).slots) := by
  refine MetFree.of_bodySF (plainFor_of_name pn_val1) hisR ?_
  intro p e s m args below meth c s₁ Bd hml0 hP hK
  obtain ⟨rfl, hZ, hh⟩ := hP
  have hx := Bd.exec
  have hby := Bd.bytes
  have hml : c.maxLocals = 1 := hml0
  have hown : s.vm.findClass "com/example/foretell/foretell/core/BooleanValue" = some m.cls := findClass_of_methodNamed Bd.named
  have hnm := (name_of_methodNamed Bd.named Bd.method).1
  have X0 : Stand p l e ({ frames := 0, cells := 0, slots := 0, locals := 0 } : Room) s m #[(.ref a1)] below meth c s₁ [] 0 0 := Stand.of_body Bd
  have e0 : s₁.heap = h0 := by rw [← hh, Bd.state]; rfl
  have N0 := Fr.nil n0
  have pre0 : ∀ t, Steps p.tables e below (s₁.setTop (mkF m 0 #[.val (.ref a1)] [])) t → Steps p.tables e below (s₁.setTop (entryFrame m #[(.ref a1)] 1)) t := fun t k => castTop (ef_val1 m a1) k
  have pre_1 : ∀ t, Steps p.tables e below (s₁.setTop (mkF m 1 #[.val (.ref a1)] [(.ref a1)])) t → Steps p.tables e below (s₁.setTop (entryFrame m #[(.ref a1)] 1)) t := by
    intro t k
    refine pre0 t ?_
    show Steps p.tables e below (s₁.setTop (mkF m 0 #[.val (.ref a1)] [])) _
    refine XS.aloadN X0.here hx rfl (hb hby d_val1_0) rfl rfl ?_
    show Steps p.tables e below (s₁.setTop (mkF m 1 #[.val (.ref a1)] [(.ref a1)])) _
    exact k
  obtain ⟨T2, X2, e2, st2⟩ := getF X0 hx hZ hown (host := "") (Or.inl (hw _ (List.mem_of_getElem? (i := 13) rfl))) Via.refl e0 F1 (g := (mkF m 1 #[.val (.ref a1)] [(.ref a1)])) rfl rfl (hb hby d_val1_1)
  have pre_3 : ∀ t, Steps p.tables e below (T2.setTop (mkF m 4 #[.val (.ref a1)] [(.int (1 : Int32))])) t → Steps p.tables e below (s₁.setTop (entryFrame m #[(.ref a1)] 1)) t := fun t k => pre_1 t (st2 t k)
  obtain ⟨fs, hr, hrun, hended, hW, hsame⟩ := X2.leave (v := some (.int (1 : Int32))) (fun h => by rw [Bd.returns] at h; cases h)
  refine ⟨_, _, pre_3 _ ?_, hrun, hended, _, _, rfl, ?_, ⟨_, rfl⟩, hW, hsame.mono (by decide) (by decide)⟩
  · show Steps p.tables e below (T2.setTop (mkF m 4 #[.val (.ref a1)] [(.int (1 : Int32))])) _
    exact retN X2 hx (t := .boolean) Bd.returns (by simp) (hb hby d_val1_4) hr
  · show Q_val1 Z a1  h0 n0 _ T2.heap _
    rw [e2]
    exact ⟨rfl, N0, rfl⟩
theorem d_eq_0 : decode prog_17_method_6_code 0 = .ok (.aload_n 0, 1) := by decide +kernel
theorem d_eq_1 : decode prog_17_method_6_code 1 = .ok (.aload_n 1, 1) := by decide +kernel
theorem d_eq_2 : decode prog_17_method_6_code 2 = .ok (.if_acmp .ne 7, 3) := by decide +kernel
theorem d_eq_5 : decode prog_17_method_6_code 5 = .ok (.iconst 1, 1) := by decide +kernel
theorem d_eq_6 : decode prog_17_method_6_code 6 = .ok (.goto 4, 3) := by decide +kernel
theorem d_eq_9 : decode prog_17_method_6_code 9 = .ok (.iconst 0, 1) := by decide +kernel
theorem d_eq_10 : decode prog_17_method_6_code 10 = .ok (.ireturn, 1) := by decide +kernel
theorem pn_eq : plainName "com/example/foretell/foretell/core/BooleanValue" = true := by first | (simp [plainName, overriddenIn]; done) | decide +kernel
theorem ef_eq (m : MethodId) (a1 : Addr) (a2 : Addr) : entryFrame m #[(.ref a1), (.ref a2)] 2 = (mkF m 0 #[.val (.ref a1), .val (.ref a2)] []) := by first | (simp [entryFrame, mkF, argsToLocals, Value.category]; done) | rfl
def Q_eq (Z : State) (a1 : Addr) (a2 : Addr)  (h0 : Heap) (n0 : Nat) (v : Option Value) (h : Heap) (L : List Loc) : Prop := v = some (.int (if a1 = a2 then (1 : Int32) else (0 : Int32))) ∧ Fr n0 L ∧ h = h0
set_option maxRecDepth 65536 in
set_option maxHeartbeats 40000000 in
theorem rm_eq (l : Launch) (Z : State) (a0 : Array Value) (hw : ∀ d ∈ tables_1, d.before a0 Z = true) (ws : List Jvm.Cond) (a1 : Addr) (a2 : Addr)  (h0 : Heap) (n0 : Nat) (O0 : Old Z n0 h0)  :
    MetFree l (⟨"com/example/foretell/foretell/core/BooleanValue", "equals", "(Ljava/lang/Object;)Z"⟩ : MethodName) (head1 (Jvm.Cond.code (⟨"com/example/foretell/foretell/core/BooleanValue", "equals", "(Ljava/lang/Object;)Z"⟩ : MethodName) prog_17_method_6_code 2 (some .boolean) :: ws) ({ frames := 0, cells := 0, slots := 0, locals := 0 } : Room)) (fun a U => a = #[(.ref a1), (.ref a2)] ∧ Z.Warmed39 U.vm ∧ U.heap = h0) (fun _ _ _ _ _ => True) (fun _ U o U' => ∃ v L, o = .returned v ∧ Q_eq Z a1 a2  h0 n0 v U'.heap L ∧ FrameEnd U o U' L ({ frames := 0, cells := 0, slots := 0, locals := 0 } : Room).cells ({ frames := 0, cells := 0, slots := 0, locals := 0 } : Room).slots) := by
  refine MetFree.of_bodySF (plainFor_of_name pn_eq) hisR ?_
  intro p e s m args below meth c s₁ Bd hml0 hP hK
  obtain ⟨rfl, hZ, hh⟩ := hP
  have hx := Bd.exec
  have hby := Bd.bytes
  have hml : c.maxLocals = 2 := hml0
  have hown : s.vm.findClass "com/example/foretell/foretell/core/BooleanValue" = some m.cls := findClass_of_methodNamed Bd.named
  have hnm := (name_of_methodNamed Bd.named Bd.method).1
  have X0 : Stand p l e ({ frames := 0, cells := 0, slots := 0, locals := 0 } : Room) s m #[(.ref a1), (.ref a2)] below meth c s₁ [] 0 0 := Stand.of_body Bd
  have e0 : s₁.heap = h0 := by rw [← hh, Bd.state]; rfl
  have N0 := Fr.nil n0
  have pre0 : ∀ t, Steps p.tables e below (s₁.setTop (mkF m 0 #[.val (.ref a1), .val (.ref a2)] [])) t → Steps p.tables e below (s₁.setTop (entryFrame m #[(.ref a1), (.ref a2)] 2)) t := fun t k => castTop (ef_eq m a1 a2) k
  have pre_1 : ∀ t, Steps p.tables e below (s₁.setTop (mkF m 2 #[.val (.ref a1), .val (.ref a2)] [(.ref a2), (.ref a1)])) t → Steps p.tables e below (s₁.setTop (entryFrame m #[(.ref a1), (.ref a2)] 2)) t := by
    intro t k
    refine pre0 t ?_
    show Steps p.tables e below (s₁.setTop (mkF m 0 #[.val (.ref a1), .val (.ref a2)] [])) _
    refine XS.aloadN X0.here hx rfl (hb hby d_eq_0) rfl rfl ?_
    show Steps p.tables e below (s₁.setTop (mkF m 1 #[.val (.ref a1), .val (.ref a2)] [(.ref a1)])) _
    refine XS.aloadN X0.here hx rfl (hb hby d_eq_1) rfl rfl ?_
    show Steps p.tables e below (s₁.setTop (mkF m 2 #[.val (.ref a1), .val (.ref a2)] [(.ref a2), (.ref a1)])) _
    exact k
  by_cases hc2 : a1 = a2
  · skip
    have pre_3 : ∀ t, Steps p.tables e below (s₁.setTop (mkF m 10 #[.val (.ref a1), .val (.ref a2)] [(.int (1 : Int32))])) t → Steps p.tables e below (s₁.setTop (entryFrame m #[(.ref a1), (.ref a2)] 2)) t := by
      intro t k
      refine pre_1 t ?_
      show Steps p.tables e below (s₁.setTop (mkF m 2 #[.val (.ref a1), .val (.ref a2)] [(.ref a2), (.ref a1)])) _
      refine XT.acmpNo X0.here hx rfl (hb hby d_eq_2) rfl rfl rfl (XT.aa_ne_f (congrArg Value.ref hc2)) ?_
      show Steps p.tables e below (s₁.setTop (mkF m 5 #[.val (.ref a1), .val (.ref a2)] [])) _
      refine XS.iconst X0.here hx rfl (hb hby d_eq_5) ?_
      show Steps p.tables e below (s₁.setTop (mkF m 6 #[.val (.ref a1), .val (.ref a2)] [(.int (1 : Int32))])) _
      refine XS.goto X0.here hx rfl (pc0 := 6) (pc' := 10) rfl (hb hby d_eq_6) (by decide) (by decide) ?_
      show Steps p.tables e below (s₁.setTop (mkF m 10 #[.val (.ref a1), .val (.ref a2)] [(.int (1 : Int32))])) _
      exact k
    obtain ⟨fs, hr, hrun, hended, hW, hsame⟩ := X0.leave (v := some (.int (1 : Int32))) (fun h => by rw [Bd.returns] at h; cases h)
    refine ⟨_, _, pre_3 _ ?_, hrun, hended, _, _, rfl, ?_, ⟨_, rfl⟩, hW, hsame.mono (by decide) (by decide)⟩
    · show Steps p.tables e below (s₁.setTop (mkF m 10 #[.val (.ref a1), .val (.ref a2)] [(.int (1 : Int32))])) _
      exact retN X0 hx (t := .boolean) Bd.returns (by simp) (hb hby d_eq_10) hr
    · show Q_eq Z a1 a2  h0 n0 _ s₁.heap _
      rw [e0]
      exact ⟨by simp [hc2], N0, rfl⟩
  · skip
    have pre_4 : ∀ t, Steps p.tables e below (s₁.setTop (mkF m 10 #[.val (.ref a1), .val (.ref a2)] [(.int (0 : Int32))])) t → Steps p.tables e below (s₁.setTop (entryFrame m #[(.ref a1), (.ref a2)] 2)) t := by
      intro t k
      refine pre_1 t ?_
      show Steps p.tables e below (s₁.setTop (mkF m 2 #[.val (.ref a1), .val (.ref a2)] [(.ref a2), (.ref a1)])) _
      refine XT.acmpYes X0.here hx rfl (pc0 := 2) (pc' := 9) rfl (hb hby d_eq_2) rfl rfl rfl (XT.aa_ne_t (fun q => hc2 (Value.ref.inj q))) (by decide) (by decide) ?_
      show Steps p.tables e below (s₁.setTop (mkF m 9 #[.val (.ref a1), .val (.ref a2)] [])) _
      refine XS.iconst X0.here hx rfl (hb hby d_eq_9) ?_
      show Steps p.tables e below (s₁.setTop (mkF m 10 #[.val (.ref a1), .val (.ref a2)] [(.int (0 : Int32))])) _
      exact k
    obtain ⟨fs, hr, hrun, hended, hW, hsame⟩ := X0.leave (v := some (.int (0 : Int32))) (fun h => by rw [Bd.returns] at h; cases h)
    refine ⟨_, _, pre_4 _ ?_, hrun, hended, _, _, rfl, ?_, ⟨_, rfl⟩, hW, hsame.mono (by decide) (by decide)⟩
    · show Steps p.tables e below (s₁.setTop (mkF m 10 #[.val (.ref a1), .val (.ref a2)] [(.int (0 : Int32))])) _
      exact retN X0 hx (t := .boolean) Bd.returns (by simp) (hb hby d_eq_10) hr
    · show Q_eq Z a1 a2  h0 n0 _ s₁.heap _
      rw [e0]
      exact ⟨by simp [hc2], N0, rfl⟩
theorem pn_law : plainName "com/example/foretell/foretell/core/BooleanValueOfPinLaw" = true := by first | (simp [plainName, overriddenIn]; done) | decide +kernel
theorem pd_law_0 : parseMethodDescriptor "(Z)Lcom/example/foretell/foretell/core/BooleanValue;" = some ⟨[.boolean], some (.object "com/example/foretell/foretell/core/BooleanValue")⟩ := by decide +kernel
theorem pd_law_1 : parseMethodDescriptor "()Z" = some ⟨[], some .boolean⟩ := by decide +kernel
theorem pd_law_2 : parseMethodDescriptor "(Ljava/lang/Object;)Z" = some ⟨[(.object "java/lang/Object")], some .boolean⟩ := by decide +kernel
theorem ef_law (m : MethodId) (p1 : Int32) (p2 : Int32) : entryFrame m #[(.int p1), (.int p2)] maxLocals = (mkF m 0 #[.val (.int p1), .val (.int p2), .unset, .unset, .unset, .unset, .unset, .unset, .unset] []) := by first | (simp [entryFrame, mkF, argsToLocals, Value.category, maxLocals]; done) | rfl
def Q_law (Z : State) (p1 : Int32) (p2 : Int32) (aFALSE : Addr) (aTRUE : Addr) (h0 : Heap) (n0 : Nat) (v : Option Value) (h : Heap) (L : List Loc) : Prop := v = some (.int 1) ∧ Fr n0 L
set_option maxRecDepth 65536 in
set_option maxHeartbeats 40000000 in
theorem rm_law (l : Launch) (Z : State) (a0 : Array Value) (hw : ∀ d ∈ tables_1, d.before a0 Z = true) (ws : List Jvm.Cond) (p1 : Int32) (p2 : Int32) (aFALSE : Addr) (aTRUE : Addr) (h0 : Heap) (n0 : Nat) (O0 : Old Z n0 h0) (S_aFALSE : Sta Z Z.heap "com/example/foretell/foretell/core/BooleanValue" "FALSE" "Lcom/example/foretell/foretell/core/BooleanValue;" (.ref aFALSE)) (E_aFALSE : Exa Z Z.heap aFALSE "com/example/foretell/foretell/core/BooleanValue") (S_aTRUE : Sta Z Z.heap "com/example/foretell/foretell/core/BooleanValue" "TRUE" "Lcom/example/foretell/foretell/core/BooleanValue;" (.ref aTRUE)) (E_aTRUE : Exa Z Z.heap aTRUE "com/example/foretell/foretell/core/BooleanValue") (F_aFALSE_value : Fld Z Z.heap aFALSE "com/example/foretell/foretell/core/BooleanValue" "value" "Z" (.int (0 : Int32))) (F_aTRUE_value : Fld Z Z.heap aTRUE "com/example/foretell/foretell/core/BooleanValue" "value" "Z" (.int (1 : Int32))) (neFT : ¬ aFALSE = aTRUE) :
    MetFree l x (head1 (Jvm.Cond.code x code maxLocals ret :: ws) room_1) (fun a U => a = #[(.int p1), (.int p2)] ∧ Z.Warmed39 U.vm ∧ U.heap = h0) (fun _ _ _ _ _ => True) (fun _ U o U' => ∃ v L, o = .returned v ∧ Q_law Z p1 p2 aFALSE aTRUE h0 n0 v U'.heap L ∧ FrameEnd U o U' L room_1.cells room_1.slots) := by
  refine MetFree.of_bodySF (plainFor_of_name pn_law) hisR ?_
  intro p e s m args below meth c s₁ Bd hml0 hP hK
  obtain ⟨rfl, hZ, hh⟩ := hP
  have hx := Bd.exec
  have hby := Bd.bytes
  have hml : c.maxLocals = 9 := hml0
  have hown : s.vm.findClass "com/example/foretell/foretell/core/BooleanValueOfPinLaw" = some m.cls := findClass_of_methodNamed Bd.named
  have hnm := (name_of_methodNamed Bd.named Bd.method).1
  have X0 : Stand p l e room_1 s m #[(.int p1), (.int p2)] below meth c s₁ [] 0 0 := Stand.of_body Bd
  have e0 : s₁.heap = h0 := by rw [← hh, Bd.state]; rfl
  have N0 := Fr.nil n0
  have pre0 : ∀ t, Steps p.tables e below (s₁.setTop (mkF m 0 #[.val (.int p1), .val (.int p2), .unset, .unset, .unset, .unset, .unset, .unset, .unset] [])) t → Steps p.tables e below (s₁.setTop (entryFrame m #[(.int p1), (.int p2)] maxLocals)) t := fun t k => castTop (ef_law m p1 p2) k
  have pre_1 : ∀ t, Steps p.tables e below (s₁.setTop (mkF m 3 #[.val (.int p1), .val (.int p2), .unset, .unset, .unset, .unset, .unset, .unset, .unset] [(.int (p1 &&& (1 : Int32)))])) t → Steps p.tables e below (s₁.setTop (entryFrame m #[(.int p1), (.int p2)] maxLocals)) t := by
    intro t k
    refine pre0 t ?_
    show Steps p.tables e below (s₁.setTop (mkF m 0 #[.val (.int p1), .val (.int p2), .unset, .unset, .unset, .unset, .unset, .unset, .unset] [])) _
    refine XS.iloadN X0.here hx rfl (hb hby at_0) rfl ?_
    show Steps p.tables e below (s₁.setTop (mkF m 1 #[.val (.int p1), .val (.int p2), .unset, .unset, .unset, .unset, .unset, .unset, .unset] [(.int p1)])) _
    refine XS.iconst X0.here hx rfl (hb hby at_1) ?_
    show Steps p.tables e below (s₁.setTop (mkF m 2 #[.val (.int p1), .val (.int p2), .unset, .unset, .unset, .unset, .unset, .unset, .unset] [(.int (1 : Int32)), (.int p1)])) _
    refine XS.iand X0.here hx rfl (hb hby at_2) rfl ?_
    show Steps p.tables e below (s₁.setTop (mkF m 3 #[.val (.int p1), .val (.int p2), .unset, .unset, .unset, .unset, .unset, .unset, .unset] [(.int (p1 &&& (1 : Int32)))])) _
    exact k
  by_cases hc2 : (p1 &&& (1 : Int32)) = (0 : Int32)
  · skip
    have pre_3 : ∀ t, Steps p.tables e below (s₁.setTop (mkF m 15 #[.val (.int p1), .val (.int p2), .val (.int (0 : Int32)), .unset, .unset, .unset, .unset, .unset, .unset] [(.int (p2 &&& (1 : Int32)))])) t → Steps p.tables e below (s₁.setTop (entryFrame m #[(.int p1), (.int p2)] maxLocals)) t := by
      intro t k
      refine pre_1 t ?_
      show Steps p.tables e below (s₁.setTop (mkF m 3 #[.val (.int p1), .val (.int p2), .unset, .unset, .unset, .unset, .unset, .unset, .unset] [(.int (p1 &&& (1 : Int32)))])) _
      refine XS.ifYes X0.here hx rfl (pc0 := 3) (pc' := 10) rfl (hb hby at_3) rfl (XT.i0_eq_t hc2) (by decide) (by decide) ?_
      show Steps p.tables e below (s₁.setTop (mkF m 10 #[.val (.int p1), .val (.int p2), .unset, .unset, .unset, .unset, .unset, .unset, .unset] [])) _
      refine XS.iconst X0.here hx rfl (hb hby at_10) ?_
      show Steps p.tables e below (s₁.setTop (mkF m 11 #[.val (.int p1), .val (.int p2), .unset, .unset, .unset, .unset, .unset, .unset, .unset] [(.int (0 : Int32))])) _
      refine XS.istoreN X0.here hx rfl (hb hby at_11) rfl (l' := #[.val (.int p1), .val (.int p2), .val (.int (0 : Int32)), .unset, .unset, .unset, .unset, .unset, .unset]) rfl ?_
      show Steps p.tables e below (s₁.setTop (mkF m 12 #[.val (.int p1), .val (.int p2), .val (.int (0 : Int32)), .unset, .unset, .unset, .unset, .unset, .unset] [])) _
      refine XS.iloadN X0.here hx rfl (hb hby at_12) rfl ?_
      show Steps p.tables e below (s₁.setTop (mkF m 13 #[.val (.int p1), .val (.int p2), .val (.int (0 : Int32)), .unset, .unset, .unset, .unset, .unset, .unset] [(.int p2)])) _
      refine XS.iconst X0.here hx rfl (hb hby at_13) ?_
      show Steps p.tables e below (s₁.setTop (mkF m 14 #[.val (.int p1), .val (.int p2), .val (.int (0 : Int32)), .unset, .unset, .unset, .unset, .unset, .unset] [(.int (1 : Int32)), (.int p2)])) _
      refine XS.iand X0.here hx rfl (hb hby at_14) rfl ?_
      show Steps p.tables e below (s₁.setTop (mkF m 15 #[.val (.int p1), .val (.int p2), .val (.int (0 : Int32)), .unset, .unset, .unset, .unset, .unset, .unset] [(.int (p2 &&& (1 : Int32)))])) _
      exact k
    by_cases hc4 : (p2 &&& (1 : Int32)) = (0 : Int32)
    · skip
      have pre_5 : ∀ t, Steps p.tables e below (s₁.setTop (mkF m 25 #[.val (.int p1), .val (.int p2), .val (.int (0 : Int32)), .val (.int (0 : Int32)), .unset, .unset, .unset, .unset, .unset] [(.int (0 : Int32))])) t → Steps p.tables e below (s₁.setTop (entryFrame m #[(.int p1), (.int p2)] maxLocals)) t := by
        intro t k
        refine pre_3 t ?_
        show Steps p.tables e below (s₁.setTop (mkF m 15 #[.val (.int p1), .val (.int p2), .val (.int (0 : Int32)), .unset, .unset, .unset, .unset, .unset, .unset] [(.int (p2 &&& (1 : Int32)))])) _
        refine XS.ifYes X0.here hx rfl (pc0 := 15) (pc' := 22) rfl (hb hby at_15) rfl (XT.i0_eq_t hc4) (by decide) (by decide) ?_
        show Steps p.tables e below (s₁.setTop (mkF m 22 #[.val (.int p1), .val (.int p2), .val (.int (0 : Int32)), .unset, .unset, .unset, .unset, .unset, .unset] [])) _
        refine XS.iconst X0.here hx rfl (hb hby at_22) ?_
        show Steps p.tables e below (s₁.setTop (mkF m 23 #[.val (.int p1), .val (.int p2), .val (.int (0 : Int32)), .unset, .unset, .unset, .unset, .unset, .unset] [(.int (0 : Int32))])) _
        refine XS.istoreN X0.here hx rfl (hb hby at_23) rfl (l' := #[.val (.int p1), .val (.int p2), .val (.int (0 : Int32)), .val (.int (0 : Int32)), .unset, .unset, .unset, .unset, .unset]) rfl ?_
        show Steps p.tables e below (s₁.setTop (mkF m 24 #[.val (.int p1), .val (.int p2), .val (.int (0 : Int32)), .val (.int (0 : Int32)), .unset, .unset, .unset, .unset, .unset] [])) _
        refine XS.iloadN X0.here hx rfl (hb hby at_24) rfl ?_
        show Steps p.tables e below (s₁.setTop (mkF m 25 #[.val (.int p1), .val (.int p2), .val (.int (0 : Int32)), .val (.int (0 : Int32)), .unset, .unset, .unset, .unset, .unset] [(.int (0 : Int32))])) _
        exact k
      obtain ⟨_, _, ⟨T6, L6, k6, n6⟩, -, X6, ⟨Lc6, hQ6, l6, y6, z6⟩, st6⟩ := Jvm.LawKit.callS X0 hx (y := (⟨"com/example/foretell/foretell/core/BooleanValue", "of", "(Z)Lcom/example/foretell/foretell/core/BooleanValue;"⟩ : MethodName)) hown (mvT hZ (hw _ (List.mem_of_getElem? (i := 0) rfl))) (mvT hZ (hw _ (List.mem_of_getElem? (i := 1) rfl))) (mvT hZ (hw _ (List.mem_of_getElem? (i := 2) rfl))) (mvT hZ (hw _ (List.mem_of_getElem? (i := 3) rfl))) (by decide) (backOf (W := 0) (rm_of0 l Z a0 hw [] aFALSE h0 n0 O0 S_aFALSE) hZ (hw _ (List.mem_of_getElem? (i := 3) rfl)) (hw _ (List.mem_of_getElem? (i := 2) rfl)) (by decide) (by decide)) (g := (mkF m 25 #[.val (.int p1), .val (.int p2), .val (.int (0 : Int32)), .val (.int (0 : Int32)), .unset, .unset, .unset, .unset, .unset] [(.int (0 : Int32))])) rfl (by rw [hml]; rfl) (argsL := [(.int (0 : Int32))]) (rest := []) (lenOf pd_law_0 rfl) rfl (by show 2 * 0 + _ ≤ _; exact Nat.le_of_eq rfl) (hb hby at_25) (fun _ _ => ⟨rfl, e0, (by decide : 0 + 0 ≤ _), (by decide : 0 + 0 ≤ _)⟩)
      dsimp only [Pt.U, Pt.locs, Pt.cells, Pt.slots] at X6 l6 y6 z6 st6 hQ6
      subst l6 y6 z6
      obtain ⟨rfl, N6q, e6⟩ := hQ6
      have N6 := Fr.app N0 N6q
      have pre_7 : ∀ t, Steps p.tables e below (T6.setTop (mkF m 28 #[.val (.int p1), .val (.int p2), .val (.int (0 : Int32)), .val (.int (0 : Int32)), .unset, .unset, .unset, .unset, .unset] [(.ref aFALSE)])) t → Steps p.tables e below (s₁.setTop (entryFrame m #[(.int p1), (.int p2)] maxLocals)) t := fun t k => pre_5 t (st6 t k)
      have pre_8 : ∀ t, Steps p.tables e below (T6.setTop (mkF m 31 #[.val (.int p1), .val (.int p2), .val (.int (0 : Int32)), .val (.int (0 : Int32)), .val (.ref aFALSE), .unset, .unset, .unset, .unset] [(.int (0 : Int32))])) t → Steps p.tables e below (s₁.setTop (entryFrame m #[(.int p1), (.int p2)] maxLocals)) t := by
        intro t k
        refine pre_7 t ?_
        show Steps p.tables e below (T6.setTop (mkF m 28 #[.val (.int p1), .val (.int p2), .val (.int (0 : Int32)), .val (.int (0 : Int32)), .unset, .unset, .unset, .unset, .unset] [(.ref aFALSE)])) _
        refine XS.astore X6.here hx rfl (hb hby at_28) rfl rfl (l' := #[.val (.int p1), .val (.int p2), .val (.int (0 : Int32)), .val (.int (0 : Int32)), .val (.ref aFALSE), .unset, .unset, .unset, .unset]) rfl ?_
        show Steps p.tables e below (T6.setTop (mkF m 30 #[.val (.int p1), .val (.int p2), .val (.int (0 : Int32)), .val (.int (0 : Int32)), .val (.ref aFALSE), .unset, .unset, .unset, .unset] [])) _
        refine XS.iloadN X6.here hx rfl (hb hby at_30) rfl ?_
        show Steps p.tables e below (T6.setTop (mkF m 31 #[.val (.int p1), .val (.int p2), .val (.int (0 : Int32)), .val (.int (0 : Int32)), .val (.ref aFALSE), .unset, .unset, .unset, .unset] [(.int (0 : Int32))])) _
        exact k
      obtain ⟨_, _, ⟨T9, L9, k9, n9⟩, -, X9, ⟨Lc9, hQ9, l9, y9, z9⟩, st9⟩ := Jvm.LawKit.callS X6 hx (y := (⟨"com/example/foretell/foretell/core/BooleanValue", "of", "(Z)Lcom/example/foretell/foretell/core/BooleanValue;"⟩ : MethodName)) hown (mvT hZ (hw _ (List.mem_of_getElem? (i := 0) rfl))) (mvT hZ (hw _ (List.mem_of_getElem? (i := 1) rfl))) (mvT hZ (hw _ (List.mem_of_getElem? (i := 2) rfl))) (mvT hZ (hw _ (List.mem_of_getElem? (i := 3) rfl))) (by decide) (backOf (W := 0) (rm_of0 l Z a0 hw [] aFALSE h0 n0 O0 S_aFALSE) hZ (hw _ (List.mem_of_getElem? (i := 3) rfl)) (hw _ (List.mem_of_getElem? (i := 2) rfl)) (by decide) (by decide)) (g := (mkF m 31 #[.val (.int p1), .val (.int p2), .val (.int (0 : Int32)), .val (.int (0 : Int32)), .val (.ref aFALSE), .unset, .unset, .unset, .unset] [(.int (0 : Int32))])) rfl (by rw [hml]; rfl) (argsL := [(.int (0 : Int32))]) (rest := []) (lenOf pd_law_0 rfl) rfl (by show 2 * 0 + _ ≤ _; exact Nat.le_of_eq rfl) (hb hby at_31) (fun _ _ => ⟨rfl, e6, (by decide : 0 + 0 ≤ _), (by decide : 0 + 0 ≤ _)⟩)
      dsimp only [Pt.U, Pt.locs, Pt.cells, Pt.slots] at X9 l9 y9 z9 st9 hQ9
      subst l9 y9 z9
      obtain ⟨rfl, N9q, e9⟩ := hQ9
      have N9 := Fr.app N6 N9q
      have pre_10 : ∀ t, Steps p.tables e below (T9.setTop (mkF m 34 #[.val (.int p1), .val (.int p2), .val (.int (0 : Int32)), .val (.int (0 : Int32)), .val (.ref aFALSE), .unset, .unset, .unset, .unset] [(.ref aFALSE)])) t → Steps p.tables e below (s₁.setTop (entryFrame m #[(.int p1), (.int p2)] maxLocals)) t := fun t k => pre_8 t (st9 t k)
      have pre_11 : ∀ t, Steps p.tables e below (T9.setTop (mkF m 50 #[.val (.int p1), .val (.int p2), .val (.int (0 : Int32)), .val (.int (0 : Int32)), .val (.ref aFALSE), .val (.ref aFALSE), .unset, .unset, .unset] [(.ref aFALSE)])) t → Steps p.tables e below (s₁.setTop (entryFrame m #[(.int p1), (.int p2)] maxLocals)) t := by
        intro t k
        refine pre_10 t ?_
        show Steps p.tables e below (T9.setTop (mkF m 34 #[.val (.int p1), .val (.int p2), .val (.int (0 : Int32)), .val (.int (0 : Int32)), .val (.ref aFALSE), .unset, .unset, .unset, .unset] [(.ref aFALSE)])) _
        refine XS.astore X9.here hx rfl (hb hby at_34) rfl rfl (l' := #[.val (.int p1), .val (.int p2), .val (.int (0 : Int32)), .val (.int (0 : Int32)), .val (.ref aFALSE), .val (.ref aFALSE), .unset, .unset, .unset]) rfl ?_
        show Steps p.tables e below (T9.setTop (mkF m 36 #[.val (.int p1), .val (.int p2), .val (.int (0 : Int32)), .val (.int (0 : Int32)), .val (.ref aFALSE), .val (.ref aFALSE), .unset, .unset, .unset] [])) _
        refine XS.aload X9.here hx rfl (hb hby at_36) rfl rfl ?_
        show Steps p.tables e below (T9.setTop (mkF m 38 #[.val (.int p1), .val (.int p2), .val (.int (0 : Int32)), .val (.int (0 : Int32)), .val (.ref aFALSE), .val (.ref aFALSE), .unset, .unset, .unset] [(.ref aFALSE)])) _
        refine XS.ifnullNo X9.here hx rfl (hb hby at_38) rfl ?_
        show Steps p.tables e below (T9.setTop (mkF m 41 #[.val (.int p1), .val (.int p2), .val (.int (0 : Int32)), .val (.int (0 : Int32)), .val (.ref aFALSE), .val (.ref aFALSE), .unset, .unset, .unset] [])) _
        refine XS.aload X9.here hx rfl (hb hby at_41) rfl rfl ?_
        show Steps p.tables e below (T9.setTop (mkF m 43 #[.val (.int p1), .val (.int p2), .val (.int (0 : Int32)), .val (.int (0 : Int32)), .val (.ref aFALSE), .val (.ref aFALSE), .unset, .unset, .unset] [(.ref aFALSE)])) _
        refine XT.ifnonnullYes X9.here hx rfl (pc0 := 43) (pc' := 48) rfl (hb hby at_43) rfl (by decide) (by decide) ?_
        show Steps p.tables e below (T9.setTop (mkF m 48 #[.val (.int p1), .val (.int p2), .val (.int (0 : Int32)), .val (.int (0 : Int32)), .val (.ref aFALSE), .val (.ref aFALSE), .unset, .unset, .unset] [])) _
        refine XS.aload X9.here hx rfl (hb hby at_48) rfl rfl ?_
        show Steps p.tables e below (T9.setTop (mkF m 50 #[.val (.int p1), .val (.int p2), .val (.int (0 : Int32)), .val (.int (0 : Int32)), .val (.ref aFALSE), .val (.ref aFALSE), .unset, .unset, .unset] [(.ref aFALSE)])) _
        exact k
      obtain ⟨cq12, kq12, qa12, qb12, qc12⟩ := isOf hZ e9 (E_aFALSE.ext O0.2)
      obtain ⟨_, _, ⟨T12, L12, k12, n12⟩, -, X12, ⟨Lc12, hQ12, l12, y12, z12⟩, st12⟩ := X9.virtualBack hx (y := (⟨"com/example/foretell/foretell/core/BooleanValue", "value", "()Z"⟩ : MethodName)) (z := (⟨"com/example/foretell/foretell/core/BooleanValue", "value", "()Z"⟩ : MethodName)) hown (mvT hZ (hw _ (List.mem_of_getElem? (i := 8) rfl))) (mvT hZ (hw _ (List.mem_of_getElem? (i := 9) rfl))) (notFace_of_selects (args := #[]) (mvT hZ (hw _ (List.mem_of_getElem? (i := 11) rfl)))) (mvT hZ (hw _ (List.mem_of_getElem? (i := 11) rfl))) (mvT hZ (hw _ (List.mem_of_getElem? (i := 10) rfl))) (by decide) (backOf (W := 0) (rm_val0 l Z a0 hw [] aFALSE h0 n0 O0 (F_aFALSE_value.ext O0.2)) hZ (hw _ (List.mem_of_getElem? (i := 12) rfl)) (hw _ (List.mem_of_getElem? (i := 2) rfl)) (by decide) (by decide)) qa12 qc12 (g := (mkF m 50 #[.val (.int p1), .val (.int p2), .val (.int (0 : Int32)), .val (.int (0 : Int32)), .val (.ref aFALSE), .val (.ref aFALSE), .unset, .unset, .unset] [(.ref aFALSE)])) rfl (by rw [hml]; rfl) (Steps.refl _) (argsL := []) (rest := []) (lenOf pd_law_1 rfl) rfl (by show 2 * 0 + _ ≤ _; exact Nat.le_of_eq rfl) (hb hby at_50) (fun _ _ => ⟨rfl, e9, (by decide : 0 + 0 ≤ _), (by decide : 0 + 0 ≤ _)⟩)
      dsimp only [Pt.U, Pt.locs, Pt.cells, Pt.slots] at X12 l12 y12 z12 st12 hQ12
      subst l12 y12 z12
      obtain ⟨rfl, N12q, e12⟩ := hQ12
      have N12 := Fr.app N9 N12q
      have pre_13 : ∀ t, Steps p.tables e below (T12.setTop (mkF m 53 #[.val (.int p1), .val (.int p2), .val (.int (0 : Int32)), .val (.int (0 : Int32)), .val (.ref aFALSE), .val (.ref aFALSE), .unset, .unset, .unset] [(.int (0 : Int32))])) t → Steps p.tables e below (s₁.setTop (entryFrame m #[(.int p1), (.int p2)] maxLocals)) t := fun t k => pre_11 t (st12.trans k)
      have pre_14 : ∀ t, Steps p.tables e below (T12.setTop (mkF m 59 #[.val (.int p1), .val (.int p2), .val (.int (0 : Int32)), .val (.int (0 : Int32)), .val (.ref aFALSE), .val (.ref aFALSE), .unset, .unset, .unset] [(.ref aFALSE)])) t → Steps p.tables e below (s₁.setTop (entryFrame m #[(.int p1), (.int p2)] maxLocals)) t := by
        intro t k
        refine pre_13 t ?_
        show Steps p.tables e below (T12.setTop (mkF m 53 #[.val (.int p1), .val (.int p2), .val (.int (0 : Int32)), .val (.int (0 : Int32)), .val (.ref aFALSE), .val (.ref aFALSE), .unset, .unset, .unset] [(.int (0 : Int32))])) _
        refine XS.iloadN X12.here hx rfl (hb hby at_53) rfl ?_
        show Steps p.tables e below (T12.setTop (mkF m 54 #[.val (.int p1), .val (.int p2), .val (.int (0 : Int32)), .val (.int (0 : Int32)), .val (.ref aFALSE), .val (.ref aFALSE), .unset, .unset, .unset] [(.int (0 : Int32)), (.int (0 : Int32))])) _
        refine XS.icmpNo X12.here hx rfl (hb hby at_54) rfl (XT.ii_ne_f (by decide)) ?_
        show Steps p.tables e below (T12.setTop (mkF m 57 #[.val (.int p1), .val (.int p2), .val (.int (0 : Int32)), .val (.int (0 : Int32)), .val (.ref aFALSE), .val (.ref aFALSE), .unset, .unset, .unset] [])) _
        refine XS.aload X12.here hx rfl (hb hby at_57) rfl rfl ?_
        show Steps p.tables e below (T12.setTop (mkF m 59 #[.val (.int p1), .val (.int p2), .val (.int (0 : Int32)), .val (.int (0 : Int32)), .val (.ref aFALSE), .val (.ref aFALSE), .unset, .unset, .unset] [(.ref aFALSE)])) _
        exact k
      obtain ⟨cq15, kq15, qa15, qb15, qc15⟩ := isOf hZ e12 (E_aFALSE.ext O0.2)
      obtain ⟨_, _, ⟨T15, L15, k15, n15⟩, -, X15, ⟨Lc15, hQ15, l15, y15, z15⟩, st15⟩ := X12.virtualBack hx (y := (⟨"com/example/foretell/foretell/core/BooleanValue", "value", "()Z"⟩ : MethodName)) (z := (⟨"com/example/foretell/foretell/core/BooleanValue", "value", "()Z"⟩ : MethodName)) hown (mvT hZ (hw _ (List.mem_of_getElem? (i := 8) rfl))) (mvT hZ (hw _ (List.mem_of_getElem? (i := 9) rfl))) (notFace_of_selects (args := #[]) (mvT hZ (hw _ (List.mem_of_getElem? (i := 11) rfl)))) (mvT hZ (hw _ (List.mem_of_getElem? (i := 11) rfl))) (mvT hZ (hw _ (List.mem_of_getElem? (i := 10) rfl))) (by decide) (backOf (W := 0) (rm_val0 l Z a0 hw [] aFALSE h0 n0 O0 (F_aFALSE_value.ext O0.2)) hZ (hw _ (List.mem_of_getElem? (i := 12) rfl)) (hw _ (List.mem_of_getElem? (i := 2) rfl)) (by decide) (by decide)) qa15 qc15 (g := (mkF m 59 #[.val (.int p1), .val (.int p2), .val (.int (0 : Int32)), .val (.int (0 : Int32)), .val (.ref aFALSE), .val (.ref aFALSE), .unset, .unset, .unset] [(.ref aFALSE)])) rfl (by rw [hml]; rfl) (Steps.refl _) (argsL := []) (rest := []) (lenOf pd_law_1 rfl) rfl (by show 2 * 0 + _ ≤ _; exact Nat.le_of_eq rfl) (hb hby at_59) (fun _ _ => ⟨rfl, e12, (by decide : 0 + 0 ≤ _), (by decide : 0 + 0 ≤ _)⟩)
      dsimp only [Pt.U, Pt.locs, Pt.cells, Pt.slots] at X15 l15 y15 z15 st15 hQ15
      subst l15 y15 z15
      obtain ⟨rfl, N15q, e15⟩ := hQ15
      have N15 := Fr.app N12 N15q
      have pre_16 : ∀ t, Steps p.tables e below (T15.setTop (mkF m 62 #[.val (.int p1), .val (.int p2), .val (.int (0 : Int32)), .val (.int (0 : Int32)), .val (.ref aFALSE), .val (.ref aFALSE), .unset, .unset, .unset] [(.int (0 : Int32))])) t → Steps p.tables e below (s₁.setTop (entryFrame m #[(.int p1), (.int p2)] maxLocals)) t := fun t k => pre_14 t (st15.trans k)
      have pre_17 : ∀ t, Steps p.tables e below (T15.setTop (mkF m 109 #[.val (.int p1), .val (.int p2), .val (.int (0 : Int32)), .val (.int (0 : Int32)), .val (.ref aFALSE), .val (.ref aFALSE), .val (.int (1 : Int32)), .val (.int (1 : Int32)), .unset] [(.ref aFALSE), (.ref aFALSE)])) t → Steps p.tables e below (s₁.setTop (entryFrame m #[(.int p1), (.int p2)] maxLocals)) t := by
        intro t k
        refine pre_16 t ?_
        show Steps p.tables e below (T15.setTop (mkF m 62 #[.val (.int p1), .val (.int p2), .val (.int (0 : Int32)), .val (.int (0 : Int32)), .val (.ref aFALSE), .val (.ref aFALSE), .unset, .unset, .unset] [(.int (0 : Int32))])) _
        refine XS.iloadN X15.here hx rfl (hb hby at_62) rfl ?_
        show Steps p.tables e below (T15.setTop (mkF m 63 #[.val (.int p1), .val (.int p2), .val (.int (0 : Int32)), .val (.int (0 : Int32)), .val (.ref aFALSE), .val (.ref aFALSE), .unset, .unset, .unset] [(.int (0 : Int32)), (.int (0 : Int32))])) _
        refine XS.icmpNo X15.here hx rfl (hb hby at_63) rfl (XT.ii_ne_f (by decide)) ?_
        show Steps p.tables e below (T15.setTop (mkF m 66 #[.val (.int p1), .val (.int p2), .val (.int (0 : Int32)), .val (.int (0 : Int32)), .val (.ref aFALSE), .val (.ref aFALSE), .unset, .unset, .unset] [])) _
        refine XS.iconst X15.here hx rfl (hb hby at_66) ?_
        show Steps p.tables e below (T15.setTop (mkF m 67 #[.val (.int p1), .val (.int p2), .val (.int (0 : Int32)), .val (.int (0 : Int32)), .val (.ref aFALSE), .val (.ref aFALSE), .unset, .unset, .unset] [(.int (1 : Int32))])) _
        refine XS.goto X15.here hx rfl (pc0 := 67) (pc' := 71) rfl (hb hby at_67) (by decide) (by decide) ?_
        show Steps p.tables e below (T15.setTop (mkF m 71 #[.val (.int p1), .val (.int p2), .val (.int (0 : Int32)), .val (.int (0 : Int32)), .val (.ref aFALSE), .val (.ref aFALSE), .unset, .unset, .unset] [(.int (1 : Int32))])) _
        refine XS.istore X15.here hx rfl (hb hby at_71) rfl (l' := #[.val (.int p1), .val (.int p2), .val (.int (0 : Int32)), .val (.int (0 : Int32)), .val (.ref aFALSE), .val (.ref aFALSE), .val (.int (1 : Int32)), .unset, .unset]) rfl ?_
        show Steps p.tables e below (T15.setTop (mkF m 73 #[.val (.int p1), .val (.int p2), .val (.int (0 : Int32)), .val (.int (0 : Int32)), .val (.ref aFALSE), .val (.ref aFALSE), .val (.int (1 : Int32)), .unset, .unset] [])) _
        refine XS.aload X15.here hx rfl (hb hby at_73) rfl rfl ?_
        show Steps p.tables e below (T15.setTop (mkF m 75 #[.val (.int p1), .val (.int p2), .val (.int (0 : Int32)), .val (.int (0 : Int32)), .val (.ref aFALSE), .val (.ref aFALSE), .val (.int (1 : Int32)), .unset, .unset] [(.ref aFALSE)])) _
        refine XS.aload X15.here hx rfl (hb hby at_75) rfl rfl ?_
        show Steps p.tables e below (T15.setTop (mkF m 77 #[.val (.int p1), .val (.int p2), .val (.int (0 : Int32)), .val (.int (0 : Int32)), .val (.ref aFALSE), .val (.ref aFALSE), .val (.int (1 : Int32)), .unset, .unset] [(.ref aFALSE), (.ref aFALSE)])) _
        refine XT.acmpNo X15.here hx rfl (hb hby at_77) rfl rfl rfl (XT.aa_ne_f rfl) ?_
        show Steps p.tables e below (T15.setTop (mkF m 80 #[.val (.int p1), .val (.int p2), .val (.int (0 : Int32)), .val (.int (0 : Int32)), .val (.ref aFALSE), .val (.ref aFALSE), .val (.int (1 : Int32)), .unset, .unset] [])) _
        refine XS.iconst X15.here hx rfl (hb hby at_80) ?_
        show Steps p.tables e below (T15.setTop (mkF m 81 #[.val (.int p1), .val (.int p2), .val (.int (0 : Int32)), .val (.int (0 : Int32)), .val (.ref aFALSE), .val (.ref aFALSE), .val (.int (1 : Int32)), .unset, .unset] [(.int (1 : Int32))])) _
        refine XS.goto X15.here hx rfl (pc0 := 81) (pc' := 85) rfl (hb hby at_81) (by decide) (by decide) ?_
        show Steps p.tables e below (T15.setTop (mkF m 85 #[.val (.int p1), .val (.int p2), .val (.int (0 : Int32)), .val (.int (0 : Int32)), .val (.ref aFALSE), .val (.ref aFALSE), .val (.int (1 : Int32)), .unset, .unset] [(.int (1 : Int32))])) _
        refine XS.iloadN X15.here hx rfl (hb hby at_85) rfl ?_
        show Steps p.tables e below (T15.setTop (mkF m 86 #[.val (.int p1), .val (.int p2), .val (.int (0 : Int32)), .val (.int (0 : Int32)), .val (.ref aFALSE), .val (.ref aFALSE), .val (.int (1 : Int32)), .unset, .unset] [(.int (0 : Int32)), (.int (1 : Int32))])) _
        refine XS.iloadN X15.here hx rfl (hb hby at_86) rfl ?_
        show Steps p.tables e below (T15.setTop (mkF m 87 #[.val (.int p1), .val (.int p2), .val (.int (0 : Int32)), .val (.int (0 : Int32)), .val (.ref aFALSE), .val (.ref aFALSE), .val (.int (1 : Int32)), .unset, .unset] [(.int (0 : Int32)), (.int (0 : Int32)), (.int (1 : Int32))])) _
        refine XS.icmpNo X15.here hx rfl (hb hby at_87) rfl (XT.ii_ne_f (by decide)) ?_
        show Steps p.tables e below (T15.setTop (mkF m 90 #[.val (.int p1), .val (.int p2), .val (.int (0 : Int32)), .val (.int (0 : Int32)), .val (.ref aFALSE), .val (.ref aFALSE), .val (.int (1 : Int32)), .unset, .unset] [(.int (1 : Int32))])) _
        refine XS.iconst X15.here hx rfl (hb hby at_90) ?_
        show Steps p.tables e below (T15.setTop (mkF m 91 #[.val (.int p1), .val (.int p2), .val (.int (0 : Int32)), .val (.int (0 : Int32)), .val (.ref aFALSE), .val (.ref aFALSE), .val (.int (1 : Int32)), .unset, .unset] [(.int (1 : Int32)), (.int (1 : Int32))])) _
        refine XS.goto X15.here hx rfl (pc0 := 91) (pc' := 95) rfl (hb hby at_91) (by decide) (by decide) ?_
        show Steps p.tables e below (T15.setTop (mkF m 95 #[.val (.int p1), .val (.int p2), .val (.int (0 : Int32)), .val (.int (0 : Int32)), .val (.ref aFALSE), .val (.ref aFALSE), .val (.int (1 : Int32)), .unset, .unset] [(.int (1 : Int32)), (.int (1 : Int32))])) _
        refine XS.icmpNo X15.here hx rfl (hb hby at_95) rfl (XT.ii_ne_f (by decide)) ?_
        show Steps p.tables e below (T15.setTop (mkF m 98 #[.val (.int p1), .val (.int p2), .val (.int (0 : Int32)), .val (.int (0 : Int32)), .val (.ref aFALSE), .val (.ref aFALSE), .val (.int (1 : Int32)), .unset, .unset] [])) _
        refine XS.iconst X15.here hx rfl (hb hby at_98) ?_
        show Steps p.tables e below (T15.setTop (mkF m 99 #[.val (.int p1), .val (.int p2), .val (.int (0 : Int32)), .val (.int (0 : Int32)), .val (.ref aFALSE), .val (.ref aFALSE), .val (.int (1 : Int32)), .unset, .unset] [(.int (1 : Int32))])) _
        refine XS.goto X15.here hx rfl (pc0 := 99) (pc' := 103) rfl (hb hby at_99) (by decide) (by decide) ?_
        show Steps p.tables e below (T15.setTop (mkF m 103 #[.val (.int p1), .val (.int p2), .val (.int (0 : Int32)), .val (.int (0 : Int32)), .val (.ref aFALSE), .val (.ref aFALSE), .val (.int (1 : Int32)), .unset, .unset] [(.int (1 : Int32))])) _
        refine XS.istore X15.here hx rfl (hb hby at_103) rfl (l' := #[.val (.int p1), .val (.int p2), .val (.int (0 : Int32)), .val (.int (0 : Int32)), .val (.ref aFALSE), .val (.ref aFALSE), .val (.int (1 : Int32)), .val (.int (1 : Int32)), .unset]) rfl ?_
        show Steps p.tables e below (T15.setTop (mkF m 105 #[.val (.int p1), .val (.int p2), .val (.int (0 : Int32)), .val (.int (0 : Int32)), .val (.ref aFALSE), .val (.ref aFALSE), .val (.int (1 : Int32)), .val (.int (1 : Int32)), .unset] [])) _
        refine XS.aload X15.here hx rfl (hb hby at_105) rfl rfl ?_
        show Steps p.tables e below (T15.setTop (mkF m 107 #[.val (.int p1), .val (.int p2), .val (.int (0 : Int32)), .val (.int (0 : Int32)), .val (.ref aFALSE), .val (.ref aFALSE), .val (.int (1 : Int32)), .val (.int (1 : Int32)), .unset] [(.ref aFALSE)])) _
        refine XS.aload X15.here hx rfl (hb hby at_107) rfl rfl ?_
        show Steps p.tables e below (T15.setTop (mkF m 109 #[.val (.int p1), .val (.int p2), .val (.int (0 : Int32)), .val (.int (0 : Int32)), .val (.ref aFALSE), .val (.ref aFALSE), .val (.int (1 : Int32)), .val (.int (1 : Int32)), .unset] [(.ref aFALSE), (.ref aFALSE)])) _
        exact k
      obtain ⟨cq18, kq18, qa18, qb18, qc18⟩ := isOf hZ e15 (E_aFALSE.ext O0.2)
      obtain ⟨_, _, ⟨T18, L18, k18, n18⟩, -, X18, ⟨Lc18, hQ18, l18, y18, z18⟩, st18⟩ := X15.virtualBack hx (y := (⟨"com/example/foretell/foretell/core/BooleanValue", "equals", "(Ljava/lang/Object;)Z"⟩ : MethodName)) (z := (⟨"com/example/foretell/foretell/core/BooleanValue", "equals", "(Ljava/lang/Object;)Z"⟩ : MethodName)) hown (mvT hZ (hw _ (List.mem_of_getElem? (i := 15) rfl))) (mvT hZ (hw _ (List.mem_of_getElem? (i := 16) rfl))) (notFace_of_selects (args := #[]) (mvT hZ (hw _ (List.mem_of_getElem? (i := 18) rfl)))) (mvT hZ (hw _ (List.mem_of_getElem? (i := 18) rfl))) (mvT hZ (hw _ (List.mem_of_getElem? (i := 17) rfl))) (by decide) (backOf (W := 0) (rm_eq l Z a0 hw [] aFALSE aFALSE h0 n0 O0) hZ (hw _ (List.mem_of_getElem? (i := 19) rfl)) (hw _ (List.mem_of_getElem? (i := 2) rfl)) (by decide) (by decide)) qa18 qc18 (g := (mkF m 109 #[.val (.int p1), .val (.int p2), .val (.int (0 : Int32)), .val (.int (0 : Int32)), .val (.ref aFALSE), .val (.ref aFALSE), .val (.int (1 : Int32)), .val (.int (1 : Int32)), .unset] [(.ref aFALSE), (.ref aFALSE)])) rfl (by rw [hml]; rfl) (Steps.refl _) (argsL := [(.ref aFALSE)]) (rest := []) (lenOf pd_law_2 rfl) rfl (by show 2 * 0 + _ ≤ _; exact Nat.le_of_eq rfl) (hb hby at_109) (fun _ _ => ⟨rfl, e15, (by decide : 0 + 0 ≤ _), (by decide : 0 + 0 ≤ _)⟩)
      dsimp only [Pt.U, Pt.locs, Pt.cells, Pt.slots] at X18 l18 y18 z18 st18 hQ18
      subst l18 y18 z18
      obtain ⟨rfl, N18q, e18⟩ := hQ18
      have N18 := Fr.app N15 N18q
      have pre_19 : ∀ t, Steps p.tables e below (T18.setTop (mkF m 112 #[.val (.int p1), .val (.int p2), .val (.int (0 : Int32)), .val (.int (0 : Int32)), .val (.ref aFALSE), .val (.ref aFALSE), .val (.int (1 : Int32)), .val (.int (1 : Int32)), .unset] [(.int (if aFALSE = aFALSE then (1 : Int32) else (0 : Int32)))])) t → Steps p.tables e below (s₁.setTop (entryFrame m #[(.int p1), (.int p2)] maxLocals)) t := fun t k => pre_17 t (st18.trans k)
      have pre_20 : ∀ t, Steps p.tables e below (T18.setTop (mkF m 152 #[.val (.int p1), .val (.int p2), .val (.int (0 : Int32)), .val (.int (0 : Int32)), .val (.ref aFALSE), .val (.ref aFALSE), .val (.int (1 : Int32)), .val (.int (1 : Int32)), .val (.int (1 : Int32))] [(.int (1 : Int32))])) t → Steps p.tables e below (s₁.setTop (entryFrame m #[(.int p1), (.int p2)] maxLocals)) t := by
        intro t k
        refine pre_19 t ?_
        show Steps p.tables e below (T18.setTop (mkF m 112 #[.val (.int p1), .val (.int p2), .val (.int (0 : Int32)), .val (.int (0 : Int32)), .val (.ref aFALSE), .val (.ref aFALSE), .val (.int (1 : Int32)), .val (.int (1 : Int32)), .unset] [(.int (if aFALSE = aFALSE then (1 : Int32) else (0 : Int32)))])) _
        refine XS.iloadN X18.here hx rfl (hb hby at_112) rfl ?_
        show Steps p.tables e below (T18.setTop (mkF m 113 #[.val (.int p1), .val (.int p2), .val (.int (0 : Int32)), .val (.int (0 : Int32)), .val (.ref aFALSE), .val (.ref aFALSE), .val (.int (1 : Int32)), .val (.int (1 : Int32)), .unset] [(.int (0 : Int32)), (.int (if aFALSE = aFALSE then (1 : Int32) else (0 : Int32)))])) _
        refine XS.iloadN X18.here hx rfl (hb hby at_113) rfl ?_
        show Steps p.tables e below (T18.setTop (mkF m 114 #[.val (.int p1), .val (.int p2), .val (.int (0 : Int32)), .val (.int (0 : Int32)), .val (.ref aFALSE), .val (.ref aFALSE), .val (.int (1 : Int32)), .val (.int (1 : Int32)), .unset] [(.int (0 : Int32)), (.int (0 : Int32)), (.int (if aFALSE = aFALSE then (1 : Int32) else (0 : Int32)))])) _
        refine XS.icmpNo X18.here hx rfl (hb hby at_114) rfl (XT.ii_ne_f (by decide)) ?_
        show Steps p.tables e below (T18.setTop (mkF m 117 #[.val (.int p1), .val (.int p2), .val (.int (0 : Int32)), .val (.int (0 : Int32)), .val (.ref aFALSE), .val (.ref aFALSE), .val (.int (1 : Int32)), .val (.int (1 : Int32)), .unset] [(.int (if aFALSE = aFALSE then (1 : Int32) else (0 : Int32)))])) _
        refine XS.iconst X18.here hx rfl (hb hby at_117) ?_
        show Steps p.tables e below (T18.setTop (mkF m 118 #[.val (.int p1), .val (.int p2), .val (.int (0 : Int32)), .val (.int (0 : Int32)), .val (.ref aFALSE), .val (.ref aFALSE), .val (.int (1 : Int32)), .val (.int (1 : Int32)), .unset] [(.int (1 : Int32)), (.int (if aFALSE = aFALSE then (1 : Int32) else (0 : Int32)))])) _
        refine XS.goto X18.here hx rfl (pc0 := 118) (pc' := 122) rfl (hb hby at_118) (by decide) (by decide) ?_
        show Steps p.tables e below (T18.setTop (mkF m 122 #[.val (.int p1), .val (.int p2), .val (.int (0 : Int32)), .val (.int (0 : Int32)), .val (.ref aFALSE), .val (.ref aFALSE), .val (.int (1 : Int32)), .val (.int (1 : Int32)), .unset] [(.int (1 : Int32)), (.int (if aFALSE = aFALSE then (1 : Int32) else (0 : Int32)))])) _
        refine XS.icmpNo X18.here hx rfl (hb hby at_122) rfl (XT.ii_ne_f (by simp only [if_pos (rfl : aFALSE = aFALSE)] <;> decide)) ?_
        show Steps p.tables e below (T18.setTop (mkF m 125 #[.val (.int p1), .val (.int p2), .val (.int (0 : Int32)), .val (.int (0 : Int32)), .val (.ref aFALSE), .val (.ref aFALSE), .val (.int (1 : Int32)), .val (.int (1 : Int32)), .unset] [])) _
        refine XS.iconst X18.here hx rfl (hb hby at_125) ?_
        show Steps p.tables e below (T18.setTop (mkF m 126 #[.val (.int p1), .val (.int p2), .val (.int (0 : Int32)), .val (.int (0 : Int32)), .val (.ref aFALSE), .val (.ref aFALSE), .val (.int (1 : Int32)), .val (.int (1 : Int32)), .unset] [(.int (1 : Int32))])) _
        refine XS.goto X18.here hx rfl (pc0 := 126) (pc' := 130) rfl (hb hby at_126) (by decide) (by decide) ?_
        show Steps p.tables e below (T18.setTop (mkF m 130 #[.val (.int p1), .val (.int p2), .val (.int (0 : Int32)), .val (.int (0 : Int32)), .val (.ref aFALSE), .val (.ref aFALSE), .val (.int (1 : Int32)), .val (.int (1 : Int32)), .unset] [(.int (1 : Int32))])) _
        refine XS.istore X18.here hx rfl (hb hby at_130) rfl (l' := #[.val (.int p1), .val (.int p2), .val (.int (0 : Int32)), .val (.int (0 : Int32)), .val (.ref aFALSE), .val (.ref aFALSE), .val (.int (1 : Int32)), .val (.int (1 : Int32)), .val (.int (1 : Int32))]) rfl ?_
        show Steps p.tables e below (T18.setTop (mkF m 132 #[.val (.int p1), .val (.int p2), .val (.int (0 : Int32)), .val (.int (0 : Int32)), .val (.ref aFALSE), .val (.ref aFALSE), .val (.int (1 : Int32)), .val (.int (1 : Int32)), .val (.int (1 : Int32))] [])) _
        refine XS.iload X18.here hx rfl (hb hby at_132) rfl ?_
        show Steps p.tables e below (T18.setTop (mkF m 134 #[.val (.int p1), .val (.int p2), .val (.int (0 : Int32)), .val (.int (0 : Int32)), .val (.ref aFALSE), .val (.ref aFALSE), .val (.int (1 : Int32)), .val (.int (1 : Int32)), .val (.int (1 : Int32))] [(.int (1 : Int32))])) _
        refine XS.ifNo X18.here hx rfl (hb hby at_134) rfl (XT.i0_eq_f (by decide)) ?_
        show Steps p.tables e below (T18.setTop (mkF m 137 #[.val (.int p1), .val (.int p2), .val (.int (0 : Int32)), .val (.int (0 : Int32)), .val (.ref aFALSE), .val (.ref aFALSE), .val (.int (1 : Int32)), .val (.int (1 : Int32)), .val (.int (1 : Int32))] [])) _
        refine XS.iload X18.here hx rfl (hb hby at_137) rfl ?_
        show Steps p.tables e below (T18.setTop (mkF m 139 #[.val (.int p1), .val (.int p2), .val (.int (0 : Int32)), .val (.int (0 : Int32)), .val (.ref aFALSE), .val (.ref aFALSE), .val (.int (1 : Int32)), .val (.int (1 : Int32)), .val (.int (1 : Int32))] [(.int (1 : Int32))])) _
        refine XS.ifNo X18.here hx rfl (hb hby at_139) rfl (XT.i0_eq_f (by decide)) ?_
        show Steps p.tables e below (T18.setTop (mkF m 142 #[.val (.int p1), .val (.int p2), .val (.int (0 : Int32)), .val (.int (0 : Int32)), .val (.ref aFALSE), .val (.ref aFALSE), .val (.int (1 : Int32)), .val (.int (1 : Int32)), .val (.int (1 : Int32))] [])) _
        refine XS.iload X18.here hx rfl (hb hby at_142) rfl ?_
        show Steps p.tables e below (T18.setTop (mkF m 144 #[.val (.int p1), .val (.int p2), .val (.int (0 : Int32)), .val (.int (0 : Int32)), .val (.ref aFALSE), .val (.ref aFALSE), .val (.int (1 : Int32)), .val (.int (1 : Int32)), .val (.int (1 : Int32))] [(.int (1 : Int32))])) _
        refine XS.ifNo X18.here hx rfl (hb hby at_144) rfl (XT.i0_eq_f (by decide)) ?_
        show Steps p.tables e below (T18.setTop (mkF m 147 #[.val (.int p1), .val (.int p2), .val (.int (0 : Int32)), .val (.int (0 : Int32)), .val (.ref aFALSE), .val (.ref aFALSE), .val (.int (1 : Int32)), .val (.int (1 : Int32)), .val (.int (1 : Int32))] [])) _
        refine XS.iconst X18.here hx rfl (hb hby at_147) ?_
        show Steps p.tables e below (T18.setTop (mkF m 148 #[.val (.int p1), .val (.int p2), .val (.int (0 : Int32)), .val (.int (0 : Int32)), .val (.ref aFALSE), .val (.ref aFALSE), .val (.int (1 : Int32)), .val (.int (1 : Int32)), .val (.int (1 : Int32))] [(.int (1 : Int32))])) _
        refine XS.goto X18.here hx rfl (pc0 := 148) (pc' := 152) rfl (hb hby at_148) (by decide) (by decide) ?_
        show Steps p.tables e below (T18.setTop (mkF m 152 #[.val (.int p1), .val (.int p2), .val (.int (0 : Int32)), .val (.int (0 : Int32)), .val (.ref aFALSE), .val (.ref aFALSE), .val (.int (1 : Int32)), .val (.int (1 : Int32)), .val (.int (1 : Int32))] [(.int (1 : Int32))])) _
        exact k
      obtain ⟨fs, hr, hrun, hended, hW, hsame⟩ := X18.leave (v := some (.int (1 : Int32))) (fun h => by rw [Bd.returns] at h; cases h)
      refine ⟨_, _, pre_20 _ ?_, hrun, hended, _, _, rfl, ?_, ⟨_, rfl⟩, hW, hsame.mono (by decide) (by decide)⟩
      · show Steps p.tables e below (T18.setTop (mkF m 152 #[.val (.int p1), .val (.int p2), .val (.int (0 : Int32)), .val (.int (0 : Int32)), .val (.ref aFALSE), .val (.ref aFALSE), .val (.int (1 : Int32)), .val (.int (1 : Int32)), .val (.int (1 : Int32))] [(.int (1 : Int32))])) _
        exact retN X18 hx (t := .boolean) Bd.returns (by simp) (hb hby at_152) hr
      · show Q_law Z p1 p2 aFALSE aTRUE h0 n0 _ T18.heap _
        rw [e18]
        exact ⟨rfl, N18⟩
    · skip
      have pre_21 : ∀ t, Steps p.tables e below (s₁.setTop (mkF m 25 #[.val (.int p1), .val (.int p2), .val (.int (0 : Int32)), .val (.int (1 : Int32)), .unset, .unset, .unset, .unset, .unset] [(.int (0 : Int32))])) t → Steps p.tables e below (s₁.setTop (entryFrame m #[(.int p1), (.int p2)] maxLocals)) t := by
        intro t k
        refine pre_3 t ?_
        show Steps p.tables e below (s₁.setTop (mkF m 15 #[.val (.int p1), .val (.int p2), .val (.int (0 : Int32)), .unset, .unset, .unset, .unset, .unset, .unset] [(.int (p2 &&& (1 : Int32)))])) _
        refine XS.ifNo X0.here hx rfl (hb hby at_15) rfl (XT.i0_eq_f hc4) ?_
        show Steps p.tables e below (s₁.setTop (mkF m 18 #[.val (.int p1), .val (.int p2), .val (.int (0 : Int32)), .unset, .unset, .unset, .unset, .unset, .unset] [])) _
        refine XS.iconst X0.here hx rfl (hb hby at_18) ?_
        show Steps p.tables e below (s₁.setTop (mkF m 19 #[.val (.int p1), .val (.int p2), .val (.int (0 : Int32)), .unset, .unset, .unset, .unset, .unset, .unset] [(.int (1 : Int32))])) _
        refine XS.goto X0.here hx rfl (pc0 := 19) (pc' := 23) rfl (hb hby at_19) (by decide) (by decide) ?_
        show Steps p.tables e below (s₁.setTop (mkF m 23 #[.val (.int p1), .val (.int p2), .val (.int (0 : Int32)), .unset, .unset, .unset, .unset, .unset, .unset] [(.int (1 : Int32))])) _
        refine XS.istoreN X0.here hx rfl (hb hby at_23) rfl (l' := #[.val (.int p1), .val (.int p2), .val (.int (0 : Int32)), .val (.int (1 : Int32)), .unset, .unset, .unset, .unset, .unset]) rfl ?_
        show Steps p.tables e below (s₁.setTop (mkF m 24 #[.val (.int p1), .val (.int p2), .val (.int (0 : Int32)), .val (.int (1 : Int32)), .unset, .unset, .unset, .unset, .unset] [])) _
        refine XS.iloadN X0.here hx rfl (hb hby at_24) rfl ?_
        show Steps p.tables e below (s₁.setTop (mkF m 25 #[.val (.int p1), .val (.int p2), .val (.int (0 : Int32)), .val (.int (1 : Int32)), .unset, .unset, .unset, .unset, .unset] [(.int (0 : Int32))])) _
        exact k
      obtain ⟨_, _, ⟨T22, L22, k22, n22⟩, -, X22, ⟨Lc22, hQ22, l22, y22, z22⟩, st22⟩ := Jvm.LawKit.callS X0 hx (y := (⟨"com/example/foretell/foretell/core/BooleanValue", "of", "(Z)Lcom/example/foretell/foretell/core/BooleanValue;"⟩ : MethodName)) hown (mvT hZ (hw _ (List.mem_of_getElem? (i := 0) rfl))) (mvT hZ (hw _ (List.mem_of_getElem? (i := 1) rfl))) (mvT hZ (hw _ (List.mem_of_getElem? (i := 2) rfl))) (mvT hZ (hw _ (List.mem_of_getElem? (i := 3) rfl))) (by decide) (backOf (W := 0) (rm_of0 l Z a0 hw [] aFALSE h0 n0 O0 S_aFALSE) hZ (hw _ (List.mem_of_getElem? (i := 3) rfl)) (hw _ (List.mem_of_getElem? (i := 2) rfl)) (by decide) (by decide)) (g := (mkF m 25 #[.val (.int p1), .val (.int p2), .val (.int (0 : Int32)), .val (.int (1 : Int32)), .unset, .unset, .unset, .unset, .unset] [(.int (0 : Int32))])) rfl (by rw [hml]; rfl) (argsL := [(.int (0 : Int32))]) (rest := []) (lenOf pd_law_0 rfl) rfl (by show 2 * 0 + _ ≤ _; exact Nat.le_of_eq rfl) (hb hby at_25) (fun _ _ => ⟨rfl, e0, (by decide : 0 + 0 ≤ _), (by decide : 0 + 0 ≤ _)⟩)
      dsimp only [Pt.U, Pt.locs, Pt.cells, Pt.slots] at X22 l22 y22 z22 st22 hQ22
      subst l22 y22 z22
      obtain ⟨rfl, N22q, e22⟩ := hQ22
      have N22 := Fr.app N0 N22q
      have pre_23 : ∀ t, Steps p.tables e below (T22.setTop (mkF m 28 #[.val (.int p1), .val (.int p2), .val (.int (0 : Int32)), .val (.int (1 : Int32)), .unset, .unset, .unset, .unset, .unset] [(.ref aFALSE)])) t → Steps p.tables e below (s₁.setTop (entryFrame m #[(.int p1), (.int p2)] maxLocals)) t := fun t k => pre_21 t (st22 t k)
      have pre_24 : ∀ t, Steps p.tables e below (T22.setTop (mkF m 31 #[.val (.int p1), .val (.int p2), .val (.int (0 : Int32)), .val (.int (1 : Int32)), .val (.ref aFALSE), .unset, .unset, .unset, .unset] [(.int (1 : Int32))])) t → Steps p.tables e below (s₁.setTop (entryFrame m #[(.int p1), (.int p2)] maxLocals)) t := by
        intro t k
        refine pre_23 t ?_
        show Steps p.tables e below (T22.setTop (mkF m 28 #[.val (.int p1), .val (.int p2), .val (.int (0 : Int32)), .val (.int (1 : Int32)), .unset, .unset, .unset, .unset, .unset] [(.ref aFALSE)])) _
        refine XS.astore X22.here hx rfl (hb hby at_28) rfl rfl (l' := #[.val (.int p1), .val (.int p2), .val (.int (0 : Int32)), .val (.int (1 : Int32)), .val (.ref aFALSE), .unset, .unset, .unset, .unset]) rfl ?_
        show Steps p.tables e below (T22.setTop (mkF m 30 #[.val (.int p1), .val (.int p2), .val (.int (0 : Int32)), .val (.int (1 : Int32)), .val (.ref aFALSE), .unset, .unset, .unset, .unset] [])) _
        refine XS.iloadN X22.here hx rfl (hb hby at_30) rfl ?_
        show Steps p.tables e below (T22.setTop (mkF m 31 #[.val (.int p1), .val (.int p2), .val (.int (0 : Int32)), .val (.int (1 : Int32)), .val (.ref aFALSE), .unset, .unset, .unset, .unset] [(.int (1 : Int32))])) _
        exact k
      obtain ⟨_, _, ⟨T25, L25, k25, n25⟩, -, X25, ⟨Lc25, hQ25, l25, y25, z25⟩, st25⟩ := Jvm.LawKit.callS X22 hx (y := (⟨"com/example/foretell/foretell/core/BooleanValue", "of", "(Z)Lcom/example/foretell/foretell/core/BooleanValue;"⟩ : MethodName)) hown (mvT hZ (hw _ (List.mem_of_getElem? (i := 0) rfl))) (mvT hZ (hw _ (List.mem_of_getElem? (i := 1) rfl))) (mvT hZ (hw _ (List.mem_of_getElem? (i := 2) rfl))) (mvT hZ (hw _ (List.mem_of_getElem? (i := 3) rfl))) (by decide) (backOf (W := 0) (rm_of1 l Z a0 hw [] aTRUE h0 n0 O0 S_aTRUE) hZ (hw _ (List.mem_of_getElem? (i := 3) rfl)) (hw _ (List.mem_of_getElem? (i := 2) rfl)) (by decide) (by decide)) (g := (mkF m 31 #[.val (.int p1), .val (.int p2), .val (.int (0 : Int32)), .val (.int (1 : Int32)), .val (.ref aFALSE), .unset, .unset, .unset, .unset] [(.int (1 : Int32))])) rfl (by rw [hml]; rfl) (argsL := [(.int (1 : Int32))]) (rest := []) (lenOf pd_law_0 rfl) rfl (by show 2 * 0 + _ ≤ _; exact Nat.le_of_eq rfl) (hb hby at_31) (fun _ _ => ⟨rfl, e22, (by decide : 0 + 0 ≤ _), (by decide : 0 + 0 ≤ _)⟩)
      dsimp only [Pt.U, Pt.locs, Pt.cells, Pt.slots] at X25 l25 y25 z25 st25 hQ25
      subst l25 y25 z25
      obtain ⟨rfl, N25q, e25⟩ := hQ25
      have N25 := Fr.app N22 N25q
      have pre_26 : ∀ t, Steps p.tables e below (T25.setTop (mkF m 34 #[.val (.int p1), .val (.int p2), .val (.int (0 : Int32)), .val (.int (1 : Int32)), .val (.ref aFALSE), .unset, .unset, .unset, .unset] [(.ref aTRUE)])) t → Steps p.tables e below (s₁.setTop (entryFrame m #[(.int p1), (.int p2)] maxLocals)) t := fun t k => pre_24 t (st25 t k)
      have pre_27 : ∀ t, Steps p.tables e below (T25.setTop (mkF m 50 #[.val (.int p1), .val (.int p2), .val (.int (0 : Int32)), .val (.int (1 : Int32)), .val (.ref aFALSE), .val (.ref aTRUE), .unset, .unset, .unset] [(.ref aFALSE)])) t → Steps p.tables e below (s₁.setTop (entryFrame m #[(.int p1), (.int p2)] maxLocals)) t := by
        intro t k
        refine pre_26 t ?_
        show Steps p.tables e below (T25.setTop (mkF m 34 #[.val (.int p1), .val (.int p2), .val (.int (0 : Int32)), .val (.int (1 : Int32)), .val (.ref aFALSE), .unset, .unset, .unset, .unset] [(.ref aTRUE)])) _
        refine XS.astore X25.here hx rfl (hb hby at_34) rfl rfl (l' := #[.val (.int p1), .val (.int p2), .val (.int (0 : Int32)), .val (.int (1 : Int32)), .val (.ref aFALSE), .val (.ref aTRUE), .unset, .unset, .unset]) rfl ?_
        show Steps p.tables e below (T25.setTop (mkF m 36 #[.val (.int p1), .val (.int p2), .val (.int (0 : Int32)), .val (.int (1 : Int32)), .val (.ref aFALSE), .val (.ref aTRUE), .unset, .unset, .unset] [])) _
        refine XS.aload X25.here hx rfl (hb hby at_36) rfl rfl ?_
        show Steps p.tables e below (T25.setTop (mkF m 38 #[.val (.int p1), .val (.int p2), .val (.int (0 : Int32)), .val (.int (1 : Int32)), .val (.ref aFALSE), .val (.ref aTRUE), .unset, .unset, .unset] [(.ref aFALSE)])) _
        refine XS.ifnullNo X25.here hx rfl (hb hby at_38) rfl ?_
        show Steps p.tables e below (T25.setTop (mkF m 41 #[.val (.int p1), .val (.int p2), .val (.int (0 : Int32)), .val (.int (1 : Int32)), .val (.ref aFALSE), .val (.ref aTRUE), .unset, .unset, .unset] [])) _
        refine XS.aload X25.here hx rfl (hb hby at_41) rfl rfl ?_
        show Steps p.tables e below (T25.setTop (mkF m 43 #[.val (.int p1), .val (.int p2), .val (.int (0 : Int32)), .val (.int (1 : Int32)), .val (.ref aFALSE), .val (.ref aTRUE), .unset, .unset, .unset] [(.ref aTRUE)])) _
        refine XT.ifnonnullYes X25.here hx rfl (pc0 := 43) (pc' := 48) rfl (hb hby at_43) rfl (by decide) (by decide) ?_
        show Steps p.tables e below (T25.setTop (mkF m 48 #[.val (.int p1), .val (.int p2), .val (.int (0 : Int32)), .val (.int (1 : Int32)), .val (.ref aFALSE), .val (.ref aTRUE), .unset, .unset, .unset] [])) _
        refine XS.aload X25.here hx rfl (hb hby at_48) rfl rfl ?_
        show Steps p.tables e below (T25.setTop (mkF m 50 #[.val (.int p1), .val (.int p2), .val (.int (0 : Int32)), .val (.int (1 : Int32)), .val (.ref aFALSE), .val (.ref aTRUE), .unset, .unset, .unset] [(.ref aFALSE)])) _
        exact k
      obtain ⟨cq28, kq28, qa28, qb28, qc28⟩ := isOf hZ e25 (E_aFALSE.ext O0.2)
      obtain ⟨_, _, ⟨T28, L28, k28, n28⟩, -, X28, ⟨Lc28, hQ28, l28, y28, z28⟩, st28⟩ := X25.virtualBack hx (y := (⟨"com/example/foretell/foretell/core/BooleanValue", "value", "()Z"⟩ : MethodName)) (z := (⟨"com/example/foretell/foretell/core/BooleanValue", "value", "()Z"⟩ : MethodName)) hown (mvT hZ (hw _ (List.mem_of_getElem? (i := 8) rfl))) (mvT hZ (hw _ (List.mem_of_getElem? (i := 9) rfl))) (notFace_of_selects (args := #[]) (mvT hZ (hw _ (List.mem_of_getElem? (i := 11) rfl)))) (mvT hZ (hw _ (List.mem_of_getElem? (i := 11) rfl))) (mvT hZ (hw _ (List.mem_of_getElem? (i := 10) rfl))) (by decide) (backOf (W := 0) (rm_val0 l Z a0 hw [] aFALSE h0 n0 O0 (F_aFALSE_value.ext O0.2)) hZ (hw _ (List.mem_of_getElem? (i := 12) rfl)) (hw _ (List.mem_of_getElem? (i := 2) rfl)) (by decide) (by decide)) qa28 qc28 (g := (mkF m 50 #[.val (.int p1), .val (.int p2), .val (.int (0 : Int32)), .val (.int (1 : Int32)), .val (.ref aFALSE), .val (.ref aTRUE), .unset, .unset, .unset] [(.ref aFALSE)])) rfl (by rw [hml]; rfl) (Steps.refl _) (argsL := []) (rest := []) (lenOf pd_law_1 rfl) rfl (by show 2 * 0 + _ ≤ _; exact Nat.le_of_eq rfl) (hb hby at_50) (fun _ _ => ⟨rfl, e25, (by decide : 0 + 0 ≤ _), (by decide : 0 + 0 ≤ _)⟩)
      dsimp only [Pt.U, Pt.locs, Pt.cells, Pt.slots] at X28 l28 y28 z28 st28 hQ28
      subst l28 y28 z28
      obtain ⟨rfl, N28q, e28⟩ := hQ28
      have N28 := Fr.app N25 N28q
      have pre_29 : ∀ t, Steps p.tables e below (T28.setTop (mkF m 53 #[.val (.int p1), .val (.int p2), .val (.int (0 : Int32)), .val (.int (1 : Int32)), .val (.ref aFALSE), .val (.ref aTRUE), .unset, .unset, .unset] [(.int (0 : Int32))])) t → Steps p.tables e below (s₁.setTop (entryFrame m #[(.int p1), (.int p2)] maxLocals)) t := fun t k => pre_27 t (st28.trans k)
      have pre_30 : ∀ t, Steps p.tables e below (T28.setTop (mkF m 59 #[.val (.int p1), .val (.int p2), .val (.int (0 : Int32)), .val (.int (1 : Int32)), .val (.ref aFALSE), .val (.ref aTRUE), .unset, .unset, .unset] [(.ref aTRUE)])) t → Steps p.tables e below (s₁.setTop (entryFrame m #[(.int p1), (.int p2)] maxLocals)) t := by
        intro t k
        refine pre_29 t ?_
        show Steps p.tables e below (T28.setTop (mkF m 53 #[.val (.int p1), .val (.int p2), .val (.int (0 : Int32)), .val (.int (1 : Int32)), .val (.ref aFALSE), .val (.ref aTRUE), .unset, .unset, .unset] [(.int (0 : Int32))])) _
        refine XS.iloadN X28.here hx rfl (hb hby at_53) rfl ?_
        show Steps p.tables e below (T28.setTop (mkF m 54 #[.val (.int p1), .val (.int p2), .val (.int (0 : Int32)), .val (.int (1 : Int32)), .val (.ref aFALSE), .val (.ref aTRUE), .unset, .unset, .unset] [(.int (0 : Int32)), (.int (0 : Int32))])) _
        refine XS.icmpNo X28.here hx rfl (hb hby at_54) rfl (XT.ii_ne_f (by decide)) ?_
        show Steps p.tables e below (T28.setTop (mkF m 57 #[.val (.int p1), .val (.int p2), .val (.int (0 : Int32)), .val (.int (1 : Int32)), .val (.ref aFALSE), .val (.ref aTRUE), .unset, .unset, .unset] [])) _
        refine XS.aload X28.here hx rfl (hb hby at_57) rfl rfl ?_
        show Steps p.tables e below (T28.setTop (mkF m 59 #[.val (.int p1), .val (.int p2), .val (.int (0 : Int32)), .val (.int (1 : Int32)), .val (.ref aFALSE), .val (.ref aTRUE), .unset, .unset, .unset] [(.ref aTRUE)])) _
        exact k
      obtain ⟨cq31, kq31, qa31, qb31, qc31⟩ := isOf hZ e28 (E_aTRUE.ext O0.2)
      obtain ⟨_, _, ⟨T31, L31, k31, n31⟩, -, X31, ⟨Lc31, hQ31, l31, y31, z31⟩, st31⟩ := X28.virtualBack hx (y := (⟨"com/example/foretell/foretell/core/BooleanValue", "value", "()Z"⟩ : MethodName)) (z := (⟨"com/example/foretell/foretell/core/BooleanValue", "value", "()Z"⟩ : MethodName)) hown (mvT hZ (hw _ (List.mem_of_getElem? (i := 8) rfl))) (mvT hZ (hw _ (List.mem_of_getElem? (i := 9) rfl))) (notFace_of_selects (args := #[]) (mvT hZ (hw _ (List.mem_of_getElem? (i := 11) rfl)))) (mvT hZ (hw _ (List.mem_of_getElem? (i := 11) rfl))) (mvT hZ (hw _ (List.mem_of_getElem? (i := 10) rfl))) (by decide) (backOf (W := 0) (rm_val1 l Z a0 hw [] aTRUE h0 n0 O0 (F_aTRUE_value.ext O0.2)) hZ (hw _ (List.mem_of_getElem? (i := 12) rfl)) (hw _ (List.mem_of_getElem? (i := 2) rfl)) (by decide) (by decide)) qa31 qc31 (g := (mkF m 59 #[.val (.int p1), .val (.int p2), .val (.int (0 : Int32)), .val (.int (1 : Int32)), .val (.ref aFALSE), .val (.ref aTRUE), .unset, .unset, .unset] [(.ref aTRUE)])) rfl (by rw [hml]; rfl) (Steps.refl _) (argsL := []) (rest := []) (lenOf pd_law_1 rfl) rfl (by show 2 * 0 + _ ≤ _; exact Nat.le_of_eq rfl) (hb hby at_59) (fun _ _ => ⟨rfl, e28, (by decide : 0 + 0 ≤ _), (by decide : 0 + 0 ≤ _)⟩)
      dsimp only [Pt.U, Pt.locs, Pt.cells, Pt.slots] at X31 l31 y31 z31 st31 hQ31
      subst l31 y31 z31
      obtain ⟨rfl, N31q, e31⟩ := hQ31
      have N31 := Fr.app N28 N31q
      have pre_32 : ∀ t, Steps p.tables e below (T31.setTop (mkF m 62 #[.val (.int p1), .val (.int p2), .val (.int (0 : Int32)), .val (.int (1 : Int32)), .val (.ref aFALSE), .val (.ref aTRUE), .unset, .unset, .unset] [(.int (1 : Int32))])) t → Steps p.tables e below (s₁.setTop (entryFrame m #[(.int p1), (.int p2)] maxLocals)) t := fun t k => pre_30 t (st31.trans k)
      have pre_33 : ∀ t, Steps p.tables e below (T31.setTop (mkF m 109 #[.val (.int p1), .val (.int p2), .val (.int (0 : Int32)), .val (.int (1 : Int32)), .val (.ref aFALSE), .val (.ref aTRUE), .val (.int (1 : Int32)), .val (.int (1 : Int32)), .unset] [(.ref aTRUE), (.ref aFALSE)])) t → Steps p.tables e below (s₁.setTop (entryFrame m #[(.int p1), (.int p2)] maxLocals)) t := by
        intro t k
        refine pre_32 t ?_
        show Steps p.tables e below (T31.setTop (mkF m 62 #[.val (.int p1), .val (.int p2), .val (.int (0 : Int32)), .val (.int (1 : Int32)), .val (.ref aFALSE), .val (.ref aTRUE), .unset, .unset, .unset] [(.int (1 : Int32))])) _
        refine XS.iloadN X31.here hx rfl (hb hby at_62) rfl ?_
        show Steps p.tables e below (T31.setTop (mkF m 63 #[.val (.int p1), .val (.int p2), .val (.int (0 : Int32)), .val (.int (1 : Int32)), .val (.ref aFALSE), .val (.ref aTRUE), .unset, .unset, .unset] [(.int (1 : Int32)), (.int (1 : Int32))])) _
        refine XS.icmpNo X31.here hx rfl (hb hby at_63) rfl (XT.ii_ne_f (by decide)) ?_
        show Steps p.tables e below (T31.setTop (mkF m 66 #[.val (.int p1), .val (.int p2), .val (.int (0 : Int32)), .val (.int (1 : Int32)), .val (.ref aFALSE), .val (.ref aTRUE), .unset, .unset, .unset] [])) _
        refine XS.iconst X31.here hx rfl (hb hby at_66) ?_
        show Steps p.tables e below (T31.setTop (mkF m 67 #[.val (.int p1), .val (.int p2), .val (.int (0 : Int32)), .val (.int (1 : Int32)), .val (.ref aFALSE), .val (.ref aTRUE), .unset, .unset, .unset] [(.int (1 : Int32))])) _
        refine XS.goto X31.here hx rfl (pc0 := 67) (pc' := 71) rfl (hb hby at_67) (by decide) (by decide) ?_
        show Steps p.tables e below (T31.setTop (mkF m 71 #[.val (.int p1), .val (.int p2), .val (.int (0 : Int32)), .val (.int (1 : Int32)), .val (.ref aFALSE), .val (.ref aTRUE), .unset, .unset, .unset] [(.int (1 : Int32))])) _
        refine XS.istore X31.here hx rfl (hb hby at_71) rfl (l' := #[.val (.int p1), .val (.int p2), .val (.int (0 : Int32)), .val (.int (1 : Int32)), .val (.ref aFALSE), .val (.ref aTRUE), .val (.int (1 : Int32)), .unset, .unset]) rfl ?_
        show Steps p.tables e below (T31.setTop (mkF m 73 #[.val (.int p1), .val (.int p2), .val (.int (0 : Int32)), .val (.int (1 : Int32)), .val (.ref aFALSE), .val (.ref aTRUE), .val (.int (1 : Int32)), .unset, .unset] [])) _
        refine XS.aload X31.here hx rfl (hb hby at_73) rfl rfl ?_
        show Steps p.tables e below (T31.setTop (mkF m 75 #[.val (.int p1), .val (.int p2), .val (.int (0 : Int32)), .val (.int (1 : Int32)), .val (.ref aFALSE), .val (.ref aTRUE), .val (.int (1 : Int32)), .unset, .unset] [(.ref aFALSE)])) _
        refine XS.aload X31.here hx rfl (hb hby at_75) rfl rfl ?_
        show Steps p.tables e below (T31.setTop (mkF m 77 #[.val (.int p1), .val (.int p2), .val (.int (0 : Int32)), .val (.int (1 : Int32)), .val (.ref aFALSE), .val (.ref aTRUE), .val (.int (1 : Int32)), .unset, .unset] [(.ref aTRUE), (.ref aFALSE)])) _
        refine XT.acmpYes X31.here hx rfl (pc0 := 77) (pc' := 84) rfl (hb hby at_77) rfl rfl rfl (XT.aa_ne_t (fun q => neFT (Value.ref.inj q))) (by decide) (by decide) ?_
        show Steps p.tables e below (T31.setTop (mkF m 84 #[.val (.int p1), .val (.int p2), .val (.int (0 : Int32)), .val (.int (1 : Int32)), .val (.ref aFALSE), .val (.ref aTRUE), .val (.int (1 : Int32)), .unset, .unset] [])) _
        refine XS.iconst X31.here hx rfl (hb hby at_84) ?_
        show Steps p.tables e below (T31.setTop (mkF m 85 #[.val (.int p1), .val (.int p2), .val (.int (0 : Int32)), .val (.int (1 : Int32)), .val (.ref aFALSE), .val (.ref aTRUE), .val (.int (1 : Int32)), .unset, .unset] [(.int (0 : Int32))])) _
        refine XS.iloadN X31.here hx rfl (hb hby at_85) rfl ?_
        show Steps p.tables e below (T31.setTop (mkF m 86 #[.val (.int p1), .val (.int p2), .val (.int (0 : Int32)), .val (.int (1 : Int32)), .val (.ref aFALSE), .val (.ref aTRUE), .val (.int (1 : Int32)), .unset, .unset] [(.int (0 : Int32)), (.int (0 : Int32))])) _
        refine XS.iloadN X31.here hx rfl (hb hby at_86) rfl ?_
        show Steps p.tables e below (T31.setTop (mkF m 87 #[.val (.int p1), .val (.int p2), .val (.int (0 : Int32)), .val (.int (1 : Int32)), .val (.ref aFALSE), .val (.ref aTRUE), .val (.int (1 : Int32)), .unset, .unset] [(.int (1 : Int32)), (.int (0 : Int32)), (.int (0 : Int32))])) _
        refine XS.icmpYes X31.here hx rfl (pc0 := 87) (pc' := 94) rfl (hb hby at_87) rfl (XT.ii_ne_t (by decide)) (by decide) (by decide) ?_
        show Steps p.tables e below (T31.setTop (mkF m 94 #[.val (.int p1), .val (.int p2), .val (.int (0 : Int32)), .val (.int (1 : Int32)), .val (.ref aFALSE), .val (.ref aTRUE), .val (.int (1 : Int32)), .unset, .unset] [(.int (0 : Int32))])) _
        refine XS.iconst X31.here hx rfl (hb hby at_94) ?_
        show Steps p.tables e below (T31.setTop (mkF m 95 #[.val (.int p1), .val (.int p2), .val (.int (0 : Int32)), .val (.int (1 : Int32)), .val (.ref aFALSE), .val (.ref aTRUE), .val (.int (1 : Int32)), .unset, .unset] [(.int (0 : Int32)), (.int (0 : Int32))])) _
        refine XS.icmpNo X31.here hx rfl (hb hby at_95) rfl (XT.ii_ne_f (by decide)) ?_
        show Steps p.tables e below (T31.setTop (mkF m 98 #[.val (.int p1), .val (.int p2), .val (.int (0 : Int32)), .val (.int (1 : Int32)), .val (.ref aFALSE), .val (.ref aTRUE), .val (.int (1 : Int32)), .unset, .unset] [])) _
        refine XS.iconst X31.here hx rfl (hb hby at_98) ?_
        show Steps p.tables e below (T31.setTop (mkF m 99 #[.val (.int p1), .val (.int p2), .val (.int (0 : Int32)), .val (.int (1 : Int32)), .val (.ref aFALSE), .val (.ref aTRUE), .val (.int (1 : Int32)), .unset, .unset] [(.int (1 : Int32))])) _
        refine XS.goto X31.here hx rfl (pc0 := 99) (pc' := 103) rfl (hb hby at_99) (by decide) (by decide) ?_
        show Steps p.tables e below (T31.setTop (mkF m 103 #[.val (.int p1), .val (.int p2), .val (.int (0 : Int32)), .val (.int (1 : Int32)), .val (.ref aFALSE), .val (.ref aTRUE), .val (.int (1 : Int32)), .unset, .unset] [(.int (1 : Int32))])) _
        refine XS.istore X31.here hx rfl (hb hby at_103) rfl (l' := #[.val (.int p1), .val (.int p2), .val (.int (0 : Int32)), .val (.int (1 : Int32)), .val (.ref aFALSE), .val (.ref aTRUE), .val (.int (1 : Int32)), .val (.int (1 : Int32)), .unset]) rfl ?_
        show Steps p.tables e below (T31.setTop (mkF m 105 #[.val (.int p1), .val (.int p2), .val (.int (0 : Int32)), .val (.int (1 : Int32)), .val (.ref aFALSE), .val (.ref aTRUE), .val (.int (1 : Int32)), .val (.int (1 : Int32)), .unset] [])) _
        refine XS.aload X31.here hx rfl (hb hby at_105) rfl rfl ?_
        show Steps p.tables e below (T31.setTop (mkF m 107 #[.val (.int p1), .val (.int p2), .val (.int (0 : Int32)), .val (.int (1 : Int32)), .val (.ref aFALSE), .val (.ref aTRUE), .val (.int (1 : Int32)), .val (.int (1 : Int32)), .unset] [(.ref aFALSE)])) _
        refine XS.aload X31.here hx rfl (hb hby at_107) rfl rfl ?_
        show Steps p.tables e below (T31.setTop (mkF m 109 #[.val (.int p1), .val (.int p2), .val (.int (0 : Int32)), .val (.int (1 : Int32)), .val (.ref aFALSE), .val (.ref aTRUE), .val (.int (1 : Int32)), .val (.int (1 : Int32)), .unset] [(.ref aTRUE), (.ref aFALSE)])) _
        exact k
      obtain ⟨cq34, kq34, qa34, qb34, qc34⟩ := isOf hZ e31 (E_aFALSE.ext O0.2)
      obtain ⟨_, _, ⟨T34, L34, k34, n34⟩, -, X34, ⟨Lc34, hQ34, l34, y34, z34⟩, st34⟩ := X31.virtualBack hx (y := (⟨"com/example/foretell/foretell/core/BooleanValue", "equals", "(Ljava/lang/Object;)Z"⟩ : MethodName)) (z := (⟨"com/example/foretell/foretell/core/BooleanValue", "equals", "(Ljava/lang/Object;)Z"⟩ : MethodName)) hown (mvT hZ (hw _ (List.mem_of_getElem? (i := 15) rfl))) (mvT hZ (hw _ (List.mem_of_getElem? (i := 16) rfl))) (notFace_of_selects (args := #[]) (mvT hZ (hw _ (List.mem_of_getElem? (i := 18) rfl)))) (mvT hZ (hw _ (List.mem_of_getElem? (i := 18) rfl))) (mvT hZ (hw _ (List.mem_of_getElem? (i := 17) rfl))) (by decide) (backOf (W := 0) (rm_eq l Z a0 hw [] aFALSE aTRUE h0 n0 O0) hZ (hw _ (List.mem_of_getElem? (i := 19) rfl)) (hw _ (List.mem_of_getElem? (i := 2) rfl)) (by decide) (by decide)) qa34 qc34 (g := (mkF m 109 #[.val (.int p1), .val (.int p2), .val (.int (0 : Int32)), .val (.int (1 : Int32)), .val (.ref aFALSE), .val (.ref aTRUE), .val (.int (1 : Int32)), .val (.int (1 : Int32)), .unset] [(.ref aTRUE), (.ref aFALSE)])) rfl (by rw [hml]; rfl) (Steps.refl _) (argsL := [(.ref aTRUE)]) (rest := []) (lenOf pd_law_2 rfl) rfl (by show 2 * 0 + _ ≤ _; exact Nat.le_of_eq rfl) (hb hby at_109) (fun _ _ => ⟨rfl, e31, (by decide : 0 + 0 ≤ _), (by decide : 0 + 0 ≤ _)⟩)
      dsimp only [Pt.U, Pt.locs, Pt.cells, Pt.slots] at X34 l34 y34 z34 st34 hQ34
      subst l34 y34 z34
      obtain ⟨rfl, N34q, e34⟩ := hQ34
      have N34 := Fr.app N31 N34q
      have pre_35 : ∀ t, Steps p.tables e below (T34.setTop (mkF m 112 #[.val (.int p1), .val (.int p2), .val (.int (0 : Int32)), .val (.int (1 : Int32)), .val (.ref aFALSE), .val (.ref aTRUE), .val (.int (1 : Int32)), .val (.int (1 : Int32)), .unset] [(.int (if aFALSE = aTRUE then (1 : Int32) else (0 : Int32)))])) t → Steps p.tables e below (s₁.setTop (entryFrame m #[(.int p1), (.int p2)] maxLocals)) t := fun t k => pre_33 t (st34.trans k)
      have pre_36 : ∀ t, Steps p.tables e below (T34.setTop (mkF m 152 #[.val (.int p1), .val (.int p2), .val (.int (0 : Int32)), .val (.int (1 : Int32)), .val (.ref aFALSE), .val (.ref aTRUE), .val (.int (1 : Int32)), .val (.int (1 : Int32)), .val (.int (1 : Int32))] [(.int (1 : Int32))])) t → Steps p.tables e below (s₁.setTop (entryFrame m #[(.int p1), (.int p2)] maxLocals)) t := by
        intro t k
        refine pre_35 t ?_
        show Steps p.tables e below (T34.setTop (mkF m 112 #[.val (.int p1), .val (.int p2), .val (.int (0 : Int32)), .val (.int (1 : Int32)), .val (.ref aFALSE), .val (.ref aTRUE), .val (.int (1 : Int32)), .val (.int (1 : Int32)), .unset] [(.int (if aFALSE = aTRUE then (1 : Int32) else (0 : Int32)))])) _
        refine XS.iloadN X34.here hx rfl (hb hby at_112) rfl ?_
        show Steps p.tables e below (T34.setTop (mkF m 113 #[.val (.int p1), .val (.int p2), .val (.int (0 : Int32)), .val (.int (1 : Int32)), .val (.ref aFALSE), .val (.ref aTRUE), .val (.int (1 : Int32)), .val (.int (1 : Int32)), .unset] [(.int (0 : Int32)), (.int (if aFALSE = aTRUE then (1 : Int32) else (0 : Int32)))])) _
        refine XS.iloadN X34.here hx rfl (hb hby at_113) rfl ?_
        show Steps p.tables e below (T34.setTop (mkF m 114 #[.val (.int p1), .val (.int p2), .val (.int (0 : Int32)), .val (.int (1 : Int32)), .val (.ref aFALSE), .val (.ref aTRUE), .val (.int (1 : Int32)), .val (.int (1 : Int32)), .unset] [(.int (1 : Int32)), (.int (0 : Int32)), (.int (if aFALSE = aTRUE then (1 : Int32) else (0 : Int32)))])) _
        refine XS.icmpYes X34.here hx rfl (pc0 := 114) (pc' := 121) rfl (hb hby at_114) rfl (XT.ii_ne_t (by decide)) (by decide) (by decide) ?_
        show Steps p.tables e below (T34.setTop (mkF m 121 #[.val (.int p1), .val (.int p2), .val (.int (0 : Int32)), .val (.int (1 : Int32)), .val (.ref aFALSE), .val (.ref aTRUE), .val (.int (1 : Int32)), .val (.int (1 : Int32)), .unset] [(.int (if aFALSE = aTRUE then (1 : Int32) else (0 : Int32)))])) _
        refine XS.iconst X34.here hx rfl (hb hby at_121) ?_
        show Steps p.tables e below (T34.setTop (mkF m 122 #[.val (.int p1), .val (.int p2), .val (.int (0 : Int32)), .val (.int (1 : Int32)), .val (.ref aFALSE), .val (.ref aTRUE), .val (.int (1 : Int32)), .val (.int (1 : Int32)), .unset] [(.int (0 : Int32)), (.int (if aFALSE = aTRUE then (1 : Int32) else (0 : Int32)))])) _
        refine XS.icmpNo X34.here hx rfl (hb hby at_122) rfl (XT.ii_ne_f (by simp only [if_neg neFT] <;> decide)) ?_
        show Steps p.tables e below (T34.setTop (mkF m 125 #[.val (.int p1), .val (.int p2), .val (.int (0 : Int32)), .val (.int (1 : Int32)), .val (.ref aFALSE), .val (.ref aTRUE), .val (.int (1 : Int32)), .val (.int (1 : Int32)), .unset] [])) _
        refine XS.iconst X34.here hx rfl (hb hby at_125) ?_
        show Steps p.tables e below (T34.setTop (mkF m 126 #[.val (.int p1), .val (.int p2), .val (.int (0 : Int32)), .val (.int (1 : Int32)), .val (.ref aFALSE), .val (.ref aTRUE), .val (.int (1 : Int32)), .val (.int (1 : Int32)), .unset] [(.int (1 : Int32))])) _
        refine XS.goto X34.here hx rfl (pc0 := 126) (pc' := 130) rfl (hb hby at_126) (by decide) (by decide) ?_
        show Steps p.tables e below (T34.setTop (mkF m 130 #[.val (.int p1), .val (.int p2), .val (.int (0 : Int32)), .val (.int (1 : Int32)), .val (.ref aFALSE), .val (.ref aTRUE), .val (.int (1 : Int32)), .val (.int (1 : Int32)), .unset] [(.int (1 : Int32))])) _
        refine XS.istore X34.here hx rfl (hb hby at_130) rfl (l' := #[.val (.int p1), .val (.int p2), .val (.int (0 : Int32)), .val (.int (1 : Int32)), .val (.ref aFALSE), .val (.ref aTRUE), .val (.int (1 : Int32)), .val (.int (1 : Int32)), .val (.int (1 : Int32))]) rfl ?_
        show Steps p.tables e below (T34.setTop (mkF m 132 #[.val (.int p1), .val (.int p2), .val (.int (0 : Int32)), .val (.int (1 : Int32)), .val (.ref aFALSE), .val (.ref aTRUE), .val (.int (1 : Int32)), .val (.int (1 : Int32)), .val (.int (1 : Int32))] [])) _
        refine XS.iload X34.here hx rfl (hb hby at_132) rfl ?_
        show Steps p.tables e below (T34.setTop (mkF m 134 #[.val (.int p1), .val (.int p2), .val (.int (0 : Int32)), .val (.int (1 : Int32)), .val (.ref aFALSE), .val (.ref aTRUE), .val (.int (1 : Int32)), .val (.int (1 : Int32)), .val (.int (1 : Int32))] [(.int (1 : Int32))])) _
        refine XS.ifNo X34.here hx rfl (hb hby at_134) rfl (XT.i0_eq_f (by decide)) ?_
        show Steps p.tables e below (T34.setTop (mkF m 137 #[.val (.int p1), .val (.int p2), .val (.int (0 : Int32)), .val (.int (1 : Int32)), .val (.ref aFALSE), .val (.ref aTRUE), .val (.int (1 : Int32)), .val (.int (1 : Int32)), .val (.int (1 : Int32))] [])) _
        refine XS.iload X34.here hx rfl (hb hby at_137) rfl ?_
        show Steps p.tables e below (T34.setTop (mkF m 139 #[.val (.int p1), .val (.int p2), .val (.int (0 : Int32)), .val (.int (1 : Int32)), .val (.ref aFALSE), .val (.ref aTRUE), .val (.int (1 : Int32)), .val (.int (1 : Int32)), .val (.int (1 : Int32))] [(.int (1 : Int32))])) _
        refine XS.ifNo X34.here hx rfl (hb hby at_139) rfl (XT.i0_eq_f (by decide)) ?_
        show Steps p.tables e below (T34.setTop (mkF m 142 #[.val (.int p1), .val (.int p2), .val (.int (0 : Int32)), .val (.int (1 : Int32)), .val (.ref aFALSE), .val (.ref aTRUE), .val (.int (1 : Int32)), .val (.int (1 : Int32)), .val (.int (1 : Int32))] [])) _
        refine XS.iload X34.here hx rfl (hb hby at_142) rfl ?_
        show Steps p.tables e below (T34.setTop (mkF m 144 #[.val (.int p1), .val (.int p2), .val (.int (0 : Int32)), .val (.int (1 : Int32)), .val (.ref aFALSE), .val (.ref aTRUE), .val (.int (1 : Int32)), .val (.int (1 : Int32)), .val (.int (1 : Int32))] [(.int (1 : Int32))])) _
        refine XS.ifNo X34.here hx rfl (hb hby at_144) rfl (XT.i0_eq_f (by decide)) ?_
        show Steps p.tables e below (T34.setTop (mkF m 147 #[.val (.int p1), .val (.int p2), .val (.int (0 : Int32)), .val (.int (1 : Int32)), .val (.ref aFALSE), .val (.ref aTRUE), .val (.int (1 : Int32)), .val (.int (1 : Int32)), .val (.int (1 : Int32))] [])) _
        refine XS.iconst X34.here hx rfl (hb hby at_147) ?_
        show Steps p.tables e below (T34.setTop (mkF m 148 #[.val (.int p1), .val (.int p2), .val (.int (0 : Int32)), .val (.int (1 : Int32)), .val (.ref aFALSE), .val (.ref aTRUE), .val (.int (1 : Int32)), .val (.int (1 : Int32)), .val (.int (1 : Int32))] [(.int (1 : Int32))])) _
        refine XS.goto X34.here hx rfl (pc0 := 148) (pc' := 152) rfl (hb hby at_148) (by decide) (by decide) ?_
        show Steps p.tables e below (T34.setTop (mkF m 152 #[.val (.int p1), .val (.int p2), .val (.int (0 : Int32)), .val (.int (1 : Int32)), .val (.ref aFALSE), .val (.ref aTRUE), .val (.int (1 : Int32)), .val (.int (1 : Int32)), .val (.int (1 : Int32))] [(.int (1 : Int32))])) _
        exact k
      obtain ⟨fs, hr, hrun, hended, hW, hsame⟩ := X34.leave (v := some (.int (1 : Int32))) (fun h => by rw [Bd.returns] at h; cases h)
      refine ⟨_, _, pre_36 _ ?_, hrun, hended, _, _, rfl, ?_, ⟨_, rfl⟩, hW, hsame.mono (by decide) (by decide)⟩
      · show Steps p.tables e below (T34.setTop (mkF m 152 #[.val (.int p1), .val (.int p2), .val (.int (0 : Int32)), .val (.int (1 : Int32)), .val (.ref aFALSE), .val (.ref aTRUE), .val (.int (1 : Int32)), .val (.int (1 : Int32)), .val (.int (1 : Int32))] [(.int (1 : Int32))])) _
        exact retN X34 hx (t := .boolean) Bd.returns (by simp) (hb hby at_152) hr
      · show Q_law Z p1 p2 aFALSE aTRUE h0 n0 _ T34.heap _
        rw [e34]
        exact ⟨rfl, N34⟩
  · skip
    have pre_37 : ∀ t, Steps p.tables e below (s₁.setTop (mkF m 15 #[.val (.int p1), .val (.int p2), .val (.int (1 : Int32)), .unset, .unset, .unset, .unset, .unset, .unset] [(.int (p2 &&& (1 : Int32)))])) t → Steps p.tables e below (s₁.setTop (entryFrame m #[(.int p1), (.int p2)] maxLocals)) t := by
      intro t k
      refine pre_1 t ?_
      show Steps p.tables e below (s₁.setTop (mkF m 3 #[.val (.int p1), .val (.int p2), .unset, .unset, .unset, .unset, .unset, .unset, .unset] [(.int (p1 &&& (1 : Int32)))])) _
      refine XS.ifNo X0.here hx rfl (hb hby at_3) rfl (XT.i0_eq_f hc2) ?_
      show Steps p.tables e below (s₁.setTop (mkF m 6 #[.val (.int p1), .val (.int p2), .unset, .unset, .unset, .unset, .unset, .unset, .unset] [])) _
      refine XS.iconst X0.here hx rfl (hb hby at_6) ?_
      show Steps p.tables e below (s₁.setTop (mkF m 7 #[.val (.int p1), .val (.int p2), .unset, .unset, .unset, .unset, .unset, .unset, .unset] [(.int (1 : Int32))])) _
      refine XS.goto X0.here hx rfl (pc0 := 7) (pc' := 11) rfl (hb hby at_7) (by decide) (by decide) ?_
      show Steps p.tables e below (s₁.setTop (mkF m 11 #[.val (.int p1), .val (.int p2), .unset, .unset, .unset, .unset, .unset, .unset, .unset] [(.int (1 : Int32))])) _
      refine XS.istoreN X0.here hx rfl (hb hby at_11) rfl (l' := #[.val (.int p1), .val (.int p2), .val (.int (1 : Int32)), .unset, .unset, .unset, .unset, .unset, .unset]) rfl ?_
      show Steps p.tables e below (s₁.setTop (mkF m 12 #[.val (.int p1), .val (.int p2), .val (.int (1 : Int32)), .unset, .unset, .unset, .unset, .unset, .unset] [])) _
      refine XS.iloadN X0.here hx rfl (hb hby at_12) rfl ?_
      show Steps p.tables e below (s₁.setTop (mkF m 13 #[.val (.int p1), .val (.int p2), .val (.int (1 : Int32)), .unset, .unset, .unset, .unset, .unset, .unset] [(.int p2)])) _
      refine XS.iconst X0.here hx rfl (hb hby at_13) ?_
      show Steps p.tables e below (s₁.setTop (mkF m 14 #[.val (.int p1), .val (.int p2), .val (.int (1 : Int32)), .unset, .unset, .unset, .unset, .unset, .unset] [(.int (1 : Int32)), (.int p2)])) _
      refine XS.iand X0.here hx rfl (hb hby at_14) rfl ?_
      show Steps p.tables e below (s₁.setTop (mkF m 15 #[.val (.int p1), .val (.int p2), .val (.int (1 : Int32)), .unset, .unset, .unset, .unset, .unset, .unset] [(.int (p2 &&& (1 : Int32)))])) _
      exact k
    by_cases hc38 : (p2 &&& (1 : Int32)) = (0 : Int32)
    · skip
      have pre_39 : ∀ t, Steps p.tables e below (s₁.setTop (mkF m 25 #[.val (.int p1), .val (.int p2), .val (.int (1 : Int32)), .val (.int (0 : Int32)), .unset, .unset, .unset, .unset, .unset] [(.int (1 : Int32))])) t → Steps p.tables e below (s₁.setTop (entryFrame m #[(.int p1), (.int p2)] maxLocals)) t := by
        intro t k
        refine pre_37 t ?_
        show Steps p.tables e below (s₁.setTop (mkF m 15 #[.val (.int p1), .val (.int p2), .val (.int (1 : Int32)), .unset, .unset, .unset, .unset, .unset, .unset] [(.int (p2 &&& (1 : Int32)))])) _
        refine XS.ifYes X0.here hx rfl (pc0 := 15) (pc' := 22) rfl (hb hby at_15) rfl (XT.i0_eq_t hc38) (by decide) (by decide) ?_
        show Steps p.tables e below (s₁.setTop (mkF m 22 #[.val (.int p1), .val (.int p2), .val (.int (1 : Int32)), .unset, .unset, .unset, .unset, .unset, .unset] [])) _
        refine XS.iconst X0.here hx rfl (hb hby at_22) ?_
        show Steps p.tables e below (s₁.setTop (mkF m 23 #[.val (.int p1), .val (.int p2), .val (.int (1 : Int32)), .unset, .unset, .unset, .unset, .unset, .unset] [(.int (0 : Int32))])) _
        refine XS.istoreN X0.here hx rfl (hb hby at_23) rfl (l' := #[.val (.int p1), .val (.int p2), .val (.int (1 : Int32)), .val (.int (0 : Int32)), .unset, .unset, .unset, .unset, .unset]) rfl ?_
        show Steps p.tables e below (s₁.setTop (mkF m 24 #[.val (.int p1), .val (.int p2), .val (.int (1 : Int32)), .val (.int (0 : Int32)), .unset, .unset, .unset, .unset, .unset] [])) _
        refine XS.iloadN X0.here hx rfl (hb hby at_24) rfl ?_
        show Steps p.tables e below (s₁.setTop (mkF m 25 #[.val (.int p1), .val (.int p2), .val (.int (1 : Int32)), .val (.int (0 : Int32)), .unset, .unset, .unset, .unset, .unset] [(.int (1 : Int32))])) _
        exact k
      obtain ⟨_, _, ⟨T40, L40, k40, n40⟩, -, X40, ⟨Lc40, hQ40, l40, y40, z40⟩, st40⟩ := Jvm.LawKit.callS X0 hx (y := (⟨"com/example/foretell/foretell/core/BooleanValue", "of", "(Z)Lcom/example/foretell/foretell/core/BooleanValue;"⟩ : MethodName)) hown (mvT hZ (hw _ (List.mem_of_getElem? (i := 0) rfl))) (mvT hZ (hw _ (List.mem_of_getElem? (i := 1) rfl))) (mvT hZ (hw _ (List.mem_of_getElem? (i := 2) rfl))) (mvT hZ (hw _ (List.mem_of_getElem? (i := 3) rfl))) (by decide) (backOf (W := 0) (rm_of1 l Z a0 hw [] aTRUE h0 n0 O0 S_aTRUE) hZ (hw _ (List.mem_of_getElem? (i := 3) rfl)) (hw _ (List.mem_of_getElem? (i := 2) rfl)) (by decide) (by decide)) (g := (mkF m 25 #[.val (.int p1), .val (.int p2), .val (.int (1 : Int32)), .val (.int (0 : Int32)), .unset, .unset, .unset, .unset, .unset] [(.int (1 : Int32))])) rfl (by rw [hml]; rfl) (argsL := [(.int (1 : Int32))]) (rest := []) (lenOf pd_law_0 rfl) rfl (by show 2 * 0 + _ ≤ _; exact Nat.le_of_eq rfl) (hb hby at_25) (fun _ _ => ⟨rfl, e0, (by decide : 0 + 0 ≤ _), (by decide : 0 + 0 ≤ _)⟩)
      dsimp only [Pt.U, Pt.locs, Pt.cells, Pt.slots] at X40 l40 y40 z40 st40 hQ40
      subst l40 y40 z40
      obtain ⟨rfl, N40q, e40⟩ := hQ40
      have N40 := Fr.app N0 N40q
      have pre_41 : ∀ t, Steps p.tables e below (T40.setTop (mkF m 28 #[.val (.int p1), .val (.int p2), .val (.int (1 : Int32)), .val (.int (0 : Int32)), .unset, .unset, .unset, .unset, .unset] [(.ref aTRUE)])) t → Steps p.tables e below (s₁.setTop (entryFrame m #[(.int p1), (.int p2)] maxLocals)) t := fun t k => pre_39 t (st40 t k)
      have pre_42 : ∀ t, Steps p.tables e below (T40.setTop (mkF m 31 #[.val (.int p1), .val (.int p2), .val (.int (1 : Int32)), .val (.int (0 : Int32)), .val (.ref aTRUE), .unset, .unset, .unset, .unset] [(.int (0 : Int32))])) t → Steps p.tables e below (s₁.setTop (entryFrame m #[(.int p1), (.int p2)] maxLocals)) t := by
        intro t k
        refine pre_41 t ?_
        show Steps p.tables e below (T40.setTop (mkF m 28 #[.val (.int p1), .val (.int p2), .val (.int (1 : Int32)), .val (.int (0 : Int32)), .unset, .unset, .unset, .unset, .unset] [(.ref aTRUE)])) _
        refine XS.astore X40.here hx rfl (hb hby at_28) rfl rfl (l' := #[.val (.int p1), .val (.int p2), .val (.int (1 : Int32)), .val (.int (0 : Int32)), .val (.ref aTRUE), .unset, .unset, .unset, .unset]) rfl ?_
        show Steps p.tables e below (T40.setTop (mkF m 30 #[.val (.int p1), .val (.int p2), .val (.int (1 : Int32)), .val (.int (0 : Int32)), .val (.ref aTRUE), .unset, .unset, .unset, .unset] [])) _
        refine XS.iloadN X40.here hx rfl (hb hby at_30) rfl ?_
        show Steps p.tables e below (T40.setTop (mkF m 31 #[.val (.int p1), .val (.int p2), .val (.int (1 : Int32)), .val (.int (0 : Int32)), .val (.ref aTRUE), .unset, .unset, .unset, .unset] [(.int (0 : Int32))])) _
        exact k
      obtain ⟨_, _, ⟨T43, L43, k43, n43⟩, -, X43, ⟨Lc43, hQ43, l43, y43, z43⟩, st43⟩ := Jvm.LawKit.callS X40 hx (y := (⟨"com/example/foretell/foretell/core/BooleanValue", "of", "(Z)Lcom/example/foretell/foretell/core/BooleanValue;"⟩ : MethodName)) hown (mvT hZ (hw _ (List.mem_of_getElem? (i := 0) rfl))) (mvT hZ (hw _ (List.mem_of_getElem? (i := 1) rfl))) (mvT hZ (hw _ (List.mem_of_getElem? (i := 2) rfl))) (mvT hZ (hw _ (List.mem_of_getElem? (i := 3) rfl))) (by decide) (backOf (W := 0) (rm_of0 l Z a0 hw [] aFALSE h0 n0 O0 S_aFALSE) hZ (hw _ (List.mem_of_getElem? (i := 3) rfl)) (hw _ (List.mem_of_getElem? (i := 2) rfl)) (by decide) (by decide)) (g := (mkF m 31 #[.val (.int p1), .val (.int p2), .val (.int (1 : Int32)), .val (.int (0 : Int32)), .val (.ref aTRUE), .unset, .unset, .unset, .unset] [(.int (0 : Int32))])) rfl (by rw [hml]; rfl) (argsL := [(.int (0 : Int32))]) (rest := []) (lenOf pd_law_0 rfl) rfl (by show 2 * 0 + _ ≤ _; exact Nat.le_of_eq rfl) (hb hby at_31) (fun _ _ => ⟨rfl, e40, (by decide : 0 + 0 ≤ _), (by decide : 0 + 0 ≤ _)⟩)
      dsimp only [Pt.U, Pt.locs, Pt.cells, Pt.slots] at X43 l43 y43 z43 st43 hQ43
      subst l43 y43 z43
      obtain ⟨rfl, N43q, e43⟩ := hQ43
      have N43 := Fr.app N40 N43q
      have pre_44 : ∀ t, Steps p.tables e below (T43.setTop (mkF m 34 #[.val (.int p1), .val (.int p2), .val (.int (1 : Int32)), .val (.int (0 : Int32)), .val (.ref aTRUE), .unset, .unset, .unset, .unset] [(.ref aFALSE)])) t → Steps p.tables e below (s₁.setTop (entryFrame m #[(.int p1), (.int p2)] maxLocals)) t := fun t k => pre_42 t (st43 t k)
      have pre_45 : ∀ t, Steps p.tables e below (T43.setTop (mkF m 50 #[.val (.int p1), .val (.int p2), .val (.int (1 : Int32)), .val (.int (0 : Int32)), .val (.ref aTRUE), .val (.ref aFALSE), .unset, .unset, .unset] [(.ref aTRUE)])) t → Steps p.tables e below (s₁.setTop (entryFrame m #[(.int p1), (.int p2)] maxLocals)) t := by
        intro t k
        refine pre_44 t ?_
        show Steps p.tables e below (T43.setTop (mkF m 34 #[.val (.int p1), .val (.int p2), .val (.int (1 : Int32)), .val (.int (0 : Int32)), .val (.ref aTRUE), .unset, .unset, .unset, .unset] [(.ref aFALSE)])) _
        refine XS.astore X43.here hx rfl (hb hby at_34) rfl rfl (l' := #[.val (.int p1), .val (.int p2), .val (.int (1 : Int32)), .val (.int (0 : Int32)), .val (.ref aTRUE), .val (.ref aFALSE), .unset, .unset, .unset]) rfl ?_
        show Steps p.tables e below (T43.setTop (mkF m 36 #[.val (.int p1), .val (.int p2), .val (.int (1 : Int32)), .val (.int (0 : Int32)), .val (.ref aTRUE), .val (.ref aFALSE), .unset, .unset, .unset] [])) _
        refine XS.aload X43.here hx rfl (hb hby at_36) rfl rfl ?_
        show Steps p.tables e below (T43.setTop (mkF m 38 #[.val (.int p1), .val (.int p2), .val (.int (1 : Int32)), .val (.int (0 : Int32)), .val (.ref aTRUE), .val (.ref aFALSE), .unset, .unset, .unset] [(.ref aTRUE)])) _
        refine XS.ifnullNo X43.here hx rfl (hb hby at_38) rfl ?_
        show Steps p.tables e below (T43.setTop (mkF m 41 #[.val (.int p1), .val (.int p2), .val (.int (1 : Int32)), .val (.int (0 : Int32)), .val (.ref aTRUE), .val (.ref aFALSE), .unset, .unset, .unset] [])) _
        refine XS.aload X43.here hx rfl (hb hby at_41) rfl rfl ?_
        show Steps p.tables e below (T43.setTop (mkF m 43 #[.val (.int p1), .val (.int p2), .val (.int (1 : Int32)), .val (.int (0 : Int32)), .val (.ref aTRUE), .val (.ref aFALSE), .unset, .unset, .unset] [(.ref aFALSE)])) _
        refine XT.ifnonnullYes X43.here hx rfl (pc0 := 43) (pc' := 48) rfl (hb hby at_43) rfl (by decide) (by decide) ?_
        show Steps p.tables e below (T43.setTop (mkF m 48 #[.val (.int p1), .val (.int p2), .val (.int (1 : Int32)), .val (.int (0 : Int32)), .val (.ref aTRUE), .val (.ref aFALSE), .unset, .unset, .unset] [])) _
        refine XS.aload X43.here hx rfl (hb hby at_48) rfl rfl ?_
        show Steps p.tables e below (T43.setTop (mkF m 50 #[.val (.int p1), .val (.int p2), .val (.int (1 : Int32)), .val (.int (0 : Int32)), .val (.ref aTRUE), .val (.ref aFALSE), .unset, .unset, .unset] [(.ref aTRUE)])) _
        exact k
      obtain ⟨cq46, kq46, qa46, qb46, qc46⟩ := isOf hZ e43 (E_aTRUE.ext O0.2)
      obtain ⟨_, _, ⟨T46, L46, k46, n46⟩, -, X46, ⟨Lc46, hQ46, l46, y46, z46⟩, st46⟩ := X43.virtualBack hx (y := (⟨"com/example/foretell/foretell/core/BooleanValue", "value", "()Z"⟩ : MethodName)) (z := (⟨"com/example/foretell/foretell/core/BooleanValue", "value", "()Z"⟩ : MethodName)) hown (mvT hZ (hw _ (List.mem_of_getElem? (i := 8) rfl))) (mvT hZ (hw _ (List.mem_of_getElem? (i := 9) rfl))) (notFace_of_selects (args := #[]) (mvT hZ (hw _ (List.mem_of_getElem? (i := 11) rfl)))) (mvT hZ (hw _ (List.mem_of_getElem? (i := 11) rfl))) (mvT hZ (hw _ (List.mem_of_getElem? (i := 10) rfl))) (by decide) (backOf (W := 0) (rm_val1 l Z a0 hw [] aTRUE h0 n0 O0 (F_aTRUE_value.ext O0.2)) hZ (hw _ (List.mem_of_getElem? (i := 12) rfl)) (hw _ (List.mem_of_getElem? (i := 2) rfl)) (by decide) (by decide)) qa46 qc46 (g := (mkF m 50 #[.val (.int p1), .val (.int p2), .val (.int (1 : Int32)), .val (.int (0 : Int32)), .val (.ref aTRUE), .val (.ref aFALSE), .unset, .unset, .unset] [(.ref aTRUE)])) rfl (by rw [hml]; rfl) (Steps.refl _) (argsL := []) (rest := []) (lenOf pd_law_1 rfl) rfl (by show 2 * 0 + _ ≤ _; exact Nat.le_of_eq rfl) (hb hby at_50) (fun _ _ => ⟨rfl, e43, (by decide : 0 + 0 ≤ _), (by decide : 0 + 0 ≤ _)⟩)
      dsimp only [Pt.U, Pt.locs, Pt.cells, Pt.slots] at X46 l46 y46 z46 st46 hQ46
      subst l46 y46 z46
      obtain ⟨rfl, N46q, e46⟩ := hQ46
      have N46 := Fr.app N43 N46q
      have pre_47 : ∀ t, Steps p.tables e below (T46.setTop (mkF m 53 #[.val (.int p1), .val (.int p2), .val (.int (1 : Int32)), .val (.int (0 : Int32)), .val (.ref aTRUE), .val (.ref aFALSE), .unset, .unset, .unset] [(.int (1 : Int32))])) t → Steps p.tables e below (s₁.setTop (entryFrame m #[(.int p1), (.int p2)] maxLocals)) t := fun t k => pre_45 t (st46.trans k)
      have pre_48 : ∀ t, Steps p.tables e below (T46.setTop (mkF m 59 #[.val (.int p1), .val (.int p2), .val (.int (1 : Int32)), .val (.int (0 : Int32)), .val (.ref aTRUE), .val (.ref aFALSE), .unset, .unset, .unset] [(.ref aFALSE)])) t → Steps p.tables e below (s₁.setTop (entryFrame m #[(.int p1), (.int p2)] maxLocals)) t := by
        intro t k
        refine pre_47 t ?_
        show Steps p.tables e below (T46.setTop (mkF m 53 #[.val (.int p1), .val (.int p2), .val (.int (1 : Int32)), .val (.int (0 : Int32)), .val (.ref aTRUE), .val (.ref aFALSE), .unset, .unset, .unset] [(.int (1 : Int32))])) _
        refine XS.iloadN X46.here hx rfl (hb hby at_53) rfl ?_
        show Steps p.tables e below (T46.setTop (mkF m 54 #[.val (.int p1), .val (.int p2), .val (.int (1 : Int32)), .val (.int (0 : Int32)), .val (.ref aTRUE), .val (.ref aFALSE), .unset, .unset, .unset] [(.int (1 : Int32)), (.int (1 : Int32))])) _
        refine XS.icmpNo X46.here hx rfl (hb hby at_54) rfl (XT.ii_ne_f (by decide)) ?_
        show Steps p.tables e below (T46.setTop (mkF m 57 #[.val (.int p1), .val (.int p2), .val (.int (1 : Int32)), .val (.int (0 : Int32)), .val (.ref aTRUE), .val (.ref aFALSE), .unset, .unset, .unset] [])) _
        refine XS.aload X46.here hx rfl (hb hby at_57) rfl rfl ?_
        show Steps p.tables e below (T46.setTop (mkF m 59 #[.val (.int p1), .val (.int p2), .val (.int (1 : Int32)), .val (.int (0 : Int32)), .val (.ref aTRUE), .val (.ref aFALSE), .unset, .unset, .unset] [(.ref aFALSE)])) _
        exact k
      obtain ⟨cq49, kq49, qa49, qb49, qc49⟩ := isOf hZ e46 (E_aFALSE.ext O0.2)
      obtain ⟨_, _, ⟨T49, L49, k49, n49⟩, -, X49, ⟨Lc49, hQ49, l49, y49, z49⟩, st49⟩ := X46.virtualBack hx (y := (⟨"com/example/foretell/foretell/core/BooleanValue", "value", "()Z"⟩ : MethodName)) (z := (⟨"com/example/foretell/foretell/core/BooleanValue", "value", "()Z"⟩ : MethodName)) hown (mvT hZ (hw _ (List.mem_of_getElem? (i := 8) rfl))) (mvT hZ (hw _ (List.mem_of_getElem? (i := 9) rfl))) (notFace_of_selects (args := #[]) (mvT hZ (hw _ (List.mem_of_getElem? (i := 11) rfl)))) (mvT hZ (hw _ (List.mem_of_getElem? (i := 11) rfl))) (mvT hZ (hw _ (List.mem_of_getElem? (i := 10) rfl))) (by decide) (backOf (W := 0) (rm_val0 l Z a0 hw [] aFALSE h0 n0 O0 (F_aFALSE_value.ext O0.2)) hZ (hw _ (List.mem_of_getElem? (i := 12) rfl)) (hw _ (List.mem_of_getElem? (i := 2) rfl)) (by decide) (by decide)) qa49 qc49 (g := (mkF m 59 #[.val (.int p1), .val (.int p2), .val (.int (1 : Int32)), .val (.int (0 : Int32)), .val (.ref aTRUE), .val (.ref aFALSE), .unset, .unset, .unset] [(.ref aFALSE)])) rfl (by rw [hml]; rfl) (Steps.refl _) (argsL := []) (rest := []) (lenOf pd_law_1 rfl) rfl (by show 2 * 0 + _ ≤ _; exact Nat.le_of_eq rfl) (hb hby at_59) (fun _ _ => ⟨rfl, e46, (by decide : 0 + 0 ≤ _), (by decide : 0 + 0 ≤ _)⟩)
      dsimp only [Pt.U, Pt.locs, Pt.cells, Pt.slots] at X49 l49 y49 z49 st49 hQ49
      subst l49 y49 z49
      obtain ⟨rfl, N49q, e49⟩ := hQ49
      have N49 := Fr.app N46 N49q
      have pre_50 : ∀ t, Steps p.tables e below (T49.setTop (mkF m 62 #[.val (.int p1), .val (.int p2), .val (.int (1 : Int32)), .val (.int (0 : Int32)), .val (.ref aTRUE), .val (.ref aFALSE), .unset, .unset, .unset] [(.int (0 : Int32))])) t → Steps p.tables e below (s₁.setTop (entryFrame m #[(.int p1), (.int p2)] maxLocals)) t := fun t k => pre_48 t (st49.trans k)
      have pre_51 : ∀ t, Steps p.tables e below (T49.setTop (mkF m 109 #[.val (.int p1), .val (.int p2), .val (.int (1 : Int32)), .val (.int (0 : Int32)), .val (.ref aTRUE), .val (.ref aFALSE), .val (.int (1 : Int32)), .val (.int (1 : Int32)), .unset] [(.ref aFALSE), (.ref aTRUE)])) t → Steps p.tables e below (s₁.setTop (entryFrame m #[(.int p1), (.int p2)] maxLocals)) t := by
        intro t k
        refine pre_50 t ?_
        show Steps p.tables e below (T49.setTop (mkF m 62 #[.val (.int p1), .val (.int p2), .val (.int (1 : Int32)), .val (.int (0 : Int32)), .val (.ref aTRUE), .val (.ref aFALSE), .unset, .unset, .unset] [(.int (0 : Int32))])) _
        refine XS.iloadN X49.here hx rfl (hb hby at_62) rfl ?_
        show Steps p.tables e below (T49.setTop (mkF m 63 #[.val (.int p1), .val (.int p2), .val (.int (1 : Int32)), .val (.int (0 : Int32)), .val (.ref aTRUE), .val (.ref aFALSE), .unset, .unset, .unset] [(.int (0 : Int32)), (.int (0 : Int32))])) _
        refine XS.icmpNo X49.here hx rfl (hb hby at_63) rfl (XT.ii_ne_f (by decide)) ?_
        show Steps p.tables e below (T49.setTop (mkF m 66 #[.val (.int p1), .val (.int p2), .val (.int (1 : Int32)), .val (.int (0 : Int32)), .val (.ref aTRUE), .val (.ref aFALSE), .unset, .unset, .unset] [])) _
        refine XS.iconst X49.here hx rfl (hb hby at_66) ?_
        show Steps p.tables e below (T49.setTop (mkF m 67 #[.val (.int p1), .val (.int p2), .val (.int (1 : Int32)), .val (.int (0 : Int32)), .val (.ref aTRUE), .val (.ref aFALSE), .unset, .unset, .unset] [(.int (1 : Int32))])) _
        refine XS.goto X49.here hx rfl (pc0 := 67) (pc' := 71) rfl (hb hby at_67) (by decide) (by decide) ?_
        show Steps p.tables e below (T49.setTop (mkF m 71 #[.val (.int p1), .val (.int p2), .val (.int (1 : Int32)), .val (.int (0 : Int32)), .val (.ref aTRUE), .val (.ref aFALSE), .unset, .unset, .unset] [(.int (1 : Int32))])) _
        refine XS.istore X49.here hx rfl (hb hby at_71) rfl (l' := #[.val (.int p1), .val (.int p2), .val (.int (1 : Int32)), .val (.int (0 : Int32)), .val (.ref aTRUE), .val (.ref aFALSE), .val (.int (1 : Int32)), .unset, .unset]) rfl ?_
        show Steps p.tables e below (T49.setTop (mkF m 73 #[.val (.int p1), .val (.int p2), .val (.int (1 : Int32)), .val (.int (0 : Int32)), .val (.ref aTRUE), .val (.ref aFALSE), .val (.int (1 : Int32)), .unset, .unset] [])) _
        refine XS.aload X49.here hx rfl (hb hby at_73) rfl rfl ?_
        show Steps p.tables e below (T49.setTop (mkF m 75 #[.val (.int p1), .val (.int p2), .val (.int (1 : Int32)), .val (.int (0 : Int32)), .val (.ref aTRUE), .val (.ref aFALSE), .val (.int (1 : Int32)), .unset, .unset] [(.ref aTRUE)])) _
        refine XS.aload X49.here hx rfl (hb hby at_75) rfl rfl ?_
        show Steps p.tables e below (T49.setTop (mkF m 77 #[.val (.int p1), .val (.int p2), .val (.int (1 : Int32)), .val (.int (0 : Int32)), .val (.ref aTRUE), .val (.ref aFALSE), .val (.int (1 : Int32)), .unset, .unset] [(.ref aFALSE), (.ref aTRUE)])) _
        refine XT.acmpYes X49.here hx rfl (pc0 := 77) (pc' := 84) rfl (hb hby at_77) rfl rfl rfl (XT.aa_ne_t (fun q => (Ne.symm neFT : ¬ aTRUE = aFALSE) (Value.ref.inj q))) (by decide) (by decide) ?_
        show Steps p.tables e below (T49.setTop (mkF m 84 #[.val (.int p1), .val (.int p2), .val (.int (1 : Int32)), .val (.int (0 : Int32)), .val (.ref aTRUE), .val (.ref aFALSE), .val (.int (1 : Int32)), .unset, .unset] [])) _
        refine XS.iconst X49.here hx rfl (hb hby at_84) ?_
        show Steps p.tables e below (T49.setTop (mkF m 85 #[.val (.int p1), .val (.int p2), .val (.int (1 : Int32)), .val (.int (0 : Int32)), .val (.ref aTRUE), .val (.ref aFALSE), .val (.int (1 : Int32)), .unset, .unset] [(.int (0 : Int32))])) _
        refine XS.iloadN X49.here hx rfl (hb hby at_85) rfl ?_
        show Steps p.tables e below (T49.setTop (mkF m 86 #[.val (.int p1), .val (.int p2), .val (.int (1 : Int32)), .val (.int (0 : Int32)), .val (.ref aTRUE), .val (.ref aFALSE), .val (.int (1 : Int32)), .unset, .unset] [(.int (1 : Int32)), (.int (0 : Int32))])) _
        refine XS.iloadN X49.here hx rfl (hb hby at_86) rfl ?_
        show Steps p.tables e below (T49.setTop (mkF m 87 #[.val (.int p1), .val (.int p2), .val (.int (1 : Int32)), .val (.int (0 : Int32)), .val (.ref aTRUE), .val (.ref aFALSE), .val (.int (1 : Int32)), .unset, .unset] [(.int (0 : Int32)), (.int (1 : Int32)), (.int (0 : Int32))])) _
        refine XS.icmpYes X49.here hx rfl (pc0 := 87) (pc' := 94) rfl (hb hby at_87) rfl (XT.ii_ne_t (by decide)) (by decide) (by decide) ?_
        show Steps p.tables e below (T49.setTop (mkF m 94 #[.val (.int p1), .val (.int p2), .val (.int (1 : Int32)), .val (.int (0 : Int32)), .val (.ref aTRUE), .val (.ref aFALSE), .val (.int (1 : Int32)), .unset, .unset] [(.int (0 : Int32))])) _
        refine XS.iconst X49.here hx rfl (hb hby at_94) ?_
        show Steps p.tables e below (T49.setTop (mkF m 95 #[.val (.int p1), .val (.int p2), .val (.int (1 : Int32)), .val (.int (0 : Int32)), .val (.ref aTRUE), .val (.ref aFALSE), .val (.int (1 : Int32)), .unset, .unset] [(.int (0 : Int32)), (.int (0 : Int32))])) _
        refine XS.icmpNo X49.here hx rfl (hb hby at_95) rfl (XT.ii_ne_f (by decide)) ?_
        show Steps p.tables e below (T49.setTop (mkF m 98 #[.val (.int p1), .val (.int p2), .val (.int (1 : Int32)), .val (.int (0 : Int32)), .val (.ref aTRUE), .val (.ref aFALSE), .val (.int (1 : Int32)), .unset, .unset] [])) _
        refine XS.iconst X49.here hx rfl (hb hby at_98) ?_
        show Steps p.tables e below (T49.setTop (mkF m 99 #[.val (.int p1), .val (.int p2), .val (.int (1 : Int32)), .val (.int (0 : Int32)), .val (.ref aTRUE), .val (.ref aFALSE), .val (.int (1 : Int32)), .unset, .unset] [(.int (1 : Int32))])) _
        refine XS.goto X49.here hx rfl (pc0 := 99) (pc' := 103) rfl (hb hby at_99) (by decide) (by decide) ?_
        show Steps p.tables e below (T49.setTop (mkF m 103 #[.val (.int p1), .val (.int p2), .val (.int (1 : Int32)), .val (.int (0 : Int32)), .val (.ref aTRUE), .val (.ref aFALSE), .val (.int (1 : Int32)), .unset, .unset] [(.int (1 : Int32))])) _
        refine XS.istore X49.here hx rfl (hb hby at_103) rfl (l' := #[.val (.int p1), .val (.int p2), .val (.int (1 : Int32)), .val (.int (0 : Int32)), .val (.ref aTRUE), .val (.ref aFALSE), .val (.int (1 : Int32)), .val (.int (1 : Int32)), .unset]) rfl ?_
        show Steps p.tables e below (T49.setTop (mkF m 105 #[.val (.int p1), .val (.int p2), .val (.int (1 : Int32)), .val (.int (0 : Int32)), .val (.ref aTRUE), .val (.ref aFALSE), .val (.int (1 : Int32)), .val (.int (1 : Int32)), .unset] [])) _
        refine XS.aload X49.here hx rfl (hb hby at_105) rfl rfl ?_
        show Steps p.tables e below (T49.setTop (mkF m 107 #[.val (.int p1), .val (.int p2), .val (.int (1 : Int32)), .val (.int (0 : Int32)), .val (.ref aTRUE), .val (.ref aFALSE), .val (.int (1 : Int32)), .val (.int (1 : Int32)), .unset] [(.ref aTRUE)])) _
        refine XS.aload X49.here hx rfl (hb hby at_107) rfl rfl ?_
        show Steps p.tables e below (T49.setTop (mkF m 109 #[.val (.int p1), .val (.int p2), .val (.int (1 : Int32)), .val (.int (0 : Int32)), .val (.ref aTRUE), .val (.ref aFALSE), .val (.int (1 : Int32)), .val (.int (1 : Int32)), .unset] [(.ref aFALSE), (.ref aTRUE)])) _
        exact k
      obtain ⟨cq52, kq52, qa52, qb52, qc52⟩ := isOf hZ e49 (E_aTRUE.ext O0.2)
      obtain ⟨_, _, ⟨T52, L52, k52, n52⟩, -, X52, ⟨Lc52, hQ52, l52, y52, z52⟩, st52⟩ := X49.virtualBack hx (y := (⟨"com/example/foretell/foretell/core/BooleanValue", "equals", "(Ljava/lang/Object;)Z"⟩ : MethodName)) (z := (⟨"com/example/foretell/foretell/core/BooleanValue", "equals", "(Ljava/lang/Object;)Z"⟩ : MethodName)) hown (mvT hZ (hw _ (List.mem_of_getElem? (i := 15) rfl))) (mvT hZ (hw _ (List.mem_of_getElem? (i := 16) rfl))) (notFace_of_selects (args := #[]) (mvT hZ (hw _ (List.mem_of_getElem? (i := 18) rfl)))) (mvT hZ (hw _ (List.mem_of_getElem? (i := 18) rfl))) (mvT hZ (hw _ (List.mem_of_getElem? (i := 17) rfl))) (by decide) (backOf (W := 0) (rm_eq l Z a0 hw [] aTRUE aFALSE h0 n0 O0) hZ (hw _ (List.mem_of_getElem? (i := 19) rfl)) (hw _ (List.mem_of_getElem? (i := 2) rfl)) (by decide) (by decide)) qa52 qc52 (g := (mkF m 109 #[.val (.int p1), .val (.int p2), .val (.int (1 : Int32)), .val (.int (0 : Int32)), .val (.ref aTRUE), .val (.ref aFALSE), .val (.int (1 : Int32)), .val (.int (1 : Int32)), .unset] [(.ref aFALSE), (.ref aTRUE)])) rfl (by rw [hml]; rfl) (Steps.refl _) (argsL := [(.ref aFALSE)]) (rest := []) (lenOf pd_law_2 rfl) rfl (by show 2 * 0 + _ ≤ _; exact Nat.le_of_eq rfl) (hb hby at_109) (fun _ _ => ⟨rfl, e49, (by decide : 0 + 0 ≤ _), (by decide : 0 + 0 ≤ _)⟩)
      dsimp only [Pt.U, Pt.locs, Pt.cells, Pt.slots] at X52 l52 y52 z52 st52 hQ52
      subst l52 y52 z52
      obtain ⟨rfl, N52q, e52⟩ := hQ52
      have N52 := Fr.app N49 N52q
      have pre_53 : ∀ t, Steps p.tables e below (T52.setTop (mkF m 112 #[.val (.int p1), .val (.int p2), .val (.int (1 : Int32)), .val (.int (0 : Int32)), .val (.ref aTRUE), .val (.ref aFALSE), .val (.int (1 : Int32)), .val (.int (1 : Int32)), .unset] [(.int (if aTRUE = aFALSE then (1 : Int32) else (0 : Int32)))])) t → Steps p.tables e below (s₁.setTop (entryFrame m #[(.int p1), (.int p2)] maxLocals)) t := fun t k => pre_51 t (st52.trans k)
      have pre_54 : ∀ t, Steps p.tables e below (T52.setTop (mkF m 152 #[.val (.int p1), .val (.int p2), .val (.int (1 : Int32)), .val (.int (0 : Int32)), .val (.ref aTRUE), .val (.ref aFALSE), .val (.int (1 : Int32)), .val (.int (1 : Int32)), .val (.int (1 : Int32))] [(.int (1 : Int32))])) t → Steps p.tables e below (s₁.setTop (entryFrame m #[(.int p1), (.int p2)] maxLocals)) t := by
        intro t k
        refine pre_53 t ?_
        show Steps p.tables e below (T52.setTop (mkF m 112 #[.val (.int p1), .val (.int p2), .val (.int (1 : Int32)), .val (.int (0 : Int32)), .val (.ref aTRUE), .val (.ref aFALSE), .val (.int (1 : Int32)), .val (.int (1 : Int32)), .unset] [(.int (if aTRUE = aFALSE then (1 : Int32) else (0 : Int32)))])) _
        refine XS.iloadN X52.here hx rfl (hb hby at_112) rfl ?_
        show Steps p.tables e below (T52.setTop (mkF m 113 #[.val (.int p1), .val (.int p2), .val (.int (1 : Int32)), .val (.int (0 : Int32)), .val (.ref aTRUE), .val (.ref aFALSE), .val (.int (1 : Int32)), .val (.int (1 : Int32)), .unset] [(.int (1 : Int32)), (.int (if aTRUE = aFALSE then (1 : Int32) else (0 : Int32)))])) _
        refine XS.iloadN X52.here hx rfl (hb hby at_113) rfl ?_
        show Steps p.tables e below (T52.setTop (mkF m 114 #[.val (.int p1), .val (.int p2), .val (.int (1 : Int32)), .val (.int (0 : Int32)), .val (.ref aTRUE), .val (.ref aFALSE), .val (.int (1 : Int32)), .val (.int (1 : Int32)), .unset] [(.int (0 : Int32)), (.int (1 : Int32)), (.int (if aTRUE = aFALSE then (1 : Int32) else (0 : Int32)))])) _
        refine XS.icmpYes X52.here hx rfl (pc0 := 114) (pc' := 121) rfl (hb hby at_114) rfl (XT.ii_ne_t (by decide)) (by decide) (by decide) ?_
        show Steps p.tables e below (T52.setTop (mkF m 121 #[.val (.int p1), .val (.int p2), .val (.int (1 : Int32)), .val (.int (0 : Int32)), .val (.ref aTRUE), .val (.ref aFALSE), .val (.int (1 : Int32)), .val (.int (1 : Int32)), .unset] [(.int (if aTRUE = aFALSE then (1 : Int32) else (0 : Int32)))])) _
        refine XS.iconst X52.here hx rfl (hb hby at_121) ?_
        show Steps p.tables e below (T52.setTop (mkF m 122 #[.val (.int p1), .val (.int p2), .val (.int (1 : Int32)), .val (.int (0 : Int32)), .val (.ref aTRUE), .val (.ref aFALSE), .val (.int (1 : Int32)), .val (.int (1 : Int32)), .unset] [(.int (0 : Int32)), (.int (if aTRUE = aFALSE then (1 : Int32) else (0 : Int32)))])) _
        refine XS.icmpNo X52.here hx rfl (hb hby at_122) rfl (XT.ii_ne_f (by simp only [if_neg (Ne.symm neFT : ¬ aTRUE = aFALSE)] <;> decide)) ?_
        show Steps p.tables e below (T52.setTop (mkF m 125 #[.val (.int p1), .val (.int p2), .val (.int (1 : Int32)), .val (.int (0 : Int32)), .val (.ref aTRUE), .val (.ref aFALSE), .val (.int (1 : Int32)), .val (.int (1 : Int32)), .unset] [])) _
        refine XS.iconst X52.here hx rfl (hb hby at_125) ?_
        show Steps p.tables e below (T52.setTop (mkF m 126 #[.val (.int p1), .val (.int p2), .val (.int (1 : Int32)), .val (.int (0 : Int32)), .val (.ref aTRUE), .val (.ref aFALSE), .val (.int (1 : Int32)), .val (.int (1 : Int32)), .unset] [(.int (1 : Int32))])) _
        refine XS.goto X52.here hx rfl (pc0 := 126) (pc' := 130) rfl (hb hby at_126) (by decide) (by decide) ?_
        show Steps p.tables e below (T52.setTop (mkF m 130 #[.val (.int p1), .val (.int p2), .val (.int (1 : Int32)), .val (.int (0 : Int32)), .val (.ref aTRUE), .val (.ref aFALSE), .val (.int (1 : Int32)), .val (.int (1 : Int32)), .unset] [(.int (1 : Int32))])) _
        refine XS.istore X52.here hx rfl (hb hby at_130) rfl (l' := #[.val (.int p1), .val (.int p2), .val (.int (1 : Int32)), .val (.int (0 : Int32)), .val (.ref aTRUE), .val (.ref aFALSE), .val (.int (1 : Int32)), .val (.int (1 : Int32)), .val (.int (1 : Int32))]) rfl ?_
        show Steps p.tables e below (T52.setTop (mkF m 132 #[.val (.int p1), .val (.int p2), .val (.int (1 : Int32)), .val (.int (0 : Int32)), .val (.ref aTRUE), .val (.ref aFALSE), .val (.int (1 : Int32)), .val (.int (1 : Int32)), .val (.int (1 : Int32))] [])) _
        refine XS.iload X52.here hx rfl (hb hby at_132) rfl ?_
        show Steps p.tables e below (T52.setTop (mkF m 134 #[.val (.int p1), .val (.int p2), .val (.int (1 : Int32)), .val (.int (0 : Int32)), .val (.ref aTRUE), .val (.ref aFALSE), .val (.int (1 : Int32)), .val (.int (1 : Int32)), .val (.int (1 : Int32))] [(.int (1 : Int32))])) _
        refine XS.ifNo X52.here hx rfl (hb hby at_134) rfl (XT.i0_eq_f (by decide)) ?_
        show Steps p.tables e below (T52.setTop (mkF m 137 #[.val (.int p1), .val (.int p2), .val (.int (1 : Int32)), .val (.int (0 : Int32)), .val (.ref aTRUE), .val (.ref aFALSE), .val (.int (1 : Int32)), .val (.int (1 : Int32)), .val (.int (1 : Int32))] [])) _
        refine XS.iload X52.here hx rfl (hb hby at_137) rfl ?_
        show Steps p.tables e below (T52.setTop (mkF m 139 #[.val (.int p1), .val (.int p2), .val (.int (1 : Int32)), .val (.int (0 : Int32)), .val (.ref aTRUE), .val (.ref aFALSE), .val (.int (1 : Int32)), .val (.int (1 : Int32)), .val (.int (1 : Int32))] [(.int (1 : Int32))])) _
        refine XS.ifNo X52.here hx rfl (hb hby at_139) rfl (XT.i0_eq_f (by decide)) ?_
        show Steps p.tables e below (T52.setTop (mkF m 142 #[.val (.int p1), .val (.int p2), .val (.int (1 : Int32)), .val (.int (0 : Int32)), .val (.ref aTRUE), .val (.ref aFALSE), .val (.int (1 : Int32)), .val (.int (1 : Int32)), .val (.int (1 : Int32))] [])) _
        refine XS.iload X52.here hx rfl (hb hby at_142) rfl ?_
        show Steps p.tables e below (T52.setTop (mkF m 144 #[.val (.int p1), .val (.int p2), .val (.int (1 : Int32)), .val (.int (0 : Int32)), .val (.ref aTRUE), .val (.ref aFALSE), .val (.int (1 : Int32)), .val (.int (1 : Int32)), .val (.int (1 : Int32))] [(.int (1 : Int32))])) _
        refine XS.ifNo X52.here hx rfl (hb hby at_144) rfl (XT.i0_eq_f (by decide)) ?_
        show Steps p.tables e below (T52.setTop (mkF m 147 #[.val (.int p1), .val (.int p2), .val (.int (1 : Int32)), .val (.int (0 : Int32)), .val (.ref aTRUE), .val (.ref aFALSE), .val (.int (1 : Int32)), .val (.int (1 : Int32)), .val (.int (1 : Int32))] [])) _
        refine XS.iconst X52.here hx rfl (hb hby at_147) ?_
        show Steps p.tables e below (T52.setTop (mkF m 148 #[.val (.int p1), .val (.int p2), .val (.int (1 : Int32)), .val (.int (0 : Int32)), .val (.ref aTRUE), .val (.ref aFALSE), .val (.int (1 : Int32)), .val (.int (1 : Int32)), .val (.int (1 : Int32))] [(.int (1 : Int32))])) _
        refine XS.goto X52.here hx rfl (pc0 := 148) (pc' := 152) rfl (hb hby at_148) (by decide) (by decide) ?_
        show Steps p.tables e below (T52.setTop (mkF m 152 #[.val (.int p1), .val (.int p2), .val (.int (1 : Int32)), .val (.int (0 : Int32)), .val (.ref aTRUE), .val (.ref aFALSE), .val (.int (1 : Int32)), .val (.int (1 : Int32)), .val (.int (1 : Int32))] [(.int (1 : Int32))])) _
        exact k
      obtain ⟨fs, hr, hrun, hended, hW, hsame⟩ := X52.leave (v := some (.int (1 : Int32))) (fun h => by rw [Bd.returns] at h; cases h)
      refine ⟨_, _, pre_54 _ ?_, hrun, hended, _, _, rfl, ?_, ⟨_, rfl⟩, hW, hsame.mono (by decide) (by decide)⟩
      · show Steps p.tables e below (T52.setTop (mkF m 152 #[.val (.int p1), .val (.int p2), .val (.int (1 : Int32)), .val (.int (0 : Int32)), .val (.ref aTRUE), .val (.ref aFALSE), .val (.int (1 : Int32)), .val (.int (1 : Int32)), .val (.int (1 : Int32))] [(.int (1 : Int32))])) _
        exact retN X52 hx (t := .boolean) Bd.returns (by simp) (hb hby at_152) hr
      · show Q_law Z p1 p2 aFALSE aTRUE h0 n0 _ T52.heap _
        rw [e52]
        exact ⟨rfl, N52⟩
    · skip
      have pre_55 : ∀ t, Steps p.tables e below (s₁.setTop (mkF m 25 #[.val (.int p1), .val (.int p2), .val (.int (1 : Int32)), .val (.int (1 : Int32)), .unset, .unset, .unset, .unset, .unset] [(.int (1 : Int32))])) t → Steps p.tables e below (s₁.setTop (entryFrame m #[(.int p1), (.int p2)] maxLocals)) t := by
        intro t k
        refine pre_37 t ?_
        show Steps p.tables e below (s₁.setTop (mkF m 15 #[.val (.int p1), .val (.int p2), .val (.int (1 : Int32)), .unset, .unset, .unset, .unset, .unset, .unset] [(.int (p2 &&& (1 : Int32)))])) _
        refine XS.ifNo X0.here hx rfl (hb hby at_15) rfl (XT.i0_eq_f hc38) ?_
        show Steps p.tables e below (s₁.setTop (mkF m 18 #[.val (.int p1), .val (.int p2), .val (.int (1 : Int32)), .unset, .unset, .unset, .unset, .unset, .unset] [])) _
        refine XS.iconst X0.here hx rfl (hb hby at_18) ?_
        show Steps p.tables e below (s₁.setTop (mkF m 19 #[.val (.int p1), .val (.int p2), .val (.int (1 : Int32)), .unset, .unset, .unset, .unset, .unset, .unset] [(.int (1 : Int32))])) _
        refine XS.goto X0.here hx rfl (pc0 := 19) (pc' := 23) rfl (hb hby at_19) (by decide) (by decide) ?_
        show Steps p.tables e below (s₁.setTop (mkF m 23 #[.val (.int p1), .val (.int p2), .val (.int (1 : Int32)), .unset, .unset, .unset, .unset, .unset, .unset] [(.int (1 : Int32))])) _
        refine XS.istoreN X0.here hx rfl (hb hby at_23) rfl (l' := #[.val (.int p1), .val (.int p2), .val (.int (1 : Int32)), .val (.int (1 : Int32)), .unset, .unset, .unset, .unset, .unset]) rfl ?_
        show Steps p.tables e below (s₁.setTop (mkF m 24 #[.val (.int p1), .val (.int p2), .val (.int (1 : Int32)), .val (.int (1 : Int32)), .unset, .unset, .unset, .unset, .unset] [])) _
        refine XS.iloadN X0.here hx rfl (hb hby at_24) rfl ?_
        show Steps p.tables e below (s₁.setTop (mkF m 25 #[.val (.int p1), .val (.int p2), .val (.int (1 : Int32)), .val (.int (1 : Int32)), .unset, .unset, .unset, .unset, .unset] [(.int (1 : Int32))])) _
        exact k
      obtain ⟨_, _, ⟨T56, L56, k56, n56⟩, -, X56, ⟨Lc56, hQ56, l56, y56, z56⟩, st56⟩ := Jvm.LawKit.callS X0 hx (y := (⟨"com/example/foretell/foretell/core/BooleanValue", "of", "(Z)Lcom/example/foretell/foretell/core/BooleanValue;"⟩ : MethodName)) hown (mvT hZ (hw _ (List.mem_of_getElem? (i := 0) rfl))) (mvT hZ (hw _ (List.mem_of_getElem? (i := 1) rfl))) (mvT hZ (hw _ (List.mem_of_getElem? (i := 2) rfl))) (mvT hZ (hw _ (List.mem_of_getElem? (i := 3) rfl))) (by decide) (backOf (W := 0) (rm_of1 l Z a0 hw [] aTRUE h0 n0 O0 S_aTRUE) hZ (hw _ (List.mem_of_getElem? (i := 3) rfl)) (hw _ (List.mem_of_getElem? (i := 2) rfl)) (by decide) (by decide)) (g := (mkF m 25 #[.val (.int p1), .val (.int p2), .val (.int (1 : Int32)), .val (.int (1 : Int32)), .unset, .unset, .unset, .unset, .unset] [(.int (1 : Int32))])) rfl (by rw [hml]; rfl) (argsL := [(.int (1 : Int32))]) (rest := []) (lenOf pd_law_0 rfl) rfl (by show 2 * 0 + _ ≤ _; exact Nat.le_of_eq rfl) (hb hby at_25) (fun _ _ => ⟨rfl, e0, (by decide : 0 + 0 ≤ _), (by decide : 0 + 0 ≤ _)⟩)
      dsimp only [Pt.U, Pt.locs, Pt.cells, Pt.slots] at X56 l56 y56 z56 st56 hQ56
      subst l56 y56 z56
      obtain ⟨rfl, N56q, e56⟩ := hQ56
      have N56 := Fr.app N0 N56q
      have pre_57 : ∀ t, Steps p.tables e below (T56.setTop (mkF m 28 #[.val (.int p1), .val (.int p2), .val (.int (1 : Int32)), .val (.int (1 : Int32)), .unset, .unset, .unset, .unset, .unset] [(.ref aTRUE)])) t → Steps p.tables e below (s₁.setTop (entryFrame m #[(.int p1), (.int p2)] maxLocals)) t := fun t k => pre_55 t (st56 t k)
      have pre_58 : ∀ t, Steps p.tables e below (T56.setTop (mkF m 31 #[.val (.int p1), .val (.int p2), .val (.int (1 : Int32)), .val (.int (1 : Int32)), .val (.ref aTRUE), .unset, .unset, .unset, .unset] [(.int (1 : Int32))])) t → Steps p.tables e below (s₁.setTop (entryFrame m #[(.int p1), (.int p2)] maxLocals)) t := by
        intro t k
        refine pre_57 t ?_
        show Steps p.tables e below (T56.setTop (mkF m 28 #[.val (.int p1), .val (.int p2), .val (.int (1 : Int32)), .val (.int (1 : Int32)), .unset, .unset, .unset, .unset, .unset] [(.ref aTRUE)])) _
        refine XS.astore X56.here hx rfl (hb hby at_28) rfl rfl (l' := #[.val (.int p1), .val (.int p2), .val (.int (1 : Int32)), .val (.int (1 : Int32)), .val (.ref aTRUE), .unset, .unset, .unset, .unset]) rfl ?_
        show Steps p.tables e below (T56.setTop (mkF m 30 #[.val (.int p1), .val (.int p2), .val (.int (1 : Int32)), .val (.int (1 : Int32)), .val (.ref aTRUE), .unset, .unset, .unset, .unset] [])) _
        refine XS.iloadN X56.here hx rfl (hb hby at_30) rfl ?_
        show Steps p.tables e below (T56.setTop (mkF m 31 #[.val (.int p1), .val (.int p2), .val (.int (1 : Int32)), .val (.int (1 : Int32)), .val (.ref aTRUE), .unset, .unset, .unset, .unset] [(.int (1 : Int32))])) _
        exact k
      obtain ⟨_, _, ⟨T59, L59, k59, n59⟩, -, X59, ⟨Lc59, hQ59, l59, y59, z59⟩, st59⟩ := Jvm.LawKit.callS X56 hx (y := (⟨"com/example/foretell/foretell/core/BooleanValue", "of", "(Z)Lcom/example/foretell/foretell/core/BooleanValue;"⟩ : MethodName)) hown (mvT hZ (hw _ (List.mem_of_getElem? (i := 0) rfl))) (mvT hZ (hw _ (List.mem_of_getElem? (i := 1) rfl))) (mvT hZ (hw _ (List.mem_of_getElem? (i := 2) rfl))) (mvT hZ (hw _ (List.mem_of_getElem? (i := 3) rfl))) (by decide) (backOf (W := 0) (rm_of1 l Z a0 hw [] aTRUE h0 n0 O0 S_aTRUE) hZ (hw _ (List.mem_of_getElem? (i := 3) rfl)) (hw _ (List.mem_of_getElem? (i := 2) rfl)) (by decide) (by decide)) (g := (mkF m 31 #[.val (.int p1), .val (.int p2), .val (.int (1 : Int32)), .val (.int (1 : Int32)), .val (.ref aTRUE), .unset, .unset, .unset, .unset] [(.int (1 : Int32))])) rfl (by rw [hml]; rfl) (argsL := [(.int (1 : Int32))]) (rest := []) (lenOf pd_law_0 rfl) rfl (by show 2 * 0 + _ ≤ _; exact Nat.le_of_eq rfl) (hb hby at_31) (fun _ _ => ⟨rfl, e56, (by decide : 0 + 0 ≤ _), (by decide : 0 + 0 ≤ _)⟩)
      dsimp only [Pt.U, Pt.locs, Pt.cells, Pt.slots] at X59 l59 y59 z59 st59 hQ59
      subst l59 y59 z59
      obtain ⟨rfl, N59q, e59⟩ := hQ59
      have N59 := Fr.app N56 N59q
      have pre_60 : ∀ t, Steps p.tables e below (T59.setTop (mkF m 34 #[.val (.int p1), .val (.int p2), .val (.int (1 : Int32)), .val (.int (1 : Int32)), .val (.ref aTRUE), .unset, .unset, .unset, .unset] [(.ref aTRUE)])) t → Steps p.tables e below (s₁.setTop (entryFrame m #[(.int p1), (.int p2)] maxLocals)) t := fun t k => pre_58 t (st59 t k)
      have pre_61 : ∀ t, Steps p.tables e below (T59.setTop (mkF m 50 #[.val (.int p1), .val (.int p2), .val (.int (1 : Int32)), .val (.int (1 : Int32)), .val (.ref aTRUE), .val (.ref aTRUE), .unset, .unset, .unset] [(.ref aTRUE)])) t → Steps p.tables e below (s₁.setTop (entryFrame m #[(.int p1), (.int p2)] maxLocals)) t := by
        intro t k
        refine pre_60 t ?_
        show Steps p.tables e below (T59.setTop (mkF m 34 #[.val (.int p1), .val (.int p2), .val (.int (1 : Int32)), .val (.int (1 : Int32)), .val (.ref aTRUE), .unset, .unset, .unset, .unset] [(.ref aTRUE)])) _
        refine XS.astore X59.here hx rfl (hb hby at_34) rfl rfl (l' := #[.val (.int p1), .val (.int p2), .val (.int (1 : Int32)), .val (.int (1 : Int32)), .val (.ref aTRUE), .val (.ref aTRUE), .unset, .unset, .unset]) rfl ?_
        show Steps p.tables e below (T59.setTop (mkF m 36 #[.val (.int p1), .val (.int p2), .val (.int (1 : Int32)), .val (.int (1 : Int32)), .val (.ref aTRUE), .val (.ref aTRUE), .unset, .unset, .unset] [])) _
        refine XS.aload X59.here hx rfl (hb hby at_36) rfl rfl ?_
        show Steps p.tables e below (T59.setTop (mkF m 38 #[.val (.int p1), .val (.int p2), .val (.int (1 : Int32)), .val (.int (1 : Int32)), .val (.ref aTRUE), .val (.ref aTRUE), .unset, .unset, .unset] [(.ref aTRUE)])) _
        refine XS.ifnullNo X59.here hx rfl (hb hby at_38) rfl ?_
        show Steps p.tables e below (T59.setTop (mkF m 41 #[.val (.int p1), .val (.int p2), .val (.int (1 : Int32)), .val (.int (1 : Int32)), .val (.ref aTRUE), .val (.ref aTRUE), .unset, .unset, .unset] [])) _
        refine XS.aload X59.here hx rfl (hb hby at_41) rfl rfl ?_
        show Steps p.tables e below (T59.setTop (mkF m 43 #[.val (.int p1), .val (.int p2), .val (.int (1 : Int32)), .val (.int (1 : Int32)), .val (.ref aTRUE), .val (.ref aTRUE), .unset, .unset, .unset] [(.ref aTRUE)])) _
        refine XT.ifnonnullYes X59.here hx rfl (pc0 := 43) (pc' := 48) rfl (hb hby at_43) rfl (by decide) (by decide) ?_
        show Steps p.tables e below (T59.setTop (mkF m 48 #[.val (.int p1), .val (.int p2), .val (.int (1 : Int32)), .val (.int (1 : Int32)), .val (.ref aTRUE), .val (.ref aTRUE), .unset, .unset, .unset] [])) _
        refine XS.aload X59.here hx rfl (hb hby at_48) rfl rfl ?_
        show Steps p.tables e below (T59.setTop (mkF m 50 #[.val (.int p1), .val (.int p2), .val (.int (1 : Int32)), .val (.int (1 : Int32)), .val (.ref aTRUE), .val (.ref aTRUE), .unset, .unset, .unset] [(.ref aTRUE)])) _
        exact k
      obtain ⟨cq62, kq62, qa62, qb62, qc62⟩ := isOf hZ e59 (E_aTRUE.ext O0.2)
      obtain ⟨_, _, ⟨T62, L62, k62, n62⟩, -, X62, ⟨Lc62, hQ62, l62, y62, z62⟩, st62⟩ := X59.virtualBack hx (y := (⟨"com/example/foretell/foretell/core/BooleanValue", "value", "()Z"⟩ : MethodName)) (z := (⟨"com/example/foretell/foretell/core/BooleanValue", "value", "()Z"⟩ : MethodName)) hown (mvT hZ (hw _ (List.mem_of_getElem? (i := 8) rfl))) (mvT hZ (hw _ (List.mem_of_getElem? (i := 9) rfl))) (notFace_of_selects (args := #[]) (mvT hZ (hw _ (List.mem_of_getElem? (i := 11) rfl)))) (mvT hZ (hw _ (List.mem_of_getElem? (i := 11) rfl))) (mvT hZ (hw _ (List.mem_of_getElem? (i := 10) rfl))) (by decide) (backOf (W := 0) (rm_val1 l Z a0 hw [] aTRUE h0 n0 O0 (F_aTRUE_value.ext O0.2)) hZ (hw _ (List.mem_of_getElem? (i := 12) rfl)) (hw _ (List.mem_of_getElem? (i := 2) rfl)) (by decide) (by decide)) qa62 qc62 (g := (mkF m 50 #[.val (.int p1), .val (.int p2), .val (.int (1 : Int32)), .val (.int (1 : Int32)), .val (.ref aTRUE), .val (.ref aTRUE), .unset, .unset, .unset] [(.ref aTRUE)])) rfl (by rw [hml]; rfl) (Steps.refl _) (argsL := []) (rest := []) (lenOf pd_law_1 rfl) rfl (by show 2 * 0 + _ ≤ _; exact Nat.le_of_eq rfl) (hb hby at_50) (fun _ _ => ⟨rfl, e59, (by decide : 0 + 0 ≤ _), (by decide : 0 + 0 ≤ _)⟩)
      dsimp only [Pt.U, Pt.locs, Pt.cells, Pt.slots] at X62 l62 y62 z62 st62 hQ62
      subst l62 y62 z62
      obtain ⟨rfl, N62q, e62⟩ := hQ62
      have N62 := Fr.app N59 N62q
      have pre_63 : ∀ t, Steps p.tables e below (T62.setTop (mkF m 53 #[.val (.int p1), .val (.int p2), .val (.int (1 : Int32)), .val (.int (1 : Int32)), .val (.ref aTRUE), .val (.ref aTRUE), .unset, .unset, .unset] [(.int (1 : Int32))])) t → Steps p.tables e below (s₁.setTop (entryFrame m #[(.int p1), (.int p2)] maxLocals)) t := fun t k => pre_61 t (st62.trans k)
      have pre_64 : ∀ t, Steps p.tables e below (T62.setTop (mkF m 59 #[.val (.int p1), .val (.int p2), .val (.int (1 : Int32)), .val (.int (1 : Int32)), .val (.ref aTRUE), .val (.ref aTRUE), .unset, .unset, .unset] [(.ref aTRUE)])) t → Steps p.tables e below (s₁.setTop (entryFrame m #[(.int p1), (.int p2)] maxLocals)) t := by
        intro t k
        refine pre_63 t ?_
        show Steps p.tables e below (T62.setTop (mkF m 53 #[.val (.int p1), .val (.int p2), .val (.int (1 : Int32)), .val (.int (1 : Int32)), .val (.ref aTRUE), .val (.ref aTRUE), .unset, .unset, .unset] [(.int (1 : Int32))])) _
        refine XS.iloadN X62.here hx rfl (hb hby at_53) rfl ?_
        show Steps p.tables e below (T62.setTop (mkF m 54 #[.val (.int p1), .val (.int p2), .val (.int (1 : Int32)), .val (.int (1 : Int32)), .val (.ref aTRUE), .val (.ref aTRUE), .unset, .unset, .unset] [(.int (1 : Int32)), (.int (1 : Int32))])) _
        refine XS.icmpNo X62.here hx rfl (hb hby at_54) rfl (XT.ii_ne_f (by decide)) ?_
        show Steps p.tables e below (T62.setTop (mkF m 57 #[.val (.int p1), .val (.int p2), .val (.int (1 : Int32)), .val (.int (1 : Int32)), .val (.ref aTRUE), .val (.ref aTRUE), .unset, .unset, .unset] [])) _
        refine XS.aload X62.here hx rfl (hb hby at_57) rfl rfl ?_
        show Steps p.tables e below (T62.setTop (mkF m 59 #[.val (.int p1), .val (.int p2), .val (.int (1 : Int32)), .val (.int (1 : Int32)), .val (.ref aTRUE), .val (.ref aTRUE), .unset, .unset, .unset] [(.ref aTRUE)])) _
        exact k
      obtain ⟨cq65, kq65, qa65, qb65, qc65⟩ := isOf hZ e62 (E_aTRUE.ext O0.2)
      obtain ⟨_, _, ⟨T65, L65, k65, n65⟩, -, X65, ⟨Lc65, hQ65, l65, y65, z65⟩, st65⟩ := X62.virtualBack hx (y := (⟨"com/example/foretell/foretell/core/BooleanValue", "value", "()Z"⟩ : MethodName)) (z := (⟨"com/example/foretell/foretell/core/BooleanValue", "value", "()Z"⟩ : MethodName)) hown (mvT hZ (hw _ (List.mem_of_getElem? (i := 8) rfl))) (mvT hZ (hw _ (List.mem_of_getElem? (i := 9) rfl))) (notFace_of_selects (args := #[]) (mvT hZ (hw _ (List.mem_of_getElem? (i := 11) rfl)))) (mvT hZ (hw _ (List.mem_of_getElem? (i := 11) rfl))) (mvT hZ (hw _ (List.mem_of_getElem? (i := 10) rfl))) (by decide) (backOf (W := 0) (rm_val1 l Z a0 hw [] aTRUE h0 n0 O0 (F_aTRUE_value.ext O0.2)) hZ (hw _ (List.mem_of_getElem? (i := 12) rfl)) (hw _ (List.mem_of_getElem? (i := 2) rfl)) (by decide) (by decide)) qa65 qc65 (g := (mkF m 59 #[.val (.int p1), .val (.int p2), .val (.int (1 : Int32)), .val (.int (1 : Int32)), .val (.ref aTRUE), .val (.ref aTRUE), .unset, .unset, .unset] [(.ref aTRUE)])) rfl (by rw [hml]; rfl) (Steps.refl _) (argsL := []) (rest := []) (lenOf pd_law_1 rfl) rfl (by show 2 * 0 + _ ≤ _; exact Nat.le_of_eq rfl) (hb hby at_59) (fun _ _ => ⟨rfl, e62, (by decide : 0 + 0 ≤ _), (by decide : 0 + 0 ≤ _)⟩)
      dsimp only [Pt.U, Pt.locs, Pt.cells, Pt.slots] at X65 l65 y65 z65 st65 hQ65
      subst l65 y65 z65
      obtain ⟨rfl, N65q, e65⟩ := hQ65
      have N65 := Fr.app N62 N65q
      have pre_66 : ∀ t, Steps p.tables e below (T65.setTop (mkF m 62 #[.val (.int p1), .val (.int p2), .val (.int (1 : Int32)), .val (.int (1 : Int32)), .val (.ref aTRUE), .val (.ref aTRUE), .unset, .unset, .unset] [(.int (1 : Int32))])) t → Steps p.tables e below (s₁.setTop (entryFrame m #[(.int p1), (.int p2)] maxLocals)) t := fun t k => pre_64 t (st65.trans k)
      have pre_67 : ∀ t, Steps p.tables e below (T65.setTop (mkF m 109 #[.val (.int p1), .val (.int p2), .val (.int (1 : Int32)), .val (.int (1 : Int32)), .val (.ref aTRUE), .val (.ref aTRUE), .val (.int (1 : Int32)), .val (.int (1 : Int32)), .unset] [(.ref aTRUE), (.ref aTRUE)])) t → Steps p.tables e below (s₁.setTop (entryFrame m #[(.int p1), (.int p2)] maxLocals)) t := by
        intro t k
        refine pre_66 t ?_
        show Steps p.tables e below (T65.setTop (mkF m 62 #[.val (.int p1), .val (.int p2), .val (.int (1 : Int32)), .val (.int (1 : Int32)), .val (.ref aTRUE), .val (.ref aTRUE), .unset, .unset, .unset] [(.int (1 : Int32))])) _
        refine XS.iloadN X65.here hx rfl (hb hby at_62) rfl ?_
        show Steps p.tables e below (T65.setTop (mkF m 63 #[.val (.int p1), .val (.int p2), .val (.int (1 : Int32)), .val (.int (1 : Int32)), .val (.ref aTRUE), .val (.ref aTRUE), .unset, .unset, .unset] [(.int (1 : Int32)), (.int (1 : Int32))])) _
        refine XS.icmpNo X65.here hx rfl (hb hby at_63) rfl (XT.ii_ne_f (by decide)) ?_
        show Steps p.tables e below (T65.setTop (mkF m 66 #[.val (.int p1), .val (.int p2), .val (.int (1 : Int32)), .val (.int (1 : Int32)), .val (.ref aTRUE), .val (.ref aTRUE), .unset, .unset, .unset] [])) _
        refine XS.iconst X65.here hx rfl (hb hby at_66) ?_
        show Steps p.tables e below (T65.setTop (mkF m 67 #[.val (.int p1), .val (.int p2), .val (.int (1 : Int32)), .val (.int (1 : Int32)), .val (.ref aTRUE), .val (.ref aTRUE), .unset, .unset, .unset] [(.int (1 : Int32))])) _
        refine XS.goto X65.here hx rfl (pc0 := 67) (pc' := 71) rfl (hb hby at_67) (by decide) (by decide) ?_
        show Steps p.tables e below (T65.setTop (mkF m 71 #[.val (.int p1), .val (.int p2), .val (.int (1 : Int32)), .val (.int (1 : Int32)), .val (.ref aTRUE), .val (.ref aTRUE), .unset, .unset, .unset] [(.int (1 : Int32))])) _
        refine XS.istore X65.here hx rfl (hb hby at_71) rfl (l' := #[.val (.int p1), .val (.int p2), .val (.int (1 : Int32)), .val (.int (1 : Int32)), .val (.ref aTRUE), .val (.ref aTRUE), .val (.int (1 : Int32)), .unset, .unset]) rfl ?_
        show Steps p.tables e below (T65.setTop (mkF m 73 #[.val (.int p1), .val (.int p2), .val (.int (1 : Int32)), .val (.int (1 : Int32)), .val (.ref aTRUE), .val (.ref aTRUE), .val (.int (1 : Int32)), .unset, .unset] [])) _
        refine XS.aload X65.here hx rfl (hb hby at_73) rfl rfl ?_
        show Steps p.tables e below (T65.setTop (mkF m 75 #[.val (.int p1), .val (.int p2), .val (.int (1 : Int32)), .val (.int (1 : Int32)), .val (.ref aTRUE), .val (.ref aTRUE), .val (.int (1 : Int32)), .unset, .unset] [(.ref aTRUE)])) _
        refine XS.aload X65.here hx rfl (hb hby at_75) rfl rfl ?_
        show Steps p.tables e below (T65.setTop (mkF m 77 #[.val (.int p1), .val (.int p2), .val (.int (1 : Int32)), .val (.int (1 : Int32)), .val (.ref aTRUE), .val (.ref aTRUE), .val (.int (1 : Int32)), .unset, .unset] [(.ref aTRUE), (.ref aTRUE)])) _
        refine XT.acmpNo X65.here hx rfl (hb hby at_77) rfl rfl rfl (XT.aa_ne_f rfl) ?_
        show Steps p.tables e below (T65.setTop (mkF m 80 #[.val (.int p1), .val (.int p2), .val (.int (1 : Int32)), .val (.int (1 : Int32)), .val (.ref aTRUE), .val (.ref aTRUE), .val (.int (1 : Int32)), .unset, .unset] [])) _
        refine XS.iconst X65.here hx rfl (hb hby at_80) ?_
        show Steps p.tables e below (T65.setTop (mkF m 81 #[.val (.int p1), .val (.int p2), .val (.int (1 : Int32)), .val (.int (1 : Int32)), .val (.ref aTRUE), .val (.ref aTRUE), .val (.int (1 : Int32)), .unset, .unset] [(.int (1 : Int32))])) _
        refine XS.goto X65.here hx rfl (pc0 := 81) (pc' := 85) rfl (hb hby at_81) (by decide) (by decide) ?_
        show Steps p.tables e below (T65.setTop (mkF m 85 #[.val (.int p1), .val (.int p2), .val (.int (1 : Int32)), .val (.int (1 : Int32)), .val (.ref aTRUE), .val (.ref aTRUE), .val (.int (1 : Int32)), .unset, .unset] [(.int (1 : Int32))])) _
        refine XS.iloadN X65.here hx rfl (hb hby at_85) rfl ?_
        show Steps p.tables e below (T65.setTop (mkF m 86 #[.val (.int p1), .val (.int p2), .val (.int (1 : Int32)), .val (.int (1 : Int32)), .val (.ref aTRUE), .val (.ref aTRUE), .val (.int (1 : Int32)), .unset, .unset] [(.int (1 : Int32)), (.int (1 : Int32))])) _
        refine XS.iloadN X65.here hx rfl (hb hby at_86) rfl ?_
        show Steps p.tables e below (T65.setTop (mkF m 87 #[.val (.int p1), .val (.int p2), .val (.int (1 : Int32)), .val (.int (1 : Int32)), .val (.ref aTRUE), .val (.ref aTRUE), .val (.int (1 : Int32)), .unset, .unset] [(.int (1 : Int32)), (.int (1 : Int32)), (.int (1 : Int32))])) _
        refine XS.icmpNo X65.here hx rfl (hb hby at_87) rfl (XT.ii_ne_f (by decide)) ?_
        show Steps p.tables e below (T65.setTop (mkF m 90 #[.val (.int p1), .val (.int p2), .val (.int (1 : Int32)), .val (.int (1 : Int32)), .val (.ref aTRUE), .val (.ref aTRUE), .val (.int (1 : Int32)), .unset, .unset] [(.int (1 : Int32))])) _
        refine XS.iconst X65.here hx rfl (hb hby at_90) ?_
        show Steps p.tables e below (T65.setTop (mkF m 91 #[.val (.int p1), .val (.int p2), .val (.int (1 : Int32)), .val (.int (1 : Int32)), .val (.ref aTRUE), .val (.ref aTRUE), .val (.int (1 : Int32)), .unset, .unset] [(.int (1 : Int32)), (.int (1 : Int32))])) _
        refine XS.goto X65.here hx rfl (pc0 := 91) (pc' := 95) rfl (hb hby at_91) (by decide) (by decide) ?_
        show Steps p.tables e below (T65.setTop (mkF m 95 #[.val (.int p1), .val (.int p2), .val (.int (1 : Int32)), .val (.int (1 : Int32)), .val (.ref aTRUE), .val (.ref aTRUE), .val (.int (1 : Int32)), .unset, .unset] [(.int (1 : Int32)), (.int (1 : Int32))])) _
        refine XS.icmpNo X65.here hx rfl (hb hby at_95) rfl (XT.ii_ne_f (by decide)) ?_
        show Steps p.tables e below (T65.setTop (mkF m 98 #[.val (.int p1), .val (.int p2), .val (.int (1 : Int32)), .val (.int (1 : Int32)), .val (.ref aTRUE), .val (.ref aTRUE), .val (.int (1 : Int32)), .unset, .unset] [])) _
        refine XS.iconst X65.here hx rfl (hb hby at_98) ?_
        show Steps p.tables e below (T65.setTop (mkF m 99 #[.val (.int p1), .val (.int p2), .val (.int (1 : Int32)), .val (.int (1 : Int32)), .val (.ref aTRUE), .val (.ref aTRUE), .val (.int (1 : Int32)), .unset, .unset] [(.int (1 : Int32))])) _
        refine XS.goto X65.here hx rfl (pc0 := 99) (pc' := 103) rfl (hb hby at_99) (by decide) (by decide) ?_
        show Steps p.tables e below (T65.setTop (mkF m 103 #[.val (.int p1), .val (.int p2), .val (.int (1 : Int32)), .val (.int (1 : Int32)), .val (.ref aTRUE), .val (.ref aTRUE), .val (.int (1 : Int32)), .unset, .unset] [(.int (1 : Int32))])) _
        refine XS.istore X65.here hx rfl (hb hby at_103) rfl (l' := #[.val (.int p1), .val (.int p2), .val (.int (1 : Int32)), .val (.int (1 : Int32)), .val (.ref aTRUE), .val (.ref aTRUE), .val (.int (1 : Int32)), .val (.int (1 : Int32)), .unset]) rfl ?_
        show Steps p.tables e below (T65.setTop (mkF m 105 #[.val (.int p1), .val (.int p2), .val (.int (1 : Int32)), .val (.int (1 : Int32)), .val (.ref aTRUE), .val (.ref aTRUE), .val (.int (1 : Int32)), .val (.int (1 : Int32)), .unset] [])) _
        refine XS.aload X65.here hx rfl (hb hby at_105) rfl rfl ?_
        show Steps p.tables e below (T65.setTop (mkF m 107 #[.val (.int p1), .val (.int p2), .val (.int (1 : Int32)), .val (.int (1 : Int32)), .val (.ref aTRUE), .val (.ref aTRUE), .val (.int (1 : Int32)), .val (.int (1 : Int32)), .unset] [(.ref aTRUE)])) _
        refine XS.aload X65.here hx rfl (hb hby at_107) rfl rfl ?_
        show Steps p.tables e below (T65.setTop (mkF m 109 #[.val (.int p1), .val (.int p2), .val (.int (1 : Int32)), .val (.int (1 : Int32)), .val (.ref aTRUE), .val (.ref aTRUE), .val (.int (1 : Int32)), .val (.int (1 : Int32)), .unset] [(.ref aTRUE), (.ref aTRUE)])) _
        exact k
      obtain ⟨cq68, kq68, qa68, qb68, qc68⟩ := isOf hZ e65 (E_aTRUE.ext O0.2)
      obtain ⟨_, _, ⟨T68, L68, k68, n68⟩, -, X68, ⟨Lc68, hQ68, l68, y68, z68⟩, st68⟩ := X65.virtualBack hx (y := (⟨"com/example/foretell/foretell/core/BooleanValue", "equals", "(Ljava/lang/Object;)Z"⟩ : MethodName)) (z := (⟨"com/example/foretell/foretell/core/BooleanValue", "equals", "(Ljava/lang/Object;)Z"⟩ : MethodName)) hown (mvT hZ (hw _ (List.mem_of_getElem? (i := 15) rfl))) (mvT hZ (hw _ (List.mem_of_getElem? (i := 16) rfl))) (notFace_of_selects (args := #[]) (mvT hZ (hw _ (List.mem_of_getElem? (i := 18) rfl)))) (mvT hZ (hw _ (List.mem_of_getElem? (i := 18) rfl))) (mvT hZ (hw _ (List.mem_of_getElem? (i := 17) rfl))) (by decide) (backOf (W := 0) (rm_eq l Z a0 hw [] aTRUE aTRUE h0 n0 O0) hZ (hw _ (List.mem_of_getElem? (i := 19) rfl)) (hw _ (List.mem_of_getElem? (i := 2) rfl)) (by decide) (by decide)) qa68 qc68 (g := (mkF m 109 #[.val (.int p1), .val (.int p2), .val (.int (1 : Int32)), .val (.int (1 : Int32)), .val (.ref aTRUE), .val (.ref aTRUE), .val (.int (1 : Int32)), .val (.int (1 : Int32)), .unset] [(.ref aTRUE), (.ref aTRUE)])) rfl (by rw [hml]; rfl) (Steps.refl _) (argsL := [(.ref aTRUE)]) (rest := []) (lenOf pd_law_2 rfl) rfl (by show 2 * 0 + _ ≤ _; exact Nat.le_of_eq rfl) (hb hby at_109) (fun _ _ => ⟨rfl, e65, (by decide : 0 + 0 ≤ _), (by decide : 0 + 0 ≤ _)⟩)
      dsimp only [Pt.U, Pt.locs, Pt.cells, Pt.slots] at X68 l68 y68 z68 st68 hQ68
      subst l68 y68 z68
      obtain ⟨rfl, N68q, e68⟩ := hQ68
      have N68 := Fr.app N65 N68q
      have pre_69 : ∀ t, Steps p.tables e below (T68.setTop (mkF m 112 #[.val (.int p1), .val (.int p2), .val (.int (1 : Int32)), .val (.int (1 : Int32)), .val (.ref aTRUE), .val (.ref aTRUE), .val (.int (1 : Int32)), .val (.int (1 : Int32)), .unset] [(.int (if aTRUE = aTRUE then (1 : Int32) else (0 : Int32)))])) t → Steps p.tables e below (s₁.setTop (entryFrame m #[(.int p1), (.int p2)] maxLocals)) t := fun t k => pre_67 t (st68.trans k)
      have pre_70 : ∀ t, Steps p.tables e below (T68.setTop (mkF m 152 #[.val (.int p1), .val (.int p2), .val (.int (1 : Int32)), .val (.int (1 : Int32)), .val (.ref aTRUE), .val (.ref aTRUE), .val (.int (1 : Int32)), .val (.int (1 : Int32)), .val (.int (1 : Int32))] [(.int (1 : Int32))])) t → Steps p.tables e below (s₁.setTop (entryFrame m #[(.int p1), (.int p2)] maxLocals)) t := by
        intro t k
        refine pre_69 t ?_
        show Steps p.tables e below (T68.setTop (mkF m 112 #[.val (.int p1), .val (.int p2), .val (.int (1 : Int32)), .val (.int (1 : Int32)), .val (.ref aTRUE), .val (.ref aTRUE), .val (.int (1 : Int32)), .val (.int (1 : Int32)), .unset] [(.int (if aTRUE = aTRUE then (1 : Int32) else (0 : Int32)))])) _
        refine XS.iloadN X68.here hx rfl (hb hby at_112) rfl ?_
        show Steps p.tables e below (T68.setTop (mkF m 113 #[.val (.int p1), .val (.int p2), .val (.int (1 : Int32)), .val (.int (1 : Int32)), .val (.ref aTRUE), .val (.ref aTRUE), .val (.int (1 : Int32)), .val (.int (1 : Int32)), .unset] [(.int (1 : Int32)), (.int (if aTRUE = aTRUE then (1 : Int32) else (0 : Int32)))])) _
        refine XS.iloadN X68.here hx rfl (hb hby at_113) rfl ?_
        show Steps p.tables e below (T68.setTop (mkF m 114 #[.val (.int p1), .val (.int p2), .val (.int (1 : Int32)), .val (.int (1 : Int32)), .val (.ref aTRUE), .val (.ref aTRUE), .val (.int (1 : Int32)), .val (.int (1 : Int32)), .unset] [(.int (1 : Int32)), (.int (1 : Int32)), (.int (if aTRUE = aTRUE then (1 : Int32) else (0 : Int32)))])) _
        refine XS.icmpNo X68.here hx rfl (hb hby at_114) rfl (XT.ii_ne_f (by decide)) ?_
        show Steps p.tables e below (T68.setTop (mkF m 117 #[.val (.int p1), .val (.int p2), .val (.int (1 : Int32)), .val (.int (1 : Int32)), .val (.ref aTRUE), .val (.ref aTRUE), .val (.int (1 : Int32)), .val (.int (1 : Int32)), .unset] [(.int (if aTRUE = aTRUE then (1 : Int32) else (0 : Int32)))])) _
        refine XS.iconst X68.here hx rfl (hb hby at_117) ?_
        show Steps p.tables e below (T68.setTop (mkF m 118 #[.val (.int p1), .val (.int p2), .val (.int (1 : Int32)), .val (.int (1 : Int32)), .val (.ref aTRUE), .val (.ref aTRUE), .val (.int (1 : Int32)), .val (.int (1 : Int32)), .unset] [(.int (1 : Int32)), (.int (if aTRUE = aTRUE then (1 : Int32) else (0 : Int32)))])) _
        refine XS.goto X68.here hx rfl (pc0 := 118) (pc' := 122) rfl (hb hby at_118) (by decide) (by decide) ?_
        show Steps p.tables e below (T68.setTop (mkF m 122 #[.val (.int p1), .val (.int p2), .val (.int (1 : Int32)), .val (.int (1 : Int32)), .val (.ref aTRUE), .val (.ref aTRUE), .val (.int (1 : Int32)), .val (.int (1 : Int32)), .unset] [(.int (1 : Int32)), (.int (if aTRUE = aTRUE then (1 : Int32) else (0 : Int32)))])) _
        refine XS.icmpNo X68.here hx rfl (hb hby at_122) rfl (XT.ii_ne_f (by simp only [if_pos (rfl : aTRUE = aTRUE)] <;> decide)) ?_
        show Steps p.tables e below (T68.setTop (mkF m 125 #[.val (.int p1), .val (.int p2), .val (.int (1 : Int32)), .val (.int (1 : Int32)), .val (.ref aTRUE), .val (.ref aTRUE), .val (.int (1 : Int32)), .val (.int (1 : Int32)), .unset] [])) _
        refine XS.iconst X68.here hx rfl (hb hby at_125) ?_
        show Steps p.tables e below (T68.setTop (mkF m 126 #[.val (.int p1), .val (.int p2), .val (.int (1 : Int32)), .val (.int (1 : Int32)), .val (.ref aTRUE), .val (.ref aTRUE), .val (.int (1 : Int32)), .val (.int (1 : Int32)), .unset] [(.int (1 : Int32))])) _
        refine XS.goto X68.here hx rfl (pc0 := 126) (pc' := 130) rfl (hb hby at_126) (by decide) (by decide) ?_
        show Steps p.tables e below (T68.setTop (mkF m 130 #[.val (.int p1), .val (.int p2), .val (.int (1 : Int32)), .val (.int (1 : Int32)), .val (.ref aTRUE), .val (.ref aTRUE), .val (.int (1 : Int32)), .val (.int (1 : Int32)), .unset] [(.int (1 : Int32))])) _
        refine XS.istore X68.here hx rfl (hb hby at_130) rfl (l' := #[.val (.int p1), .val (.int p2), .val (.int (1 : Int32)), .val (.int (1 : Int32)), .val (.ref aTRUE), .val (.ref aTRUE), .val (.int (1 : Int32)), .val (.int (1 : Int32)), .val (.int (1 : Int32))]) rfl ?_
        show Steps p.tables e below (T68.setTop (mkF m 132 #[.val (.int p1), .val (.int p2), .val (.int (1 : Int32)), .val (.int (1 : Int32)), .val (.ref aTRUE), .val (.ref aTRUE), .val (.int (1 : Int32)), .val (.int (1 : Int32)), .val (.int (1 : Int32))] [])) _
        refine XS.iload X68.here hx rfl (hb hby at_132) rfl ?_
        show Steps p.tables e below (T68.setTop (mkF m 134 #[.val (.int p1), .val (.int p2), .val (.int (1 : Int32)), .val (.int (1 : Int32)), .val (.ref aTRUE), .val (.ref aTRUE), .val (.int (1 : Int32)), .val (.int (1 : Int32)), .val (.int (1 : Int32))] [(.int (1 : Int32))])) _
        refine XS.ifNo X68.here hx rfl (hb hby at_134) rfl (XT.i0_eq_f (by decide)) ?_
        show Steps p.tables e below (T68.setTop (mkF m 137 #[.val (.int p1), .val (.int p2), .val (.int (1 : Int32)), .val (.int (1 : Int32)), .val (.ref aTRUE), .val (.ref aTRUE), .val (.int (1 : Int32)), .val (.int (1 : Int32)), .val (.int (1 : Int32))] [])) _
        refine XS.iload X68.here hx rfl (hb hby at_137) rfl ?_
        show Steps p.tables e below (T68.setTop (mkF m 139 #[.val (.int p1), .val (.int p2), .val (.int (1 : Int32)), .val (.int (1 : Int32)), .val (.ref aTRUE), .val (.ref aTRUE), .val (.int (1 : Int32)), .val (.int (1 : Int32)), .val (.int (1 : Int32))] [(.int (1 : Int32))])) _
        refine XS.ifNo X68.here hx rfl (hb hby at_139) rfl (XT.i0_eq_f (by decide)) ?_
        show Steps p.tables e below (T68.setTop (mkF m 142 #[.val (.int p1), .val (.int p2), .val (.int (1 : Int32)), .val (.int (1 : Int32)), .val (.ref aTRUE), .val (.ref aTRUE), .val (.int (1 : Int32)), .val (.int (1 : Int32)), .val (.int (1 : Int32))] [])) _
        refine XS.iload X68.here hx rfl (hb hby at_142) rfl ?_
        show Steps p.tables e below (T68.setTop (mkF m 144 #[.val (.int p1), .val (.int p2), .val (.int (1 : Int32)), .val (.int (1 : Int32)), .val (.ref aTRUE), .val (.ref aTRUE), .val (.int (1 : Int32)), .val (.int (1 : Int32)), .val (.int (1 : Int32))] [(.int (1 : Int32))])) _
        refine XS.ifNo X68.here hx rfl (hb hby at_144) rfl (XT.i0_eq_f (by decide)) ?_
        show Steps p.tables e below (T68.setTop (mkF m 147 #[.val (.int p1), .val (.int p2), .val (.int (1 : Int32)), .val (.int (1 : Int32)), .val (.ref aTRUE), .val (.ref aTRUE), .val (.int (1 : Int32)), .val (.int (1 : Int32)), .val (.int (1 : Int32))] [])) _
        refine XS.iconst X68.here hx rfl (hb hby at_147) ?_
        show Steps p.tables e below (T68.setTop (mkF m 148 #[.val (.int p1), .val (.int p2), .val (.int (1 : Int32)), .val (.int (1 : Int32)), .val (.ref aTRUE), .val (.ref aTRUE), .val (.int (1 : Int32)), .val (.int (1 : Int32)), .val (.int (1 : Int32))] [(.int (1 : Int32))])) _
        refine XS.goto X68.here hx rfl (pc0 := 148) (pc' := 152) rfl (hb hby at_148) (by decide) (by decide) ?_
        show Steps p.tables e below (T68.setTop (mkF m 152 #[.val (.int p1), .val (.int p2), .val (.int (1 : Int32)), .val (.int (1 : Int32)), .val (.ref aTRUE), .val (.ref aTRUE), .val (.int (1 : Int32)), .val (.int (1 : Int32)), .val (.int (1 : Int32))] [(.int (1 : Int32))])) _
        exact k
      obtain ⟨fs, hr, hrun, hended, hW, hsame⟩ := X68.leave (v := some (.int (1 : Int32))) (fun h => by rw [Bd.returns] at h; cases h)
      refine ⟨_, _, pre_70 _ ?_, hrun, hended, _, _, rfl, ?_, ⟨_, rfl⟩, hW, hsame.mono (by decide) (by decide)⟩
      · show Steps p.tables e below (T68.setTop (mkF m 152 #[.val (.int p1), .val (.int p2), .val (.int (1 : Int32)), .val (.int (1 : Int32)), .val (.ref aTRUE), .val (.ref aTRUE), .val (.int (1 : Int32)), .val (.int (1 : Int32)), .val (.int (1 : Int32))] [(.int (1 : Int32))])) _
        exact retN X68 hx (t := .boolean) Bd.returns (by simp) (hb hby at_152) hr
      · show Q_law Z p1 p2 aFALSE aTRUE h0 n0 _ T68.heap _
        rw [e68]
        exact ⟨rfl, N68⟩
set_option maxRecDepth 65536 in
set_option maxHeartbeats 40000000 in
theorem comes_1 {Post : Tables → Env → Array Value → State → Outcome → State → Prop} (hpost : ∀ tb e args s v u, (limb_1_1.after args s (.returned v) u = true ∧ limb_1_2.after args s (.returned v) u = true ∧ True) → FrameEnd s (.returned v) u (Jvm.fieldLocs frame_1_writes args s ++ Jvm.arrayLocs frame_1_arrays args s ++ Jvm.staticLocs frame_1_statics s) 0 0 → Post tb e args s (.returned v) u) :
    ArmFor flags0 classFile x code maxLocals ret World_1 tables_1 room_1 Calls_1 rest_1 Pre_1 Post := by
  intro l hfl _ _ p e ha hc hk s m args below hf hA hF happ hP
  obtain ⟨hcalls, hrest, hpre⟩ := hP
  obtain ⟨-, -, -, hnamed, -, -, -, hat⟩ := (Spec.applies_iff hf).mp happ
  obtain ⟨hg, hn⟩ := and_e (Cond.before_iff.mp (show (Jvm.Cond.and given_1 narrow_1).before args s = true from hpre))
  obtain ⟨hg0, hgs⟩ := and_e hg
  obtain ⟨w0, w1, rfl⟩ : ∃ w0 w1 : Value, args = #[w0, w1] := by
    have hs : args.size = 2 := by simpa [Cond.value, given_1] using hg0
    obtain ⟨L⟩ := args
    match L, hs with
    | [w0, w1], _ => exact ⟨w0, w1, rfl⟩
  have hw := fun d (hd : d ∈ tables_1) => atoms_spec (ws := Jvm.Cond.code x code maxLocals ret :: tables_1) hat d (List.mem_cons_of_mem _ hd)
  have hfit : Fit s := fun {y c} hc i hi => by
    obtain ⟨ha, rfl⟩ := Array.getElem?_eq_some_iff.mp hc
    have q := List.all_eq_true.mp ((Array.all_eq_true_iff_forall_mem.mp hF) _ (Array.getElem_mem ha)) i (List.mem_range.mpr hi)
    simpa [Array.getElem?_eq_getElem hi] using q
  obtain ⟨ha0, hgs0⟩ := and_e hgs
  obtain ⟨i0, ei0⟩ := is_v ha0
  obtain rfl : w0 = (.int i0) := Option.some.inj ei0
  obtain ⟨i1, ei1⟩ := is_v hgs0
  obtain rfl : w1 = (.int i1) := Option.some.inj ei1
  obtain ⟨hn0, hr0⟩ := and_e hn
  obtain ⟨hn1, hr1⟩ := and_e hr0
  obtain ⟨hn2, hr2⟩ := and_e hr1
  obtain ⟨hn3, hr3⟩ := and_e hr2
  have hn4 := hr3
  obtain ⟨aFALSE, evaFALSE⟩ := exa_v hn0
  have S_aFALSE := Sta.start evaFALSE (Or.inr ⟨(hw _ (List.mem_of_getElem? (i := 2) rfl)), (hw _ (List.mem_of_getElem? (i := 5) rfl))⟩)
  have E_aFALSE := Exa.start evaFALSE hn0
  obtain ⟨aTRUE, evaTRUE⟩ := exa_v hn1
  have S_aTRUE := Sta.start evaTRUE (Or.inr ⟨(hw _ (List.mem_of_getElem? (i := 2) rfl)), (hw _ (List.mem_of_getElem? (i := 7) rfl))⟩)
  have E_aTRUE := Exa.start evaTRUE hn1
  have F_aFALSE_value := Fld.start ((fld_at evaFALSE).symm.trans (own_eqc hn2))
  have F_aTRUE_value := Fld.start ((fld_at evaTRUE).symm.trans (own_eqc hn3))
  have neFT : ¬ aFALSE = aTRUE := fun q => gotF (eq_R evaFALSE evaTRUE rfl rfl) (not_v hn4) (by rw [q])
  obtain ⟨n, o, h1, h2, h3, _, L, rfl, ⟨rfl, N⟩, hq⟩ := rm_law l s _ hw tables_1 i0 i1 aFALSE aTRUE s.heap s.heap.size (Old.start s) S_aFALSE E_aFALSE S_aTRUE E_aTRUE F_aFALSE_value F_aTRUE_value neFT p e ha hc hk s m _ below hf ((Spec.applies_iff_loose hf).mp happ).1 ⟨rfl, State.Warmed39.refl s, rfl⟩ trivial
  refine ⟨n, _, h1, h2, h3, hpost _ _ _ _ _ _ ⟨Cond.after_iff.mpr rfl, Cond.after_iff.mpr (eq_i res_at (Term.int_eval (1)) rfl), trivial⟩ ⟨hq.1, hq.2.1, (hq.2.2.sift fun y hy => Or.inr (N y hy)).mono (by decide) (by decide)⟩⟩
theorem main_1_1 : Claimed_1_1 := comes_1 fun _ _ _ _ _ _ h hF => ⟨h.1, hF⟩
theorem main_1_2 : Claimed_1_2 := comes_1 fun _ _ _ _ _ _ h hF => ⟨h.2.1, hF⟩
end Jvm.Pilot.@@N@@
namespace Jvm.Pilot.@@N@@
open Jvm Jvm.ClassFile Sem Op Lib Jvm.Free Jvm.Stand Jvm.Pilot.@@N@@.Jvm.D
/-! MADE BY PROGRAM (witnessworld.py) out of the Statement's table words and the real class files: 11 classes; the members and pool entries that the words name. The judged class is class 1, her method 1. -/
namespace start1
open Jvm.ClassFile
def u (s : String) : CpInfo := .utf8 (stringToUtf16 s)
/-- a pool by its gaps: so many unusable entries, then the entry; so many at the end -/
def gap : Nat → List CpInfo → List CpInfo
  | 0, r => r
  | n + 1, r => .unusable :: gap n r
def poolList (es : List (Nat × CpInfo)) (last : Nat) : List CpInfo := es.foldr (fun e r => gap e.1 (e.2 :: r)) (gap last [])
def pool (es : List (Nat × CpInfo)) (last : Nat) : Array CpInfo := ⟨poolList es last⟩
def fileOf (pool : Array CpInfo) (this : Nat) (attrs : Array Attribute := #[]) (ms : Array MethodInfo := #[]) (fl : Nat := 33) (sup : Nat := 0) (ifs : Array Nat := #[]) (fds : Array FieldInfo := #[]) : ClassFile where
  minorVersion := 0
  majorVersion := 65
  constantPool := pool
  accessFlags := fl
  thisClass := this
  superClass := sup
  interfaces := ifs
  fields := fds
  methods := ms
  attributes := attrs
def plain (name : String) (sup : Option ClassId) : Class where
  name := name
  kind := .ordinary
  loader := none
  accessFlags := 33
  super := sup
  interfaces := #[]
  cf := none
  fields := #[]
  methods := #[]
  instanceTypes := #[]
  staticTypes := #[]
  resolved := #[]
  callSites := []
  init := .initialized
  statics := none
  mirror := none

def pool0 : Array CpInfo := pool [(5, u "<init>"), (0, u "()V"), (1, .class_ 10), (1, u "java/lang/Object")] 113

def k0m0 : Method := { name := "<init>", desc := "()V", sig := { parameters := [], returnType := none }, accessFlags := 1, code := none }
/-- java/lang/Object -/
def k0 : Class := { plain "java/lang/Object" none with
  accessFlags := 33
  interfaces := #[]
  cf := some (fileOf pool0 8 #[] #[{ accessFlags := 1, nameIndex := 5, descriptorIndex := 6, attributes := #[] }] 33 0 #[] #[])
  fields := #[]
  methods := #[k0m0]
  instanceTypes := #[]
  staticTypes := #[]
  resolved := Array.replicate 124 none
  statics := none }

def pool1 : Array CpInfo := pool [(2, .class_ 4), (1, u "java/lang/Object"), (0, u "<init>"), (0, u "()V"), (0, .methodref 8 9), (0, .class_ 10), (0, .nameAndType 11 12), (0, u "com/example/foretell/foretell/core/BooleanValue"), (0, u "of"), (0, u "(Z)Lcom/example/foretell/foretell/core/BooleanValue;"), (0, .methodref 8 14), (0, .nameAndType 15 16), (0, u "value"), (0, u "()Z"), (0, .methodref 8 18), (0, .nameAndType 19 20), (0, u "equals"), (0, u "(Ljava/lang/Object;)Z"), (0, .class_ 22), (0, u "com/example/foretell/foretell/core/BooleanValueOfPinLaw"), (2, u "law"), (0, u "(II)Z")] 3

def k1m0 : Method := { name := "<init>", desc := "()V", sig := { parameters := [], returnType := none }, accessFlags := 2, code := none }
def k1c1 : Code := { maxStack := 3, maxLocals := 9, code := code, exceptionTable := #[], attributes := #[] }
def k1m1 : Method := { name := "law", desc := "(II)Z", sig := { parameters := [.int, .int], returnType := some .boolean }, accessFlags := 9, code := some k1c1 }
/-- com/example/foretell/foretell/core/BooleanValueOfPinLaw -/
def k1 : Class := { plain "com/example/foretell/foretell/core/BooleanValueOfPinLaw" (some 0) with
  accessFlags := 49
  interfaces := #[]
  cf := some (fileOf pool1 21 #[] #[{ accessFlags := 2, nameIndex := 5, descriptorIndex := 6, attributes := #[] }, { accessFlags := 9, nameIndex := 25, descriptorIndex := 26, attributes := #[] }] 49 2 #[] #[])
  fields := #[]
  methods := #[k1m0, k1m1]
  instanceTypes := #[]
  staticTypes := #[]
  resolved := Array.replicate 30 none
  statics := none }

def pool2 : Array CpInfo := pool [(1, .class_ 2), (0, u "java/lang/Comparable"), (0, .class_ 4), (0, u "java/lang/Object")] 7

/-- java/lang/Comparable -/
def k2 : Class := { plain "java/lang/Comparable" (some 0) with
  accessFlags := 1537
  interfaces := #[]
  cf := some (fileOf pool2 1 #[] #[] 1537 3 #[] #[])
  fields := #[]
  methods := #[]
  instanceTypes := #[]
  staticTypes := #[]
  resolved := Array.replicate 12 none
  statics := none }

def pool3 : Array CpInfo := pool [(2, .class_ 4), (1, u "java/lang/Object"), (0, u "<init>"), (0, u "()V"), (1, .class_ 10), (1, u "com/example/foretell/foretell/core/Value"), (3, .class_ 16), (1, u "com/example/foretell/foretell/core/Value$Sort"), (57, .class_ 75), (0, u "java/lang/Comparable")] 31

def k3m0 : Method := { name := "<init>", desc := "()V", sig := { parameters := [], returnType := none }, accessFlags := 0, code := none }
/-- com/example/foretell/foretell/core/Value -/
def k3 : Class := { plain "com/example/foretell/foretell/core/Value" (some 0) with
  accessFlags := 1057
  interfaces := #[2]
  cf := some (fileOf pool3 8 #[.nestMembers #[14]] #[{ accessFlags := 0, nameIndex := 5, descriptorIndex := 6, attributes := #[] }] 1057 2 #[74] #[])
  fields := #[]
  methods := #[k3m0]
  instanceTypes := #[]
  staticTypes := #[]
  resolved := Array.replicate 107 none
  statics := none }

def pool4 : Array CpInfo := pool [(2, .class_ 4), (1, u "com/example/foretell/foretell/core/Value"), (2, .fieldref 8 9), (0, .class_ 10), (0, .nameAndType 11 12), (0, u "com/example/foretell/foretell/core/BooleanValue"), (0, u "value"), (0, u "Z"), (0, .fieldref 8 14), (0, .nameAndType 15 16), (0, u "TRUE"), (0, u "Lcom/example/foretell/foretell/core/BooleanValue;"), (0, .fieldref 8 18), (0, .nameAndType 19 16), (0, u "FALSE"), (23, u "of"), (0, u "(Z)Lcom/example/foretell/foretell/core/BooleanValue;"), (1, u "()Z"), (4, u "equals"), (0, u "(Ljava/lang/Object;)Z")] 10

def k4c0 : Code := { maxStack := 1, maxLocals := 1, code := prog_17_method_2_code, exceptionTable := #[], attributes := #[] }
def k4m0 : Method := { name := "of", desc := "(Z)Lcom/example/foretell/foretell/core/BooleanValue;", sig := { parameters := [.boolean], returnType := some (.object "com/example/foretell/foretell/core/BooleanValue") }, accessFlags := 8, code := some k4c0 }
def k4c1 : Code := { maxStack := 1, maxLocals := 1, code := prog_17_method_3_code, exceptionTable := #[], attributes := #[] }
def k4m1 : Method := { name := "value", desc := "()Z", sig := { parameters := [], returnType := some .boolean }, accessFlags := 0, code := some k4c1 }
def k4c2 : Code := { maxStack := 2, maxLocals := 2, code := prog_17_method_6_code, exceptionTable := #[], attributes := #[] }
def k4m2 : Method := { name := "equals", desc := "(Ljava/lang/Object;)Z", sig := { parameters := [(.object "java/lang/Object")], returnType := some .boolean }, accessFlags := 1, code := some k4c2 }
/-- com/example/foretell/foretell/core/BooleanValue -/
def k4 : Class := { plain "com/example/foretell/foretell/core/BooleanValue" (some 3) with
  accessFlags := 48
  interfaces := #[]
  cf := some (fileOf pool4 8 #[] #[{ accessFlags := 8, nameIndex := 43, descriptorIndex := 44, attributes := #[] }, { accessFlags := 0, nameIndex := 11, descriptorIndex := 46, attributes := #[] }, { accessFlags := 1, nameIndex := 51, descriptorIndex := 52, attributes := #[] }] 48 2 #[] #[{ accessFlags := 24, nameIndex := 15, descriptorIndex := 16, attributes := #[] }, { accessFlags := 24, nameIndex := 19, descriptorIndex := 16, attributes := #[] }, { accessFlags := 18, nameIndex := 11, descriptorIndex := 12, attributes := #[] }])
  fields := #[{ name := "TRUE", type := (.object "com/example/foretell/foretell/core/BooleanValue"), accessFlags := 24, slot := 0, constantValue := 0 }, { name := "FALSE", type := (.object "com/example/foretell/foretell/core/BooleanValue"), accessFlags := 24, slot := 1, constantValue := 0 }, { name := "value", type := .boolean, accessFlags := 18, slot := 0, constantValue := 0 }]
  methods := #[k4m0, k4m1, k4m2]
  instanceTypes := #[.boolean]
  staticTypes := #[(.object "com/example/foretell/foretell/core/BooleanValue"), (.object "com/example/foretell/foretell/core/BooleanValue")]
  resolved := Array.replicate 63 none
  statics := some 0 }

def pool5 : Array CpInfo := pool [(1, u "java/lang/Cloneable"), (0, .class_ 1), (0, u "java/lang/Object"), (0, .class_ 3)] 3

/-- java/lang/Cloneable -/
def k5 : Class := { plain "java/lang/Cloneable" (some 0) with
  accessFlags := 1537
  interfaces := #[]
  cf := some (fileOf pool5 2 #[] #[] 1537 4 #[] #[])
  fields := #[]
  methods := #[]
  instanceTypes := #[]
  staticTypes := #[]
  resolved := Array.replicate 8 none
  statics := none }

def pool6 : Array CpInfo := pool [(1, u "java/io/Serializable"), (0, .class_ 1), (0, u "java/lang/Object"), (0, .class_ 3)] 3

/-- java/io/Serializable -/
def k6 : Class := { plain "java/io/Serializable" (some 0) with
  accessFlags := 1537
  interfaces := #[]
  cf := some (fileOf pool6 2 #[] #[] 1537 4 #[] #[])
  fields := #[]
  methods := #[]
  instanceTypes := #[]
  staticTypes := #[]
  resolved := Array.replicate 8 none
  statics := none }

/-- the primitive byte -/
def k7 : Class := { plain "byte" none with kind := .primitive 'B', accessFlags := 0x411 }
/-- [B -/
def k8 : Class := { plain "[B" (some 0) with kind := .array 7 .byte, interfaces := #[5, 6], accessFlags := 1041 }

/-- the primitive int -/
def k9 : Class := { plain "int" none with kind := .primitive 'I', accessFlags := 0x411 }
/-- [I -/
def k10 : Class := { plain "[I" (some 0) with kind := .array 9 .int, interfaces := #[5, 6], accessFlags := 1041 }

def heap : Heap := #[{ cls := 4, slots := #[.ref 2, .ref 1], vm := .statics 4 },
  { cls := 4, slots := #[.int 0], vm := .none },
  { cls := 4, slots := #[.int 1], vm := .none }]
def classes : Array Class := #[k0, k1, k2, k3, k4, k5, k6, k7, k8, k9, k10]
def interned : List (Array UInt16 × Addr) := []
def slotsUsed : Nat := 4
def theMethod : MethodId := ⟨1, 1⟩
def args0 : Array Value := #[.int 5, .int 6]
def aboutOver (below : List Frame) : State where
  vm := { classes := classes, interned := interned.toArray }
  heap := heap
  slotsUsed := slotsUsed
  threads := #[{ frames := .invoking theMethod args0 :: below }]
def below0 : List Frame := [.native { method := ⟨0, 0⟩, args := #[] }]
def about1 : State := aboutOver below0
def p0 : Program := .bare "" "" ""
def e0 : Env := launch0.env 0 0 0
theorem w_frames : about1.frames = Frame.invoking theMethod args0 :: below0 := rfl
set_option maxRecDepth 65536 in
theorem w_args : argsFit about1.vm theMethod args0 = true := by decide +kernel
set_option maxRecDepth 65536 in
theorem w_heap : heapFits about1 = true := by decide +kernel
set_option maxRecDepth 65536 in
theorem w_runnable : about1.curStatus? = some .runnable := by decide +kernel
set_option maxRecDepth 65536 in
theorem w_alone : about1.alone = true := by decide +kernel
set_option maxRecDepth 65536 in
theorem w_named : about1.methodNamed? x = some theMethod := by decide +kernel
set_option maxRecDepth 65536 in
theorem w_hears : about1.hears theMethod below0 = true := by decide +kernel
set_option maxRecDepth 65536 in
theorem w_ripe : about1.ripe theMethod args0 below0 = true := by decide +kernel
theorem w_running : about1.status = .running := rfl
set_option maxRecDepth 65536 in
theorem w_room : about1.hasRoom e0.platform room_1 = true :=
  launch0.hasRoom_least _ room_1 (by decide +kernel) (by decide +kernel) (by decide +kernel) (by decide +kernel) (by decide +kernel) (by decide +kernel)
theorem allAtoms_all (ts : List Jvm.Cond) (a : Array Jvm.Value) (st : Jvm.State) : (allAtoms ts).before a st = ts.all (fun c => c.before a st) := by
  induction ts with
  | nil => rfl
  | cons c t ih =>
    show (Jvm.Cond.and c (allAtoms t)).before a st = _
    rw [Jvm.Cond.before_and, ih, List.all_cons]
def words1 : List Jvm.Cond := Jvm.Cond.code x code maxLocals ret :: tables_1
/-- a 'code' word, met by the world's own term for the bytes: nothing is compared byte by byte -/
theorem code_word {y : MethodName} {bytes : ByteArray} {mx : Nat} {rt : Option FieldType} {a : Array Value} {s : State} {m : MethodId} {meth : Method} {c : Code} (h1 : s.methodNamed? y = some m) (h2 : s.vm.method? m = some meth) (h3 : meth.code = some c) (h4 : c.code = bytes)
    (h5 : (c.maxLocals == mx && c.exceptionTable.isEmpty && decide (c.maxStack ≤ mostOperands) && decide (meth.sig.returnType = rt) && !meth.locks && decide (parseMethodDescriptor y.desc = some meth.sig)) = true) : (Jvm.Cond.code y bytes mx rt).before a s = true := by
  simp only [Bool.and_eq_true, beq_iff_eq, Bool.not_eq_true', decide_eq_true_eq] at h5
  obtain ⟨⟨⟨⟨⟨g1, g2⟩, g3⟩, g4⟩, g5⟩, g6⟩ := h5
  simp [Cond.before, Cond.holds, Cond.value, h1, h2, h3, h4, g1, g2, g3, g4, g5, g6]
def isCode : Jvm.Cond → Bool
  | .code _ _ _ _ => true
  | _ => false
theorem all_split {L : List Jvm.Cond} {P : Jvm.Cond → Bool} (h1 : L.all (fun c => isCode c || P c) = true) (h2 : ∀ c ∈ L.filter isCode, P c = true) : L.all P = true := by
  refine List.all_eq_true.mpr fun c hc => ?_
  have h := List.all_eq_true.mp h1 c hc
  rcases Bool.eq_false_or_eq_true (isCode c) with hi | hi
  · exact h2 c (List.mem_filter.mpr ⟨hc, hi⟩)
  · simpa [hi] using h
set_option maxRecDepth 65536 in
theorem w_c0 : (Jvm.Cond.code x code maxLocals ret).before args0 about1 = true := code_word (m := ⟨1, 1⟩) (meth := k1m1) (c := k1c1) (by decide +kernel) rfl rfl rfl (by decide +kernel)
set_option maxRecDepth 65536 in
theorem w_c1 : (Jvm.Cond.code ({ cls := "com/example/foretell/foretell/core/BooleanValue", name := "of", desc := "(Z)Lcom/example/foretell/foretell/core/BooleanValue;" } : Jvm.MethodName) prog_17_method_2_code (1 : Nat) (Option.some (Jvm.ClassFile.FieldType.object "com/example/foretell/foretell/core/BooleanValue"))).before args0 about1 = true := code_word (m := ⟨4, 0⟩) (meth := k4m0) (c := k4c0) (by decide +kernel) rfl rfl rfl (by decide +kernel)
set_option maxRecDepth 65536 in
theorem w_c2 : (Jvm.Cond.code ({ cls := "com/example/foretell/foretell/core/BooleanValue", name := "value", desc := "()Z" } : Jvm.MethodName) prog_17_method_3_code (1 : Nat) (Option.some Jvm.ClassFile.FieldType.boolean)).before args0 about1 = true := code_word (m := ⟨4, 1⟩) (meth := k4m1) (c := k4c1) (by decide +kernel) rfl rfl rfl (by decide +kernel)
set_option maxRecDepth 65536 in
theorem w_c3 : (Jvm.Cond.code ({ cls := "com/example/foretell/foretell/core/BooleanValue", name := "equals", desc := "(Ljava/lang/Object;)Z" } : Jvm.MethodName) prog_17_method_6_code (2 : Nat) (Option.some Jvm.ClassFile.FieldType.boolean)).before args0 about1 = true := code_word (m := ⟨4, 2⟩) (meth := k4m2) (c := k4c2) (by decide +kernel) rfl rfl rfl (by decide +kernel)
def codes1 : List Jvm.Cond := [Jvm.Cond.code x code maxLocals ret, Jvm.Cond.code ({ cls := "com/example/foretell/foretell/core/BooleanValue", name := "of", desc := "(Z)Lcom/example/foretell/foretell/core/BooleanValue;" } : Jvm.MethodName) prog_17_method_2_code (1 : Nat) (Option.some (Jvm.ClassFile.FieldType.object "com/example/foretell/foretell/core/BooleanValue")), Jvm.Cond.code ({ cls := "com/example/foretell/foretell/core/BooleanValue", name := "value", desc := "()Z" } : Jvm.MethodName) prog_17_method_3_code (1 : Nat) (Option.some Jvm.ClassFile.FieldType.boolean), Jvm.Cond.code ({ cls := "com/example/foretell/foretell/core/BooleanValue", name := "equals", desc := "(Ljava/lang/Object;)Z" } : Jvm.MethodName) prog_17_method_6_code (2 : Nat) (Option.some Jvm.ClassFile.FieldType.boolean)]
set_option maxRecDepth 65536 in
theorem codes_eq : words1.filter isCode = codes1 := rfl
theorem w_codes : ∀ c ∈ words1.filter isCode, c.before args0 about1 = true := by
  rw [codes_eq]
  intro c hc
  simp only [codes1, List.mem_cons, List.not_mem_nil, or_false] at hc
  rcases hc with rfl | rfl | rfl | rfl
  · exact w_c0
  · exact w_c1
  · exact w_c2
  · exact w_c3
set_option maxRecDepth 65536 in
theorem w_t1 : words1.all (fun c => isCode c || c.before args0 about1) = true := by decide +kernel
theorem w_tables : (allAtoms (Jvm.Cond.code x code maxLocals ret :: tables_1)).before args0 about1 = true := by
  rw [allAtoms_all]
  show words1.all (fun c => c.before args0 about1) = true
  refine all_split ?_ w_codes
  rw [w_t1]
set_option maxRecDepth 65536 in
theorem w_case : (Jvm.Cond.and given_1 narrow_1).before args0 about1 = true := by decide +kernel
theorem w_applies : (headSpec (Jvm.Cond.code x code maxLocals ret :: tables_1) room_1).applies x e0.platform about1 = true :=
  (Spec.applies_iff w_frames).mpr ⟨w_running, w_runnable, w_alone, w_named, w_hears, w_ripe, w_room, w_tables⟩
theorem atStart : AtStart classFile x code maxLocals ret World_1 tables_1 room_1 Calls_1 rest_1 Pre_1 launch0 p0 e0 about1 theMethod args0 below0 :=
  ⟨lists_1, trivial, launch0.admits_env _ _ _, launch0.least_env, fairChoices_fair.cas, fairChoices_fair.clock, w_frames, w_args, w_heap, w_applies, trivial, trivial, w_case⟩
end start1
theorem witness_1 : WitnessClaimed_1 := ⟨start1.p0, start1.e0, start1.about1, start1.theMethod, start1.args0, start1.below0, start1.atStart⟩
end Jvm.Pilot.@@N@@
