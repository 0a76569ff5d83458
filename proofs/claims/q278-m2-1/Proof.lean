import JvmDerived
import JvmDerived.Pilot.@@N@@Statement
import JvmDerived.Pilot.@@N@@Code
set_option linter.unusedVariables false
set_option linter.unusedSimpArgs false
namespace Jvm.RoadKit
open Sem ClassFile Op Lib Jvm.Stand Jvm.Free Jvm.LawKit
section New
variable {p : Program} {l : Launch} {e : Env} {R : Room} {s : State} {m : MethodId} {args : Array Value} {below : List Frame} {meth : Method} {c : Code} {T : State} {locs : List Loc} {cells slots : Nat}
theorem retI (X : Stand p l e R s m args below meth c T locs cells slots) (hx : p.tables.exec = Jvm.exec) {pc : Nat} {Ls : Array Slot} {z : Int32} {rest : List Value} (hret : meth.sig.returnType = some .int) (hd : decode c.code pc = .ok (.ireturn, 1)) {fs : List Frame}
    (hl : ∀ (f : JFrame) (acts : List Action), f.method = m → f.locked = none → f.entered = [] → (doReturn e (T.setTop f) acts (some (.int z))).1 = T.setFrames fs) : Steps p.tables e below (T.setTop (mkF m pc Ls (.int z :: rest))) (T.setFrames fs) := by
  have hm' : T.vm.method? m = some meth := X.method'
  have hn : narrow .int (.int z) = .int z := rfl
  show Steps p.tables e below (T.setTop { method := m, pc := pc, locals := Ls, stack := _ :: rest, locked := none }) _
  jvm_step X.here [X.here.top, hx, hd, hm', hret, hn]
  first | (intro acts; rw [hl _ acts rfl rfl rfl]) | rw [hl _ _ rfl rfl rfl]
  exact Steps.refl _
end New
end Jvm.RoadKit

namespace Jvm.Pilot.@@N@@
open Jvm Jvm.ClassFile Sem Op Lib Jvm.Free Jvm.Stand Jvm.LawKit Jvm.RoadKit Bundle Jvm.Pilot.@@N@@.Jvm.D
theorem own_le {Z : State} {n0 : Nat} {h : Heap} (O : Old Z n0 h) : n0 ≤ h.size := O.1 ▸ O.2.1
theorem own_narb {c : Prop} [Decidable c] : nar .boolean (if c then (1 : Int32) else 0) = if c then (1 : Int32) else 0 := by split <;> rfl
theorem own_narb' {c : Prop} [Decidable c] : nar .boolean (if c then (0 : Int32) else 1) = if c then (0 : Int32) else 1 := by split <;> rfl
theorem own_eqc {t : Term} {k : Int32} {a0 : Array Value} {Z : State} (h : (Jvm.Cond.eq t (.int k)).value a0 Z none Z [] = some true) : t.eval a0 Z none [] Z = some (.int k) := by
  obtain ⟨x, y, e1, e2, k1, -⟩ := cmp_v (Or.inl h)
  obtain rfl : Value.int k = y := Option.some.inj ((Term.int_eval k).symm.trans e2)
  cases x <;> simp [Kin, Value.isRef] at k1
  simp [Jvm.Cond.value, e1, Term.int_eval] at h
  rw [e1, h]

theorem own_in0 {n : Int32} (h : ¬ n < (3 : Int32)) : ¬ (0 : Int32) < 0 ∧ (0 : Int32) < n := by
  simp only [Int32.lt_iff_toInt_lt] at *; have : (3 : Int32).toInt = 3 := rfl; have : (0 : Int32).toInt = 0 := rfl; omega
theorem own_in1 {n : Int32} (h : ¬ n < (3 : Int32)) : ¬ (1 : Int32) < 0 ∧ (1 : Int32) < n := by
  simp only [Int32.lt_iff_toInt_lt] at *; have : (3 : Int32).toInt = 3 := rfl; have : (0 : Int32).toInt = 0 := rfl; have : (1 : Int32).toInt = 1 := rfl; omega
theorem own_in2 {n : Int32} (h : ¬ n < (3 : Int32)) : ¬ (2 : Int32) < 0 ∧ (2 : Int32) < n := by
  simp only [Int32.lt_iff_toInt_lt] at *; have : (3 : Int32).toInt = 3 := rfl; have : (0 : Int32).toInt = 0 := rfl; have : (2 : Int32).toInt = 2 := rfl; omega
theorem own_nb (x : Int32) : nar .byte (x.toInt8.toInt32) = x.toInt8.toInt32 := by simp [nar]
theorem own_nbi (c : Prop) [Decidable c] (x k : Int32) (hk : nar .byte k = k) : nar .byte (if c then x.toInt8.toInt32 else k) = (if c then x.toInt8.toInt32 else k) := by
  split
  · exact own_nb x
  · exact hk
theorem own_rem (x : Int32) (m : Int32) (d : Int) (hm : m.toInt = d) (hd : 0 < d) : 0 ≤ ((x &&& (2147483647 : Int32)) % m).toInt ∧ ((x &&& (2147483647 : Int32)) % m).toInt < d := by
  have h1 := (c_and x (2147483647 : Int32) (by decide)).1
  have h2 := (c_irem (x &&& (2147483647 : Int32)) m d hm).1 h1
  rw [h2]
  exact ⟨Int.emod_nonneg _ (by omega), Int.emod_lt_of_pos _ hd⟩
theorem own_ln0 (x : Int32) : ((x &&& (2147483647 : Int32)) % (1 : Int32)) < (3 : Int32) := by
  have := own_rem x 1 1 rfl (by decide); rw [Int32.lt_iff_toInt_lt]; have : (3 : Int32).toInt = 3 := rfl; omega
theorem own_ln1 (x : Int32) : ((x &&& (2147483647 : Int32)) % (2 : Int32)) < (3 : Int32) := by
  have := own_rem x 2 2 rfl (by decide); rw [Int32.lt_iff_toInt_lt]; have : (3 : Int32).toInt = 3 := rfl; omega
theorem own_ln2 (x : Int32) : ((x &&& (2147483647 : Int32)) % (3 : Int32)) < (3 : Int32) := by
  have := own_rem x 3 3 rfl (by decide); rw [Int32.lt_iff_toInt_lt]; have : (3 : Int32).toInt = 3 := rfl; omega
theorem own_six (x : Int32) : ((x &&& (7 : Int32)) % (6 : Int32)) = (0 : Int32) ∨ ((x &&& (7 : Int32)) % (6 : Int32)) = (1 : Int32) ∨ ((x &&& (7 : Int32)) % (6 : Int32)) = (2 : Int32) ∨ ((x &&& (7 : Int32)) % (6 : Int32)) = (3 : Int32) ∨ ((x &&& (7 : Int32)) % (6 : Int32)) = (4 : Int32) ∨ ((x &&& (7 : Int32)) % (6 : Int32)) = (5 : Int32) := by
  have h1 := (c_and x (7 : Int32) (by decide)).1
  have h2 := (c_irem (x &&& (7 : Int32)) 6 6 rfl).1 h1
  have h3 : 0 ≤ ((x &&& (7 : Int32)) % (6 : Int32)).toInt ∧ ((x &&& (7 : Int32)) % (6 : Int32)).toInt < 6 := by
    rw [h2]; exact ⟨Int.emod_nonneg _ (by omega), Int.emod_lt_of_pos _ (by omega)⟩
  have e0 : (0 : Int32).toInt = 0 := rfl
  have e1 : (1 : Int32).toInt = 1 := rfl
  have e2 : (2 : Int32).toInt = 2 := rfl
  have e3 : (3 : Int32).toInt = 3 := rfl
  have e4 : (4 : Int32).toInt = 4 := rfl
  have e5 : (5 : Int32).toInt = 5 := rfl
  simp only [← Int32.toInt_inj, e0, e1, e2, e3, e4, e5]
  omega
theorem own_len {t : Term} {a : Addr} {cl : Cell} {k : Int32} {a0 : Array Value} {Z : State} (ev : t.eval a0 Z none [] Z = some (.ref a)) (ha : Z.arrayAt? a = some cl) (h : (Term.length t).eval a0 Z none [] Z = some (.int k)) : cl.slots.size < 2 ^ 31 ∧ cl.slots.size.toInt32 = k := by
  simp [Term.eval, ev, ha] at h
  exact h

theorem d_make0_0 : decode method_2_code 0 = .ok (.iload_n 0, 1) := by decide +kernel
theorem d_make0_1 : decode method_2_code 1 = .ok (.ifCond .ne 7, 3) := by decide +kernel
theorem d_make0_4 : decode method_2_code 4 = .ok (.iconst 0, 1) := by decide +kernel
theorem d_make0_5 : decode method_2_code 5 = .ok (.newarray .byte, 2) := by decide +kernel
theorem d_make0_7 : decode method_2_code 7 = .ok (.areturn, 1) := by decide +kernel
theorem pn_make0 : plainName "com/example/tranche/tranche/TextFileTextStartPinLaw" = true := by first | (simp [plainName, overriddenIn]; done) | decide +kernel
theorem ef_make0 (m : MethodId)  : entryFrame m #[(.int (0 : Int32))] 1 = (mkF m 0 #[.val (.int (0 : Int32))] []) := by first | (simp [entryFrame, mkF, argsToLocals, Value.category]; done) | rfl
def Q_make0 (Z : State)   (h0 : Heap) (n0 : Nat) (v : Option Value) (h : Heap) (L : List Loc) : Prop := ∃ b cA, v = some (.ref b) ∧ Fr n0 L ∧ Keep h0 h [] ∧ n0 ≤ b ∧ Arv Z h b cA .byte (0 : Int32) [] (.int (0 : Int32))
set_option maxRecDepth 65536 in
set_option maxHeartbeats 40000000 in
theorem rm_make0 (l : Launch) (Z : State) (a0 : Array Value) (hw : ∀ d ∈ tables_1, d.before a0 Z = true) (ws : List Jvm.Cond)   (h0 : Heap) (n0 : Nat) (O0 : Old Z n0 h0)  :
    MetFree l (⟨"com/example/tranche/tranche/TextFileTextStartPinLaw", "make", "(I)[B"⟩ : MethodName) (head1 (Jvm.Cond.code (⟨"com/example/tranche/tranche/TextFileTextStartPinLaw", "make", "(I)[B"⟩ : MethodName) method_2_code 1 (some (.array .byte)) :: ws) ({ frames := 0, cells := 1, slots := 0, locals := 0 } : Room)) (fun a U => a = #[(.int (0 : Int32))] ∧ Z.Warmed39 U.vm ∧ U.heap = h0) (fun _ _ _ _ _ => True) (fun _ U o U' => ∃ v L, o = .returned v ∧ Q_make0 Z   h0 n0 v U'.heap L ∧ FrameEnd U o U' L ({ frames := 0, cells := 1, slots := 0, locals := 0 } : Room).cells ({ frames := 0, cells := 1, slots := 0, locals := 0 } : Room).slots) := by
  refine MetFree.of_bodySF (plainFor_of_name pn_make0) hisR ?_
  intro p e s m args below meth c s₁ Bd hml0 hP hK
  obtain ⟨rfl, hZ, hh⟩ := hP
  have hx := Bd.exec
  have hby := Bd.bytes
  have hml : c.maxLocals = 1 := hml0
  have hown : s.vm.findClass "com/example/tranche/tranche/TextFileTextStartPinLaw" = some m.cls := findClass_of_methodNamed Bd.named
  have hnm := (name_of_methodNamed Bd.named Bd.method).1
  have X0 : Stand p l e ({ frames := 0, cells := 1, slots := 0, locals := 0 } : Room) s m #[(.int (0 : Int32))] below meth c s₁ [] 0 0 := Stand.of_body Bd
  have e0 : s₁.heap = h0 := by rw [← hh, Bd.state]; rfl
  have N0 := Fr.nil n0
  have pre0 : ∀ t, Steps p.tables e below (s₁.setTop (mkF m 0 #[.val (.int (0 : Int32))] [])) t → Steps p.tables e below (s₁.setTop (entryFrame m #[(.int (0 : Int32))] 1)) t := fun t k => castTop (ef_make0 m ) k
  have pre_1 : ∀ t, Steps p.tables e below (s₁.setTop (mkF m 5 #[.val (.int (0 : Int32))] [(.int (0 : Int32))])) t → Steps p.tables e below (s₁.setTop (entryFrame m #[(.int (0 : Int32))] 1)) t := by
    intro t k
    refine pre0 t ?_
    show Steps p.tables e below (s₁.setTop (mkF m 0 #[.val (.int (0 : Int32))] [])) _
    refine XS.iloadN X0.here hx rfl (hb hby d_make0_0) rfl ?_
    show Steps p.tables e below (s₁.setTop (mkF m 1 #[.val (.int (0 : Int32))] [(.int (0 : Int32))])) _
    refine XS.ifNo X0.here hx rfl (hb hby d_make0_1) rfl (XT.i0_ne_f (by decide)) ?_
    show Steps p.tables e below (s₁.setTop (mkF m 4 #[.val (.int (0 : Int32))] [])) _
    refine XS.iconst X0.here hx rfl (hb hby d_make0_4) ?_
    show Steps p.tables e below (s₁.setTop (mkF m 5 #[.val (.int (0 : Int32))] [(.int (0 : Int32))])) _
    exact k
  obtain ⟨T2, h2, cA2, X2, e2, E2, A2, st2⟩ := newP X0 hx hZ (hw _ (List.mem_of_getElem? (i := 5) rfl)) e0 (g := (mkF m 5 #[.val (.int (0 : Int32))] [(.int (0 : Int32))])) rfl (hb hby d_make0_5) rfl (by decide) (cap := 0) (by decide) (by decide) (by decide) (by decide)
  obtain ⟨b2, g2⟩ : ∃ z, z = h0.size := ⟨_, rfl⟩
  rw [← g2] at A2 st2
  have O2 : Old Z n0 h2 := O0.ext E2
  have V2 : Arv Z h2 b2 cA2 .byte (0 : Int32) [] (.int (0 : Int32)) := (Arv.new A2 (by decide)).pad (pad_rep [] _ 0)
  have pre_3 : ∀ t, Steps p.tables e below (T2.setTop (mkF m 7 #[.val (.int (0 : Int32))] [(.ref b2)])) t → Steps p.tables e below (s₁.setTop (entryFrame m #[(.int (0 : Int32))] 1)) t := fun t k => pre_1 t (st2 t k)
  obtain ⟨fs, hr, hrun, hended, hW, hsame⟩ := X2.leave (v := some (.ref b2)) (fun h => by rw [Bd.returns] at h; cases h)
  refine ⟨_, _, pre_3 _ ?_, hrun, hended, _, _, rfl, ?_, ⟨_, rfl⟩, hW, hsame.mono (by decide) (by decide)⟩
  · show Steps p.tables e below (T2.setTop (mkF m 7 #[.val (.int (0 : Int32))] [(.ref b2)])) _
    exact retOut X2 hx (t := (.array .byte)) Bd.returns rfl (Or.inr (Or.inr (Or.inr (Or.inr ⟨rfl, rfl, rfl⟩)))) (hb hby d_make0_7) hr
  · show Q_make0 Z   h0 n0 _ T2.heap _
    rw [e2]
    exact ⟨b2, cA2, rfl, N0, ((Keep.refl h0 []).ext E2), (Nat.le_trans (own_le O0) (Nat.le_of_eq g2.symm)), V2⟩
theorem d_make1_0 : decode method_2_code 0 = .ok (.iload_n 0, 1) := by decide +kernel
theorem d_make1_1 : decode method_2_code 1 = .ok (.ifCond .ne 7, 3) := by decide +kernel
theorem d_make1_8 : decode method_2_code 8 = .ok (.iload_n 0, 1) := by decide +kernel
theorem d_make1_9 : decode method_2_code 9 = .ok (.iconst 1, 1) := by decide +kernel
theorem d_make1_10 : decode method_2_code 10 = .ok (.if_icmp .ne 7, 3) := by decide +kernel
theorem d_make1_13 : decode method_2_code 13 = .ok (.iconst 1, 1) := by decide +kernel
theorem d_make1_14 : decode method_2_code 14 = .ok (.newarray .byte, 2) := by decide +kernel
theorem d_make1_16 : decode method_2_code 16 = .ok (.areturn, 1) := by decide +kernel
theorem pn_make1 : plainName "com/example/tranche/tranche/TextFileTextStartPinLaw" = true := by first | (simp [plainName, overriddenIn]; done) | decide +kernel
theorem ef_make1 (m : MethodId)  : entryFrame m #[(.int (1 : Int32))] 1 = (mkF m 0 #[.val (.int (1 : Int32))] []) := by first | (simp [entryFrame, mkF, argsToLocals, Value.category]; done) | rfl
def Q_make1 (Z : State)   (h0 : Heap) (n0 : Nat) (v : Option Value) (h : Heap) (L : List Loc) : Prop := ∃ b cA, v = some (.ref b) ∧ Fr n0 L ∧ Keep h0 h [] ∧ n0 ≤ b ∧ Arv Z h b cA .byte (1 : Int32) [(.int (0 : Int32))] (.int (0 : Int32))
set_option maxRecDepth 65536 in
set_option maxHeartbeats 40000000 in
theorem rm_make1 (l : Launch) (Z : State) (a0 : Array Value) (hw : ∀ d ∈ tables_1, d.before a0 Z = true) (ws : List Jvm.Cond)   (h0 : Heap) (n0 : Nat) (O0 : Old Z n0 h0)  :
    MetFree l (⟨"com/example/tranche/tranche/TextFileTextStartPinLaw", "make", "(I)[B"⟩ : MethodName) (head1 (Jvm.Cond.code (⟨"com/example/tranche/tranche/TextFileTextStartPinLaw", "make", "(I)[B"⟩ : MethodName) method_2_code 1 (some (.array .byte)) :: ws) ({ frames := 0, cells := 1, slots := 1, locals := 0 } : Room)) (fun a U => a = #[(.int (1 : Int32))] ∧ Z.Warmed39 U.vm ∧ U.heap = h0) (fun _ _ _ _ _ => True) (fun _ U o U' => ∃ v L, o = .returned v ∧ Q_make1 Z   h0 n0 v U'.heap L ∧ FrameEnd U o U' L ({ frames := 0, cells := 1, slots := 1, locals := 0 } : Room).cells ({ frames := 0, cells := 1, slots := 1, locals := 0 } : Room).slots) := by
  refine MetFree.of_bodySF (plainFor_of_name pn_make1) hisR ?_
  intro p e s m args below meth c s₁ Bd hml0 hP hK
  obtain ⟨rfl, hZ, hh⟩ := hP
  have hx := Bd.exec
  have hby := Bd.bytes
  have hml : c.maxLocals = 1 := hml0
  have hown : s.vm.findClass "com/example/tranche/tranche/TextFileTextStartPinLaw" = some m.cls := findClass_of_methodNamed Bd.named
  have hnm := (name_of_methodNamed Bd.named Bd.method).1
  have X0 : Stand p l e ({ frames := 0, cells := 1, slots := 1, locals := 0 } : Room) s m #[(.int (1 : Int32))] below meth c s₁ [] 0 0 := Stand.of_body Bd
  have e0 : s₁.heap = h0 := by rw [← hh, Bd.state]; rfl
  have N0 := Fr.nil n0
  have pre0 : ∀ t, Steps p.tables e below (s₁.setTop (mkF m 0 #[.val (.int (1 : Int32))] [])) t → Steps p.tables e below (s₁.setTop (entryFrame m #[(.int (1 : Int32))] 1)) t := fun t k => castTop (ef_make1 m ) k
  have pre_1 : ∀ t, Steps p.tables e below (s₁.setTop (mkF m 14 #[.val (.int (1 : Int32))] [(.int (1 : Int32))])) t → Steps p.tables e below (s₁.setTop (entryFrame m #[(.int (1 : Int32))] 1)) t := by
    intro t k
    refine pre0 t ?_
    show Steps p.tables e below (s₁.setTop (mkF m 0 #[.val (.int (1 : Int32))] [])) _
    refine XS.iloadN X0.here hx rfl (hb hby d_make1_0) rfl ?_
    show Steps p.tables e below (s₁.setTop (mkF m 1 #[.val (.int (1 : Int32))] [(.int (1 : Int32))])) _
    refine XS.ifYes X0.here hx rfl (pc0 := 1) (pc' := 8) rfl (hb hby d_make1_1) rfl (XT.i0_ne_t (by decide)) (by decide) (by decide) ?_
    show Steps p.tables e below (s₁.setTop (mkF m 8 #[.val (.int (1 : Int32))] [])) _
    refine XS.iloadN X0.here hx rfl (hb hby d_make1_8) rfl ?_
    show Steps p.tables e below (s₁.setTop (mkF m 9 #[.val (.int (1 : Int32))] [(.int (1 : Int32))])) _
    refine XS.iconst X0.here hx rfl (hb hby d_make1_9) ?_
    show Steps p.tables e below (s₁.setTop (mkF m 10 #[.val (.int (1 : Int32))] [(.int (1 : Int32)), (.int (1 : Int32))])) _
    refine XS.icmpNo X0.here hx rfl (hb hby d_make1_10) rfl (XT.ii_ne_f (by decide)) ?_
    show Steps p.tables e below (s₁.setTop (mkF m 13 #[.val (.int (1 : Int32))] [])) _
    refine XS.iconst X0.here hx rfl (hb hby d_make1_13) ?_
    show Steps p.tables e below (s₁.setTop (mkF m 14 #[.val (.int (1 : Int32))] [(.int (1 : Int32))])) _
    exact k
  obtain ⟨T2, h2, cA2, X2, e2, E2, A2, st2⟩ := newP X0 hx hZ (hw _ (List.mem_of_getElem? (i := 5) rfl)) e0 (g := (mkF m 14 #[.val (.int (1 : Int32))] [(.int (1 : Int32))])) rfl (hb hby d_make1_14) rfl (by decide) (cap := 1) (by decide) (by decide) (by decide) (by decide)
  obtain ⟨b2, g2⟩ : ∃ z, z = h0.size := ⟨_, rfl⟩
  rw [← g2] at A2 st2
  have O2 : Old Z n0 h2 := O0.ext E2
  have V2 : Arv Z h2 b2 cA2 .byte (1 : Int32) [(.int (0 : Int32))] (.int (0 : Int32)) := (Arv.new A2 (by decide)).pad (pad_rep [] _ 1)
  have pre_3 : ∀ t, Steps p.tables e below (T2.setTop (mkF m 16 #[.val (.int (1 : Int32))] [(.ref b2)])) t → Steps p.tables e below (s₁.setTop (entryFrame m #[(.int (1 : Int32))] 1)) t := fun t k => pre_1 t (st2 t k)
  obtain ⟨fs, hr, hrun, hended, hW, hsame⟩ := X2.leave (v := some (.ref b2)) (fun h => by rw [Bd.returns] at h; cases h)
  refine ⟨_, _, pre_3 _ ?_, hrun, hended, _, _, rfl, ?_, ⟨_, rfl⟩, hW, hsame.mono (by decide) (by decide)⟩
  · show Steps p.tables e below (T2.setTop (mkF m 16 #[.val (.int (1 : Int32))] [(.ref b2)])) _
    exact retOut X2 hx (t := (.array .byte)) Bd.returns rfl (Or.inr (Or.inr (Or.inr (Or.inr ⟨rfl, rfl, rfl⟩)))) (hb hby d_make1_16) hr
  · show Q_make1 Z   h0 n0 _ T2.heap _
    rw [e2]
    exact ⟨b2, cA2, rfl, N0, ((Keep.refl h0 []).ext E2), (Nat.le_trans (own_le O0) (Nat.le_of_eq g2.symm)), V2⟩
theorem d_make2_0 : decode method_2_code 0 = .ok (.iload_n 0, 1) := by decide +kernel
theorem d_make2_1 : decode method_2_code 1 = .ok (.ifCond .ne 7, 3) := by decide +kernel
theorem d_make2_8 : decode method_2_code 8 = .ok (.iload_n 0, 1) := by decide +kernel
theorem d_make2_9 : decode method_2_code 9 = .ok (.iconst 1, 1) := by decide +kernel
theorem d_make2_10 : decode method_2_code 10 = .ok (.if_icmp .ne 7, 3) := by decide +kernel
theorem d_make2_17 : decode method_2_code 17 = .ok (.iload_n 0, 1) := by decide +kernel
theorem d_make2_18 : decode method_2_code 18 = .ok (.iconst 2, 1) := by decide +kernel
theorem d_make2_19 : decode method_2_code 19 = .ok (.if_icmp .ne 7, 3) := by decide +kernel
theorem d_make2_22 : decode method_2_code 22 = .ok (.iconst 2, 1) := by decide +kernel
theorem d_make2_23 : decode method_2_code 23 = .ok (.newarray .byte, 2) := by decide +kernel
theorem d_make2_25 : decode method_2_code 25 = .ok (.areturn, 1) := by decide +kernel
theorem pn_make2 : plainName "com/example/tranche/tranche/TextFileTextStartPinLaw" = true := by first | (simp [plainName, overriddenIn]; done) | decide +kernel
theorem ef_make2 (m : MethodId)  : entryFrame m #[(.int (2 : Int32))] 1 = (mkF m 0 #[.val (.int (2 : Int32))] []) := by first | (simp [entryFrame, mkF, argsToLocals, Value.category]; done) | rfl
def Q_make2 (Z : State)   (h0 : Heap) (n0 : Nat) (v : Option Value) (h : Heap) (L : List Loc) : Prop := ∃ b cA, v = some (.ref b) ∧ Fr n0 L ∧ Keep h0 h [] ∧ n0 ≤ b ∧ Arv Z h b cA .byte (2 : Int32) [(.int (0 : Int32)), (.int (0 : Int32))] (.int (0 : Int32))
set_option maxRecDepth 65536 in
set_option maxHeartbeats 40000000 in
theorem rm_make2 (l : Launch) (Z : State) (a0 : Array Value) (hw : ∀ d ∈ tables_1, d.before a0 Z = true) (ws : List Jvm.Cond)   (h0 : Heap) (n0 : Nat) (O0 : Old Z n0 h0)  :
    MetFree l (⟨"com/example/tranche/tranche/TextFileTextStartPinLaw", "make", "(I)[B"⟩ : MethodName) (head1 (Jvm.Cond.code (⟨"com/example/tranche/tranche/TextFileTextStartPinLaw", "make", "(I)[B"⟩ : MethodName) method_2_code 1 (some (.array .byte)) :: ws) ({ frames := 0, cells := 1, slots := 2, locals := 0 } : Room)) (fun a U => a = #[(.int (2 : Int32))] ∧ Z.Warmed39 U.vm ∧ U.heap = h0) (fun _ _ _ _ _ => True) (fun _ U o U' => ∃ v L, o = .returned v ∧ Q_make2 Z   h0 n0 v U'.heap L ∧ FrameEnd U o U' L ({ frames := 0, cells := 1, slots := 2, locals := 0 } : Room).cells ({ frames := 0, cells := 1, slots := 2, locals := 0 } : Room).slots) := by
  refine MetFree.of_bodySF (plainFor_of_name pn_make2) hisR ?_
  intro p e s m args below meth c s₁ Bd hml0 hP hK
  obtain ⟨rfl, hZ, hh⟩ := hP
  have hx := Bd.exec
  have hby := Bd.bytes
  have hml : c.maxLocals = 1 := hml0
  have hown : s.vm.findClass "com/example/tranche/tranche/TextFileTextStartPinLaw" = some m.cls := findClass_of_methodNamed Bd.named
  have hnm := (name_of_methodNamed Bd.named Bd.method).1
  have X0 : Stand p l e ({ frames := 0, cells := 1, slots := 2, locals := 0 } : Room) s m #[(.int (2 : Int32))] below meth c s₁ [] 0 0 := Stand.of_body Bd
  have e0 : s₁.heap = h0 := by rw [← hh, Bd.state]; rfl
  have N0 := Fr.nil n0
  have pre0 : ∀ t, Steps p.tables e below (s₁.setTop (mkF m 0 #[.val (.int (2 : Int32))] [])) t → Steps p.tables e below (s₁.setTop (entryFrame m #[(.int (2 : Int32))] 1)) t := fun t k => castTop (ef_make2 m ) k
  have pre_1 : ∀ t, Steps p.tables e below (s₁.setTop (mkF m 23 #[.val (.int (2 : Int32))] [(.int (2 : Int32))])) t → Steps p.tables e below (s₁.setTop (entryFrame m #[(.int (2 : Int32))] 1)) t := by
    intro t k
    refine pre0 t ?_
    show Steps p.tables e below (s₁.setTop (mkF m 0 #[.val (.int (2 : Int32))] [])) _
    refine XS.iloadN X0.here hx rfl (hb hby d_make2_0) rfl ?_
    show Steps p.tables e below (s₁.setTop (mkF m 1 #[.val (.int (2 : Int32))] [(.int (2 : Int32))])) _
    refine XS.ifYes X0.here hx rfl (pc0 := 1) (pc' := 8) rfl (hb hby d_make2_1) rfl (XT.i0_ne_t (by decide)) (by decide) (by decide) ?_
    show Steps p.tables e below (s₁.setTop (mkF m 8 #[.val (.int (2 : Int32))] [])) _
    refine XS.iloadN X0.here hx rfl (hb hby d_make2_8) rfl ?_
    show Steps p.tables e below (s₁.setTop (mkF m 9 #[.val (.int (2 : Int32))] [(.int (2 : Int32))])) _
    refine XS.iconst X0.here hx rfl (hb hby d_make2_9) ?_
    show Steps p.tables e below (s₁.setTop (mkF m 10 #[.val (.int (2 : Int32))] [(.int (1 : Int32)), (.int (2 : Int32))])) _
    refine XS.icmpYes X0.here hx rfl (pc0 := 10) (pc' := 17) rfl (hb hby d_make2_10) rfl (XT.ii_ne_t (by decide)) (by decide) (by decide) ?_
    show Steps p.tables e below (s₁.setTop (mkF m 17 #[.val (.int (2 : Int32))] [])) _
    refine XS.iloadN X0.here hx rfl (hb hby d_make2_17) rfl ?_
    show Steps p.tables e below (s₁.setTop (mkF m 18 #[.val (.int (2 : Int32))] [(.int (2 : Int32))])) _
    refine XS.iconst X0.here hx rfl (hb hby d_make2_18) ?_
    show Steps p.tables e below (s₁.setTop (mkF m 19 #[.val (.int (2 : Int32))] [(.int (2 : Int32)), (.int (2 : Int32))])) _
    refine XS.icmpNo X0.here hx rfl (hb hby d_make2_19) rfl (XT.ii_ne_f (by decide)) ?_
    show Steps p.tables e below (s₁.setTop (mkF m 22 #[.val (.int (2 : Int32))] [])) _
    refine XS.iconst X0.here hx rfl (hb hby d_make2_22) ?_
    show Steps p.tables e below (s₁.setTop (mkF m 23 #[.val (.int (2 : Int32))] [(.int (2 : Int32))])) _
    exact k
  obtain ⟨T2, h2, cA2, X2, e2, E2, A2, st2⟩ := newP X0 hx hZ (hw _ (List.mem_of_getElem? (i := 5) rfl)) e0 (g := (mkF m 23 #[.val (.int (2 : Int32))] [(.int (2 : Int32))])) rfl (hb hby d_make2_23) rfl (by decide) (cap := 2) (by decide) (by decide) (by decide) (by decide)
  obtain ⟨b2, g2⟩ : ∃ z, z = h0.size := ⟨_, rfl⟩
  rw [← g2] at A2 st2
  have O2 : Old Z n0 h2 := O0.ext E2
  have V2 : Arv Z h2 b2 cA2 .byte (2 : Int32) [(.int (0 : Int32)), (.int (0 : Int32))] (.int (0 : Int32)) := (Arv.new A2 (by decide)).pad (pad_rep [] _ 2)
  have pre_3 : ∀ t, Steps p.tables e below (T2.setTop (mkF m 25 #[.val (.int (2 : Int32))] [(.ref b2)])) t → Steps p.tables e below (s₁.setTop (entryFrame m #[(.int (2 : Int32))] 1)) t := fun t k => pre_1 t (st2 t k)
  obtain ⟨fs, hr, hrun, hended, hW, hsame⟩ := X2.leave (v := some (.ref b2)) (fun h => by rw [Bd.returns] at h; cases h)
  refine ⟨_, _, pre_3 _ ?_, hrun, hended, _, _, rfl, ?_, ⟨_, rfl⟩, hW, hsame.mono (by decide) (by decide)⟩
  · show Steps p.tables e below (T2.setTop (mkF m 25 #[.val (.int (2 : Int32))] [(.ref b2)])) _
    exact retOut X2 hx (t := (.array .byte)) Bd.returns rfl (Or.inr (Or.inr (Or.inr (Or.inr ⟨rfl, rfl, rfl⟩)))) (hb hby d_make2_25) hr
  · show Q_make2 Z   h0 n0 _ T2.heap _
    rw [e2]
    exact ⟨b2, cA2, rfl, N0, ((Keep.refl h0 []).ext E2), (Nat.le_trans (own_le O0) (Nat.le_of_eq g2.symm)), V2⟩
theorem d_make3_0 : decode method_2_code 0 = .ok (.iload_n 0, 1) := by decide +kernel
theorem d_make3_1 : decode method_2_code 1 = .ok (.ifCond .ne 7, 3) := by decide +kernel
theorem d_make3_8 : decode method_2_code 8 = .ok (.iload_n 0, 1) := by decide +kernel
theorem d_make3_9 : decode method_2_code 9 = .ok (.iconst 1, 1) := by decide +kernel
theorem d_make3_10 : decode method_2_code 10 = .ok (.if_icmp .ne 7, 3) := by decide +kernel
theorem d_make3_17 : decode method_2_code 17 = .ok (.iload_n 0, 1) := by decide +kernel
theorem d_make3_18 : decode method_2_code 18 = .ok (.iconst 2, 1) := by decide +kernel
theorem d_make3_19 : decode method_2_code 19 = .ok (.if_icmp .ne 7, 3) := by decide +kernel
theorem d_make3_26 : decode method_2_code 26 = .ok (.iload_n 0, 1) := by decide +kernel
theorem d_make3_27 : decode method_2_code 27 = .ok (.iconst 3, 1) := by decide +kernel
theorem d_make3_28 : decode method_2_code 28 = .ok (.if_icmp .ne 7, 3) := by decide +kernel
theorem d_make3_31 : decode method_2_code 31 = .ok (.iconst 3, 1) := by decide +kernel
theorem d_make3_32 : decode method_2_code 32 = .ok (.newarray .byte, 2) := by decide +kernel
theorem d_make3_34 : decode method_2_code 34 = .ok (.areturn, 1) := by decide +kernel
theorem pn_make3 : plainName "com/example/tranche/tranche/TextFileTextStartPinLaw" = true := by first | (simp [plainName, overriddenIn]; done) | decide +kernel
theorem ef_make3 (m : MethodId)  : entryFrame m #[(.int (3 : Int32))] 1 = (mkF m 0 #[.val (.int (3 : Int32))] []) := by first | (simp [entryFrame, mkF, argsToLocals, Value.category]; done) | rfl
def Q_make3 (Z : State)   (h0 : Heap) (n0 : Nat) (v : Option Value) (h : Heap) (L : List Loc) : Prop := ∃ b cA, v = some (.ref b) ∧ Fr n0 L ∧ Keep h0 h [] ∧ n0 ≤ b ∧ Arv Z h b cA .byte (3 : Int32) [(.int (0 : Int32)), (.int (0 : Int32)), (.int (0 : Int32))] (.int (0 : Int32))
set_option maxRecDepth 65536 in
set_option maxHeartbeats 40000000 in
theorem rm_make3 (l : Launch) (Z : State) (a0 : Array Value) (hw : ∀ d ∈ tables_1, d.before a0 Z = true) (ws : List Jvm.Cond)   (h0 : Heap) (n0 : Nat) (O0 : Old Z n0 h0)  :
    MetFree l (⟨"com/example/tranche/tranche/TextFileTextStartPinLaw", "make", "(I)[B"⟩ : MethodName) (head1 (Jvm.Cond.code (⟨"com/example/tranche/tranche/TextFileTextStartPinLaw", "make", "(I)[B"⟩ : MethodName) method_2_code 1 (some (.array .byte)) :: ws) ({ frames := 0, cells := 1, slots := 3, locals := 0 } : Room)) (fun a U => a = #[(.int (3 : Int32))] ∧ Z.Warmed39 U.vm ∧ U.heap = h0) (fun _ _ _ _ _ => True) (fun _ U o U' => ∃ v L, o = .returned v ∧ Q_make3 Z   h0 n0 v U'.heap L ∧ FrameEnd U o U' L ({ frames := 0, cells := 1, slots := 3, locals := 0 } : Room).cells ({ frames := 0, cells := 1, slots := 3, locals := 0 } : Room).slots) := by
  refine MetFree.of_bodySF (plainFor_of_name pn_make3) hisR ?_
  intro p e s m args below meth c s₁ Bd hml0 hP hK
  obtain ⟨rfl, hZ, hh⟩ := hP
  have hx := Bd.exec
  have hby := Bd.bytes
  have hml : c.maxLocals = 1 := hml0
  have hown : s.vm.findClass "com/example/tranche/tranche/TextFileTextStartPinLaw" = some m.cls := findClass_of_methodNamed Bd.named
  have hnm := (name_of_methodNamed Bd.named Bd.method).1
  have X0 : Stand p l e ({ frames := 0, cells := 1, slots := 3, locals := 0 } : Room) s m #[(.int (3 : Int32))] below meth c s₁ [] 0 0 := Stand.of_body Bd
  have e0 : s₁.heap = h0 := by rw [← hh, Bd.state]; rfl
  have N0 := Fr.nil n0
  have pre0 : ∀ t, Steps p.tables e below (s₁.setTop (mkF m 0 #[.val (.int (3 : Int32))] [])) t → Steps p.tables e below (s₁.setTop (entryFrame m #[(.int (3 : Int32))] 1)) t := fun t k => castTop (ef_make3 m ) k
  have pre_1 : ∀ t, Steps p.tables e below (s₁.setTop (mkF m 32 #[.val (.int (3 : Int32))] [(.int (3 : Int32))])) t → Steps p.tables e below (s₁.setTop (entryFrame m #[(.int (3 : Int32))] 1)) t := by
    intro t k
    refine pre0 t ?_
    show Steps p.tables e below (s₁.setTop (mkF m 0 #[.val (.int (3 : Int32))] [])) _
    refine XS.iloadN X0.here hx rfl (hb hby d_make3_0) rfl ?_
    show Steps p.tables e below (s₁.setTop (mkF m 1 #[.val (.int (3 : Int32))] [(.int (3 : Int32))])) _
    refine XS.ifYes X0.here hx rfl (pc0 := 1) (pc' := 8) rfl (hb hby d_make3_1) rfl (XT.i0_ne_t (by decide)) (by decide) (by decide) ?_
    show Steps p.tables e below (s₁.setTop (mkF m 8 #[.val (.int (3 : Int32))] [])) _
    refine XS.iloadN X0.here hx rfl (hb hby d_make3_8) rfl ?_
    show Steps p.tables e below (s₁.setTop (mkF m 9 #[.val (.int (3 : Int32))] [(.int (3 : Int32))])) _
    refine XS.iconst X0.here hx rfl (hb hby d_make3_9) ?_
    show Steps p.tables e below (s₁.setTop (mkF m 10 #[.val (.int (3 : Int32))] [(.int (1 : Int32)), (.int (3 : Int32))])) _
    refine XS.icmpYes X0.here hx rfl (pc0 := 10) (pc' := 17) rfl (hb hby d_make3_10) rfl (XT.ii_ne_t (by decide)) (by decide) (by decide) ?_
    show Steps p.tables e below (s₁.setTop (mkF m 17 #[.val (.int (3 : Int32))] [])) _
    refine XS.iloadN X0.here hx rfl (hb hby d_make3_17) rfl ?_
    show Steps p.tables e below (s₁.setTop (mkF m 18 #[.val (.int (3 : Int32))] [(.int (3 : Int32))])) _
    refine XS.iconst X0.here hx rfl (hb hby d_make3_18) ?_
    show Steps p.tables e below (s₁.setTop (mkF m 19 #[.val (.int (3 : Int32))] [(.int (2 : Int32)), (.int (3 : Int32))])) _
    refine XS.icmpYes X0.here hx rfl (pc0 := 19) (pc' := 26) rfl (hb hby d_make3_19) rfl (XT.ii_ne_t (by decide)) (by decide) (by decide) ?_
    show Steps p.tables e below (s₁.setTop (mkF m 26 #[.val (.int (3 : Int32))] [])) _
    refine XS.iloadN X0.here hx rfl (hb hby d_make3_26) rfl ?_
    show Steps p.tables e below (s₁.setTop (mkF m 27 #[.val (.int (3 : Int32))] [(.int (3 : Int32))])) _
    refine XS.iconst X0.here hx rfl (hb hby d_make3_27) ?_
    show Steps p.tables e below (s₁.setTop (mkF m 28 #[.val (.int (3 : Int32))] [(.int (3 : Int32)), (.int (3 : Int32))])) _
    refine XS.icmpNo X0.here hx rfl (hb hby d_make3_28) rfl (XT.ii_ne_f (by decide)) ?_
    show Steps p.tables e below (s₁.setTop (mkF m 31 #[.val (.int (3 : Int32))] [])) _
    refine XS.iconst X0.here hx rfl (hb hby d_make3_31) ?_
    show Steps p.tables e below (s₁.setTop (mkF m 32 #[.val (.int (3 : Int32))] [(.int (3 : Int32))])) _
    exact k
  obtain ⟨T2, h2, cA2, X2, e2, E2, A2, st2⟩ := newP X0 hx hZ (hw _ (List.mem_of_getElem? (i := 5) rfl)) e0 (g := (mkF m 32 #[.val (.int (3 : Int32))] [(.int (3 : Int32))])) rfl (hb hby d_make3_32) rfl (by decide) (cap := 3) (by decide) (by decide) (by decide) (by decide)
  obtain ⟨b2, g2⟩ : ∃ z, z = h0.size := ⟨_, rfl⟩
  rw [← g2] at A2 st2
  have O2 : Old Z n0 h2 := O0.ext E2
  have V2 : Arv Z h2 b2 cA2 .byte (3 : Int32) [(.int (0 : Int32)), (.int (0 : Int32)), (.int (0 : Int32))] (.int (0 : Int32)) := (Arv.new A2 (by decide)).pad (pad_rep [] _ 3)
  have pre_3 : ∀ t, Steps p.tables e below (T2.setTop (mkF m 34 #[.val (.int (3 : Int32))] [(.ref b2)])) t → Steps p.tables e below (s₁.setTop (entryFrame m #[(.int (3 : Int32))] 1)) t := fun t k => pre_1 t (st2 t k)
  obtain ⟨fs, hr, hrun, hended, hW, hsame⟩ := X2.leave (v := some (.ref b2)) (fun h => by rw [Bd.returns] at h; cases h)
  refine ⟨_, _, pre_3 _ ?_, hrun, hended, _, _, rfl, ?_, ⟨_, rfl⟩, hW, hsame.mono (by decide) (by decide)⟩
  · show Steps p.tables e below (T2.setTop (mkF m 34 #[.val (.int (3 : Int32))] [(.ref b2)])) _
    exact retOut X2 hx (t := (.array .byte)) Bd.returns rfl (Or.inr (Or.inr (Or.inr (Or.inr ⟨rfl, rfl, rfl⟩)))) (hb hby d_make3_34) hr
  · show Q_make3 Z   h0 n0 _ T2.heap _
    rw [e2]
    exact ⟨b2, cA2, rfl, N0, ((Keep.refl h0 []).ext E2), (Nat.le_trans (own_le O0) (Nat.le_of_eq g2.symm)), V2⟩
theorem d_make4_0 : decode method_2_code 0 = .ok (.iload_n 0, 1) := by decide +kernel
theorem d_make4_1 : decode method_2_code 1 = .ok (.ifCond .ne 7, 3) := by decide +kernel
theorem d_make4_8 : decode method_2_code 8 = .ok (.iload_n 0, 1) := by decide +kernel
theorem d_make4_9 : decode method_2_code 9 = .ok (.iconst 1, 1) := by decide +kernel
theorem d_make4_10 : decode method_2_code 10 = .ok (.if_icmp .ne 7, 3) := by decide +kernel
theorem d_make4_17 : decode method_2_code 17 = .ok (.iload_n 0, 1) := by decide +kernel
theorem d_make4_18 : decode method_2_code 18 = .ok (.iconst 2, 1) := by decide +kernel
theorem d_make4_19 : decode method_2_code 19 = .ok (.if_icmp .ne 7, 3) := by decide +kernel
theorem d_make4_26 : decode method_2_code 26 = .ok (.iload_n 0, 1) := by decide +kernel
theorem d_make4_27 : decode method_2_code 27 = .ok (.iconst 3, 1) := by decide +kernel
theorem d_make4_28 : decode method_2_code 28 = .ok (.if_icmp .ne 7, 3) := by decide +kernel
theorem d_make4_35 : decode method_2_code 35 = .ok (.iload_n 0, 1) := by decide +kernel
theorem d_make4_36 : decode method_2_code 36 = .ok (.iconst 4, 1) := by decide +kernel
theorem d_make4_37 : decode method_2_code 37 = .ok (.if_icmp .ne 7, 3) := by decide +kernel
theorem d_make4_40 : decode method_2_code 40 = .ok (.iconst 4, 1) := by decide +kernel
theorem d_make4_41 : decode method_2_code 41 = .ok (.newarray .byte, 2) := by decide +kernel
theorem d_make4_43 : decode method_2_code 43 = .ok (.areturn, 1) := by decide +kernel
theorem pn_make4 : plainName "com/example/tranche/tranche/TextFileTextStartPinLaw" = true := by first | (simp [plainName, overriddenIn]; done) | decide +kernel
theorem ef_make4 (m : MethodId)  : entryFrame m #[(.int (4 : Int32))] 1 = (mkF m 0 #[.val (.int (4 : Int32))] []) := by first | (simp [entryFrame, mkF, argsToLocals, Value.category]; done) | rfl
def Q_make4 (Z : State)   (h0 : Heap) (n0 : Nat) (v : Option Value) (h : Heap) (L : List Loc) : Prop := ∃ b cA, v = some (.ref b) ∧ Fr n0 L ∧ Keep h0 h [] ∧ n0 ≤ b ∧ Arv Z h b cA .byte (4 : Int32) [(.int (0 : Int32)), (.int (0 : Int32)), (.int (0 : Int32)), (.int (0 : Int32))] (.int (0 : Int32))
set_option maxRecDepth 65536 in
set_option maxHeartbeats 40000000 in
theorem rm_make4 (l : Launch) (Z : State) (a0 : Array Value) (hw : ∀ d ∈ tables_1, d.before a0 Z = true) (ws : List Jvm.Cond)   (h0 : Heap) (n0 : Nat) (O0 : Old Z n0 h0)  :
    MetFree l (⟨"com/example/tranche/tranche/TextFileTextStartPinLaw", "make", "(I)[B"⟩ : MethodName) (head1 (Jvm.Cond.code (⟨"com/example/tranche/tranche/TextFileTextStartPinLaw", "make", "(I)[B"⟩ : MethodName) method_2_code 1 (some (.array .byte)) :: ws) ({ frames := 0, cells := 1, slots := 4, locals := 0 } : Room)) (fun a U => a = #[(.int (4 : Int32))] ∧ Z.Warmed39 U.vm ∧ U.heap = h0) (fun _ _ _ _ _ => True) (fun _ U o U' => ∃ v L, o = .returned v ∧ Q_make4 Z   h0 n0 v U'.heap L ∧ FrameEnd U o U' L ({ frames := 0, cells := 1, slots := 4, locals := 0 } : Room).cells ({ frames := 0, cells := 1, slots := 4, locals := 0 } : Room).slots) := by
  refine MetFree.of_bodySF (plainFor_of_name pn_make4) hisR ?_
  intro p e s m args below meth c s₁ Bd hml0 hP hK
  obtain ⟨rfl, hZ, hh⟩ := hP
  have hx := Bd.exec
  have hby := Bd.bytes
  have hml : c.maxLocals = 1 := hml0
  have hown : s.vm.findClass "com/example/tranche/tranche/TextFileTextStartPinLaw" = some m.cls := findClass_of_methodNamed Bd.named
  have hnm := (name_of_methodNamed Bd.named Bd.method).1
  have X0 : Stand p l e ({ frames := 0, cells := 1, slots := 4, locals := 0 } : Room) s m #[(.int (4 : Int32))] below meth c s₁ [] 0 0 := Stand.of_body Bd
  have e0 : s₁.heap = h0 := by rw [← hh, Bd.state]; rfl
  have N0 := Fr.nil n0
  have pre0 : ∀ t, Steps p.tables e below (s₁.setTop (mkF m 0 #[.val (.int (4 : Int32))] [])) t → Steps p.tables e below (s₁.setTop (entryFrame m #[(.int (4 : Int32))] 1)) t := fun t k => castTop (ef_make4 m ) k
  have pre_1 : ∀ t, Steps p.tables e below (s₁.setTop (mkF m 41 #[.val (.int (4 : Int32))] [(.int (4 : Int32))])) t → Steps p.tables e below (s₁.setTop (entryFrame m #[(.int (4 : Int32))] 1)) t := by
    intro t k
    refine pre0 t ?_
    show Steps p.tables e below (s₁.setTop (mkF m 0 #[.val (.int (4 : Int32))] [])) _
    refine XS.iloadN X0.here hx rfl (hb hby d_make4_0) rfl ?_
    show Steps p.tables e below (s₁.setTop (mkF m 1 #[.val (.int (4 : Int32))] [(.int (4 : Int32))])) _
    refine XS.ifYes X0.here hx rfl (pc0 := 1) (pc' := 8) rfl (hb hby d_make4_1) rfl (XT.i0_ne_t (by decide)) (by decide) (by decide) ?_
    show Steps p.tables e below (s₁.setTop (mkF m 8 #[.val (.int (4 : Int32))] [])) _
    refine XS.iloadN X0.here hx rfl (hb hby d_make4_8) rfl ?_
    show Steps p.tables e below (s₁.setTop (mkF m 9 #[.val (.int (4 : Int32))] [(.int (4 : Int32))])) _
    refine XS.iconst X0.here hx rfl (hb hby d_make4_9) ?_
    show Steps p.tables e below (s₁.setTop (mkF m 10 #[.val (.int (4 : Int32))] [(.int (1 : Int32)), (.int (4 : Int32))])) _
    refine XS.icmpYes X0.here hx rfl (pc0 := 10) (pc' := 17) rfl (hb hby d_make4_10) rfl (XT.ii_ne_t (by decide)) (by decide) (by decide) ?_
    show Steps p.tables e below (s₁.setTop (mkF m 17 #[.val (.int (4 : Int32))] [])) _
    refine XS.iloadN X0.here hx rfl (hb hby d_make4_17) rfl ?_
    show Steps p.tables e below (s₁.setTop (mkF m 18 #[.val (.int (4 : Int32))] [(.int (4 : Int32))])) _
    refine XS.iconst X0.here hx rfl (hb hby d_make4_18) ?_
    show Steps p.tables e below (s₁.setTop (mkF m 19 #[.val (.int (4 : Int32))] [(.int (2 : Int32)), (.int (4 : Int32))])) _
    refine XS.icmpYes X0.here hx rfl (pc0 := 19) (pc' := 26) rfl (hb hby d_make4_19) rfl (XT.ii_ne_t (by decide)) (by decide) (by decide) ?_
    show Steps p.tables e below (s₁.setTop (mkF m 26 #[.val (.int (4 : Int32))] [])) _
    refine XS.iloadN X0.here hx rfl (hb hby d_make4_26) rfl ?_
    show Steps p.tables e below (s₁.setTop (mkF m 27 #[.val (.int (4 : Int32))] [(.int (4 : Int32))])) _
    refine XS.iconst X0.here hx rfl (hb hby d_make4_27) ?_
    show Steps p.tables e below (s₁.setTop (mkF m 28 #[.val (.int (4 : Int32))] [(.int (3 : Int32)), (.int (4 : Int32))])) _
    refine XS.icmpYes X0.here hx rfl (pc0 := 28) (pc' := 35) rfl (hb hby d_make4_28) rfl (XT.ii_ne_t (by decide)) (by decide) (by decide) ?_
    show Steps p.tables e below (s₁.setTop (mkF m 35 #[.val (.int (4 : Int32))] [])) _
    refine XS.iloadN X0.here hx rfl (hb hby d_make4_35) rfl ?_
    show Steps p.tables e below (s₁.setTop (mkF m 36 #[.val (.int (4 : Int32))] [(.int (4 : Int32))])) _
    refine XS.iconst X0.here hx rfl (hb hby d_make4_36) ?_
    show Steps p.tables e below (s₁.setTop (mkF m 37 #[.val (.int (4 : Int32))] [(.int (4 : Int32)), (.int (4 : Int32))])) _
    refine XS.icmpNo X0.here hx rfl (hb hby d_make4_37) rfl (XT.ii_ne_f (by decide)) ?_
    show Steps p.tables e below (s₁.setTop (mkF m 40 #[.val (.int (4 : Int32))] [])) _
    refine XS.iconst X0.here hx rfl (hb hby d_make4_40) ?_
    show Steps p.tables e below (s₁.setTop (mkF m 41 #[.val (.int (4 : Int32))] [(.int (4 : Int32))])) _
    exact k
  obtain ⟨T2, h2, cA2, X2, e2, E2, A2, st2⟩ := newP X0 hx hZ (hw _ (List.mem_of_getElem? (i := 5) rfl)) e0 (g := (mkF m 41 #[.val (.int (4 : Int32))] [(.int (4 : Int32))])) rfl (hb hby d_make4_41) rfl (by decide) (cap := 4) (by decide) (by decide) (by decide) (by decide)
  obtain ⟨b2, g2⟩ : ∃ z, z = h0.size := ⟨_, rfl⟩
  rw [← g2] at A2 st2
  have O2 : Old Z n0 h2 := O0.ext E2
  have V2 : Arv Z h2 b2 cA2 .byte (4 : Int32) [(.int (0 : Int32)), (.int (0 : Int32)), (.int (0 : Int32)), (.int (0 : Int32))] (.int (0 : Int32)) := (Arv.new A2 (by decide)).pad (pad_rep [] _ 4)
  have pre_3 : ∀ t, Steps p.tables e below (T2.setTop (mkF m 43 #[.val (.int (4 : Int32))] [(.ref b2)])) t → Steps p.tables e below (s₁.setTop (entryFrame m #[(.int (4 : Int32))] 1)) t := fun t k => pre_1 t (st2 t k)
  obtain ⟨fs, hr, hrun, hended, hW, hsame⟩ := X2.leave (v := some (.ref b2)) (fun h => by rw [Bd.returns] at h; cases h)
  refine ⟨_, _, pre_3 _ ?_, hrun, hended, _, _, rfl, ?_, ⟨_, rfl⟩, hW, hsame.mono (by decide) (by decide)⟩
  · show Steps p.tables e below (T2.setTop (mkF m 43 #[.val (.int (4 : Int32))] [(.ref b2)])) _
    exact retOut X2 hx (t := (.array .byte)) Bd.returns rfl (Or.inr (Or.inr (Or.inr (Or.inr ⟨rfl, rfl, rfl⟩)))) (hb hby d_make4_43) hr
  · show Q_make4 Z   h0 n0 _ T2.heap _
    rw [e2]
    exact ⟨b2, cA2, rfl, N0, ((Keep.refl h0 []).ext E2), (Nat.le_trans (own_le O0) (Nat.le_of_eq g2.symm)), V2⟩
theorem d_make5_0 : decode method_2_code 0 = .ok (.iload_n 0, 1) := by decide +kernel
theorem d_make5_1 : decode method_2_code 1 = .ok (.ifCond .ne 7, 3) := by decide +kernel
theorem d_make5_8 : decode method_2_code 8 = .ok (.iload_n 0, 1) := by decide +kernel
theorem d_make5_9 : decode method_2_code 9 = .ok (.iconst 1, 1) := by decide +kernel
theorem d_make5_10 : decode method_2_code 10 = .ok (.if_icmp .ne 7, 3) := by decide +kernel
theorem d_make5_17 : decode method_2_code 17 = .ok (.iload_n 0, 1) := by decide +kernel
theorem d_make5_18 : decode method_2_code 18 = .ok (.iconst 2, 1) := by decide +kernel
theorem d_make5_19 : decode method_2_code 19 = .ok (.if_icmp .ne 7, 3) := by decide +kernel
theorem d_make5_26 : decode method_2_code 26 = .ok (.iload_n 0, 1) := by decide +kernel
theorem d_make5_27 : decode method_2_code 27 = .ok (.iconst 3, 1) := by decide +kernel
theorem d_make5_28 : decode method_2_code 28 = .ok (.if_icmp .ne 7, 3) := by decide +kernel
theorem d_make5_35 : decode method_2_code 35 = .ok (.iload_n 0, 1) := by decide +kernel
theorem d_make5_36 : decode method_2_code 36 = .ok (.iconst 4, 1) := by decide +kernel
theorem d_make5_37 : decode method_2_code 37 = .ok (.if_icmp .ne 7, 3) := by decide +kernel
theorem d_make5_44 : decode method_2_code 44 = .ok (.iconst 5, 1) := by decide +kernel
theorem d_make5_45 : decode method_2_code 45 = .ok (.newarray .byte, 2) := by decide +kernel
theorem d_make5_47 : decode method_2_code 47 = .ok (.areturn, 1) := by decide +kernel
theorem pn_make5 : plainName "com/example/tranche/tranche/TextFileTextStartPinLaw" = true := by first | (simp [plainName, overriddenIn]; done) | decide +kernel
theorem ef_make5 (m : MethodId)  : entryFrame m #[(.int (5 : Int32))] 1 = (mkF m 0 #[.val (.int (5 : Int32))] []) := by first | (simp [entryFrame, mkF, argsToLocals, Value.category]; done) | rfl
def Q_make5 (Z : State)   (h0 : Heap) (n0 : Nat) (v : Option Value) (h : Heap) (L : List Loc) : Prop := ∃ b cA, v = some (.ref b) ∧ Fr n0 L ∧ Keep h0 h [] ∧ n0 ≤ b ∧ Arv Z h b cA .byte (5 : Int32) [(.int (0 : Int32)), (.int (0 : Int32)), (.int (0 : Int32)), (.int (0 : Int32)), (.int (0 : Int32))] (.int (0 : Int32))
set_option maxRecDepth 65536 in
set_option maxHeartbeats 40000000 in
theorem rm_make5 (l : Launch) (Z : State) (a0 : Array Value) (hw : ∀ d ∈ tables_1, d.before a0 Z = true) (ws : List Jvm.Cond)   (h0 : Heap) (n0 : Nat) (O0 : Old Z n0 h0)  :
    MetFree l (⟨"com/example/tranche/tranche/TextFileTextStartPinLaw", "make", "(I)[B"⟩ : MethodName) (head1 (Jvm.Cond.code (⟨"com/example/tranche/tranche/TextFileTextStartPinLaw", "make", "(I)[B"⟩ : MethodName) method_2_code 1 (some (.array .byte)) :: ws) ({ frames := 0, cells := 1, slots := 5, locals := 0 } : Room)) (fun a U => a = #[(.int (5 : Int32))] ∧ Z.Warmed39 U.vm ∧ U.heap = h0) (fun _ _ _ _ _ => True) (fun _ U o U' => ∃ v L, o = .returned v ∧ Q_make5 Z   h0 n0 v U'.heap L ∧ FrameEnd U o U' L ({ frames := 0, cells := 1, slots := 5, locals := 0 } : Room).cells ({ frames := 0, cells := 1, slots := 5, locals := 0 } : Room).slots) := by
  refine MetFree.of_bodySF (plainFor_of_name pn_make5) hisR ?_
  intro p e s m args below meth c s₁ Bd hml0 hP hK
  obtain ⟨rfl, hZ, hh⟩ := hP
  have hx := Bd.exec
  have hby := Bd.bytes
  have hml : c.maxLocals = 1 := hml0
  have hown : s.vm.findClass "com/example/tranche/tranche/TextFileTextStartPinLaw" = some m.cls := findClass_of_methodNamed Bd.named
  have hnm := (name_of_methodNamed Bd.named Bd.method).1
  have X0 : Stand p l e ({ frames := 0, cells := 1, slots := 5, locals := 0 } : Room) s m #[(.int (5 : Int32))] below meth c s₁ [] 0 0 := Stand.of_body Bd
  have e0 : s₁.heap = h0 := by rw [← hh, Bd.state]; rfl
  have N0 := Fr.nil n0
  have pre0 : ∀ t, Steps p.tables e below (s₁.setTop (mkF m 0 #[.val (.int (5 : Int32))] [])) t → Steps p.tables e below (s₁.setTop (entryFrame m #[(.int (5 : Int32))] 1)) t := fun t k => castTop (ef_make5 m ) k
  have pre_1 : ∀ t, Steps p.tables e below (s₁.setTop (mkF m 45 #[.val (.int (5 : Int32))] [(.int (5 : Int32))])) t → Steps p.tables e below (s₁.setTop (entryFrame m #[(.int (5 : Int32))] 1)) t := by
    intro t k
    refine pre0 t ?_
    show Steps p.tables e below (s₁.setTop (mkF m 0 #[.val (.int (5 : Int32))] [])) _
    refine XS.iloadN X0.here hx rfl (hb hby d_make5_0) rfl ?_
    show Steps p.tables e below (s₁.setTop (mkF m 1 #[.val (.int (5 : Int32))] [(.int (5 : Int32))])) _
    refine XS.ifYes X0.here hx rfl (pc0 := 1) (pc' := 8) rfl (hb hby d_make5_1) rfl (XT.i0_ne_t (by decide)) (by decide) (by decide) ?_
    show Steps p.tables e below (s₁.setTop (mkF m 8 #[.val (.int (5 : Int32))] [])) _
    refine XS.iloadN X0.here hx rfl (hb hby d_make5_8) rfl ?_
    show Steps p.tables e below (s₁.setTop (mkF m 9 #[.val (.int (5 : Int32))] [(.int (5 : Int32))])) _
    refine XS.iconst X0.here hx rfl (hb hby d_make5_9) ?_
    show Steps p.tables e below (s₁.setTop (mkF m 10 #[.val (.int (5 : Int32))] [(.int (1 : Int32)), (.int (5 : Int32))])) _
    refine XS.icmpYes X0.here hx rfl (pc0 := 10) (pc' := 17) rfl (hb hby d_make5_10) rfl (XT.ii_ne_t (by decide)) (by decide) (by decide) ?_
    show Steps p.tables e below (s₁.setTop (mkF m 17 #[.val (.int (5 : Int32))] [])) _
    refine XS.iloadN X0.here hx rfl (hb hby d_make5_17) rfl ?_
    show Steps p.tables e below (s₁.setTop (mkF m 18 #[.val (.int (5 : Int32))] [(.int (5 : Int32))])) _
    refine XS.iconst X0.here hx rfl (hb hby d_make5_18) ?_
    show Steps p.tables e below (s₁.setTop (mkF m 19 #[.val (.int (5 : Int32))] [(.int (2 : Int32)), (.int (5 : Int32))])) _
    refine XS.icmpYes X0.here hx rfl (pc0 := 19) (pc' := 26) rfl (hb hby d_make5_19) rfl (XT.ii_ne_t (by decide)) (by decide) (by decide) ?_
    show Steps p.tables e below (s₁.setTop (mkF m 26 #[.val (.int (5 : Int32))] [])) _
    refine XS.iloadN X0.here hx rfl (hb hby d_make5_26) rfl ?_
    show Steps p.tables e below (s₁.setTop (mkF m 27 #[.val (.int (5 : Int32))] [(.int (5 : Int32))])) _
    refine XS.iconst X0.here hx rfl (hb hby d_make5_27) ?_
    show Steps p.tables e below (s₁.setTop (mkF m 28 #[.val (.int (5 : Int32))] [(.int (3 : Int32)), (.int (5 : Int32))])) _
    refine XS.icmpYes X0.here hx rfl (pc0 := 28) (pc' := 35) rfl (hb hby d_make5_28) rfl (XT.ii_ne_t (by decide)) (by decide) (by decide) ?_
    show Steps p.tables e below (s₁.setTop (mkF m 35 #[.val (.int (5 : Int32))] [])) _
    refine XS.iloadN X0.here hx rfl (hb hby d_make5_35) rfl ?_
    show Steps p.tables e below (s₁.setTop (mkF m 36 #[.val (.int (5 : Int32))] [(.int (5 : Int32))])) _
    refine XS.iconst X0.here hx rfl (hb hby d_make5_36) ?_
    show Steps p.tables e below (s₁.setTop (mkF m 37 #[.val (.int (5 : Int32))] [(.int (4 : Int32)), (.int (5 : Int32))])) _
    refine XS.icmpYes X0.here hx rfl (pc0 := 37) (pc' := 44) rfl (hb hby d_make5_37) rfl (XT.ii_ne_t (by decide)) (by decide) (by decide) ?_
    show Steps p.tables e below (s₁.setTop (mkF m 44 #[.val (.int (5 : Int32))] [])) _
    refine XS.iconst X0.here hx rfl (hb hby d_make5_44) ?_
    show Steps p.tables e below (s₁.setTop (mkF m 45 #[.val (.int (5 : Int32))] [(.int (5 : Int32))])) _
    exact k
  obtain ⟨T2, h2, cA2, X2, e2, E2, A2, st2⟩ := newP X0 hx hZ (hw _ (List.mem_of_getElem? (i := 5) rfl)) e0 (g := (mkF m 45 #[.val (.int (5 : Int32))] [(.int (5 : Int32))])) rfl (hb hby d_make5_45) rfl (by decide) (cap := 5) (by decide) (by decide) (by decide) (by decide)
  obtain ⟨b2, g2⟩ : ∃ z, z = h0.size := ⟨_, rfl⟩
  rw [← g2] at A2 st2
  have O2 : Old Z n0 h2 := O0.ext E2
  have V2 : Arv Z h2 b2 cA2 .byte (5 : Int32) [(.int (0 : Int32)), (.int (0 : Int32)), (.int (0 : Int32)), (.int (0 : Int32)), (.int (0 : Int32))] (.int (0 : Int32)) := (Arv.new A2 (by decide)).pad (pad_rep [] _ 5)
  have pre_3 : ∀ t, Steps p.tables e below (T2.setTop (mkF m 47 #[.val (.int (5 : Int32))] [(.ref b2)])) t → Steps p.tables e below (s₁.setTop (entryFrame m #[(.int (5 : Int32))] 1)) t := fun t k => pre_1 t (st2 t k)
  obtain ⟨fs, hr, hrun, hended, hW, hsame⟩ := X2.leave (v := some (.ref b2)) (fun h => by rw [Bd.returns] at h; cases h)
  refine ⟨_, _, pre_3 _ ?_, hrun, hended, _, _, rfl, ?_, ⟨_, rfl⟩, hW, hsame.mono (by decide) (by decide)⟩
  · show Steps p.tables e below (T2.setTop (mkF m 47 #[.val (.int (5 : Int32))] [(.ref b2)])) _
    exact retOut X2 hx (t := (.array .byte)) Bd.returns rfl (Or.inr (Or.inr (Or.inr (Or.inr ⟨rfl, rfl, rfl⟩)))) (hb hby d_make5_47) hr
  · show Q_make5 Z   h0 n0 _ T2.heap _
    rw [e2]
    exact ⟨b2, cA2, rfl, N0, ((Keep.refl h0 []).ext E2), (Nat.le_trans (own_le O0) (Nat.le_of_eq g2.symm)), V2⟩
theorem d_rc_0 : decode jdk_65_method_30_code 0 = .ok (.iload_n 1, 1) := by decide +kernel
theorem d_rc_1 : decode jdk_65_method_30_code 1 = .ok (.iload_n 2, 1) := by decide +kernel
theorem d_rc_2 : decode jdk_65_method_30_code 2 = .ok (.if_icmp .le 44, 3) := by decide +kernel
theorem d_rc_46 : decode jdk_65_method_30_code 46 = .ok (.iload_n 1, 1) := by decide +kernel
theorem d_rc_47 : decode jdk_65_method_30_code 47 = .ok (.ifCond .ge 12, 3) := by decide +kernel
theorem d_rc_59 : decode jdk_65_method_30_code 59 = .ok (.iload_n 2, 1) := by decide +kernel
theorem d_rc_60 : decode jdk_65_method_30_code 60 = .ok (.iload_n 0, 1) := by decide +kernel
theorem d_rc_61 : decode jdk_65_method_30_code 61 = .ok (.if_icmp .le 12, 3) := by decide +kernel
theorem d_rc_73 : decode jdk_65_method_30_code 73 = .ok (.return_, 1) := by decide +kernel
theorem pn_rc : plainName "java/util/Arrays" = true := by first | (simp [plainName, overriddenIn]; done) | decide +kernel
theorem ef_rc (m : MethodId) (p1 : Int32) : entryFrame m #[(.int p1), (.int (0 : Int32)), (.int (3 : Int32))] 3 = (mkF m 0 #[.val (.int p1), .val (.int (0 : Int32)), .val (.int (3 : Int32))] []) := by first | (simp [entryFrame, mkF, argsToLocals, Value.category]; done) | rfl
def Q_rc (Z : State) (p1 : Int32)  (h0 : Heap) (n0 : Nat) (v : Option Value) (h : Heap) (L : List Loc) : Prop := v = none ∧ Fr n0 L ∧ h = h0
set_option maxRecDepth 65536 in
set_option maxHeartbeats 40000000 in
theorem rm_rc (l : Launch) (Z : State) (a0 : Array Value) (hw : ∀ d ∈ tables_1, d.before a0 Z = true) (ws : List Jvm.Cond) (p1 : Int32)  (h0 : Heap) (n0 : Nat) (O0 : Old Z n0 h0) (hl : ¬ p1 < (3 : Int32)) :
    MetFree l (⟨"java/util/Arrays", "rangeCheck", "(III)V"⟩ : MethodName) (head1 (Jvm.Cond.code (⟨"java/util/Arrays", "rangeCheck", "(III)V"⟩ : MethodName) jdk_65_method_30_code 3 none :: ws) ({ frames := 0, cells := 0, slots := 0, locals := 0 } : Room)) (fun a U => a = #[(.int p1), (.int (0 : Int32)), (.int (3 : Int32))] ∧ Z.Warmed39 U.vm ∧ U.heap = h0) (fun _ _ _ _ _ => True) (fun _ U o U' => ∃ v L, o = .returned v ∧ Q_rc Z p1  h0 n0 v U'.heap L ∧ FrameEnd U o U' L ({ frames := 0, cells := 0, slots := 0, locals := 0 } : Room).cells ({ frames := 0, cells := 0, slots := 0, locals := 0 } : Room).slots) := by
  refine MetFree.of_bodySF (plainFor_of_name pn_rc) hisR ?_
  intro p e s m args below meth c s₁ Bd hml0 hP hK
  obtain ⟨rfl, hZ, hh⟩ := hP
  have hx := Bd.exec
  have hby := Bd.bytes
  have hml : c.maxLocals = 3 := hml0
  have hown : s.vm.findClass "java/util/Arrays" = some m.cls := findClass_of_methodNamed Bd.named
  have hnm := (name_of_methodNamed Bd.named Bd.method).1
  have X0 : Stand p l e ({ frames := 0, cells := 0, slots := 0, locals := 0 } : Room) s m #[(.int p1), (.int (0 : Int32)), (.int (3 : Int32))] below meth c s₁ [] 0 0 := Stand.of_body Bd
  have e0 : s₁.heap = h0 := by rw [← hh, Bd.state]; rfl
  have N0 := Fr.nil n0
  have pre0 : ∀ t, Steps p.tables e below (s₁.setTop (mkF m 0 #[.val (.int p1), .val (.int (0 : Int32)), .val (.int (3 : Int32))] [])) t → Steps p.tables e below (s₁.setTop (entryFrame m #[(.int p1), (.int (0 : Int32)), (.int (3 : Int32))] 3)) t := fun t k => castTop (ef_rc m p1) k
  have pre_1 : ∀ t, Steps p.tables e below (s₁.setTop (mkF m 73 #[.val (.int p1), .val (.int (0 : Int32)), .val (.int (3 : Int32))] [])) t → Steps p.tables e below (s₁.setTop (entryFrame m #[(.int p1), (.int (0 : Int32)), (.int (3 : Int32))] 3)) t := by
    intro t k
    refine pre0 t ?_
    show Steps p.tables e below (s₁.setTop (mkF m 0 #[.val (.int p1), .val (.int (0 : Int32)), .val (.int (3 : Int32))] [])) _
    refine XS.iloadN X0.here hx rfl (hb hby d_rc_0) rfl ?_
    show Steps p.tables e below (s₁.setTop (mkF m 1 #[.val (.int p1), .val (.int (0 : Int32)), .val (.int (3 : Int32))] [(.int (0 : Int32))])) _
    refine XS.iloadN X0.here hx rfl (hb hby d_rc_1) rfl ?_
    show Steps p.tables e below (s₁.setTop (mkF m 2 #[.val (.int p1), .val (.int (0 : Int32)), .val (.int (3 : Int32))] [(.int (3 : Int32)), (.int (0 : Int32))])) _
    refine XS.icmpYes X0.here hx rfl (pc0 := 2) (pc' := 46) rfl (hb hby d_rc_2) rfl (XT.ii_le_t (by decide)) (by decide) (by decide) ?_
    show Steps p.tables e below (s₁.setTop (mkF m 46 #[.val (.int p1), .val (.int (0 : Int32)), .val (.int (3 : Int32))] [])) _
    refine XS.iloadN X0.here hx rfl (hb hby d_rc_46) rfl ?_
    show Steps p.tables e below (s₁.setTop (mkF m 47 #[.val (.int p1), .val (.int (0 : Int32)), .val (.int (3 : Int32))] [(.int (0 : Int32))])) _
    refine XS.ifYes X0.here hx rfl (pc0 := 47) (pc' := 59) rfl (hb hby d_rc_47) rfl (XT.i0_ge_t (by decide)) (by decide) (by decide) ?_
    show Steps p.tables e below (s₁.setTop (mkF m 59 #[.val (.int p1), .val (.int (0 : Int32)), .val (.int (3 : Int32))] [])) _
    refine XS.iloadN X0.here hx rfl (hb hby d_rc_59) rfl ?_
    show Steps p.tables e below (s₁.setTop (mkF m 60 #[.val (.int p1), .val (.int (0 : Int32)), .val (.int (3 : Int32))] [(.int (3 : Int32))])) _
    refine XS.iloadN X0.here hx rfl (hb hby d_rc_60) rfl ?_
    show Steps p.tables e below (s₁.setTop (mkF m 61 #[.val (.int p1), .val (.int (0 : Int32)), .val (.int (3 : Int32))] [(.int p1), (.int (3 : Int32))])) _
    refine XS.icmpYes X0.here hx rfl (pc0 := 61) (pc' := 73) rfl (hb hby d_rc_61) rfl (XT.ii_le_t hl) (by decide) (by decide) ?_
    show Steps p.tables e below (s₁.setTop (mkF m 73 #[.val (.int p1), .val (.int (0 : Int32)), .val (.int (3 : Int32))] [])) _
    exact k
  obtain ⟨fs, hr, hrun, hended, hW, hsame⟩ := X0.leave (v := none) (fun _ => rfl)
  refine ⟨_, _, pre_1 _ ?_, hrun, hended, _, _, rfl, ?_, ⟨_, rfl⟩, hW, hsame.mono (by decide) (by decide)⟩
  · show Steps p.tables e below (s₁.setTop (mkF m 73 #[.val (.int p1), .val (.int (0 : Int32)), .val (.int (3 : Int32))] [])) _
    exact X0.returnOut hx Bd.returns (hb hby d_rc_73) hr
  · show Q_rc Z p1  h0 n0 _ s₁.heap _
    rw [e0]
    exact ⟨rfl, N0, rfl⟩
theorem d_mm_0 : decode jdk_48_method_14_code 0 = .ok (.iconst 0, 1) := by decide +kernel
theorem d_mm_1 : decode jdk_48_method_14_code 1 = .ok (.istore 5, 2) := by decide +kernel
theorem d_mm_3 : decode jdk_48_method_14_code 3 = .ok (.iload 4, 2) := by decide +kernel
theorem d_mm_5 : decode jdk_48_method_14_code 5 = .ok (.bipush 7, 2) := by decide +kernel
theorem d_mm_7 : decode jdk_48_method_14_code 7 = .ok (.if_icmp .le 63, 3) := by decide +kernel
theorem d_mm_70 : decode jdk_48_method_14_code 70 = .ok (.iload 5, 2) := by decide +kernel
theorem d_mm_72 : decode jdk_48_method_14_code 72 = .ok (.iload 4, 2) := by decide +kernel
theorem d_mm_74 : decode jdk_48_method_14_code 74 = .ok (.if_icmp .ge 27, 3) := by decide +kernel
theorem d_mm_77 : decode jdk_48_method_14_code 77 = .ok (.aload_n 0, 1) := by decide +kernel
theorem d_mm_78 : decode jdk_48_method_14_code 78 = .ok (.iload_n 1, 1) := by decide +kernel
theorem d_mm_79 : decode jdk_48_method_14_code 79 = .ok (.iload 5, 2) := by decide +kernel
theorem d_mm_81 : decode jdk_48_method_14_code 81 = .ok (.iadd, 1) := by decide +kernel
theorem d_mm_82 : decode jdk_48_method_14_code 82 = .ok (.baload, 1) := by decide +kernel
theorem d_mm_83 : decode jdk_48_method_14_code 83 = .ok (.aload_n 2, 1) := by decide +kernel
theorem d_mm_84 : decode jdk_48_method_14_code 84 = .ok (.iload_n 3, 1) := by decide +kernel
theorem d_mm_85 : decode jdk_48_method_14_code 85 = .ok (.iload 5, 2) := by decide +kernel
theorem d_mm_87 : decode jdk_48_method_14_code 87 = .ok (.iadd, 1) := by decide +kernel
theorem d_mm_88 : decode jdk_48_method_14_code 88 = .ok (.baload, 1) := by decide +kernel
theorem d_mm_89 : decode jdk_48_method_14_code 89 = .ok (.if_icmp .eq 6, 3) := by decide +kernel
theorem d_mm_92 : decode jdk_48_method_14_code 92 = .ok (.iload 5, 2) := by decide +kernel
theorem d_mm_94 : decode jdk_48_method_14_code 94 = .ok (.ireturn, 1) := by decide +kernel
theorem d_mm_95 : decode jdk_48_method_14_code 95 = .ok (.iinc 5 1, 3) := by decide +kernel
theorem d_mm_98 : decode jdk_48_method_14_code 98 = .ok (.goto (-28), 3) := by decide +kernel
theorem d_mm_101 : decode jdk_48_method_14_code 101 = .ok (.iconst (-1), 1) := by decide +kernel
theorem d_mm_102 : decode jdk_48_method_14_code 102 = .ok (.ireturn, 1) := by decide +kernel
theorem pn_mm : plainName "jdk/internal/util/ArraysSupport" = true := by first | (simp [plainName, overriddenIn]; done) | decide +kernel
theorem ef_mm (m : MethodId) (a1 : Addr) (aB : Addr) : entryFrame m #[(.ref a1), (.int (0 : Int32)), (.ref aB), (.int (0 : Int32)), (.int (3 : Int32))] 8 = (mkF m 0 #[.val (.ref a1), .val (.int (0 : Int32)), .val (.ref aB), .val (.int (0 : Int32)), .val (.int (3 : Int32)), .unset, .unset, .unset] []) := by first | (simp [entryFrame, mkF, argsToLocals, Value.category]; done) | rfl
def Q_mm (Z : State) (a1 : Addr) (aB : Addr) (kA : ClassId) (nn x0 x1 x2 : Int32) (tl : List Value) (kB : ClassId) (h0 : Heap) (n0 : Nat) (v : Option Value) (h : Heap) (L : List Loc) : Prop := v = some (.int (if x0 = (-17 : Int32) then (if x1 = (-69 : Int32) then (if x2 = (-65 : Int32) then (-1 : Int32) else (2 : Int32)) else (1 : Int32)) else (0 : Int32))) ∧ Fr n0 L ∧ h = h0
set_option maxRecDepth 65536 in
set_option maxHeartbeats 40000000 in
theorem rm_mm (l : Launch) (Z : State) (a0 : Array Value) (hw : ∀ d ∈ tables_1, d.before a0 Z = true) (ws : List Jvm.Cond) (a1 : Addr) (aB : Addr) (kA : ClassId) (nn x0 x1 x2 : Int32) (tl : List Value) (kB : ClassId) (h0 : Heap) (n0 : Nat) (O0 : Old Z n0 h0) (hnn : ¬ nn < (3 : Int32)) (VA : Arv Z h0 a1 kA .byte nn ((.int x0) :: (.int x1) :: (.int x2) :: tl) (.int (0 : Int32))) (VB : Arv Z h0 aB kB .byte (3 : Int32) [(.int (-17 : Int32)), (.int (-69 : Int32)), (.int (-65 : Int32))] (.int (0 : Int32))) :
    MetFree l (⟨"jdk/internal/util/ArraysSupport", "mismatch", "([BI[BII)I"⟩ : MethodName) (head1 (Jvm.Cond.code (⟨"jdk/internal/util/ArraysSupport", "mismatch", "([BI[BII)I"⟩ : MethodName) jdk_48_method_14_code 8 (some .int) :: ws) ({ frames := 0, cells := 0, slots := 0, locals := 0 } : Room)) (fun a U => a = #[(.ref a1), (.int (0 : Int32)), (.ref aB), (.int (0 : Int32)), (.int (3 : Int32))] ∧ Z.Warmed39 U.vm ∧ U.heap = h0) (fun _ _ _ _ _ => True) (fun _ U o U' => ∃ v L, o = .returned v ∧ Q_mm Z a1 aB kA nn x0 x1 x2 tl kB h0 n0 v U'.heap L ∧ FrameEnd U o U' L ({ frames := 0, cells := 0, slots := 0, locals := 0 } : Room).cells ({ frames := 0, cells := 0, slots := 0, locals := 0 } : Room).slots) := by
  refine MetFree.of_bodySF (plainFor_of_name pn_mm) hisR ?_
  intro p e s m args below meth c s₁ Bd hml0 hP hK
  obtain ⟨rfl, hZ, hh⟩ := hP
  have hx := Bd.exec
  have hby := Bd.bytes
  have hml : c.maxLocals = 8 := hml0
  have hown : s.vm.findClass "jdk/internal/util/ArraysSupport" = some m.cls := findClass_of_methodNamed Bd.named
  have hnm := (name_of_methodNamed Bd.named Bd.method).1
  have X0 : Stand p l e ({ frames := 0, cells := 0, slots := 0, locals := 0 } : Room) s m #[(.ref a1), (.int (0 : Int32)), (.ref aB), (.int (0 : Int32)), (.int (3 : Int32))] below meth c s₁ [] 0 0 := Stand.of_body Bd
  have e0 : s₁.heap = h0 := by rw [← hh, Bd.state]; rfl
  have N0 := Fr.nil n0
  have pre0 : ∀ t, Steps p.tables e below (s₁.setTop (mkF m 0 #[.val (.ref a1), .val (.int (0 : Int32)), .val (.ref aB), .val (.int (0 : Int32)), .val (.int (3 : Int32)), .unset, .unset, .unset] [])) t → Steps p.tables e below (s₁.setTop (entryFrame m #[(.ref a1), (.int (0 : Int32)), (.ref aB), (.int (0 : Int32)), (.int (3 : Int32))] 8)) t := fun t k => castTop (ef_mm m a1 aB) k
  have pre_1 : ∀ t, Steps p.tables e below (s₁.setTop (mkF m 82 #[.val (.ref a1), .val (.int (0 : Int32)), .val (.ref aB), .val (.int (0 : Int32)), .val (.int (3 : Int32)), .val (.int (0 : Int32)), .unset, .unset] [(.int (0 : Int32)), (.ref a1)])) t → Steps p.tables e below (s₁.setTop (entryFrame m #[(.ref a1), (.int (0 : Int32)), (.ref aB), (.int (0 : Int32)), (.int (3 : Int32))] 8)) t := by
    intro t k
    refine pre0 t ?_
    show Steps p.tables e below (s₁.setTop (mkF m 0 #[.val (.ref a1), .val (.int (0 : Int32)), .val (.ref aB), .val (.int (0 : Int32)), .val (.int (3 : Int32)), .unset, .unset, .unset] [])) _
    refine XS.iconst X0.here hx rfl (hb hby d_mm_0) ?_
    show Steps p.tables e below (s₁.setTop (mkF m 1 #[.val (.ref a1), .val (.int (0 : Int32)), .val (.ref aB), .val (.int (0 : Int32)), .val (.int (3 : Int32)), .unset, .unset, .unset] [(.int (0 : Int32))])) _
    refine XS.istore X0.here hx rfl (hb hby d_mm_1) rfl (l' := #[.val (.ref a1), .val (.int (0 : Int32)), .val (.ref aB), .val (.int (0 : Int32)), .val (.int (3 : Int32)), .val (.int (0 : Int32)), .unset, .unset]) rfl ?_
    show Steps p.tables e below (s₁.setTop (mkF m 3 #[.val (.ref a1), .val (.int (0 : Int32)), .val (.ref aB), .val (.int (0 : Int32)), .val (.int (3 : Int32)), .val (.int (0 : Int32)), .unset, .unset] [])) _
    refine XS.iload X0.here hx rfl (hb hby d_mm_3) rfl ?_
    show Steps p.tables e below (s₁.setTop (mkF m 5 #[.val (.ref a1), .val (.int (0 : Int32)), .val (.ref aB), .val (.int (0 : Int32)), .val (.int (3 : Int32)), .val (.int (0 : Int32)), .unset, .unset] [(.int (3 : Int32))])) _
    refine XS.bipush X0.here hx rfl (hb hby d_mm_5) ?_
    show Steps p.tables e below (s₁.setTop (mkF m 7 #[.val (.ref a1), .val (.int (0 : Int32)), .val (.ref aB), .val (.int (0 : Int32)), .val (.int (3 : Int32)), .val (.int (0 : Int32)), .unset, .unset] [(.int (7 : Int32)), (.int (3 : Int32))])) _
    refine XS.icmpYes X0.here hx rfl (pc0 := 7) (pc' := 70) rfl (hb hby d_mm_7) rfl (XT.ii_le_t (by decide)) (by decide) (by decide) ?_
    show Steps p.tables e below (s₁.setTop (mkF m 70 #[.val (.ref a1), .val (.int (0 : Int32)), .val (.ref aB), .val (.int (0 : Int32)), .val (.int (3 : Int32)), .val (.int (0 : Int32)), .unset, .unset] [])) _
    refine XS.iload X0.here hx rfl (hb hby d_mm_70) rfl ?_
    show Steps p.tables e below (s₁.setTop (mkF m 72 #[.val (.ref a1), .val (.int (0 : Int32)), .val (.ref aB), .val (.int (0 : Int32)), .val (.int (3 : Int32)), .val (.int (0 : Int32)), .unset, .unset] [(.int (0 : Int32))])) _
    refine XS.iload X0.here hx rfl (hb hby d_mm_72) rfl ?_
    show Steps p.tables e below (s₁.setTop (mkF m 74 #[.val (.ref a1), .val (.int (0 : Int32)), .val (.ref aB), .val (.int (0 : Int32)), .val (.int (3 : Int32)), .val (.int (0 : Int32)), .unset, .unset] [(.int (3 : Int32)), (.int (0 : Int32))])) _
    refine XS.icmpNo X0.here hx rfl (hb hby d_mm_74) rfl (XT.ii_ge_f (by decide)) ?_
    show Steps p.tables e below (s₁.setTop (mkF m 77 #[.val (.ref a1), .val (.int (0 : Int32)), .val (.ref aB), .val (.int (0 : Int32)), .val (.int (3 : Int32)), .val (.int (0 : Int32)), .unset, .unset] [])) _
    refine XS.aloadN X0.here hx rfl (hb hby d_mm_77) rfl rfl ?_
    show Steps p.tables e below (s₁.setTop (mkF m 78 #[.val (.ref a1), .val (.int (0 : Int32)), .val (.ref aB), .val (.int (0 : Int32)), .val (.int (3 : Int32)), .val (.int (0 : Int32)), .unset, .unset] [(.ref a1)])) _
    refine XS.iloadN X0.here hx rfl (hb hby d_mm_78) rfl ?_
    show Steps p.tables e below (s₁.setTop (mkF m 79 #[.val (.ref a1), .val (.int (0 : Int32)), .val (.ref aB), .val (.int (0 : Int32)), .val (.int (3 : Int32)), .val (.int (0 : Int32)), .unset, .unset] [(.int (0 : Int32)), (.ref a1)])) _
    refine XS.iload X0.here hx rfl (hb hby d_mm_79) rfl ?_
    show Steps p.tables e below (s₁.setTop (mkF m 81 #[.val (.ref a1), .val (.int (0 : Int32)), .val (.ref aB), .val (.int (0 : Int32)), .val (.int (3 : Int32)), .val (.int (0 : Int32)), .unset, .unset] [(.int (0 : Int32)), (.int (0 : Int32)), (.ref a1)])) _
    refine XS.iadd X0.here hx rfl (hb hby d_mm_81) rfl ?_
    show Steps p.tables e below (s₁.setTop (mkF m 82 #[.val (.ref a1), .val (.int (0 : Int32)), .val (.ref aB), .val (.int (0 : Int32)), .val (.int (3 : Int32)), .val (.int (0 : Int32)), .unset, .unset] [(.int (0 : Int32)), (.ref a1)])) _
    exact k
  obtain ⟨cl2, Ar2, -, S2, -, H2, -⟩ := id VA
  have hin2 : ¬ ((0 : Int32) < 0 ∨ cl2.slots.size ≤ ((0 : Int32)).toNatClampNeg) := inb_of S2 (own_in0 hnn)
  have pre_3 : ∀ t, Steps p.tables e below (s₁.setTop (mkF m 88 #[.val (.ref a1), .val (.int (0 : Int32)), .val (.ref aB), .val (.int (0 : Int32)), .val (.int (3 : Int32)), .val (.int (0 : Int32)), .unset, .unset] [(.int (0 : Int32)), (.ref aB), (.int x0)])) t → Steps p.tables e below (s₁.setTop (entryFrame m #[(.ref a1), (.int (0 : Int32)), (.ref aB), (.int (0 : Int32)), (.int (3 : Int32))] 8)) t := by
    intro t k
    refine pre_1 t ?_
    show Steps p.tables e below (s₁.setTop (mkF m 82 #[.val (.ref a1), .val (.int (0 : Int32)), .val (.ref aB), .val (.int (0 : Int32)), .val (.int (3 : Int32)), .val (.int (0 : Int32)), .unset, .unset] [(.int (0 : Int32)), (.ref a1)])) _
    refine X0.baloadBytes hx (j := (0 : Int32)) (v := (.int x0)) (by rw [e0]; exact Ar2.1) (State.isArrayOf_alike hZ.alike Ar2.2.1) Ar2.2.2 hin2 (H2.at hin2 rfl) (g := (mkF m 82 #[.val (.ref a1), .val (.int (0 : Int32)), .val (.ref aB), .val (.int (0 : Int32)), .val (.int (3 : Int32)), .val (.int (0 : Int32)), .unset, .unset] [(.int (0 : Int32)), (.ref a1)])) rfl rfl (hb hby d_mm_82) _ ?_
    show Steps p.tables e below (s₁.setTop (mkF m 83 #[.val (.ref a1), .val (.int (0 : Int32)), .val (.ref aB), .val (.int (0 : Int32)), .val (.int (3 : Int32)), .val (.int (0 : Int32)), .unset, .unset] [(.int x0)])) _
    refine XS.aloadN X0.here hx rfl (hb hby d_mm_83) rfl rfl ?_
    show Steps p.tables e below (s₁.setTop (mkF m 84 #[.val (.ref a1), .val (.int (0 : Int32)), .val (.ref aB), .val (.int (0 : Int32)), .val (.int (3 : Int32)), .val (.int (0 : Int32)), .unset, .unset] [(.ref aB), (.int x0)])) _
    refine XS.iloadN X0.here hx rfl (hb hby d_mm_84) rfl ?_
    show Steps p.tables e below (s₁.setTop (mkF m 85 #[.val (.ref a1), .val (.int (0 : Int32)), .val (.ref aB), .val (.int (0 : Int32)), .val (.int (3 : Int32)), .val (.int (0 : Int32)), .unset, .unset] [(.int (0 : Int32)), (.ref aB), (.int x0)])) _
    refine XS.iload X0.here hx rfl (hb hby d_mm_85) rfl ?_
    show Steps p.tables e below (s₁.setTop (mkF m 87 #[.val (.ref a1), .val (.int (0 : Int32)), .val (.ref aB), .val (.int (0 : Int32)), .val (.int (3 : Int32)), .val (.int (0 : Int32)), .unset, .unset] [(.int (0 : Int32)), (.int (0 : Int32)), (.ref aB), (.int x0)])) _
    refine XS.iadd X0.here hx rfl (hb hby d_mm_87) rfl ?_
    show Steps p.tables e below (s₁.setTop (mkF m 88 #[.val (.ref a1), .val (.int (0 : Int32)), .val (.ref aB), .val (.int (0 : Int32)), .val (.int (3 : Int32)), .val (.int (0 : Int32)), .unset, .unset] [(.int (0 : Int32)), (.ref aB), (.int x0)])) _
    exact k
  obtain ⟨cl4, Ar4, -, S4, -, H4, -⟩ := id VB
  have hin4 : ¬ ((0 : Int32) < 0 ∨ cl4.slots.size ≤ ((0 : Int32)).toNatClampNeg) := inb_of S4 (by decide)
  have pre_5 : ∀ t, Steps p.tables e below (s₁.setTop (mkF m 89 #[.val (.ref a1), .val (.int (0 : Int32)), .val (.ref aB), .val (.int (0 : Int32)), .val (.int (3 : Int32)), .val (.int (0 : Int32)), .unset, .unset] [(.int (-17 : Int32)), (.int x0)])) t → Steps p.tables e below (s₁.setTop (entryFrame m #[(.ref a1), (.int (0 : Int32)), (.ref aB), (.int (0 : Int32)), (.int (3 : Int32))] 8)) t := by
    intro t k
    refine pre_3 t ?_
    show Steps p.tables e below (s₁.setTop (mkF m 88 #[.val (.ref a1), .val (.int (0 : Int32)), .val (.ref aB), .val (.int (0 : Int32)), .val (.int (3 : Int32)), .val (.int (0 : Int32)), .unset, .unset] [(.int (0 : Int32)), (.ref aB), (.int x0)])) _
    refine X0.baloadBytes hx (j := (0 : Int32)) (v := (.int (-17 : Int32))) (by rw [e0]; exact Ar4.1) (State.isArrayOf_alike hZ.alike Ar4.2.1) Ar4.2.2 hin4 (H4.at hin4 rfl) (g := (mkF m 88 #[.val (.ref a1), .val (.int (0 : Int32)), .val (.ref aB), .val (.int (0 : Int32)), .val (.int (3 : Int32)), .val (.int (0 : Int32)), .unset, .unset] [(.int (0 : Int32)), (.ref aB), (.int x0)])) rfl rfl (hb hby d_mm_88) _ ?_
    show Steps p.tables e below (s₁.setTop (mkF m 89 #[.val (.ref a1), .val (.int (0 : Int32)), .val (.ref aB), .val (.int (0 : Int32)), .val (.int (3 : Int32)), .val (.int (0 : Int32)), .unset, .unset] [(.int (-17 : Int32)), (.int x0)])) _
    exact k
  by_cases hc6 : x0 = (-17 : Int32)
  · skip
    have pre_7 : ∀ t, Steps p.tables e below (s₁.setTop (mkF m 82 #[.val (.ref a1), .val (.int (0 : Int32)), .val (.ref aB), .val (.int (0 : Int32)), .val (.int (3 : Int32)), .val (.int (1 : Int32)), .unset, .unset] [(.int (1 : Int32)), (.ref a1)])) t → Steps p.tables e below (s₁.setTop (entryFrame m #[(.ref a1), (.int (0 : Int32)), (.ref aB), (.int (0 : Int32)), (.int (3 : Int32))] 8)) t := by
      intro t k
      refine pre_5 t ?_
      show Steps p.tables e below (s₁.setTop (mkF m 89 #[.val (.ref a1), .val (.int (0 : Int32)), .val (.ref aB), .val (.int (0 : Int32)), .val (.int (3 : Int32)), .val (.int (0 : Int32)), .unset, .unset] [(.int (-17 : Int32)), (.int x0)])) _
      refine XS.icmpYes X0.here hx rfl (pc0 := 89) (pc' := 95) rfl (hb hby d_mm_89) rfl (XT.ii_eq_t hc6) (by decide) (by decide) ?_
      show Steps p.tables e below (s₁.setTop (mkF m 95 #[.val (.ref a1), .val (.int (0 : Int32)), .val (.ref aB), .val (.int (0 : Int32)), .val (.int (3 : Int32)), .val (.int (0 : Int32)), .unset, .unset] [])) _
      refine XS.iinc X0.here hx rfl (hb hby d_mm_95) rfl (l' := #[.val (.ref a1), .val (.int (0 : Int32)), .val (.ref aB), .val (.int (0 : Int32)), .val (.int (3 : Int32)), .val (.int (1 : Int32)), .unset, .unset]) rfl ?_
      show Steps p.tables e below (s₁.setTop (mkF m 98 #[.val (.ref a1), .val (.int (0 : Int32)), .val (.ref aB), .val (.int (0 : Int32)), .val (.int (3 : Int32)), .val (.int (1 : Int32)), .unset, .unset] [])) _
      refine XS.goto X0.here hx rfl (pc0 := 98) (pc' := 70) rfl (hb hby d_mm_98) (by decide) (by decide) ?_
      show Steps p.tables e below (s₁.setTop (mkF m 70 #[.val (.ref a1), .val (.int (0 : Int32)), .val (.ref aB), .val (.int (0 : Int32)), .val (.int (3 : Int32)), .val (.int (1 : Int32)), .unset, .unset] [])) _
      refine XS.iload X0.here hx rfl (hb hby d_mm_70) rfl ?_
      show Steps p.tables e below (s₁.setTop (mkF m 72 #[.val (.ref a1), .val (.int (0 : Int32)), .val (.ref aB), .val (.int (0 : Int32)), .val (.int (3 : Int32)), .val (.int (1 : Int32)), .unset, .unset] [(.int (1 : Int32))])) _
      refine XS.iload X0.here hx rfl (hb hby d_mm_72) rfl ?_
      show Steps p.tables e below (s₁.setTop (mkF m 74 #[.val (.ref a1), .val (.int (0 : Int32)), .val (.ref aB), .val (.int (0 : Int32)), .val (.int (3 : Int32)), .val (.int (1 : Int32)), .unset, .unset] [(.int (3 : Int32)), (.int (1 : Int32))])) _
      refine XS.icmpNo X0.here hx rfl (hb hby d_mm_74) rfl (XT.ii_ge_f (by decide)) ?_
      show Steps p.tables e below (s₁.setTop (mkF m 77 #[.val (.ref a1), .val (.int (0 : Int32)), .val (.ref aB), .val (.int (0 : Int32)), .val (.int (3 : Int32)), .val (.int (1 : Int32)), .unset, .unset] [])) _
      refine XS.aloadN X0.here hx rfl (hb hby d_mm_77) rfl rfl ?_
      show Steps p.tables e below (s₁.setTop (mkF m 78 #[.val (.ref a1), .val (.int (0 : Int32)), .val (.ref aB), .val (.int (0 : Int32)), .val (.int (3 : Int32)), .val (.int (1 : Int32)), .unset, .unset] [(.ref a1)])) _
      refine XS.iloadN X0.here hx rfl (hb hby d_mm_78) rfl ?_
      show Steps p.tables e below (s₁.setTop (mkF m 79 #[.val (.ref a1), .val (.int (0 : Int32)), .val (.ref aB), .val (.int (0 : Int32)), .val (.int (3 : Int32)), .val (.int (1 : Int32)), .unset, .unset] [(.int (0 : Int32)), (.ref a1)])) _
      refine XS.iload X0.here hx rfl (hb hby d_mm_79) rfl ?_
      show Steps p.tables e below (s₁.setTop (mkF m 81 #[.val (.ref a1), .val (.int (0 : Int32)), .val (.ref aB), .val (.int (0 : Int32)), .val (.int (3 : Int32)), .val (.int (1 : Int32)), .unset, .unset] [(.int (1 : Int32)), (.int (0 : Int32)), (.ref a1)])) _
      refine XS.iadd X0.here hx rfl (hb hby d_mm_81) rfl ?_
      show Steps p.tables e below (s₁.setTop (mkF m 82 #[.val (.ref a1), .val (.int (0 : Int32)), .val (.ref aB), .val (.int (0 : Int32)), .val (.int (3 : Int32)), .val (.int (1 : Int32)), .unset, .unset] [(.int (1 : Int32)), (.ref a1)])) _
      exact k
    obtain ⟨cl8, Ar8, -, S8, -, H8, -⟩ := id VA
    have hin8 : ¬ ((1 : Int32) < 0 ∨ cl8.slots.size ≤ ((1 : Int32)).toNatClampNeg) := inb_of S8 (own_in1 hnn)
    have pre_9 : ∀ t, Steps p.tables e below (s₁.setTop (mkF m 88 #[.val (.ref a1), .val (.int (0 : Int32)), .val (.ref aB), .val (.int (0 : Int32)), .val (.int (3 : Int32)), .val (.int (1 : Int32)), .unset, .unset] [(.int (1 : Int32)), (.ref aB), (.int x1)])) t → Steps p.tables e below (s₁.setTop (entryFrame m #[(.ref a1), (.int (0 : Int32)), (.ref aB), (.int (0 : Int32)), (.int (3 : Int32))] 8)) t := by
      intro t k
      refine pre_7 t ?_
      show Steps p.tables e below (s₁.setTop (mkF m 82 #[.val (.ref a1), .val (.int (0 : Int32)), .val (.ref aB), .val (.int (0 : Int32)), .val (.int (3 : Int32)), .val (.int (1 : Int32)), .unset, .unset] [(.int (1 : Int32)), (.ref a1)])) _
      refine X0.baloadBytes hx (j := (1 : Int32)) (v := (.int x1)) (by rw [e0]; exact Ar8.1) (State.isArrayOf_alike hZ.alike Ar8.2.1) Ar8.2.2 hin8 (H8.at hin8 rfl) (g := (mkF m 82 #[.val (.ref a1), .val (.int (0 : Int32)), .val (.ref aB), .val (.int (0 : Int32)), .val (.int (3 : Int32)), .val (.int (1 : Int32)), .unset, .unset] [(.int (1 : Int32)), (.ref a1)])) rfl rfl (hb hby d_mm_82) _ ?_
      show Steps p.tables e below (s₁.setTop (mkF m 83 #[.val (.ref a1), .val (.int (0 : Int32)), .val (.ref aB), .val (.int (0 : Int32)), .val (.int (3 : Int32)), .val (.int (1 : Int32)), .unset, .unset] [(.int x1)])) _
      refine XS.aloadN X0.here hx rfl (hb hby d_mm_83) rfl rfl ?_
      show Steps p.tables e below (s₁.setTop (mkF m 84 #[.val (.ref a1), .val (.int (0 : Int32)), .val (.ref aB), .val (.int (0 : Int32)), .val (.int (3 : Int32)), .val (.int (1 : Int32)), .unset, .unset] [(.ref aB), (.int x1)])) _
      refine XS.iloadN X0.here hx rfl (hb hby d_mm_84) rfl ?_
      show Steps p.tables e below (s₁.setTop (mkF m 85 #[.val (.ref a1), .val (.int (0 : Int32)), .val (.ref aB), .val (.int (0 : Int32)), .val (.int (3 : Int32)), .val (.int (1 : Int32)), .unset, .unset] [(.int (0 : Int32)), (.ref aB), (.int x1)])) _
      refine XS.iload X0.here hx rfl (hb hby d_mm_85) rfl ?_
      show Steps p.tables e below (s₁.setTop (mkF m 87 #[.val (.ref a1), .val (.int (0 : Int32)), .val (.ref aB), .val (.int (0 : Int32)), .val (.int (3 : Int32)), .val (.int (1 : Int32)), .unset, .unset] [(.int (1 : Int32)), (.int (0 : Int32)), (.ref aB), (.int x1)])) _
      refine XS.iadd X0.here hx rfl (hb hby d_mm_87) rfl ?_
      show Steps p.tables e below (s₁.setTop (mkF m 88 #[.val (.ref a1), .val (.int (0 : Int32)), .val (.ref aB), .val (.int (0 : Int32)), .val (.int (3 : Int32)), .val (.int (1 : Int32)), .unset, .unset] [(.int (1 : Int32)), (.ref aB), (.int x1)])) _
      exact k
    obtain ⟨cl10, Ar10, -, S10, -, H10, -⟩ := id VB
    have hin10 : ¬ ((1 : Int32) < 0 ∨ cl10.slots.size ≤ ((1 : Int32)).toNatClampNeg) := inb_of S10 (by decide)
    have pre_11 : ∀ t, Steps p.tables e below (s₁.setTop (mkF m 89 #[.val (.ref a1), .val (.int (0 : Int32)), .val (.ref aB), .val (.int (0 : Int32)), .val (.int (3 : Int32)), .val (.int (1 : Int32)), .unset, .unset] [(.int (-69 : Int32)), (.int x1)])) t → Steps p.tables e below (s₁.setTop (entryFrame m #[(.ref a1), (.int (0 : Int32)), (.ref aB), (.int (0 : Int32)), (.int (3 : Int32))] 8)) t := by
      intro t k
      refine pre_9 t ?_
      show Steps p.tables e below (s₁.setTop (mkF m 88 #[.val (.ref a1), .val (.int (0 : Int32)), .val (.ref aB), .val (.int (0 : Int32)), .val (.int (3 : Int32)), .val (.int (1 : Int32)), .unset, .unset] [(.int (1 : Int32)), (.ref aB), (.int x1)])) _
      refine X0.baloadBytes hx (j := (1 : Int32)) (v := (.int (-69 : Int32))) (by rw [e0]; exact Ar10.1) (State.isArrayOf_alike hZ.alike Ar10.2.1) Ar10.2.2 hin10 (H10.at hin10 rfl) (g := (mkF m 88 #[.val (.ref a1), .val (.int (0 : Int32)), .val (.ref aB), .val (.int (0 : Int32)), .val (.int (3 : Int32)), .val (.int (1 : Int32)), .unset, .unset] [(.int (1 : Int32)), (.ref aB), (.int x1)])) rfl rfl (hb hby d_mm_88) _ ?_
      show Steps p.tables e below (s₁.setTop (mkF m 89 #[.val (.ref a1), .val (.int (0 : Int32)), .val (.ref aB), .val (.int (0 : Int32)), .val (.int (3 : Int32)), .val (.int (1 : Int32)), .unset, .unset] [(.int (-69 : Int32)), (.int x1)])) _
      exact k
    by_cases hc12 : x1 = (-69 : Int32)
    · skip
      have pre_13 : ∀ t, Steps p.tables e below (s₁.setTop (mkF m 82 #[.val (.ref a1), .val (.int (0 : Int32)), .val (.ref aB), .val (.int (0 : Int32)), .val (.int (3 : Int32)), .val (.int (2 : Int32)), .unset, .unset] [(.int (2 : Int32)), (.ref a1)])) t → Steps p.tables e below (s₁.setTop (entryFrame m #[(.ref a1), (.int (0 : Int32)), (.ref aB), (.int (0 : Int32)), (.int (3 : Int32))] 8)) t := by
        intro t k
        refine pre_11 t ?_
        show Steps p.tables e below (s₁.setTop (mkF m 89 #[.val (.ref a1), .val (.int (0 : Int32)), .val (.ref aB), .val (.int (0 : Int32)), .val (.int (3 : Int32)), .val (.int (1 : Int32)), .unset, .unset] [(.int (-69 : Int32)), (.int x1)])) _
        refine XS.icmpYes X0.here hx rfl (pc0 := 89) (pc' := 95) rfl (hb hby d_mm_89) rfl (XT.ii_eq_t hc12) (by decide) (by decide) ?_
        show Steps p.tables e below (s₁.setTop (mkF m 95 #[.val (.ref a1), .val (.int (0 : Int32)), .val (.ref aB), .val (.int (0 : Int32)), .val (.int (3 : Int32)), .val (.int (1 : Int32)), .unset, .unset] [])) _
        refine XS.iinc X0.here hx rfl (hb hby d_mm_95) rfl (l' := #[.val (.ref a1), .val (.int (0 : Int32)), .val (.ref aB), .val (.int (0 : Int32)), .val (.int (3 : Int32)), .val (.int (2 : Int32)), .unset, .unset]) rfl ?_
        show Steps p.tables e below (s₁.setTop (mkF m 98 #[.val (.ref a1), .val (.int (0 : Int32)), .val (.ref aB), .val (.int (0 : Int32)), .val (.int (3 : Int32)), .val (.int (2 : Int32)), .unset, .unset] [])) _
        refine XS.goto X0.here hx rfl (pc0 := 98) (pc' := 70) rfl (hb hby d_mm_98) (by decide) (by decide) ?_
        show Steps p.tables e below (s₁.setTop (mkF m 70 #[.val (.ref a1), .val (.int (0 : Int32)), .val (.ref aB), .val (.int (0 : Int32)), .val (.int (3 : Int32)), .val (.int (2 : Int32)), .unset, .unset] [])) _
        refine XS.iload X0.here hx rfl (hb hby d_mm_70) rfl ?_
        show Steps p.tables e below (s₁.setTop (mkF m 72 #[.val (.ref a1), .val (.int (0 : Int32)), .val (.ref aB), .val (.int (0 : Int32)), .val (.int (3 : Int32)), .val (.int (2 : Int32)), .unset, .unset] [(.int (2 : Int32))])) _
        refine XS.iload X0.here hx rfl (hb hby d_mm_72) rfl ?_
        show Steps p.tables e below (s₁.setTop (mkF m 74 #[.val (.ref a1), .val (.int (0 : Int32)), .val (.ref aB), .val (.int (0 : Int32)), .val (.int (3 : Int32)), .val (.int (2 : Int32)), .unset, .unset] [(.int (3 : Int32)), (.int (2 : Int32))])) _
        refine XS.icmpNo X0.here hx rfl (hb hby d_mm_74) rfl (XT.ii_ge_f (by decide)) ?_
        show Steps p.tables e below (s₁.setTop (mkF m 77 #[.val (.ref a1), .val (.int (0 : Int32)), .val (.ref aB), .val (.int (0 : Int32)), .val (.int (3 : Int32)), .val (.int (2 : Int32)), .unset, .unset] [])) _
        refine XS.aloadN X0.here hx rfl (hb hby d_mm_77) rfl rfl ?_
        show Steps p.tables e below (s₁.setTop (mkF m 78 #[.val (.ref a1), .val (.int (0 : Int32)), .val (.ref aB), .val (.int (0 : Int32)), .val (.int (3 : Int32)), .val (.int (2 : Int32)), .unset, .unset] [(.ref a1)])) _
        refine XS.iloadN X0.here hx rfl (hb hby d_mm_78) rfl ?_
        show Steps p.tables e below (s₁.setTop (mkF m 79 #[.val (.ref a1), .val (.int (0 : Int32)), .val (.ref aB), .val (.int (0 : Int32)), .val (.int (3 : Int32)), .val (.int (2 : Int32)), .unset, .unset] [(.int (0 : Int32)), (.ref a1)])) _
        refine XS.iload X0.here hx rfl (hb hby d_mm_79) rfl ?_
        show Steps p.tables e below (s₁.setTop (mkF m 81 #[.val (.ref a1), .val (.int (0 : Int32)), .val (.ref aB), .val (.int (0 : Int32)), .val (.int (3 : Int32)), .val (.int (2 : Int32)), .unset, .unset] [(.int (2 : Int32)), (.int (0 : Int32)), (.ref a1)])) _
        refine XS.iadd X0.here hx rfl (hb hby d_mm_81) rfl ?_
        show Steps p.tables e below (s₁.setTop (mkF m 82 #[.val (.ref a1), .val (.int (0 : Int32)), .val (.ref aB), .val (.int (0 : Int32)), .val (.int (3 : Int32)), .val (.int (2 : Int32)), .unset, .unset] [(.int (2 : Int32)), (.ref a1)])) _
        exact k
      obtain ⟨cl14, Ar14, -, S14, -, H14, -⟩ := id VA
      have hin14 : ¬ ((2 : Int32) < 0 ∨ cl14.slots.size ≤ ((2 : Int32)).toNatClampNeg) := inb_of S14 (own_in2 hnn)
      have pre_15 : ∀ t, Steps p.tables e below (s₁.setTop (mkF m 88 #[.val (.ref a1), .val (.int (0 : Int32)), .val (.ref aB), .val (.int (0 : Int32)), .val (.int (3 : Int32)), .val (.int (2 : Int32)), .unset, .unset] [(.int (2 : Int32)), (.ref aB), (.int x2)])) t → Steps p.tables e below (s₁.setTop (entryFrame m #[(.ref a1), (.int (0 : Int32)), (.ref aB), (.int (0 : Int32)), (.int (3 : Int32))] 8)) t := by
        intro t k
        refine pre_13 t ?_
        show Steps p.tables e below (s₁.setTop (mkF m 82 #[.val (.ref a1), .val (.int (0 : Int32)), .val (.ref aB), .val (.int (0 : Int32)), .val (.int (3 : Int32)), .val (.int (2 : Int32)), .unset, .unset] [(.int (2 : Int32)), (.ref a1)])) _
        refine X0.baloadBytes hx (j := (2 : Int32)) (v := (.int x2)) (by rw [e0]; exact Ar14.1) (State.isArrayOf_alike hZ.alike Ar14.2.1) Ar14.2.2 hin14 (H14.at hin14 rfl) (g := (mkF m 82 #[.val (.ref a1), .val (.int (0 : Int32)), .val (.ref aB), .val (.int (0 : Int32)), .val (.int (3 : Int32)), .val (.int (2 : Int32)), .unset, .unset] [(.int (2 : Int32)), (.ref a1)])) rfl rfl (hb hby d_mm_82) _ ?_
        show Steps p.tables e below (s₁.setTop (mkF m 83 #[.val (.ref a1), .val (.int (0 : Int32)), .val (.ref aB), .val (.int (0 : Int32)), .val (.int (3 : Int32)), .val (.int (2 : Int32)), .unset, .unset] [(.int x2)])) _
        refine XS.aloadN X0.here hx rfl (hb hby d_mm_83) rfl rfl ?_
        show Steps p.tables e below (s₁.setTop (mkF m 84 #[.val (.ref a1), .val (.int (0 : Int32)), .val (.ref aB), .val (.int (0 : Int32)), .val (.int (3 : Int32)), .val (.int (2 : Int32)), .unset, .unset] [(.ref aB), (.int x2)])) _
        refine XS.iloadN X0.here hx rfl (hb hby d_mm_84) rfl ?_
        show Steps p.tables e below (s₁.setTop (mkF m 85 #[.val (.ref a1), .val (.int (0 : Int32)), .val (.ref aB), .val (.int (0 : Int32)), .val (.int (3 : Int32)), .val (.int (2 : Int32)), .unset, .unset] [(.int (0 : Int32)), (.ref aB), (.int x2)])) _
        refine XS.iload X0.here hx rfl (hb hby d_mm_85) rfl ?_
        show Steps p.tables e below (s₁.setTop (mkF m 87 #[.val (.ref a1), .val (.int (0 : Int32)), .val (.ref aB), .val (.int (0 : Int32)), .val (.int (3 : Int32)), .val (.int (2 : Int32)), .unset, .unset] [(.int (2 : Int32)), (.int (0 : Int32)), (.ref aB), (.int x2)])) _
        refine XS.iadd X0.here hx rfl (hb hby d_mm_87) rfl ?_
        show Steps p.tables e below (s₁.setTop (mkF m 88 #[.val (.ref a1), .val (.int (0 : Int32)), .val (.ref aB), .val (.int (0 : Int32)), .val (.int (3 : Int32)), .val (.int (2 : Int32)), .unset, .unset] [(.int (2 : Int32)), (.ref aB), (.int x2)])) _
        exact k
      obtain ⟨cl16, Ar16, -, S16, -, H16, -⟩ := id VB
      have hin16 : ¬ ((2 : Int32) < 0 ∨ cl16.slots.size ≤ ((2 : Int32)).toNatClampNeg) := inb_of S16 (by decide)
      have pre_17 : ∀ t, Steps p.tables e below (s₁.setTop (mkF m 89 #[.val (.ref a1), .val (.int (0 : Int32)), .val (.ref aB), .val (.int (0 : Int32)), .val (.int (3 : Int32)), .val (.int (2 : Int32)), .unset, .unset] [(.int (-65 : Int32)), (.int x2)])) t → Steps p.tables e below (s₁.setTop (entryFrame m #[(.ref a1), (.int (0 : Int32)), (.ref aB), (.int (0 : Int32)), (.int (3 : Int32))] 8)) t := by
        intro t k
        refine pre_15 t ?_
        show Steps p.tables e below (s₁.setTop (mkF m 88 #[.val (.ref a1), .val (.int (0 : Int32)), .val (.ref aB), .val (.int (0 : Int32)), .val (.int (3 : Int32)), .val (.int (2 : Int32)), .unset, .unset] [(.int (2 : Int32)), (.ref aB), (.int x2)])) _
        refine X0.baloadBytes hx (j := (2 : Int32)) (v := (.int (-65 : Int32))) (by rw [e0]; exact Ar16.1) (State.isArrayOf_alike hZ.alike Ar16.2.1) Ar16.2.2 hin16 (H16.at hin16 rfl) (g := (mkF m 88 #[.val (.ref a1), .val (.int (0 : Int32)), .val (.ref aB), .val (.int (0 : Int32)), .val (.int (3 : Int32)), .val (.int (2 : Int32)), .unset, .unset] [(.int (2 : Int32)), (.ref aB), (.int x2)])) rfl rfl (hb hby d_mm_88) _ ?_
        show Steps p.tables e below (s₁.setTop (mkF m 89 #[.val (.ref a1), .val (.int (0 : Int32)), .val (.ref aB), .val (.int (0 : Int32)), .val (.int (3 : Int32)), .val (.int (2 : Int32)), .unset, .unset] [(.int (-65 : Int32)), (.int x2)])) _
        exact k
      by_cases hc18 : x2 = (-65 : Int32)
      · skip
        have pre_19 : ∀ t, Steps p.tables e below (s₁.setTop (mkF m 102 #[.val (.ref a1), .val (.int (0 : Int32)), .val (.ref aB), .val (.int (0 : Int32)), .val (.int (3 : Int32)), .val (.int (3 : Int32)), .unset, .unset] [(.int (-1 : Int32))])) t → Steps p.tables e below (s₁.setTop (entryFrame m #[(.ref a1), (.int (0 : Int32)), (.ref aB), (.int (0 : Int32)), (.int (3 : Int32))] 8)) t := by
          intro t k
          refine pre_17 t ?_
          show Steps p.tables e below (s₁.setTop (mkF m 89 #[.val (.ref a1), .val (.int (0 : Int32)), .val (.ref aB), .val (.int (0 : Int32)), .val (.int (3 : Int32)), .val (.int (2 : Int32)), .unset, .unset] [(.int (-65 : Int32)), (.int x2)])) _
          refine XS.icmpYes X0.here hx rfl (pc0 := 89) (pc' := 95) rfl (hb hby d_mm_89) rfl (XT.ii_eq_t hc18) (by decide) (by decide) ?_
          show Steps p.tables e below (s₁.setTop (mkF m 95 #[.val (.ref a1), .val (.int (0 : Int32)), .val (.ref aB), .val (.int (0 : Int32)), .val (.int (3 : Int32)), .val (.int (2 : Int32)), .unset, .unset] [])) _
          refine XS.iinc X0.here hx rfl (hb hby d_mm_95) rfl (l' := #[.val (.ref a1), .val (.int (0 : Int32)), .val (.ref aB), .val (.int (0 : Int32)), .val (.int (3 : Int32)), .val (.int (3 : Int32)), .unset, .unset]) rfl ?_
          show Steps p.tables e below (s₁.setTop (mkF m 98 #[.val (.ref a1), .val (.int (0 : Int32)), .val (.ref aB), .val (.int (0 : Int32)), .val (.int (3 : Int32)), .val (.int (3 : Int32)), .unset, .unset] [])) _
          refine XS.goto X0.here hx rfl (pc0 := 98) (pc' := 70) rfl (hb hby d_mm_98) (by decide) (by decide) ?_
          show Steps p.tables e below (s₁.setTop (mkF m 70 #[.val (.ref a1), .val (.int (0 : Int32)), .val (.ref aB), .val (.int (0 : Int32)), .val (.int (3 : Int32)), .val (.int (3 : Int32)), .unset, .unset] [])) _
          refine XS.iload X0.here hx rfl (hb hby d_mm_70) rfl ?_
          show Steps p.tables e below (s₁.setTop (mkF m 72 #[.val (.ref a1), .val (.int (0 : Int32)), .val (.ref aB), .val (.int (0 : Int32)), .val (.int (3 : Int32)), .val (.int (3 : Int32)), .unset, .unset] [(.int (3 : Int32))])) _
          refine XS.iload X0.here hx rfl (hb hby d_mm_72) rfl ?_
          show Steps p.tables e below (s₁.setTop (mkF m 74 #[.val (.ref a1), .val (.int (0 : Int32)), .val (.ref aB), .val (.int (0 : Int32)), .val (.int (3 : Int32)), .val (.int (3 : Int32)), .unset, .unset] [(.int (3 : Int32)), (.int (3 : Int32))])) _
          refine XS.icmpYes X0.here hx rfl (pc0 := 74) (pc' := 101) rfl (hb hby d_mm_74) rfl (XT.ii_ge_t (by decide)) (by decide) (by decide) ?_
          show Steps p.tables e below (s₁.setTop (mkF m 101 #[.val (.ref a1), .val (.int (0 : Int32)), .val (.ref aB), .val (.int (0 : Int32)), .val (.int (3 : Int32)), .val (.int (3 : Int32)), .unset, .unset] [])) _
          refine XS.iconst X0.here hx rfl (hb hby d_mm_101) ?_
          show Steps p.tables e below (s₁.setTop (mkF m 102 #[.val (.ref a1), .val (.int (0 : Int32)), .val (.ref aB), .val (.int (0 : Int32)), .val (.int (3 : Int32)), .val (.int (3 : Int32)), .unset, .unset] [(.int (-1 : Int32))])) _
          exact k
        obtain ⟨fs, hr, hrun, hended, hW, hsame⟩ := X0.leave (v := some (.int (-1 : Int32))) (fun h => by rw [Bd.returns] at h; cases h)
        refine ⟨_, _, pre_19 _ ?_, hrun, hended, _, _, rfl, ?_, ⟨_, rfl⟩, hW, hsame.mono (by decide) (by decide)⟩
        · show Steps p.tables e below (s₁.setTop (mkF m 102 #[.val (.ref a1), .val (.int (0 : Int32)), .val (.ref aB), .val (.int (0 : Int32)), .val (.int (3 : Int32)), .val (.int (3 : Int32)), .unset, .unset] [(.int (-1 : Int32))])) _
          exact retI X0 hx Bd.returns (hb hby d_mm_102) hr
        · show Q_mm Z a1 aB kA nn x0 x1 x2 tl kB h0 n0 _ s₁.heap _
          rw [e0]
          exact ⟨by simp [hc6, hc12, hc18], N0, rfl⟩
      · skip
        have pre_20 : ∀ t, Steps p.tables e below (s₁.setTop (mkF m 94 #[.val (.ref a1), .val (.int (0 : Int32)), .val (.ref aB), .val (.int (0 : Int32)), .val (.int (3 : Int32)), .val (.int (2 : Int32)), .unset, .unset] [(.int (2 : Int32))])) t → Steps p.tables e below (s₁.setTop (entryFrame m #[(.ref a1), (.int (0 : Int32)), (.ref aB), (.int (0 : Int32)), (.int (3 : Int32))] 8)) t := by
          intro t k
          refine pre_17 t ?_
          show Steps p.tables e below (s₁.setTop (mkF m 89 #[.val (.ref a1), .val (.int (0 : Int32)), .val (.ref aB), .val (.int (0 : Int32)), .val (.int (3 : Int32)), .val (.int (2 : Int32)), .unset, .unset] [(.int (-65 : Int32)), (.int x2)])) _
          refine XS.icmpNo X0.here hx rfl (hb hby d_mm_89) rfl (XT.ii_eq_f hc18) ?_
          show Steps p.tables e below (s₁.setTop (mkF m 92 #[.val (.ref a1), .val (.int (0 : Int32)), .val (.ref aB), .val (.int (0 : Int32)), .val (.int (3 : Int32)), .val (.int (2 : Int32)), .unset, .unset] [])) _
          refine XS.iload X0.here hx rfl (hb hby d_mm_92) rfl ?_
          show Steps p.tables e below (s₁.setTop (mkF m 94 #[.val (.ref a1), .val (.int (0 : Int32)), .val (.ref aB), .val (.int (0 : Int32)), .val (.int (3 : Int32)), .val (.int (2 : Int32)), .unset, .unset] [(.int (2 : Int32))])) _
          exact k
        obtain ⟨fs, hr, hrun, hended, hW, hsame⟩ := X0.leave (v := some (.int (2 : Int32))) (fun h => by rw [Bd.returns] at h; cases h)
        refine ⟨_, _, pre_20 _ ?_, hrun, hended, _, _, rfl, ?_, ⟨_, rfl⟩, hW, hsame.mono (by decide) (by decide)⟩
        · show Steps p.tables e below (s₁.setTop (mkF m 94 #[.val (.ref a1), .val (.int (0 : Int32)), .val (.ref aB), .val (.int (0 : Int32)), .val (.int (3 : Int32)), .val (.int (2 : Int32)), .unset, .unset] [(.int (2 : Int32))])) _
          exact retI X0 hx Bd.returns (hb hby d_mm_94) hr
        · show Q_mm Z a1 aB kA nn x0 x1 x2 tl kB h0 n0 _ s₁.heap _
          rw [e0]
          exact ⟨by simp [hc6, hc12, hc18], N0, rfl⟩
    · skip
      have pre_21 : ∀ t, Steps p.tables e below (s₁.setTop (mkF m 94 #[.val (.ref a1), .val (.int (0 : Int32)), .val (.ref aB), .val (.int (0 : Int32)), .val (.int (3 : Int32)), .val (.int (1 : Int32)), .unset, .unset] [(.int (1 : Int32))])) t → Steps p.tables e below (s₁.setTop (entryFrame m #[(.ref a1), (.int (0 : Int32)), (.ref aB), (.int (0 : Int32)), (.int (3 : Int32))] 8)) t := by
        intro t k
        refine pre_11 t ?_
        show Steps p.tables e below (s₁.setTop (mkF m 89 #[.val (.ref a1), .val (.int (0 : Int32)), .val (.ref aB), .val (.int (0 : Int32)), .val (.int (3 : Int32)), .val (.int (1 : Int32)), .unset, .unset] [(.int (-69 : Int32)), (.int x1)])) _
        refine XS.icmpNo X0.here hx rfl (hb hby d_mm_89) rfl (XT.ii_eq_f hc12) ?_
        show Steps p.tables e below (s₁.setTop (mkF m 92 #[.val (.ref a1), .val (.int (0 : Int32)), .val (.ref aB), .val (.int (0 : Int32)), .val (.int (3 : Int32)), .val (.int (1 : Int32)), .unset, .unset] [])) _
        refine XS.iload X0.here hx rfl (hb hby d_mm_92) rfl ?_
        show Steps p.tables e below (s₁.setTop (mkF m 94 #[.val (.ref a1), .val (.int (0 : Int32)), .val (.ref aB), .val (.int (0 : Int32)), .val (.int (3 : Int32)), .val (.int (1 : Int32)), .unset, .unset] [(.int (1 : Int32))])) _
        exact k
      obtain ⟨fs, hr, hrun, hended, hW, hsame⟩ := X0.leave (v := some (.int (1 : Int32))) (fun h => by rw [Bd.returns] at h; cases h)
      refine ⟨_, _, pre_21 _ ?_, hrun, hended, _, _, rfl, ?_, ⟨_, rfl⟩, hW, hsame.mono (by decide) (by decide)⟩
      · show Steps p.tables e below (s₁.setTop (mkF m 94 #[.val (.ref a1), .val (.int (0 : Int32)), .val (.ref aB), .val (.int (0 : Int32)), .val (.int (3 : Int32)), .val (.int (1 : Int32)), .unset, .unset] [(.int (1 : Int32))])) _
        exact retI X0 hx Bd.returns (hb hby d_mm_94) hr
      · show Q_mm Z a1 aB kA nn x0 x1 x2 tl kB h0 n0 _ s₁.heap _
        rw [e0]
        exact ⟨by simp [hc6, hc12], N0, rfl⟩
  · skip
    have pre_22 : ∀ t, Steps p.tables e below (s₁.setTop (mkF m 94 #[.val (.ref a1), .val (.int (0 : Int32)), .val (.ref aB), .val (.int (0 : Int32)), .val (.int (3 : Int32)), .val (.int (0 : Int32)), .unset, .unset] [(.int (0 : Int32))])) t → Steps p.tables e below (s₁.setTop (entryFrame m #[(.ref a1), (.int (0 : Int32)), (.ref aB), (.int (0 : Int32)), (.int (3 : Int32))] 8)) t := by
      intro t k
      refine pre_5 t ?_
      show Steps p.tables e below (s₁.setTop (mkF m 89 #[.val (.ref a1), .val (.int (0 : Int32)), .val (.ref aB), .val (.int (0 : Int32)), .val (.int (3 : Int32)), .val (.int (0 : Int32)), .unset, .unset] [(.int (-17 : Int32)), (.int x0)])) _
      refine XS.icmpNo X0.here hx rfl (hb hby d_mm_89) rfl (XT.ii_eq_f hc6) ?_
      show Steps p.tables e below (s₁.setTop (mkF m 92 #[.val (.ref a1), .val (.int (0 : Int32)), .val (.ref aB), .val (.int (0 : Int32)), .val (.int (3 : Int32)), .val (.int (0 : Int32)), .unset, .unset] [])) _
      refine XS.iload X0.here hx rfl (hb hby d_mm_92) rfl ?_
      show Steps p.tables e below (s₁.setTop (mkF m 94 #[.val (.ref a1), .val (.int (0 : Int32)), .val (.ref aB), .val (.int (0 : Int32)), .val (.int (3 : Int32)), .val (.int (0 : Int32)), .unset, .unset] [(.int (0 : Int32))])) _
      exact k
    obtain ⟨fs, hr, hrun, hended, hW, hsame⟩ := X0.leave (v := some (.int (0 : Int32))) (fun h => by rw [Bd.returns] at h; cases h)
    refine ⟨_, _, pre_22 _ ?_, hrun, hended, _, _, rfl, ?_, ⟨_, rfl⟩, hW, hsame.mono (by decide) (by decide)⟩
    · show Steps p.tables e below (s₁.setTop (mkF m 94 #[.val (.ref a1), .val (.int (0 : Int32)), .val (.ref aB), .val (.int (0 : Int32)), .val (.int (3 : Int32)), .val (.int (0 : Int32)), .unset, .unset] [(.int (0 : Int32))])) _
      exact retI X0 hx Bd.returns (hb hby d_mm_94) hr
    · show Q_mm Z a1 aB kA nn x0 x1 x2 tl kB h0 n0 _ s₁.heap _
      rw [e0]
      exact ⟨by simp [hc6], N0, rfl⟩
theorem d_eq_0 : decode jdk_65_method_90_code 0 = .ok (.aload_n 0, 1) := by decide +kernel
theorem d_eq_1 : decode jdk_65_method_90_code 1 = .ok (.arraylength, 1) := by decide +kernel
theorem d_eq_2 : decode jdk_65_method_90_code 2 = .ok (.iload_n 1, 1) := by decide +kernel
theorem d_eq_3 : decode jdk_65_method_90_code 3 = .ok (.iload_n 2, 1) := by decide +kernel
theorem d_eq_4 : decode jdk_65_method_90_code 4 = .ok (.invokestatic 13, 3) := by decide +kernel
theorem d_eq_7 : decode jdk_65_method_90_code 7 = .ok (.aload_n 3, 1) := by decide +kernel
theorem d_eq_8 : decode jdk_65_method_90_code 8 = .ok (.arraylength, 1) := by decide +kernel
theorem d_eq_9 : decode jdk_65_method_90_code 9 = .ok (.iload 4, 2) := by decide +kernel
theorem d_eq_11 : decode jdk_65_method_90_code 11 = .ok (.iload 5, 2) := by decide +kernel
theorem d_eq_13 : decode jdk_65_method_90_code 13 = .ok (.invokestatic 13, 3) := by decide +kernel
theorem d_eq_16 : decode jdk_65_method_90_code 16 = .ok (.iload_n 2, 1) := by decide +kernel
theorem d_eq_17 : decode jdk_65_method_90_code 17 = .ok (.iload_n 1, 1) := by decide +kernel
theorem d_eq_18 : decode jdk_65_method_90_code 18 = .ok (.isub, 1) := by decide +kernel
theorem d_eq_19 : decode jdk_65_method_90_code 19 = .ok (.istore 6, 2) := by decide +kernel
theorem d_eq_21 : decode jdk_65_method_90_code 21 = .ok (.iload 5, 2) := by decide +kernel
theorem d_eq_23 : decode jdk_65_method_90_code 23 = .ok (.iload 4, 2) := by decide +kernel
theorem d_eq_25 : decode jdk_65_method_90_code 25 = .ok (.isub, 1) := by decide +kernel
theorem d_eq_26 : decode jdk_65_method_90_code 26 = .ok (.istore 7, 2) := by decide +kernel
theorem d_eq_28 : decode jdk_65_method_90_code 28 = .ok (.iload 6, 2) := by decide +kernel
theorem d_eq_30 : decode jdk_65_method_90_code 30 = .ok (.iload 7, 2) := by decide +kernel
theorem d_eq_32 : decode jdk_65_method_90_code 32 = .ok (.if_icmp .eq 5, 3) := by decide +kernel
theorem d_eq_37 : decode jdk_65_method_90_code 37 = .ok (.aload_n 0, 1) := by decide +kernel
theorem d_eq_38 : decode jdk_65_method_90_code 38 = .ok (.iload_n 1, 1) := by decide +kernel
theorem d_eq_39 : decode jdk_65_method_90_code 39 = .ok (.aload_n 3, 1) := by decide +kernel
theorem d_eq_40 : decode jdk_65_method_90_code 40 = .ok (.iload 4, 2) := by decide +kernel
theorem d_eq_42 : decode jdk_65_method_90_code 42 = .ok (.iload 6, 2) := by decide +kernel
theorem d_eq_44 : decode jdk_65_method_90_code 44 = .ok (.invokestatic 275, 3) := by decide +kernel
theorem d_eq_47 : decode jdk_65_method_90_code 47 = .ok (.ifCond .ge 7, 3) := by decide +kernel
theorem d_eq_50 : decode jdk_65_method_90_code 50 = .ok (.iconst 1, 1) := by decide +kernel
theorem d_eq_51 : decode jdk_65_method_90_code 51 = .ok (.goto 4, 3) := by decide +kernel
theorem d_eq_54 : decode jdk_65_method_90_code 54 = .ok (.iconst 0, 1) := by decide +kernel
theorem d_eq_55 : decode jdk_65_method_90_code 55 = .ok (.ireturn, 1) := by decide +kernel
theorem pn_eq : plainName "java/util/Arrays" = true := by first | (simp [plainName, overriddenIn]; done) | decide +kernel
theorem pd_eq_0 : parseMethodDescriptor "(III)V" = some ⟨[.int, .int, .int], none⟩ := by decide +kernel
theorem pd_eq_1 : parseMethodDescriptor "([BI[BII)I" = some ⟨[(.array .byte), .int, (.array .byte), .int, .int], some .int⟩ := by decide +kernel
theorem ef_eq (m : MethodId) (a1 : Addr) (aB : Addr) : entryFrame m #[(.ref a1), (.int (0 : Int32)), (.int (3 : Int32)), (.ref aB), (.int (0 : Int32)), (.int (3 : Int32))] 8 = (mkF m 0 #[.val (.ref a1), .val (.int (0 : Int32)), .val (.int (3 : Int32)), .val (.ref aB), .val (.int (0 : Int32)), .val (.int (3 : Int32)), .unset, .unset] []) := by first | (simp [entryFrame, mkF, argsToLocals, Value.category]; done) | rfl
def Q_eq (Z : State) (a1 : Addr) (aB : Addr) (kA : ClassId) (nn x0 x1 x2 : Int32) (tl : List Value) (kB : ClassId) (h0 : Heap) (n0 : Nat) (v : Option Value) (h : Heap) (L : List Loc) : Prop := v = some (.int (if x0 = (-17 : Int32) then (if x1 = (-69 : Int32) then (if x2 = (-65 : Int32) then (1 : Int32) else (0 : Int32)) else (0 : Int32)) else (0 : Int32))) ∧ Fr n0 L ∧ h = h0
set_option maxRecDepth 65536 in
set_option maxHeartbeats 40000000 in
theorem rm_eq (l : Launch) (Z : State) (a0 : Array Value) (hw : ∀ d ∈ tables_1, d.before a0 Z = true) (ws : List Jvm.Cond) (a1 : Addr) (aB : Addr) (kA : ClassId) (nn x0 x1 x2 : Int32) (tl : List Value) (kB : ClassId) (h0 : Heap) (n0 : Nat) (O0 : Old Z n0 h0) (hnn : ¬ nn < (3 : Int32)) (VA : Arv Z h0 a1 kA .byte nn ((.int x0) :: (.int x1) :: (.int x2) :: tl) (.int (0 : Int32))) (VB : Arv Z h0 aB kB .byte (3 : Int32) [(.int (-17 : Int32)), (.int (-69 : Int32)), (.int (-65 : Int32))] (.int (0 : Int32))) :
    MetFree l (⟨"java/util/Arrays", "equals", "([BII[BII)Z"⟩ : MethodName) (head1 (Jvm.Cond.code (⟨"java/util/Arrays", "equals", "([BII[BII)Z"⟩ : MethodName) jdk_65_method_90_code 8 (some .boolean) :: ws) ({ frames := 1, cells := 0, slots := 0, locals := 19 } : Room)) (fun a U => a = #[(.ref a1), (.int (0 : Int32)), (.int (3 : Int32)), (.ref aB), (.int (0 : Int32)), (.int (3 : Int32))] ∧ Z.Warmed39 U.vm ∧ U.heap = h0) (fun _ _ _ _ _ => True) (fun _ U o U' => ∃ v L, o = .returned v ∧ Q_eq Z a1 aB kA nn x0 x1 x2 tl kB h0 n0 v U'.heap L ∧ FrameEnd U o U' L ({ frames := 1, cells := 0, slots := 0, locals := 19 } : Room).cells ({ frames := 1, cells := 0, slots := 0, locals := 19 } : Room).slots) := by
  refine MetFree.of_bodySF (plainFor_of_name pn_eq) hisR ?_
  intro p e s m args below meth c s₁ Bd hml0 hP hK
  obtain ⟨rfl, hZ, hh⟩ := hP
  have hx := Bd.exec
  have hby := Bd.bytes
  have hml : c.maxLocals = 8 := hml0
  have hown : s.vm.findClass "java/util/Arrays" = some m.cls := findClass_of_methodNamed Bd.named
  have hnm := (name_of_methodNamed Bd.named Bd.method).1
  have X0 : Stand p l e ({ frames := 1, cells := 0, slots := 0, locals := 19 } : Room) s m #[(.ref a1), (.int (0 : Int32)), (.int (3 : Int32)), (.ref aB), (.int (0 : Int32)), (.int (3 : Int32))] below meth c s₁ [] 0 0 := Stand.of_body Bd
  have e0 : s₁.heap = h0 := by rw [← hh, Bd.state]; rfl
  have N0 := Fr.nil n0
  have pre0 : ∀ t, Steps p.tables e below (s₁.setTop (mkF m 0 #[.val (.ref a1), .val (.int (0 : Int32)), .val (.int (3 : Int32)), .val (.ref aB), .val (.int (0 : Int32)), .val (.int (3 : Int32)), .unset, .unset] [])) t → Steps p.tables e below (s₁.setTop (entryFrame m #[(.ref a1), (.int (0 : Int32)), (.int (3 : Int32)), (.ref aB), (.int (0 : Int32)), (.int (3 : Int32))] 8)) t := fun t k => castTop (ef_eq m a1 aB) k
  have pre_1 : ∀ t, Steps p.tables e below (s₁.setTop (mkF m 1 #[.val (.ref a1), .val (.int (0 : Int32)), .val (.int (3 : Int32)), .val (.ref aB), .val (.int (0 : Int32)), .val (.int (3 : Int32)), .unset, .unset] [(.ref a1)])) t → Steps p.tables e below (s₁.setTop (entryFrame m #[(.ref a1), (.int (0 : Int32)), (.int (3 : Int32)), (.ref aB), (.int (0 : Int32)), (.int (3 : Int32))] 8)) t := by
    intro t k
    refine pre0 t ?_
    show Steps p.tables e below (s₁.setTop (mkF m 0 #[.val (.ref a1), .val (.int (0 : Int32)), .val (.int (3 : Int32)), .val (.ref aB), .val (.int (0 : Int32)), .val (.int (3 : Int32)), .unset, .unset] [])) _
    refine XS.aloadN X0.here hx rfl (hb hby d_eq_0) rfl rfl ?_
    show Steps p.tables e below (s₁.setTop (mkF m 1 #[.val (.ref a1), .val (.int (0 : Int32)), .val (.int (3 : Int32)), .val (.ref aB), .val (.int (0 : Int32)), .val (.int (3 : Int32)), .unset, .unset] [(.ref a1)])) _
    exact k
  obtain ⟨cl2, Ar2, -, S2, M2, -, -⟩ := id VA
  have pre_3 : ∀ t, Steps p.tables e below (s₁.setTop (mkF m 4 #[.val (.ref a1), .val (.int (0 : Int32)), .val (.int (3 : Int32)), .val (.ref aB), .val (.int (0 : Int32)), .val (.int (3 : Int32)), .unset, .unset] [(.int (3 : Int32)), (.int (0 : Int32)), (.int nn)])) t → Steps p.tables e below (s₁.setTop (entryFrame m #[(.ref a1), (.int (0 : Int32)), (.int (3 : Int32)), (.ref aB), (.int (0 : Int32)), (.int (3 : Int32))] 8)) t := by
    intro t k
    refine pre_1 t ?_
    show Steps p.tables e below (s₁.setTop (mkF m 1 #[.val (.ref a1), .val (.int (0 : Int32)), .val (.int (3 : Int32)), .val (.ref aB), .val (.int (0 : Int32)), .val (.int (3 : Int32)), .unset, .unset] [(.ref a1)])) _
    refine X0.arraylength hx (cell := cl2) (by rw [e0]; exact Ar2.1) (State.isArrayOf_alike hZ.alike Ar2.2.1) (g := (mkF m 1 #[.val (.ref a1), .val (.int (0 : Int32)), .val (.int (3 : Int32)), .val (.ref aB), .val (.int (0 : Int32)), .val (.int (3 : Int32)), .unset, .unset] [(.ref a1)])) rfl (rest := []) rfl (hb hby d_eq_1) _ ?_
    rw [len_of S2 M2]
    show Steps p.tables e below (s₁.setTop (mkF m 2 #[.val (.ref a1), .val (.int (0 : Int32)), .val (.int (3 : Int32)), .val (.ref aB), .val (.int (0 : Int32)), .val (.int (3 : Int32)), .unset, .unset] [(.int nn)])) _
    refine XS.iloadN X0.here hx rfl (hb hby d_eq_2) rfl ?_
    show Steps p.tables e below (s₁.setTop (mkF m 3 #[.val (.ref a1), .val (.int (0 : Int32)), .val (.int (3 : Int32)), .val (.ref aB), .val (.int (0 : Int32)), .val (.int (3 : Int32)), .unset, .unset] [(.int (0 : Int32)), (.int nn)])) _
    refine XS.iloadN X0.here hx rfl (hb hby d_eq_3) rfl ?_
    show Steps p.tables e below (s₁.setTop (mkF m 4 #[.val (.ref a1), .val (.int (0 : Int32)), .val (.int (3 : Int32)), .val (.ref aB), .val (.int (0 : Int32)), .val (.int (3 : Int32)), .unset, .unset] [(.int (3 : Int32)), (.int (0 : Int32)), (.int nn)])) _
    exact k
  obtain ⟨_, _, ⟨T4, L4, k4, n4⟩, -, X4, ⟨Lc4, hQ4, l4, y4, z4⟩, st4⟩ := Jvm.LawKit.callS X0 hx (y := (⟨"java/util/Arrays", "rangeCheck", "(III)V"⟩ : MethodName)) hown (mvT hZ (hw _ (List.mem_of_getElem? (i := 16) rfl))) (mvT hZ (hw _ (List.mem_of_getElem? (i := 17) rfl))) (mvT hZ (hw _ (List.mem_of_getElem? (i := 14) rfl))) (mvT hZ (hw _ (List.mem_of_getElem? (i := 18) rfl))) (by decide) (backOf (W := 0) (rm_rc l Z a0 hw [] nn h0 n0 O0 hnn) hZ (hw _ (List.mem_of_getElem? (i := 18) rfl)) (hw _ (List.mem_of_getElem? (i := 14) rfl)) (by decide) (by decide)) (g := (mkF m 4 #[.val (.ref a1), .val (.int (0 : Int32)), .val (.int (3 : Int32)), .val (.ref aB), .val (.int (0 : Int32)), .val (.int (3 : Int32)), .unset, .unset] [(.int (3 : Int32)), (.int (0 : Int32)), (.int nn)])) rfl (by rw [hml]; rfl) (argsL := [(.int nn), (.int (0 : Int32)), (.int (3 : Int32))]) (rest := []) (lenOf pd_eq_0 rfl) rfl (by show 2 * 0 + _ ≤ _; exact Nat.le_of_eq rfl) (hb hby d_eq_4) (fun _ _ => ⟨rfl, e0, (by decide : 0 + 0 ≤ _), (by decide : 0 + 0 ≤ _)⟩)
  dsimp only [Pt.U, Pt.locs, Pt.cells, Pt.slots] at X4 l4 y4 z4 st4 hQ4
  subst l4 y4 z4
  obtain ⟨rfl, N4q, e4⟩ := hQ4
  have N4 := Fr.app N0 N4q
  have pre_5 : ∀ t, Steps p.tables e below (T4.setTop (mkF m 7 #[.val (.ref a1), .val (.int (0 : Int32)), .val (.int (3 : Int32)), .val (.ref aB), .val (.int (0 : Int32)), .val (.int (3 : Int32)), .unset, .unset] [])) t → Steps p.tables e below (s₁.setTop (entryFrame m #[(.ref a1), (.int (0 : Int32)), (.int (3 : Int32)), (.ref aB), (.int (0 : Int32)), (.int (3 : Int32))] 8)) t := fun t k => pre_3 t (st4 t k)
  have pre_6 : ∀ t, Steps p.tables e below (T4.setTop (mkF m 8 #[.val (.ref a1), .val (.int (0 : Int32)), .val (.int (3 : Int32)), .val (.ref aB), .val (.int (0 : Int32)), .val (.int (3 : Int32)), .unset, .unset] [(.ref aB)])) t → Steps p.tables e below (s₁.setTop (entryFrame m #[(.ref a1), (.int (0 : Int32)), (.int (3 : Int32)), (.ref aB), (.int (0 : Int32)), (.int (3 : Int32))] 8)) t := by
    intro t k
    refine pre_5 t ?_
    show Steps p.tables e below (T4.setTop (mkF m 7 #[.val (.ref a1), .val (.int (0 : Int32)), .val (.int (3 : Int32)), .val (.ref aB), .val (.int (0 : Int32)), .val (.int (3 : Int32)), .unset, .unset] [])) _
    refine XS.aloadN X4.here hx rfl (hb hby d_eq_7) rfl rfl ?_
    show Steps p.tables e below (T4.setTop (mkF m 8 #[.val (.ref a1), .val (.int (0 : Int32)), .val (.int (3 : Int32)), .val (.ref aB), .val (.int (0 : Int32)), .val (.int (3 : Int32)), .unset, .unset] [(.ref aB)])) _
    exact k
  obtain ⟨cl7, Ar7, -, S7, M7, -, -⟩ := id VB
  have pre_8 : ∀ t, Steps p.tables e below (T4.setTop (mkF m 13 #[.val (.ref a1), .val (.int (0 : Int32)), .val (.int (3 : Int32)), .val (.ref aB), .val (.int (0 : Int32)), .val (.int (3 : Int32)), .unset, .unset] [(.int (3 : Int32)), (.int (0 : Int32)), (.int (3 : Int32))])) t → Steps p.tables e below (s₁.setTop (entryFrame m #[(.ref a1), (.int (0 : Int32)), (.int (3 : Int32)), (.ref aB), (.int (0 : Int32)), (.int (3 : Int32))] 8)) t := by
    intro t k
    refine pre_6 t ?_
    show Steps p.tables e below (T4.setTop (mkF m 8 #[.val (.ref a1), .val (.int (0 : Int32)), .val (.int (3 : Int32)), .val (.ref aB), .val (.int (0 : Int32)), .val (.int (3 : Int32)), .unset, .unset] [(.ref aB)])) _
    refine X4.arraylength hx (cell := cl7) (by rw [e4]; exact Ar7.1) (State.isArrayOf_alike hZ.alike Ar7.2.1) (g := (mkF m 8 #[.val (.ref a1), .val (.int (0 : Int32)), .val (.int (3 : Int32)), .val (.ref aB), .val (.int (0 : Int32)), .val (.int (3 : Int32)), .unset, .unset] [(.ref aB)])) rfl (rest := []) rfl (hb hby d_eq_8) _ ?_
    rw [len_of S7 M7]
    show Steps p.tables e below (T4.setTop (mkF m 9 #[.val (.ref a1), .val (.int (0 : Int32)), .val (.int (3 : Int32)), .val (.ref aB), .val (.int (0 : Int32)), .val (.int (3 : Int32)), .unset, .unset] [(.int (3 : Int32))])) _
    refine XS.iload X4.here hx rfl (hb hby d_eq_9) rfl ?_
    show Steps p.tables e below (T4.setTop (mkF m 11 #[.val (.ref a1), .val (.int (0 : Int32)), .val (.int (3 : Int32)), .val (.ref aB), .val (.int (0 : Int32)), .val (.int (3 : Int32)), .unset, .unset] [(.int (0 : Int32)), (.int (3 : Int32))])) _
    refine XS.iload X4.here hx rfl (hb hby d_eq_11) rfl ?_
    show Steps p.tables e below (T4.setTop (mkF m 13 #[.val (.ref a1), .val (.int (0 : Int32)), .val (.int (3 : Int32)), .val (.ref aB), .val (.int (0 : Int32)), .val (.int (3 : Int32)), .unset, .unset] [(.int (3 : Int32)), (.int (0 : Int32)), (.int (3 : Int32))])) _
    exact k
  obtain ⟨_, _, ⟨T9, L9, k9, n9⟩, -, X9, ⟨Lc9, hQ9, l9, y9, z9⟩, st9⟩ := Jvm.LawKit.callS X4 hx (y := (⟨"java/util/Arrays", "rangeCheck", "(III)V"⟩ : MethodName)) hown (mvT hZ (hw _ (List.mem_of_getElem? (i := 16) rfl))) (mvT hZ (hw _ (List.mem_of_getElem? (i := 17) rfl))) (mvT hZ (hw _ (List.mem_of_getElem? (i := 14) rfl))) (mvT hZ (hw _ (List.mem_of_getElem? (i := 18) rfl))) (by decide) (backOf (W := 0) (rm_rc l Z a0 hw [] (3 : Int32) h0 n0 O0 (by decide)) hZ (hw _ (List.mem_of_getElem? (i := 18) rfl)) (hw _ (List.mem_of_getElem? (i := 14) rfl)) (by decide) (by decide)) (g := (mkF m 13 #[.val (.ref a1), .val (.int (0 : Int32)), .val (.int (3 : Int32)), .val (.ref aB), .val (.int (0 : Int32)), .val (.int (3 : Int32)), .unset, .unset] [(.int (3 : Int32)), (.int (0 : Int32)), (.int (3 : Int32))])) rfl (by rw [hml]; rfl) (argsL := [(.int (3 : Int32)), (.int (0 : Int32)), (.int (3 : Int32))]) (rest := []) (lenOf pd_eq_0 rfl) rfl (by show 2 * 0 + _ ≤ _; exact Nat.le_of_eq rfl) (hb hby d_eq_13) (fun _ _ => ⟨rfl, e4, (by decide : 0 + 0 ≤ _), (by decide : 0 + 0 ≤ _)⟩)
  dsimp only [Pt.U, Pt.locs, Pt.cells, Pt.slots] at X9 l9 y9 z9 st9 hQ9
  subst l9 y9 z9
  obtain ⟨rfl, N9q, e9⟩ := hQ9
  have N9 := Fr.app N4 N9q
  have pre_10 : ∀ t, Steps p.tables e below (T9.setTop (mkF m 16 #[.val (.ref a1), .val (.int (0 : Int32)), .val (.int (3 : Int32)), .val (.ref aB), .val (.int (0 : Int32)), .val (.int (3 : Int32)), .unset, .unset] [])) t → Steps p.tables e below (s₁.setTop (entryFrame m #[(.ref a1), (.int (0 : Int32)), (.int (3 : Int32)), (.ref aB), (.int (0 : Int32)), (.int (3 : Int32))] 8)) t := fun t k => pre_8 t (st9 t k)
  have pre_11 : ∀ t, Steps p.tables e below (T9.setTop (mkF m 44 #[.val (.ref a1), .val (.int (0 : Int32)), .val (.int (3 : Int32)), .val (.ref aB), .val (.int (0 : Int32)), .val (.int (3 : Int32)), .val (.int (3 : Int32)), .val (.int (3 : Int32))] [(.int (3 : Int32)), (.int (0 : Int32)), (.ref aB), (.int (0 : Int32)), (.ref a1)])) t → Steps p.tables e below (s₁.setTop (entryFrame m #[(.ref a1), (.int (0 : Int32)), (.int (3 : Int32)), (.ref aB), (.int (0 : Int32)), (.int (3 : Int32))] 8)) t := by
    intro t k
    refine pre_10 t ?_
    show Steps p.tables e below (T9.setTop (mkF m 16 #[.val (.ref a1), .val (.int (0 : Int32)), .val (.int (3 : Int32)), .val (.ref aB), .val (.int (0 : Int32)), .val (.int (3 : Int32)), .unset, .unset] [])) _
    refine XS.iloadN X9.here hx rfl (hb hby d_eq_16) rfl ?_
    show Steps p.tables e below (T9.setTop (mkF m 17 #[.val (.ref a1), .val (.int (0 : Int32)), .val (.int (3 : Int32)), .val (.ref aB), .val (.int (0 : Int32)), .val (.int (3 : Int32)), .unset, .unset] [(.int (3 : Int32))])) _
    refine XS.iloadN X9.here hx rfl (hb hby d_eq_17) rfl ?_
    show Steps p.tables e below (T9.setTop (mkF m 18 #[.val (.ref a1), .val (.int (0 : Int32)), .val (.int (3 : Int32)), .val (.ref aB), .val (.int (0 : Int32)), .val (.int (3 : Int32)), .unset, .unset] [(.int (0 : Int32)), (.int (3 : Int32))])) _
    refine XS.isub X9.here hx rfl (hb hby d_eq_18) rfl ?_
    show Steps p.tables e below (T9.setTop (mkF m 19 #[.val (.ref a1), .val (.int (0 : Int32)), .val (.int (3 : Int32)), .val (.ref aB), .val (.int (0 : Int32)), .val (.int (3 : Int32)), .unset, .unset] [(.int (3 : Int32))])) _
    refine XS.istore X9.here hx rfl (hb hby d_eq_19) rfl (l' := #[.val (.ref a1), .val (.int (0 : Int32)), .val (.int (3 : Int32)), .val (.ref aB), .val (.int (0 : Int32)), .val (.int (3 : Int32)), .val (.int (3 : Int32)), .unset]) rfl ?_
    show Steps p.tables e below (T9.setTop (mkF m 21 #[.val (.ref a1), .val (.int (0 : Int32)), .val (.int (3 : Int32)), .val (.ref aB), .val (.int (0 : Int32)), .val (.int (3 : Int32)), .val (.int (3 : Int32)), .unset] [])) _
    refine XS.iload X9.here hx rfl (hb hby d_eq_21) rfl ?_
    show Steps p.tables e below (T9.setTop (mkF m 23 #[.val (.ref a1), .val (.int (0 : Int32)), .val (.int (3 : Int32)), .val (.ref aB), .val (.int (0 : Int32)), .val (.int (3 : Int32)), .val (.int (3 : Int32)), .unset] [(.int (3 : Int32))])) _
    refine XS.iload X9.here hx rfl (hb hby d_eq_23) rfl ?_
    show Steps p.tables e below (T9.setTop (mkF m 25 #[.val (.ref a1), .val (.int (0 : Int32)), .val (.int (3 : Int32)), .val (.ref aB), .val (.int (0 : Int32)), .val (.int (3 : Int32)), .val (.int (3 : Int32)), .unset] [(.int (0 : Int32)), (.int (3 : Int32))])) _
    refine XS.isub X9.here hx rfl (hb hby d_eq_25) rfl ?_
    show Steps p.tables e below (T9.setTop (mkF m 26 #[.val (.ref a1), .val (.int (0 : Int32)), .val (.int (3 : Int32)), .val (.ref aB), .val (.int (0 : Int32)), .val (.int (3 : Int32)), .val (.int (3 : Int32)), .unset] [(.int (3 : Int32))])) _
    refine XS.istore X9.here hx rfl (hb hby d_eq_26) rfl (l' := #[.val (.ref a1), .val (.int (0 : Int32)), .val (.int (3 : Int32)), .val (.ref aB), .val (.int (0 : Int32)), .val (.int (3 : Int32)), .val (.int (3 : Int32)), .val (.int (3 : Int32))]) rfl ?_
    show Steps p.tables e below (T9.setTop (mkF m 28 #[.val (.ref a1), .val (.int (0 : Int32)), .val (.int (3 : Int32)), .val (.ref aB), .val (.int (0 : Int32)), .val (.int (3 : Int32)), .val (.int (3 : Int32)), .val (.int (3 : Int32))] [])) _
    refine XS.iload X9.here hx rfl (hb hby d_eq_28) rfl ?_
    show Steps p.tables e below (T9.setTop (mkF m 30 #[.val (.ref a1), .val (.int (0 : Int32)), .val (.int (3 : Int32)), .val (.ref aB), .val (.int (0 : Int32)), .val (.int (3 : Int32)), .val (.int (3 : Int32)), .val (.int (3 : Int32))] [(.int (3 : Int32))])) _
    refine XS.iload X9.here hx rfl (hb hby d_eq_30) rfl ?_
    show Steps p.tables e below (T9.setTop (mkF m 32 #[.val (.ref a1), .val (.int (0 : Int32)), .val (.int (3 : Int32)), .val (.ref aB), .val (.int (0 : Int32)), .val (.int (3 : Int32)), .val (.int (3 : Int32)), .val (.int (3 : Int32))] [(.int (3 : Int32)), (.int (3 : Int32))])) _
    refine XS.icmpYes X9.here hx rfl (pc0 := 32) (pc' := 37) rfl (hb hby d_eq_32) rfl (XT.ii_eq_t (by decide)) (by decide) (by decide) ?_
    show Steps p.tables e below (T9.setTop (mkF m 37 #[.val (.ref a1), .val (.int (0 : Int32)), .val (.int (3 : Int32)), .val (.ref aB), .val (.int (0 : Int32)), .val (.int (3 : Int32)), .val (.int (3 : Int32)), .val (.int (3 : Int32))] [])) _
    refine XS.aloadN X9.here hx rfl (hb hby d_eq_37) rfl rfl ?_
    show Steps p.tables e below (T9.setTop (mkF m 38 #[.val (.ref a1), .val (.int (0 : Int32)), .val (.int (3 : Int32)), .val (.ref aB), .val (.int (0 : Int32)), .val (.int (3 : Int32)), .val (.int (3 : Int32)), .val (.int (3 : Int32))] [(.ref a1)])) _
    refine XS.iloadN X9.here hx rfl (hb hby d_eq_38) rfl ?_
    show Steps p.tables e below (T9.setTop (mkF m 39 #[.val (.ref a1), .val (.int (0 : Int32)), .val (.int (3 : Int32)), .val (.ref aB), .val (.int (0 : Int32)), .val (.int (3 : Int32)), .val (.int (3 : Int32)), .val (.int (3 : Int32))] [(.int (0 : Int32)), (.ref a1)])) _
    refine XS.aloadN X9.here hx rfl (hb hby d_eq_39) rfl rfl ?_
    show Steps p.tables e below (T9.setTop (mkF m 40 #[.val (.ref a1), .val (.int (0 : Int32)), .val (.int (3 : Int32)), .val (.ref aB), .val (.int (0 : Int32)), .val (.int (3 : Int32)), .val (.int (3 : Int32)), .val (.int (3 : Int32))] [(.ref aB), (.int (0 : Int32)), (.ref a1)])) _
    refine XS.iload X9.here hx rfl (hb hby d_eq_40) rfl ?_
    show Steps p.tables e below (T9.setTop (mkF m 42 #[.val (.ref a1), .val (.int (0 : Int32)), .val (.int (3 : Int32)), .val (.ref aB), .val (.int (0 : Int32)), .val (.int (3 : Int32)), .val (.int (3 : Int32)), .val (.int (3 : Int32))] [(.int (0 : Int32)), (.ref aB), (.int (0 : Int32)), (.ref a1)])) _
    refine XS.iload X9.here hx rfl (hb hby d_eq_42) rfl ?_
    show Steps p.tables e below (T9.setTop (mkF m 44 #[.val (.ref a1), .val (.int (0 : Int32)), .val (.int (3 : Int32)), .val (.ref aB), .val (.int (0 : Int32)), .val (.int (3 : Int32)), .val (.int (3 : Int32)), .val (.int (3 : Int32))] [(.int (3 : Int32)), (.int (0 : Int32)), (.ref aB), (.int (0 : Int32)), (.ref a1)])) _
    exact k
  obtain ⟨_, _, ⟨T12, L12, k12, n12⟩, -, X12, ⟨Lc12, hQ12, l12, y12, z12⟩, st12⟩ := Jvm.LawKit.callS X9 hx (y := (⟨"jdk/internal/util/ArraysSupport", "mismatch", "([BI[BII)I"⟩ : MethodName)) hown (mvT hZ (hw _ (List.mem_of_getElem? (i := 19) rfl))) (mvT hZ (hw _ (List.mem_of_getElem? (i := 20) rfl))) (mvT hZ (hw _ (List.mem_of_getElem? (i := 21) rfl))) (mvT hZ (hw _ (List.mem_of_getElem? (i := 22) rfl))) (by decide) (backOf (W := 0) (rm_mm l Z a0 hw [] a1 aB kA nn x0 x1 x2 tl kB h0 n0 O0 hnn VA VB) hZ (hw _ (List.mem_of_getElem? (i := 22) rfl)) (hw _ (List.mem_of_getElem? (i := 21) rfl)) (by decide) (by decide)) (g := (mkF m 44 #[.val (.ref a1), .val (.int (0 : Int32)), .val (.int (3 : Int32)), .val (.ref aB), .val (.int (0 : Int32)), .val (.int (3 : Int32)), .val (.int (3 : Int32)), .val (.int (3 : Int32))] [(.int (3 : Int32)), (.int (0 : Int32)), (.ref aB), (.int (0 : Int32)), (.ref a1)])) rfl (by rw [hml]; rfl) (argsL := [(.ref a1), (.int (0 : Int32)), (.ref aB), (.int (0 : Int32)), (.int (3 : Int32))]) (rest := []) (lenOf pd_eq_1 rfl) rfl (by show 2 * 0 + _ ≤ _; exact Nat.le_of_eq rfl) (hb hby d_eq_44) (fun _ _ => ⟨rfl, e9, (by decide : 0 + 0 ≤ _), (by decide : 0 + 0 ≤ _)⟩)
  dsimp only [Pt.U, Pt.locs, Pt.cells, Pt.slots] at X12 l12 y12 z12 st12 hQ12
  subst l12 y12 z12
  obtain ⟨rfl, N12q, e12⟩ := hQ12
  have N12 := Fr.app N9 N12q
  have pre_13 : ∀ t, Steps p.tables e below (T12.setTop (mkF m 47 #[.val (.ref a1), .val (.int (0 : Int32)), .val (.int (3 : Int32)), .val (.ref aB), .val (.int (0 : Int32)), .val (.int (3 : Int32)), .val (.int (3 : Int32)), .val (.int (3 : Int32))] [(.int (if x0 = (-17 : Int32) then (if x1 = (-69 : Int32) then (if x2 = (-65 : Int32) then (-1 : Int32) else (2 : Int32)) else (1 : Int32)) else (0 : Int32)))])) t → Steps p.tables e below (s₁.setTop (entryFrame m #[(.ref a1), (.int (0 : Int32)), (.int (3 : Int32)), (.ref aB), (.int (0 : Int32)), (.int (3 : Int32))] 8)) t := fun t k => pre_11 t (st12 t k)
  by_cases hc14 : x0 = (-17 : Int32)
  · skip
    by_cases hc15 : x1 = (-69 : Int32)
    · skip
      by_cases hc16 : x2 = (-65 : Int32)
      · skip
        have pre_17 : ∀ t, Steps p.tables e below (T12.setTop (mkF m 55 #[.val (.ref a1), .val (.int (0 : Int32)), .val (.int (3 : Int32)), .val (.ref aB), .val (.int (0 : Int32)), .val (.int (3 : Int32)), .val (.int (3 : Int32)), .val (.int (3 : Int32))] [(.int (1 : Int32))])) t → Steps p.tables e below (s₁.setTop (entryFrame m #[(.ref a1), (.int (0 : Int32)), (.int (3 : Int32)), (.ref aB), (.int (0 : Int32)), (.int (3 : Int32))] 8)) t := by
          intro t k
          refine pre_13 t ?_
          show Steps p.tables e below (T12.setTop (mkF m 47 #[.val (.ref a1), .val (.int (0 : Int32)), .val (.int (3 : Int32)), .val (.ref aB), .val (.int (0 : Int32)), .val (.int (3 : Int32)), .val (.int (3 : Int32)), .val (.int (3 : Int32))] [(.int (if x0 = (-17 : Int32) then (if x1 = (-69 : Int32) then (if x2 = (-65 : Int32) then (-1 : Int32) else (2 : Int32)) else (1 : Int32)) else (0 : Int32)))])) _
          refine XS.ifNo X12.here hx rfl (hb hby d_eq_47) rfl (XT.i0_ge_f (by simp only [if_pos hc14, if_pos hc15, if_pos hc16] <;> decide)) ?_
          show Steps p.tables e below (T12.setTop (mkF m 50 #[.val (.ref a1), .val (.int (0 : Int32)), .val (.int (3 : Int32)), .val (.ref aB), .val (.int (0 : Int32)), .val (.int (3 : Int32)), .val (.int (3 : Int32)), .val (.int (3 : Int32))] [])) _
          refine XS.iconst X12.here hx rfl (hb hby d_eq_50) ?_
          show Steps p.tables e below (T12.setTop (mkF m 51 #[.val (.ref a1), .val (.int (0 : Int32)), .val (.int (3 : Int32)), .val (.ref aB), .val (.int (0 : Int32)), .val (.int (3 : Int32)), .val (.int (3 : Int32)), .val (.int (3 : Int32))] [(.int (1 : Int32))])) _
          refine XS.goto X12.here hx rfl (pc0 := 51) (pc' := 55) rfl (hb hby d_eq_51) (by decide) (by decide) ?_
          show Steps p.tables e below (T12.setTop (mkF m 55 #[.val (.ref a1), .val (.int (0 : Int32)), .val (.int (3 : Int32)), .val (.ref aB), .val (.int (0 : Int32)), .val (.int (3 : Int32)), .val (.int (3 : Int32)), .val (.int (3 : Int32))] [(.int (1 : Int32))])) _
          exact k
        obtain ⟨fs, hr, hrun, hended, hW, hsame⟩ := X12.leave (v := some (.int (1 : Int32))) (fun h => by rw [Bd.returns] at h; cases h)
        refine ⟨_, _, pre_17 _ ?_, hrun, hended, _, _, rfl, ?_, ⟨_, rfl⟩, hW, hsame.mono (by decide) (by decide)⟩
        · show Steps p.tables e below (T12.setTop (mkF m 55 #[.val (.ref a1), .val (.int (0 : Int32)), .val (.int (3 : Int32)), .val (.ref aB), .val (.int (0 : Int32)), .val (.int (3 : Int32)), .val (.int (3 : Int32)), .val (.int (3 : Int32))] [(.int (1 : Int32))])) _
          exact retN X12 hx (t := .boolean) Bd.returns (by simp) (hb hby d_eq_55) hr
        · show Q_eq Z a1 aB kA nn x0 x1 x2 tl kB h0 n0 _ T12.heap _
          rw [e12]
          exact ⟨by simp [hc14, hc15, hc16], N12, rfl⟩
      · skip
        have pre_18 : ∀ t, Steps p.tables e below (T12.setTop (mkF m 55 #[.val (.ref a1), .val (.int (0 : Int32)), .val (.int (3 : Int32)), .val (.ref aB), .val (.int (0 : Int32)), .val (.int (3 : Int32)), .val (.int (3 : Int32)), .val (.int (3 : Int32))] [(.int (0 : Int32))])) t → Steps p.tables e below (s₁.setTop (entryFrame m #[(.ref a1), (.int (0 : Int32)), (.int (3 : Int32)), (.ref aB), (.int (0 : Int32)), (.int (3 : Int32))] 8)) t := by
          intro t k
          refine pre_13 t ?_
          show Steps p.tables e below (T12.setTop (mkF m 47 #[.val (.ref a1), .val (.int (0 : Int32)), .val (.int (3 : Int32)), .val (.ref aB), .val (.int (0 : Int32)), .val (.int (3 : Int32)), .val (.int (3 : Int32)), .val (.int (3 : Int32))] [(.int (if x0 = (-17 : Int32) then (if x1 = (-69 : Int32) then (if x2 = (-65 : Int32) then (-1 : Int32) else (2 : Int32)) else (1 : Int32)) else (0 : Int32)))])) _
          refine XS.ifYes X12.here hx rfl (pc0 := 47) (pc' := 54) rfl (hb hby d_eq_47) rfl (XT.i0_ge_t (by simp only [if_pos hc14, if_pos hc15, if_neg hc16] <;> decide)) (by decide) (by decide) ?_
          show Steps p.tables e below (T12.setTop (mkF m 54 #[.val (.ref a1), .val (.int (0 : Int32)), .val (.int (3 : Int32)), .val (.ref aB), .val (.int (0 : Int32)), .val (.int (3 : Int32)), .val (.int (3 : Int32)), .val (.int (3 : Int32))] [])) _
          refine XS.iconst X12.here hx rfl (hb hby d_eq_54) ?_
          show Steps p.tables e below (T12.setTop (mkF m 55 #[.val (.ref a1), .val (.int (0 : Int32)), .val (.int (3 : Int32)), .val (.ref aB), .val (.int (0 : Int32)), .val (.int (3 : Int32)), .val (.int (3 : Int32)), .val (.int (3 : Int32))] [(.int (0 : Int32))])) _
          exact k
        obtain ⟨fs, hr, hrun, hended, hW, hsame⟩ := X12.leave (v := some (.int (0 : Int32))) (fun h => by rw [Bd.returns] at h; cases h)
        refine ⟨_, _, pre_18 _ ?_, hrun, hended, _, _, rfl, ?_, ⟨_, rfl⟩, hW, hsame.mono (by decide) (by decide)⟩
        · show Steps p.tables e below (T12.setTop (mkF m 55 #[.val (.ref a1), .val (.int (0 : Int32)), .val (.int (3 : Int32)), .val (.ref aB), .val (.int (0 : Int32)), .val (.int (3 : Int32)), .val (.int (3 : Int32)), .val (.int (3 : Int32))] [(.int (0 : Int32))])) _
          exact retN X12 hx (t := .boolean) Bd.returns (by simp) (hb hby d_eq_55) hr
        · show Q_eq Z a1 aB kA nn x0 x1 x2 tl kB h0 n0 _ T12.heap _
          rw [e12]
          exact ⟨by simp [hc14, hc15, hc16], N12, rfl⟩
    · skip
      have pre_19 : ∀ t, Steps p.tables e below (T12.setTop (mkF m 55 #[.val (.ref a1), .val (.int (0 : Int32)), .val (.int (3 : Int32)), .val (.ref aB), .val (.int (0 : Int32)), .val (.int (3 : Int32)), .val (.int (3 : Int32)), .val (.int (3 : Int32))] [(.int (0 : Int32))])) t → Steps p.tables e below (s₁.setTop (entryFrame m #[(.ref a1), (.int (0 : Int32)), (.int (3 : Int32)), (.ref aB), (.int (0 : Int32)), (.int (3 : Int32))] 8)) t := by
        intro t k
        refine pre_13 t ?_
        show Steps p.tables e below (T12.setTop (mkF m 47 #[.val (.ref a1), .val (.int (0 : Int32)), .val (.int (3 : Int32)), .val (.ref aB), .val (.int (0 : Int32)), .val (.int (3 : Int32)), .val (.int (3 : Int32)), .val (.int (3 : Int32))] [(.int (if x0 = (-17 : Int32) then (if x1 = (-69 : Int32) then (if x2 = (-65 : Int32) then (-1 : Int32) else (2 : Int32)) else (1 : Int32)) else (0 : Int32)))])) _
        refine XS.ifYes X12.here hx rfl (pc0 := 47) (pc' := 54) rfl (hb hby d_eq_47) rfl (XT.i0_ge_t (by simp only [if_pos hc14, if_neg hc15] <;> decide)) (by decide) (by decide) ?_
        show Steps p.tables e below (T12.setTop (mkF m 54 #[.val (.ref a1), .val (.int (0 : Int32)), .val (.int (3 : Int32)), .val (.ref aB), .val (.int (0 : Int32)), .val (.int (3 : Int32)), .val (.int (3 : Int32)), .val (.int (3 : Int32))] [])) _
        refine XS.iconst X12.here hx rfl (hb hby d_eq_54) ?_
        show Steps p.tables e below (T12.setTop (mkF m 55 #[.val (.ref a1), .val (.int (0 : Int32)), .val (.int (3 : Int32)), .val (.ref aB), .val (.int (0 : Int32)), .val (.int (3 : Int32)), .val (.int (3 : Int32)), .val (.int (3 : Int32))] [(.int (0 : Int32))])) _
        exact k
      obtain ⟨fs, hr, hrun, hended, hW, hsame⟩ := X12.leave (v := some (.int (0 : Int32))) (fun h => by rw [Bd.returns] at h; cases h)
      refine ⟨_, _, pre_19 _ ?_, hrun, hended, _, _, rfl, ?_, ⟨_, rfl⟩, hW, hsame.mono (by decide) (by decide)⟩
      · show Steps p.tables e below (T12.setTop (mkF m 55 #[.val (.ref a1), .val (.int (0 : Int32)), .val (.int (3 : Int32)), .val (.ref aB), .val (.int (0 : Int32)), .val (.int (3 : Int32)), .val (.int (3 : Int32)), .val (.int (3 : Int32))] [(.int (0 : Int32))])) _
        exact retN X12 hx (t := .boolean) Bd.returns (by simp) (hb hby d_eq_55) hr
      · show Q_eq Z a1 aB kA nn x0 x1 x2 tl kB h0 n0 _ T12.heap _
        rw [e12]
        exact ⟨by simp [hc14, hc15], N12, rfl⟩
  · skip
    have pre_20 : ∀ t, Steps p.tables e below (T12.setTop (mkF m 55 #[.val (.ref a1), .val (.int (0 : Int32)), .val (.int (3 : Int32)), .val (.ref aB), .val (.int (0 : Int32)), .val (.int (3 : Int32)), .val (.int (3 : Int32)), .val (.int (3 : Int32))] [(.int (0 : Int32))])) t → Steps p.tables e below (s₁.setTop (entryFrame m #[(.ref a1), (.int (0 : Int32)), (.int (3 : Int32)), (.ref aB), (.int (0 : Int32)), (.int (3 : Int32))] 8)) t := by
      intro t k
      refine pre_13 t ?_
      show Steps p.tables e below (T12.setTop (mkF m 47 #[.val (.ref a1), .val (.int (0 : Int32)), .val (.int (3 : Int32)), .val (.ref aB), .val (.int (0 : Int32)), .val (.int (3 : Int32)), .val (.int (3 : Int32)), .val (.int (3 : Int32))] [(.int (if x0 = (-17 : Int32) then (if x1 = (-69 : Int32) then (if x2 = (-65 : Int32) then (-1 : Int32) else (2 : Int32)) else (1 : Int32)) else (0 : Int32)))])) _
      refine XS.ifYes X12.here hx rfl (pc0 := 47) (pc' := 54) rfl (hb hby d_eq_47) rfl (XT.i0_ge_t (by simp only [if_neg hc14] <;> decide)) (by decide) (by decide) ?_
      show Steps p.tables e below (T12.setTop (mkF m 54 #[.val (.ref a1), .val (.int (0 : Int32)), .val (.int (3 : Int32)), .val (.ref aB), .val (.int (0 : Int32)), .val (.int (3 : Int32)), .val (.int (3 : Int32)), .val (.int (3 : Int32))] [])) _
      refine XS.iconst X12.here hx rfl (hb hby d_eq_54) ?_
      show Steps p.tables e below (T12.setTop (mkF m 55 #[.val (.ref a1), .val (.int (0 : Int32)), .val (.int (3 : Int32)), .val (.ref aB), .val (.int (0 : Int32)), .val (.int (3 : Int32)), .val (.int (3 : Int32)), .val (.int (3 : Int32))] [(.int (0 : Int32))])) _
      exact k
    obtain ⟨fs, hr, hrun, hended, hW, hsame⟩ := X12.leave (v := some (.int (0 : Int32))) (fun h => by rw [Bd.returns] at h; cases h)
    refine ⟨_, _, pre_20 _ ?_, hrun, hended, _, _, rfl, ?_, ⟨_, rfl⟩, hW, hsame.mono (by decide) (by decide)⟩
    · show Steps p.tables e below (T12.setTop (mkF m 55 #[.val (.ref a1), .val (.int (0 : Int32)), .val (.int (3 : Int32)), .val (.ref aB), .val (.int (0 : Int32)), .val (.int (3 : Int32)), .val (.int (3 : Int32)), .val (.int (3 : Int32))] [(.int (0 : Int32))])) _
      exact retN X12 hx (t := .boolean) Bd.returns (by simp) (hb hby d_eq_55) hr
    · show Q_eq Z a1 aB kA nn x0 x1 x2 tl kB h0 n0 _ T12.heap _
      rw [e12]
      exact ⟨by simp [hc14], N12, rfl⟩
theorem d_ts0_0 : decode prog_33_method_9_code 0 = .ok (.getstatic 186, 3) := by decide +kernel
theorem d_ts0_3 : decode prog_33_method_9_code 3 = .ok (.arraylength, 1) := by decide +kernel
theorem d_ts0_4 : decode prog_33_method_9_code 4 = .ok (.istore_n 2, 1) := by decide +kernel
theorem d_ts0_5 : decode prog_33_method_9_code 5 = .ok (.iload_n 1, 1) := by decide +kernel
theorem d_ts0_6 : decode prog_33_method_9_code 6 = .ok (.iload_n 2, 1) := by decide +kernel
theorem d_ts0_7 : decode prog_33_method_9_code 7 = .ok (.if_icmp .lt 19, 3) := by decide +kernel
theorem d_ts0_26 : decode prog_33_method_9_code 26 = .ok (.iconst 0, 1) := by decide +kernel
theorem d_ts0_27 : decode prog_33_method_9_code 27 = .ok (.ireturn, 1) := by decide +kernel
theorem pn_ts0 : plainName "com/example/tranche/tranche/TextFile" = true := by first | (simp [plainName, overriddenIn]; done) | decide +kernel
theorem ef_ts0 (m : MethodId) (a1 : Addr) (p2 : Int32) : entryFrame m #[(.ref a1), (.int p2)] 3 = (mkF m 0 #[.val (.ref a1), .val (.int p2), .unset] []) := by first | (simp [entryFrame, mkF, argsToLocals, Value.category]; done) | rfl
def Q_ts0 (Z : State) (a1 : Addr) (p2 : Int32) (aB : Addr) (kB : ClassId) (h0 : Heap) (n0 : Nat) (v : Option Value) (h : Heap) (L : List Loc) : Prop := v = some (.int (0 : Int32)) ∧ Fr n0 L ∧ h = h0
set_option maxRecDepth 65536 in
set_option maxHeartbeats 40000000 in
theorem rm_ts0 (l : Launch) (Z : State) (a0 : Array Value) (hw : ∀ d ∈ tables_1, d.before a0 Z = true) (ws : List Jvm.Cond) (a1 : Addr) (p2 : Int32) (aB : Addr) (kB : ClassId) (h0 : Heap) (n0 : Nat) (O0 : Old Z n0 h0) (SB : Sta Z Z.heap "com/example/tranche/tranche/TextFile" "BYTE_ORDER_MARK" "[B" (.ref aB)) (VB : Arv Z Z.heap aB kB .byte (3 : Int32) [(.int (-17 : Int32)), (.int (-69 : Int32)), (.int (-65 : Int32))] (.int (0 : Int32))) (hl : p2 < (3 : Int32)) :
    MetFree l (⟨"com/example/tranche/tranche/TextFile", "textStart", "([BI)I"⟩ : MethodName) (head1 (Jvm.Cond.code (⟨"com/example/tranche/tranche/TextFile", "textStart", "([BI)I"⟩ : MethodName) prog_33_method_9_code 3 (some .int) :: ws) ({ frames := 0, cells := 0, slots := 0, locals := 0 } : Room)) (fun a U => a = #[(.ref a1), (.int p2)] ∧ Z.Warmed39 U.vm ∧ U.heap = h0) (fun _ _ _ _ _ => True) (fun _ U o U' => ∃ v L, o = .returned v ∧ Q_ts0 Z a1 p2 aB kB h0 n0 v U'.heap L ∧ FrameEnd U o U' L ({ frames := 0, cells := 0, slots := 0, locals := 0 } : Room).cells ({ frames := 0, cells := 0, slots := 0, locals := 0 } : Room).slots) := by
  refine MetFree.of_bodySF (plainFor_of_name pn_ts0) hisR ?_
  intro p e s m args below meth c s₁ Bd hml0 hP hK
  obtain ⟨rfl, hZ, hh⟩ := hP
  have hx := Bd.exec
  have hby := Bd.bytes
  have hml : c.maxLocals = 3 := hml0
  have hown : s.vm.findClass "com/example/tranche/tranche/TextFile" = some m.cls := findClass_of_methodNamed Bd.named
  have hnm := (name_of_methodNamed Bd.named Bd.method).1
  have X0 : Stand p l e ({ frames := 0, cells := 0, slots := 0, locals := 0 } : Room) s m #[(.ref a1), (.int p2)] below meth c s₁ [] 0 0 := Stand.of_body Bd
  have e0 : s₁.heap = h0 := by rw [← hh, Bd.state]; rfl
  have N0 := Fr.nil n0
  have pre0 : ∀ t, Steps p.tables e below (s₁.setTop (mkF m 0 #[.val (.ref a1), .val (.int p2), .unset] [])) t → Steps p.tables e below (s₁.setTop (entryFrame m #[(.ref a1), (.int p2)] 3)) t := fun t k => castTop (ef_ts0 m a1 p2) k
  obtain ⟨T1, X1, e1, st1⟩ := getS X0 hx hZ hown (host := "") (hw _ (List.mem_of_getElem? (i := 10) rfl)) Via.refl e0 (SB.ext O0.2) (g := (mkF m 0 #[.val (.ref a1), .val (.int p2), .unset] [])) rfl (hb hby d_ts0_0)
  have pre_2 : ∀ t, Steps p.tables e below (T1.setTop (mkF m 3 #[.val (.ref a1), .val (.int p2), .unset] [(.ref aB)])) t → Steps p.tables e below (s₁.setTop (entryFrame m #[(.ref a1), (.int p2)] 3)) t := fun t k => pre0 t (st1 t k)
  obtain ⟨cl3, Ar3, -, S3, M3, -, -⟩ := id (VB.ext O0.2)
  have pre_4 : ∀ t, Steps p.tables e below (T1.setTop (mkF m 27 #[.val (.ref a1), .val (.int p2), .val (.int (3 : Int32))] [(.int (0 : Int32))])) t → Steps p.tables e below (s₁.setTop (entryFrame m #[(.ref a1), (.int p2)] 3)) t := by
    intro t k
    refine pre_2 t ?_
    show Steps p.tables e below (T1.setTop (mkF m 3 #[.val (.ref a1), .val (.int p2), .unset] [(.ref aB)])) _
    refine X1.arraylength hx (cell := cl3) (by rw [e1]; exact Ar3.1) (State.isArrayOf_alike hZ.alike Ar3.2.1) (g := (mkF m 3 #[.val (.ref a1), .val (.int p2), .unset] [(.ref aB)])) rfl (rest := []) rfl (hb hby d_ts0_3) _ ?_
    rw [len_of S3 M3]
    show Steps p.tables e below (T1.setTop (mkF m 4 #[.val (.ref a1), .val (.int p2), .unset] [(.int (3 : Int32))])) _
    refine XS.istoreN X1.here hx rfl (hb hby d_ts0_4) rfl (l' := #[.val (.ref a1), .val (.int p2), .val (.int (3 : Int32))]) rfl ?_
    show Steps p.tables e below (T1.setTop (mkF m 5 #[.val (.ref a1), .val (.int p2), .val (.int (3 : Int32))] [])) _
    refine XS.iloadN X1.here hx rfl (hb hby d_ts0_5) rfl ?_
    show Steps p.tables e below (T1.setTop (mkF m 6 #[.val (.ref a1), .val (.int p2), .val (.int (3 : Int32))] [(.int p2)])) _
    refine XS.iloadN X1.here hx rfl (hb hby d_ts0_6) rfl ?_
    show Steps p.tables e below (T1.setTop (mkF m 7 #[.val (.ref a1), .val (.int p2), .val (.int (3 : Int32))] [(.int (3 : Int32)), (.int p2)])) _
    refine XS.icmpYes X1.here hx rfl (pc0 := 7) (pc' := 26) rfl (hb hby d_ts0_7) rfl (XT.ii_lt_t hl) (by decide) (by decide) ?_
    show Steps p.tables e below (T1.setTop (mkF m 26 #[.val (.ref a1), .val (.int p2), .val (.int (3 : Int32))] [])) _
    refine XS.iconst X1.here hx rfl (hb hby d_ts0_26) ?_
    show Steps p.tables e below (T1.setTop (mkF m 27 #[.val (.ref a1), .val (.int p2), .val (.int (3 : Int32))] [(.int (0 : Int32))])) _
    exact k
  obtain ⟨fs, hr, hrun, hended, hW, hsame⟩ := X1.leave (v := some (.int (0 : Int32))) (fun h => by rw [Bd.returns] at h; cases h)
  refine ⟨_, _, pre_4 _ ?_, hrun, hended, _, _, rfl, ?_, ⟨_, rfl⟩, hW, hsame.mono (by decide) (by decide)⟩
  · show Steps p.tables e below (T1.setTop (mkF m 27 #[.val (.ref a1), .val (.int p2), .val (.int (3 : Int32))] [(.int (0 : Int32))])) _
    exact retI X1 hx Bd.returns (hb hby d_ts0_27) hr
  · show Q_ts0 Z a1 p2 aB kB h0 n0 _ T1.heap _
    rw [e1]
    exact ⟨rfl, N0, rfl⟩
theorem d_ts1_0 : decode prog_33_method_9_code 0 = .ok (.getstatic 186, 3) := by decide +kernel
theorem d_ts1_3 : decode prog_33_method_9_code 3 = .ok (.arraylength, 1) := by decide +kernel
theorem d_ts1_4 : decode prog_33_method_9_code 4 = .ok (.istore_n 2, 1) := by decide +kernel
theorem d_ts1_5 : decode prog_33_method_9_code 5 = .ok (.iload_n 1, 1) := by decide +kernel
theorem d_ts1_6 : decode prog_33_method_9_code 6 = .ok (.iload_n 2, 1) := by decide +kernel
theorem d_ts1_7 : decode prog_33_method_9_code 7 = .ok (.if_icmp .lt 19, 3) := by decide +kernel
theorem d_ts1_10 : decode prog_33_method_9_code 10 = .ok (.aload_n 0, 1) := by decide +kernel
theorem d_ts1_11 : decode prog_33_method_9_code 11 = .ok (.iconst 0, 1) := by decide +kernel
theorem d_ts1_12 : decode prog_33_method_9_code 12 = .ok (.iload_n 2, 1) := by decide +kernel
theorem d_ts1_13 : decode prog_33_method_9_code 13 = .ok (.getstatic 186, 3) := by decide +kernel
theorem d_ts1_16 : decode prog_33_method_9_code 16 = .ok (.iconst 0, 1) := by decide +kernel
theorem d_ts1_17 : decode prog_33_method_9_code 17 = .ok (.iload_n 2, 1) := by decide +kernel
theorem d_ts1_18 : decode prog_33_method_9_code 18 = .ok (.invokestatic 190, 3) := by decide +kernel
theorem d_ts1_21 : decode prog_33_method_9_code 21 = .ok (.ifCond .eq 5, 3) := by decide +kernel
theorem d_ts1_24 : decode prog_33_method_9_code 24 = .ok (.iload_n 2, 1) := by decide +kernel
theorem d_ts1_25 : decode prog_33_method_9_code 25 = .ok (.ireturn, 1) := by decide +kernel
theorem d_ts1_26 : decode prog_33_method_9_code 26 = .ok (.iconst 0, 1) := by decide +kernel
theorem d_ts1_27 : decode prog_33_method_9_code 27 = .ok (.ireturn, 1) := by decide +kernel
theorem pn_ts1 : plainName "com/example/tranche/tranche/TextFile" = true := by first | (simp [plainName, overriddenIn]; done) | decide +kernel
theorem pd_ts1_0 : parseMethodDescriptor "([BII[BII)Z" = some ⟨[(.array .byte), .int, .int, (.array .byte), .int, .int], some .boolean⟩ := by decide +kernel
theorem ef_ts1 (m : MethodId) (a1 : Addr) (p2 : Int32) : entryFrame m #[(.ref a1), (.int p2)] 3 = (mkF m 0 #[.val (.ref a1), .val (.int p2), .unset] []) := by first | (simp [entryFrame, mkF, argsToLocals, Value.category]; done) | rfl
def Q_ts1 (Z : State) (a1 : Addr) (p2 : Int32) (aB : Addr) (kA : ClassId) (nn x0 x1 x2 : Int32) (tl : List Value) (kB : ClassId) (h0 : Heap) (n0 : Nat) (v : Option Value) (h : Heap) (L : List Loc) : Prop := v = some (.int (if x0 = (-17 : Int32) then (if x1 = (-69 : Int32) then (if x2 = (-65 : Int32) then (3 : Int32) else (0 : Int32)) else (0 : Int32)) else (0 : Int32))) ∧ Fr n0 L ∧ h = h0
set_option maxRecDepth 65536 in
set_option maxHeartbeats 40000000 in
theorem rm_ts1 (l : Launch) (Z : State) (a0 : Array Value) (hw : ∀ d ∈ tables_1, d.before a0 Z = true) (ws : List Jvm.Cond) (a1 : Addr) (p2 : Int32) (aB : Addr) (kA : ClassId) (nn x0 x1 x2 : Int32) (tl : List Value) (kB : ClassId) (h0 : Heap) (n0 : Nat) (O0 : Old Z n0 h0) (SB : Sta Z Z.heap "com/example/tranche/tranche/TextFile" "BYTE_ORDER_MARK" "[B" (.ref aB)) (VB : Arv Z Z.heap aB kB .byte (3 : Int32) [(.int (-17 : Int32)), (.int (-69 : Int32)), (.int (-65 : Int32))] (.int (0 : Int32))) (hnn : ¬ nn < (3 : Int32)) (VA : Arv Z h0 a1 kA .byte nn ((.int x0) :: (.int x1) :: (.int x2) :: tl) (.int (0 : Int32))) (hl : ¬ p2 < (3 : Int32)) :
    MetFree l (⟨"com/example/tranche/tranche/TextFile", "textStart", "([BI)I"⟩ : MethodName) (head1 (Jvm.Cond.code (⟨"com/example/tranche/tranche/TextFile", "textStart", "([BI)I"⟩ : MethodName) prog_33_method_9_code 3 (some .int) :: ws) ({ frames := 2, cells := 0, slots := 0, locals := 38 } : Room)) (fun a U => a = #[(.ref a1), (.int p2)] ∧ Z.Warmed39 U.vm ∧ U.heap = h0) (fun _ _ _ _ _ => True) (fun _ U o U' => ∃ v L, o = .returned v ∧ Q_ts1 Z a1 p2 aB kA nn x0 x1 x2 tl kB h0 n0 v U'.heap L ∧ FrameEnd U o U' L ({ frames := 2, cells := 0, slots := 0, locals := 38 } : Room).cells ({ frames := 2, cells := 0, slots := 0, locals := 38 } : Room).slots) := by
  refine MetFree.of_bodySF (plainFor_of_name pn_ts1) hisR ?_
  intro p e s m args below meth c s₁ Bd hml0 hP hK
  obtain ⟨rfl, hZ, hh⟩ := hP
  have hx := Bd.exec
  have hby := Bd.bytes
  have hml : c.maxLocals = 3 := hml0
  have hown : s.vm.findClass "com/example/tranche/tranche/TextFile" = some m.cls := findClass_of_methodNamed Bd.named
  have hnm := (name_of_methodNamed Bd.named Bd.method).1
  have X0 : Stand p l e ({ frames := 2, cells := 0, slots := 0, locals := 38 } : Room) s m #[(.ref a1), (.int p2)] below meth c s₁ [] 0 0 := Stand.of_body Bd
  have e0 : s₁.heap = h0 := by rw [← hh, Bd.state]; rfl
  have N0 := Fr.nil n0
  have pre0 : ∀ t, Steps p.tables e below (s₁.setTop (mkF m 0 #[.val (.ref a1), .val (.int p2), .unset] [])) t → Steps p.tables e below (s₁.setTop (entryFrame m #[(.ref a1), (.int p2)] 3)) t := fun t k => castTop (ef_ts1 m a1 p2) k
  obtain ⟨T1, X1, e1, st1⟩ := getS X0 hx hZ hown (host := "") (hw _ (List.mem_of_getElem? (i := 10) rfl)) Via.refl e0 (SB.ext O0.2) (g := (mkF m 0 #[.val (.ref a1), .val (.int p2), .unset] [])) rfl (hb hby d_ts1_0)
  have pre_2 : ∀ t, Steps p.tables e below (T1.setTop (mkF m 3 #[.val (.ref a1), .val (.int p2), .unset] [(.ref aB)])) t → Steps p.tables e below (s₁.setTop (entryFrame m #[(.ref a1), (.int p2)] 3)) t := fun t k => pre0 t (st1 t k)
  obtain ⟨cl3, Ar3, -, S3, M3, -, -⟩ := id (VB.ext O0.2)
  have pre_4 : ∀ t, Steps p.tables e below (T1.setTop (mkF m 13 #[.val (.ref a1), .val (.int p2), .val (.int (3 : Int32))] [(.int (3 : Int32)), (.int (0 : Int32)), (.ref a1)])) t → Steps p.tables e below (s₁.setTop (entryFrame m #[(.ref a1), (.int p2)] 3)) t := by
    intro t k
    refine pre_2 t ?_
    show Steps p.tables e below (T1.setTop (mkF m 3 #[.val (.ref a1), .val (.int p2), .unset] [(.ref aB)])) _
    refine X1.arraylength hx (cell := cl3) (by rw [e1]; exact Ar3.1) (State.isArrayOf_alike hZ.alike Ar3.2.1) (g := (mkF m 3 #[.val (.ref a1), .val (.int p2), .unset] [(.ref aB)])) rfl (rest := []) rfl (hb hby d_ts1_3) _ ?_
    rw [len_of S3 M3]
    show Steps p.tables e below (T1.setTop (mkF m 4 #[.val (.ref a1), .val (.int p2), .unset] [(.int (3 : Int32))])) _
    refine XS.istoreN X1.here hx rfl (hb hby d_ts1_4) rfl (l' := #[.val (.ref a1), .val (.int p2), .val (.int (3 : Int32))]) rfl ?_
    show Steps p.tables e below (T1.setTop (mkF m 5 #[.val (.ref a1), .val (.int p2), .val (.int (3 : Int32))] [])) _
    refine XS.iloadN X1.here hx rfl (hb hby d_ts1_5) rfl ?_
    show Steps p.tables e below (T1.setTop (mkF m 6 #[.val (.ref a1), .val (.int p2), .val (.int (3 : Int32))] [(.int p2)])) _
    refine XS.iloadN X1.here hx rfl (hb hby d_ts1_6) rfl ?_
    show Steps p.tables e below (T1.setTop (mkF m 7 #[.val (.ref a1), .val (.int p2), .val (.int (3 : Int32))] [(.int (3 : Int32)), (.int p2)])) _
    refine XS.icmpNo X1.here hx rfl (hb hby d_ts1_7) rfl (XT.ii_lt_f hl) ?_
    show Steps p.tables e below (T1.setTop (mkF m 10 #[.val (.ref a1), .val (.int p2), .val (.int (3 : Int32))] [])) _
    refine XS.aloadN X1.here hx rfl (hb hby d_ts1_10) rfl rfl ?_
    show Steps p.tables e below (T1.setTop (mkF m 11 #[.val (.ref a1), .val (.int p2), .val (.int (3 : Int32))] [(.ref a1)])) _
    refine XS.iconst X1.here hx rfl (hb hby d_ts1_11) ?_
    show Steps p.tables e below (T1.setTop (mkF m 12 #[.val (.ref a1), .val (.int p2), .val (.int (3 : Int32))] [(.int (0 : Int32)), (.ref a1)])) _
    refine XS.iloadN X1.here hx rfl (hb hby d_ts1_12) rfl ?_
    show Steps p.tables e below (T1.setTop (mkF m 13 #[.val (.ref a1), .val (.int p2), .val (.int (3 : Int32))] [(.int (3 : Int32)), (.int (0 : Int32)), (.ref a1)])) _
    exact k
  obtain ⟨T5, X5, e5, st5⟩ := getS X1 hx hZ hown (host := "") (hw _ (List.mem_of_getElem? (i := 10) rfl)) Via.refl e1 (SB.ext O0.2) (g := (mkF m 13 #[.val (.ref a1), .val (.int p2), .val (.int (3 : Int32))] [(.int (3 : Int32)), (.int (0 : Int32)), (.ref a1)])) rfl (hb hby d_ts1_13)
  have pre_6 : ∀ t, Steps p.tables e below (T5.setTop (mkF m 16 #[.val (.ref a1), .val (.int p2), .val (.int (3 : Int32))] [(.ref aB), (.int (3 : Int32)), (.int (0 : Int32)), (.ref a1)])) t → Steps p.tables e below (s₁.setTop (entryFrame m #[(.ref a1), (.int p2)] 3)) t := fun t k => pre_4 t (st5 t k)
  have pre_7 : ∀ t, Steps p.tables e below (T5.setTop (mkF m 18 #[.val (.ref a1), .val (.int p2), .val (.int (3 : Int32))] [(.int (3 : Int32)), (.int (0 : Int32)), (.ref aB), (.int (3 : Int32)), (.int (0 : Int32)), (.ref a1)])) t → Steps p.tables e below (s₁.setTop (entryFrame m #[(.ref a1), (.int p2)] 3)) t := by
    intro t k
    refine pre_6 t ?_
    show Steps p.tables e below (T5.setTop (mkF m 16 #[.val (.ref a1), .val (.int p2), .val (.int (3 : Int32))] [(.ref aB), (.int (3 : Int32)), (.int (0 : Int32)), (.ref a1)])) _
    refine XS.iconst X5.here hx rfl (hb hby d_ts1_16) ?_
    show Steps p.tables e below (T5.setTop (mkF m 17 #[.val (.ref a1), .val (.int p2), .val (.int (3 : Int32))] [(.int (0 : Int32)), (.ref aB), (.int (3 : Int32)), (.int (0 : Int32)), (.ref a1)])) _
    refine XS.iloadN X5.here hx rfl (hb hby d_ts1_17) rfl ?_
    show Steps p.tables e below (T5.setTop (mkF m 18 #[.val (.ref a1), .val (.int p2), .val (.int (3 : Int32))] [(.int (3 : Int32)), (.int (0 : Int32)), (.ref aB), (.int (3 : Int32)), (.int (0 : Int32)), (.ref a1)])) _
    exact k
  obtain ⟨_, _, ⟨T8, L8, k8, n8⟩, -, X8, ⟨Lc8, hQ8, l8, y8, z8⟩, st8⟩ := Jvm.LawKit.callS X5 hx (y := (⟨"java/util/Arrays", "equals", "([BII[BII)Z"⟩ : MethodName)) hown (mvT hZ (hw _ (List.mem_of_getElem? (i := 12) rfl))) (mvT hZ (hw _ (List.mem_of_getElem? (i := 13) rfl))) (mvT hZ (hw _ (List.mem_of_getElem? (i := 14) rfl))) (mvT hZ (hw _ (List.mem_of_getElem? (i := 15) rfl))) (by decide) (backOf (W := 0) (rm_eq l Z a0 hw [] a1 aB kA nn x0 x1 x2 tl kB h0 n0 O0 hnn VA (VB.ext O0.2)) hZ (hw _ (List.mem_of_getElem? (i := 15) rfl)) (hw _ (List.mem_of_getElem? (i := 14) rfl)) (by decide) (by decide)) (g := (mkF m 18 #[.val (.ref a1), .val (.int p2), .val (.int (3 : Int32))] [(.int (3 : Int32)), (.int (0 : Int32)), (.ref aB), (.int (3 : Int32)), (.int (0 : Int32)), (.ref a1)])) rfl (by rw [hml]; rfl) (argsL := [(.ref a1), (.int (0 : Int32)), (.int (3 : Int32)), (.ref aB), (.int (0 : Int32)), (.int (3 : Int32))]) (rest := []) (lenOf pd_ts1_0 rfl) rfl (by show 2 * 0 + _ ≤ _; exact Nat.le_of_eq rfl) (hb hby d_ts1_18) (fun _ _ => ⟨rfl, e5, (by decide : 0 + 0 ≤ _), (by decide : 0 + 0 ≤ _)⟩)
  dsimp only [Pt.U, Pt.locs, Pt.cells, Pt.slots] at X8 l8 y8 z8 st8 hQ8
  subst l8 y8 z8
  obtain ⟨rfl, N8q, e8⟩ := hQ8
  have N8 := Fr.app N0 N8q
  have pre_9 : ∀ t, Steps p.tables e below (T8.setTop (mkF m 21 #[.val (.ref a1), .val (.int p2), .val (.int (3 : Int32))] [(.int (if x0 = (-17 : Int32) then (if x1 = (-69 : Int32) then (if x2 = (-65 : Int32) then (1 : Int32) else (0 : Int32)) else (0 : Int32)) else (0 : Int32)))])) t → Steps p.tables e below (s₁.setTop (entryFrame m #[(.ref a1), (.int p2)] 3)) t := fun t k => pre_7 t (st8 t k)
  by_cases hc10 : x0 = (-17 : Int32)
  · skip
    by_cases hc11 : x1 = (-69 : Int32)
    · skip
      by_cases hc12 : x2 = (-65 : Int32)
      · skip
        have pre_13 : ∀ t, Steps p.tables e below (T8.setTop (mkF m 25 #[.val (.ref a1), .val (.int p2), .val (.int (3 : Int32))] [(.int (3 : Int32))])) t → Steps p.tables e below (s₁.setTop (entryFrame m #[(.ref a1), (.int p2)] 3)) t := by
          intro t k
          refine pre_9 t ?_
          show Steps p.tables e below (T8.setTop (mkF m 21 #[.val (.ref a1), .val (.int p2), .val (.int (3 : Int32))] [(.int (if x0 = (-17 : Int32) then (if x1 = (-69 : Int32) then (if x2 = (-65 : Int32) then (1 : Int32) else (0 : Int32)) else (0 : Int32)) else (0 : Int32)))])) _
          refine XS.ifNo X8.here hx rfl (hb hby d_ts1_21) rfl (XT.i0_eq_f (by simp only [if_pos hc10, if_pos hc11, if_pos hc12] <;> decide)) ?_
          show Steps p.tables e below (T8.setTop (mkF m 24 #[.val (.ref a1), .val (.int p2), .val (.int (3 : Int32))] [])) _
          refine XS.iloadN X8.here hx rfl (hb hby d_ts1_24) rfl ?_
          show Steps p.tables e below (T8.setTop (mkF m 25 #[.val (.ref a1), .val (.int p2), .val (.int (3 : Int32))] [(.int (3 : Int32))])) _
          exact k
        obtain ⟨fs, hr, hrun, hended, hW, hsame⟩ := X8.leave (v := some (.int (3 : Int32))) (fun h => by rw [Bd.returns] at h; cases h)
        refine ⟨_, _, pre_13 _ ?_, hrun, hended, _, _, rfl, ?_, ⟨_, rfl⟩, hW, hsame.mono (by decide) (by decide)⟩
        · show Steps p.tables e below (T8.setTop (mkF m 25 #[.val (.ref a1), .val (.int p2), .val (.int (3 : Int32))] [(.int (3 : Int32))])) _
          exact retI X8 hx Bd.returns (hb hby d_ts1_25) hr
        · show Q_ts1 Z a1 p2 aB kA nn x0 x1 x2 tl kB h0 n0 _ T8.heap _
          rw [e8]
          exact ⟨by simp [hc10, hc11, hc12], N8, rfl⟩
      · skip
        have pre_14 : ∀ t, Steps p.tables e below (T8.setTop (mkF m 27 #[.val (.ref a1), .val (.int p2), .val (.int (3 : Int32))] [(.int (0 : Int32))])) t → Steps p.tables e below (s₁.setTop (entryFrame m #[(.ref a1), (.int p2)] 3)) t := by
          intro t k
          refine pre_9 t ?_
          show Steps p.tables e below (T8.setTop (mkF m 21 #[.val (.ref a1), .val (.int p2), .val (.int (3 : Int32))] [(.int (if x0 = (-17 : Int32) then (if x1 = (-69 : Int32) then (if x2 = (-65 : Int32) then (1 : Int32) else (0 : Int32)) else (0 : Int32)) else (0 : Int32)))])) _
          refine XS.ifYes X8.here hx rfl (pc0 := 21) (pc' := 26) rfl (hb hby d_ts1_21) rfl (XT.i0_eq_t (by simp only [if_pos hc10, if_pos hc11, if_neg hc12] <;> decide)) (by decide) (by decide) ?_
          show Steps p.tables e below (T8.setTop (mkF m 26 #[.val (.ref a1), .val (.int p2), .val (.int (3 : Int32))] [])) _
          refine XS.iconst X8.here hx rfl (hb hby d_ts1_26) ?_
          show Steps p.tables e below (T8.setTop (mkF m 27 #[.val (.ref a1), .val (.int p2), .val (.int (3 : Int32))] [(.int (0 : Int32))])) _
          exact k
        obtain ⟨fs, hr, hrun, hended, hW, hsame⟩ := X8.leave (v := some (.int (0 : Int32))) (fun h => by rw [Bd.returns] at h; cases h)
        refine ⟨_, _, pre_14 _ ?_, hrun, hended, _, _, rfl, ?_, ⟨_, rfl⟩, hW, hsame.mono (by decide) (by decide)⟩
        · show Steps p.tables e below (T8.setTop (mkF m 27 #[.val (.ref a1), .val (.int p2), .val (.int (3 : Int32))] [(.int (0 : Int32))])) _
          exact retI X8 hx Bd.returns (hb hby d_ts1_27) hr
        · show Q_ts1 Z a1 p2 aB kA nn x0 x1 x2 tl kB h0 n0 _ T8.heap _
          rw [e8]
          exact ⟨by simp [hc10, hc11, hc12], N8, rfl⟩
    · skip
      have pre_15 : ∀ t, Steps p.tables e below (T8.setTop (mkF m 27 #[.val (.ref a1), .val (.int p2), .val (.int (3 : Int32))] [(.int (0 : Int32))])) t → Steps p.tables e below (s₁.setTop (entryFrame m #[(.ref a1), (.int p2)] 3)) t := by
        intro t k
        refine pre_9 t ?_
        show Steps p.tables e below (T8.setTop (mkF m 21 #[.val (.ref a1), .val (.int p2), .val (.int (3 : Int32))] [(.int (if x0 = (-17 : Int32) then (if x1 = (-69 : Int32) then (if x2 = (-65 : Int32) then (1 : Int32) else (0 : Int32)) else (0 : Int32)) else (0 : Int32)))])) _
        refine XS.ifYes X8.here hx rfl (pc0 := 21) (pc' := 26) rfl (hb hby d_ts1_21) rfl (XT.i0_eq_t (by simp only [if_pos hc10, if_neg hc11] <;> decide)) (by decide) (by decide) ?_
        show Steps p.tables e below (T8.setTop (mkF m 26 #[.val (.ref a1), .val (.int p2), .val (.int (3 : Int32))] [])) _
        refine XS.iconst X8.here hx rfl (hb hby d_ts1_26) ?_
        show Steps p.tables e below (T8.setTop (mkF m 27 #[.val (.ref a1), .val (.int p2), .val (.int (3 : Int32))] [(.int (0 : Int32))])) _
        exact k
      obtain ⟨fs, hr, hrun, hended, hW, hsame⟩ := X8.leave (v := some (.int (0 : Int32))) (fun h => by rw [Bd.returns] at h; cases h)
      refine ⟨_, _, pre_15 _ ?_, hrun, hended, _, _, rfl, ?_, ⟨_, rfl⟩, hW, hsame.mono (by decide) (by decide)⟩
      · show Steps p.tables e below (T8.setTop (mkF m 27 #[.val (.ref a1), .val (.int p2), .val (.int (3 : Int32))] [(.int (0 : Int32))])) _
        exact retI X8 hx Bd.returns (hb hby d_ts1_27) hr
      · show Q_ts1 Z a1 p2 aB kA nn x0 x1 x2 tl kB h0 n0 _ T8.heap _
        rw [e8]
        exact ⟨by simp [hc10, hc11], N8, rfl⟩
  · skip
    have pre_16 : ∀ t, Steps p.tables e below (T8.setTop (mkF m 27 #[.val (.ref a1), .val (.int p2), .val (.int (3 : Int32))] [(.int (0 : Int32))])) t → Steps p.tables e below (s₁.setTop (entryFrame m #[(.ref a1), (.int p2)] 3)) t := by
      intro t k
      refine pre_9 t ?_
      show Steps p.tables e below (T8.setTop (mkF m 21 #[.val (.ref a1), .val (.int p2), .val (.int (3 : Int32))] [(.int (if x0 = (-17 : Int32) then (if x1 = (-69 : Int32) then (if x2 = (-65 : Int32) then (1 : Int32) else (0 : Int32)) else (0 : Int32)) else (0 : Int32)))])) _
      refine XS.ifYes X8.here hx rfl (pc0 := 21) (pc' := 26) rfl (hb hby d_ts1_21) rfl (XT.i0_eq_t (by simp only [if_neg hc10] <;> decide)) (by decide) (by decide) ?_
      show Steps p.tables e below (T8.setTop (mkF m 26 #[.val (.ref a1), .val (.int p2), .val (.int (3 : Int32))] [])) _
      refine XS.iconst X8.here hx rfl (hb hby d_ts1_26) ?_
      show Steps p.tables e below (T8.setTop (mkF m 27 #[.val (.ref a1), .val (.int p2), .val (.int (3 : Int32))] [(.int (0 : Int32))])) _
      exact k
    obtain ⟨fs, hr, hrun, hended, hW, hsame⟩ := X8.leave (v := some (.int (0 : Int32))) (fun h => by rw [Bd.returns] at h; cases h)
    refine ⟨_, _, pre_16 _ ?_, hrun, hended, _, _, rfl, ?_, ⟨_, rfl⟩, hW, hsame.mono (by decide) (by decide)⟩
    · show Steps p.tables e below (T8.setTop (mkF m 27 #[.val (.ref a1), .val (.int p2), .val (.int (3 : Int32))] [(.int (0 : Int32))])) _
      exact retI X8 hx Bd.returns (hb hby d_ts1_27) hr
    · show Q_ts1 Z a1 p2 aB kA nn x0 x1 x2 tl kB h0 n0 _ T8.heap _
      rw [e8]
      exact ⟨by simp [hc10], N8, rfl⟩
theorem pn_law : plainName "com/example/tranche/tranche/TextFileTextStartPinLaw" = true := by first | (simp [plainName, overriddenIn]; done) | decide +kernel
theorem pd_law_0 : parseMethodDescriptor "(I)[B" = some ⟨[.int], some (.array .byte)⟩ := by decide +kernel
theorem pd_law_1 : parseMethodDescriptor "([BI)I" = some ⟨[(.array .byte), .int], some .int⟩ := by decide +kernel
theorem ef_law (m : MethodId) (p1 : Int32) (p2 : Int32) (p3 : Int32) (p4 : Int32) (p5 : Int32) (p6 : Int32) : entryFrame m #[(.int p1), (.int p2), (.int p3), (.int p4), (.int p5), (.int p6)] maxLocals = (mkF m 0 #[.val (.int p1), .val (.int p2), .val (.int p3), .val (.int p4), .val (.int p5), .val (.int p6), .unset, .unset, .unset, .unset, .unset, .unset, .unset, .unset, .unset, .unset] []) := by first | (simp [entryFrame, mkF, argsToLocals, Value.category, maxLocals]; done) | rfl
def Q_law (Z : State) (p1 : Int32) (p2 : Int32) (p3 : Int32) (p4 : Int32) (p5 : Int32) (p6 : Int32) (aB : Addr) (kB : ClassId) (h0 : Heap) (n0 : Nat) (v : Option Value) (h : Heap) (L : List Loc) : Prop := v = some (.int 1) ∧ Fr n0 L
set_option maxRecDepth 65536 in
set_option maxHeartbeats 40000000 in
theorem rm_law (l : Launch) (Z : State) (a0 : Array Value) (hw : ∀ d ∈ tables_1, d.before a0 Z = true) (ws : List Jvm.Cond) (p1 : Int32) (p2 : Int32) (p3 : Int32) (p4 : Int32) (p5 : Int32) (p6 : Int32) (aB : Addr) (kB : ClassId) (h0 : Heap) (n0 : Nat) (O0 : Old Z n0 h0) (SB : Sta Z Z.heap "com/example/tranche/tranche/TextFile" "BYTE_ORDER_MARK" "[B" (.ref aB)) (VB : Arv Z Z.heap aB kB .byte (3 : Int32) [(.int (-17 : Int32)), (.int (-69 : Int32)), (.int (-65 : Int32))] (.int (0 : Int32))) :
    MetFree l x (head1 (Jvm.Cond.code x code maxLocals ret :: ws) room_1) (fun a U => a = #[(.int p1), (.int p2), (.int p3), (.int p4), (.int p5), (.int p6)] ∧ Z.Warmed39 U.vm ∧ U.heap = h0) (fun _ _ _ _ _ => True) (fun _ U o U' => ∃ v L, o = .returned v ∧ Q_law Z p1 p2 p3 p4 p5 p6 aB kB h0 n0 v U'.heap L ∧ FrameEnd U o U' L room_1.cells room_1.slots) := by
  refine MetFree.of_bodySF (plainFor_of_name pn_law) hisR ?_
  intro p e s m args below meth c s₁ Bd hml0 hP hK
  obtain ⟨rfl, hZ, hh⟩ := hP
  have hx := Bd.exec
  have hby := Bd.bytes
  have hml : c.maxLocals = 16 := hml0
  have hown : s.vm.findClass "com/example/tranche/tranche/TextFileTextStartPinLaw" = some m.cls := findClass_of_methodNamed Bd.named
  have hnm := (name_of_methodNamed Bd.named Bd.method).1
  have X0 : Stand p l e room_1 s m #[(.int p1), (.int p2), (.int p3), (.int p4), (.int p5), (.int p6)] below meth c s₁ [] 0 0 := Stand.of_body Bd
  have e0 : s₁.heap = h0 := by rw [← hh, Bd.state]; rfl
  have N0 := Fr.nil n0
  have pre0 : ∀ t, Steps p.tables e below (s₁.setTop (mkF m 0 #[.val (.int p1), .val (.int p2), .val (.int p3), .val (.int p4), .val (.int p5), .val (.int p6), .unset, .unset, .unset, .unset, .unset, .unset, .unset, .unset, .unset, .unset] [])) t → Steps p.tables e below (s₁.setTop (entryFrame m #[(.int p1), (.int p2), (.int p3), (.int p4), (.int p5), (.int p6)] maxLocals)) t := fun t k => castTop (ef_law m p1 p2 p3 p4 p5 p6) k
  have pre_1 : ∀ t, Steps p.tables e below (s₁.setTop (mkF m 10 #[.val (.int p1), .val (.int p2), .val (.int p3), .val (.int p4), .val (.int p5), .val (.int p6), .val (.int ((p6 &&& (7 : Int32)) % (6 : Int32))), .unset, .unset, .unset, .unset, .unset, .unset, .unset, .unset, .unset] [])) t → Steps p.tables e below (s₁.setTop (entryFrame m #[(.int p1), (.int p2), (.int p3), (.int p4), (.int p5), (.int p6)] maxLocals)) t := by
    intro t k
    refine pre0 t ?_
    show Steps p.tables e below (s₁.setTop (mkF m 0 #[.val (.int p1), .val (.int p2), .val (.int p3), .val (.int p4), .val (.int p5), .val (.int p6), .unset, .unset, .unset, .unset, .unset, .unset, .unset, .unset, .unset, .unset] [])) _
    refine XS.iload X0.here hx rfl (hb hby at_0) rfl ?_
    show Steps p.tables e below (s₁.setTop (mkF m 2 #[.val (.int p1), .val (.int p2), .val (.int p3), .val (.int p4), .val (.int p5), .val (.int p6), .unset, .unset, .unset, .unset, .unset, .unset, .unset, .unset, .unset, .unset] [(.int p6)])) _
    refine XS.bipush X0.here hx rfl (hb hby at_2) ?_
    show Steps p.tables e below (s₁.setTop (mkF m 4 #[.val (.int p1), .val (.int p2), .val (.int p3), .val (.int p4), .val (.int p5), .val (.int p6), .unset, .unset, .unset, .unset, .unset, .unset, .unset, .unset, .unset, .unset] [(.int (7 : Int32)), (.int p6)])) _
    refine XS.iand X0.here hx rfl (hb hby at_4) rfl ?_
    show Steps p.tables e below (s₁.setTop (mkF m 5 #[.val (.int p1), .val (.int p2), .val (.int p3), .val (.int p4), .val (.int p5), .val (.int p6), .unset, .unset, .unset, .unset, .unset, .unset, .unset, .unset, .unset, .unset] [(.int (p6 &&& (7 : Int32)))])) _
    refine XS.bipush X0.here hx rfl (hb hby at_5) ?_
    show Steps p.tables e below (s₁.setTop (mkF m 7 #[.val (.int p1), .val (.int p2), .val (.int p3), .val (.int p4), .val (.int p5), .val (.int p6), .unset, .unset, .unset, .unset, .unset, .unset, .unset, .unset, .unset, .unset] [(.int (6 : Int32)), (.int (p6 &&& (7 : Int32)))])) _
    refine iremM X0 hx rfl (hb hby at_7) rfl (by decide) ?_
    show Steps p.tables e below (s₁.setTop (mkF m 8 #[.val (.int p1), .val (.int p2), .val (.int p3), .val (.int p4), .val (.int p5), .val (.int p6), .unset, .unset, .unset, .unset, .unset, .unset, .unset, .unset, .unset, .unset] [(.int ((p6 &&& (7 : Int32)) % (6 : Int32)))])) _
    refine XS.istore X0.here hx rfl (hb hby at_8) rfl (l' := #[.val (.int p1), .val (.int p2), .val (.int p3), .val (.int p4), .val (.int p5), .val (.int p6), .val (.int ((p6 &&& (7 : Int32)) % (6 : Int32))), .unset, .unset, .unset, .unset, .unset, .unset, .unset, .unset, .unset]) rfl ?_
    show Steps p.tables e below (s₁.setTop (mkF m 10 #[.val (.int p1), .val (.int p2), .val (.int p3), .val (.int p4), .val (.int p5), .val (.int p6), .val (.int ((p6 &&& (7 : Int32)) % (6 : Int32))), .unset, .unset, .unset, .unset, .unset, .unset, .unset, .unset, .unset] [])) _
    exact k
  rcases own_six p6 with hs | hs | hs | hs | hs | hs
  · skip
    rw [hs] at pre_1
    have pre_2 : ∀ t, Steps p.tables e below (s₁.setTop (mkF m 24 #[.val (.int p1), .val (.int p2), .val (.int p3), .val (.int p4), .val (.int p5), .val (.int p6), .val (.int (0 : Int32)), .val (.int (((XT.ushr p6 (3 : Int32)) &&& (2147483647 : Int32)) % (1 : Int32))), .unset, .unset, .unset, .unset, .unset, .unset, .unset, .unset] [])) t → Steps p.tables e below (s₁.setTop (entryFrame m #[(.int p1), (.int p2), (.int p3), (.int p4), (.int p5), (.int p6)] maxLocals)) t := by
      intro t k
      refine pre_1 t ?_
      show Steps p.tables e below (s₁.setTop (mkF m 10 #[.val (.int p1), .val (.int p2), .val (.int p3), .val (.int p4), .val (.int p5), .val (.int p6), .val (.int (0 : Int32)), .unset, .unset, .unset, .unset, .unset, .unset, .unset, .unset, .unset] [])) _
      refine XS.iload X0.here hx rfl (hb hby at_10) rfl ?_
      show Steps p.tables e below (s₁.setTop (mkF m 12 #[.val (.int p1), .val (.int p2), .val (.int p3), .val (.int p4), .val (.int p5), .val (.int p6), .val (.int (0 : Int32)), .unset, .unset, .unset, .unset, .unset, .unset, .unset, .unset, .unset] [(.int p6)])) _
      refine XS.iconst X0.here hx rfl (hb hby at_12) ?_
      show Steps p.tables e below (s₁.setTop (mkF m 13 #[.val (.int p1), .val (.int p2), .val (.int p3), .val (.int p4), .val (.int p5), .val (.int p6), .val (.int (0 : Int32)), .unset, .unset, .unset, .unset, .unset, .unset, .unset, .unset, .unset] [(.int (3 : Int32)), (.int p6)])) _
      refine XT.iushr X0.here hx rfl (hb hby at_13) rfl ?_
      show Steps p.tables e below (s₁.setTop (mkF m 14 #[.val (.int p1), .val (.int p2), .val (.int p3), .val (.int p4), .val (.int p5), .val (.int p6), .val (.int (0 : Int32)), .unset, .unset, .unset, .unset, .unset, .unset, .unset, .unset, .unset] [(.int (XT.ushr p6 (3 : Int32)))])) _
      refine X0.ldcInt hx hown (mvT hZ (hw _ (List.mem_of_getElem? (i := 0) rfl))) (g := (mkF m 14 #[.val (.int p1), .val (.int p2), .val (.int p3), .val (.int p4), .val (.int p5), .val (.int p6), .val (.int (0 : Int32)), .unset, .unset, .unset, .unset, .unset, .unset, .unset, .unset, .unset] [(.int (XT.ushr p6 (3 : Int32)))])) rfl (hb hby at_14) _ ?_
      show Steps p.tables e below (s₁.setTop (mkF m 16 #[.val (.int p1), .val (.int p2), .val (.int p3), .val (.int p4), .val (.int p5), .val (.int p6), .val (.int (0 : Int32)), .unset, .unset, .unset, .unset, .unset, .unset, .unset, .unset, .unset] [(.int (2147483647 : Int32)), (.int (XT.ushr p6 (3 : Int32)))])) _
      refine XS.iand X0.here hx rfl (hb hby at_16) rfl ?_
      show Steps p.tables e below (s₁.setTop (mkF m 17 #[.val (.int p1), .val (.int p2), .val (.int p3), .val (.int p4), .val (.int p5), .val (.int p6), .val (.int (0 : Int32)), .unset, .unset, .unset, .unset, .unset, .unset, .unset, .unset, .unset] [(.int ((XT.ushr p6 (3 : Int32)) &&& (2147483647 : Int32)))])) _
      refine XS.iload X0.here hx rfl (hb hby at_17) rfl ?_
      show Steps p.tables e below (s₁.setTop (mkF m 19 #[.val (.int p1), .val (.int p2), .val (.int p3), .val (.int p4), .val (.int p5), .val (.int p6), .val (.int (0 : Int32)), .unset, .unset, .unset, .unset, .unset, .unset, .unset, .unset, .unset] [(.int (0 : Int32)), (.int ((XT.ushr p6 (3 : Int32)) &&& (2147483647 : Int32)))])) _
      refine XS.iconst X0.here hx rfl (hb hby at_19) ?_
      show Steps p.tables e below (s₁.setTop (mkF m 20 #[.val (.int p1), .val (.int p2), .val (.int p3), .val (.int p4), .val (.int p5), .val (.int p6), .val (.int (0 : Int32)), .unset, .unset, .unset, .unset, .unset, .unset, .unset, .unset, .unset] [(.int (1 : Int32)), (.int (0 : Int32)), (.int ((XT.ushr p6 (3 : Int32)) &&& (2147483647 : Int32)))])) _
      refine XS.iadd X0.here hx rfl (hb hby at_20) rfl ?_
      show Steps p.tables e below (s₁.setTop (mkF m 21 #[.val (.int p1), .val (.int p2), .val (.int p3), .val (.int p4), .val (.int p5), .val (.int p6), .val (.int (0 : Int32)), .unset, .unset, .unset, .unset, .unset, .unset, .unset, .unset, .unset] [(.int (1 : Int32)), (.int ((XT.ushr p6 (3 : Int32)) &&& (2147483647 : Int32)))])) _
      refine iremM X0 hx rfl (hb hby at_21) rfl (by decide) ?_
      show Steps p.tables e below (s₁.setTop (mkF m 22 #[.val (.int p1), .val (.int p2), .val (.int p3), .val (.int p4), .val (.int p5), .val (.int p6), .val (.int (0 : Int32)), .unset, .unset, .unset, .unset, .unset, .unset, .unset, .unset, .unset] [(.int (((XT.ushr p6 (3 : Int32)) &&& (2147483647 : Int32)) % (1 : Int32)))])) _
      refine XS.istore X0.here hx rfl (hb hby at_22) rfl (l' := #[.val (.int p1), .val (.int p2), .val (.int p3), .val (.int p4), .val (.int p5), .val (.int p6), .val (.int (0 : Int32)), .val (.int (((XT.ushr p6 (3 : Int32)) &&& (2147483647 : Int32)) % (1 : Int32))), .unset, .unset, .unset, .unset, .unset, .unset, .unset, .unset]) rfl ?_
      show Steps p.tables e below (s₁.setTop (mkF m 24 #[.val (.int p1), .val (.int p2), .val (.int p3), .val (.int p4), .val (.int p5), .val (.int p6), .val (.int (0 : Int32)), .val (.int (((XT.ushr p6 (3 : Int32)) &&& (2147483647 : Int32)) % (1 : Int32))), .unset, .unset, .unset, .unset, .unset, .unset, .unset, .unset] [])) _
      exact k
    have hln := own_ln0 (XT.ushr p6 (3 : Int32))
    generalize (((XT.ushr p6 (3 : Int32)) &&& (2147483647 : Int32)) % (1 : Int32)) = ln at pre_2 hln
    have pre_3 : ∀ t, Steps p.tables e below (s₁.setTop (mkF m 28 #[.val (.int p1), .val (.int p2), .val (.int p3), .val (.int p4), .val (.int p5), .val (.int p6), .val (.int (0 : Int32)), .val (.int ln), .unset, .unset, .unset, .unset, .unset, .unset, .unset, .unset] [(.int (p5 &&& (1 : Int32)))])) t → Steps p.tables e below (s₁.setTop (entryFrame m #[(.int p1), (.int p2), (.int p3), (.int p4), (.int p5), (.int p6)] maxLocals)) t := by
      intro t k
      refine pre_2 t ?_
      show Steps p.tables e below (s₁.setTop (mkF m 24 #[.val (.int p1), .val (.int p2), .val (.int p3), .val (.int p4), .val (.int p5), .val (.int p6), .val (.int (0 : Int32)), .val (.int ln), .unset, .unset, .unset, .unset, .unset, .unset, .unset, .unset] [])) _
      refine XS.iload X0.here hx rfl (hb hby at_24) rfl ?_
      show Steps p.tables e below (s₁.setTop (mkF m 26 #[.val (.int p1), .val (.int p2), .val (.int p3), .val (.int p4), .val (.int p5), .val (.int p6), .val (.int (0 : Int32)), .val (.int ln), .unset, .unset, .unset, .unset, .unset, .unset, .unset, .unset] [(.int p5)])) _
      refine XS.iconst X0.here hx rfl (hb hby at_26) ?_
      show Steps p.tables e below (s₁.setTop (mkF m 27 #[.val (.int p1), .val (.int p2), .val (.int p3), .val (.int p4), .val (.int p5), .val (.int p6), .val (.int (0 : Int32)), .val (.int ln), .unset, .unset, .unset, .unset, .unset, .unset, .unset, .unset] [(.int (1 : Int32)), (.int p5)])) _
      refine XS.iand X0.here hx rfl (hb hby at_27) rfl ?_
      show Steps p.tables e below (s₁.setTop (mkF m 28 #[.val (.int p1), .val (.int p2), .val (.int p3), .val (.int p4), .val (.int p5), .val (.int p6), .val (.int (0 : Int32)), .val (.int ln), .unset, .unset, .unset, .unset, .unset, .unset, .unset, .unset] [(.int (p5 &&& (1 : Int32)))])) _
      exact k
    have pre_5 : ∀ t, Steps p.tables e below (s₁.setTop (mkF m 38 #[.val (.int p1), .val (.int p2), .val (.int p3), .val (.int p4), .val (.int p5), .val (.int p6), .val (.int (0 : Int32)), .val (.int ln), .unset, .unset, .unset, .unset, .unset, .unset, .unset, .unset] [(.int (if (p5 &&& (1 : Int32)) = (0 : Int32) then ((p1).toInt8.toInt32) else (-17 : Int32)))])) t → Steps p.tables e below (s₁.setTop (entryFrame m #[(.int p1), (.int p2), (.int p3), (.int p4), (.int p5), (.int p6)] maxLocals)) t := by
      intro t k
      refine pre_3 t ?_
      by_cases hm4 : (p5 &&& (1 : Int32)) = (0 : Int32)
      · skip
        show Steps p.tables e below (s₁.setTop (mkF m 28 #[.val (.int p1), .val (.int p2), .val (.int p3), .val (.int p4), .val (.int p5), .val (.int p6), .val (.int (0 : Int32)), .val (.int ln), .unset, .unset, .unset, .unset, .unset, .unset, .unset, .unset] [(.int (p5 &&& (1 : Int32)))])) _
        refine XS.ifYes X0.here hx rfl (pc0 := 28) (pc' := 36) rfl (hb hby at_28) rfl (XT.i0_eq_t hm4) (by decide) (by decide) ?_
        show Steps p.tables e below (s₁.setTop (mkF m 36 #[.val (.int p1), .val (.int p2), .val (.int p3), .val (.int p4), .val (.int p5), .val (.int p6), .val (.int (0 : Int32)), .val (.int ln), .unset, .unset, .unset, .unset, .unset, .unset, .unset, .unset] [])) _
        refine XS.iloadN X0.here hx rfl (hb hby at_36) rfl ?_
        show Steps p.tables e below (s₁.setTop (mkF m 37 #[.val (.int p1), .val (.int p2), .val (.int p3), .val (.int p4), .val (.int p5), .val (.int p6), .val (.int (0 : Int32)), .val (.int ln), .unset, .unset, .unset, .unset, .unset, .unset, .unset, .unset] [(.int p1)])) _
        refine XT.i2b X0.here hx rfl (hb hby at_37) rfl ?_
        show Steps p.tables e below (s₁.setTop (mkF m 38 #[.val (.int p1), .val (.int p2), .val (.int p3), .val (.int p4), .val (.int p5), .val (.int p6), .val (.int (0 : Int32)), .val (.int ln), .unset, .unset, .unset, .unset, .unset, .unset, .unset, .unset] [(.int ((p1).toInt8.toInt32))])) _
        first | exact k | (simp only [if_pos hm4] at k; exact k)
      · skip
        show Steps p.tables e below (s₁.setTop (mkF m 28 #[.val (.int p1), .val (.int p2), .val (.int p3), .val (.int p4), .val (.int p5), .val (.int p6), .val (.int (0 : Int32)), .val (.int ln), .unset, .unset, .unset, .unset, .unset, .unset, .unset, .unset] [(.int (p5 &&& (1 : Int32)))])) _
        refine XS.ifNo X0.here hx rfl (hb hby at_28) rfl (XT.i0_eq_f hm4) ?_
        show Steps p.tables e below (s₁.setTop (mkF m 31 #[.val (.int p1), .val (.int p2), .val (.int p3), .val (.int p4), .val (.int p5), .val (.int p6), .val (.int (0 : Int32)), .val (.int ln), .unset, .unset, .unset, .unset, .unset, .unset, .unset, .unset] [])) _
        refine XS.bipush X0.here hx rfl (hb hby at_31) ?_
        show Steps p.tables e below (s₁.setTop (mkF m 33 #[.val (.int p1), .val (.int p2), .val (.int p3), .val (.int p4), .val (.int p5), .val (.int p6), .val (.int (0 : Int32)), .val (.int ln), .unset, .unset, .unset, .unset, .unset, .unset, .unset, .unset] [(.int (-17 : Int32))])) _
        refine XS.goto X0.here hx rfl (pc0 := 33) (pc' := 38) rfl (hb hby at_33) (by decide) (by decide) ?_
        show Steps p.tables e below (s₁.setTop (mkF m 38 #[.val (.int p1), .val (.int p2), .val (.int p3), .val (.int p4), .val (.int p5), .val (.int p6), .val (.int (0 : Int32)), .val (.int ln), .unset, .unset, .unset, .unset, .unset, .unset, .unset, .unset] [(.int (-17 : Int32))])) _
        first | exact k | (simp only [if_neg hm4] at k; exact k)
    have pre_6 : ∀ t, Steps p.tables e below (s₁.setTop (mkF m 44 #[.val (.int p1), .val (.int p2), .val (.int p3), .val (.int p4), .val (.int p5), .val (.int p6), .val (.int (0 : Int32)), .val (.int ln), .val (.int (if (p5 &&& (1 : Int32)) = (0 : Int32) then ((p1).toInt8.toInt32) else (-17 : Int32))), .unset, .unset, .unset, .unset, .unset, .unset, .unset] [(.int (p5 &&& (2 : Int32)))])) t → Steps p.tables e below (s₁.setTop (entryFrame m #[(.int p1), (.int p2), (.int p3), (.int p4), (.int p5), (.int p6)] maxLocals)) t := by
      intro t k
      refine pre_5 t ?_
      show Steps p.tables e below (s₁.setTop (mkF m 38 #[.val (.int p1), .val (.int p2), .val (.int p3), .val (.int p4), .val (.int p5), .val (.int p6), .val (.int (0 : Int32)), .val (.int ln), .unset, .unset, .unset, .unset, .unset, .unset, .unset, .unset] [(.int (if (p5 &&& (1 : Int32)) = (0 : Int32) then ((p1).toInt8.toInt32) else (-17 : Int32)))])) _
      refine XS.istore X0.here hx rfl (hb hby at_38) rfl (l' := #[.val (.int p1), .val (.int p2), .val (.int p3), .val (.int p4), .val (.int p5), .val (.int p6), .val (.int (0 : Int32)), .val (.int ln), .val (.int (if (p5 &&& (1 : Int32)) = (0 : Int32) then ((p1).toInt8.toInt32) else (-17 : Int32))), .unset, .unset, .unset, .unset, .unset, .unset, .unset]) rfl ?_
      show Steps p.tables e below (s₁.setTop (mkF m 40 #[.val (.int p1), .val (.int p2), .val (.int p3), .val (.int p4), .val (.int p5), .val (.int p6), .val (.int (0 : Int32)), .val (.int ln), .val (.int (if (p5 &&& (1 : Int32)) = (0 : Int32) then ((p1).toInt8.toInt32) else (-17 : Int32))), .unset, .unset, .unset, .unset, .unset, .unset, .unset] [])) _
      refine XS.iload X0.here hx rfl (hb hby at_40) rfl ?_
      show Steps p.tables e below (s₁.setTop (mkF m 42 #[.val (.int p1), .val (.int p2), .val (.int p3), .val (.int p4), .val (.int p5), .val (.int p6), .val (.int (0 : Int32)), .val (.int ln), .val (.int (if (p5 &&& (1 : Int32)) = (0 : Int32) then ((p1).toInt8.toInt32) else (-17 : Int32))), .unset, .unset, .unset, .unset, .unset, .unset, .unset] [(.int p5)])) _
      refine XS.iconst X0.here hx rfl (hb hby at_42) ?_
      show Steps p.tables e below (s₁.setTop (mkF m 43 #[.val (.int p1), .val (.int p2), .val (.int p3), .val (.int p4), .val (.int p5), .val (.int p6), .val (.int (0 : Int32)), .val (.int ln), .val (.int (if (p5 &&& (1 : Int32)) = (0 : Int32) then ((p1).toInt8.toInt32) else (-17 : Int32))), .unset, .unset, .unset, .unset, .unset, .unset, .unset] [(.int (2 : Int32)), (.int p5)])) _
      refine XS.iand X0.here hx rfl (hb hby at_43) rfl ?_
      show Steps p.tables e below (s₁.setTop (mkF m 44 #[.val (.int p1), .val (.int p2), .val (.int p3), .val (.int p4), .val (.int p5), .val (.int p6), .val (.int (0 : Int32)), .val (.int ln), .val (.int (if (p5 &&& (1 : Int32)) = (0 : Int32) then ((p1).toInt8.toInt32) else (-17 : Int32))), .unset, .unset, .unset, .unset, .unset, .unset, .unset] [(.int (p5 &&& (2 : Int32)))])) _
      exact k
    have pre_8 : ∀ t, Steps p.tables e below (s₁.setTop (mkF m 54 #[.val (.int p1), .val (.int p2), .val (.int p3), .val (.int p4), .val (.int p5), .val (.int p6), .val (.int (0 : Int32)), .val (.int ln), .val (.int (if (p5 &&& (1 : Int32)) = (0 : Int32) then ((p1).toInt8.toInt32) else (-17 : Int32))), .unset, .unset, .unset, .unset, .unset, .unset, .unset] [(.int (if (p5 &&& (2 : Int32)) = (0 : Int32) then ((p2).toInt8.toInt32) else (-69 : Int32)))])) t → Steps p.tables e below (s₁.setTop (entryFrame m #[(.int p1), (.int p2), (.int p3), (.int p4), (.int p5), (.int p6)] maxLocals)) t := by
      intro t k
      refine pre_6 t ?_
      by_cases hm7 : (p5 &&& (2 : Int32)) = (0 : Int32)
      · skip
        show Steps p.tables e below (s₁.setTop (mkF m 44 #[.val (.int p1), .val (.int p2), .val (.int p3), .val (.int p4), .val (.int p5), .val (.int p6), .val (.int (0 : Int32)), .val (.int ln), .val (.int (if (p5 &&& (1 : Int32)) = (0 : Int32) then ((p1).toInt8.toInt32) else (-17 : Int32))), .unset, .unset, .unset, .unset, .unset, .unset, .unset] [(.int (p5 &&& (2 : Int32)))])) _
        refine XS.ifYes X0.here hx rfl (pc0 := 44) (pc' := 52) rfl (hb hby at_44) rfl (XT.i0_eq_t hm7) (by decide) (by decide) ?_
        show Steps p.tables e below (s₁.setTop (mkF m 52 #[.val (.int p1), .val (.int p2), .val (.int p3), .val (.int p4), .val (.int p5), .val (.int p6), .val (.int (0 : Int32)), .val (.int ln), .val (.int (if (p5 &&& (1 : Int32)) = (0 : Int32) then ((p1).toInt8.toInt32) else (-17 : Int32))), .unset, .unset, .unset, .unset, .unset, .unset, .unset] [])) _
        refine XS.iloadN X0.here hx rfl (hb hby at_52) rfl ?_
        show Steps p.tables e below (s₁.setTop (mkF m 53 #[.val (.int p1), .val (.int p2), .val (.int p3), .val (.int p4), .val (.int p5), .val (.int p6), .val (.int (0 : Int32)), .val (.int ln), .val (.int (if (p5 &&& (1 : Int32)) = (0 : Int32) then ((p1).toInt8.toInt32) else (-17 : Int32))), .unset, .unset, .unset, .unset, .unset, .unset, .unset] [(.int p2)])) _
        refine XT.i2b X0.here hx rfl (hb hby at_53) rfl ?_
        show Steps p.tables e below (s₁.setTop (mkF m 54 #[.val (.int p1), .val (.int p2), .val (.int p3), .val (.int p4), .val (.int p5), .val (.int p6), .val (.int (0 : Int32)), .val (.int ln), .val (.int (if (p5 &&& (1 : Int32)) = (0 : Int32) then ((p1).toInt8.toInt32) else (-17 : Int32))), .unset, .unset, .unset, .unset, .unset, .unset, .unset] [(.int ((p2).toInt8.toInt32))])) _
        first | exact k | (simp only [if_pos hm7] at k; exact k)
      · skip
        show Steps p.tables e below (s₁.setTop (mkF m 44 #[.val (.int p1), .val (.int p2), .val (.int p3), .val (.int p4), .val (.int p5), .val (.int p6), .val (.int (0 : Int32)), .val (.int ln), .val (.int (if (p5 &&& (1 : Int32)) = (0 : Int32) then ((p1).toInt8.toInt32) else (-17 : Int32))), .unset, .unset, .unset, .unset, .unset, .unset, .unset] [(.int (p5 &&& (2 : Int32)))])) _
        refine XS.ifNo X0.here hx rfl (hb hby at_44) rfl (XT.i0_eq_f hm7) ?_
        show Steps p.tables e below (s₁.setTop (mkF m 47 #[.val (.int p1), .val (.int p2), .val (.int p3), .val (.int p4), .val (.int p5), .val (.int p6), .val (.int (0 : Int32)), .val (.int ln), .val (.int (if (p5 &&& (1 : Int32)) = (0 : Int32) then ((p1).toInt8.toInt32) else (-17 : Int32))), .unset, .unset, .unset, .unset, .unset, .unset, .unset] [])) _
        refine XS.bipush X0.here hx rfl (hb hby at_47) ?_
        show Steps p.tables e below (s₁.setTop (mkF m 49 #[.val (.int p1), .val (.int p2), .val (.int p3), .val (.int p4), .val (.int p5), .val (.int p6), .val (.int (0 : Int32)), .val (.int ln), .val (.int (if (p5 &&& (1 : Int32)) = (0 : Int32) then ((p1).toInt8.toInt32) else (-17 : Int32))), .unset, .unset, .unset, .unset, .unset, .unset, .unset] [(.int (-69 : Int32))])) _
        refine XS.goto X0.here hx rfl (pc0 := 49) (pc' := 54) rfl (hb hby at_49) (by decide) (by decide) ?_
        show Steps p.tables e below (s₁.setTop (mkF m 54 #[.val (.int p1), .val (.int p2), .val (.int p3), .val (.int p4), .val (.int p5), .val (.int p6), .val (.int (0 : Int32)), .val (.int ln), .val (.int (if (p5 &&& (1 : Int32)) = (0 : Int32) then ((p1).toInt8.toInt32) else (-17 : Int32))), .unset, .unset, .unset, .unset, .unset, .unset, .unset] [(.int (-69 : Int32))])) _
        first | exact k | (simp only [if_neg hm7] at k; exact k)
    have pre_9 : ∀ t, Steps p.tables e below (s₁.setTop (mkF m 60 #[.val (.int p1), .val (.int p2), .val (.int p3), .val (.int p4), .val (.int p5), .val (.int p6), .val (.int (0 : Int32)), .val (.int ln), .val (.int (if (p5 &&& (1 : Int32)) = (0 : Int32) then ((p1).toInt8.toInt32) else (-17 : Int32))), .val (.int (if (p5 &&& (2 : Int32)) = (0 : Int32) then ((p2).toInt8.toInt32) else (-69 : Int32))), .unset, .unset, .unset, .unset, .unset, .unset] [(.int (p5 &&& (4 : Int32)))])) t → Steps p.tables e below (s₁.setTop (entryFrame m #[(.int p1), (.int p2), (.int p3), (.int p4), (.int p5), (.int p6)] maxLocals)) t := by
      intro t k
      refine pre_8 t ?_
      show Steps p.tables e below (s₁.setTop (mkF m 54 #[.val (.int p1), .val (.int p2), .val (.int p3), .val (.int p4), .val (.int p5), .val (.int p6), .val (.int (0 : Int32)), .val (.int ln), .val (.int (if (p5 &&& (1 : Int32)) = (0 : Int32) then ((p1).toInt8.toInt32) else (-17 : Int32))), .unset, .unset, .unset, .unset, .unset, .unset, .unset] [(.int (if (p5 &&& (2 : Int32)) = (0 : Int32) then ((p2).toInt8.toInt32) else (-69 : Int32)))])) _
      refine XS.istore X0.here hx rfl (hb hby at_54) rfl (l' := #[.val (.int p1), .val (.int p2), .val (.int p3), .val (.int p4), .val (.int p5), .val (.int p6), .val (.int (0 : Int32)), .val (.int ln), .val (.int (if (p5 &&& (1 : Int32)) = (0 : Int32) then ((p1).toInt8.toInt32) else (-17 : Int32))), .val (.int (if (p5 &&& (2 : Int32)) = (0 : Int32) then ((p2).toInt8.toInt32) else (-69 : Int32))), .unset, .unset, .unset, .unset, .unset, .unset]) rfl ?_
      show Steps p.tables e below (s₁.setTop (mkF m 56 #[.val (.int p1), .val (.int p2), .val (.int p3), .val (.int p4), .val (.int p5), .val (.int p6), .val (.int (0 : Int32)), .val (.int ln), .val (.int (if (p5 &&& (1 : Int32)) = (0 : Int32) then ((p1).toInt8.toInt32) else (-17 : Int32))), .val (.int (if (p5 &&& (2 : Int32)) = (0 : Int32) then ((p2).toInt8.toInt32) else (-69 : Int32))), .unset, .unset, .unset, .unset, .unset, .unset] [])) _
      refine XS.iload X0.here hx rfl (hb hby at_56) rfl ?_
      show Steps p.tables e below (s₁.setTop (mkF m 58 #[.val (.int p1), .val (.int p2), .val (.int p3), .val (.int p4), .val (.int p5), .val (.int p6), .val (.int (0 : Int32)), .val (.int ln), .val (.int (if (p5 &&& (1 : Int32)) = (0 : Int32) then ((p1).toInt8.toInt32) else (-17 : Int32))), .val (.int (if (p5 &&& (2 : Int32)) = (0 : Int32) then ((p2).toInt8.toInt32) else (-69 : Int32))), .unset, .unset, .unset, .unset, .unset, .unset] [(.int p5)])) _
      refine XS.iconst X0.here hx rfl (hb hby at_58) ?_
      show Steps p.tables e below (s₁.setTop (mkF m 59 #[.val (.int p1), .val (.int p2), .val (.int p3), .val (.int p4), .val (.int p5), .val (.int p6), .val (.int (0 : Int32)), .val (.int ln), .val (.int (if (p5 &&& (1 : Int32)) = (0 : Int32) then ((p1).toInt8.toInt32) else (-17 : Int32))), .val (.int (if (p5 &&& (2 : Int32)) = (0 : Int32) then ((p2).toInt8.toInt32) else (-69 : Int32))), .unset, .unset, .unset, .unset, .unset, .unset] [(.int (4 : Int32)), (.int p5)])) _
      refine XS.iand X0.here hx rfl (hb hby at_59) rfl ?_
      show Steps p.tables e below (s₁.setTop (mkF m 60 #[.val (.int p1), .val (.int p2), .val (.int p3), .val (.int p4), .val (.int p5), .val (.int p6), .val (.int (0 : Int32)), .val (.int ln), .val (.int (if (p5 &&& (1 : Int32)) = (0 : Int32) then ((p1).toInt8.toInt32) else (-17 : Int32))), .val (.int (if (p5 &&& (2 : Int32)) = (0 : Int32) then ((p2).toInt8.toInt32) else (-69 : Int32))), .unset, .unset, .unset, .unset, .unset, .unset] [(.int (p5 &&& (4 : Int32)))])) _
      exact k
    have pre_11 : ∀ t, Steps p.tables e below (s₁.setTop (mkF m 70 #[.val (.int p1), .val (.int p2), .val (.int p3), .val (.int p4), .val (.int p5), .val (.int p6), .val (.int (0 : Int32)), .val (.int ln), .val (.int (if (p5 &&& (1 : Int32)) = (0 : Int32) then ((p1).toInt8.toInt32) else (-17 : Int32))), .val (.int (if (p5 &&& (2 : Int32)) = (0 : Int32) then ((p2).toInt8.toInt32) else (-69 : Int32))), .unset, .unset, .unset, .unset, .unset, .unset] [(.int (if (p5 &&& (4 : Int32)) = (0 : Int32) then ((p3).toInt8.toInt32) else (-65 : Int32)))])) t → Steps p.tables e below (s₁.setTop (entryFrame m #[(.int p1), (.int p2), (.int p3), (.int p4), (.int p5), (.int p6)] maxLocals)) t := by
      intro t k
      refine pre_9 t ?_
      by_cases hm10 : (p5 &&& (4 : Int32)) = (0 : Int32)
      · skip
        show Steps p.tables e below (s₁.setTop (mkF m 60 #[.val (.int p1), .val (.int p2), .val (.int p3), .val (.int p4), .val (.int p5), .val (.int p6), .val (.int (0 : Int32)), .val (.int ln), .val (.int (if (p5 &&& (1 : Int32)) = (0 : Int32) then ((p1).toInt8.toInt32) else (-17 : Int32))), .val (.int (if (p5 &&& (2 : Int32)) = (0 : Int32) then ((p2).toInt8.toInt32) else (-69 : Int32))), .unset, .unset, .unset, .unset, .unset, .unset] [(.int (p5 &&& (4 : Int32)))])) _
        refine XS.ifYes X0.here hx rfl (pc0 := 60) (pc' := 68) rfl (hb hby at_60) rfl (XT.i0_eq_t hm10) (by decide) (by decide) ?_
        show Steps p.tables e below (s₁.setTop (mkF m 68 #[.val (.int p1), .val (.int p2), .val (.int p3), .val (.int p4), .val (.int p5), .val (.int p6), .val (.int (0 : Int32)), .val (.int ln), .val (.int (if (p5 &&& (1 : Int32)) = (0 : Int32) then ((p1).toInt8.toInt32) else (-17 : Int32))), .val (.int (if (p5 &&& (2 : Int32)) = (0 : Int32) then ((p2).toInt8.toInt32) else (-69 : Int32))), .unset, .unset, .unset, .unset, .unset, .unset] [])) _
        refine XS.iloadN X0.here hx rfl (hb hby at_68) rfl ?_
        show Steps p.tables e below (s₁.setTop (mkF m 69 #[.val (.int p1), .val (.int p2), .val (.int p3), .val (.int p4), .val (.int p5), .val (.int p6), .val (.int (0 : Int32)), .val (.int ln), .val (.int (if (p5 &&& (1 : Int32)) = (0 : Int32) then ((p1).toInt8.toInt32) else (-17 : Int32))), .val (.int (if (p5 &&& (2 : Int32)) = (0 : Int32) then ((p2).toInt8.toInt32) else (-69 : Int32))), .unset, .unset, .unset, .unset, .unset, .unset] [(.int p3)])) _
        refine XT.i2b X0.here hx rfl (hb hby at_69) rfl ?_
        show Steps p.tables e below (s₁.setTop (mkF m 70 #[.val (.int p1), .val (.int p2), .val (.int p3), .val (.int p4), .val (.int p5), .val (.int p6), .val (.int (0 : Int32)), .val (.int ln), .val (.int (if (p5 &&& (1 : Int32)) = (0 : Int32) then ((p1).toInt8.toInt32) else (-17 : Int32))), .val (.int (if (p5 &&& (2 : Int32)) = (0 : Int32) then ((p2).toInt8.toInt32) else (-69 : Int32))), .unset, .unset, .unset, .unset, .unset, .unset] [(.int ((p3).toInt8.toInt32))])) _
        first | exact k | (simp only [if_pos hm10] at k; exact k)
      · skip
        show Steps p.tables e below (s₁.setTop (mkF m 60 #[.val (.int p1), .val (.int p2), .val (.int p3), .val (.int p4), .val (.int p5), .val (.int p6), .val (.int (0 : Int32)), .val (.int ln), .val (.int (if (p5 &&& (1 : Int32)) = (0 : Int32) then ((p1).toInt8.toInt32) else (-17 : Int32))), .val (.int (if (p5 &&& (2 : Int32)) = (0 : Int32) then ((p2).toInt8.toInt32) else (-69 : Int32))), .unset, .unset, .unset, .unset, .unset, .unset] [(.int (p5 &&& (4 : Int32)))])) _
        refine XS.ifNo X0.here hx rfl (hb hby at_60) rfl (XT.i0_eq_f hm10) ?_
        show Steps p.tables e below (s₁.setTop (mkF m 63 #[.val (.int p1), .val (.int p2), .val (.int p3), .val (.int p4), .val (.int p5), .val (.int p6), .val (.int (0 : Int32)), .val (.int ln), .val (.int (if (p5 &&& (1 : Int32)) = (0 : Int32) then ((p1).toInt8.toInt32) else (-17 : Int32))), .val (.int (if (p5 &&& (2 : Int32)) = (0 : Int32) then ((p2).toInt8.toInt32) else (-69 : Int32))), .unset, .unset, .unset, .unset, .unset, .unset] [])) _
        refine XS.bipush X0.here hx rfl (hb hby at_63) ?_
        show Steps p.tables e below (s₁.setTop (mkF m 65 #[.val (.int p1), .val (.int p2), .val (.int p3), .val (.int p4), .val (.int p5), .val (.int p6), .val (.int (0 : Int32)), .val (.int ln), .val (.int (if (p5 &&& (1 : Int32)) = (0 : Int32) then ((p1).toInt8.toInt32) else (-17 : Int32))), .val (.int (if (p5 &&& (2 : Int32)) = (0 : Int32) then ((p2).toInt8.toInt32) else (-69 : Int32))), .unset, .unset, .unset, .unset, .unset, .unset] [(.int (-65 : Int32))])) _
        refine XS.goto X0.here hx rfl (pc0 := 65) (pc' := 70) rfl (hb hby at_65) (by decide) (by decide) ?_
        show Steps p.tables e below (s₁.setTop (mkF m 70 #[.val (.int p1), .val (.int p2), .val (.int p3), .val (.int p4), .val (.int p5), .val (.int p6), .val (.int (0 : Int32)), .val (.int ln), .val (.int (if (p5 &&& (1 : Int32)) = (0 : Int32) then ((p1).toInt8.toInt32) else (-17 : Int32))), .val (.int (if (p5 &&& (2 : Int32)) = (0 : Int32) then ((p2).toInt8.toInt32) else (-69 : Int32))), .unset, .unset, .unset, .unset, .unset, .unset] [(.int (-65 : Int32))])) _
        first | exact k | (simp only [if_neg hm10] at k; exact k)
    have pre_12 : ∀ t, Steps p.tables e below (s₁.setTop (mkF m 83 #[.val (.int p1), .val (.int p2), .val (.int p3), .val (.int p4), .val (.int p5), .val (.int p6), .val (.int (0 : Int32)), .val (.int ln), .val (.int (if (p5 &&& (1 : Int32)) = (0 : Int32) then ((p1).toInt8.toInt32) else (-17 : Int32))), .val (.int (if (p5 &&& (2 : Int32)) = (0 : Int32) then ((p2).toInt8.toInt32) else (-69 : Int32))), .val (.int (if (p5 &&& (4 : Int32)) = (0 : Int32) then ((p3).toInt8.toInt32) else (-65 : Int32))), .val (.int ((p4).toInt8.toInt32)), .val (.int (((p4 >>> ((8 : Int32) &&& 31))).toInt8.toInt32)), .unset, .unset, .unset] [])) t → Steps p.tables e below (s₁.setTop (entryFrame m #[(.int p1), (.int p2), (.int p3), (.int p4), (.int p5), (.int p6)] maxLocals)) t := by
      intro t k
      refine pre_11 t ?_
      show Steps p.tables e below (s₁.setTop (mkF m 70 #[.val (.int p1), .val (.int p2), .val (.int p3), .val (.int p4), .val (.int p5), .val (.int p6), .val (.int (0 : Int32)), .val (.int ln), .val (.int (if (p5 &&& (1 : Int32)) = (0 : Int32) then ((p1).toInt8.toInt32) else (-17 : Int32))), .val (.int (if (p5 &&& (2 : Int32)) = (0 : Int32) then ((p2).toInt8.toInt32) else (-69 : Int32))), .unset, .unset, .unset, .unset, .unset, .unset] [(.int (if (p5 &&& (4 : Int32)) = (0 : Int32) then ((p3).toInt8.toInt32) else (-65 : Int32)))])) _
      refine XS.istore X0.here hx rfl (hb hby at_70) rfl (l' := #[.val (.int p1), .val (.int p2), .val (.int p3), .val (.int p4), .val (.int p5), .val (.int p6), .val (.int (0 : Int32)), .val (.int ln), .val (.int (if (p5 &&& (1 : Int32)) = (0 : Int32) then ((p1).toInt8.toInt32) else (-17 : Int32))), .val (.int (if (p5 &&& (2 : Int32)) = (0 : Int32) then ((p2).toInt8.toInt32) else (-69 : Int32))), .val (.int (if (p5 &&& (4 : Int32)) = (0 : Int32) then ((p3).toInt8.toInt32) else (-65 : Int32))), .unset, .unset, .unset, .unset, .unset]) rfl ?_
      show Steps p.tables e below (s₁.setTop (mkF m 72 #[.val (.int p1), .val (.int p2), .val (.int p3), .val (.int p4), .val (.int p5), .val (.int p6), .val (.int (0 : Int32)), .val (.int ln), .val (.int (if (p5 &&& (1 : Int32)) = (0 : Int32) then ((p1).toInt8.toInt32) else (-17 : Int32))), .val (.int (if (p5 &&& (2 : Int32)) = (0 : Int32) then ((p2).toInt8.toInt32) else (-69 : Int32))), .val (.int (if (p5 &&& (4 : Int32)) = (0 : Int32) then ((p3).toInt8.toInt32) else (-65 : Int32))), .unset, .unset, .unset, .unset, .unset] [])) _
      refine XS.iloadN X0.here hx rfl (hb hby at_72) rfl ?_
      show Steps p.tables e below (s₁.setTop (mkF m 73 #[.val (.int p1), .val (.int p2), .val (.int p3), .val (.int p4), .val (.int p5), .val (.int p6), .val (.int (0 : Int32)), .val (.int ln), .val (.int (if (p5 &&& (1 : Int32)) = (0 : Int32) then ((p1).toInt8.toInt32) else (-17 : Int32))), .val (.int (if (p5 &&& (2 : Int32)) = (0 : Int32) then ((p2).toInt8.toInt32) else (-69 : Int32))), .val (.int (if (p5 &&& (4 : Int32)) = (0 : Int32) then ((p3).toInt8.toInt32) else (-65 : Int32))), .unset, .unset, .unset, .unset, .unset] [(.int p4)])) _
      refine XT.i2b X0.here hx rfl (hb hby at_73) rfl ?_
      show Steps p.tables e below (s₁.setTop (mkF m 74 #[.val (.int p1), .val (.int p2), .val (.int p3), .val (.int p4), .val (.int p5), .val (.int p6), .val (.int (0 : Int32)), .val (.int ln), .val (.int (if (p5 &&& (1 : Int32)) = (0 : Int32) then ((p1).toInt8.toInt32) else (-17 : Int32))), .val (.int (if (p5 &&& (2 : Int32)) = (0 : Int32) then ((p2).toInt8.toInt32) else (-69 : Int32))), .val (.int (if (p5 &&& (4 : Int32)) = (0 : Int32) then ((p3).toInt8.toInt32) else (-65 : Int32))), .unset, .unset, .unset, .unset, .unset] [(.int ((p4).toInt8.toInt32))])) _
      refine XS.istore X0.here hx rfl (hb hby at_74) rfl (l' := #[.val (.int p1), .val (.int p2), .val (.int p3), .val (.int p4), .val (.int p5), .val (.int p6), .val (.int (0 : Int32)), .val (.int ln), .val (.int (if (p5 &&& (1 : Int32)) = (0 : Int32) then ((p1).toInt8.toInt32) else (-17 : Int32))), .val (.int (if (p5 &&& (2 : Int32)) = (0 : Int32) then ((p2).toInt8.toInt32) else (-69 : Int32))), .val (.int (if (p5 &&& (4 : Int32)) = (0 : Int32) then ((p3).toInt8.toInt32) else (-65 : Int32))), .val (.int ((p4).toInt8.toInt32)), .unset, .unset, .unset, .unset]) rfl ?_
      show Steps p.tables e below (s₁.setTop (mkF m 76 #[.val (.int p1), .val (.int p2), .val (.int p3), .val (.int p4), .val (.int p5), .val (.int p6), .val (.int (0 : Int32)), .val (.int ln), .val (.int (if (p5 &&& (1 : Int32)) = (0 : Int32) then ((p1).toInt8.toInt32) else (-17 : Int32))), .val (.int (if (p5 &&& (2 : Int32)) = (0 : Int32) then ((p2).toInt8.toInt32) else (-69 : Int32))), .val (.int (if (p5 &&& (4 : Int32)) = (0 : Int32) then ((p3).toInt8.toInt32) else (-65 : Int32))), .val (.int ((p4).toInt8.toInt32)), .unset, .unset, .unset, .unset] [])) _
      refine XS.iloadN X0.here hx rfl (hb hby at_76) rfl ?_
      show Steps p.tables e below (s₁.setTop (mkF m 77 #[.val (.int p1), .val (.int p2), .val (.int p3), .val (.int p4), .val (.int p5), .val (.int p6), .val (.int (0 : Int32)), .val (.int ln), .val (.int (if (p5 &&& (1 : Int32)) = (0 : Int32) then ((p1).toInt8.toInt32) else (-17 : Int32))), .val (.int (if (p5 &&& (2 : Int32)) = (0 : Int32) then ((p2).toInt8.toInt32) else (-69 : Int32))), .val (.int (if (p5 &&& (4 : Int32)) = (0 : Int32) then ((p3).toInt8.toInt32) else (-65 : Int32))), .val (.int ((p4).toInt8.toInt32)), .unset, .unset, .unset, .unset] [(.int p4)])) _
      refine XS.bipush X0.here hx rfl (hb hby at_77) ?_
      show Steps p.tables e below (s₁.setTop (mkF m 79 #[.val (.int p1), .val (.int p2), .val (.int p3), .val (.int p4), .val (.int p5), .val (.int p6), .val (.int (0 : Int32)), .val (.int ln), .val (.int (if (p5 &&& (1 : Int32)) = (0 : Int32) then ((p1).toInt8.toInt32) else (-17 : Int32))), .val (.int (if (p5 &&& (2 : Int32)) = (0 : Int32) then ((p2).toInt8.toInt32) else (-69 : Int32))), .val (.int (if (p5 &&& (4 : Int32)) = (0 : Int32) then ((p3).toInt8.toInt32) else (-65 : Int32))), .val (.int ((p4).toInt8.toInt32)), .unset, .unset, .unset, .unset] [(.int (8 : Int32)), (.int p4)])) _
      refine XT.ishr X0.here hx rfl (hb hby at_79) rfl ?_
      show Steps p.tables e below (s₁.setTop (mkF m 80 #[.val (.int p1), .val (.int p2), .val (.int p3), .val (.int p4), .val (.int p5), .val (.int p6), .val (.int (0 : Int32)), .val (.int ln), .val (.int (if (p5 &&& (1 : Int32)) = (0 : Int32) then ((p1).toInt8.toInt32) else (-17 : Int32))), .val (.int (if (p5 &&& (2 : Int32)) = (0 : Int32) then ((p2).toInt8.toInt32) else (-69 : Int32))), .val (.int (if (p5 &&& (4 : Int32)) = (0 : Int32) then ((p3).toInt8.toInt32) else (-65 : Int32))), .val (.int ((p4).toInt8.toInt32)), .unset, .unset, .unset, .unset] [(.int (p4 >>> ((8 : Int32) &&& 31)))])) _
      refine XT.i2b X0.here hx rfl (hb hby at_80) rfl ?_
      show Steps p.tables e below (s₁.setTop (mkF m 81 #[.val (.int p1), .val (.int p2), .val (.int p3), .val (.int p4), .val (.int p5), .val (.int p6), .val (.int (0 : Int32)), .val (.int ln), .val (.int (if (p5 &&& (1 : Int32)) = (0 : Int32) then ((p1).toInt8.toInt32) else (-17 : Int32))), .val (.int (if (p5 &&& (2 : Int32)) = (0 : Int32) then ((p2).toInt8.toInt32) else (-69 : Int32))), .val (.int (if (p5 &&& (4 : Int32)) = (0 : Int32) then ((p3).toInt8.toInt32) else (-65 : Int32))), .val (.int ((p4).toInt8.toInt32)), .unset, .unset, .unset, .unset] [(.int (((p4 >>> ((8 : Int32) &&& 31))).toInt8.toInt32))])) _
      refine XS.istore X0.here hx rfl (hb hby at_81) rfl (l' := #[.val (.int p1), .val (.int p2), .val (.int p3), .val (.int p4), .val (.int p5), .val (.int p6), .val (.int (0 : Int32)), .val (.int ln), .val (.int (if (p5 &&& (1 : Int32)) = (0 : Int32) then ((p1).toInt8.toInt32) else (-17 : Int32))), .val (.int (if (p5 &&& (2 : Int32)) = (0 : Int32) then ((p2).toInt8.toInt32) else (-69 : Int32))), .val (.int (if (p5 &&& (4 : Int32)) = (0 : Int32) then ((p3).toInt8.toInt32) else (-65 : Int32))), .val (.int ((p4).toInt8.toInt32)), .val (.int (((p4 >>> ((8 : Int32) &&& 31))).toInt8.toInt32)), .unset, .unset, .unset]) rfl ?_
      show Steps p.tables e below (s₁.setTop (mkF m 83 #[.val (.int p1), .val (.int p2), .val (.int p3), .val (.int p4), .val (.int p5), .val (.int p6), .val (.int (0 : Int32)), .val (.int ln), .val (.int (if (p5 &&& (1 : Int32)) = (0 : Int32) then ((p1).toInt8.toInt32) else (-17 : Int32))), .val (.int (if (p5 &&& (2 : Int32)) = (0 : Int32) then ((p2).toInt8.toInt32) else (-69 : Int32))), .val (.int (if (p5 &&& (4 : Int32)) = (0 : Int32) then ((p3).toInt8.toInt32) else (-65 : Int32))), .val (.int ((p4).toInt8.toInt32)), .val (.int (((p4 >>> ((8 : Int32) &&& 31))).toInt8.toInt32)), .unset, .unset, .unset] [])) _
      exact k
    have hb0 : nar .byte (if (p5 &&& (1 : Int32)) = (0 : Int32) then ((p1).toInt8.toInt32) else (-17 : Int32)) = (if (p5 &&& (1 : Int32)) = (0 : Int32) then ((p1).toInt8.toInt32) else (-17 : Int32)) := by exact own_nbi _ _ _ (by decide)
    generalize (if (p5 &&& (1 : Int32)) = (0 : Int32) then ((p1).toInt8.toInt32) else (-17 : Int32)) = b0 at pre_12 hb0
    have hb1 : nar .byte (if (p5 &&& (2 : Int32)) = (0 : Int32) then ((p2).toInt8.toInt32) else (-69 : Int32)) = (if (p5 &&& (2 : Int32)) = (0 : Int32) then ((p2).toInt8.toInt32) else (-69 : Int32)) := by exact own_nbi _ _ _ (by decide)
    generalize (if (p5 &&& (2 : Int32)) = (0 : Int32) then ((p2).toInt8.toInt32) else (-69 : Int32)) = b1 at pre_12 hb1
    have hb2 : nar .byte (if (p5 &&& (4 : Int32)) = (0 : Int32) then ((p3).toInt8.toInt32) else (-65 : Int32)) = (if (p5 &&& (4 : Int32)) = (0 : Int32) then ((p3).toInt8.toInt32) else (-65 : Int32)) := by exact own_nbi _ _ _ (by decide)
    generalize (if (p5 &&& (4 : Int32)) = (0 : Int32) then ((p3).toInt8.toInt32) else (-65 : Int32)) = b2 at pre_12 hb2
    have hb3 : nar .byte ((p4).toInt8.toInt32) = ((p4).toInt8.toInt32) := by exact own_nb _
    generalize ((p4).toInt8.toInt32) = b3 at pre_12 hb3
    have hb4 : nar .byte (((p4 >>> ((8 : Int32) &&& 31))).toInt8.toInt32) = (((p4 >>> ((8 : Int32) &&& 31))).toInt8.toInt32) := by exact own_nb _
    generalize (((p4 >>> ((8 : Int32) &&& 31))).toInt8.toInt32) = b4 at pre_12 hb4
    have pre_13 : ∀ t, Steps p.tables e below (s₁.setTop (mkF m 85 #[.val (.int p1), .val (.int p2), .val (.int p3), .val (.int p4), .val (.int p5), .val (.int p6), .val (.int (0 : Int32)), .val (.int ln), .val (.int b0), .val (.int b1), .val (.int b2), .val (.int b3), .val (.int b4), .unset, .unset, .unset] [(.int (0 : Int32))])) t → Steps p.tables e below (s₁.setTop (entryFrame m #[(.int p1), (.int p2), (.int p3), (.int p4), (.int p5), (.int p6)] maxLocals)) t := by
      intro t k
      refine pre_12 t ?_
      show Steps p.tables e below (s₁.setTop (mkF m 83 #[.val (.int p1), .val (.int p2), .val (.int p3), .val (.int p4), .val (.int p5), .val (.int p6), .val (.int (0 : Int32)), .val (.int ln), .val (.int b0), .val (.int b1), .val (.int b2), .val (.int b3), .val (.int b4), .unset, .unset, .unset] [])) _
      refine XS.iload X0.here hx rfl (hb hby at_83) rfl ?_
      show Steps p.tables e below (s₁.setTop (mkF m 85 #[.val (.int p1), .val (.int p2), .val (.int p3), .val (.int p4), .val (.int p5), .val (.int p6), .val (.int (0 : Int32)), .val (.int ln), .val (.int b0), .val (.int b1), .val (.int b2), .val (.int b3), .val (.int b4), .unset, .unset, .unset] [(.int (0 : Int32))])) _
      exact k
    obtain ⟨_, _, ⟨T14, L14, k14, n14⟩, -, X14, ⟨Lc14, hQ14, l14, y14, z14⟩, st14⟩ := Jvm.LawKit.callS X0 hx (y := (⟨"com/example/tranche/tranche/TextFileTextStartPinLaw", "make", "(I)[B"⟩ : MethodName)) hown (mvT hZ (hw _ (List.mem_of_getElem? (i := 1) rfl))) (mvT hZ (hw _ (List.mem_of_getElem? (i := 2) rfl))) (mvT hZ (hw _ (List.mem_of_getElem? (i := 3) rfl))) (mvT hZ (hw _ (List.mem_of_getElem? (i := 4) rfl))) (by decide) (backOf (W := 0) (rm_make0 l Z a0 hw [] h0 n0 O0) hZ (hw _ (List.mem_of_getElem? (i := 4) rfl)) (hw _ (List.mem_of_getElem? (i := 3) rfl)) (by decide) (by decide)) (g := (mkF m 85 #[.val (.int p1), .val (.int p2), .val (.int p3), .val (.int p4), .val (.int p5), .val (.int p6), .val (.int (0 : Int32)), .val (.int ln), .val (.int b0), .val (.int b1), .val (.int b2), .val (.int b3), .val (.int b4), .unset, .unset, .unset] [(.int (0 : Int32))])) rfl (by rw [hml]; rfl) (argsL := [(.int (0 : Int32))]) (rest := []) (lenOf pd_law_0 rfl) rfl (by show 2 * 0 + _ ≤ _; exact Nat.le_of_eq rfl) (hb hby at_85) (fun _ _ => ⟨rfl, e0, (by decide : 0 + 1 ≤ _), (by decide : 0 + 0 ≤ _)⟩)
    dsimp only [Pt.U, Pt.locs, Pt.cells, Pt.slots] at X14 l14 y14 z14 st14 hQ14
    subst l14 y14 z14
    obtain ⟨m14, cA14, rfl, N14q, K14, gm14, Vm14⟩ := hQ14
    have N14 := Fr.app N0 N14q
    have O14 : Old Z n0 T14.heap := O0.keep K14 all0
    have pre_15 : ∀ t, Steps p.tables e below (T14.setTop (mkF m 88 #[.val (.int p1), .val (.int p2), .val (.int p3), .val (.int p4), .val (.int p5), .val (.int p6), .val (.int (0 : Int32)), .val (.int ln), .val (.int b0), .val (.int b1), .val (.int b2), .val (.int b3), .val (.int b4), .unset, .unset, .unset] [(.ref m14)])) t → Steps p.tables e below (s₁.setTop (entryFrame m #[(.int p1), (.int p2), (.int p3), (.int p4), (.int p5), (.int p6)] maxLocals)) t := fun t k => pre_13 t (st14 t k)
    have pre_16 : ∀ t, Steps p.tables e below (T14.setTop (mkF m 186 #[.val (.int p1), .val (.int p2), .val (.int p3), .val (.int p4), .val (.int p5), .val (.int p6), .val (.int (0 : Int32)), .val (.int ln), .val (.int b0), .val (.int b1), .val (.int b2), .val (.int b3), .val (.int b4), .val (.ref m14), .val (.int (0 : Int32)), .unset] [(.int ln), (.ref m14)])) t → Steps p.tables e below (s₁.setTop (entryFrame m #[(.int p1), (.int p2), (.int p3), (.int p4), (.int p5), (.int p6)] maxLocals)) t := by
      intro t k
      refine pre_15 t ?_
      show Steps p.tables e below (T14.setTop (mkF m 88 #[.val (.int p1), .val (.int p2), .val (.int p3), .val (.int p4), .val (.int p5), .val (.int p6), .val (.int (0 : Int32)), .val (.int ln), .val (.int b0), .val (.int b1), .val (.int b2), .val (.int b3), .val (.int b4), .unset, .unset, .unset] [(.ref m14)])) _
      refine XS.astore X14.here hx rfl (hb hby at_88) rfl rfl (l' := #[.val (.int p1), .val (.int p2), .val (.int p3), .val (.int p4), .val (.int p5), .val (.int p6), .val (.int (0 : Int32)), .val (.int ln), .val (.int b0), .val (.int b1), .val (.int b2), .val (.int b3), .val (.int b4), .val (.ref m14), .unset, .unset]) rfl ?_
      show Steps p.tables e below (T14.setTop (mkF m 90 #[.val (.int p1), .val (.int p2), .val (.int p3), .val (.int p4), .val (.int p5), .val (.int p6), .val (.int (0 : Int32)), .val (.int ln), .val (.int b0), .val (.int b1), .val (.int b2), .val (.int b3), .val (.int b4), .val (.ref m14), .unset, .unset] [])) _
      refine XS.iload X14.here hx rfl (hb hby at_90) rfl ?_
      show Steps p.tables e below (T14.setTop (mkF m 92 #[.val (.int p1), .val (.int p2), .val (.int p3), .val (.int p4), .val (.int p5), .val (.int p6), .val (.int (0 : Int32)), .val (.int ln), .val (.int b0), .val (.int b1), .val (.int b2), .val (.int b3), .val (.int b4), .val (.ref m14), .unset, .unset] [(.int (0 : Int32))])) _
      refine XS.ifYes X14.here hx rfl (pc0 := 92) (pc' := 101) rfl (hb hby at_92) rfl (XT.i0_le_t (by decide)) (by decide) (by decide) ?_
      show Steps p.tables e below (T14.setTop (mkF m 101 #[.val (.int p1), .val (.int p2), .val (.int p3), .val (.int p4), .val (.int p5), .val (.int p6), .val (.int (0 : Int32)), .val (.int ln), .val (.int b0), .val (.int b1), .val (.int b2), .val (.int b3), .val (.int b4), .val (.ref m14), .unset, .unset] [])) _
      refine XS.iload X14.here hx rfl (hb hby at_101) rfl ?_
      show Steps p.tables e below (T14.setTop (mkF m 103 #[.val (.int p1), .val (.int p2), .val (.int p3), .val (.int p4), .val (.int p5), .val (.int p6), .val (.int (0 : Int32)), .val (.int ln), .val (.int b0), .val (.int b1), .val (.int b2), .val (.int b3), .val (.int b4), .val (.ref m14), .unset, .unset] [(.int (0 : Int32))])) _
      refine XS.iconst X14.here hx rfl (hb hby at_103) ?_
      show Steps p.tables e below (T14.setTop (mkF m 104 #[.val (.int p1), .val (.int p2), .val (.int p3), .val (.int p4), .val (.int p5), .val (.int p6), .val (.int (0 : Int32)), .val (.int ln), .val (.int b0), .val (.int b1), .val (.int b2), .val (.int b3), .val (.int b4), .val (.ref m14), .unset, .unset] [(.int (1 : Int32)), (.int (0 : Int32))])) _
      refine XS.icmpYes X14.here hx rfl (pc0 := 104) (pc' := 113) rfl (hb hby at_104) rfl (XT.ii_le_t (by decide)) (by decide) (by decide) ?_
      show Steps p.tables e below (T14.setTop (mkF m 113 #[.val (.int p1), .val (.int p2), .val (.int p3), .val (.int p4), .val (.int p5), .val (.int p6), .val (.int (0 : Int32)), .val (.int ln), .val (.int b0), .val (.int b1), .val (.int b2), .val (.int b3), .val (.int b4), .val (.ref m14), .unset, .unset] [])) _
      refine XS.iload X14.here hx rfl (hb hby at_113) rfl ?_
      show Steps p.tables e below (T14.setTop (mkF m 115 #[.val (.int p1), .val (.int p2), .val (.int p3), .val (.int p4), .val (.int p5), .val (.int p6), .val (.int (0 : Int32)), .val (.int ln), .val (.int b0), .val (.int b1), .val (.int b2), .val (.int b3), .val (.int b4), .val (.ref m14), .unset, .unset] [(.int (0 : Int32))])) _
      refine XS.iconst X14.here hx rfl (hb hby at_115) ?_
      show Steps p.tables e below (T14.setTop (mkF m 116 #[.val (.int p1), .val (.int p2), .val (.int p3), .val (.int p4), .val (.int p5), .val (.int p6), .val (.int (0 : Int32)), .val (.int ln), .val (.int b0), .val (.int b1), .val (.int b2), .val (.int b3), .val (.int b4), .val (.ref m14), .unset, .unset] [(.int (2 : Int32)), (.int (0 : Int32))])) _
      refine XS.icmpYes X14.here hx rfl (pc0 := 116) (pc' := 125) rfl (hb hby at_116) rfl (XT.ii_le_t (by decide)) (by decide) (by decide) ?_
      show Steps p.tables e below (T14.setTop (mkF m 125 #[.val (.int p1), .val (.int p2), .val (.int p3), .val (.int p4), .val (.int p5), .val (.int p6), .val (.int (0 : Int32)), .val (.int ln), .val (.int b0), .val (.int b1), .val (.int b2), .val (.int b3), .val (.int b4), .val (.ref m14), .unset, .unset] [])) _
      refine XS.iload X14.here hx rfl (hb hby at_125) rfl ?_
      show Steps p.tables e below (T14.setTop (mkF m 127 #[.val (.int p1), .val (.int p2), .val (.int p3), .val (.int p4), .val (.int p5), .val (.int p6), .val (.int (0 : Int32)), .val (.int ln), .val (.int b0), .val (.int b1), .val (.int b2), .val (.int b3), .val (.int b4), .val (.ref m14), .unset, .unset] [(.int (0 : Int32))])) _
      refine XS.iconst X14.here hx rfl (hb hby at_127) ?_
      show Steps p.tables e below (T14.setTop (mkF m 128 #[.val (.int p1), .val (.int p2), .val (.int p3), .val (.int p4), .val (.int p5), .val (.int p6), .val (.int (0 : Int32)), .val (.int ln), .val (.int b0), .val (.int b1), .val (.int b2), .val (.int b3), .val (.int b4), .val (.ref m14), .unset, .unset] [(.int (3 : Int32)), (.int (0 : Int32))])) _
      refine XS.icmpYes X14.here hx rfl (pc0 := 128) (pc' := 137) rfl (hb hby at_128) rfl (XT.ii_le_t (by decide)) (by decide) (by decide) ?_
      show Steps p.tables e below (T14.setTop (mkF m 137 #[.val (.int p1), .val (.int p2), .val (.int p3), .val (.int p4), .val (.int p5), .val (.int p6), .val (.int (0 : Int32)), .val (.int ln), .val (.int b0), .val (.int b1), .val (.int b2), .val (.int b3), .val (.int b4), .val (.ref m14), .unset, .unset] [])) _
      refine XS.iload X14.here hx rfl (hb hby at_137) rfl ?_
      show Steps p.tables e below (T14.setTop (mkF m 139 #[.val (.int p1), .val (.int p2), .val (.int p3), .val (.int p4), .val (.int p5), .val (.int p6), .val (.int (0 : Int32)), .val (.int ln), .val (.int b0), .val (.int b1), .val (.int b2), .val (.int b3), .val (.int b4), .val (.ref m14), .unset, .unset] [(.int (0 : Int32))])) _
      refine XS.iconst X14.here hx rfl (hb hby at_139) ?_
      show Steps p.tables e below (T14.setTop (mkF m 140 #[.val (.int p1), .val (.int p2), .val (.int p3), .val (.int p4), .val (.int p5), .val (.int p6), .val (.int (0 : Int32)), .val (.int ln), .val (.int b0), .val (.int b1), .val (.int b2), .val (.int b3), .val (.int b4), .val (.ref m14), .unset, .unset] [(.int (4 : Int32)), (.int (0 : Int32))])) _
      refine XS.icmpYes X14.here hx rfl (pc0 := 140) (pc' := 149) rfl (hb hby at_140) rfl (XT.ii_le_t (by decide)) (by decide) (by decide) ?_
      show Steps p.tables e below (T14.setTop (mkF m 149 #[.val (.int p1), .val (.int p2), .val (.int p3), .val (.int p4), .val (.int p5), .val (.int p6), .val (.int (0 : Int32)), .val (.int ln), .val (.int b0), .val (.int b1), .val (.int b2), .val (.int b3), .val (.int b4), .val (.ref m14), .unset, .unset] [])) _
      refine XS.iconst X14.here hx rfl (hb hby at_149) ?_
      show Steps p.tables e below (T14.setTop (mkF m 150 #[.val (.int p1), .val (.int p2), .val (.int p3), .val (.int p4), .val (.int p5), .val (.int p6), .val (.int (0 : Int32)), .val (.int ln), .val (.int b0), .val (.int b1), .val (.int b2), .val (.int b3), .val (.int b4), .val (.ref m14), .unset, .unset] [(.int (0 : Int32))])) _
      refine XS.istore X14.here hx rfl (hb hby at_150) rfl (l' := #[.val (.int p1), .val (.int p2), .val (.int p3), .val (.int p4), .val (.int p5), .val (.int p6), .val (.int (0 : Int32)), .val (.int ln), .val (.int b0), .val (.int b1), .val (.int b2), .val (.int b3), .val (.int b4), .val (.ref m14), .val (.int (0 : Int32)), .unset]) rfl ?_
      show Steps p.tables e below (T14.setTop (mkF m 152 #[.val (.int p1), .val (.int p2), .val (.int p3), .val (.int p4), .val (.int p5), .val (.int p6), .val (.int (0 : Int32)), .val (.int ln), .val (.int b0), .val (.int b1), .val (.int b2), .val (.int b3), .val (.int b4), .val (.ref m14), .val (.int (0 : Int32)), .unset] [])) _
      refine XS.iload X14.here hx rfl (hb hby at_152) rfl ?_
      show Steps p.tables e below (T14.setTop (mkF m 154 #[.val (.int p1), .val (.int p2), .val (.int p3), .val (.int p4), .val (.int p5), .val (.int p6), .val (.int (0 : Int32)), .val (.int ln), .val (.int b0), .val (.int b1), .val (.int b2), .val (.int b3), .val (.int b4), .val (.ref m14), .val (.int (0 : Int32)), .unset] [(.int ln)])) _
      refine XS.iconst X14.here hx rfl (hb hby at_154) ?_
      show Steps p.tables e below (T14.setTop (mkF m 155 #[.val (.int p1), .val (.int p2), .val (.int p3), .val (.int p4), .val (.int p5), .val (.int p6), .val (.int (0 : Int32)), .val (.int ln), .val (.int b0), .val (.int b1), .val (.int b2), .val (.int b3), .val (.int b4), .val (.ref m14), .val (.int (0 : Int32)), .unset] [(.int (3 : Int32)), (.int ln)])) _
      refine XS.icmpYes X14.here hx rfl (pc0 := 155) (pc' := 182) rfl (hb hby at_155) rfl (XT.ii_lt_t hln) (by decide) (by decide) ?_
      show Steps p.tables e below (T14.setTop (mkF m 182 #[.val (.int p1), .val (.int p2), .val (.int p3), .val (.int p4), .val (.int p5), .val (.int p6), .val (.int (0 : Int32)), .val (.int ln), .val (.int b0), .val (.int b1), .val (.int b2), .val (.int b3), .val (.int b4), .val (.ref m14), .val (.int (0 : Int32)), .unset] [])) _
      refine XS.aload X14.here hx rfl (hb hby at_182) rfl rfl ?_
      show Steps p.tables e below (T14.setTop (mkF m 184 #[.val (.int p1), .val (.int p2), .val (.int p3), .val (.int p4), .val (.int p5), .val (.int p6), .val (.int (0 : Int32)), .val (.int ln), .val (.int b0), .val (.int b1), .val (.int b2), .val (.int b3), .val (.int b4), .val (.ref m14), .val (.int (0 : Int32)), .unset] [(.ref m14)])) _
      refine XS.iload X14.here hx rfl (hb hby at_184) rfl ?_
      show Steps p.tables e below (T14.setTop (mkF m 186 #[.val (.int p1), .val (.int p2), .val (.int p3), .val (.int p4), .val (.int p5), .val (.int p6), .val (.int (0 : Int32)), .val (.int ln), .val (.int b0), .val (.int b1), .val (.int b2), .val (.int b3), .val (.int b4), .val (.ref m14), .val (.int (0 : Int32)), .unset] [(.int ln), (.ref m14)])) _
      exact k
    obtain ⟨_, _, ⟨T17, L17, k17, n17⟩, -, X17, ⟨Lc17, hQ17, l17, y17, z17⟩, st17⟩ := Jvm.LawKit.callS X14 hx (y := (⟨"com/example/tranche/tranche/TextFile", "textStart", "([BI)I"⟩ : MethodName)) hown (mvT hZ (hw _ (List.mem_of_getElem? (i := 6) rfl))) (mvT hZ (hw _ (List.mem_of_getElem? (i := 7) rfl))) (mvT hZ (hw _ (List.mem_of_getElem? (i := 8) rfl))) (mvT hZ (hw _ (List.mem_of_getElem? (i := 9) rfl))) (by decide) (backOf (W := 0) (rm_ts0 l Z a0 hw [] m14 ln aB kB T14.heap n0 O14 SB VB hln) hZ (hw _ (List.mem_of_getElem? (i := 9) rfl)) (hw _ (List.mem_of_getElem? (i := 8) rfl)) (by decide) (by decide)) (g := (mkF m 186 #[.val (.int p1), .val (.int p2), .val (.int p3), .val (.int p4), .val (.int p5), .val (.int p6), .val (.int (0 : Int32)), .val (.int ln), .val (.int b0), .val (.int b1), .val (.int b2), .val (.int b3), .val (.int b4), .val (.ref m14), .val (.int (0 : Int32)), .unset] [(.int ln), (.ref m14)])) rfl (by rw [hml]; rfl) (argsL := [(.ref m14), (.int ln)]) (rest := []) (lenOf pd_law_1 rfl) rfl (by show 2 * 0 + _ ≤ _; exact Nat.le_of_eq rfl) (hb hby at_186) (fun _ _ => ⟨rfl, rfl, (by decide : 1 + 0 ≤ _), (by decide : 0 + 0 ≤ _)⟩)
    dsimp only [Pt.U, Pt.locs, Pt.cells, Pt.slots] at X17 l17 y17 z17 st17 hQ17
    subst l17 y17 z17
    obtain ⟨rfl, N17q, e17⟩ := hQ17
    have N17 := Fr.app N14 N17q
    have pre_18 : ∀ t, Steps p.tables e below (T17.setTop (mkF m 189 #[.val (.int p1), .val (.int p2), .val (.int p3), .val (.int p4), .val (.int p5), .val (.int p6), .val (.int (0 : Int32)), .val (.int ln), .val (.int b0), .val (.int b1), .val (.int b2), .val (.int b3), .val (.int b4), .val (.ref m14), .val (.int (0 : Int32)), .unset] [(.int (0 : Int32))])) t → Steps p.tables e below (s₁.setTop (entryFrame m #[(.int p1), (.int p2), (.int p3), (.int p4), (.int p5), (.int p6)] maxLocals)) t := fun t k => pre_16 t (st17 t k)
    have pre_19 : ∀ t, Steps p.tables e below (T17.setTop (mkF m 203 #[.val (.int p1), .val (.int p2), .val (.int p3), .val (.int p4), .val (.int p5), .val (.int p6), .val (.int (0 : Int32)), .val (.int ln), .val (.int b0), .val (.int b1), .val (.int b2), .val (.int b3), .val (.int b4), .val (.ref m14), .val (.int (0 : Int32)), .val (.int (0 : Int32))] [(.int (1 : Int32))])) t → Steps p.tables e below (s₁.setTop (entryFrame m #[(.int p1), (.int p2), (.int p3), (.int p4), (.int p5), (.int p6)] maxLocals)) t := by
      intro t k
      refine pre_18 t ?_
      show Steps p.tables e below (T17.setTop (mkF m 189 #[.val (.int p1), .val (.int p2), .val (.int p3), .val (.int p4), .val (.int p5), .val (.int p6), .val (.int (0 : Int32)), .val (.int ln), .val (.int b0), .val (.int b1), .val (.int b2), .val (.int b3), .val (.int b4), .val (.ref m14), .val (.int (0 : Int32)), .unset] [(.int (0 : Int32))])) _
      refine XS.istore X17.here hx rfl (hb hby at_189) rfl (l' := #[.val (.int p1), .val (.int p2), .val (.int p3), .val (.int p4), .val (.int p5), .val (.int p6), .val (.int (0 : Int32)), .val (.int ln), .val (.int b0), .val (.int b1), .val (.int b2), .val (.int b3), .val (.int b4), .val (.ref m14), .val (.int (0 : Int32)), .val (.int (0 : Int32))]) rfl ?_
      show Steps p.tables e below (T17.setTop (mkF m 191 #[.val (.int p1), .val (.int p2), .val (.int p3), .val (.int p4), .val (.int p5), .val (.int p6), .val (.int (0 : Int32)), .val (.int ln), .val (.int b0), .val (.int b1), .val (.int b2), .val (.int b3), .val (.int b4), .val (.ref m14), .val (.int (0 : Int32)), .val (.int (0 : Int32))] [])) _
      refine XS.iload X17.here hx rfl (hb hby at_191) rfl ?_
      show Steps p.tables e below (T17.setTop (mkF m 193 #[.val (.int p1), .val (.int p2), .val (.int p3), .val (.int p4), .val (.int p5), .val (.int p6), .val (.int (0 : Int32)), .val (.int ln), .val (.int b0), .val (.int b1), .val (.int b2), .val (.int b3), .val (.int b4), .val (.ref m14), .val (.int (0 : Int32)), .val (.int (0 : Int32))] [(.int (0 : Int32))])) _
      refine XS.iload X17.here hx rfl (hb hby at_193) rfl ?_
      show Steps p.tables e below (T17.setTop (mkF m 195 #[.val (.int p1), .val (.int p2), .val (.int p3), .val (.int p4), .val (.int p5), .val (.int p6), .val (.int (0 : Int32)), .val (.int ln), .val (.int b0), .val (.int b1), .val (.int b2), .val (.int b3), .val (.int b4), .val (.ref m14), .val (.int (0 : Int32)), .val (.int (0 : Int32))] [(.int (0 : Int32)), (.int (0 : Int32))])) _
      refine XS.icmpNo X17.here hx rfl (hb hby at_195) rfl (XT.ii_ne_f (by decide)) ?_
      show Steps p.tables e below (T17.setTop (mkF m 198 #[.val (.int p1), .val (.int p2), .val (.int p3), .val (.int p4), .val (.int p5), .val (.int p6), .val (.int (0 : Int32)), .val (.int ln), .val (.int b0), .val (.int b1), .val (.int b2), .val (.int b3), .val (.int b4), .val (.ref m14), .val (.int (0 : Int32)), .val (.int (0 : Int32))] [])) _
      refine XS.iconst X17.here hx rfl (hb hby at_198) ?_
      show Steps p.tables e below (T17.setTop (mkF m 199 #[.val (.int p1), .val (.int p2), .val (.int p3), .val (.int p4), .val (.int p5), .val (.int p6), .val (.int (0 : Int32)), .val (.int ln), .val (.int b0), .val (.int b1), .val (.int b2), .val (.int b3), .val (.int b4), .val (.ref m14), .val (.int (0 : Int32)), .val (.int (0 : Int32))] [(.int (1 : Int32))])) _
      refine XS.goto X17.here hx rfl (pc0 := 199) (pc' := 203) rfl (hb hby at_199) (by decide) (by decide) ?_
      show Steps p.tables e below (T17.setTop (mkF m 203 #[.val (.int p1), .val (.int p2), .val (.int p3), .val (.int p4), .val (.int p5), .val (.int p6), .val (.int (0 : Int32)), .val (.int ln), .val (.int b0), .val (.int b1), .val (.int b2), .val (.int b3), .val (.int b4), .val (.ref m14), .val (.int (0 : Int32)), .val (.int (0 : Int32))] [(.int (1 : Int32))])) _
      exact k
    obtain ⟨fs, hr, hrun, hended, hW, hsame⟩ := X17.leave (v := some (.int (1 : Int32))) (fun h => by rw [Bd.returns] at h; cases h)
    refine ⟨_, _, pre_19 _ ?_, hrun, hended, _, _, rfl, ?_, ⟨_, rfl⟩, hW, hsame.mono (by decide) (by decide)⟩
    · show Steps p.tables e below (T17.setTop (mkF m 203 #[.val (.int p1), .val (.int p2), .val (.int p3), .val (.int p4), .val (.int p5), .val (.int p6), .val (.int (0 : Int32)), .val (.int ln), .val (.int b0), .val (.int b1), .val (.int b2), .val (.int b3), .val (.int b4), .val (.ref m14), .val (.int (0 : Int32)), .val (.int (0 : Int32))] [(.int (1 : Int32))])) _
      exact retN X17 hx (t := .boolean) Bd.returns (by simp) (hb hby at_203) hr
    · show Q_law Z p1 p2 p3 p4 p5 p6 aB kB h0 n0 _ T17.heap _
      rw [e17]
      exact ⟨rfl, N17⟩
  · skip
    rw [hs] at pre_1
    have pre_20 : ∀ t, Steps p.tables e below (s₁.setTop (mkF m 24 #[.val (.int p1), .val (.int p2), .val (.int p3), .val (.int p4), .val (.int p5), .val (.int p6), .val (.int (1 : Int32)), .val (.int (((XT.ushr p6 (3 : Int32)) &&& (2147483647 : Int32)) % (2 : Int32))), .unset, .unset, .unset, .unset, .unset, .unset, .unset, .unset] [])) t → Steps p.tables e below (s₁.setTop (entryFrame m #[(.int p1), (.int p2), (.int p3), (.int p4), (.int p5), (.int p6)] maxLocals)) t := by
      intro t k
      refine pre_1 t ?_
      show Steps p.tables e below (s₁.setTop (mkF m 10 #[.val (.int p1), .val (.int p2), .val (.int p3), .val (.int p4), .val (.int p5), .val (.int p6), .val (.int (1 : Int32)), .unset, .unset, .unset, .unset, .unset, .unset, .unset, .unset, .unset] [])) _
      refine XS.iload X0.here hx rfl (hb hby at_10) rfl ?_
      show Steps p.tables e below (s₁.setTop (mkF m 12 #[.val (.int p1), .val (.int p2), .val (.int p3), .val (.int p4), .val (.int p5), .val (.int p6), .val (.int (1 : Int32)), .unset, .unset, .unset, .unset, .unset, .unset, .unset, .unset, .unset] [(.int p6)])) _
      refine XS.iconst X0.here hx rfl (hb hby at_12) ?_
      show Steps p.tables e below (s₁.setTop (mkF m 13 #[.val (.int p1), .val (.int p2), .val (.int p3), .val (.int p4), .val (.int p5), .val (.int p6), .val (.int (1 : Int32)), .unset, .unset, .unset, .unset, .unset, .unset, .unset, .unset, .unset] [(.int (3 : Int32)), (.int p6)])) _
      refine XT.iushr X0.here hx rfl (hb hby at_13) rfl ?_
      show Steps p.tables e below (s₁.setTop (mkF m 14 #[.val (.int p1), .val (.int p2), .val (.int p3), .val (.int p4), .val (.int p5), .val (.int p6), .val (.int (1 : Int32)), .unset, .unset, .unset, .unset, .unset, .unset, .unset, .unset, .unset] [(.int (XT.ushr p6 (3 : Int32)))])) _
      refine X0.ldcInt hx hown (mvT hZ (hw _ (List.mem_of_getElem? (i := 0) rfl))) (g := (mkF m 14 #[.val (.int p1), .val (.int p2), .val (.int p3), .val (.int p4), .val (.int p5), .val (.int p6), .val (.int (1 : Int32)), .unset, .unset, .unset, .unset, .unset, .unset, .unset, .unset, .unset] [(.int (XT.ushr p6 (3 : Int32)))])) rfl (hb hby at_14) _ ?_
      show Steps p.tables e below (s₁.setTop (mkF m 16 #[.val (.int p1), .val (.int p2), .val (.int p3), .val (.int p4), .val (.int p5), .val (.int p6), .val (.int (1 : Int32)), .unset, .unset, .unset, .unset, .unset, .unset, .unset, .unset, .unset] [(.int (2147483647 : Int32)), (.int (XT.ushr p6 (3 : Int32)))])) _
      refine XS.iand X0.here hx rfl (hb hby at_16) rfl ?_
      show Steps p.tables e below (s₁.setTop (mkF m 17 #[.val (.int p1), .val (.int p2), .val (.int p3), .val (.int p4), .val (.int p5), .val (.int p6), .val (.int (1 : Int32)), .unset, .unset, .unset, .unset, .unset, .unset, .unset, .unset, .unset] [(.int ((XT.ushr p6 (3 : Int32)) &&& (2147483647 : Int32)))])) _
      refine XS.iload X0.here hx rfl (hb hby at_17) rfl ?_
      show Steps p.tables e below (s₁.setTop (mkF m 19 #[.val (.int p1), .val (.int p2), .val (.int p3), .val (.int p4), .val (.int p5), .val (.int p6), .val (.int (1 : Int32)), .unset, .unset, .unset, .unset, .unset, .unset, .unset, .unset, .unset] [(.int (1 : Int32)), (.int ((XT.ushr p6 (3 : Int32)) &&& (2147483647 : Int32)))])) _
      refine XS.iconst X0.here hx rfl (hb hby at_19) ?_
      show Steps p.tables e below (s₁.setTop (mkF m 20 #[.val (.int p1), .val (.int p2), .val (.int p3), .val (.int p4), .val (.int p5), .val (.int p6), .val (.int (1 : Int32)), .unset, .unset, .unset, .unset, .unset, .unset, .unset, .unset, .unset] [(.int (1 : Int32)), (.int (1 : Int32)), (.int ((XT.ushr p6 (3 : Int32)) &&& (2147483647 : Int32)))])) _
      refine XS.iadd X0.here hx rfl (hb hby at_20) rfl ?_
      show Steps p.tables e below (s₁.setTop (mkF m 21 #[.val (.int p1), .val (.int p2), .val (.int p3), .val (.int p4), .val (.int p5), .val (.int p6), .val (.int (1 : Int32)), .unset, .unset, .unset, .unset, .unset, .unset, .unset, .unset, .unset] [(.int (2 : Int32)), (.int ((XT.ushr p6 (3 : Int32)) &&& (2147483647 : Int32)))])) _
      refine iremM X0 hx rfl (hb hby at_21) rfl (by decide) ?_
      show Steps p.tables e below (s₁.setTop (mkF m 22 #[.val (.int p1), .val (.int p2), .val (.int p3), .val (.int p4), .val (.int p5), .val (.int p6), .val (.int (1 : Int32)), .unset, .unset, .unset, .unset, .unset, .unset, .unset, .unset, .unset] [(.int (((XT.ushr p6 (3 : Int32)) &&& (2147483647 : Int32)) % (2 : Int32)))])) _
      refine XS.istore X0.here hx rfl (hb hby at_22) rfl (l' := #[.val (.int p1), .val (.int p2), .val (.int p3), .val (.int p4), .val (.int p5), .val (.int p6), .val (.int (1 : Int32)), .val (.int (((XT.ushr p6 (3 : Int32)) &&& (2147483647 : Int32)) % (2 : Int32))), .unset, .unset, .unset, .unset, .unset, .unset, .unset, .unset]) rfl ?_
      show Steps p.tables e below (s₁.setTop (mkF m 24 #[.val (.int p1), .val (.int p2), .val (.int p3), .val (.int p4), .val (.int p5), .val (.int p6), .val (.int (1 : Int32)), .val (.int (((XT.ushr p6 (3 : Int32)) &&& (2147483647 : Int32)) % (2 : Int32))), .unset, .unset, .unset, .unset, .unset, .unset, .unset, .unset] [])) _
      exact k
    have hln := own_ln1 (XT.ushr p6 (3 : Int32))
    generalize (((XT.ushr p6 (3 : Int32)) &&& (2147483647 : Int32)) % (2 : Int32)) = ln at pre_20 hln
    have pre_21 : ∀ t, Steps p.tables e below (s₁.setTop (mkF m 28 #[.val (.int p1), .val (.int p2), .val (.int p3), .val (.int p4), .val (.int p5), .val (.int p6), .val (.int (1 : Int32)), .val (.int ln), .unset, .unset, .unset, .unset, .unset, .unset, .unset, .unset] [(.int (p5 &&& (1 : Int32)))])) t → Steps p.tables e below (s₁.setTop (entryFrame m #[(.int p1), (.int p2), (.int p3), (.int p4), (.int p5), (.int p6)] maxLocals)) t := by
      intro t k
      refine pre_20 t ?_
      show Steps p.tables e below (s₁.setTop (mkF m 24 #[.val (.int p1), .val (.int p2), .val (.int p3), .val (.int p4), .val (.int p5), .val (.int p6), .val (.int (1 : Int32)), .val (.int ln), .unset, .unset, .unset, .unset, .unset, .unset, .unset, .unset] [])) _
      refine XS.iload X0.here hx rfl (hb hby at_24) rfl ?_
      show Steps p.tables e below (s₁.setTop (mkF m 26 #[.val (.int p1), .val (.int p2), .val (.int p3), .val (.int p4), .val (.int p5), .val (.int p6), .val (.int (1 : Int32)), .val (.int ln), .unset, .unset, .unset, .unset, .unset, .unset, .unset, .unset] [(.int p5)])) _
      refine XS.iconst X0.here hx rfl (hb hby at_26) ?_
      show Steps p.tables e below (s₁.setTop (mkF m 27 #[.val (.int p1), .val (.int p2), .val (.int p3), .val (.int p4), .val (.int p5), .val (.int p6), .val (.int (1 : Int32)), .val (.int ln), .unset, .unset, .unset, .unset, .unset, .unset, .unset, .unset] [(.int (1 : Int32)), (.int p5)])) _
      refine XS.iand X0.here hx rfl (hb hby at_27) rfl ?_
      show Steps p.tables e below (s₁.setTop (mkF m 28 #[.val (.int p1), .val (.int p2), .val (.int p3), .val (.int p4), .val (.int p5), .val (.int p6), .val (.int (1 : Int32)), .val (.int ln), .unset, .unset, .unset, .unset, .unset, .unset, .unset, .unset] [(.int (p5 &&& (1 : Int32)))])) _
      exact k
    have pre_23 : ∀ t, Steps p.tables e below (s₁.setTop (mkF m 38 #[.val (.int p1), .val (.int p2), .val (.int p3), .val (.int p4), .val (.int p5), .val (.int p6), .val (.int (1 : Int32)), .val (.int ln), .unset, .unset, .unset, .unset, .unset, .unset, .unset, .unset] [(.int (if (p5 &&& (1 : Int32)) = (0 : Int32) then ((p1).toInt8.toInt32) else (-17 : Int32)))])) t → Steps p.tables e below (s₁.setTop (entryFrame m #[(.int p1), (.int p2), (.int p3), (.int p4), (.int p5), (.int p6)] maxLocals)) t := by
      intro t k
      refine pre_21 t ?_
      by_cases hm22 : (p5 &&& (1 : Int32)) = (0 : Int32)
      · skip
        show Steps p.tables e below (s₁.setTop (mkF m 28 #[.val (.int p1), .val (.int p2), .val (.int p3), .val (.int p4), .val (.int p5), .val (.int p6), .val (.int (1 : Int32)), .val (.int ln), .unset, .unset, .unset, .unset, .unset, .unset, .unset, .unset] [(.int (p5 &&& (1 : Int32)))])) _
        refine XS.ifYes X0.here hx rfl (pc0 := 28) (pc' := 36) rfl (hb hby at_28) rfl (XT.i0_eq_t hm22) (by decide) (by decide) ?_
        show Steps p.tables e below (s₁.setTop (mkF m 36 #[.val (.int p1), .val (.int p2), .val (.int p3), .val (.int p4), .val (.int p5), .val (.int p6), .val (.int (1 : Int32)), .val (.int ln), .unset, .unset, .unset, .unset, .unset, .unset, .unset, .unset] [])) _
        refine XS.iloadN X0.here hx rfl (hb hby at_36) rfl ?_
        show Steps p.tables e below (s₁.setTop (mkF m 37 #[.val (.int p1), .val (.int p2), .val (.int p3), .val (.int p4), .val (.int p5), .val (.int p6), .val (.int (1 : Int32)), .val (.int ln), .unset, .unset, .unset, .unset, .unset, .unset, .unset, .unset] [(.int p1)])) _
        refine XT.i2b X0.here hx rfl (hb hby at_37) rfl ?_
        show Steps p.tables e below (s₁.setTop (mkF m 38 #[.val (.int p1), .val (.int p2), .val (.int p3), .val (.int p4), .val (.int p5), .val (.int p6), .val (.int (1 : Int32)), .val (.int ln), .unset, .unset, .unset, .unset, .unset, .unset, .unset, .unset] [(.int ((p1).toInt8.toInt32))])) _
        first | exact k | (simp only [if_pos hm22] at k; exact k)
      · skip
        show Steps p.tables e below (s₁.setTop (mkF m 28 #[.val (.int p1), .val (.int p2), .val (.int p3), .val (.int p4), .val (.int p5), .val (.int p6), .val (.int (1 : Int32)), .val (.int ln), .unset, .unset, .unset, .unset, .unset, .unset, .unset, .unset] [(.int (p5 &&& (1 : Int32)))])) _
        refine XS.ifNo X0.here hx rfl (hb hby at_28) rfl (XT.i0_eq_f hm22) ?_
        show Steps p.tables e below (s₁.setTop (mkF m 31 #[.val (.int p1), .val (.int p2), .val (.int p3), .val (.int p4), .val (.int p5), .val (.int p6), .val (.int (1 : Int32)), .val (.int ln), .unset, .unset, .unset, .unset, .unset, .unset, .unset, .unset] [])) _
        refine XS.bipush X0.here hx rfl (hb hby at_31) ?_
        show Steps p.tables e below (s₁.setTop (mkF m 33 #[.val (.int p1), .val (.int p2), .val (.int p3), .val (.int p4), .val (.int p5), .val (.int p6), .val (.int (1 : Int32)), .val (.int ln), .unset, .unset, .unset, .unset, .unset, .unset, .unset, .unset] [(.int (-17 : Int32))])) _
        refine XS.goto X0.here hx rfl (pc0 := 33) (pc' := 38) rfl (hb hby at_33) (by decide) (by decide) ?_
        show Steps p.tables e below (s₁.setTop (mkF m 38 #[.val (.int p1), .val (.int p2), .val (.int p3), .val (.int p4), .val (.int p5), .val (.int p6), .val (.int (1 : Int32)), .val (.int ln), .unset, .unset, .unset, .unset, .unset, .unset, .unset, .unset] [(.int (-17 : Int32))])) _
        first | exact k | (simp only [if_neg hm22] at k; exact k)
    have pre_24 : ∀ t, Steps p.tables e below (s₁.setTop (mkF m 44 #[.val (.int p1), .val (.int p2), .val (.int p3), .val (.int p4), .val (.int p5), .val (.int p6), .val (.int (1 : Int32)), .val (.int ln), .val (.int (if (p5 &&& (1 : Int32)) = (0 : Int32) then ((p1).toInt8.toInt32) else (-17 : Int32))), .unset, .unset, .unset, .unset, .unset, .unset, .unset] [(.int (p5 &&& (2 : Int32)))])) t → Steps p.tables e below (s₁.setTop (entryFrame m #[(.int p1), (.int p2), (.int p3), (.int p4), (.int p5), (.int p6)] maxLocals)) t := by
      intro t k
      refine pre_23 t ?_
      show Steps p.tables e below (s₁.setTop (mkF m 38 #[.val (.int p1), .val (.int p2), .val (.int p3), .val (.int p4), .val (.int p5), .val (.int p6), .val (.int (1 : Int32)), .val (.int ln), .unset, .unset, .unset, .unset, .unset, .unset, .unset, .unset] [(.int (if (p5 &&& (1 : Int32)) = (0 : Int32) then ((p1).toInt8.toInt32) else (-17 : Int32)))])) _
      refine XS.istore X0.here hx rfl (hb hby at_38) rfl (l' := #[.val (.int p1), .val (.int p2), .val (.int p3), .val (.int p4), .val (.int p5), .val (.int p6), .val (.int (1 : Int32)), .val (.int ln), .val (.int (if (p5 &&& (1 : Int32)) = (0 : Int32) then ((p1).toInt8.toInt32) else (-17 : Int32))), .unset, .unset, .unset, .unset, .unset, .unset, .unset]) rfl ?_
      show Steps p.tables e below (s₁.setTop (mkF m 40 #[.val (.int p1), .val (.int p2), .val (.int p3), .val (.int p4), .val (.int p5), .val (.int p6), .val (.int (1 : Int32)), .val (.int ln), .val (.int (if (p5 &&& (1 : Int32)) = (0 : Int32) then ((p1).toInt8.toInt32) else (-17 : Int32))), .unset, .unset, .unset, .unset, .unset, .unset, .unset] [])) _
      refine XS.iload X0.here hx rfl (hb hby at_40) rfl ?_
      show Steps p.tables e below (s₁.setTop (mkF m 42 #[.val (.int p1), .val (.int p2), .val (.int p3), .val (.int p4), .val (.int p5), .val (.int p6), .val (.int (1 : Int32)), .val (.int ln), .val (.int (if (p5 &&& (1 : Int32)) = (0 : Int32) then ((p1).toInt8.toInt32) else (-17 : Int32))), .unset, .unset, .unset, .unset, .unset, .unset, .unset] [(.int p5)])) _
      refine XS.iconst X0.here hx rfl (hb hby at_42) ?_
      show Steps p.tables e below (s₁.setTop (mkF m 43 #[.val (.int p1), .val (.int p2), .val (.int p3), .val (.int p4), .val (.int p5), .val (.int p6), .val (.int (1 : Int32)), .val (.int ln), .val (.int (if (p5 &&& (1 : Int32)) = (0 : Int32) then ((p1).toInt8.toInt32) else (-17 : Int32))), .unset, .unset, .unset, .unset, .unset, .unset, .unset] [(.int (2 : Int32)), (.int p5)])) _
      refine XS.iand X0.here hx rfl (hb hby at_43) rfl ?_
      show Steps p.tables e below (s₁.setTop (mkF m 44 #[.val (.int p1), .val (.int p2), .val (.int p3), .val (.int p4), .val (.int p5), .val (.int p6), .val (.int (1 : Int32)), .val (.int ln), .val (.int (if (p5 &&& (1 : Int32)) = (0 : Int32) then ((p1).toInt8.toInt32) else (-17 : Int32))), .unset, .unset, .unset, .unset, .unset, .unset, .unset] [(.int (p5 &&& (2 : Int32)))])) _
      exact k
    have pre_26 : ∀ t, Steps p.tables e below (s₁.setTop (mkF m 54 #[.val (.int p1), .val (.int p2), .val (.int p3), .val (.int p4), .val (.int p5), .val (.int p6), .val (.int (1 : Int32)), .val (.int ln), .val (.int (if (p5 &&& (1 : Int32)) = (0 : Int32) then ((p1).toInt8.toInt32) else (-17 : Int32))), .unset, .unset, .unset, .unset, .unset, .unset, .unset] [(.int (if (p5 &&& (2 : Int32)) = (0 : Int32) then ((p2).toInt8.toInt32) else (-69 : Int32)))])) t → Steps p.tables e below (s₁.setTop (entryFrame m #[(.int p1), (.int p2), (.int p3), (.int p4), (.int p5), (.int p6)] maxLocals)) t := by
      intro t k
      refine pre_24 t ?_
      by_cases hm25 : (p5 &&& (2 : Int32)) = (0 : Int32)
      · skip
        show Steps p.tables e below (s₁.setTop (mkF m 44 #[.val (.int p1), .val (.int p2), .val (.int p3), .val (.int p4), .val (.int p5), .val (.int p6), .val (.int (1 : Int32)), .val (.int ln), .val (.int (if (p5 &&& (1 : Int32)) = (0 : Int32) then ((p1).toInt8.toInt32) else (-17 : Int32))), .unset, .unset, .unset, .unset, .unset, .unset, .unset] [(.int (p5 &&& (2 : Int32)))])) _
        refine XS.ifYes X0.here hx rfl (pc0 := 44) (pc' := 52) rfl (hb hby at_44) rfl (XT.i0_eq_t hm25) (by decide) (by decide) ?_
        show Steps p.tables e below (s₁.setTop (mkF m 52 #[.val (.int p1), .val (.int p2), .val (.int p3), .val (.int p4), .val (.int p5), .val (.int p6), .val (.int (1 : Int32)), .val (.int ln), .val (.int (if (p5 &&& (1 : Int32)) = (0 : Int32) then ((p1).toInt8.toInt32) else (-17 : Int32))), .unset, .unset, .unset, .unset, .unset, .unset, .unset] [])) _
        refine XS.iloadN X0.here hx rfl (hb hby at_52) rfl ?_
        show Steps p.tables e below (s₁.setTop (mkF m 53 #[.val (.int p1), .val (.int p2), .val (.int p3), .val (.int p4), .val (.int p5), .val (.int p6), .val (.int (1 : Int32)), .val (.int ln), .val (.int (if (p5 &&& (1 : Int32)) = (0 : Int32) then ((p1).toInt8.toInt32) else (-17 : Int32))), .unset, .unset, .unset, .unset, .unset, .unset, .unset] [(.int p2)])) _
        refine XT.i2b X0.here hx rfl (hb hby at_53) rfl ?_
        show Steps p.tables e below (s₁.setTop (mkF m 54 #[.val (.int p1), .val (.int p2), .val (.int p3), .val (.int p4), .val (.int p5), .val (.int p6), .val (.int (1 : Int32)), .val (.int ln), .val (.int (if (p5 &&& (1 : Int32)) = (0 : Int32) then ((p1).toInt8.toInt32) else (-17 : Int32))), .unset, .unset, .unset, .unset, .unset, .unset, .unset] [(.int ((p2).toInt8.toInt32))])) _
        first | exact k | (simp only [if_pos hm25] at k; exact k)
      · skip
        show Steps p.tables e below (s₁.setTop (mkF m 44 #[.val (.int p1), .val (.int p2), .val (.int p3), .val (.int p4), .val (.int p5), .val (.int p6), .val (.int (1 : Int32)), .val (.int ln), .val (.int (if (p5 &&& (1 : Int32)) = (0 : Int32) then ((p1).toInt8.toInt32) else (-17 : Int32))), .unset, .unset, .unset, .unset, .unset, .unset, .unset] [(.int (p5 &&& (2 : Int32)))])) _
        refine XS.ifNo X0.here hx rfl (hb hby at_44) rfl (XT.i0_eq_f hm25) ?_
        show Steps p.tables e below (s₁.setTop (mkF m 47 #[.val (.int p1), .val (.int p2), .val (.int p3), .val (.int p4), .val (.int p5), .val (.int p6), .val (.int (1 : Int32)), .val (.int ln), .val (.int (if (p5 &&& (1 : Int32)) = (0 : Int32) then ((p1).toInt8.toInt32) else (-17 : Int32))), .unset, .unset, .unset, .unset, .unset, .unset, .unset] [])) _
        refine XS.bipush X0.here hx rfl (hb hby at_47) ?_
        show Steps p.tables e below (s₁.setTop (mkF m 49 #[.val (.int p1), .val (.int p2), .val (.int p3), .val (.int p4), .val (.int p5), .val (.int p6), .val (.int (1 : Int32)), .val (.int ln), .val (.int (if (p5 &&& (1 : Int32)) = (0 : Int32) then ((p1).toInt8.toInt32) else (-17 : Int32))), .unset, .unset, .unset, .unset, .unset, .unset, .unset] [(.int (-69 : Int32))])) _
        refine XS.goto X0.here hx rfl (pc0 := 49) (pc' := 54) rfl (hb hby at_49) (by decide) (by decide) ?_
        show Steps p.tables e below (s₁.setTop (mkF m 54 #[.val (.int p1), .val (.int p2), .val (.int p3), .val (.int p4), .val (.int p5), .val (.int p6), .val (.int (1 : Int32)), .val (.int ln), .val (.int (if (p5 &&& (1 : Int32)) = (0 : Int32) then ((p1).toInt8.toInt32) else (-17 : Int32))), .unset, .unset, .unset, .unset, .unset, .unset, .unset] [(.int (-69 : Int32))])) _
        first | exact k | (simp only [if_neg hm25] at k; exact k)
    have pre_27 : ∀ t, Steps p.tables e below (s₁.setTop (mkF m 60 #[.val (.int p1), .val (.int p2), .val (.int p3), .val (.int p4), .val (.int p5), .val (.int p6), .val (.int (1 : Int32)), .val (.int ln), .val (.int (if (p5 &&& (1 : Int32)) = (0 : Int32) then ((p1).toInt8.toInt32) else (-17 : Int32))), .val (.int (if (p5 &&& (2 : Int32)) = (0 : Int32) then ((p2).toInt8.toInt32) else (-69 : Int32))), .unset, .unset, .unset, .unset, .unset, .unset] [(.int (p5 &&& (4 : Int32)))])) t → Steps p.tables e below (s₁.setTop (entryFrame m #[(.int p1), (.int p2), (.int p3), (.int p4), (.int p5), (.int p6)] maxLocals)) t := by
      intro t k
      refine pre_26 t ?_
      show Steps p.tables e below (s₁.setTop (mkF m 54 #[.val (.int p1), .val (.int p2), .val (.int p3), .val (.int p4), .val (.int p5), .val (.int p6), .val (.int (1 : Int32)), .val (.int ln), .val (.int (if (p5 &&& (1 : Int32)) = (0 : Int32) then ((p1).toInt8.toInt32) else (-17 : Int32))), .unset, .unset, .unset, .unset, .unset, .unset, .unset] [(.int (if (p5 &&& (2 : Int32)) = (0 : Int32) then ((p2).toInt8.toInt32) else (-69 : Int32)))])) _
      refine XS.istore X0.here hx rfl (hb hby at_54) rfl (l' := #[.val (.int p1), .val (.int p2), .val (.int p3), .val (.int p4), .val (.int p5), .val (.int p6), .val (.int (1 : Int32)), .val (.int ln), .val (.int (if (p5 &&& (1 : Int32)) = (0 : Int32) then ((p1).toInt8.toInt32) else (-17 : Int32))), .val (.int (if (p5 &&& (2 : Int32)) = (0 : Int32) then ((p2).toInt8.toInt32) else (-69 : Int32))), .unset, .unset, .unset, .unset, .unset, .unset]) rfl ?_
      show Steps p.tables e below (s₁.setTop (mkF m 56 #[.val (.int p1), .val (.int p2), .val (.int p3), .val (.int p4), .val (.int p5), .val (.int p6), .val (.int (1 : Int32)), .val (.int ln), .val (.int (if (p5 &&& (1 : Int32)) = (0 : Int32) then ((p1).toInt8.toInt32) else (-17 : Int32))), .val (.int (if (p5 &&& (2 : Int32)) = (0 : Int32) then ((p2).toInt8.toInt32) else (-69 : Int32))), .unset, .unset, .unset, .unset, .unset, .unset] [])) _
      refine XS.iload X0.here hx rfl (hb hby at_56) rfl ?_
      show Steps p.tables e below (s₁.setTop (mkF m 58 #[.val (.int p1), .val (.int p2), .val (.int p3), .val (.int p4), .val (.int p5), .val (.int p6), .val (.int (1 : Int32)), .val (.int ln), .val (.int (if (p5 &&& (1 : Int32)) = (0 : Int32) then ((p1).toInt8.toInt32) else (-17 : Int32))), .val (.int (if (p5 &&& (2 : Int32)) = (0 : Int32) then ((p2).toInt8.toInt32) else (-69 : Int32))), .unset, .unset, .unset, .unset, .unset, .unset] [(.int p5)])) _
      refine XS.iconst X0.here hx rfl (hb hby at_58) ?_
      show Steps p.tables e below (s₁.setTop (mkF m 59 #[.val (.int p1), .val (.int p2), .val (.int p3), .val (.int p4), .val (.int p5), .val (.int p6), .val (.int (1 : Int32)), .val (.int ln), .val (.int (if (p5 &&& (1 : Int32)) = (0 : Int32) then ((p1).toInt8.toInt32) else (-17 : Int32))), .val (.int (if (p5 &&& (2 : Int32)) = (0 : Int32) then ((p2).toInt8.toInt32) else (-69 : Int32))), .unset, .unset, .unset, .unset, .unset, .unset] [(.int (4 : Int32)), (.int p5)])) _
      refine XS.iand X0.here hx rfl (hb hby at_59) rfl ?_
      show Steps p.tables e below (s₁.setTop (mkF m 60 #[.val (.int p1), .val (.int p2), .val (.int p3), .val (.int p4), .val (.int p5), .val (.int p6), .val (.int (1 : Int32)), .val (.int ln), .val (.int (if (p5 &&& (1 : Int32)) = (0 : Int32) then ((p1).toInt8.toInt32) else (-17 : Int32))), .val (.int (if (p5 &&& (2 : Int32)) = (0 : Int32) then ((p2).toInt8.toInt32) else (-69 : Int32))), .unset, .unset, .unset, .unset, .unset, .unset] [(.int (p5 &&& (4 : Int32)))])) _
      exact k
    have pre_29 : ∀ t, Steps p.tables e below (s₁.setTop (mkF m 70 #[.val (.int p1), .val (.int p2), .val (.int p3), .val (.int p4), .val (.int p5), .val (.int p6), .val (.int (1 : Int32)), .val (.int ln), .val (.int (if (p5 &&& (1 : Int32)) = (0 : Int32) then ((p1).toInt8.toInt32) else (-17 : Int32))), .val (.int (if (p5 &&& (2 : Int32)) = (0 : Int32) then ((p2).toInt8.toInt32) else (-69 : Int32))), .unset, .unset, .unset, .unset, .unset, .unset] [(.int (if (p5 &&& (4 : Int32)) = (0 : Int32) then ((p3).toInt8.toInt32) else (-65 : Int32)))])) t → Steps p.tables e below (s₁.setTop (entryFrame m #[(.int p1), (.int p2), (.int p3), (.int p4), (.int p5), (.int p6)] maxLocals)) t := by
      intro t k
      refine pre_27 t ?_
      by_cases hm28 : (p5 &&& (4 : Int32)) = (0 : Int32)
      · skip
        show Steps p.tables e below (s₁.setTop (mkF m 60 #[.val (.int p1), .val (.int p2), .val (.int p3), .val (.int p4), .val (.int p5), .val (.int p6), .val (.int (1 : Int32)), .val (.int ln), .val (.int (if (p5 &&& (1 : Int32)) = (0 : Int32) then ((p1).toInt8.toInt32) else (-17 : Int32))), .val (.int (if (p5 &&& (2 : Int32)) = (0 : Int32) then ((p2).toInt8.toInt32) else (-69 : Int32))), .unset, .unset, .unset, .unset, .unset, .unset] [(.int (p5 &&& (4 : Int32)))])) _
        refine XS.ifYes X0.here hx rfl (pc0 := 60) (pc' := 68) rfl (hb hby at_60) rfl (XT.i0_eq_t hm28) (by decide) (by decide) ?_
        show Steps p.tables e below (s₁.setTop (mkF m 68 #[.val (.int p1), .val (.int p2), .val (.int p3), .val (.int p4), .val (.int p5), .val (.int p6), .val (.int (1 : Int32)), .val (.int ln), .val (.int (if (p5 &&& (1 : Int32)) = (0 : Int32) then ((p1).toInt8.toInt32) else (-17 : Int32))), .val (.int (if (p5 &&& (2 : Int32)) = (0 : Int32) then ((p2).toInt8.toInt32) else (-69 : Int32))), .unset, .unset, .unset, .unset, .unset, .unset] [])) _
        refine XS.iloadN X0.here hx rfl (hb hby at_68) rfl ?_
        show Steps p.tables e below (s₁.setTop (mkF m 69 #[.val (.int p1), .val (.int p2), .val (.int p3), .val (.int p4), .val (.int p5), .val (.int p6), .val (.int (1 : Int32)), .val (.int ln), .val (.int (if (p5 &&& (1 : Int32)) = (0 : Int32) then ((p1).toInt8.toInt32) else (-17 : Int32))), .val (.int (if (p5 &&& (2 : Int32)) = (0 : Int32) then ((p2).toInt8.toInt32) else (-69 : Int32))), .unset, .unset, .unset, .unset, .unset, .unset] [(.int p3)])) _
        refine XT.i2b X0.here hx rfl (hb hby at_69) rfl ?_
        show Steps p.tables e below (s₁.setTop (mkF m 70 #[.val (.int p1), .val (.int p2), .val (.int p3), .val (.int p4), .val (.int p5), .val (.int p6), .val (.int (1 : Int32)), .val (.int ln), .val (.int (if (p5 &&& (1 : Int32)) = (0 : Int32) then ((p1).toInt8.toInt32) else (-17 : Int32))), .val (.int (if (p5 &&& (2 : Int32)) = (0 : Int32) then ((p2).toInt8.toInt32) else (-69 : Int32))), .unset, .unset, .unset, .unset, .unset, .unset] [(.int ((p3).toInt8.toInt32))])) _
        first | exact k | (simp only [if_pos hm28] at k; exact k)
      · skip
        show Steps p.tables e below (s₁.setTop (mkF m 60 #[.val (.int p1), .val (.int p2), .val (.int p3), .val (.int p4), .val (.int p5), .val (.int p6), .val (.int (1 : Int32)), .val (.int ln), .val (.int (if (p5 &&& (1 : Int32)) = (0 : Int32) then ((p1).toInt8.toInt32) else (-17 : Int32))), .val (.int (if (p5 &&& (2 : Int32)) = (0 : Int32) then ((p2).toInt8.toInt32) else (-69 : Int32))), .unset, .unset, .unset, .unset, .unset, .unset] [(.int (p5 &&& (4 : Int32)))])) _
        refine XS.ifNo X0.here hx rfl (hb hby at_60) rfl (XT.i0_eq_f hm28) ?_
        show Steps p.tables e below (s₁.setTop (mkF m 63 #[.val (.int p1), .val (.int p2), .val (.int p3), .val (.int p4), .val (.int p5), .val (.int p6), .val (.int (1 : Int32)), .val (.int ln), .val (.int (if (p5 &&& (1 : Int32)) = (0 : Int32) then ((p1).toInt8.toInt32) else (-17 : Int32))), .val (.int (if (p5 &&& (2 : Int32)) = (0 : Int32) then ((p2).toInt8.toInt32) else (-69 : Int32))), .unset, .unset, .unset, .unset, .unset, .unset] [])) _
        refine XS.bipush X0.here hx rfl (hb hby at_63) ?_
        show Steps p.tables e below (s₁.setTop (mkF m 65 #[.val (.int p1), .val (.int p2), .val (.int p3), .val (.int p4), .val (.int p5), .val (.int p6), .val (.int (1 : Int32)), .val (.int ln), .val (.int (if (p5 &&& (1 : Int32)) = (0 : Int32) then ((p1).toInt8.toInt32) else (-17 : Int32))), .val (.int (if (p5 &&& (2 : Int32)) = (0 : Int32) then ((p2).toInt8.toInt32) else (-69 : Int32))), .unset, .unset, .unset, .unset, .unset, .unset] [(.int (-65 : Int32))])) _
        refine XS.goto X0.here hx rfl (pc0 := 65) (pc' := 70) rfl (hb hby at_65) (by decide) (by decide) ?_
        show Steps p.tables e below (s₁.setTop (mkF m 70 #[.val (.int p1), .val (.int p2), .val (.int p3), .val (.int p4), .val (.int p5), .val (.int p6), .val (.int (1 : Int32)), .val (.int ln), .val (.int (if (p5 &&& (1 : Int32)) = (0 : Int32) then ((p1).toInt8.toInt32) else (-17 : Int32))), .val (.int (if (p5 &&& (2 : Int32)) = (0 : Int32) then ((p2).toInt8.toInt32) else (-69 : Int32))), .unset, .unset, .unset, .unset, .unset, .unset] [(.int (-65 : Int32))])) _
        first | exact k | (simp only [if_neg hm28] at k; exact k)
    have pre_30 : ∀ t, Steps p.tables e below (s₁.setTop (mkF m 83 #[.val (.int p1), .val (.int p2), .val (.int p3), .val (.int p4), .val (.int p5), .val (.int p6), .val (.int (1 : Int32)), .val (.int ln), .val (.int (if (p5 &&& (1 : Int32)) = (0 : Int32) then ((p1).toInt8.toInt32) else (-17 : Int32))), .val (.int (if (p5 &&& (2 : Int32)) = (0 : Int32) then ((p2).toInt8.toInt32) else (-69 : Int32))), .val (.int (if (p5 &&& (4 : Int32)) = (0 : Int32) then ((p3).toInt8.toInt32) else (-65 : Int32))), .val (.int ((p4).toInt8.toInt32)), .val (.int (((p4 >>> ((8 : Int32) &&& 31))).toInt8.toInt32)), .unset, .unset, .unset] [])) t → Steps p.tables e below (s₁.setTop (entryFrame m #[(.int p1), (.int p2), (.int p3), (.int p4), (.int p5), (.int p6)] maxLocals)) t := by
      intro t k
      refine pre_29 t ?_
      show Steps p.tables e below (s₁.setTop (mkF m 70 #[.val (.int p1), .val (.int p2), .val (.int p3), .val (.int p4), .val (.int p5), .val (.int p6), .val (.int (1 : Int32)), .val (.int ln), .val (.int (if (p5 &&& (1 : Int32)) = (0 : Int32) then ((p1).toInt8.toInt32) else (-17 : Int32))), .val (.int (if (p5 &&& (2 : Int32)) = (0 : Int32) then ((p2).toInt8.toInt32) else (-69 : Int32))), .unset, .unset, .unset, .unset, .unset, .unset] [(.int (if (p5 &&& (4 : Int32)) = (0 : Int32) then ((p3).toInt8.toInt32) else (-65 : Int32)))])) _
      refine XS.istore X0.here hx rfl (hb hby at_70) rfl (l' := #[.val (.int p1), .val (.int p2), .val (.int p3), .val (.int p4), .val (.int p5), .val (.int p6), .val (.int (1 : Int32)), .val (.int ln), .val (.int (if (p5 &&& (1 : Int32)) = (0 : Int32) then ((p1).toInt8.toInt32) else (-17 : Int32))), .val (.int (if (p5 &&& (2 : Int32)) = (0 : Int32) then ((p2).toInt8.toInt32) else (-69 : Int32))), .val (.int (if (p5 &&& (4 : Int32)) = (0 : Int32) then ((p3).toInt8.toInt32) else (-65 : Int32))), .unset, .unset, .unset, .unset, .unset]) rfl ?_
      show Steps p.tables e below (s₁.setTop (mkF m 72 #[.val (.int p1), .val (.int p2), .val (.int p3), .val (.int p4), .val (.int p5), .val (.int p6), .val (.int (1 : Int32)), .val (.int ln), .val (.int (if (p5 &&& (1 : Int32)) = (0 : Int32) then ((p1).toInt8.toInt32) else (-17 : Int32))), .val (.int (if (p5 &&& (2 : Int32)) = (0 : Int32) then ((p2).toInt8.toInt32) else (-69 : Int32))), .val (.int (if (p5 &&& (4 : Int32)) = (0 : Int32) then ((p3).toInt8.toInt32) else (-65 : Int32))), .unset, .unset, .unset, .unset, .unset] [])) _
      refine XS.iloadN X0.here hx rfl (hb hby at_72) rfl ?_
      show Steps p.tables e below (s₁.setTop (mkF m 73 #[.val (.int p1), .val (.int p2), .val (.int p3), .val (.int p4), .val (.int p5), .val (.int p6), .val (.int (1 : Int32)), .val (.int ln), .val (.int (if (p5 &&& (1 : Int32)) = (0 : Int32) then ((p1).toInt8.toInt32) else (-17 : Int32))), .val (.int (if (p5 &&& (2 : Int32)) = (0 : Int32) then ((p2).toInt8.toInt32) else (-69 : Int32))), .val (.int (if (p5 &&& (4 : Int32)) = (0 : Int32) then ((p3).toInt8.toInt32) else (-65 : Int32))), .unset, .unset, .unset, .unset, .unset] [(.int p4)])) _
      refine XT.i2b X0.here hx rfl (hb hby at_73) rfl ?_
      show Steps p.tables e below (s₁.setTop (mkF m 74 #[.val (.int p1), .val (.int p2), .val (.int p3), .val (.int p4), .val (.int p5), .val (.int p6), .val (.int (1 : Int32)), .val (.int ln), .val (.int (if (p5 &&& (1 : Int32)) = (0 : Int32) then ((p1).toInt8.toInt32) else (-17 : Int32))), .val (.int (if (p5 &&& (2 : Int32)) = (0 : Int32) then ((p2).toInt8.toInt32) else (-69 : Int32))), .val (.int (if (p5 &&& (4 : Int32)) = (0 : Int32) then ((p3).toInt8.toInt32) else (-65 : Int32))), .unset, .unset, .unset, .unset, .unset] [(.int ((p4).toInt8.toInt32))])) _
      refine XS.istore X0.here hx rfl (hb hby at_74) rfl (l' := #[.val (.int p1), .val (.int p2), .val (.int p3), .val (.int p4), .val (.int p5), .val (.int p6), .val (.int (1 : Int32)), .val (.int ln), .val (.int (if (p5 &&& (1 : Int32)) = (0 : Int32) then ((p1).toInt8.toInt32) else (-17 : Int32))), .val (.int (if (p5 &&& (2 : Int32)) = (0 : Int32) then ((p2).toInt8.toInt32) else (-69 : Int32))), .val (.int (if (p5 &&& (4 : Int32)) = (0 : Int32) then ((p3).toInt8.toInt32) else (-65 : Int32))), .val (.int ((p4).toInt8.toInt32)), .unset, .unset, .unset, .unset]) rfl ?_
      show Steps p.tables e below (s₁.setTop (mkF m 76 #[.val (.int p1), .val (.int p2), .val (.int p3), .val (.int p4), .val (.int p5), .val (.int p6), .val (.int (1 : Int32)), .val (.int ln), .val (.int (if (p5 &&& (1 : Int32)) = (0 : Int32) then ((p1).toInt8.toInt32) else (-17 : Int32))), .val (.int (if (p5 &&& (2 : Int32)) = (0 : Int32) then ((p2).toInt8.toInt32) else (-69 : Int32))), .val (.int (if (p5 &&& (4 : Int32)) = (0 : Int32) then ((p3).toInt8.toInt32) else (-65 : Int32))), .val (.int ((p4).toInt8.toInt32)), .unset, .unset, .unset, .unset] [])) _
      refine XS.iloadN X0.here hx rfl (hb hby at_76) rfl ?_
      show Steps p.tables e below (s₁.setTop (mkF m 77 #[.val (.int p1), .val (.int p2), .val (.int p3), .val (.int p4), .val (.int p5), .val (.int p6), .val (.int (1 : Int32)), .val (.int ln), .val (.int (if (p5 &&& (1 : Int32)) = (0 : Int32) then ((p1).toInt8.toInt32) else (-17 : Int32))), .val (.int (if (p5 &&& (2 : Int32)) = (0 : Int32) then ((p2).toInt8.toInt32) else (-69 : Int32))), .val (.int (if (p5 &&& (4 : Int32)) = (0 : Int32) then ((p3).toInt8.toInt32) else (-65 : Int32))), .val (.int ((p4).toInt8.toInt32)), .unset, .unset, .unset, .unset] [(.int p4)])) _
      refine XS.bipush X0.here hx rfl (hb hby at_77) ?_
      show Steps p.tables e below (s₁.setTop (mkF m 79 #[.val (.int p1), .val (.int p2), .val (.int p3), .val (.int p4), .val (.int p5), .val (.int p6), .val (.int (1 : Int32)), .val (.int ln), .val (.int (if (p5 &&& (1 : Int32)) = (0 : Int32) then ((p1).toInt8.toInt32) else (-17 : Int32))), .val (.int (if (p5 &&& (2 : Int32)) = (0 : Int32) then ((p2).toInt8.toInt32) else (-69 : Int32))), .val (.int (if (p5 &&& (4 : Int32)) = (0 : Int32) then ((p3).toInt8.toInt32) else (-65 : Int32))), .val (.int ((p4).toInt8.toInt32)), .unset, .unset, .unset, .unset] [(.int (8 : Int32)), (.int p4)])) _
      refine XT.ishr X0.here hx rfl (hb hby at_79) rfl ?_
      show Steps p.tables e below (s₁.setTop (mkF m 80 #[.val (.int p1), .val (.int p2), .val (.int p3), .val (.int p4), .val (.int p5), .val (.int p6), .val (.int (1 : Int32)), .val (.int ln), .val (.int (if (p5 &&& (1 : Int32)) = (0 : Int32) then ((p1).toInt8.toInt32) else (-17 : Int32))), .val (.int (if (p5 &&& (2 : Int32)) = (0 : Int32) then ((p2).toInt8.toInt32) else (-69 : Int32))), .val (.int (if (p5 &&& (4 : Int32)) = (0 : Int32) then ((p3).toInt8.toInt32) else (-65 : Int32))), .val (.int ((p4).toInt8.toInt32)), .unset, .unset, .unset, .unset] [(.int (p4 >>> ((8 : Int32) &&& 31)))])) _
      refine XT.i2b X0.here hx rfl (hb hby at_80) rfl ?_
      show Steps p.tables e below (s₁.setTop (mkF m 81 #[.val (.int p1), .val (.int p2), .val (.int p3), .val (.int p4), .val (.int p5), .val (.int p6), .val (.int (1 : Int32)), .val (.int ln), .val (.int (if (p5 &&& (1 : Int32)) = (0 : Int32) then ((p1).toInt8.toInt32) else (-17 : Int32))), .val (.int (if (p5 &&& (2 : Int32)) = (0 : Int32) then ((p2).toInt8.toInt32) else (-69 : Int32))), .val (.int (if (p5 &&& (4 : Int32)) = (0 : Int32) then ((p3).toInt8.toInt32) else (-65 : Int32))), .val (.int ((p4).toInt8.toInt32)), .unset, .unset, .unset, .unset] [(.int (((p4 >>> ((8 : Int32) &&& 31))).toInt8.toInt32))])) _
      refine XS.istore X0.here hx rfl (hb hby at_81) rfl (l' := #[.val (.int p1), .val (.int p2), .val (.int p3), .val (.int p4), .val (.int p5), .val (.int p6), .val (.int (1 : Int32)), .val (.int ln), .val (.int (if (p5 &&& (1 : Int32)) = (0 : Int32) then ((p1).toInt8.toInt32) else (-17 : Int32))), .val (.int (if (p5 &&& (2 : Int32)) = (0 : Int32) then ((p2).toInt8.toInt32) else (-69 : Int32))), .val (.int (if (p5 &&& (4 : Int32)) = (0 : Int32) then ((p3).toInt8.toInt32) else (-65 : Int32))), .val (.int ((p4).toInt8.toInt32)), .val (.int (((p4 >>> ((8 : Int32) &&& 31))).toInt8.toInt32)), .unset, .unset, .unset]) rfl ?_
      show Steps p.tables e below (s₁.setTop (mkF m 83 #[.val (.int p1), .val (.int p2), .val (.int p3), .val (.int p4), .val (.int p5), .val (.int p6), .val (.int (1 : Int32)), .val (.int ln), .val (.int (if (p5 &&& (1 : Int32)) = (0 : Int32) then ((p1).toInt8.toInt32) else (-17 : Int32))), .val (.int (if (p5 &&& (2 : Int32)) = (0 : Int32) then ((p2).toInt8.toInt32) else (-69 : Int32))), .val (.int (if (p5 &&& (4 : Int32)) = (0 : Int32) then ((p3).toInt8.toInt32) else (-65 : Int32))), .val (.int ((p4).toInt8.toInt32)), .val (.int (((p4 >>> ((8 : Int32) &&& 31))).toInt8.toInt32)), .unset, .unset, .unset] [])) _
      exact k
    have hb0 : nar .byte (if (p5 &&& (1 : Int32)) = (0 : Int32) then ((p1).toInt8.toInt32) else (-17 : Int32)) = (if (p5 &&& (1 : Int32)) = (0 : Int32) then ((p1).toInt8.toInt32) else (-17 : Int32)) := by exact own_nbi _ _ _ (by decide)
    generalize (if (p5 &&& (1 : Int32)) = (0 : Int32) then ((p1).toInt8.toInt32) else (-17 : Int32)) = b0 at pre_30 hb0
    have hb1 : nar .byte (if (p5 &&& (2 : Int32)) = (0 : Int32) then ((p2).toInt8.toInt32) else (-69 : Int32)) = (if (p5 &&& (2 : Int32)) = (0 : Int32) then ((p2).toInt8.toInt32) else (-69 : Int32)) := by exact own_nbi _ _ _ (by decide)
    generalize (if (p5 &&& (2 : Int32)) = (0 : Int32) then ((p2).toInt8.toInt32) else (-69 : Int32)) = b1 at pre_30 hb1
    have hb2 : nar .byte (if (p5 &&& (4 : Int32)) = (0 : Int32) then ((p3).toInt8.toInt32) else (-65 : Int32)) = (if (p5 &&& (4 : Int32)) = (0 : Int32) then ((p3).toInt8.toInt32) else (-65 : Int32)) := by exact own_nbi _ _ _ (by decide)
    generalize (if (p5 &&& (4 : Int32)) = (0 : Int32) then ((p3).toInt8.toInt32) else (-65 : Int32)) = b2 at pre_30 hb2
    have hb3 : nar .byte ((p4).toInt8.toInt32) = ((p4).toInt8.toInt32) := by exact own_nb _
    generalize ((p4).toInt8.toInt32) = b3 at pre_30 hb3
    have hb4 : nar .byte (((p4 >>> ((8 : Int32) &&& 31))).toInt8.toInt32) = (((p4 >>> ((8 : Int32) &&& 31))).toInt8.toInt32) := by exact own_nb _
    generalize (((p4 >>> ((8 : Int32) &&& 31))).toInt8.toInt32) = b4 at pre_30 hb4
    have pre_31 : ∀ t, Steps p.tables e below (s₁.setTop (mkF m 85 #[.val (.int p1), .val (.int p2), .val (.int p3), .val (.int p4), .val (.int p5), .val (.int p6), .val (.int (1 : Int32)), .val (.int ln), .val (.int b0), .val (.int b1), .val (.int b2), .val (.int b3), .val (.int b4), .unset, .unset, .unset] [(.int (1 : Int32))])) t → Steps p.tables e below (s₁.setTop (entryFrame m #[(.int p1), (.int p2), (.int p3), (.int p4), (.int p5), (.int p6)] maxLocals)) t := by
      intro t k
      refine pre_30 t ?_
      show Steps p.tables e below (s₁.setTop (mkF m 83 #[.val (.int p1), .val (.int p2), .val (.int p3), .val (.int p4), .val (.int p5), .val (.int p6), .val (.int (1 : Int32)), .val (.int ln), .val (.int b0), .val (.int b1), .val (.int b2), .val (.int b3), .val (.int b4), .unset, .unset, .unset] [])) _
      refine XS.iload X0.here hx rfl (hb hby at_83) rfl ?_
      show Steps p.tables e below (s₁.setTop (mkF m 85 #[.val (.int p1), .val (.int p2), .val (.int p3), .val (.int p4), .val (.int p5), .val (.int p6), .val (.int (1 : Int32)), .val (.int ln), .val (.int b0), .val (.int b1), .val (.int b2), .val (.int b3), .val (.int b4), .unset, .unset, .unset] [(.int (1 : Int32))])) _
      exact k
    obtain ⟨_, _, ⟨T32, L32, k32, n32⟩, -, X32, ⟨Lc32, hQ32, l32, y32, z32⟩, st32⟩ := Jvm.LawKit.callS X0 hx (y := (⟨"com/example/tranche/tranche/TextFileTextStartPinLaw", "make", "(I)[B"⟩ : MethodName)) hown (mvT hZ (hw _ (List.mem_of_getElem? (i := 1) rfl))) (mvT hZ (hw _ (List.mem_of_getElem? (i := 2) rfl))) (mvT hZ (hw _ (List.mem_of_getElem? (i := 3) rfl))) (mvT hZ (hw _ (List.mem_of_getElem? (i := 4) rfl))) (by decide) (backOf (W := 0) (rm_make1 l Z a0 hw [] h0 n0 O0) hZ (hw _ (List.mem_of_getElem? (i := 4) rfl)) (hw _ (List.mem_of_getElem? (i := 3) rfl)) (by decide) (by decide)) (g := (mkF m 85 #[.val (.int p1), .val (.int p2), .val (.int p3), .val (.int p4), .val (.int p5), .val (.int p6), .val (.int (1 : Int32)), .val (.int ln), .val (.int b0), .val (.int b1), .val (.int b2), .val (.int b3), .val (.int b4), .unset, .unset, .unset] [(.int (1 : Int32))])) rfl (by rw [hml]; rfl) (argsL := [(.int (1 : Int32))]) (rest := []) (lenOf pd_law_0 rfl) rfl (by show 2 * 0 + _ ≤ _; exact Nat.le_of_eq rfl) (hb hby at_85) (fun _ _ => ⟨rfl, e0, (by decide : 0 + 1 ≤ _), (by decide : 0 + 1 ≤ _)⟩)
    dsimp only [Pt.U, Pt.locs, Pt.cells, Pt.slots] at X32 l32 y32 z32 st32 hQ32
    subst l32 y32 z32
    obtain ⟨m32, cA32, rfl, N32q, K32, gm32, Vm32⟩ := hQ32
    have N32 := Fr.app N0 N32q
    have O32 : Old Z n0 T32.heap := O0.keep K32 all0
    have pre_33 : ∀ t, Steps p.tables e below (T32.setTop (mkF m 88 #[.val (.int p1), .val (.int p2), .val (.int p3), .val (.int p4), .val (.int p5), .val (.int p6), .val (.int (1 : Int32)), .val (.int ln), .val (.int b0), .val (.int b1), .val (.int b2), .val (.int b3), .val (.int b4), .unset, .unset, .unset] [(.ref m32)])) t → Steps p.tables e below (s₁.setTop (entryFrame m #[(.int p1), (.int p2), (.int p3), (.int p4), (.int p5), (.int p6)] maxLocals)) t := fun t k => pre_31 t (st32 t k)
    have pre_34 : ∀ t, Steps p.tables e below (T32.setTop (mkF m 100 #[.val (.int p1), .val (.int p2), .val (.int p3), .val (.int p4), .val (.int p5), .val (.int p6), .val (.int (1 : Int32)), .val (.int ln), .val (.int b0), .val (.int b1), .val (.int b2), .val (.int b3), .val (.int b4), .val (.ref m32), .unset, .unset] [(.int b0), (.int (0 : Int32)), (.ref m32)])) t → Steps p.tables e below (s₁.setTop (entryFrame m #[(.int p1), (.int p2), (.int p3), (.int p4), (.int p5), (.int p6)] maxLocals)) t := by
      intro t k
      refine pre_33 t ?_
      show Steps p.tables e below (T32.setTop (mkF m 88 #[.val (.int p1), .val (.int p2), .val (.int p3), .val (.int p4), .val (.int p5), .val (.int p6), .val (.int (1 : Int32)), .val (.int ln), .val (.int b0), .val (.int b1), .val (.int b2), .val (.int b3), .val (.int b4), .unset, .unset, .unset] [(.ref m32)])) _
      refine XS.astore X32.here hx rfl (hb hby at_88) rfl rfl (l' := #[.val (.int p1), .val (.int p2), .val (.int p3), .val (.int p4), .val (.int p5), .val (.int p6), .val (.int (1 : Int32)), .val (.int ln), .val (.int b0), .val (.int b1), .val (.int b2), .val (.int b3), .val (.int b4), .val (.ref m32), .unset, .unset]) rfl ?_
      show Steps p.tables e below (T32.setTop (mkF m 90 #[.val (.int p1), .val (.int p2), .val (.int p3), .val (.int p4), .val (.int p5), .val (.int p6), .val (.int (1 : Int32)), .val (.int ln), .val (.int b0), .val (.int b1), .val (.int b2), .val (.int b3), .val (.int b4), .val (.ref m32), .unset, .unset] [])) _
      refine XS.iload X32.here hx rfl (hb hby at_90) rfl ?_
      show Steps p.tables e below (T32.setTop (mkF m 92 #[.val (.int p1), .val (.int p2), .val (.int p3), .val (.int p4), .val (.int p5), .val (.int p6), .val (.int (1 : Int32)), .val (.int ln), .val (.int b0), .val (.int b1), .val (.int b2), .val (.int b3), .val (.int b4), .val (.ref m32), .unset, .unset] [(.int (1 : Int32))])) _
      refine XS.ifNo X32.here hx rfl (hb hby at_92) rfl (XT.i0_le_f (by decide)) ?_
      show Steps p.tables e below (T32.setTop (mkF m 95 #[.val (.int p1), .val (.int p2), .val (.int p3), .val (.int p4), .val (.int p5), .val (.int p6), .val (.int (1 : Int32)), .val (.int ln), .val (.int b0), .val (.int b1), .val (.int b2), .val (.int b3), .val (.int b4), .val (.ref m32), .unset, .unset] [])) _
      refine XS.aload X32.here hx rfl (hb hby at_95) rfl rfl ?_
      show Steps p.tables e below (T32.setTop (mkF m 97 #[.val (.int p1), .val (.int p2), .val (.int p3), .val (.int p4), .val (.int p5), .val (.int p6), .val (.int (1 : Int32)), .val (.int ln), .val (.int b0), .val (.int b1), .val (.int b2), .val (.int b3), .val (.int b4), .val (.ref m32), .unset, .unset] [(.ref m32)])) _
      refine XS.iconst X32.here hx rfl (hb hby at_97) ?_
      show Steps p.tables e below (T32.setTop (mkF m 98 #[.val (.int p1), .val (.int p2), .val (.int p3), .val (.int p4), .val (.int p5), .val (.int p6), .val (.int (1 : Int32)), .val (.int ln), .val (.int b0), .val (.int b1), .val (.int b2), .val (.int b3), .val (.int b4), .val (.ref m32), .unset, .unset] [(.int (0 : Int32)), (.ref m32)])) _
      refine XS.iload X32.here hx rfl (hb hby at_98) rfl ?_
      show Steps p.tables e below (T32.setTop (mkF m 100 #[.val (.int p1), .val (.int p2), .val (.int p3), .val (.int p4), .val (.int p5), .val (.int p6), .val (.int (1 : Int32)), .val (.int ln), .val (.int b0), .val (.int b1), .val (.int b2), .val (.int b3), .val (.int b4), .val (.ref m32), .unset, .unset] [(.int b0), (.int (0 : Int32)), (.ref m32)])) _
      exact k
    obtain ⟨cl35, Ar35, q35, S35, M35, H35, G35⟩ := id Vm32
    obtain ⟨T35, h35, X35, e35, W35, st35⟩ := stB X32 hx hZ rfl Ar35 (j := (0 : Int32)) (inb_of S35 (by decide)) (g := (mkF m 100 #[.val (.int p1), .val (.int p2), .val (.int p3), .val (.int p4), .val (.int p5), .val (.int p6), .val (.int (1 : Int32)), .val (.int ln), .val (.int b0), .val (.int b1), .val (.int b2), .val (.int b3), .val (.int b4), .val (.ref m32), .unset, .unset] [(.int b0), (.int (0 : Int32)), (.ref m32)])) rfl rfl (hb hby at_100)
    have N35 := Fr.snoc X35 N32 gm32
    have O35 : Old Z n0 h35 := O32.wr W35 gm32
    rw [hb0] at W35
    have V35 : Arv Z h35 m32 cA32 .byte (1 : Int32) [(.int b0)] (.int (0 : Int32)) := Arv.set Ar35 q35 S35 M35 H35 G35 (by rw [← hb0]; exact (fits_nar_byte _)) W35 0 rfl (Nat.le_of_ble_eq_true rfl)
    have pre_36 : ∀ t, Steps p.tables e below (T35.setTop (mkF m 101 #[.val (.int p1), .val (.int p2), .val (.int p3), .val (.int p4), .val (.int p5), .val (.int p6), .val (.int (1 : Int32)), .val (.int ln), .val (.int b0), .val (.int b1), .val (.int b2), .val (.int b3), .val (.int b4), .val (.ref m32), .unset, .unset] [])) t → Steps p.tables e below (s₁.setTop (entryFrame m #[(.int p1), (.int p2), (.int p3), (.int p4), (.int p5), (.int p6)] maxLocals)) t := fun t k => pre_34 t (st35 t k)
    have pre_37 : ∀ t, Steps p.tables e below (T35.setTop (mkF m 186 #[.val (.int p1), .val (.int p2), .val (.int p3), .val (.int p4), .val (.int p5), .val (.int p6), .val (.int (1 : Int32)), .val (.int ln), .val (.int b0), .val (.int b1), .val (.int b2), .val (.int b3), .val (.int b4), .val (.ref m32), .val (.int (0 : Int32)), .unset] [(.int ln), (.ref m32)])) t → Steps p.tables e below (s₁.setTop (entryFrame m #[(.int p1), (.int p2), (.int p3), (.int p4), (.int p5), (.int p6)] maxLocals)) t := by
      intro t k
      refine pre_36 t ?_
      show Steps p.tables e below (T35.setTop (mkF m 101 #[.val (.int p1), .val (.int p2), .val (.int p3), .val (.int p4), .val (.int p5), .val (.int p6), .val (.int (1 : Int32)), .val (.int ln), .val (.int b0), .val (.int b1), .val (.int b2), .val (.int b3), .val (.int b4), .val (.ref m32), .unset, .unset] [])) _
      refine XS.iload X35.here hx rfl (hb hby at_101) rfl ?_
      show Steps p.tables e below (T35.setTop (mkF m 103 #[.val (.int p1), .val (.int p2), .val (.int p3), .val (.int p4), .val (.int p5), .val (.int p6), .val (.int (1 : Int32)), .val (.int ln), .val (.int b0), .val (.int b1), .val (.int b2), .val (.int b3), .val (.int b4), .val (.ref m32), .unset, .unset] [(.int (1 : Int32))])) _
      refine XS.iconst X35.here hx rfl (hb hby at_103) ?_
      show Steps p.tables e below (T35.setTop (mkF m 104 #[.val (.int p1), .val (.int p2), .val (.int p3), .val (.int p4), .val (.int p5), .val (.int p6), .val (.int (1 : Int32)), .val (.int ln), .val (.int b0), .val (.int b1), .val (.int b2), .val (.int b3), .val (.int b4), .val (.ref m32), .unset, .unset] [(.int (1 : Int32)), (.int (1 : Int32))])) _
      refine XS.icmpYes X35.here hx rfl (pc0 := 104) (pc' := 113) rfl (hb hby at_104) rfl (XT.ii_le_t (by decide)) (by decide) (by decide) ?_
      show Steps p.tables e below (T35.setTop (mkF m 113 #[.val (.int p1), .val (.int p2), .val (.int p3), .val (.int p4), .val (.int p5), .val (.int p6), .val (.int (1 : Int32)), .val (.int ln), .val (.int b0), .val (.int b1), .val (.int b2), .val (.int b3), .val (.int b4), .val (.ref m32), .unset, .unset] [])) _
      refine XS.iload X35.here hx rfl (hb hby at_113) rfl ?_
      show Steps p.tables e below (T35.setTop (mkF m 115 #[.val (.int p1), .val (.int p2), .val (.int p3), .val (.int p4), .val (.int p5), .val (.int p6), .val (.int (1 : Int32)), .val (.int ln), .val (.int b0), .val (.int b1), .val (.int b2), .val (.int b3), .val (.int b4), .val (.ref m32), .unset, .unset] [(.int (1 : Int32))])) _
      refine XS.iconst X35.here hx rfl (hb hby at_115) ?_
      show Steps p.tables e below (T35.setTop (mkF m 116 #[.val (.int p1), .val (.int p2), .val (.int p3), .val (.int p4), .val (.int p5), .val (.int p6), .val (.int (1 : Int32)), .val (.int ln), .val (.int b0), .val (.int b1), .val (.int b2), .val (.int b3), .val (.int b4), .val (.ref m32), .unset, .unset] [(.int (2 : Int32)), (.int (1 : Int32))])) _
      refine XS.icmpYes X35.here hx rfl (pc0 := 116) (pc' := 125) rfl (hb hby at_116) rfl (XT.ii_le_t (by decide)) (by decide) (by decide) ?_
      show Steps p.tables e below (T35.setTop (mkF m 125 #[.val (.int p1), .val (.int p2), .val (.int p3), .val (.int p4), .val (.int p5), .val (.int p6), .val (.int (1 : Int32)), .val (.int ln), .val (.int b0), .val (.int b1), .val (.int b2), .val (.int b3), .val (.int b4), .val (.ref m32), .unset, .unset] [])) _
      refine XS.iload X35.here hx rfl (hb hby at_125) rfl ?_
      show Steps p.tables e below (T35.setTop (mkF m 127 #[.val (.int p1), .val (.int p2), .val (.int p3), .val (.int p4), .val (.int p5), .val (.int p6), .val (.int (1 : Int32)), .val (.int ln), .val (.int b0), .val (.int b1), .val (.int b2), .val (.int b3), .val (.int b4), .val (.ref m32), .unset, .unset] [(.int (1 : Int32))])) _
      refine XS.iconst X35.here hx rfl (hb hby at_127) ?_
      show Steps p.tables e below (T35.setTop (mkF m 128 #[.val (.int p1), .val (.int p2), .val (.int p3), .val (.int p4), .val (.int p5), .val (.int p6), .val (.int (1 : Int32)), .val (.int ln), .val (.int b0), .val (.int b1), .val (.int b2), .val (.int b3), .val (.int b4), .val (.ref m32), .unset, .unset] [(.int (3 : Int32)), (.int (1 : Int32))])) _
      refine XS.icmpYes X35.here hx rfl (pc0 := 128) (pc' := 137) rfl (hb hby at_128) rfl (XT.ii_le_t (by decide)) (by decide) (by decide) ?_
      show Steps p.tables e below (T35.setTop (mkF m 137 #[.val (.int p1), .val (.int p2), .val (.int p3), .val (.int p4), .val (.int p5), .val (.int p6), .val (.int (1 : Int32)), .val (.int ln), .val (.int b0), .val (.int b1), .val (.int b2), .val (.int b3), .val (.int b4), .val (.ref m32), .unset, .unset] [])) _
      refine XS.iload X35.here hx rfl (hb hby at_137) rfl ?_
      show Steps p.tables e below (T35.setTop (mkF m 139 #[.val (.int p1), .val (.int p2), .val (.int p3), .val (.int p4), .val (.int p5), .val (.int p6), .val (.int (1 : Int32)), .val (.int ln), .val (.int b0), .val (.int b1), .val (.int b2), .val (.int b3), .val (.int b4), .val (.ref m32), .unset, .unset] [(.int (1 : Int32))])) _
      refine XS.iconst X35.here hx rfl (hb hby at_139) ?_
      show Steps p.tables e below (T35.setTop (mkF m 140 #[.val (.int p1), .val (.int p2), .val (.int p3), .val (.int p4), .val (.int p5), .val (.int p6), .val (.int (1 : Int32)), .val (.int ln), .val (.int b0), .val (.int b1), .val (.int b2), .val (.int b3), .val (.int b4), .val (.ref m32), .unset, .unset] [(.int (4 : Int32)), (.int (1 : Int32))])) _
      refine XS.icmpYes X35.here hx rfl (pc0 := 140) (pc' := 149) rfl (hb hby at_140) rfl (XT.ii_le_t (by decide)) (by decide) (by decide) ?_
      show Steps p.tables e below (T35.setTop (mkF m 149 #[.val (.int p1), .val (.int p2), .val (.int p3), .val (.int p4), .val (.int p5), .val (.int p6), .val (.int (1 : Int32)), .val (.int ln), .val (.int b0), .val (.int b1), .val (.int b2), .val (.int b3), .val (.int b4), .val (.ref m32), .unset, .unset] [])) _
      refine XS.iconst X35.here hx rfl (hb hby at_149) ?_
      show Steps p.tables e below (T35.setTop (mkF m 150 #[.val (.int p1), .val (.int p2), .val (.int p3), .val (.int p4), .val (.int p5), .val (.int p6), .val (.int (1 : Int32)), .val (.int ln), .val (.int b0), .val (.int b1), .val (.int b2), .val (.int b3), .val (.int b4), .val (.ref m32), .unset, .unset] [(.int (0 : Int32))])) _
      refine XS.istore X35.here hx rfl (hb hby at_150) rfl (l' := #[.val (.int p1), .val (.int p2), .val (.int p3), .val (.int p4), .val (.int p5), .val (.int p6), .val (.int (1 : Int32)), .val (.int ln), .val (.int b0), .val (.int b1), .val (.int b2), .val (.int b3), .val (.int b4), .val (.ref m32), .val (.int (0 : Int32)), .unset]) rfl ?_
      show Steps p.tables e below (T35.setTop (mkF m 152 #[.val (.int p1), .val (.int p2), .val (.int p3), .val (.int p4), .val (.int p5), .val (.int p6), .val (.int (1 : Int32)), .val (.int ln), .val (.int b0), .val (.int b1), .val (.int b2), .val (.int b3), .val (.int b4), .val (.ref m32), .val (.int (0 : Int32)), .unset] [])) _
      refine XS.iload X35.here hx rfl (hb hby at_152) rfl ?_
      show Steps p.tables e below (T35.setTop (mkF m 154 #[.val (.int p1), .val (.int p2), .val (.int p3), .val (.int p4), .val (.int p5), .val (.int p6), .val (.int (1 : Int32)), .val (.int ln), .val (.int b0), .val (.int b1), .val (.int b2), .val (.int b3), .val (.int b4), .val (.ref m32), .val (.int (0 : Int32)), .unset] [(.int ln)])) _
      refine XS.iconst X35.here hx rfl (hb hby at_154) ?_
      show Steps p.tables e below (T35.setTop (mkF m 155 #[.val (.int p1), .val (.int p2), .val (.int p3), .val (.int p4), .val (.int p5), .val (.int p6), .val (.int (1 : Int32)), .val (.int ln), .val (.int b0), .val (.int b1), .val (.int b2), .val (.int b3), .val (.int b4), .val (.ref m32), .val (.int (0 : Int32)), .unset] [(.int (3 : Int32)), (.int ln)])) _
      refine XS.icmpYes X35.here hx rfl (pc0 := 155) (pc' := 182) rfl (hb hby at_155) rfl (XT.ii_lt_t hln) (by decide) (by decide) ?_
      show Steps p.tables e below (T35.setTop (mkF m 182 #[.val (.int p1), .val (.int p2), .val (.int p3), .val (.int p4), .val (.int p5), .val (.int p6), .val (.int (1 : Int32)), .val (.int ln), .val (.int b0), .val (.int b1), .val (.int b2), .val (.int b3), .val (.int b4), .val (.ref m32), .val (.int (0 : Int32)), .unset] [])) _
      refine XS.aload X35.here hx rfl (hb hby at_182) rfl rfl ?_
      show Steps p.tables e below (T35.setTop (mkF m 184 #[.val (.int p1), .val (.int p2), .val (.int p3), .val (.int p4), .val (.int p5), .val (.int p6), .val (.int (1 : Int32)), .val (.int ln), .val (.int b0), .val (.int b1), .val (.int b2), .val (.int b3), .val (.int b4), .val (.ref m32), .val (.int (0 : Int32)), .unset] [(.ref m32)])) _
      refine XS.iload X35.here hx rfl (hb hby at_184) rfl ?_
      show Steps p.tables e below (T35.setTop (mkF m 186 #[.val (.int p1), .val (.int p2), .val (.int p3), .val (.int p4), .val (.int p5), .val (.int p6), .val (.int (1 : Int32)), .val (.int ln), .val (.int b0), .val (.int b1), .val (.int b2), .val (.int b3), .val (.int b4), .val (.ref m32), .val (.int (0 : Int32)), .unset] [(.int ln), (.ref m32)])) _
      exact k
    obtain ⟨_, _, ⟨T38, L38, k38, n38⟩, -, X38, ⟨Lc38, hQ38, l38, y38, z38⟩, st38⟩ := Jvm.LawKit.callS X35 hx (y := (⟨"com/example/tranche/tranche/TextFile", "textStart", "([BI)I"⟩ : MethodName)) hown (mvT hZ (hw _ (List.mem_of_getElem? (i := 6) rfl))) (mvT hZ (hw _ (List.mem_of_getElem? (i := 7) rfl))) (mvT hZ (hw _ (List.mem_of_getElem? (i := 8) rfl))) (mvT hZ (hw _ (List.mem_of_getElem? (i := 9) rfl))) (by decide) (backOf (W := 0) (rm_ts0 l Z a0 hw [] m32 ln aB kB h35 n0 O35 SB VB hln) hZ (hw _ (List.mem_of_getElem? (i := 9) rfl)) (hw _ (List.mem_of_getElem? (i := 8) rfl)) (by decide) (by decide)) (g := (mkF m 186 #[.val (.int p1), .val (.int p2), .val (.int p3), .val (.int p4), .val (.int p5), .val (.int p6), .val (.int (1 : Int32)), .val (.int ln), .val (.int b0), .val (.int b1), .val (.int b2), .val (.int b3), .val (.int b4), .val (.ref m32), .val (.int (0 : Int32)), .unset] [(.int ln), (.ref m32)])) rfl (by rw [hml]; rfl) (argsL := [(.ref m32), (.int ln)]) (rest := []) (lenOf pd_law_1 rfl) rfl (by show 2 * 0 + _ ≤ _; exact Nat.le_of_eq rfl) (hb hby at_186) (fun _ _ => ⟨rfl, e35, (by decide : 1 + 0 ≤ _), (by decide : 1 + 0 ≤ _)⟩)
    dsimp only [Pt.U, Pt.locs, Pt.cells, Pt.slots] at X38 l38 y38 z38 st38 hQ38
    subst l38 y38 z38
    obtain ⟨rfl, N38q, e38⟩ := hQ38
    have N38 := Fr.app N35 N38q
    have pre_39 : ∀ t, Steps p.tables e below (T38.setTop (mkF m 189 #[.val (.int p1), .val (.int p2), .val (.int p3), .val (.int p4), .val (.int p5), .val (.int p6), .val (.int (1 : Int32)), .val (.int ln), .val (.int b0), .val (.int b1), .val (.int b2), .val (.int b3), .val (.int b4), .val (.ref m32), .val (.int (0 : Int32)), .unset] [(.int (0 : Int32))])) t → Steps p.tables e below (s₁.setTop (entryFrame m #[(.int p1), (.int p2), (.int p3), (.int p4), (.int p5), (.int p6)] maxLocals)) t := fun t k => pre_37 t (st38 t k)
    have pre_40 : ∀ t, Steps p.tables e below (T38.setTop (mkF m 203 #[.val (.int p1), .val (.int p2), .val (.int p3), .val (.int p4), .val (.int p5), .val (.int p6), .val (.int (1 : Int32)), .val (.int ln), .val (.int b0), .val (.int b1), .val (.int b2), .val (.int b3), .val (.int b4), .val (.ref m32), .val (.int (0 : Int32)), .val (.int (0 : Int32))] [(.int (1 : Int32))])) t → Steps p.tables e below (s₁.setTop (entryFrame m #[(.int p1), (.int p2), (.int p3), (.int p4), (.int p5), (.int p6)] maxLocals)) t := by
      intro t k
      refine pre_39 t ?_
      show Steps p.tables e below (T38.setTop (mkF m 189 #[.val (.int p1), .val (.int p2), .val (.int p3), .val (.int p4), .val (.int p5), .val (.int p6), .val (.int (1 : Int32)), .val (.int ln), .val (.int b0), .val (.int b1), .val (.int b2), .val (.int b3), .val (.int b4), .val (.ref m32), .val (.int (0 : Int32)), .unset] [(.int (0 : Int32))])) _
      refine XS.istore X38.here hx rfl (hb hby at_189) rfl (l' := #[.val (.int p1), .val (.int p2), .val (.int p3), .val (.int p4), .val (.int p5), .val (.int p6), .val (.int (1 : Int32)), .val (.int ln), .val (.int b0), .val (.int b1), .val (.int b2), .val (.int b3), .val (.int b4), .val (.ref m32), .val (.int (0 : Int32)), .val (.int (0 : Int32))]) rfl ?_
      show Steps p.tables e below (T38.setTop (mkF m 191 #[.val (.int p1), .val (.int p2), .val (.int p3), .val (.int p4), .val (.int p5), .val (.int p6), .val (.int (1 : Int32)), .val (.int ln), .val (.int b0), .val (.int b1), .val (.int b2), .val (.int b3), .val (.int b4), .val (.ref m32), .val (.int (0 : Int32)), .val (.int (0 : Int32))] [])) _
      refine XS.iload X38.here hx rfl (hb hby at_191) rfl ?_
      show Steps p.tables e below (T38.setTop (mkF m 193 #[.val (.int p1), .val (.int p2), .val (.int p3), .val (.int p4), .val (.int p5), .val (.int p6), .val (.int (1 : Int32)), .val (.int ln), .val (.int b0), .val (.int b1), .val (.int b2), .val (.int b3), .val (.int b4), .val (.ref m32), .val (.int (0 : Int32)), .val (.int (0 : Int32))] [(.int (0 : Int32))])) _
      refine XS.iload X38.here hx rfl (hb hby at_193) rfl ?_
      show Steps p.tables e below (T38.setTop (mkF m 195 #[.val (.int p1), .val (.int p2), .val (.int p3), .val (.int p4), .val (.int p5), .val (.int p6), .val (.int (1 : Int32)), .val (.int ln), .val (.int b0), .val (.int b1), .val (.int b2), .val (.int b3), .val (.int b4), .val (.ref m32), .val (.int (0 : Int32)), .val (.int (0 : Int32))] [(.int (0 : Int32)), (.int (0 : Int32))])) _
      refine XS.icmpNo X38.here hx rfl (hb hby at_195) rfl (XT.ii_ne_f (by decide)) ?_
      show Steps p.tables e below (T38.setTop (mkF m 198 #[.val (.int p1), .val (.int p2), .val (.int p3), .val (.int p4), .val (.int p5), .val (.int p6), .val (.int (1 : Int32)), .val (.int ln), .val (.int b0), .val (.int b1), .val (.int b2), .val (.int b3), .val (.int b4), .val (.ref m32), .val (.int (0 : Int32)), .val (.int (0 : Int32))] [])) _
      refine XS.iconst X38.here hx rfl (hb hby at_198) ?_
      show Steps p.tables e below (T38.setTop (mkF m 199 #[.val (.int p1), .val (.int p2), .val (.int p3), .val (.int p4), .val (.int p5), .val (.int p6), .val (.int (1 : Int32)), .val (.int ln), .val (.int b0), .val (.int b1), .val (.int b2), .val (.int b3), .val (.int b4), .val (.ref m32), .val (.int (0 : Int32)), .val (.int (0 : Int32))] [(.int (1 : Int32))])) _
      refine XS.goto X38.here hx rfl (pc0 := 199) (pc' := 203) rfl (hb hby at_199) (by decide) (by decide) ?_
      show Steps p.tables e below (T38.setTop (mkF m 203 #[.val (.int p1), .val (.int p2), .val (.int p3), .val (.int p4), .val (.int p5), .val (.int p6), .val (.int (1 : Int32)), .val (.int ln), .val (.int b0), .val (.int b1), .val (.int b2), .val (.int b3), .val (.int b4), .val (.ref m32), .val (.int (0 : Int32)), .val (.int (0 : Int32))] [(.int (1 : Int32))])) _
      exact k
    obtain ⟨fs, hr, hrun, hended, hW, hsame⟩ := X38.leave (v := some (.int (1 : Int32))) (fun h => by rw [Bd.returns] at h; cases h)
    refine ⟨_, _, pre_40 _ ?_, hrun, hended, _, _, rfl, ?_, ⟨_, rfl⟩, hW, hsame.mono (by decide) (by decide)⟩
    · show Steps p.tables e below (T38.setTop (mkF m 203 #[.val (.int p1), .val (.int p2), .val (.int p3), .val (.int p4), .val (.int p5), .val (.int p6), .val (.int (1 : Int32)), .val (.int ln), .val (.int b0), .val (.int b1), .val (.int b2), .val (.int b3), .val (.int b4), .val (.ref m32), .val (.int (0 : Int32)), .val (.int (0 : Int32))] [(.int (1 : Int32))])) _
      exact retN X38 hx (t := .boolean) Bd.returns (by simp) (hb hby at_203) hr
    · show Q_law Z p1 p2 p3 p4 p5 p6 aB kB h0 n0 _ T38.heap _
      rw [e38]
      exact ⟨rfl, N38⟩
  · skip
    rw [hs] at pre_1
    have pre_41 : ∀ t, Steps p.tables e below (s₁.setTop (mkF m 24 #[.val (.int p1), .val (.int p2), .val (.int p3), .val (.int p4), .val (.int p5), .val (.int p6), .val (.int (2 : Int32)), .val (.int (((XT.ushr p6 (3 : Int32)) &&& (2147483647 : Int32)) % (3 : Int32))), .unset, .unset, .unset, .unset, .unset, .unset, .unset, .unset] [])) t → Steps p.tables e below (s₁.setTop (entryFrame m #[(.int p1), (.int p2), (.int p3), (.int p4), (.int p5), (.int p6)] maxLocals)) t := by
      intro t k
      refine pre_1 t ?_
      show Steps p.tables e below (s₁.setTop (mkF m 10 #[.val (.int p1), .val (.int p2), .val (.int p3), .val (.int p4), .val (.int p5), .val (.int p6), .val (.int (2 : Int32)), .unset, .unset, .unset, .unset, .unset, .unset, .unset, .unset, .unset] [])) _
      refine XS.iload X0.here hx rfl (hb hby at_10) rfl ?_
      show Steps p.tables e below (s₁.setTop (mkF m 12 #[.val (.int p1), .val (.int p2), .val (.int p3), .val (.int p4), .val (.int p5), .val (.int p6), .val (.int (2 : Int32)), .unset, .unset, .unset, .unset, .unset, .unset, .unset, .unset, .unset] [(.int p6)])) _
      refine XS.iconst X0.here hx rfl (hb hby at_12) ?_
      show Steps p.tables e below (s₁.setTop (mkF m 13 #[.val (.int p1), .val (.int p2), .val (.int p3), .val (.int p4), .val (.int p5), .val (.int p6), .val (.int (2 : Int32)), .unset, .unset, .unset, .unset, .unset, .unset, .unset, .unset, .unset] [(.int (3 : Int32)), (.int p6)])) _
      refine XT.iushr X0.here hx rfl (hb hby at_13) rfl ?_
      show Steps p.tables e below (s₁.setTop (mkF m 14 #[.val (.int p1), .val (.int p2), .val (.int p3), .val (.int p4), .val (.int p5), .val (.int p6), .val (.int (2 : Int32)), .unset, .unset, .unset, .unset, .unset, .unset, .unset, .unset, .unset] [(.int (XT.ushr p6 (3 : Int32)))])) _
      refine X0.ldcInt hx hown (mvT hZ (hw _ (List.mem_of_getElem? (i := 0) rfl))) (g := (mkF m 14 #[.val (.int p1), .val (.int p2), .val (.int p3), .val (.int p4), .val (.int p5), .val (.int p6), .val (.int (2 : Int32)), .unset, .unset, .unset, .unset, .unset, .unset, .unset, .unset, .unset] [(.int (XT.ushr p6 (3 : Int32)))])) rfl (hb hby at_14) _ ?_
      show Steps p.tables e below (s₁.setTop (mkF m 16 #[.val (.int p1), .val (.int p2), .val (.int p3), .val (.int p4), .val (.int p5), .val (.int p6), .val (.int (2 : Int32)), .unset, .unset, .unset, .unset, .unset, .unset, .unset, .unset, .unset] [(.int (2147483647 : Int32)), (.int (XT.ushr p6 (3 : Int32)))])) _
      refine XS.iand X0.here hx rfl (hb hby at_16) rfl ?_
      show Steps p.tables e below (s₁.setTop (mkF m 17 #[.val (.int p1), .val (.int p2), .val (.int p3), .val (.int p4), .val (.int p5), .val (.int p6), .val (.int (2 : Int32)), .unset, .unset, .unset, .unset, .unset, .unset, .unset, .unset, .unset] [(.int ((XT.ushr p6 (3 : Int32)) &&& (2147483647 : Int32)))])) _
      refine XS.iload X0.here hx rfl (hb hby at_17) rfl ?_
      show Steps p.tables e below (s₁.setTop (mkF m 19 #[.val (.int p1), .val (.int p2), .val (.int p3), .val (.int p4), .val (.int p5), .val (.int p6), .val (.int (2 : Int32)), .unset, .unset, .unset, .unset, .unset, .unset, .unset, .unset, .unset] [(.int (2 : Int32)), (.int ((XT.ushr p6 (3 : Int32)) &&& (2147483647 : Int32)))])) _
      refine XS.iconst X0.here hx rfl (hb hby at_19) ?_
      show Steps p.tables e below (s₁.setTop (mkF m 20 #[.val (.int p1), .val (.int p2), .val (.int p3), .val (.int p4), .val (.int p5), .val (.int p6), .val (.int (2 : Int32)), .unset, .unset, .unset, .unset, .unset, .unset, .unset, .unset, .unset] [(.int (1 : Int32)), (.int (2 : Int32)), (.int ((XT.ushr p6 (3 : Int32)) &&& (2147483647 : Int32)))])) _
      refine XS.iadd X0.here hx rfl (hb hby at_20) rfl ?_
      show Steps p.tables e below (s₁.setTop (mkF m 21 #[.val (.int p1), .val (.int p2), .val (.int p3), .val (.int p4), .val (.int p5), .val (.int p6), .val (.int (2 : Int32)), .unset, .unset, .unset, .unset, .unset, .unset, .unset, .unset, .unset] [(.int (3 : Int32)), (.int ((XT.ushr p6 (3 : Int32)) &&& (2147483647 : Int32)))])) _
      refine iremM X0 hx rfl (hb hby at_21) rfl (by decide) ?_
      show Steps p.tables e below (s₁.setTop (mkF m 22 #[.val (.int p1), .val (.int p2), .val (.int p3), .val (.int p4), .val (.int p5), .val (.int p6), .val (.int (2 : Int32)), .unset, .unset, .unset, .unset, .unset, .unset, .unset, .unset, .unset] [(.int (((XT.ushr p6 (3 : Int32)) &&& (2147483647 : Int32)) % (3 : Int32)))])) _
      refine XS.istore X0.here hx rfl (hb hby at_22) rfl (l' := #[.val (.int p1), .val (.int p2), .val (.int p3), .val (.int p4), .val (.int p5), .val (.int p6), .val (.int (2 : Int32)), .val (.int (((XT.ushr p6 (3 : Int32)) &&& (2147483647 : Int32)) % (3 : Int32))), .unset, .unset, .unset, .unset, .unset, .unset, .unset, .unset]) rfl ?_
      show Steps p.tables e below (s₁.setTop (mkF m 24 #[.val (.int p1), .val (.int p2), .val (.int p3), .val (.int p4), .val (.int p5), .val (.int p6), .val (.int (2 : Int32)), .val (.int (((XT.ushr p6 (3 : Int32)) &&& (2147483647 : Int32)) % (3 : Int32))), .unset, .unset, .unset, .unset, .unset, .unset, .unset, .unset] [])) _
      exact k
    have hln := own_ln2 (XT.ushr p6 (3 : Int32))
    generalize (((XT.ushr p6 (3 : Int32)) &&& (2147483647 : Int32)) % (3 : Int32)) = ln at pre_41 hln
    have pre_42 : ∀ t, Steps p.tables e below (s₁.setTop (mkF m 28 #[.val (.int p1), .val (.int p2), .val (.int p3), .val (.int p4), .val (.int p5), .val (.int p6), .val (.int (2 : Int32)), .val (.int ln), .unset, .unset, .unset, .unset, .unset, .unset, .unset, .unset] [(.int (p5 &&& (1 : Int32)))])) t → Steps p.tables e below (s₁.setTop (entryFrame m #[(.int p1), (.int p2), (.int p3), (.int p4), (.int p5), (.int p6)] maxLocals)) t := by
      intro t k
      refine pre_41 t ?_
      show Steps p.tables e below (s₁.setTop (mkF m 24 #[.val (.int p1), .val (.int p2), .val (.int p3), .val (.int p4), .val (.int p5), .val (.int p6), .val (.int (2 : Int32)), .val (.int ln), .unset, .unset, .unset, .unset, .unset, .unset, .unset, .unset] [])) _
      refine XS.iload X0.here hx rfl (hb hby at_24) rfl ?_
      show Steps p.tables e below (s₁.setTop (mkF m 26 #[.val (.int p1), .val (.int p2), .val (.int p3), .val (.int p4), .val (.int p5), .val (.int p6), .val (.int (2 : Int32)), .val (.int ln), .unset, .unset, .unset, .unset, .unset, .unset, .unset, .unset] [(.int p5)])) _
      refine XS.iconst X0.here hx rfl (hb hby at_26) ?_
      show Steps p.tables e below (s₁.setTop (mkF m 27 #[.val (.int p1), .val (.int p2), .val (.int p3), .val (.int p4), .val (.int p5), .val (.int p6), .val (.int (2 : Int32)), .val (.int ln), .unset, .unset, .unset, .unset, .unset, .unset, .unset, .unset] [(.int (1 : Int32)), (.int p5)])) _
      refine XS.iand X0.here hx rfl (hb hby at_27) rfl ?_
      show Steps p.tables e below (s₁.setTop (mkF m 28 #[.val (.int p1), .val (.int p2), .val (.int p3), .val (.int p4), .val (.int p5), .val (.int p6), .val (.int (2 : Int32)), .val (.int ln), .unset, .unset, .unset, .unset, .unset, .unset, .unset, .unset] [(.int (p5 &&& (1 : Int32)))])) _
      exact k
    have pre_44 : ∀ t, Steps p.tables e below (s₁.setTop (mkF m 38 #[.val (.int p1), .val (.int p2), .val (.int p3), .val (.int p4), .val (.int p5), .val (.int p6), .val (.int (2 : Int32)), .val (.int ln), .unset, .unset, .unset, .unset, .unset, .unset, .unset, .unset] [(.int (if (p5 &&& (1 : Int32)) = (0 : Int32) then ((p1).toInt8.toInt32) else (-17 : Int32)))])) t → Steps p.tables e below (s₁.setTop (entryFrame m #[(.int p1), (.int p2), (.int p3), (.int p4), (.int p5), (.int p6)] maxLocals)) t := by
      intro t k
      refine pre_42 t ?_
      by_cases hm43 : (p5 &&& (1 : Int32)) = (0 : Int32)
      · skip
        show Steps p.tables e below (s₁.setTop (mkF m 28 #[.val (.int p1), .val (.int p2), .val (.int p3), .val (.int p4), .val (.int p5), .val (.int p6), .val (.int (2 : Int32)), .val (.int ln), .unset, .unset, .unset, .unset, .unset, .unset, .unset, .unset] [(.int (p5 &&& (1 : Int32)))])) _
        refine XS.ifYes X0.here hx rfl (pc0 := 28) (pc' := 36) rfl (hb hby at_28) rfl (XT.i0_eq_t hm43) (by decide) (by decide) ?_
        show Steps p.tables e below (s₁.setTop (mkF m 36 #[.val (.int p1), .val (.int p2), .val (.int p3), .val (.int p4), .val (.int p5), .val (.int p6), .val (.int (2 : Int32)), .val (.int ln), .unset, .unset, .unset, .unset, .unset, .unset, .unset, .unset] [])) _
        refine XS.iloadN X0.here hx rfl (hb hby at_36) rfl ?_
        show Steps p.tables e below (s₁.setTop (mkF m 37 #[.val (.int p1), .val (.int p2), .val (.int p3), .val (.int p4), .val (.int p5), .val (.int p6), .val (.int (2 : Int32)), .val (.int ln), .unset, .unset, .unset, .unset, .unset, .unset, .unset, .unset] [(.int p1)])) _
        refine XT.i2b X0.here hx rfl (hb hby at_37) rfl ?_
        show Steps p.tables e below (s₁.setTop (mkF m 38 #[.val (.int p1), .val (.int p2), .val (.int p3), .val (.int p4), .val (.int p5), .val (.int p6), .val (.int (2 : Int32)), .val (.int ln), .unset, .unset, .unset, .unset, .unset, .unset, .unset, .unset] [(.int ((p1).toInt8.toInt32))])) _
        first | exact k | (simp only [if_pos hm43] at k; exact k)
      · skip
        show Steps p.tables e below (s₁.setTop (mkF m 28 #[.val (.int p1), .val (.int p2), .val (.int p3), .val (.int p4), .val (.int p5), .val (.int p6), .val (.int (2 : Int32)), .val (.int ln), .unset, .unset, .unset, .unset, .unset, .unset, .unset, .unset] [(.int (p5 &&& (1 : Int32)))])) _
        refine XS.ifNo X0.here hx rfl (hb hby at_28) rfl (XT.i0_eq_f hm43) ?_
        show Steps p.tables e below (s₁.setTop (mkF m 31 #[.val (.int p1), .val (.int p2), .val (.int p3), .val (.int p4), .val (.int p5), .val (.int p6), .val (.int (2 : Int32)), .val (.int ln), .unset, .unset, .unset, .unset, .unset, .unset, .unset, .unset] [])) _
        refine XS.bipush X0.here hx rfl (hb hby at_31) ?_
        show Steps p.tables e below (s₁.setTop (mkF m 33 #[.val (.int p1), .val (.int p2), .val (.int p3), .val (.int p4), .val (.int p5), .val (.int p6), .val (.int (2 : Int32)), .val (.int ln), .unset, .unset, .unset, .unset, .unset, .unset, .unset, .unset] [(.int (-17 : Int32))])) _
        refine XS.goto X0.here hx rfl (pc0 := 33) (pc' := 38) rfl (hb hby at_33) (by decide) (by decide) ?_
        show Steps p.tables e below (s₁.setTop (mkF m 38 #[.val (.int p1), .val (.int p2), .val (.int p3), .val (.int p4), .val (.int p5), .val (.int p6), .val (.int (2 : Int32)), .val (.int ln), .unset, .unset, .unset, .unset, .unset, .unset, .unset, .unset] [(.int (-17 : Int32))])) _
        first | exact k | (simp only [if_neg hm43] at k; exact k)
    have pre_45 : ∀ t, Steps p.tables e below (s₁.setTop (mkF m 44 #[.val (.int p1), .val (.int p2), .val (.int p3), .val (.int p4), .val (.int p5), .val (.int p6), .val (.int (2 : Int32)), .val (.int ln), .val (.int (if (p5 &&& (1 : Int32)) = (0 : Int32) then ((p1).toInt8.toInt32) else (-17 : Int32))), .unset, .unset, .unset, .unset, .unset, .unset, .unset] [(.int (p5 &&& (2 : Int32)))])) t → Steps p.tables e below (s₁.setTop (entryFrame m #[(.int p1), (.int p2), (.int p3), (.int p4), (.int p5), (.int p6)] maxLocals)) t := by
      intro t k
      refine pre_44 t ?_
      show Steps p.tables e below (s₁.setTop (mkF m 38 #[.val (.int p1), .val (.int p2), .val (.int p3), .val (.int p4), .val (.int p5), .val (.int p6), .val (.int (2 : Int32)), .val (.int ln), .unset, .unset, .unset, .unset, .unset, .unset, .unset, .unset] [(.int (if (p5 &&& (1 : Int32)) = (0 : Int32) then ((p1).toInt8.toInt32) else (-17 : Int32)))])) _
      refine XS.istore X0.here hx rfl (hb hby at_38) rfl (l' := #[.val (.int p1), .val (.int p2), .val (.int p3), .val (.int p4), .val (.int p5), .val (.int p6), .val (.int (2 : Int32)), .val (.int ln), .val (.int (if (p5 &&& (1 : Int32)) = (0 : Int32) then ((p1).toInt8.toInt32) else (-17 : Int32))), .unset, .unset, .unset, .unset, .unset, .unset, .unset]) rfl ?_
      show Steps p.tables e below (s₁.setTop (mkF m 40 #[.val (.int p1), .val (.int p2), .val (.int p3), .val (.int p4), .val (.int p5), .val (.int p6), .val (.int (2 : Int32)), .val (.int ln), .val (.int (if (p5 &&& (1 : Int32)) = (0 : Int32) then ((p1).toInt8.toInt32) else (-17 : Int32))), .unset, .unset, .unset, .unset, .unset, .unset, .unset] [])) _
      refine XS.iload X0.here hx rfl (hb hby at_40) rfl ?_
      show Steps p.tables e below (s₁.setTop (mkF m 42 #[.val (.int p1), .val (.int p2), .val (.int p3), .val (.int p4), .val (.int p5), .val (.int p6), .val (.int (2 : Int32)), .val (.int ln), .val (.int (if (p5 &&& (1 : Int32)) = (0 : Int32) then ((p1).toInt8.toInt32) else (-17 : Int32))), .unset, .unset, .unset, .unset, .unset, .unset, .unset] [(.int p5)])) _
      refine XS.iconst X0.here hx rfl (hb hby at_42) ?_
      show Steps p.tables e below (s₁.setTop (mkF m 43 #[.val (.int p1), .val (.int p2), .val (.int p3), .val (.int p4), .val (.int p5), .val (.int p6), .val (.int (2 : Int32)), .val (.int ln), .val (.int (if (p5 &&& (1 : Int32)) = (0 : Int32) then ((p1).toInt8.toInt32) else (-17 : Int32))), .unset, .unset, .unset, .unset, .unset, .unset, .unset] [(.int (2 : Int32)), (.int p5)])) _
      refine XS.iand X0.here hx rfl (hb hby at_43) rfl ?_
      show Steps p.tables e below (s₁.setTop (mkF m 44 #[.val (.int p1), .val (.int p2), .val (.int p3), .val (.int p4), .val (.int p5), .val (.int p6), .val (.int (2 : Int32)), .val (.int ln), .val (.int (if (p5 &&& (1 : Int32)) = (0 : Int32) then ((p1).toInt8.toInt32) else (-17 : Int32))), .unset, .unset, .unset, .unset, .unset, .unset, .unset] [(.int (p5 &&& (2 : Int32)))])) _
      exact k
    have pre_47 : ∀ t, Steps p.tables e below (s₁.setTop (mkF m 54 #[.val (.int p1), .val (.int p2), .val (.int p3), .val (.int p4), .val (.int p5), .val (.int p6), .val (.int (2 : Int32)), .val (.int ln), .val (.int (if (p5 &&& (1 : Int32)) = (0 : Int32) then ((p1).toInt8.toInt32) else (-17 : Int32))), .unset, .unset, .unset, .unset, .unset, .unset, .unset] [(.int (if (p5 &&& (2 : Int32)) = (0 : Int32) then ((p2).toInt8.toInt32) else (-69 : Int32)))])) t → Steps p.tables e below (s₁.setTop (entryFrame m #[(.int p1), (.int p2), (.int p3), (.int p4), (.int p5), (.int p6)] maxLocals)) t := by
      intro t k
      refine pre_45 t ?_
      by_cases hm46 : (p5 &&& (2 : Int32)) = (0 : Int32)
      · skip
        show Steps p.tables e below (s₁.setTop (mkF m 44 #[.val (.int p1), .val (.int p2), .val (.int p3), .val (.int p4), .val (.int p5), .val (.int p6), .val (.int (2 : Int32)), .val (.int ln), .val (.int (if (p5 &&& (1 : Int32)) = (0 : Int32) then ((p1).toInt8.toInt32) else (-17 : Int32))), .unset, .unset, .unset, .unset, .unset, .unset, .unset] [(.int (p5 &&& (2 : Int32)))])) _
        refine XS.ifYes X0.here hx rfl (pc0 := 44) (pc' := 52) rfl (hb hby at_44) rfl (XT.i0_eq_t hm46) (by decide) (by decide) ?_
        show Steps p.tables e below (s₁.setTop (mkF m 52 #[.val (.int p1), .val (.int p2), .val (.int p3), .val (.int p4), .val (.int p5), .val (.int p6), .val (.int (2 : Int32)), .val (.int ln), .val (.int (if (p5 &&& (1 : Int32)) = (0 : Int32) then ((p1).toInt8.toInt32) else (-17 : Int32))), .unset, .unset, .unset, .unset, .unset, .unset, .unset] [])) _
        refine XS.iloadN X0.here hx rfl (hb hby at_52) rfl ?_
        show Steps p.tables e below (s₁.setTop (mkF m 53 #[.val (.int p1), .val (.int p2), .val (.int p3), .val (.int p4), .val (.int p5), .val (.int p6), .val (.int (2 : Int32)), .val (.int ln), .val (.int (if (p5 &&& (1 : Int32)) = (0 : Int32) then ((p1).toInt8.toInt32) else (-17 : Int32))), .unset, .unset, .unset, .unset, .unset, .unset, .unset] [(.int p2)])) _
        refine XT.i2b X0.here hx rfl (hb hby at_53) rfl ?_
        show Steps p.tables e below (s₁.setTop (mkF m 54 #[.val (.int p1), .val (.int p2), .val (.int p3), .val (.int p4), .val (.int p5), .val (.int p6), .val (.int (2 : Int32)), .val (.int ln), .val (.int (if (p5 &&& (1 : Int32)) = (0 : Int32) then ((p1).toInt8.toInt32) else (-17 : Int32))), .unset, .unset, .unset, .unset, .unset, .unset, .unset] [(.int ((p2).toInt8.toInt32))])) _
        first | exact k | (simp only [if_pos hm46] at k; exact k)
      · skip
        show Steps p.tables e below (s₁.setTop (mkF m 44 #[.val (.int p1), .val (.int p2), .val (.int p3), .val (.int p4), .val (.int p5), .val (.int p6), .val (.int (2 : Int32)), .val (.int ln), .val (.int (if (p5 &&& (1 : Int32)) = (0 : Int32) then ((p1).toInt8.toInt32) else (-17 : Int32))), .unset, .unset, .unset, .unset, .unset, .unset, .unset] [(.int (p5 &&& (2 : Int32)))])) _
        refine XS.ifNo X0.here hx rfl (hb hby at_44) rfl (XT.i0_eq_f hm46) ?_
        show Steps p.tables e below (s₁.setTop (mkF m 47 #[.val (.int p1), .val (.int p2), .val (.int p3), .val (.int p4), .val (.int p5), .val (.int p6), .val (.int (2 : Int32)), .val (.int ln), .val (.int (if (p5 &&& (1 : Int32)) = (0 : Int32) then ((p1).toInt8.toInt32) else (-17 : Int32))), .unset, .unset, .unset, .unset, .unset, .unset, .unset] [])) _
        refine XS.bipush X0.here hx rfl (hb hby at_47) ?_
        show Steps p.tables e below (s₁.setTop (mkF m 49 #[.val (.int p1), .val (.int p2), .val (.int p3), .val (.int p4), .val (.int p5), .val (.int p6), .val (.int (2 : Int32)), .val (.int ln), .val (.int (if (p5 &&& (1 : Int32)) = (0 : Int32) then ((p1).toInt8.toInt32) else (-17 : Int32))), .unset, .unset, .unset, .unset, .unset, .unset, .unset] [(.int (-69 : Int32))])) _
        refine XS.goto X0.here hx rfl (pc0 := 49) (pc' := 54) rfl (hb hby at_49) (by decide) (by decide) ?_
        show Steps p.tables e below (s₁.setTop (mkF m 54 #[.val (.int p1), .val (.int p2), .val (.int p3), .val (.int p4), .val (.int p5), .val (.int p6), .val (.int (2 : Int32)), .val (.int ln), .val (.int (if (p5 &&& (1 : Int32)) = (0 : Int32) then ((p1).toInt8.toInt32) else (-17 : Int32))), .unset, .unset, .unset, .unset, .unset, .unset, .unset] [(.int (-69 : Int32))])) _
        first | exact k | (simp only [if_neg hm46] at k; exact k)
    have pre_48 : ∀ t, Steps p.tables e below (s₁.setTop (mkF m 60 #[.val (.int p1), .val (.int p2), .val (.int p3), .val (.int p4), .val (.int p5), .val (.int p6), .val (.int (2 : Int32)), .val (.int ln), .val (.int (if (p5 &&& (1 : Int32)) = (0 : Int32) then ((p1).toInt8.toInt32) else (-17 : Int32))), .val (.int (if (p5 &&& (2 : Int32)) = (0 : Int32) then ((p2).toInt8.toInt32) else (-69 : Int32))), .unset, .unset, .unset, .unset, .unset, .unset] [(.int (p5 &&& (4 : Int32)))])) t → Steps p.tables e below (s₁.setTop (entryFrame m #[(.int p1), (.int p2), (.int p3), (.int p4), (.int p5), (.int p6)] maxLocals)) t := by
      intro t k
      refine pre_47 t ?_
      show Steps p.tables e below (s₁.setTop (mkF m 54 #[.val (.int p1), .val (.int p2), .val (.int p3), .val (.int p4), .val (.int p5), .val (.int p6), .val (.int (2 : Int32)), .val (.int ln), .val (.int (if (p5 &&& (1 : Int32)) = (0 : Int32) then ((p1).toInt8.toInt32) else (-17 : Int32))), .unset, .unset, .unset, .unset, .unset, .unset, .unset] [(.int (if (p5 &&& (2 : Int32)) = (0 : Int32) then ((p2).toInt8.toInt32) else (-69 : Int32)))])) _
      refine XS.istore X0.here hx rfl (hb hby at_54) rfl (l' := #[.val (.int p1), .val (.int p2), .val (.int p3), .val (.int p4), .val (.int p5), .val (.int p6), .val (.int (2 : Int32)), .val (.int ln), .val (.int (if (p5 &&& (1 : Int32)) = (0 : Int32) then ((p1).toInt8.toInt32) else (-17 : Int32))), .val (.int (if (p5 &&& (2 : Int32)) = (0 : Int32) then ((p2).toInt8.toInt32) else (-69 : Int32))), .unset, .unset, .unset, .unset, .unset, .unset]) rfl ?_
      show Steps p.tables e below (s₁.setTop (mkF m 56 #[.val (.int p1), .val (.int p2), .val (.int p3), .val (.int p4), .val (.int p5), .val (.int p6), .val (.int (2 : Int32)), .val (.int ln), .val (.int (if (p5 &&& (1 : Int32)) = (0 : Int32) then ((p1).toInt8.toInt32) else (-17 : Int32))), .val (.int (if (p5 &&& (2 : Int32)) = (0 : Int32) then ((p2).toInt8.toInt32) else (-69 : Int32))), .unset, .unset, .unset, .unset, .unset, .unset] [])) _
      refine XS.iload X0.here hx rfl (hb hby at_56) rfl ?_
      show Steps p.tables e below (s₁.setTop (mkF m 58 #[.val (.int p1), .val (.int p2), .val (.int p3), .val (.int p4), .val (.int p5), .val (.int p6), .val (.int (2 : Int32)), .val (.int ln), .val (.int (if (p5 &&& (1 : Int32)) = (0 : Int32) then ((p1).toInt8.toInt32) else (-17 : Int32))), .val (.int (if (p5 &&& (2 : Int32)) = (0 : Int32) then ((p2).toInt8.toInt32) else (-69 : Int32))), .unset, .unset, .unset, .unset, .unset, .unset] [(.int p5)])) _
      refine XS.iconst X0.here hx rfl (hb hby at_58) ?_
      show Steps p.tables e below (s₁.setTop (mkF m 59 #[.val (.int p1), .val (.int p2), .val (.int p3), .val (.int p4), .val (.int p5), .val (.int p6), .val (.int (2 : Int32)), .val (.int ln), .val (.int (if (p5 &&& (1 : Int32)) = (0 : Int32) then ((p1).toInt8.toInt32) else (-17 : Int32))), .val (.int (if (p5 &&& (2 : Int32)) = (0 : Int32) then ((p2).toInt8.toInt32) else (-69 : Int32))), .unset, .unset, .unset, .unset, .unset, .unset] [(.int (4 : Int32)), (.int p5)])) _
      refine XS.iand X0.here hx rfl (hb hby at_59) rfl ?_
      show Steps p.tables e below (s₁.setTop (mkF m 60 #[.val (.int p1), .val (.int p2), .val (.int p3), .val (.int p4), .val (.int p5), .val (.int p6), .val (.int (2 : Int32)), .val (.int ln), .val (.int (if (p5 &&& (1 : Int32)) = (0 : Int32) then ((p1).toInt8.toInt32) else (-17 : Int32))), .val (.int (if (p5 &&& (2 : Int32)) = (0 : Int32) then ((p2).toInt8.toInt32) else (-69 : Int32))), .unset, .unset, .unset, .unset, .unset, .unset] [(.int (p5 &&& (4 : Int32)))])) _
      exact k
    have pre_50 : ∀ t, Steps p.tables e below (s₁.setTop (mkF m 70 #[.val (.int p1), .val (.int p2), .val (.int p3), .val (.int p4), .val (.int p5), .val (.int p6), .val (.int (2 : Int32)), .val (.int ln), .val (.int (if (p5 &&& (1 : Int32)) = (0 : Int32) then ((p1).toInt8.toInt32) else (-17 : Int32))), .val (.int (if (p5 &&& (2 : Int32)) = (0 : Int32) then ((p2).toInt8.toInt32) else (-69 : Int32))), .unset, .unset, .unset, .unset, .unset, .unset] [(.int (if (p5 &&& (4 : Int32)) = (0 : Int32) then ((p3).toInt8.toInt32) else (-65 : Int32)))])) t → Steps p.tables e below (s₁.setTop (entryFrame m #[(.int p1), (.int p2), (.int p3), (.int p4), (.int p5), (.int p6)] maxLocals)) t := by
      intro t k
      refine pre_48 t ?_
      by_cases hm49 : (p5 &&& (4 : Int32)) = (0 : Int32)
      · skip
        show Steps p.tables e below (s₁.setTop (mkF m 60 #[.val (.int p1), .val (.int p2), .val (.int p3), .val (.int p4), .val (.int p5), .val (.int p6), .val (.int (2 : Int32)), .val (.int ln), .val (.int (if (p5 &&& (1 : Int32)) = (0 : Int32) then ((p1).toInt8.toInt32) else (-17 : Int32))), .val (.int (if (p5 &&& (2 : Int32)) = (0 : Int32) then ((p2).toInt8.toInt32) else (-69 : Int32))), .unset, .unset, .unset, .unset, .unset, .unset] [(.int (p5 &&& (4 : Int32)))])) _
        refine XS.ifYes X0.here hx rfl (pc0 := 60) (pc' := 68) rfl (hb hby at_60) rfl (XT.i0_eq_t hm49) (by decide) (by decide) ?_
        show Steps p.tables e below (s₁.setTop (mkF m 68 #[.val (.int p1), .val (.int p2), .val (.int p3), .val (.int p4), .val (.int p5), .val (.int p6), .val (.int (2 : Int32)), .val (.int ln), .val (.int (if (p5 &&& (1 : Int32)) = (0 : Int32) then ((p1).toInt8.toInt32) else (-17 : Int32))), .val (.int (if (p5 &&& (2 : Int32)) = (0 : Int32) then ((p2).toInt8.toInt32) else (-69 : Int32))), .unset, .unset, .unset, .unset, .unset, .unset] [])) _
        refine XS.iloadN X0.here hx rfl (hb hby at_68) rfl ?_
        show Steps p.tables e below (s₁.setTop (mkF m 69 #[.val (.int p1), .val (.int p2), .val (.int p3), .val (.int p4), .val (.int p5), .val (.int p6), .val (.int (2 : Int32)), .val (.int ln), .val (.int (if (p5 &&& (1 : Int32)) = (0 : Int32) then ((p1).toInt8.toInt32) else (-17 : Int32))), .val (.int (if (p5 &&& (2 : Int32)) = (0 : Int32) then ((p2).toInt8.toInt32) else (-69 : Int32))), .unset, .unset, .unset, .unset, .unset, .unset] [(.int p3)])) _
        refine XT.i2b X0.here hx rfl (hb hby at_69) rfl ?_
        show Steps p.tables e below (s₁.setTop (mkF m 70 #[.val (.int p1), .val (.int p2), .val (.int p3), .val (.int p4), .val (.int p5), .val (.int p6), .val (.int (2 : Int32)), .val (.int ln), .val (.int (if (p5 &&& (1 : Int32)) = (0 : Int32) then ((p1).toInt8.toInt32) else (-17 : Int32))), .val (.int (if (p5 &&& (2 : Int32)) = (0 : Int32) then ((p2).toInt8.toInt32) else (-69 : Int32))), .unset, .unset, .unset, .unset, .unset, .unset] [(.int ((p3).toInt8.toInt32))])) _
        first | exact k | (simp only [if_pos hm49] at k; exact k)
      · skip
        show Steps p.tables e below (s₁.setTop (mkF m 60 #[.val (.int p1), .val (.int p2), .val (.int p3), .val (.int p4), .val (.int p5), .val (.int p6), .val (.int (2 : Int32)), .val (.int ln), .val (.int (if (p5 &&& (1 : Int32)) = (0 : Int32) then ((p1).toInt8.toInt32) else (-17 : Int32))), .val (.int (if (p5 &&& (2 : Int32)) = (0 : Int32) then ((p2).toInt8.toInt32) else (-69 : Int32))), .unset, .unset, .unset, .unset, .unset, .unset] [(.int (p5 &&& (4 : Int32)))])) _
        refine XS.ifNo X0.here hx rfl (hb hby at_60) rfl (XT.i0_eq_f hm49) ?_
        show Steps p.tables e below (s₁.setTop (mkF m 63 #[.val (.int p1), .val (.int p2), .val (.int p3), .val (.int p4), .val (.int p5), .val (.int p6), .val (.int (2 : Int32)), .val (.int ln), .val (.int (if (p5 &&& (1 : Int32)) = (0 : Int32) then ((p1).toInt8.toInt32) else (-17 : Int32))), .val (.int (if (p5 &&& (2 : Int32)) = (0 : Int32) then ((p2).toInt8.toInt32) else (-69 : Int32))), .unset, .unset, .unset, .unset, .unset, .unset] [])) _
        refine XS.bipush X0.here hx rfl (hb hby at_63) ?_
        show Steps p.tables e below (s₁.setTop (mkF m 65 #[.val (.int p1), .val (.int p2), .val (.int p3), .val (.int p4), .val (.int p5), .val (.int p6), .val (.int (2 : Int32)), .val (.int ln), .val (.int (if (p5 &&& (1 : Int32)) = (0 : Int32) then ((p1).toInt8.toInt32) else (-17 : Int32))), .val (.int (if (p5 &&& (2 : Int32)) = (0 : Int32) then ((p2).toInt8.toInt32) else (-69 : Int32))), .unset, .unset, .unset, .unset, .unset, .unset] [(.int (-65 : Int32))])) _
        refine XS.goto X0.here hx rfl (pc0 := 65) (pc' := 70) rfl (hb hby at_65) (by decide) (by decide) ?_
        show Steps p.tables e below (s₁.setTop (mkF m 70 #[.val (.int p1), .val (.int p2), .val (.int p3), .val (.int p4), .val (.int p5), .val (.int p6), .val (.int (2 : Int32)), .val (.int ln), .val (.int (if (p5 &&& (1 : Int32)) = (0 : Int32) then ((p1).toInt8.toInt32) else (-17 : Int32))), .val (.int (if (p5 &&& (2 : Int32)) = (0 : Int32) then ((p2).toInt8.toInt32) else (-69 : Int32))), .unset, .unset, .unset, .unset, .unset, .unset] [(.int (-65 : Int32))])) _
        first | exact k | (simp only [if_neg hm49] at k; exact k)
    have pre_51 : ∀ t, Steps p.tables e below (s₁.setTop (mkF m 83 #[.val (.int p1), .val (.int p2), .val (.int p3), .val (.int p4), .val (.int p5), .val (.int p6), .val (.int (2 : Int32)), .val (.int ln), .val (.int (if (p5 &&& (1 : Int32)) = (0 : Int32) then ((p1).toInt8.toInt32) else (-17 : Int32))), .val (.int (if (p5 &&& (2 : Int32)) = (0 : Int32) then ((p2).toInt8.toInt32) else (-69 : Int32))), .val (.int (if (p5 &&& (4 : Int32)) = (0 : Int32) then ((p3).toInt8.toInt32) else (-65 : Int32))), .val (.int ((p4).toInt8.toInt32)), .val (.int (((p4 >>> ((8 : Int32) &&& 31))).toInt8.toInt32)), .unset, .unset, .unset] [])) t → Steps p.tables e below (s₁.setTop (entryFrame m #[(.int p1), (.int p2), (.int p3), (.int p4), (.int p5), (.int p6)] maxLocals)) t := by
      intro t k
      refine pre_50 t ?_
      show Steps p.tables e below (s₁.setTop (mkF m 70 #[.val (.int p1), .val (.int p2), .val (.int p3), .val (.int p4), .val (.int p5), .val (.int p6), .val (.int (2 : Int32)), .val (.int ln), .val (.int (if (p5 &&& (1 : Int32)) = (0 : Int32) then ((p1).toInt8.toInt32) else (-17 : Int32))), .val (.int (if (p5 &&& (2 : Int32)) = (0 : Int32) then ((p2).toInt8.toInt32) else (-69 : Int32))), .unset, .unset, .unset, .unset, .unset, .unset] [(.int (if (p5 &&& (4 : Int32)) = (0 : Int32) then ((p3).toInt8.toInt32) else (-65 : Int32)))])) _
      refine XS.istore X0.here hx rfl (hb hby at_70) rfl (l' := #[.val (.int p1), .val (.int p2), .val (.int p3), .val (.int p4), .val (.int p5), .val (.int p6), .val (.int (2 : Int32)), .val (.int ln), .val (.int (if (p5 &&& (1 : Int32)) = (0 : Int32) then ((p1).toInt8.toInt32) else (-17 : Int32))), .val (.int (if (p5 &&& (2 : Int32)) = (0 : Int32) then ((p2).toInt8.toInt32) else (-69 : Int32))), .val (.int (if (p5 &&& (4 : Int32)) = (0 : Int32) then ((p3).toInt8.toInt32) else (-65 : Int32))), .unset, .unset, .unset, .unset, .unset]) rfl ?_
      show Steps p.tables e below (s₁.setTop (mkF m 72 #[.val (.int p1), .val (.int p2), .val (.int p3), .val (.int p4), .val (.int p5), .val (.int p6), .val (.int (2 : Int32)), .val (.int ln), .val (.int (if (p5 &&& (1 : Int32)) = (0 : Int32) then ((p1).toInt8.toInt32) else (-17 : Int32))), .val (.int (if (p5 &&& (2 : Int32)) = (0 : Int32) then ((p2).toInt8.toInt32) else (-69 : Int32))), .val (.int (if (p5 &&& (4 : Int32)) = (0 : Int32) then ((p3).toInt8.toInt32) else (-65 : Int32))), .unset, .unset, .unset, .unset, .unset] [])) _
      refine XS.iloadN X0.here hx rfl (hb hby at_72) rfl ?_
      show Steps p.tables e below (s₁.setTop (mkF m 73 #[.val (.int p1), .val (.int p2), .val (.int p3), .val (.int p4), .val (.int p5), .val (.int p6), .val (.int (2 : Int32)), .val (.int ln), .val (.int (if (p5 &&& (1 : Int32)) = (0 : Int32) then ((p1).toInt8.toInt32) else (-17 : Int32))), .val (.int (if (p5 &&& (2 : Int32)) = (0 : Int32) then ((p2).toInt8.toInt32) else (-69 : Int32))), .val (.int (if (p5 &&& (4 : Int32)) = (0 : Int32) then ((p3).toInt8.toInt32) else (-65 : Int32))), .unset, .unset, .unset, .unset, .unset] [(.int p4)])) _
      refine XT.i2b X0.here hx rfl (hb hby at_73) rfl ?_
      show Steps p.tables e below (s₁.setTop (mkF m 74 #[.val (.int p1), .val (.int p2), .val (.int p3), .val (.int p4), .val (.int p5), .val (.int p6), .val (.int (2 : Int32)), .val (.int ln), .val (.int (if (p5 &&& (1 : Int32)) = (0 : Int32) then ((p1).toInt8.toInt32) else (-17 : Int32))), .val (.int (if (p5 &&& (2 : Int32)) = (0 : Int32) then ((p2).toInt8.toInt32) else (-69 : Int32))), .val (.int (if (p5 &&& (4 : Int32)) = (0 : Int32) then ((p3).toInt8.toInt32) else (-65 : Int32))), .unset, .unset, .unset, .unset, .unset] [(.int ((p4).toInt8.toInt32))])) _
      refine XS.istore X0.here hx rfl (hb hby at_74) rfl (l' := #[.val (.int p1), .val (.int p2), .val (.int p3), .val (.int p4), .val (.int p5), .val (.int p6), .val (.int (2 : Int32)), .val (.int ln), .val (.int (if (p5 &&& (1 : Int32)) = (0 : Int32) then ((p1).toInt8.toInt32) else (-17 : Int32))), .val (.int (if (p5 &&& (2 : Int32)) = (0 : Int32) then ((p2).toInt8.toInt32) else (-69 : Int32))), .val (.int (if (p5 &&& (4 : Int32)) = (0 : Int32) then ((p3).toInt8.toInt32) else (-65 : Int32))), .val (.int ((p4).toInt8.toInt32)), .unset, .unset, .unset, .unset]) rfl ?_
      show Steps p.tables e below (s₁.setTop (mkF m 76 #[.val (.int p1), .val (.int p2), .val (.int p3), .val (.int p4), .val (.int p5), .val (.int p6), .val (.int (2 : Int32)), .val (.int ln), .val (.int (if (p5 &&& (1 : Int32)) = (0 : Int32) then ((p1).toInt8.toInt32) else (-17 : Int32))), .val (.int (if (p5 &&& (2 : Int32)) = (0 : Int32) then ((p2).toInt8.toInt32) else (-69 : Int32))), .val (.int (if (p5 &&& (4 : Int32)) = (0 : Int32) then ((p3).toInt8.toInt32) else (-65 : Int32))), .val (.int ((p4).toInt8.toInt32)), .unset, .unset, .unset, .unset] [])) _
      refine XS.iloadN X0.here hx rfl (hb hby at_76) rfl ?_
      show Steps p.tables e below (s₁.setTop (mkF m 77 #[.val (.int p1), .val (.int p2), .val (.int p3), .val (.int p4), .val (.int p5), .val (.int p6), .val (.int (2 : Int32)), .val (.int ln), .val (.int (if (p5 &&& (1 : Int32)) = (0 : Int32) then ((p1).toInt8.toInt32) else (-17 : Int32))), .val (.int (if (p5 &&& (2 : Int32)) = (0 : Int32) then ((p2).toInt8.toInt32) else (-69 : Int32))), .val (.int (if (p5 &&& (4 : Int32)) = (0 : Int32) then ((p3).toInt8.toInt32) else (-65 : Int32))), .val (.int ((p4).toInt8.toInt32)), .unset, .unset, .unset, .unset] [(.int p4)])) _
      refine XS.bipush X0.here hx rfl (hb hby at_77) ?_
      show Steps p.tables e below (s₁.setTop (mkF m 79 #[.val (.int p1), .val (.int p2), .val (.int p3), .val (.int p4), .val (.int p5), .val (.int p6), .val (.int (2 : Int32)), .val (.int ln), .val (.int (if (p5 &&& (1 : Int32)) = (0 : Int32) then ((p1).toInt8.toInt32) else (-17 : Int32))), .val (.int (if (p5 &&& (2 : Int32)) = (0 : Int32) then ((p2).toInt8.toInt32) else (-69 : Int32))), .val (.int (if (p5 &&& (4 : Int32)) = (0 : Int32) then ((p3).toInt8.toInt32) else (-65 : Int32))), .val (.int ((p4).toInt8.toInt32)), .unset, .unset, .unset, .unset] [(.int (8 : Int32)), (.int p4)])) _
      refine XT.ishr X0.here hx rfl (hb hby at_79) rfl ?_
      show Steps p.tables e below (s₁.setTop (mkF m 80 #[.val (.int p1), .val (.int p2), .val (.int p3), .val (.int p4), .val (.int p5), .val (.int p6), .val (.int (2 : Int32)), .val (.int ln), .val (.int (if (p5 &&& (1 : Int32)) = (0 : Int32) then ((p1).toInt8.toInt32) else (-17 : Int32))), .val (.int (if (p5 &&& (2 : Int32)) = (0 : Int32) then ((p2).toInt8.toInt32) else (-69 : Int32))), .val (.int (if (p5 &&& (4 : Int32)) = (0 : Int32) then ((p3).toInt8.toInt32) else (-65 : Int32))), .val (.int ((p4).toInt8.toInt32)), .unset, .unset, .unset, .unset] [(.int (p4 >>> ((8 : Int32) &&& 31)))])) _
      refine XT.i2b X0.here hx rfl (hb hby at_80) rfl ?_
      show Steps p.tables e below (s₁.setTop (mkF m 81 #[.val (.int p1), .val (.int p2), .val (.int p3), .val (.int p4), .val (.int p5), .val (.int p6), .val (.int (2 : Int32)), .val (.int ln), .val (.int (if (p5 &&& (1 : Int32)) = (0 : Int32) then ((p1).toInt8.toInt32) else (-17 : Int32))), .val (.int (if (p5 &&& (2 : Int32)) = (0 : Int32) then ((p2).toInt8.toInt32) else (-69 : Int32))), .val (.int (if (p5 &&& (4 : Int32)) = (0 : Int32) then ((p3).toInt8.toInt32) else (-65 : Int32))), .val (.int ((p4).toInt8.toInt32)), .unset, .unset, .unset, .unset] [(.int (((p4 >>> ((8 : Int32) &&& 31))).toInt8.toInt32))])) _
      refine XS.istore X0.here hx rfl (hb hby at_81) rfl (l' := #[.val (.int p1), .val (.int p2), .val (.int p3), .val (.int p4), .val (.int p5), .val (.int p6), .val (.int (2 : Int32)), .val (.int ln), .val (.int (if (p5 &&& (1 : Int32)) = (0 : Int32) then ((p1).toInt8.toInt32) else (-17 : Int32))), .val (.int (if (p5 &&& (2 : Int32)) = (0 : Int32) then ((p2).toInt8.toInt32) else (-69 : Int32))), .val (.int (if (p5 &&& (4 : Int32)) = (0 : Int32) then ((p3).toInt8.toInt32) else (-65 : Int32))), .val (.int ((p4).toInt8.toInt32)), .val (.int (((p4 >>> ((8 : Int32) &&& 31))).toInt8.toInt32)), .unset, .unset, .unset]) rfl ?_
      show Steps p.tables e below (s₁.setTop (mkF m 83 #[.val (.int p1), .val (.int p2), .val (.int p3), .val (.int p4), .val (.int p5), .val (.int p6), .val (.int (2 : Int32)), .val (.int ln), .val (.int (if (p5 &&& (1 : Int32)) = (0 : Int32) then ((p1).toInt8.toInt32) else (-17 : Int32))), .val (.int (if (p5 &&& (2 : Int32)) = (0 : Int32) then ((p2).toInt8.toInt32) else (-69 : Int32))), .val (.int (if (p5 &&& (4 : Int32)) = (0 : Int32) then ((p3).toInt8.toInt32) else (-65 : Int32))), .val (.int ((p4).toInt8.toInt32)), .val (.int (((p4 >>> ((8 : Int32) &&& 31))).toInt8.toInt32)), .unset, .unset, .unset] [])) _
      exact k
    have hb0 : nar .byte (if (p5 &&& (1 : Int32)) = (0 : Int32) then ((p1).toInt8.toInt32) else (-17 : Int32)) = (if (p5 &&& (1 : Int32)) = (0 : Int32) then ((p1).toInt8.toInt32) else (-17 : Int32)) := by exact own_nbi _ _ _ (by decide)
    generalize (if (p5 &&& (1 : Int32)) = (0 : Int32) then ((p1).toInt8.toInt32) else (-17 : Int32)) = b0 at pre_51 hb0
    have hb1 : nar .byte (if (p5 &&& (2 : Int32)) = (0 : Int32) then ((p2).toInt8.toInt32) else (-69 : Int32)) = (if (p5 &&& (2 : Int32)) = (0 : Int32) then ((p2).toInt8.toInt32) else (-69 : Int32)) := by exact own_nbi _ _ _ (by decide)
    generalize (if (p5 &&& (2 : Int32)) = (0 : Int32) then ((p2).toInt8.toInt32) else (-69 : Int32)) = b1 at pre_51 hb1
    have hb2 : nar .byte (if (p5 &&& (4 : Int32)) = (0 : Int32) then ((p3).toInt8.toInt32) else (-65 : Int32)) = (if (p5 &&& (4 : Int32)) = (0 : Int32) then ((p3).toInt8.toInt32) else (-65 : Int32)) := by exact own_nbi _ _ _ (by decide)
    generalize (if (p5 &&& (4 : Int32)) = (0 : Int32) then ((p3).toInt8.toInt32) else (-65 : Int32)) = b2 at pre_51 hb2
    have hb3 : nar .byte ((p4).toInt8.toInt32) = ((p4).toInt8.toInt32) := by exact own_nb _
    generalize ((p4).toInt8.toInt32) = b3 at pre_51 hb3
    have hb4 : nar .byte (((p4 >>> ((8 : Int32) &&& 31))).toInt8.toInt32) = (((p4 >>> ((8 : Int32) &&& 31))).toInt8.toInt32) := by exact own_nb _
    generalize (((p4 >>> ((8 : Int32) &&& 31))).toInt8.toInt32) = b4 at pre_51 hb4
    have pre_52 : ∀ t, Steps p.tables e below (s₁.setTop (mkF m 85 #[.val (.int p1), .val (.int p2), .val (.int p3), .val (.int p4), .val (.int p5), .val (.int p6), .val (.int (2 : Int32)), .val (.int ln), .val (.int b0), .val (.int b1), .val (.int b2), .val (.int b3), .val (.int b4), .unset, .unset, .unset] [(.int (2 : Int32))])) t → Steps p.tables e below (s₁.setTop (entryFrame m #[(.int p1), (.int p2), (.int p3), (.int p4), (.int p5), (.int p6)] maxLocals)) t := by
      intro t k
      refine pre_51 t ?_
      show Steps p.tables e below (s₁.setTop (mkF m 83 #[.val (.int p1), .val (.int p2), .val (.int p3), .val (.int p4), .val (.int p5), .val (.int p6), .val (.int (2 : Int32)), .val (.int ln), .val (.int b0), .val (.int b1), .val (.int b2), .val (.int b3), .val (.int b4), .unset, .unset, .unset] [])) _
      refine XS.iload X0.here hx rfl (hb hby at_83) rfl ?_
      show Steps p.tables e below (s₁.setTop (mkF m 85 #[.val (.int p1), .val (.int p2), .val (.int p3), .val (.int p4), .val (.int p5), .val (.int p6), .val (.int (2 : Int32)), .val (.int ln), .val (.int b0), .val (.int b1), .val (.int b2), .val (.int b3), .val (.int b4), .unset, .unset, .unset] [(.int (2 : Int32))])) _
      exact k
    obtain ⟨_, _, ⟨T53, L53, k53, n53⟩, -, X53, ⟨Lc53, hQ53, l53, y53, z53⟩, st53⟩ := Jvm.LawKit.callS X0 hx (y := (⟨"com/example/tranche/tranche/TextFileTextStartPinLaw", "make", "(I)[B"⟩ : MethodName)) hown (mvT hZ (hw _ (List.mem_of_getElem? (i := 1) rfl))) (mvT hZ (hw _ (List.mem_of_getElem? (i := 2) rfl))) (mvT hZ (hw _ (List.mem_of_getElem? (i := 3) rfl))) (mvT hZ (hw _ (List.mem_of_getElem? (i := 4) rfl))) (by decide) (backOf (W := 0) (rm_make2 l Z a0 hw [] h0 n0 O0) hZ (hw _ (List.mem_of_getElem? (i := 4) rfl)) (hw _ (List.mem_of_getElem? (i := 3) rfl)) (by decide) (by decide)) (g := (mkF m 85 #[.val (.int p1), .val (.int p2), .val (.int p3), .val (.int p4), .val (.int p5), .val (.int p6), .val (.int (2 : Int32)), .val (.int ln), .val (.int b0), .val (.int b1), .val (.int b2), .val (.int b3), .val (.int b4), .unset, .unset, .unset] [(.int (2 : Int32))])) rfl (by rw [hml]; rfl) (argsL := [(.int (2 : Int32))]) (rest := []) (lenOf pd_law_0 rfl) rfl (by show 2 * 0 + _ ≤ _; exact Nat.le_of_eq rfl) (hb hby at_85) (fun _ _ => ⟨rfl, e0, (by decide : 0 + 1 ≤ _), (by decide : 0 + 2 ≤ _)⟩)
    dsimp only [Pt.U, Pt.locs, Pt.cells, Pt.slots] at X53 l53 y53 z53 st53 hQ53
    subst l53 y53 z53
    obtain ⟨m53, cA53, rfl, N53q, K53, gm53, Vm53⟩ := hQ53
    have N53 := Fr.app N0 N53q
    have O53 : Old Z n0 T53.heap := O0.keep K53 all0
    have pre_54 : ∀ t, Steps p.tables e below (T53.setTop (mkF m 88 #[.val (.int p1), .val (.int p2), .val (.int p3), .val (.int p4), .val (.int p5), .val (.int p6), .val (.int (2 : Int32)), .val (.int ln), .val (.int b0), .val (.int b1), .val (.int b2), .val (.int b3), .val (.int b4), .unset, .unset, .unset] [(.ref m53)])) t → Steps p.tables e below (s₁.setTop (entryFrame m #[(.int p1), (.int p2), (.int p3), (.int p4), (.int p5), (.int p6)] maxLocals)) t := fun t k => pre_52 t (st53 t k)
    have pre_55 : ∀ t, Steps p.tables e below (T53.setTop (mkF m 100 #[.val (.int p1), .val (.int p2), .val (.int p3), .val (.int p4), .val (.int p5), .val (.int p6), .val (.int (2 : Int32)), .val (.int ln), .val (.int b0), .val (.int b1), .val (.int b2), .val (.int b3), .val (.int b4), .val (.ref m53), .unset, .unset] [(.int b0), (.int (0 : Int32)), (.ref m53)])) t → Steps p.tables e below (s₁.setTop (entryFrame m #[(.int p1), (.int p2), (.int p3), (.int p4), (.int p5), (.int p6)] maxLocals)) t := by
      intro t k
      refine pre_54 t ?_
      show Steps p.tables e below (T53.setTop (mkF m 88 #[.val (.int p1), .val (.int p2), .val (.int p3), .val (.int p4), .val (.int p5), .val (.int p6), .val (.int (2 : Int32)), .val (.int ln), .val (.int b0), .val (.int b1), .val (.int b2), .val (.int b3), .val (.int b4), .unset, .unset, .unset] [(.ref m53)])) _
      refine XS.astore X53.here hx rfl (hb hby at_88) rfl rfl (l' := #[.val (.int p1), .val (.int p2), .val (.int p3), .val (.int p4), .val (.int p5), .val (.int p6), .val (.int (2 : Int32)), .val (.int ln), .val (.int b0), .val (.int b1), .val (.int b2), .val (.int b3), .val (.int b4), .val (.ref m53), .unset, .unset]) rfl ?_
      show Steps p.tables e below (T53.setTop (mkF m 90 #[.val (.int p1), .val (.int p2), .val (.int p3), .val (.int p4), .val (.int p5), .val (.int p6), .val (.int (2 : Int32)), .val (.int ln), .val (.int b0), .val (.int b1), .val (.int b2), .val (.int b3), .val (.int b4), .val (.ref m53), .unset, .unset] [])) _
      refine XS.iload X53.here hx rfl (hb hby at_90) rfl ?_
      show Steps p.tables e below (T53.setTop (mkF m 92 #[.val (.int p1), .val (.int p2), .val (.int p3), .val (.int p4), .val (.int p5), .val (.int p6), .val (.int (2 : Int32)), .val (.int ln), .val (.int b0), .val (.int b1), .val (.int b2), .val (.int b3), .val (.int b4), .val (.ref m53), .unset, .unset] [(.int (2 : Int32))])) _
      refine XS.ifNo X53.here hx rfl (hb hby at_92) rfl (XT.i0_le_f (by decide)) ?_
      show Steps p.tables e below (T53.setTop (mkF m 95 #[.val (.int p1), .val (.int p2), .val (.int p3), .val (.int p4), .val (.int p5), .val (.int p6), .val (.int (2 : Int32)), .val (.int ln), .val (.int b0), .val (.int b1), .val (.int b2), .val (.int b3), .val (.int b4), .val (.ref m53), .unset, .unset] [])) _
      refine XS.aload X53.here hx rfl (hb hby at_95) rfl rfl ?_
      show Steps p.tables e below (T53.setTop (mkF m 97 #[.val (.int p1), .val (.int p2), .val (.int p3), .val (.int p4), .val (.int p5), .val (.int p6), .val (.int (2 : Int32)), .val (.int ln), .val (.int b0), .val (.int b1), .val (.int b2), .val (.int b3), .val (.int b4), .val (.ref m53), .unset, .unset] [(.ref m53)])) _
      refine XS.iconst X53.here hx rfl (hb hby at_97) ?_
      show Steps p.tables e below (T53.setTop (mkF m 98 #[.val (.int p1), .val (.int p2), .val (.int p3), .val (.int p4), .val (.int p5), .val (.int p6), .val (.int (2 : Int32)), .val (.int ln), .val (.int b0), .val (.int b1), .val (.int b2), .val (.int b3), .val (.int b4), .val (.ref m53), .unset, .unset] [(.int (0 : Int32)), (.ref m53)])) _
      refine XS.iload X53.here hx rfl (hb hby at_98) rfl ?_
      show Steps p.tables e below (T53.setTop (mkF m 100 #[.val (.int p1), .val (.int p2), .val (.int p3), .val (.int p4), .val (.int p5), .val (.int p6), .val (.int (2 : Int32)), .val (.int ln), .val (.int b0), .val (.int b1), .val (.int b2), .val (.int b3), .val (.int b4), .val (.ref m53), .unset, .unset] [(.int b0), (.int (0 : Int32)), (.ref m53)])) _
      exact k
    obtain ⟨cl56, Ar56, q56, S56, M56, H56, G56⟩ := id Vm53
    obtain ⟨T56, h56, X56, e56, W56, st56⟩ := stB X53 hx hZ rfl Ar56 (j := (0 : Int32)) (inb_of S56 (by decide)) (g := (mkF m 100 #[.val (.int p1), .val (.int p2), .val (.int p3), .val (.int p4), .val (.int p5), .val (.int p6), .val (.int (2 : Int32)), .val (.int ln), .val (.int b0), .val (.int b1), .val (.int b2), .val (.int b3), .val (.int b4), .val (.ref m53), .unset, .unset] [(.int b0), (.int (0 : Int32)), (.ref m53)])) rfl rfl (hb hby at_100)
    have N56 := Fr.snoc X56 N53 gm53
    have O56 : Old Z n0 h56 := O53.wr W56 gm53
    rw [hb0] at W56
    have V56 : Arv Z h56 m53 cA53 .byte (2 : Int32) [(.int b0), (.int (0 : Int32))] (.int (0 : Int32)) := Arv.set Ar56 q56 S56 M56 H56 G56 (by rw [← hb0]; exact (fits_nar_byte _)) W56 0 rfl (Nat.le_of_ble_eq_true rfl)
    have pre_57 : ∀ t, Steps p.tables e below (T56.setTop (mkF m 101 #[.val (.int p1), .val (.int p2), .val (.int p3), .val (.int p4), .val (.int p5), .val (.int p6), .val (.int (2 : Int32)), .val (.int ln), .val (.int b0), .val (.int b1), .val (.int b2), .val (.int b3), .val (.int b4), .val (.ref m53), .unset, .unset] [])) t → Steps p.tables e below (s₁.setTop (entryFrame m #[(.int p1), (.int p2), (.int p3), (.int p4), (.int p5), (.int p6)] maxLocals)) t := fun t k => pre_55 t (st56 t k)
    have pre_58 : ∀ t, Steps p.tables e below (T56.setTop (mkF m 112 #[.val (.int p1), .val (.int p2), .val (.int p3), .val (.int p4), .val (.int p5), .val (.int p6), .val (.int (2 : Int32)), .val (.int ln), .val (.int b0), .val (.int b1), .val (.int b2), .val (.int b3), .val (.int b4), .val (.ref m53), .unset, .unset] [(.int b1), (.int (1 : Int32)), (.ref m53)])) t → Steps p.tables e below (s₁.setTop (entryFrame m #[(.int p1), (.int p2), (.int p3), (.int p4), (.int p5), (.int p6)] maxLocals)) t := by
      intro t k
      refine pre_57 t ?_
      show Steps p.tables e below (T56.setTop (mkF m 101 #[.val (.int p1), .val (.int p2), .val (.int p3), .val (.int p4), .val (.int p5), .val (.int p6), .val (.int (2 : Int32)), .val (.int ln), .val (.int b0), .val (.int b1), .val (.int b2), .val (.int b3), .val (.int b4), .val (.ref m53), .unset, .unset] [])) _
      refine XS.iload X56.here hx rfl (hb hby at_101) rfl ?_
      show Steps p.tables e below (T56.setTop (mkF m 103 #[.val (.int p1), .val (.int p2), .val (.int p3), .val (.int p4), .val (.int p5), .val (.int p6), .val (.int (2 : Int32)), .val (.int ln), .val (.int b0), .val (.int b1), .val (.int b2), .val (.int b3), .val (.int b4), .val (.ref m53), .unset, .unset] [(.int (2 : Int32))])) _
      refine XS.iconst X56.here hx rfl (hb hby at_103) ?_
      show Steps p.tables e below (T56.setTop (mkF m 104 #[.val (.int p1), .val (.int p2), .val (.int p3), .val (.int p4), .val (.int p5), .val (.int p6), .val (.int (2 : Int32)), .val (.int ln), .val (.int b0), .val (.int b1), .val (.int b2), .val (.int b3), .val (.int b4), .val (.ref m53), .unset, .unset] [(.int (1 : Int32)), (.int (2 : Int32))])) _
      refine XS.icmpNo X56.here hx rfl (hb hby at_104) rfl (XT.ii_le_f (by decide)) ?_
      show Steps p.tables e below (T56.setTop (mkF m 107 #[.val (.int p1), .val (.int p2), .val (.int p3), .val (.int p4), .val (.int p5), .val (.int p6), .val (.int (2 : Int32)), .val (.int ln), .val (.int b0), .val (.int b1), .val (.int b2), .val (.int b3), .val (.int b4), .val (.ref m53), .unset, .unset] [])) _
      refine XS.aload X56.here hx rfl (hb hby at_107) rfl rfl ?_
      show Steps p.tables e below (T56.setTop (mkF m 109 #[.val (.int p1), .val (.int p2), .val (.int p3), .val (.int p4), .val (.int p5), .val (.int p6), .val (.int (2 : Int32)), .val (.int ln), .val (.int b0), .val (.int b1), .val (.int b2), .val (.int b3), .val (.int b4), .val (.ref m53), .unset, .unset] [(.ref m53)])) _
      refine XS.iconst X56.here hx rfl (hb hby at_109) ?_
      show Steps p.tables e below (T56.setTop (mkF m 110 #[.val (.int p1), .val (.int p2), .val (.int p3), .val (.int p4), .val (.int p5), .val (.int p6), .val (.int (2 : Int32)), .val (.int ln), .val (.int b0), .val (.int b1), .val (.int b2), .val (.int b3), .val (.int b4), .val (.ref m53), .unset, .unset] [(.int (1 : Int32)), (.ref m53)])) _
      refine XS.iload X56.here hx rfl (hb hby at_110) rfl ?_
      show Steps p.tables e below (T56.setTop (mkF m 112 #[.val (.int p1), .val (.int p2), .val (.int p3), .val (.int p4), .val (.int p5), .val (.int p6), .val (.int (2 : Int32)), .val (.int ln), .val (.int b0), .val (.int b1), .val (.int b2), .val (.int b3), .val (.int b4), .val (.ref m53), .unset, .unset] [(.int b1), (.int (1 : Int32)), (.ref m53)])) _
      exact k
    obtain ⟨cl59, Ar59, q59, S59, M59, H59, G59⟩ := id V56
    obtain ⟨T59, h59, X59, e59, W59, st59⟩ := stB X56 hx hZ e56 Ar59 (j := (1 : Int32)) (inb_of S59 (by decide)) (g := (mkF m 112 #[.val (.int p1), .val (.int p2), .val (.int p3), .val (.int p4), .val (.int p5), .val (.int p6), .val (.int (2 : Int32)), .val (.int ln), .val (.int b0), .val (.int b1), .val (.int b2), .val (.int b3), .val (.int b4), .val (.ref m53), .unset, .unset] [(.int b1), (.int (1 : Int32)), (.ref m53)])) rfl rfl (hb hby at_112)
    have N59 := Fr.snoc X59 N56 gm53
    have O59 : Old Z n0 h59 := O56.wr W59 gm53
    rw [hb1] at W59
    have V59 : Arv Z h59 m53 cA53 .byte (2 : Int32) [(.int b0), (.int b1)] (.int (0 : Int32)) := Arv.set Ar59 q59 S59 M59 H59 G59 (by rw [← hb1]; exact (fits_nar_byte _)) W59 1 rfl (Nat.le_of_ble_eq_true rfl)
    have pre_60 : ∀ t, Steps p.tables e below (T59.setTop (mkF m 113 #[.val (.int p1), .val (.int p2), .val (.int p3), .val (.int p4), .val (.int p5), .val (.int p6), .val (.int (2 : Int32)), .val (.int ln), .val (.int b0), .val (.int b1), .val (.int b2), .val (.int b3), .val (.int b4), .val (.ref m53), .unset, .unset] [])) t → Steps p.tables e below (s₁.setTop (entryFrame m #[(.int p1), (.int p2), (.int p3), (.int p4), (.int p5), (.int p6)] maxLocals)) t := fun t k => pre_58 t (st59 t k)
    have pre_61 : ∀ t, Steps p.tables e below (T59.setTop (mkF m 186 #[.val (.int p1), .val (.int p2), .val (.int p3), .val (.int p4), .val (.int p5), .val (.int p6), .val (.int (2 : Int32)), .val (.int ln), .val (.int b0), .val (.int b1), .val (.int b2), .val (.int b3), .val (.int b4), .val (.ref m53), .val (.int (0 : Int32)), .unset] [(.int ln), (.ref m53)])) t → Steps p.tables e below (s₁.setTop (entryFrame m #[(.int p1), (.int p2), (.int p3), (.int p4), (.int p5), (.int p6)] maxLocals)) t := by
      intro t k
      refine pre_60 t ?_
      show Steps p.tables e below (T59.setTop (mkF m 113 #[.val (.int p1), .val (.int p2), .val (.int p3), .val (.int p4), .val (.int p5), .val (.int p6), .val (.int (2 : Int32)), .val (.int ln), .val (.int b0), .val (.int b1), .val (.int b2), .val (.int b3), .val (.int b4), .val (.ref m53), .unset, .unset] [])) _
      refine XS.iload X59.here hx rfl (hb hby at_113) rfl ?_
      show Steps p.tables e below (T59.setTop (mkF m 115 #[.val (.int p1), .val (.int p2), .val (.int p3), .val (.int p4), .val (.int p5), .val (.int p6), .val (.int (2 : Int32)), .val (.int ln), .val (.int b0), .val (.int b1), .val (.int b2), .val (.int b3), .val (.int b4), .val (.ref m53), .unset, .unset] [(.int (2 : Int32))])) _
      refine XS.iconst X59.here hx rfl (hb hby at_115) ?_
      show Steps p.tables e below (T59.setTop (mkF m 116 #[.val (.int p1), .val (.int p2), .val (.int p3), .val (.int p4), .val (.int p5), .val (.int p6), .val (.int (2 : Int32)), .val (.int ln), .val (.int b0), .val (.int b1), .val (.int b2), .val (.int b3), .val (.int b4), .val (.ref m53), .unset, .unset] [(.int (2 : Int32)), (.int (2 : Int32))])) _
      refine XS.icmpYes X59.here hx rfl (pc0 := 116) (pc' := 125) rfl (hb hby at_116) rfl (XT.ii_le_t (by decide)) (by decide) (by decide) ?_
      show Steps p.tables e below (T59.setTop (mkF m 125 #[.val (.int p1), .val (.int p2), .val (.int p3), .val (.int p4), .val (.int p5), .val (.int p6), .val (.int (2 : Int32)), .val (.int ln), .val (.int b0), .val (.int b1), .val (.int b2), .val (.int b3), .val (.int b4), .val (.ref m53), .unset, .unset] [])) _
      refine XS.iload X59.here hx rfl (hb hby at_125) rfl ?_
      show Steps p.tables e below (T59.setTop (mkF m 127 #[.val (.int p1), .val (.int p2), .val (.int p3), .val (.int p4), .val (.int p5), .val (.int p6), .val (.int (2 : Int32)), .val (.int ln), .val (.int b0), .val (.int b1), .val (.int b2), .val (.int b3), .val (.int b4), .val (.ref m53), .unset, .unset] [(.int (2 : Int32))])) _
      refine XS.iconst X59.here hx rfl (hb hby at_127) ?_
      show Steps p.tables e below (T59.setTop (mkF m 128 #[.val (.int p1), .val (.int p2), .val (.int p3), .val (.int p4), .val (.int p5), .val (.int p6), .val (.int (2 : Int32)), .val (.int ln), .val (.int b0), .val (.int b1), .val (.int b2), .val (.int b3), .val (.int b4), .val (.ref m53), .unset, .unset] [(.int (3 : Int32)), (.int (2 : Int32))])) _
      refine XS.icmpYes X59.here hx rfl (pc0 := 128) (pc' := 137) rfl (hb hby at_128) rfl (XT.ii_le_t (by decide)) (by decide) (by decide) ?_
      show Steps p.tables e below (T59.setTop (mkF m 137 #[.val (.int p1), .val (.int p2), .val (.int p3), .val (.int p4), .val (.int p5), .val (.int p6), .val (.int (2 : Int32)), .val (.int ln), .val (.int b0), .val (.int b1), .val (.int b2), .val (.int b3), .val (.int b4), .val (.ref m53), .unset, .unset] [])) _
      refine XS.iload X59.here hx rfl (hb hby at_137) rfl ?_
      show Steps p.tables e below (T59.setTop (mkF m 139 #[.val (.int p1), .val (.int p2), .val (.int p3), .val (.int p4), .val (.int p5), .val (.int p6), .val (.int (2 : Int32)), .val (.int ln), .val (.int b0), .val (.int b1), .val (.int b2), .val (.int b3), .val (.int b4), .val (.ref m53), .unset, .unset] [(.int (2 : Int32))])) _
      refine XS.iconst X59.here hx rfl (hb hby at_139) ?_
      show Steps p.tables e below (T59.setTop (mkF m 140 #[.val (.int p1), .val (.int p2), .val (.int p3), .val (.int p4), .val (.int p5), .val (.int p6), .val (.int (2 : Int32)), .val (.int ln), .val (.int b0), .val (.int b1), .val (.int b2), .val (.int b3), .val (.int b4), .val (.ref m53), .unset, .unset] [(.int (4 : Int32)), (.int (2 : Int32))])) _
      refine XS.icmpYes X59.here hx rfl (pc0 := 140) (pc' := 149) rfl (hb hby at_140) rfl (XT.ii_le_t (by decide)) (by decide) (by decide) ?_
      show Steps p.tables e below (T59.setTop (mkF m 149 #[.val (.int p1), .val (.int p2), .val (.int p3), .val (.int p4), .val (.int p5), .val (.int p6), .val (.int (2 : Int32)), .val (.int ln), .val (.int b0), .val (.int b1), .val (.int b2), .val (.int b3), .val (.int b4), .val (.ref m53), .unset, .unset] [])) _
      refine XS.iconst X59.here hx rfl (hb hby at_149) ?_
      show Steps p.tables e below (T59.setTop (mkF m 150 #[.val (.int p1), .val (.int p2), .val (.int p3), .val (.int p4), .val (.int p5), .val (.int p6), .val (.int (2 : Int32)), .val (.int ln), .val (.int b0), .val (.int b1), .val (.int b2), .val (.int b3), .val (.int b4), .val (.ref m53), .unset, .unset] [(.int (0 : Int32))])) _
      refine XS.istore X59.here hx rfl (hb hby at_150) rfl (l' := #[.val (.int p1), .val (.int p2), .val (.int p3), .val (.int p4), .val (.int p5), .val (.int p6), .val (.int (2 : Int32)), .val (.int ln), .val (.int b0), .val (.int b1), .val (.int b2), .val (.int b3), .val (.int b4), .val (.ref m53), .val (.int (0 : Int32)), .unset]) rfl ?_
      show Steps p.tables e below (T59.setTop (mkF m 152 #[.val (.int p1), .val (.int p2), .val (.int p3), .val (.int p4), .val (.int p5), .val (.int p6), .val (.int (2 : Int32)), .val (.int ln), .val (.int b0), .val (.int b1), .val (.int b2), .val (.int b3), .val (.int b4), .val (.ref m53), .val (.int (0 : Int32)), .unset] [])) _
      refine XS.iload X59.here hx rfl (hb hby at_152) rfl ?_
      show Steps p.tables e below (T59.setTop (mkF m 154 #[.val (.int p1), .val (.int p2), .val (.int p3), .val (.int p4), .val (.int p5), .val (.int p6), .val (.int (2 : Int32)), .val (.int ln), .val (.int b0), .val (.int b1), .val (.int b2), .val (.int b3), .val (.int b4), .val (.ref m53), .val (.int (0 : Int32)), .unset] [(.int ln)])) _
      refine XS.iconst X59.here hx rfl (hb hby at_154) ?_
      show Steps p.tables e below (T59.setTop (mkF m 155 #[.val (.int p1), .val (.int p2), .val (.int p3), .val (.int p4), .val (.int p5), .val (.int p6), .val (.int (2 : Int32)), .val (.int ln), .val (.int b0), .val (.int b1), .val (.int b2), .val (.int b3), .val (.int b4), .val (.ref m53), .val (.int (0 : Int32)), .unset] [(.int (3 : Int32)), (.int ln)])) _
      refine XS.icmpYes X59.here hx rfl (pc0 := 155) (pc' := 182) rfl (hb hby at_155) rfl (XT.ii_lt_t hln) (by decide) (by decide) ?_
      show Steps p.tables e below (T59.setTop (mkF m 182 #[.val (.int p1), .val (.int p2), .val (.int p3), .val (.int p4), .val (.int p5), .val (.int p6), .val (.int (2 : Int32)), .val (.int ln), .val (.int b0), .val (.int b1), .val (.int b2), .val (.int b3), .val (.int b4), .val (.ref m53), .val (.int (0 : Int32)), .unset] [])) _
      refine XS.aload X59.here hx rfl (hb hby at_182) rfl rfl ?_
      show Steps p.tables e below (T59.setTop (mkF m 184 #[.val (.int p1), .val (.int p2), .val (.int p3), .val (.int p4), .val (.int p5), .val (.int p6), .val (.int (2 : Int32)), .val (.int ln), .val (.int b0), .val (.int b1), .val (.int b2), .val (.int b3), .val (.int b4), .val (.ref m53), .val (.int (0 : Int32)), .unset] [(.ref m53)])) _
      refine XS.iload X59.here hx rfl (hb hby at_184) rfl ?_
      show Steps p.tables e below (T59.setTop (mkF m 186 #[.val (.int p1), .val (.int p2), .val (.int p3), .val (.int p4), .val (.int p5), .val (.int p6), .val (.int (2 : Int32)), .val (.int ln), .val (.int b0), .val (.int b1), .val (.int b2), .val (.int b3), .val (.int b4), .val (.ref m53), .val (.int (0 : Int32)), .unset] [(.int ln), (.ref m53)])) _
      exact k
    obtain ⟨_, _, ⟨T62, L62, k62, n62⟩, -, X62, ⟨Lc62, hQ62, l62, y62, z62⟩, st62⟩ := Jvm.LawKit.callS X59 hx (y := (⟨"com/example/tranche/tranche/TextFile", "textStart", "([BI)I"⟩ : MethodName)) hown (mvT hZ (hw _ (List.mem_of_getElem? (i := 6) rfl))) (mvT hZ (hw _ (List.mem_of_getElem? (i := 7) rfl))) (mvT hZ (hw _ (List.mem_of_getElem? (i := 8) rfl))) (mvT hZ (hw _ (List.mem_of_getElem? (i := 9) rfl))) (by decide) (backOf (W := 0) (rm_ts0 l Z a0 hw [] m53 ln aB kB h59 n0 O59 SB VB hln) hZ (hw _ (List.mem_of_getElem? (i := 9) rfl)) (hw _ (List.mem_of_getElem? (i := 8) rfl)) (by decide) (by decide)) (g := (mkF m 186 #[.val (.int p1), .val (.int p2), .val (.int p3), .val (.int p4), .val (.int p5), .val (.int p6), .val (.int (2 : Int32)), .val (.int ln), .val (.int b0), .val (.int b1), .val (.int b2), .val (.int b3), .val (.int b4), .val (.ref m53), .val (.int (0 : Int32)), .unset] [(.int ln), (.ref m53)])) rfl (by rw [hml]; rfl) (argsL := [(.ref m53), (.int ln)]) (rest := []) (lenOf pd_law_1 rfl) rfl (by show 2 * 0 + _ ≤ _; exact Nat.le_of_eq rfl) (hb hby at_186) (fun _ _ => ⟨rfl, e59, (by decide : 1 + 0 ≤ _), (by decide : 2 + 0 ≤ _)⟩)
    dsimp only [Pt.U, Pt.locs, Pt.cells, Pt.slots] at X62 l62 y62 z62 st62 hQ62
    subst l62 y62 z62
    obtain ⟨rfl, N62q, e62⟩ := hQ62
    have N62 := Fr.app N59 N62q
    have pre_63 : ∀ t, Steps p.tables e below (T62.setTop (mkF m 189 #[.val (.int p1), .val (.int p2), .val (.int p3), .val (.int p4), .val (.int p5), .val (.int p6), .val (.int (2 : Int32)), .val (.int ln), .val (.int b0), .val (.int b1), .val (.int b2), .val (.int b3), .val (.int b4), .val (.ref m53), .val (.int (0 : Int32)), .unset] [(.int (0 : Int32))])) t → Steps p.tables e below (s₁.setTop (entryFrame m #[(.int p1), (.int p2), (.int p3), (.int p4), (.int p5), (.int p6)] maxLocals)) t := fun t k => pre_61 t (st62 t k)
    have pre_64 : ∀ t, Steps p.tables e below (T62.setTop (mkF m 203 #[.val (.int p1), .val (.int p2), .val (.int p3), .val (.int p4), .val (.int p5), .val (.int p6), .val (.int (2 : Int32)), .val (.int ln), .val (.int b0), .val (.int b1), .val (.int b2), .val (.int b3), .val (.int b4), .val (.ref m53), .val (.int (0 : Int32)), .val (.int (0 : Int32))] [(.int (1 : Int32))])) t → Steps p.tables e below (s₁.setTop (entryFrame m #[(.int p1), (.int p2), (.int p3), (.int p4), (.int p5), (.int p6)] maxLocals)) t := by
      intro t k
      refine pre_63 t ?_
      show Steps p.tables e below (T62.setTop (mkF m 189 #[.val (.int p1), .val (.int p2), .val (.int p3), .val (.int p4), .val (.int p5), .val (.int p6), .val (.int (2 : Int32)), .val (.int ln), .val (.int b0), .val (.int b1), .val (.int b2), .val (.int b3), .val (.int b4), .val (.ref m53), .val (.int (0 : Int32)), .unset] [(.int (0 : Int32))])) _
      refine XS.istore X62.here hx rfl (hb hby at_189) rfl (l' := #[.val (.int p1), .val (.int p2), .val (.int p3), .val (.int p4), .val (.int p5), .val (.int p6), .val (.int (2 : Int32)), .val (.int ln), .val (.int b0), .val (.int b1), .val (.int b2), .val (.int b3), .val (.int b4), .val (.ref m53), .val (.int (0 : Int32)), .val (.int (0 : Int32))]) rfl ?_
      show Steps p.tables e below (T62.setTop (mkF m 191 #[.val (.int p1), .val (.int p2), .val (.int p3), .val (.int p4), .val (.int p5), .val (.int p6), .val (.int (2 : Int32)), .val (.int ln), .val (.int b0), .val (.int b1), .val (.int b2), .val (.int b3), .val (.int b4), .val (.ref m53), .val (.int (0 : Int32)), .val (.int (0 : Int32))] [])) _
      refine XS.iload X62.here hx rfl (hb hby at_191) rfl ?_
      show Steps p.tables e below (T62.setTop (mkF m 193 #[.val (.int p1), .val (.int p2), .val (.int p3), .val (.int p4), .val (.int p5), .val (.int p6), .val (.int (2 : Int32)), .val (.int ln), .val (.int b0), .val (.int b1), .val (.int b2), .val (.int b3), .val (.int b4), .val (.ref m53), .val (.int (0 : Int32)), .val (.int (0 : Int32))] [(.int (0 : Int32))])) _
      refine XS.iload X62.here hx rfl (hb hby at_193) rfl ?_
      show Steps p.tables e below (T62.setTop (mkF m 195 #[.val (.int p1), .val (.int p2), .val (.int p3), .val (.int p4), .val (.int p5), .val (.int p6), .val (.int (2 : Int32)), .val (.int ln), .val (.int b0), .val (.int b1), .val (.int b2), .val (.int b3), .val (.int b4), .val (.ref m53), .val (.int (0 : Int32)), .val (.int (0 : Int32))] [(.int (0 : Int32)), (.int (0 : Int32))])) _
      refine XS.icmpNo X62.here hx rfl (hb hby at_195) rfl (XT.ii_ne_f (by decide)) ?_
      show Steps p.tables e below (T62.setTop (mkF m 198 #[.val (.int p1), .val (.int p2), .val (.int p3), .val (.int p4), .val (.int p5), .val (.int p6), .val (.int (2 : Int32)), .val (.int ln), .val (.int b0), .val (.int b1), .val (.int b2), .val (.int b3), .val (.int b4), .val (.ref m53), .val (.int (0 : Int32)), .val (.int (0 : Int32))] [])) _
      refine XS.iconst X62.here hx rfl (hb hby at_198) ?_
      show Steps p.tables e below (T62.setTop (mkF m 199 #[.val (.int p1), .val (.int p2), .val (.int p3), .val (.int p4), .val (.int p5), .val (.int p6), .val (.int (2 : Int32)), .val (.int ln), .val (.int b0), .val (.int b1), .val (.int b2), .val (.int b3), .val (.int b4), .val (.ref m53), .val (.int (0 : Int32)), .val (.int (0 : Int32))] [(.int (1 : Int32))])) _
      refine XS.goto X62.here hx rfl (pc0 := 199) (pc' := 203) rfl (hb hby at_199) (by decide) (by decide) ?_
      show Steps p.tables e below (T62.setTop (mkF m 203 #[.val (.int p1), .val (.int p2), .val (.int p3), .val (.int p4), .val (.int p5), .val (.int p6), .val (.int (2 : Int32)), .val (.int ln), .val (.int b0), .val (.int b1), .val (.int b2), .val (.int b3), .val (.int b4), .val (.ref m53), .val (.int (0 : Int32)), .val (.int (0 : Int32))] [(.int (1 : Int32))])) _
      exact k
    obtain ⟨fs, hr, hrun, hended, hW, hsame⟩ := X62.leave (v := some (.int (1 : Int32))) (fun h => by rw [Bd.returns] at h; cases h)
    refine ⟨_, _, pre_64 _ ?_, hrun, hended, _, _, rfl, ?_, ⟨_, rfl⟩, hW, hsame.mono (by decide) (by decide)⟩
    · show Steps p.tables e below (T62.setTop (mkF m 203 #[.val (.int p1), .val (.int p2), .val (.int p3), .val (.int p4), .val (.int p5), .val (.int p6), .val (.int (2 : Int32)), .val (.int ln), .val (.int b0), .val (.int b1), .val (.int b2), .val (.int b3), .val (.int b4), .val (.ref m53), .val (.int (0 : Int32)), .val (.int (0 : Int32))] [(.int (1 : Int32))])) _
      exact retN X62 hx (t := .boolean) Bd.returns (by simp) (hb hby at_203) hr
    · show Q_law Z p1 p2 p3 p4 p5 p6 aB kB h0 n0 _ T62.heap _
      rw [e62]
      exact ⟨rfl, N62⟩
  · skip
    rw [hs] at pre_1
    have pre_65 : ∀ t, Steps p.tables e below (s₁.setTop (mkF m 24 #[.val (.int p1), .val (.int p2), .val (.int p3), .val (.int p4), .val (.int p5), .val (.int p6), .val (.int (3 : Int32)), .val (.int (((XT.ushr p6 (3 : Int32)) &&& (2147483647 : Int32)) % (4 : Int32))), .unset, .unset, .unset, .unset, .unset, .unset, .unset, .unset] [])) t → Steps p.tables e below (s₁.setTop (entryFrame m #[(.int p1), (.int p2), (.int p3), (.int p4), (.int p5), (.int p6)] maxLocals)) t := by
      intro t k
      refine pre_1 t ?_
      show Steps p.tables e below (s₁.setTop (mkF m 10 #[.val (.int p1), .val (.int p2), .val (.int p3), .val (.int p4), .val (.int p5), .val (.int p6), .val (.int (3 : Int32)), .unset, .unset, .unset, .unset, .unset, .unset, .unset, .unset, .unset] [])) _
      refine XS.iload X0.here hx rfl (hb hby at_10) rfl ?_
      show Steps p.tables e below (s₁.setTop (mkF m 12 #[.val (.int p1), .val (.int p2), .val (.int p3), .val (.int p4), .val (.int p5), .val (.int p6), .val (.int (3 : Int32)), .unset, .unset, .unset, .unset, .unset, .unset, .unset, .unset, .unset] [(.int p6)])) _
      refine XS.iconst X0.here hx rfl (hb hby at_12) ?_
      show Steps p.tables e below (s₁.setTop (mkF m 13 #[.val (.int p1), .val (.int p2), .val (.int p3), .val (.int p4), .val (.int p5), .val (.int p6), .val (.int (3 : Int32)), .unset, .unset, .unset, .unset, .unset, .unset, .unset, .unset, .unset] [(.int (3 : Int32)), (.int p6)])) _
      refine XT.iushr X0.here hx rfl (hb hby at_13) rfl ?_
      show Steps p.tables e below (s₁.setTop (mkF m 14 #[.val (.int p1), .val (.int p2), .val (.int p3), .val (.int p4), .val (.int p5), .val (.int p6), .val (.int (3 : Int32)), .unset, .unset, .unset, .unset, .unset, .unset, .unset, .unset, .unset] [(.int (XT.ushr p6 (3 : Int32)))])) _
      refine X0.ldcInt hx hown (mvT hZ (hw _ (List.mem_of_getElem? (i := 0) rfl))) (g := (mkF m 14 #[.val (.int p1), .val (.int p2), .val (.int p3), .val (.int p4), .val (.int p5), .val (.int p6), .val (.int (3 : Int32)), .unset, .unset, .unset, .unset, .unset, .unset, .unset, .unset, .unset] [(.int (XT.ushr p6 (3 : Int32)))])) rfl (hb hby at_14) _ ?_
      show Steps p.tables e below (s₁.setTop (mkF m 16 #[.val (.int p1), .val (.int p2), .val (.int p3), .val (.int p4), .val (.int p5), .val (.int p6), .val (.int (3 : Int32)), .unset, .unset, .unset, .unset, .unset, .unset, .unset, .unset, .unset] [(.int (2147483647 : Int32)), (.int (XT.ushr p6 (3 : Int32)))])) _
      refine XS.iand X0.here hx rfl (hb hby at_16) rfl ?_
      show Steps p.tables e below (s₁.setTop (mkF m 17 #[.val (.int p1), .val (.int p2), .val (.int p3), .val (.int p4), .val (.int p5), .val (.int p6), .val (.int (3 : Int32)), .unset, .unset, .unset, .unset, .unset, .unset, .unset, .unset, .unset] [(.int ((XT.ushr p6 (3 : Int32)) &&& (2147483647 : Int32)))])) _
      refine XS.iload X0.here hx rfl (hb hby at_17) rfl ?_
      show Steps p.tables e below (s₁.setTop (mkF m 19 #[.val (.int p1), .val (.int p2), .val (.int p3), .val (.int p4), .val (.int p5), .val (.int p6), .val (.int (3 : Int32)), .unset, .unset, .unset, .unset, .unset, .unset, .unset, .unset, .unset] [(.int (3 : Int32)), (.int ((XT.ushr p6 (3 : Int32)) &&& (2147483647 : Int32)))])) _
      refine XS.iconst X0.here hx rfl (hb hby at_19) ?_
      show Steps p.tables e below (s₁.setTop (mkF m 20 #[.val (.int p1), .val (.int p2), .val (.int p3), .val (.int p4), .val (.int p5), .val (.int p6), .val (.int (3 : Int32)), .unset, .unset, .unset, .unset, .unset, .unset, .unset, .unset, .unset] [(.int (1 : Int32)), (.int (3 : Int32)), (.int ((XT.ushr p6 (3 : Int32)) &&& (2147483647 : Int32)))])) _
      refine XS.iadd X0.here hx rfl (hb hby at_20) rfl ?_
      show Steps p.tables e below (s₁.setTop (mkF m 21 #[.val (.int p1), .val (.int p2), .val (.int p3), .val (.int p4), .val (.int p5), .val (.int p6), .val (.int (3 : Int32)), .unset, .unset, .unset, .unset, .unset, .unset, .unset, .unset, .unset] [(.int (4 : Int32)), (.int ((XT.ushr p6 (3 : Int32)) &&& (2147483647 : Int32)))])) _
      refine iremM X0 hx rfl (hb hby at_21) rfl (by decide) ?_
      show Steps p.tables e below (s₁.setTop (mkF m 22 #[.val (.int p1), .val (.int p2), .val (.int p3), .val (.int p4), .val (.int p5), .val (.int p6), .val (.int (3 : Int32)), .unset, .unset, .unset, .unset, .unset, .unset, .unset, .unset, .unset] [(.int (((XT.ushr p6 (3 : Int32)) &&& (2147483647 : Int32)) % (4 : Int32)))])) _
      refine XS.istore X0.here hx rfl (hb hby at_22) rfl (l' := #[.val (.int p1), .val (.int p2), .val (.int p3), .val (.int p4), .val (.int p5), .val (.int p6), .val (.int (3 : Int32)), .val (.int (((XT.ushr p6 (3 : Int32)) &&& (2147483647 : Int32)) % (4 : Int32))), .unset, .unset, .unset, .unset, .unset, .unset, .unset, .unset]) rfl ?_
      show Steps p.tables e below (s₁.setTop (mkF m 24 #[.val (.int p1), .val (.int p2), .val (.int p3), .val (.int p4), .val (.int p5), .val (.int p6), .val (.int (3 : Int32)), .val (.int (((XT.ushr p6 (3 : Int32)) &&& (2147483647 : Int32)) % (4 : Int32))), .unset, .unset, .unset, .unset, .unset, .unset, .unset, .unset] [])) _
      exact k
    skip
    generalize (((XT.ushr p6 (3 : Int32)) &&& (2147483647 : Int32)) % (4 : Int32)) = ln at pre_65
    have pre_66 : ∀ t, Steps p.tables e below (s₁.setTop (mkF m 28 #[.val (.int p1), .val (.int p2), .val (.int p3), .val (.int p4), .val (.int p5), .val (.int p6), .val (.int (3 : Int32)), .val (.int ln), .unset, .unset, .unset, .unset, .unset, .unset, .unset, .unset] [(.int (p5 &&& (1 : Int32)))])) t → Steps p.tables e below (s₁.setTop (entryFrame m #[(.int p1), (.int p2), (.int p3), (.int p4), (.int p5), (.int p6)] maxLocals)) t := by
      intro t k
      refine pre_65 t ?_
      show Steps p.tables e below (s₁.setTop (mkF m 24 #[.val (.int p1), .val (.int p2), .val (.int p3), .val (.int p4), .val (.int p5), .val (.int p6), .val (.int (3 : Int32)), .val (.int ln), .unset, .unset, .unset, .unset, .unset, .unset, .unset, .unset] [])) _
      refine XS.iload X0.here hx rfl (hb hby at_24) rfl ?_
      show Steps p.tables e below (s₁.setTop (mkF m 26 #[.val (.int p1), .val (.int p2), .val (.int p3), .val (.int p4), .val (.int p5), .val (.int p6), .val (.int (3 : Int32)), .val (.int ln), .unset, .unset, .unset, .unset, .unset, .unset, .unset, .unset] [(.int p5)])) _
      refine XS.iconst X0.here hx rfl (hb hby at_26) ?_
      show Steps p.tables e below (s₁.setTop (mkF m 27 #[.val (.int p1), .val (.int p2), .val (.int p3), .val (.int p4), .val (.int p5), .val (.int p6), .val (.int (3 : Int32)), .val (.int ln), .unset, .unset, .unset, .unset, .unset, .unset, .unset, .unset] [(.int (1 : Int32)), (.int p5)])) _
      refine XS.iand X0.here hx rfl (hb hby at_27) rfl ?_
      show Steps p.tables e below (s₁.setTop (mkF m 28 #[.val (.int p1), .val (.int p2), .val (.int p3), .val (.int p4), .val (.int p5), .val (.int p6), .val (.int (3 : Int32)), .val (.int ln), .unset, .unset, .unset, .unset, .unset, .unset, .unset, .unset] [(.int (p5 &&& (1 : Int32)))])) _
      exact k
    have pre_68 : ∀ t, Steps p.tables e below (s₁.setTop (mkF m 38 #[.val (.int p1), .val (.int p2), .val (.int p3), .val (.int p4), .val (.int p5), .val (.int p6), .val (.int (3 : Int32)), .val (.int ln), .unset, .unset, .unset, .unset, .unset, .unset, .unset, .unset] [(.int (if (p5 &&& (1 : Int32)) = (0 : Int32) then ((p1).toInt8.toInt32) else (-17 : Int32)))])) t → Steps p.tables e below (s₁.setTop (entryFrame m #[(.int p1), (.int p2), (.int p3), (.int p4), (.int p5), (.int p6)] maxLocals)) t := by
      intro t k
      refine pre_66 t ?_
      by_cases hm67 : (p5 &&& (1 : Int32)) = (0 : Int32)
      · skip
        show Steps p.tables e below (s₁.setTop (mkF m 28 #[.val (.int p1), .val (.int p2), .val (.int p3), .val (.int p4), .val (.int p5), .val (.int p6), .val (.int (3 : Int32)), .val (.int ln), .unset, .unset, .unset, .unset, .unset, .unset, .unset, .unset] [(.int (p5 &&& (1 : Int32)))])) _
        refine XS.ifYes X0.here hx rfl (pc0 := 28) (pc' := 36) rfl (hb hby at_28) rfl (XT.i0_eq_t hm67) (by decide) (by decide) ?_
        show Steps p.tables e below (s₁.setTop (mkF m 36 #[.val (.int p1), .val (.int p2), .val (.int p3), .val (.int p4), .val (.int p5), .val (.int p6), .val (.int (3 : Int32)), .val (.int ln), .unset, .unset, .unset, .unset, .unset, .unset, .unset, .unset] [])) _
        refine XS.iloadN X0.here hx rfl (hb hby at_36) rfl ?_
        show Steps p.tables e below (s₁.setTop (mkF m 37 #[.val (.int p1), .val (.int p2), .val (.int p3), .val (.int p4), .val (.int p5), .val (.int p6), .val (.int (3 : Int32)), .val (.int ln), .unset, .unset, .unset, .unset, .unset, .unset, .unset, .unset] [(.int p1)])) _
        refine XT.i2b X0.here hx rfl (hb hby at_37) rfl ?_
        show Steps p.tables e below (s₁.setTop (mkF m 38 #[.val (.int p1), .val (.int p2), .val (.int p3), .val (.int p4), .val (.int p5), .val (.int p6), .val (.int (3 : Int32)), .val (.int ln), .unset, .unset, .unset, .unset, .unset, .unset, .unset, .unset] [(.int ((p1).toInt8.toInt32))])) _
        first | exact k | (simp only [if_pos hm67] at k; exact k)
      · skip
        show Steps p.tables e below (s₁.setTop (mkF m 28 #[.val (.int p1), .val (.int p2), .val (.int p3), .val (.int p4), .val (.int p5), .val (.int p6), .val (.int (3 : Int32)), .val (.int ln), .unset, .unset, .unset, .unset, .unset, .unset, .unset, .unset] [(.int (p5 &&& (1 : Int32)))])) _
        refine XS.ifNo X0.here hx rfl (hb hby at_28) rfl (XT.i0_eq_f hm67) ?_
        show Steps p.tables e below (s₁.setTop (mkF m 31 #[.val (.int p1), .val (.int p2), .val (.int p3), .val (.int p4), .val (.int p5), .val (.int p6), .val (.int (3 : Int32)), .val (.int ln), .unset, .unset, .unset, .unset, .unset, .unset, .unset, .unset] [])) _
        refine XS.bipush X0.here hx rfl (hb hby at_31) ?_
        show Steps p.tables e below (s₁.setTop (mkF m 33 #[.val (.int p1), .val (.int p2), .val (.int p3), .val (.int p4), .val (.int p5), .val (.int p6), .val (.int (3 : Int32)), .val (.int ln), .unset, .unset, .unset, .unset, .unset, .unset, .unset, .unset] [(.int (-17 : Int32))])) _
        refine XS.goto X0.here hx rfl (pc0 := 33) (pc' := 38) rfl (hb hby at_33) (by decide) (by decide) ?_
        show Steps p.tables e below (s₁.setTop (mkF m 38 #[.val (.int p1), .val (.int p2), .val (.int p3), .val (.int p4), .val (.int p5), .val (.int p6), .val (.int (3 : Int32)), .val (.int ln), .unset, .unset, .unset, .unset, .unset, .unset, .unset, .unset] [(.int (-17 : Int32))])) _
        first | exact k | (simp only [if_neg hm67] at k; exact k)
    have pre_69 : ∀ t, Steps p.tables e below (s₁.setTop (mkF m 44 #[.val (.int p1), .val (.int p2), .val (.int p3), .val (.int p4), .val (.int p5), .val (.int p6), .val (.int (3 : Int32)), .val (.int ln), .val (.int (if (p5 &&& (1 : Int32)) = (0 : Int32) then ((p1).toInt8.toInt32) else (-17 : Int32))), .unset, .unset, .unset, .unset, .unset, .unset, .unset] [(.int (p5 &&& (2 : Int32)))])) t → Steps p.tables e below (s₁.setTop (entryFrame m #[(.int p1), (.int p2), (.int p3), (.int p4), (.int p5), (.int p6)] maxLocals)) t := by
      intro t k
      refine pre_68 t ?_
      show Steps p.tables e below (s₁.setTop (mkF m 38 #[.val (.int p1), .val (.int p2), .val (.int p3), .val (.int p4), .val (.int p5), .val (.int p6), .val (.int (3 : Int32)), .val (.int ln), .unset, .unset, .unset, .unset, .unset, .unset, .unset, .unset] [(.int (if (p5 &&& (1 : Int32)) = (0 : Int32) then ((p1).toInt8.toInt32) else (-17 : Int32)))])) _
      refine XS.istore X0.here hx rfl (hb hby at_38) rfl (l' := #[.val (.int p1), .val (.int p2), .val (.int p3), .val (.int p4), .val (.int p5), .val (.int p6), .val (.int (3 : Int32)), .val (.int ln), .val (.int (if (p5 &&& (1 : Int32)) = (0 : Int32) then ((p1).toInt8.toInt32) else (-17 : Int32))), .unset, .unset, .unset, .unset, .unset, .unset, .unset]) rfl ?_
      show Steps p.tables e below (s₁.setTop (mkF m 40 #[.val (.int p1), .val (.int p2), .val (.int p3), .val (.int p4), .val (.int p5), .val (.int p6), .val (.int (3 : Int32)), .val (.int ln), .val (.int (if (p5 &&& (1 : Int32)) = (0 : Int32) then ((p1).toInt8.toInt32) else (-17 : Int32))), .unset, .unset, .unset, .unset, .unset, .unset, .unset] [])) _
      refine XS.iload X0.here hx rfl (hb hby at_40) rfl ?_
      show Steps p.tables e below (s₁.setTop (mkF m 42 #[.val (.int p1), .val (.int p2), .val (.int p3), .val (.int p4), .val (.int p5), .val (.int p6), .val (.int (3 : Int32)), .val (.int ln), .val (.int (if (p5 &&& (1 : Int32)) = (0 : Int32) then ((p1).toInt8.toInt32) else (-17 : Int32))), .unset, .unset, .unset, .unset, .unset, .unset, .unset] [(.int p5)])) _
      refine XS.iconst X0.here hx rfl (hb hby at_42) ?_
      show Steps p.tables e below (s₁.setTop (mkF m 43 #[.val (.int p1), .val (.int p2), .val (.int p3), .val (.int p4), .val (.int p5), .val (.int p6), .val (.int (3 : Int32)), .val (.int ln), .val (.int (if (p5 &&& (1 : Int32)) = (0 : Int32) then ((p1).toInt8.toInt32) else (-17 : Int32))), .unset, .unset, .unset, .unset, .unset, .unset, .unset] [(.int (2 : Int32)), (.int p5)])) _
      refine XS.iand X0.here hx rfl (hb hby at_43) rfl ?_
      show Steps p.tables e below (s₁.setTop (mkF m 44 #[.val (.int p1), .val (.int p2), .val (.int p3), .val (.int p4), .val (.int p5), .val (.int p6), .val (.int (3 : Int32)), .val (.int ln), .val (.int (if (p5 &&& (1 : Int32)) = (0 : Int32) then ((p1).toInt8.toInt32) else (-17 : Int32))), .unset, .unset, .unset, .unset, .unset, .unset, .unset] [(.int (p5 &&& (2 : Int32)))])) _
      exact k
    have pre_71 : ∀ t, Steps p.tables e below (s₁.setTop (mkF m 54 #[.val (.int p1), .val (.int p2), .val (.int p3), .val (.int p4), .val (.int p5), .val (.int p6), .val (.int (3 : Int32)), .val (.int ln), .val (.int (if (p5 &&& (1 : Int32)) = (0 : Int32) then ((p1).toInt8.toInt32) else (-17 : Int32))), .unset, .unset, .unset, .unset, .unset, .unset, .unset] [(.int (if (p5 &&& (2 : Int32)) = (0 : Int32) then ((p2).toInt8.toInt32) else (-69 : Int32)))])) t → Steps p.tables e below (s₁.setTop (entryFrame m #[(.int p1), (.int p2), (.int p3), (.int p4), (.int p5), (.int p6)] maxLocals)) t := by
      intro t k
      refine pre_69 t ?_
      by_cases hm70 : (p5 &&& (2 : Int32)) = (0 : Int32)
      · skip
        show Steps p.tables e below (s₁.setTop (mkF m 44 #[.val (.int p1), .val (.int p2), .val (.int p3), .val (.int p4), .val (.int p5), .val (.int p6), .val (.int (3 : Int32)), .val (.int ln), .val (.int (if (p5 &&& (1 : Int32)) = (0 : Int32) then ((p1).toInt8.toInt32) else (-17 : Int32))), .unset, .unset, .unset, .unset, .unset, .unset, .unset] [(.int (p5 &&& (2 : Int32)))])) _
        refine XS.ifYes X0.here hx rfl (pc0 := 44) (pc' := 52) rfl (hb hby at_44) rfl (XT.i0_eq_t hm70) (by decide) (by decide) ?_
        show Steps p.tables e below (s₁.setTop (mkF m 52 #[.val (.int p1), .val (.int p2), .val (.int p3), .val (.int p4), .val (.int p5), .val (.int p6), .val (.int (3 : Int32)), .val (.int ln), .val (.int (if (p5 &&& (1 : Int32)) = (0 : Int32) then ((p1).toInt8.toInt32) else (-17 : Int32))), .unset, .unset, .unset, .unset, .unset, .unset, .unset] [])) _
        refine XS.iloadN X0.here hx rfl (hb hby at_52) rfl ?_
        show Steps p.tables e below (s₁.setTop (mkF m 53 #[.val (.int p1), .val (.int p2), .val (.int p3), .val (.int p4), .val (.int p5), .val (.int p6), .val (.int (3 : Int32)), .val (.int ln), .val (.int (if (p5 &&& (1 : Int32)) = (0 : Int32) then ((p1).toInt8.toInt32) else (-17 : Int32))), .unset, .unset, .unset, .unset, .unset, .unset, .unset] [(.int p2)])) _
        refine XT.i2b X0.here hx rfl (hb hby at_53) rfl ?_
        show Steps p.tables e below (s₁.setTop (mkF m 54 #[.val (.int p1), .val (.int p2), .val (.int p3), .val (.int p4), .val (.int p5), .val (.int p6), .val (.int (3 : Int32)), .val (.int ln), .val (.int (if (p5 &&& (1 : Int32)) = (0 : Int32) then ((p1).toInt8.toInt32) else (-17 : Int32))), .unset, .unset, .unset, .unset, .unset, .unset, .unset] [(.int ((p2).toInt8.toInt32))])) _
        first | exact k | (simp only [if_pos hm70] at k; exact k)
      · skip
        show Steps p.tables e below (s₁.setTop (mkF m 44 #[.val (.int p1), .val (.int p2), .val (.int p3), .val (.int p4), .val (.int p5), .val (.int p6), .val (.int (3 : Int32)), .val (.int ln), .val (.int (if (p5 &&& (1 : Int32)) = (0 : Int32) then ((p1).toInt8.toInt32) else (-17 : Int32))), .unset, .unset, .unset, .unset, .unset, .unset, .unset] [(.int (p5 &&& (2 : Int32)))])) _
        refine XS.ifNo X0.here hx rfl (hb hby at_44) rfl (XT.i0_eq_f hm70) ?_
        show Steps p.tables e below (s₁.setTop (mkF m 47 #[.val (.int p1), .val (.int p2), .val (.int p3), .val (.int p4), .val (.int p5), .val (.int p6), .val (.int (3 : Int32)), .val (.int ln), .val (.int (if (p5 &&& (1 : Int32)) = (0 : Int32) then ((p1).toInt8.toInt32) else (-17 : Int32))), .unset, .unset, .unset, .unset, .unset, .unset, .unset] [])) _
        refine XS.bipush X0.here hx rfl (hb hby at_47) ?_
        show Steps p.tables e below (s₁.setTop (mkF m 49 #[.val (.int p1), .val (.int p2), .val (.int p3), .val (.int p4), .val (.int p5), .val (.int p6), .val (.int (3 : Int32)), .val (.int ln), .val (.int (if (p5 &&& (1 : Int32)) = (0 : Int32) then ((p1).toInt8.toInt32) else (-17 : Int32))), .unset, .unset, .unset, .unset, .unset, .unset, .unset] [(.int (-69 : Int32))])) _
        refine XS.goto X0.here hx rfl (pc0 := 49) (pc' := 54) rfl (hb hby at_49) (by decide) (by decide) ?_
        show Steps p.tables e below (s₁.setTop (mkF m 54 #[.val (.int p1), .val (.int p2), .val (.int p3), .val (.int p4), .val (.int p5), .val (.int p6), .val (.int (3 : Int32)), .val (.int ln), .val (.int (if (p5 &&& (1 : Int32)) = (0 : Int32) then ((p1).toInt8.toInt32) else (-17 : Int32))), .unset, .unset, .unset, .unset, .unset, .unset, .unset] [(.int (-69 : Int32))])) _
        first | exact k | (simp only [if_neg hm70] at k; exact k)
    have pre_72 : ∀ t, Steps p.tables e below (s₁.setTop (mkF m 60 #[.val (.int p1), .val (.int p2), .val (.int p3), .val (.int p4), .val (.int p5), .val (.int p6), .val (.int (3 : Int32)), .val (.int ln), .val (.int (if (p5 &&& (1 : Int32)) = (0 : Int32) then ((p1).toInt8.toInt32) else (-17 : Int32))), .val (.int (if (p5 &&& (2 : Int32)) = (0 : Int32) then ((p2).toInt8.toInt32) else (-69 : Int32))), .unset, .unset, .unset, .unset, .unset, .unset] [(.int (p5 &&& (4 : Int32)))])) t → Steps p.tables e below (s₁.setTop (entryFrame m #[(.int p1), (.int p2), (.int p3), (.int p4), (.int p5), (.int p6)] maxLocals)) t := by
      intro t k
      refine pre_71 t ?_
      show Steps p.tables e below (s₁.setTop (mkF m 54 #[.val (.int p1), .val (.int p2), .val (.int p3), .val (.int p4), .val (.int p5), .val (.int p6), .val (.int (3 : Int32)), .val (.int ln), .val (.int (if (p5 &&& (1 : Int32)) = (0 : Int32) then ((p1).toInt8.toInt32) else (-17 : Int32))), .unset, .unset, .unset, .unset, .unset, .unset, .unset] [(.int (if (p5 &&& (2 : Int32)) = (0 : Int32) then ((p2).toInt8.toInt32) else (-69 : Int32)))])) _
      refine XS.istore X0.here hx rfl (hb hby at_54) rfl (l' := #[.val (.int p1), .val (.int p2), .val (.int p3), .val (.int p4), .val (.int p5), .val (.int p6), .val (.int (3 : Int32)), .val (.int ln), .val (.int (if (p5 &&& (1 : Int32)) = (0 : Int32) then ((p1).toInt8.toInt32) else (-17 : Int32))), .val (.int (if (p5 &&& (2 : Int32)) = (0 : Int32) then ((p2).toInt8.toInt32) else (-69 : Int32))), .unset, .unset, .unset, .unset, .unset, .unset]) rfl ?_
      show Steps p.tables e below (s₁.setTop (mkF m 56 #[.val (.int p1), .val (.int p2), .val (.int p3), .val (.int p4), .val (.int p5), .val (.int p6), .val (.int (3 : Int32)), .val (.int ln), .val (.int (if (p5 &&& (1 : Int32)) = (0 : Int32) then ((p1).toInt8.toInt32) else (-17 : Int32))), .val (.int (if (p5 &&& (2 : Int32)) = (0 : Int32) then ((p2).toInt8.toInt32) else (-69 : Int32))), .unset, .unset, .unset, .unset, .unset, .unset] [])) _
      refine XS.iload X0.here hx rfl (hb hby at_56) rfl ?_
      show Steps p.tables e below (s₁.setTop (mkF m 58 #[.val (.int p1), .val (.int p2), .val (.int p3), .val (.int p4), .val (.int p5), .val (.int p6), .val (.int (3 : Int32)), .val (.int ln), .val (.int (if (p5 &&& (1 : Int32)) = (0 : Int32) then ((p1).toInt8.toInt32) else (-17 : Int32))), .val (.int (if (p5 &&& (2 : Int32)) = (0 : Int32) then ((p2).toInt8.toInt32) else (-69 : Int32))), .unset, .unset, .unset, .unset, .unset, .unset] [(.int p5)])) _
      refine XS.iconst X0.here hx rfl (hb hby at_58) ?_
      show Steps p.tables e below (s₁.setTop (mkF m 59 #[.val (.int p1), .val (.int p2), .val (.int p3), .val (.int p4), .val (.int p5), .val (.int p6), .val (.int (3 : Int32)), .val (.int ln), .val (.int (if (p5 &&& (1 : Int32)) = (0 : Int32) then ((p1).toInt8.toInt32) else (-17 : Int32))), .val (.int (if (p5 &&& (2 : Int32)) = (0 : Int32) then ((p2).toInt8.toInt32) else (-69 : Int32))), .unset, .unset, .unset, .unset, .unset, .unset] [(.int (4 : Int32)), (.int p5)])) _
      refine XS.iand X0.here hx rfl (hb hby at_59) rfl ?_
      show Steps p.tables e below (s₁.setTop (mkF m 60 #[.val (.int p1), .val (.int p2), .val (.int p3), .val (.int p4), .val (.int p5), .val (.int p6), .val (.int (3 : Int32)), .val (.int ln), .val (.int (if (p5 &&& (1 : Int32)) = (0 : Int32) then ((p1).toInt8.toInt32) else (-17 : Int32))), .val (.int (if (p5 &&& (2 : Int32)) = (0 : Int32) then ((p2).toInt8.toInt32) else (-69 : Int32))), .unset, .unset, .unset, .unset, .unset, .unset] [(.int (p5 &&& (4 : Int32)))])) _
      exact k
    have pre_74 : ∀ t, Steps p.tables e below (s₁.setTop (mkF m 70 #[.val (.int p1), .val (.int p2), .val (.int p3), .val (.int p4), .val (.int p5), .val (.int p6), .val (.int (3 : Int32)), .val (.int ln), .val (.int (if (p5 &&& (1 : Int32)) = (0 : Int32) then ((p1).toInt8.toInt32) else (-17 : Int32))), .val (.int (if (p5 &&& (2 : Int32)) = (0 : Int32) then ((p2).toInt8.toInt32) else (-69 : Int32))), .unset, .unset, .unset, .unset, .unset, .unset] [(.int (if (p5 &&& (4 : Int32)) = (0 : Int32) then ((p3).toInt8.toInt32) else (-65 : Int32)))])) t → Steps p.tables e below (s₁.setTop (entryFrame m #[(.int p1), (.int p2), (.int p3), (.int p4), (.int p5), (.int p6)] maxLocals)) t := by
      intro t k
      refine pre_72 t ?_
      by_cases hm73 : (p5 &&& (4 : Int32)) = (0 : Int32)
      · skip
        show Steps p.tables e below (s₁.setTop (mkF m 60 #[.val (.int p1), .val (.int p2), .val (.int p3), .val (.int p4), .val (.int p5), .val (.int p6), .val (.int (3 : Int32)), .val (.int ln), .val (.int (if (p5 &&& (1 : Int32)) = (0 : Int32) then ((p1).toInt8.toInt32) else (-17 : Int32))), .val (.int (if (p5 &&& (2 : Int32)) = (0 : Int32) then ((p2).toInt8.toInt32) else (-69 : Int32))), .unset, .unset, .unset, .unset, .unset, .unset] [(.int (p5 &&& (4 : Int32)))])) _
        refine XS.ifYes X0.here hx rfl (pc0 := 60) (pc' := 68) rfl (hb hby at_60) rfl (XT.i0_eq_t hm73) (by decide) (by decide) ?_
        show Steps p.tables e below (s₁.setTop (mkF m 68 #[.val (.int p1), .val (.int p2), .val (.int p3), .val (.int p4), .val (.int p5), .val (.int p6), .val (.int (3 : Int32)), .val (.int ln), .val (.int (if (p5 &&& (1 : Int32)) = (0 : Int32) then ((p1).toInt8.toInt32) else (-17 : Int32))), .val (.int (if (p5 &&& (2 : Int32)) = (0 : Int32) then ((p2).toInt8.toInt32) else (-69 : Int32))), .unset, .unset, .unset, .unset, .unset, .unset] [])) _
        refine XS.iloadN X0.here hx rfl (hb hby at_68) rfl ?_
        show Steps p.tables e below (s₁.setTop (mkF m 69 #[.val (.int p1), .val (.int p2), .val (.int p3), .val (.int p4), .val (.int p5), .val (.int p6), .val (.int (3 : Int32)), .val (.int ln), .val (.int (if (p5 &&& (1 : Int32)) = (0 : Int32) then ((p1).toInt8.toInt32) else (-17 : Int32))), .val (.int (if (p5 &&& (2 : Int32)) = (0 : Int32) then ((p2).toInt8.toInt32) else (-69 : Int32))), .unset, .unset, .unset, .unset, .unset, .unset] [(.int p3)])) _
        refine XT.i2b X0.here hx rfl (hb hby at_69) rfl ?_
        show Steps p.tables e below (s₁.setTop (mkF m 70 #[.val (.int p1), .val (.int p2), .val (.int p3), .val (.int p4), .val (.int p5), .val (.int p6), .val (.int (3 : Int32)), .val (.int ln), .val (.int (if (p5 &&& (1 : Int32)) = (0 : Int32) then ((p1).toInt8.toInt32) else (-17 : Int32))), .val (.int (if (p5 &&& (2 : Int32)) = (0 : Int32) then ((p2).toInt8.toInt32) else (-69 : Int32))), .unset, .unset, .unset, .unset, .unset, .unset] [(.int ((p3).toInt8.toInt32))])) _
        first | exact k | (simp only [if_pos hm73] at k; exact k)
      · skip
        show Steps p.tables e below (s₁.setTop (mkF m 60 #[.val (.int p1), .val (.int p2), .val (.int p3), .val (.int p4), .val (.int p5), .val (.int p6), .val (.int (3 : Int32)), .val (.int ln), .val (.int (if (p5 &&& (1 : Int32)) = (0 : Int32) then ((p1).toInt8.toInt32) else (-17 : Int32))), .val (.int (if (p5 &&& (2 : Int32)) = (0 : Int32) then ((p2).toInt8.toInt32) else (-69 : Int32))), .unset, .unset, .unset, .unset, .unset, .unset] [(.int (p5 &&& (4 : Int32)))])) _
        refine XS.ifNo X0.here hx rfl (hb hby at_60) rfl (XT.i0_eq_f hm73) ?_
        show Steps p.tables e below (s₁.setTop (mkF m 63 #[.val (.int p1), .val (.int p2), .val (.int p3), .val (.int p4), .val (.int p5), .val (.int p6), .val (.int (3 : Int32)), .val (.int ln), .val (.int (if (p5 &&& (1 : Int32)) = (0 : Int32) then ((p1).toInt8.toInt32) else (-17 : Int32))), .val (.int (if (p5 &&& (2 : Int32)) = (0 : Int32) then ((p2).toInt8.toInt32) else (-69 : Int32))), .unset, .unset, .unset, .unset, .unset, .unset] [])) _
        refine XS.bipush X0.here hx rfl (hb hby at_63) ?_
        show Steps p.tables e below (s₁.setTop (mkF m 65 #[.val (.int p1), .val (.int p2), .val (.int p3), .val (.int p4), .val (.int p5), .val (.int p6), .val (.int (3 : Int32)), .val (.int ln), .val (.int (if (p5 &&& (1 : Int32)) = (0 : Int32) then ((p1).toInt8.toInt32) else (-17 : Int32))), .val (.int (if (p5 &&& (2 : Int32)) = (0 : Int32) then ((p2).toInt8.toInt32) else (-69 : Int32))), .unset, .unset, .unset, .unset, .unset, .unset] [(.int (-65 : Int32))])) _
        refine XS.goto X0.here hx rfl (pc0 := 65) (pc' := 70) rfl (hb hby at_65) (by decide) (by decide) ?_
        show Steps p.tables e below (s₁.setTop (mkF m 70 #[.val (.int p1), .val (.int p2), .val (.int p3), .val (.int p4), .val (.int p5), .val (.int p6), .val (.int (3 : Int32)), .val (.int ln), .val (.int (if (p5 &&& (1 : Int32)) = (0 : Int32) then ((p1).toInt8.toInt32) else (-17 : Int32))), .val (.int (if (p5 &&& (2 : Int32)) = (0 : Int32) then ((p2).toInt8.toInt32) else (-69 : Int32))), .unset, .unset, .unset, .unset, .unset, .unset] [(.int (-65 : Int32))])) _
        first | exact k | (simp only [if_neg hm73] at k; exact k)
    have pre_75 : ∀ t, Steps p.tables e below (s₁.setTop (mkF m 83 #[.val (.int p1), .val (.int p2), .val (.int p3), .val (.int p4), .val (.int p5), .val (.int p6), .val (.int (3 : Int32)), .val (.int ln), .val (.int (if (p5 &&& (1 : Int32)) = (0 : Int32) then ((p1).toInt8.toInt32) else (-17 : Int32))), .val (.int (if (p5 &&& (2 : Int32)) = (0 : Int32) then ((p2).toInt8.toInt32) else (-69 : Int32))), .val (.int (if (p5 &&& (4 : Int32)) = (0 : Int32) then ((p3).toInt8.toInt32) else (-65 : Int32))), .val (.int ((p4).toInt8.toInt32)), .val (.int (((p4 >>> ((8 : Int32) &&& 31))).toInt8.toInt32)), .unset, .unset, .unset] [])) t → Steps p.tables e below (s₁.setTop (entryFrame m #[(.int p1), (.int p2), (.int p3), (.int p4), (.int p5), (.int p6)] maxLocals)) t := by
      intro t k
      refine pre_74 t ?_
      show Steps p.tables e below (s₁.setTop (mkF m 70 #[.val (.int p1), .val (.int p2), .val (.int p3), .val (.int p4), .val (.int p5), .val (.int p6), .val (.int (3 : Int32)), .val (.int ln), .val (.int (if (p5 &&& (1 : Int32)) = (0 : Int32) then ((p1).toInt8.toInt32) else (-17 : Int32))), .val (.int (if (p5 &&& (2 : Int32)) = (0 : Int32) then ((p2).toInt8.toInt32) else (-69 : Int32))), .unset, .unset, .unset, .unset, .unset, .unset] [(.int (if (p5 &&& (4 : Int32)) = (0 : Int32) then ((p3).toInt8.toInt32) else (-65 : Int32)))])) _
      refine XS.istore X0.here hx rfl (hb hby at_70) rfl (l' := #[.val (.int p1), .val (.int p2), .val (.int p3), .val (.int p4), .val (.int p5), .val (.int p6), .val (.int (3 : Int32)), .val (.int ln), .val (.int (if (p5 &&& (1 : Int32)) = (0 : Int32) then ((p1).toInt8.toInt32) else (-17 : Int32))), .val (.int (if (p5 &&& (2 : Int32)) = (0 : Int32) then ((p2).toInt8.toInt32) else (-69 : Int32))), .val (.int (if (p5 &&& (4 : Int32)) = (0 : Int32) then ((p3).toInt8.toInt32) else (-65 : Int32))), .unset, .unset, .unset, .unset, .unset]) rfl ?_
      show Steps p.tables e below (s₁.setTop (mkF m 72 #[.val (.int p1), .val (.int p2), .val (.int p3), .val (.int p4), .val (.int p5), .val (.int p6), .val (.int (3 : Int32)), .val (.int ln), .val (.int (if (p5 &&& (1 : Int32)) = (0 : Int32) then ((p1).toInt8.toInt32) else (-17 : Int32))), .val (.int (if (p5 &&& (2 : Int32)) = (0 : Int32) then ((p2).toInt8.toInt32) else (-69 : Int32))), .val (.int (if (p5 &&& (4 : Int32)) = (0 : Int32) then ((p3).toInt8.toInt32) else (-65 : Int32))), .unset, .unset, .unset, .unset, .unset] [])) _
      refine XS.iloadN X0.here hx rfl (hb hby at_72) rfl ?_
      show Steps p.tables e below (s₁.setTop (mkF m 73 #[.val (.int p1), .val (.int p2), .val (.int p3), .val (.int p4), .val (.int p5), .val (.int p6), .val (.int (3 : Int32)), .val (.int ln), .val (.int (if (p5 &&& (1 : Int32)) = (0 : Int32) then ((p1).toInt8.toInt32) else (-17 : Int32))), .val (.int (if (p5 &&& (2 : Int32)) = (0 : Int32) then ((p2).toInt8.toInt32) else (-69 : Int32))), .val (.int (if (p5 &&& (4 : Int32)) = (0 : Int32) then ((p3).toInt8.toInt32) else (-65 : Int32))), .unset, .unset, .unset, .unset, .unset] [(.int p4)])) _
      refine XT.i2b X0.here hx rfl (hb hby at_73) rfl ?_
      show Steps p.tables e below (s₁.setTop (mkF m 74 #[.val (.int p1), .val (.int p2), .val (.int p3), .val (.int p4), .val (.int p5), .val (.int p6), .val (.int (3 : Int32)), .val (.int ln), .val (.int (if (p5 &&& (1 : Int32)) = (0 : Int32) then ((p1).toInt8.toInt32) else (-17 : Int32))), .val (.int (if (p5 &&& (2 : Int32)) = (0 : Int32) then ((p2).toInt8.toInt32) else (-69 : Int32))), .val (.int (if (p5 &&& (4 : Int32)) = (0 : Int32) then ((p3).toInt8.toInt32) else (-65 : Int32))), .unset, .unset, .unset, .unset, .unset] [(.int ((p4).toInt8.toInt32))])) _
      refine XS.istore X0.here hx rfl (hb hby at_74) rfl (l' := #[.val (.int p1), .val (.int p2), .val (.int p3), .val (.int p4), .val (.int p5), .val (.int p6), .val (.int (3 : Int32)), .val (.int ln), .val (.int (if (p5 &&& (1 : Int32)) = (0 : Int32) then ((p1).toInt8.toInt32) else (-17 : Int32))), .val (.int (if (p5 &&& (2 : Int32)) = (0 : Int32) then ((p2).toInt8.toInt32) else (-69 : Int32))), .val (.int (if (p5 &&& (4 : Int32)) = (0 : Int32) then ((p3).toInt8.toInt32) else (-65 : Int32))), .val (.int ((p4).toInt8.toInt32)), .unset, .unset, .unset, .unset]) rfl ?_
      show Steps p.tables e below (s₁.setTop (mkF m 76 #[.val (.int p1), .val (.int p2), .val (.int p3), .val (.int p4), .val (.int p5), .val (.int p6), .val (.int (3 : Int32)), .val (.int ln), .val (.int (if (p5 &&& (1 : Int32)) = (0 : Int32) then ((p1).toInt8.toInt32) else (-17 : Int32))), .val (.int (if (p5 &&& (2 : Int32)) = (0 : Int32) then ((p2).toInt8.toInt32) else (-69 : Int32))), .val (.int (if (p5 &&& (4 : Int32)) = (0 : Int32) then ((p3).toInt8.toInt32) else (-65 : Int32))), .val (.int ((p4).toInt8.toInt32)), .unset, .unset, .unset, .unset] [])) _
      refine XS.iloadN X0.here hx rfl (hb hby at_76) rfl ?_
      show Steps p.tables e below (s₁.setTop (mkF m 77 #[.val (.int p1), .val (.int p2), .val (.int p3), .val (.int p4), .val (.int p5), .val (.int p6), .val (.int (3 : Int32)), .val (.int ln), .val (.int (if (p5 &&& (1 : Int32)) = (0 : Int32) then ((p1).toInt8.toInt32) else (-17 : Int32))), .val (.int (if (p5 &&& (2 : Int32)) = (0 : Int32) then ((p2).toInt8.toInt32) else (-69 : Int32))), .val (.int (if (p5 &&& (4 : Int32)) = (0 : Int32) then ((p3).toInt8.toInt32) else (-65 : Int32))), .val (.int ((p4).toInt8.toInt32)), .unset, .unset, .unset, .unset] [(.int p4)])) _
      refine XS.bipush X0.here hx rfl (hb hby at_77) ?_
      show Steps p.tables e below (s₁.setTop (mkF m 79 #[.val (.int p1), .val (.int p2), .val (.int p3), .val (.int p4), .val (.int p5), .val (.int p6), .val (.int (3 : Int32)), .val (.int ln), .val (.int (if (p5 &&& (1 : Int32)) = (0 : Int32) then ((p1).toInt8.toInt32) else (-17 : Int32))), .val (.int (if (p5 &&& (2 : Int32)) = (0 : Int32) then ((p2).toInt8.toInt32) else (-69 : Int32))), .val (.int (if (p5 &&& (4 : Int32)) = (0 : Int32) then ((p3).toInt8.toInt32) else (-65 : Int32))), .val (.int ((p4).toInt8.toInt32)), .unset, .unset, .unset, .unset] [(.int (8 : Int32)), (.int p4)])) _
      refine XT.ishr X0.here hx rfl (hb hby at_79) rfl ?_
      show Steps p.tables e below (s₁.setTop (mkF m 80 #[.val (.int p1), .val (.int p2), .val (.int p3), .val (.int p4), .val (.int p5), .val (.int p6), .val (.int (3 : Int32)), .val (.int ln), .val (.int (if (p5 &&& (1 : Int32)) = (0 : Int32) then ((p1).toInt8.toInt32) else (-17 : Int32))), .val (.int (if (p5 &&& (2 : Int32)) = (0 : Int32) then ((p2).toInt8.toInt32) else (-69 : Int32))), .val (.int (if (p5 &&& (4 : Int32)) = (0 : Int32) then ((p3).toInt8.toInt32) else (-65 : Int32))), .val (.int ((p4).toInt8.toInt32)), .unset, .unset, .unset, .unset] [(.int (p4 >>> ((8 : Int32) &&& 31)))])) _
      refine XT.i2b X0.here hx rfl (hb hby at_80) rfl ?_
      show Steps p.tables e below (s₁.setTop (mkF m 81 #[.val (.int p1), .val (.int p2), .val (.int p3), .val (.int p4), .val (.int p5), .val (.int p6), .val (.int (3 : Int32)), .val (.int ln), .val (.int (if (p5 &&& (1 : Int32)) = (0 : Int32) then ((p1).toInt8.toInt32) else (-17 : Int32))), .val (.int (if (p5 &&& (2 : Int32)) = (0 : Int32) then ((p2).toInt8.toInt32) else (-69 : Int32))), .val (.int (if (p5 &&& (4 : Int32)) = (0 : Int32) then ((p3).toInt8.toInt32) else (-65 : Int32))), .val (.int ((p4).toInt8.toInt32)), .unset, .unset, .unset, .unset] [(.int (((p4 >>> ((8 : Int32) &&& 31))).toInt8.toInt32))])) _
      refine XS.istore X0.here hx rfl (hb hby at_81) rfl (l' := #[.val (.int p1), .val (.int p2), .val (.int p3), .val (.int p4), .val (.int p5), .val (.int p6), .val (.int (3 : Int32)), .val (.int ln), .val (.int (if (p5 &&& (1 : Int32)) = (0 : Int32) then ((p1).toInt8.toInt32) else (-17 : Int32))), .val (.int (if (p5 &&& (2 : Int32)) = (0 : Int32) then ((p2).toInt8.toInt32) else (-69 : Int32))), .val (.int (if (p5 &&& (4 : Int32)) = (0 : Int32) then ((p3).toInt8.toInt32) else (-65 : Int32))), .val (.int ((p4).toInt8.toInt32)), .val (.int (((p4 >>> ((8 : Int32) &&& 31))).toInt8.toInt32)), .unset, .unset, .unset]) rfl ?_
      show Steps p.tables e below (s₁.setTop (mkF m 83 #[.val (.int p1), .val (.int p2), .val (.int p3), .val (.int p4), .val (.int p5), .val (.int p6), .val (.int (3 : Int32)), .val (.int ln), .val (.int (if (p5 &&& (1 : Int32)) = (0 : Int32) then ((p1).toInt8.toInt32) else (-17 : Int32))), .val (.int (if (p5 &&& (2 : Int32)) = (0 : Int32) then ((p2).toInt8.toInt32) else (-69 : Int32))), .val (.int (if (p5 &&& (4 : Int32)) = (0 : Int32) then ((p3).toInt8.toInt32) else (-65 : Int32))), .val (.int ((p4).toInt8.toInt32)), .val (.int (((p4 >>> ((8 : Int32) &&& 31))).toInt8.toInt32)), .unset, .unset, .unset] [])) _
      exact k
    have hb0 : nar .byte (if (p5 &&& (1 : Int32)) = (0 : Int32) then ((p1).toInt8.toInt32) else (-17 : Int32)) = (if (p5 &&& (1 : Int32)) = (0 : Int32) then ((p1).toInt8.toInt32) else (-17 : Int32)) := by exact own_nbi _ _ _ (by decide)
    generalize (if (p5 &&& (1 : Int32)) = (0 : Int32) then ((p1).toInt8.toInt32) else (-17 : Int32)) = b0 at pre_75 hb0
    have hb1 : nar .byte (if (p5 &&& (2 : Int32)) = (0 : Int32) then ((p2).toInt8.toInt32) else (-69 : Int32)) = (if (p5 &&& (2 : Int32)) = (0 : Int32) then ((p2).toInt8.toInt32) else (-69 : Int32)) := by exact own_nbi _ _ _ (by decide)
    generalize (if (p5 &&& (2 : Int32)) = (0 : Int32) then ((p2).toInt8.toInt32) else (-69 : Int32)) = b1 at pre_75 hb1
    have hb2 : nar .byte (if (p5 &&& (4 : Int32)) = (0 : Int32) then ((p3).toInt8.toInt32) else (-65 : Int32)) = (if (p5 &&& (4 : Int32)) = (0 : Int32) then ((p3).toInt8.toInt32) else (-65 : Int32)) := by exact own_nbi _ _ _ (by decide)
    generalize (if (p5 &&& (4 : Int32)) = (0 : Int32) then ((p3).toInt8.toInt32) else (-65 : Int32)) = b2 at pre_75 hb2
    have hb3 : nar .byte ((p4).toInt8.toInt32) = ((p4).toInt8.toInt32) := by exact own_nb _
    generalize ((p4).toInt8.toInt32) = b3 at pre_75 hb3
    have hb4 : nar .byte (((p4 >>> ((8 : Int32) &&& 31))).toInt8.toInt32) = (((p4 >>> ((8 : Int32) &&& 31))).toInt8.toInt32) := by exact own_nb _
    generalize (((p4 >>> ((8 : Int32) &&& 31))).toInt8.toInt32) = b4 at pre_75 hb4
    have pre_76 : ∀ t, Steps p.tables e below (s₁.setTop (mkF m 85 #[.val (.int p1), .val (.int p2), .val (.int p3), .val (.int p4), .val (.int p5), .val (.int p6), .val (.int (3 : Int32)), .val (.int ln), .val (.int b0), .val (.int b1), .val (.int b2), .val (.int b3), .val (.int b4), .unset, .unset, .unset] [(.int (3 : Int32))])) t → Steps p.tables e below (s₁.setTop (entryFrame m #[(.int p1), (.int p2), (.int p3), (.int p4), (.int p5), (.int p6)] maxLocals)) t := by
      intro t k
      refine pre_75 t ?_
      show Steps p.tables e below (s₁.setTop (mkF m 83 #[.val (.int p1), .val (.int p2), .val (.int p3), .val (.int p4), .val (.int p5), .val (.int p6), .val (.int (3 : Int32)), .val (.int ln), .val (.int b0), .val (.int b1), .val (.int b2), .val (.int b3), .val (.int b4), .unset, .unset, .unset] [])) _
      refine XS.iload X0.here hx rfl (hb hby at_83) rfl ?_
      show Steps p.tables e below (s₁.setTop (mkF m 85 #[.val (.int p1), .val (.int p2), .val (.int p3), .val (.int p4), .val (.int p5), .val (.int p6), .val (.int (3 : Int32)), .val (.int ln), .val (.int b0), .val (.int b1), .val (.int b2), .val (.int b3), .val (.int b4), .unset, .unset, .unset] [(.int (3 : Int32))])) _
      exact k
    obtain ⟨_, _, ⟨T77, L77, k77, n77⟩, -, X77, ⟨Lc77, hQ77, l77, y77, z77⟩, st77⟩ := Jvm.LawKit.callS X0 hx (y := (⟨"com/example/tranche/tranche/TextFileTextStartPinLaw", "make", "(I)[B"⟩ : MethodName)) hown (mvT hZ (hw _ (List.mem_of_getElem? (i := 1) rfl))) (mvT hZ (hw _ (List.mem_of_getElem? (i := 2) rfl))) (mvT hZ (hw _ (List.mem_of_getElem? (i := 3) rfl))) (mvT hZ (hw _ (List.mem_of_getElem? (i := 4) rfl))) (by decide) (backOf (W := 0) (rm_make3 l Z a0 hw [] h0 n0 O0) hZ (hw _ (List.mem_of_getElem? (i := 4) rfl)) (hw _ (List.mem_of_getElem? (i := 3) rfl)) (by decide) (by decide)) (g := (mkF m 85 #[.val (.int p1), .val (.int p2), .val (.int p3), .val (.int p4), .val (.int p5), .val (.int p6), .val (.int (3 : Int32)), .val (.int ln), .val (.int b0), .val (.int b1), .val (.int b2), .val (.int b3), .val (.int b4), .unset, .unset, .unset] [(.int (3 : Int32))])) rfl (by rw [hml]; rfl) (argsL := [(.int (3 : Int32))]) (rest := []) (lenOf pd_law_0 rfl) rfl (by show 2 * 0 + _ ≤ _; exact Nat.le_of_eq rfl) (hb hby at_85) (fun _ _ => ⟨rfl, e0, (by decide : 0 + 1 ≤ _), (by decide : 0 + 3 ≤ _)⟩)
    dsimp only [Pt.U, Pt.locs, Pt.cells, Pt.slots] at X77 l77 y77 z77 st77 hQ77
    subst l77 y77 z77
    obtain ⟨m77, cA77, rfl, N77q, K77, gm77, Vm77⟩ := hQ77
    have N77 := Fr.app N0 N77q
    have O77 : Old Z n0 T77.heap := O0.keep K77 all0
    have pre_78 : ∀ t, Steps p.tables e below (T77.setTop (mkF m 88 #[.val (.int p1), .val (.int p2), .val (.int p3), .val (.int p4), .val (.int p5), .val (.int p6), .val (.int (3 : Int32)), .val (.int ln), .val (.int b0), .val (.int b1), .val (.int b2), .val (.int b3), .val (.int b4), .unset, .unset, .unset] [(.ref m77)])) t → Steps p.tables e below (s₁.setTop (entryFrame m #[(.int p1), (.int p2), (.int p3), (.int p4), (.int p5), (.int p6)] maxLocals)) t := fun t k => pre_76 t (st77 t k)
    have pre_79 : ∀ t, Steps p.tables e below (T77.setTop (mkF m 100 #[.val (.int p1), .val (.int p2), .val (.int p3), .val (.int p4), .val (.int p5), .val (.int p6), .val (.int (3 : Int32)), .val (.int ln), .val (.int b0), .val (.int b1), .val (.int b2), .val (.int b3), .val (.int b4), .val (.ref m77), .unset, .unset] [(.int b0), (.int (0 : Int32)), (.ref m77)])) t → Steps p.tables e below (s₁.setTop (entryFrame m #[(.int p1), (.int p2), (.int p3), (.int p4), (.int p5), (.int p6)] maxLocals)) t := by
      intro t k
      refine pre_78 t ?_
      show Steps p.tables e below (T77.setTop (mkF m 88 #[.val (.int p1), .val (.int p2), .val (.int p3), .val (.int p4), .val (.int p5), .val (.int p6), .val (.int (3 : Int32)), .val (.int ln), .val (.int b0), .val (.int b1), .val (.int b2), .val (.int b3), .val (.int b4), .unset, .unset, .unset] [(.ref m77)])) _
      refine XS.astore X77.here hx rfl (hb hby at_88) rfl rfl (l' := #[.val (.int p1), .val (.int p2), .val (.int p3), .val (.int p4), .val (.int p5), .val (.int p6), .val (.int (3 : Int32)), .val (.int ln), .val (.int b0), .val (.int b1), .val (.int b2), .val (.int b3), .val (.int b4), .val (.ref m77), .unset, .unset]) rfl ?_
      show Steps p.tables e below (T77.setTop (mkF m 90 #[.val (.int p1), .val (.int p2), .val (.int p3), .val (.int p4), .val (.int p5), .val (.int p6), .val (.int (3 : Int32)), .val (.int ln), .val (.int b0), .val (.int b1), .val (.int b2), .val (.int b3), .val (.int b4), .val (.ref m77), .unset, .unset] [])) _
      refine XS.iload X77.here hx rfl (hb hby at_90) rfl ?_
      show Steps p.tables e below (T77.setTop (mkF m 92 #[.val (.int p1), .val (.int p2), .val (.int p3), .val (.int p4), .val (.int p5), .val (.int p6), .val (.int (3 : Int32)), .val (.int ln), .val (.int b0), .val (.int b1), .val (.int b2), .val (.int b3), .val (.int b4), .val (.ref m77), .unset, .unset] [(.int (3 : Int32))])) _
      refine XS.ifNo X77.here hx rfl (hb hby at_92) rfl (XT.i0_le_f (by decide)) ?_
      show Steps p.tables e below (T77.setTop (mkF m 95 #[.val (.int p1), .val (.int p2), .val (.int p3), .val (.int p4), .val (.int p5), .val (.int p6), .val (.int (3 : Int32)), .val (.int ln), .val (.int b0), .val (.int b1), .val (.int b2), .val (.int b3), .val (.int b4), .val (.ref m77), .unset, .unset] [])) _
      refine XS.aload X77.here hx rfl (hb hby at_95) rfl rfl ?_
      show Steps p.tables e below (T77.setTop (mkF m 97 #[.val (.int p1), .val (.int p2), .val (.int p3), .val (.int p4), .val (.int p5), .val (.int p6), .val (.int (3 : Int32)), .val (.int ln), .val (.int b0), .val (.int b1), .val (.int b2), .val (.int b3), .val (.int b4), .val (.ref m77), .unset, .unset] [(.ref m77)])) _
      refine XS.iconst X77.here hx rfl (hb hby at_97) ?_
      show Steps p.tables e below (T77.setTop (mkF m 98 #[.val (.int p1), .val (.int p2), .val (.int p3), .val (.int p4), .val (.int p5), .val (.int p6), .val (.int (3 : Int32)), .val (.int ln), .val (.int b0), .val (.int b1), .val (.int b2), .val (.int b3), .val (.int b4), .val (.ref m77), .unset, .unset] [(.int (0 : Int32)), (.ref m77)])) _
      refine XS.iload X77.here hx rfl (hb hby at_98) rfl ?_
      show Steps p.tables e below (T77.setTop (mkF m 100 #[.val (.int p1), .val (.int p2), .val (.int p3), .val (.int p4), .val (.int p5), .val (.int p6), .val (.int (3 : Int32)), .val (.int ln), .val (.int b0), .val (.int b1), .val (.int b2), .val (.int b3), .val (.int b4), .val (.ref m77), .unset, .unset] [(.int b0), (.int (0 : Int32)), (.ref m77)])) _
      exact k
    obtain ⟨cl80, Ar80, q80, S80, M80, H80, G80⟩ := id Vm77
    obtain ⟨T80, h80, X80, e80, W80, st80⟩ := stB X77 hx hZ rfl Ar80 (j := (0 : Int32)) (inb_of S80 (by decide)) (g := (mkF m 100 #[.val (.int p1), .val (.int p2), .val (.int p3), .val (.int p4), .val (.int p5), .val (.int p6), .val (.int (3 : Int32)), .val (.int ln), .val (.int b0), .val (.int b1), .val (.int b2), .val (.int b3), .val (.int b4), .val (.ref m77), .unset, .unset] [(.int b0), (.int (0 : Int32)), (.ref m77)])) rfl rfl (hb hby at_100)
    have N80 := Fr.snoc X80 N77 gm77
    have O80 : Old Z n0 h80 := O77.wr W80 gm77
    rw [hb0] at W80
    have V80 : Arv Z h80 m77 cA77 .byte (3 : Int32) [(.int b0), (.int (0 : Int32)), (.int (0 : Int32))] (.int (0 : Int32)) := Arv.set Ar80 q80 S80 M80 H80 G80 (by rw [← hb0]; exact (fits_nar_byte _)) W80 0 rfl (Nat.le_of_ble_eq_true rfl)
    have pre_81 : ∀ t, Steps p.tables e below (T80.setTop (mkF m 101 #[.val (.int p1), .val (.int p2), .val (.int p3), .val (.int p4), .val (.int p5), .val (.int p6), .val (.int (3 : Int32)), .val (.int ln), .val (.int b0), .val (.int b1), .val (.int b2), .val (.int b3), .val (.int b4), .val (.ref m77), .unset, .unset] [])) t → Steps p.tables e below (s₁.setTop (entryFrame m #[(.int p1), (.int p2), (.int p3), (.int p4), (.int p5), (.int p6)] maxLocals)) t := fun t k => pre_79 t (st80 t k)
    have pre_82 : ∀ t, Steps p.tables e below (T80.setTop (mkF m 112 #[.val (.int p1), .val (.int p2), .val (.int p3), .val (.int p4), .val (.int p5), .val (.int p6), .val (.int (3 : Int32)), .val (.int ln), .val (.int b0), .val (.int b1), .val (.int b2), .val (.int b3), .val (.int b4), .val (.ref m77), .unset, .unset] [(.int b1), (.int (1 : Int32)), (.ref m77)])) t → Steps p.tables e below (s₁.setTop (entryFrame m #[(.int p1), (.int p2), (.int p3), (.int p4), (.int p5), (.int p6)] maxLocals)) t := by
      intro t k
      refine pre_81 t ?_
      show Steps p.tables e below (T80.setTop (mkF m 101 #[.val (.int p1), .val (.int p2), .val (.int p3), .val (.int p4), .val (.int p5), .val (.int p6), .val (.int (3 : Int32)), .val (.int ln), .val (.int b0), .val (.int b1), .val (.int b2), .val (.int b3), .val (.int b4), .val (.ref m77), .unset, .unset] [])) _
      refine XS.iload X80.here hx rfl (hb hby at_101) rfl ?_
      show Steps p.tables e below (T80.setTop (mkF m 103 #[.val (.int p1), .val (.int p2), .val (.int p3), .val (.int p4), .val (.int p5), .val (.int p6), .val (.int (3 : Int32)), .val (.int ln), .val (.int b0), .val (.int b1), .val (.int b2), .val (.int b3), .val (.int b4), .val (.ref m77), .unset, .unset] [(.int (3 : Int32))])) _
      refine XS.iconst X80.here hx rfl (hb hby at_103) ?_
      show Steps p.tables e below (T80.setTop (mkF m 104 #[.val (.int p1), .val (.int p2), .val (.int p3), .val (.int p4), .val (.int p5), .val (.int p6), .val (.int (3 : Int32)), .val (.int ln), .val (.int b0), .val (.int b1), .val (.int b2), .val (.int b3), .val (.int b4), .val (.ref m77), .unset, .unset] [(.int (1 : Int32)), (.int (3 : Int32))])) _
      refine XS.icmpNo X80.here hx rfl (hb hby at_104) rfl (XT.ii_le_f (by decide)) ?_
      show Steps p.tables e below (T80.setTop (mkF m 107 #[.val (.int p1), .val (.int p2), .val (.int p3), .val (.int p4), .val (.int p5), .val (.int p6), .val (.int (3 : Int32)), .val (.int ln), .val (.int b0), .val (.int b1), .val (.int b2), .val (.int b3), .val (.int b4), .val (.ref m77), .unset, .unset] [])) _
      refine XS.aload X80.here hx rfl (hb hby at_107) rfl rfl ?_
      show Steps p.tables e below (T80.setTop (mkF m 109 #[.val (.int p1), .val (.int p2), .val (.int p3), .val (.int p4), .val (.int p5), .val (.int p6), .val (.int (3 : Int32)), .val (.int ln), .val (.int b0), .val (.int b1), .val (.int b2), .val (.int b3), .val (.int b4), .val (.ref m77), .unset, .unset] [(.ref m77)])) _
      refine XS.iconst X80.here hx rfl (hb hby at_109) ?_
      show Steps p.tables e below (T80.setTop (mkF m 110 #[.val (.int p1), .val (.int p2), .val (.int p3), .val (.int p4), .val (.int p5), .val (.int p6), .val (.int (3 : Int32)), .val (.int ln), .val (.int b0), .val (.int b1), .val (.int b2), .val (.int b3), .val (.int b4), .val (.ref m77), .unset, .unset] [(.int (1 : Int32)), (.ref m77)])) _
      refine XS.iload X80.here hx rfl (hb hby at_110) rfl ?_
      show Steps p.tables e below (T80.setTop (mkF m 112 #[.val (.int p1), .val (.int p2), .val (.int p3), .val (.int p4), .val (.int p5), .val (.int p6), .val (.int (3 : Int32)), .val (.int ln), .val (.int b0), .val (.int b1), .val (.int b2), .val (.int b3), .val (.int b4), .val (.ref m77), .unset, .unset] [(.int b1), (.int (1 : Int32)), (.ref m77)])) _
      exact k
    obtain ⟨cl83, Ar83, q83, S83, M83, H83, G83⟩ := id V80
    obtain ⟨T83, h83, X83, e83, W83, st83⟩ := stB X80 hx hZ e80 Ar83 (j := (1 : Int32)) (inb_of S83 (by decide)) (g := (mkF m 112 #[.val (.int p1), .val (.int p2), .val (.int p3), .val (.int p4), .val (.int p5), .val (.int p6), .val (.int (3 : Int32)), .val (.int ln), .val (.int b0), .val (.int b1), .val (.int b2), .val (.int b3), .val (.int b4), .val (.ref m77), .unset, .unset] [(.int b1), (.int (1 : Int32)), (.ref m77)])) rfl rfl (hb hby at_112)
    have N83 := Fr.snoc X83 N80 gm77
    have O83 : Old Z n0 h83 := O80.wr W83 gm77
    rw [hb1] at W83
    have V83 : Arv Z h83 m77 cA77 .byte (3 : Int32) [(.int b0), (.int b1), (.int (0 : Int32))] (.int (0 : Int32)) := Arv.set Ar83 q83 S83 M83 H83 G83 (by rw [← hb1]; exact (fits_nar_byte _)) W83 1 rfl (Nat.le_of_ble_eq_true rfl)
    have pre_84 : ∀ t, Steps p.tables e below (T83.setTop (mkF m 113 #[.val (.int p1), .val (.int p2), .val (.int p3), .val (.int p4), .val (.int p5), .val (.int p6), .val (.int (3 : Int32)), .val (.int ln), .val (.int b0), .val (.int b1), .val (.int b2), .val (.int b3), .val (.int b4), .val (.ref m77), .unset, .unset] [])) t → Steps p.tables e below (s₁.setTop (entryFrame m #[(.int p1), (.int p2), (.int p3), (.int p4), (.int p5), (.int p6)] maxLocals)) t := fun t k => pre_82 t (st83 t k)
    have pre_85 : ∀ t, Steps p.tables e below (T83.setTop (mkF m 124 #[.val (.int p1), .val (.int p2), .val (.int p3), .val (.int p4), .val (.int p5), .val (.int p6), .val (.int (3 : Int32)), .val (.int ln), .val (.int b0), .val (.int b1), .val (.int b2), .val (.int b3), .val (.int b4), .val (.ref m77), .unset, .unset] [(.int b2), (.int (2 : Int32)), (.ref m77)])) t → Steps p.tables e below (s₁.setTop (entryFrame m #[(.int p1), (.int p2), (.int p3), (.int p4), (.int p5), (.int p6)] maxLocals)) t := by
      intro t k
      refine pre_84 t ?_
      show Steps p.tables e below (T83.setTop (mkF m 113 #[.val (.int p1), .val (.int p2), .val (.int p3), .val (.int p4), .val (.int p5), .val (.int p6), .val (.int (3 : Int32)), .val (.int ln), .val (.int b0), .val (.int b1), .val (.int b2), .val (.int b3), .val (.int b4), .val (.ref m77), .unset, .unset] [])) _
      refine XS.iload X83.here hx rfl (hb hby at_113) rfl ?_
      show Steps p.tables e below (T83.setTop (mkF m 115 #[.val (.int p1), .val (.int p2), .val (.int p3), .val (.int p4), .val (.int p5), .val (.int p6), .val (.int (3 : Int32)), .val (.int ln), .val (.int b0), .val (.int b1), .val (.int b2), .val (.int b3), .val (.int b4), .val (.ref m77), .unset, .unset] [(.int (3 : Int32))])) _
      refine XS.iconst X83.here hx rfl (hb hby at_115) ?_
      show Steps p.tables e below (T83.setTop (mkF m 116 #[.val (.int p1), .val (.int p2), .val (.int p3), .val (.int p4), .val (.int p5), .val (.int p6), .val (.int (3 : Int32)), .val (.int ln), .val (.int b0), .val (.int b1), .val (.int b2), .val (.int b3), .val (.int b4), .val (.ref m77), .unset, .unset] [(.int (2 : Int32)), (.int (3 : Int32))])) _
      refine XS.icmpNo X83.here hx rfl (hb hby at_116) rfl (XT.ii_le_f (by decide)) ?_
      show Steps p.tables e below (T83.setTop (mkF m 119 #[.val (.int p1), .val (.int p2), .val (.int p3), .val (.int p4), .val (.int p5), .val (.int p6), .val (.int (3 : Int32)), .val (.int ln), .val (.int b0), .val (.int b1), .val (.int b2), .val (.int b3), .val (.int b4), .val (.ref m77), .unset, .unset] [])) _
      refine XS.aload X83.here hx rfl (hb hby at_119) rfl rfl ?_
      show Steps p.tables e below (T83.setTop (mkF m 121 #[.val (.int p1), .val (.int p2), .val (.int p3), .val (.int p4), .val (.int p5), .val (.int p6), .val (.int (3 : Int32)), .val (.int ln), .val (.int b0), .val (.int b1), .val (.int b2), .val (.int b3), .val (.int b4), .val (.ref m77), .unset, .unset] [(.ref m77)])) _
      refine XS.iconst X83.here hx rfl (hb hby at_121) ?_
      show Steps p.tables e below (T83.setTop (mkF m 122 #[.val (.int p1), .val (.int p2), .val (.int p3), .val (.int p4), .val (.int p5), .val (.int p6), .val (.int (3 : Int32)), .val (.int ln), .val (.int b0), .val (.int b1), .val (.int b2), .val (.int b3), .val (.int b4), .val (.ref m77), .unset, .unset] [(.int (2 : Int32)), (.ref m77)])) _
      refine XS.iload X83.here hx rfl (hb hby at_122) rfl ?_
      show Steps p.tables e below (T83.setTop (mkF m 124 #[.val (.int p1), .val (.int p2), .val (.int p3), .val (.int p4), .val (.int p5), .val (.int p6), .val (.int (3 : Int32)), .val (.int ln), .val (.int b0), .val (.int b1), .val (.int b2), .val (.int b3), .val (.int b4), .val (.ref m77), .unset, .unset] [(.int b2), (.int (2 : Int32)), (.ref m77)])) _
      exact k
    obtain ⟨cl86, Ar86, q86, S86, M86, H86, G86⟩ := id V83
    obtain ⟨T86, h86, X86, e86, W86, st86⟩ := stB X83 hx hZ e83 Ar86 (j := (2 : Int32)) (inb_of S86 (by decide)) (g := (mkF m 124 #[.val (.int p1), .val (.int p2), .val (.int p3), .val (.int p4), .val (.int p5), .val (.int p6), .val (.int (3 : Int32)), .val (.int ln), .val (.int b0), .val (.int b1), .val (.int b2), .val (.int b3), .val (.int b4), .val (.ref m77), .unset, .unset] [(.int b2), (.int (2 : Int32)), (.ref m77)])) rfl rfl (hb hby at_124)
    have N86 := Fr.snoc X86 N83 gm77
    have O86 : Old Z n0 h86 := O83.wr W86 gm77
    rw [hb2] at W86
    have V86 : Arv Z h86 m77 cA77 .byte (3 : Int32) [(.int b0), (.int b1), (.int b2)] (.int (0 : Int32)) := Arv.set Ar86 q86 S86 M86 H86 G86 (by rw [← hb2]; exact (fits_nar_byte _)) W86 2 rfl (Nat.le_of_ble_eq_true rfl)
    have pre_87 : ∀ t, Steps p.tables e below (T86.setTop (mkF m 125 #[.val (.int p1), .val (.int p2), .val (.int p3), .val (.int p4), .val (.int p5), .val (.int p6), .val (.int (3 : Int32)), .val (.int ln), .val (.int b0), .val (.int b1), .val (.int b2), .val (.int b3), .val (.int b4), .val (.ref m77), .unset, .unset] [])) t → Steps p.tables e below (s₁.setTop (entryFrame m #[(.int p1), (.int p2), (.int p3), (.int p4), (.int p5), (.int p6)] maxLocals)) t := fun t k => pre_85 t (st86 t k)
    have pre_88 : ∀ t, Steps p.tables e below (T86.setTop (mkF m 155 #[.val (.int p1), .val (.int p2), .val (.int p3), .val (.int p4), .val (.int p5), .val (.int p6), .val (.int (3 : Int32)), .val (.int ln), .val (.int b0), .val (.int b1), .val (.int b2), .val (.int b3), .val (.int b4), .val (.ref m77), .val (.int (0 : Int32)), .unset] [(.int (3 : Int32)), (.int ln)])) t → Steps p.tables e below (s₁.setTop (entryFrame m #[(.int p1), (.int p2), (.int p3), (.int p4), (.int p5), (.int p6)] maxLocals)) t := by
      intro t k
      refine pre_87 t ?_
      show Steps p.tables e below (T86.setTop (mkF m 125 #[.val (.int p1), .val (.int p2), .val (.int p3), .val (.int p4), .val (.int p5), .val (.int p6), .val (.int (3 : Int32)), .val (.int ln), .val (.int b0), .val (.int b1), .val (.int b2), .val (.int b3), .val (.int b4), .val (.ref m77), .unset, .unset] [])) _
      refine XS.iload X86.here hx rfl (hb hby at_125) rfl ?_
      show Steps p.tables e below (T86.setTop (mkF m 127 #[.val (.int p1), .val (.int p2), .val (.int p3), .val (.int p4), .val (.int p5), .val (.int p6), .val (.int (3 : Int32)), .val (.int ln), .val (.int b0), .val (.int b1), .val (.int b2), .val (.int b3), .val (.int b4), .val (.ref m77), .unset, .unset] [(.int (3 : Int32))])) _
      refine XS.iconst X86.here hx rfl (hb hby at_127) ?_
      show Steps p.tables e below (T86.setTop (mkF m 128 #[.val (.int p1), .val (.int p2), .val (.int p3), .val (.int p4), .val (.int p5), .val (.int p6), .val (.int (3 : Int32)), .val (.int ln), .val (.int b0), .val (.int b1), .val (.int b2), .val (.int b3), .val (.int b4), .val (.ref m77), .unset, .unset] [(.int (3 : Int32)), (.int (3 : Int32))])) _
      refine XS.icmpYes X86.here hx rfl (pc0 := 128) (pc' := 137) rfl (hb hby at_128) rfl (XT.ii_le_t (by decide)) (by decide) (by decide) ?_
      show Steps p.tables e below (T86.setTop (mkF m 137 #[.val (.int p1), .val (.int p2), .val (.int p3), .val (.int p4), .val (.int p5), .val (.int p6), .val (.int (3 : Int32)), .val (.int ln), .val (.int b0), .val (.int b1), .val (.int b2), .val (.int b3), .val (.int b4), .val (.ref m77), .unset, .unset] [])) _
      refine XS.iload X86.here hx rfl (hb hby at_137) rfl ?_
      show Steps p.tables e below (T86.setTop (mkF m 139 #[.val (.int p1), .val (.int p2), .val (.int p3), .val (.int p4), .val (.int p5), .val (.int p6), .val (.int (3 : Int32)), .val (.int ln), .val (.int b0), .val (.int b1), .val (.int b2), .val (.int b3), .val (.int b4), .val (.ref m77), .unset, .unset] [(.int (3 : Int32))])) _
      refine XS.iconst X86.here hx rfl (hb hby at_139) ?_
      show Steps p.tables e below (T86.setTop (mkF m 140 #[.val (.int p1), .val (.int p2), .val (.int p3), .val (.int p4), .val (.int p5), .val (.int p6), .val (.int (3 : Int32)), .val (.int ln), .val (.int b0), .val (.int b1), .val (.int b2), .val (.int b3), .val (.int b4), .val (.ref m77), .unset, .unset] [(.int (4 : Int32)), (.int (3 : Int32))])) _
      refine XS.icmpYes X86.here hx rfl (pc0 := 140) (pc' := 149) rfl (hb hby at_140) rfl (XT.ii_le_t (by decide)) (by decide) (by decide) ?_
      show Steps p.tables e below (T86.setTop (mkF m 149 #[.val (.int p1), .val (.int p2), .val (.int p3), .val (.int p4), .val (.int p5), .val (.int p6), .val (.int (3 : Int32)), .val (.int ln), .val (.int b0), .val (.int b1), .val (.int b2), .val (.int b3), .val (.int b4), .val (.ref m77), .unset, .unset] [])) _
      refine XS.iconst X86.here hx rfl (hb hby at_149) ?_
      show Steps p.tables e below (T86.setTop (mkF m 150 #[.val (.int p1), .val (.int p2), .val (.int p3), .val (.int p4), .val (.int p5), .val (.int p6), .val (.int (3 : Int32)), .val (.int ln), .val (.int b0), .val (.int b1), .val (.int b2), .val (.int b3), .val (.int b4), .val (.ref m77), .unset, .unset] [(.int (0 : Int32))])) _
      refine XS.istore X86.here hx rfl (hb hby at_150) rfl (l' := #[.val (.int p1), .val (.int p2), .val (.int p3), .val (.int p4), .val (.int p5), .val (.int p6), .val (.int (3 : Int32)), .val (.int ln), .val (.int b0), .val (.int b1), .val (.int b2), .val (.int b3), .val (.int b4), .val (.ref m77), .val (.int (0 : Int32)), .unset]) rfl ?_
      show Steps p.tables e below (T86.setTop (mkF m 152 #[.val (.int p1), .val (.int p2), .val (.int p3), .val (.int p4), .val (.int p5), .val (.int p6), .val (.int (3 : Int32)), .val (.int ln), .val (.int b0), .val (.int b1), .val (.int b2), .val (.int b3), .val (.int b4), .val (.ref m77), .val (.int (0 : Int32)), .unset] [])) _
      refine XS.iload X86.here hx rfl (hb hby at_152) rfl ?_
      show Steps p.tables e below (T86.setTop (mkF m 154 #[.val (.int p1), .val (.int p2), .val (.int p3), .val (.int p4), .val (.int p5), .val (.int p6), .val (.int (3 : Int32)), .val (.int ln), .val (.int b0), .val (.int b1), .val (.int b2), .val (.int b3), .val (.int b4), .val (.ref m77), .val (.int (0 : Int32)), .unset] [(.int ln)])) _
      refine XS.iconst X86.here hx rfl (hb hby at_154) ?_
      show Steps p.tables e below (T86.setTop (mkF m 155 #[.val (.int p1), .val (.int p2), .val (.int p3), .val (.int p4), .val (.int p5), .val (.int p6), .val (.int (3 : Int32)), .val (.int ln), .val (.int b0), .val (.int b1), .val (.int b2), .val (.int b3), .val (.int b4), .val (.ref m77), .val (.int (0 : Int32)), .unset] [(.int (3 : Int32)), (.int ln)])) _
      exact k
    by_cases hc89 : ln < (3 : Int32)
    · skip
      have pre_90 : ∀ t, Steps p.tables e below (T86.setTop (mkF m 186 #[.val (.int p1), .val (.int p2), .val (.int p3), .val (.int p4), .val (.int p5), .val (.int p6), .val (.int (3 : Int32)), .val (.int ln), .val (.int b0), .val (.int b1), .val (.int b2), .val (.int b3), .val (.int b4), .val (.ref m77), .val (.int (0 : Int32)), .unset] [(.int ln), (.ref m77)])) t → Steps p.tables e below (s₁.setTop (entryFrame m #[(.int p1), (.int p2), (.int p3), (.int p4), (.int p5), (.int p6)] maxLocals)) t := by
        intro t k
        refine pre_88 t ?_
        show Steps p.tables e below (T86.setTop (mkF m 155 #[.val (.int p1), .val (.int p2), .val (.int p3), .val (.int p4), .val (.int p5), .val (.int p6), .val (.int (3 : Int32)), .val (.int ln), .val (.int b0), .val (.int b1), .val (.int b2), .val (.int b3), .val (.int b4), .val (.ref m77), .val (.int (0 : Int32)), .unset] [(.int (3 : Int32)), (.int ln)])) _
        refine XS.icmpYes X86.here hx rfl (pc0 := 155) (pc' := 182) rfl (hb hby at_155) rfl (XT.ii_lt_t hc89) (by decide) (by decide) ?_
        show Steps p.tables e below (T86.setTop (mkF m 182 #[.val (.int p1), .val (.int p2), .val (.int p3), .val (.int p4), .val (.int p5), .val (.int p6), .val (.int (3 : Int32)), .val (.int ln), .val (.int b0), .val (.int b1), .val (.int b2), .val (.int b3), .val (.int b4), .val (.ref m77), .val (.int (0 : Int32)), .unset] [])) _
        refine XS.aload X86.here hx rfl (hb hby at_182) rfl rfl ?_
        show Steps p.tables e below (T86.setTop (mkF m 184 #[.val (.int p1), .val (.int p2), .val (.int p3), .val (.int p4), .val (.int p5), .val (.int p6), .val (.int (3 : Int32)), .val (.int ln), .val (.int b0), .val (.int b1), .val (.int b2), .val (.int b3), .val (.int b4), .val (.ref m77), .val (.int (0 : Int32)), .unset] [(.ref m77)])) _
        refine XS.iload X86.here hx rfl (hb hby at_184) rfl ?_
        show Steps p.tables e below (T86.setTop (mkF m 186 #[.val (.int p1), .val (.int p2), .val (.int p3), .val (.int p4), .val (.int p5), .val (.int p6), .val (.int (3 : Int32)), .val (.int ln), .val (.int b0), .val (.int b1), .val (.int b2), .val (.int b3), .val (.int b4), .val (.ref m77), .val (.int (0 : Int32)), .unset] [(.int ln), (.ref m77)])) _
        exact k
      obtain ⟨_, _, ⟨T91, L91, k91, n91⟩, -, X91, ⟨Lc91, hQ91, l91, y91, z91⟩, st91⟩ := Jvm.LawKit.callS X86 hx (y := (⟨"com/example/tranche/tranche/TextFile", "textStart", "([BI)I"⟩ : MethodName)) hown (mvT hZ (hw _ (List.mem_of_getElem? (i := 6) rfl))) (mvT hZ (hw _ (List.mem_of_getElem? (i := 7) rfl))) (mvT hZ (hw _ (List.mem_of_getElem? (i := 8) rfl))) (mvT hZ (hw _ (List.mem_of_getElem? (i := 9) rfl))) (by decide) (backOf (W := 0) (rm_ts0 l Z a0 hw [] m77 ln aB kB h86 n0 O86 SB VB hc89) hZ (hw _ (List.mem_of_getElem? (i := 9) rfl)) (hw _ (List.mem_of_getElem? (i := 8) rfl)) (by decide) (by decide)) (g := (mkF m 186 #[.val (.int p1), .val (.int p2), .val (.int p3), .val (.int p4), .val (.int p5), .val (.int p6), .val (.int (3 : Int32)), .val (.int ln), .val (.int b0), .val (.int b1), .val (.int b2), .val (.int b3), .val (.int b4), .val (.ref m77), .val (.int (0 : Int32)), .unset] [(.int ln), (.ref m77)])) rfl (by rw [hml]; rfl) (argsL := [(.ref m77), (.int ln)]) (rest := []) (lenOf pd_law_1 rfl) rfl (by show 2 * 0 + _ ≤ _; exact Nat.le_of_eq rfl) (hb hby at_186) (fun _ _ => ⟨rfl, e86, (by decide : 1 + 0 ≤ _), (by decide : 3 + 0 ≤ _)⟩)
      dsimp only [Pt.U, Pt.locs, Pt.cells, Pt.slots] at X91 l91 y91 z91 st91 hQ91
      subst l91 y91 z91
      obtain ⟨rfl, N91q, e91⟩ := hQ91
      have N91 := Fr.app N86 N91q
      have pre_92 : ∀ t, Steps p.tables e below (T91.setTop (mkF m 189 #[.val (.int p1), .val (.int p2), .val (.int p3), .val (.int p4), .val (.int p5), .val (.int p6), .val (.int (3 : Int32)), .val (.int ln), .val (.int b0), .val (.int b1), .val (.int b2), .val (.int b3), .val (.int b4), .val (.ref m77), .val (.int (0 : Int32)), .unset] [(.int (0 : Int32))])) t → Steps p.tables e below (s₁.setTop (entryFrame m #[(.int p1), (.int p2), (.int p3), (.int p4), (.int p5), (.int p6)] maxLocals)) t := fun t k => pre_90 t (st91 t k)
      have pre_93 : ∀ t, Steps p.tables e below (T91.setTop (mkF m 203 #[.val (.int p1), .val (.int p2), .val (.int p3), .val (.int p4), .val (.int p5), .val (.int p6), .val (.int (3 : Int32)), .val (.int ln), .val (.int b0), .val (.int b1), .val (.int b2), .val (.int b3), .val (.int b4), .val (.ref m77), .val (.int (0 : Int32)), .val (.int (0 : Int32))] [(.int (1 : Int32))])) t → Steps p.tables e below (s₁.setTop (entryFrame m #[(.int p1), (.int p2), (.int p3), (.int p4), (.int p5), (.int p6)] maxLocals)) t := by
        intro t k
        refine pre_92 t ?_
        show Steps p.tables e below (T91.setTop (mkF m 189 #[.val (.int p1), .val (.int p2), .val (.int p3), .val (.int p4), .val (.int p5), .val (.int p6), .val (.int (3 : Int32)), .val (.int ln), .val (.int b0), .val (.int b1), .val (.int b2), .val (.int b3), .val (.int b4), .val (.ref m77), .val (.int (0 : Int32)), .unset] [(.int (0 : Int32))])) _
        refine XS.istore X91.here hx rfl (hb hby at_189) rfl (l' := #[.val (.int p1), .val (.int p2), .val (.int p3), .val (.int p4), .val (.int p5), .val (.int p6), .val (.int (3 : Int32)), .val (.int ln), .val (.int b0), .val (.int b1), .val (.int b2), .val (.int b3), .val (.int b4), .val (.ref m77), .val (.int (0 : Int32)), .val (.int (0 : Int32))]) rfl ?_
        show Steps p.tables e below (T91.setTop (mkF m 191 #[.val (.int p1), .val (.int p2), .val (.int p3), .val (.int p4), .val (.int p5), .val (.int p6), .val (.int (3 : Int32)), .val (.int ln), .val (.int b0), .val (.int b1), .val (.int b2), .val (.int b3), .val (.int b4), .val (.ref m77), .val (.int (0 : Int32)), .val (.int (0 : Int32))] [])) _
        refine XS.iload X91.here hx rfl (hb hby at_191) rfl ?_
        show Steps p.tables e below (T91.setTop (mkF m 193 #[.val (.int p1), .val (.int p2), .val (.int p3), .val (.int p4), .val (.int p5), .val (.int p6), .val (.int (3 : Int32)), .val (.int ln), .val (.int b0), .val (.int b1), .val (.int b2), .val (.int b3), .val (.int b4), .val (.ref m77), .val (.int (0 : Int32)), .val (.int (0 : Int32))] [(.int (0 : Int32))])) _
        refine XS.iload X91.here hx rfl (hb hby at_193) rfl ?_
        show Steps p.tables e below (T91.setTop (mkF m 195 #[.val (.int p1), .val (.int p2), .val (.int p3), .val (.int p4), .val (.int p5), .val (.int p6), .val (.int (3 : Int32)), .val (.int ln), .val (.int b0), .val (.int b1), .val (.int b2), .val (.int b3), .val (.int b4), .val (.ref m77), .val (.int (0 : Int32)), .val (.int (0 : Int32))] [(.int (0 : Int32)), (.int (0 : Int32))])) _
        refine XS.icmpNo X91.here hx rfl (hb hby at_195) rfl (XT.ii_ne_f (by decide)) ?_
        show Steps p.tables e below (T91.setTop (mkF m 198 #[.val (.int p1), .val (.int p2), .val (.int p3), .val (.int p4), .val (.int p5), .val (.int p6), .val (.int (3 : Int32)), .val (.int ln), .val (.int b0), .val (.int b1), .val (.int b2), .val (.int b3), .val (.int b4), .val (.ref m77), .val (.int (0 : Int32)), .val (.int (0 : Int32))] [])) _
        refine XS.iconst X91.here hx rfl (hb hby at_198) ?_
        show Steps p.tables e below (T91.setTop (mkF m 199 #[.val (.int p1), .val (.int p2), .val (.int p3), .val (.int p4), .val (.int p5), .val (.int p6), .val (.int (3 : Int32)), .val (.int ln), .val (.int b0), .val (.int b1), .val (.int b2), .val (.int b3), .val (.int b4), .val (.ref m77), .val (.int (0 : Int32)), .val (.int (0 : Int32))] [(.int (1 : Int32))])) _
        refine XS.goto X91.here hx rfl (pc0 := 199) (pc' := 203) rfl (hb hby at_199) (by decide) (by decide) ?_
        show Steps p.tables e below (T91.setTop (mkF m 203 #[.val (.int p1), .val (.int p2), .val (.int p3), .val (.int p4), .val (.int p5), .val (.int p6), .val (.int (3 : Int32)), .val (.int ln), .val (.int b0), .val (.int b1), .val (.int b2), .val (.int b3), .val (.int b4), .val (.ref m77), .val (.int (0 : Int32)), .val (.int (0 : Int32))] [(.int (1 : Int32))])) _
        exact k
      obtain ⟨fs, hr, hrun, hended, hW, hsame⟩ := X91.leave (v := some (.int (1 : Int32))) (fun h => by rw [Bd.returns] at h; cases h)
      refine ⟨_, _, pre_93 _ ?_, hrun, hended, _, _, rfl, ?_, ⟨_, rfl⟩, hW, hsame.mono (by decide) (by decide)⟩
      · show Steps p.tables e below (T91.setTop (mkF m 203 #[.val (.int p1), .val (.int p2), .val (.int p3), .val (.int p4), .val (.int p5), .val (.int p6), .val (.int (3 : Int32)), .val (.int ln), .val (.int b0), .val (.int b1), .val (.int b2), .val (.int b3), .val (.int b4), .val (.ref m77), .val (.int (0 : Int32)), .val (.int (0 : Int32))] [(.int (1 : Int32))])) _
        exact retN X91 hx (t := .boolean) Bd.returns (by simp) (hb hby at_203) hr
      · show Q_law Z p1 p2 p3 p4 p5 p6 aB kB h0 n0 _ T91.heap _
        rw [e91]
        exact ⟨rfl, N91⟩
    · skip
      have pre_94 : ∀ t, Steps p.tables e below (T86.setTop (mkF m 162 #[.val (.int p1), .val (.int p2), .val (.int p3), .val (.int p4), .val (.int p5), .val (.int p6), .val (.int (3 : Int32)), .val (.int ln), .val (.int b0), .val (.int b1), .val (.int b2), .val (.int b3), .val (.int b4), .val (.ref m77), .val (.int (0 : Int32)), .unset] [(.int (-17 : Int32)), (.int b0)])) t → Steps p.tables e below (s₁.setTop (entryFrame m #[(.int p1), (.int p2), (.int p3), (.int p4), (.int p5), (.int p6)] maxLocals)) t := by
        intro t k
        refine pre_88 t ?_
        show Steps p.tables e below (T86.setTop (mkF m 155 #[.val (.int p1), .val (.int p2), .val (.int p3), .val (.int p4), .val (.int p5), .val (.int p6), .val (.int (3 : Int32)), .val (.int ln), .val (.int b0), .val (.int b1), .val (.int b2), .val (.int b3), .val (.int b4), .val (.ref m77), .val (.int (0 : Int32)), .unset] [(.int (3 : Int32)), (.int ln)])) _
        refine XS.icmpNo X86.here hx rfl (hb hby at_155) rfl (XT.ii_lt_f hc89) ?_
        show Steps p.tables e below (T86.setTop (mkF m 158 #[.val (.int p1), .val (.int p2), .val (.int p3), .val (.int p4), .val (.int p5), .val (.int p6), .val (.int (3 : Int32)), .val (.int ln), .val (.int b0), .val (.int b1), .val (.int b2), .val (.int b3), .val (.int b4), .val (.ref m77), .val (.int (0 : Int32)), .unset] [])) _
        refine XS.iload X86.here hx rfl (hb hby at_158) rfl ?_
        show Steps p.tables e below (T86.setTop (mkF m 160 #[.val (.int p1), .val (.int p2), .val (.int p3), .val (.int p4), .val (.int p5), .val (.int p6), .val (.int (3 : Int32)), .val (.int ln), .val (.int b0), .val (.int b1), .val (.int b2), .val (.int b3), .val (.int b4), .val (.ref m77), .val (.int (0 : Int32)), .unset] [(.int b0)])) _
        refine XS.bipush X86.here hx rfl (hb hby at_160) ?_
        show Steps p.tables e below (T86.setTop (mkF m 162 #[.val (.int p1), .val (.int p2), .val (.int p3), .val (.int p4), .val (.int p5), .val (.int p6), .val (.int (3 : Int32)), .val (.int ln), .val (.int b0), .val (.int b1), .val (.int b2), .val (.int b3), .val (.int b4), .val (.ref m77), .val (.int (0 : Int32)), .unset] [(.int (-17 : Int32)), (.int b0)])) _
        exact k
      have pre_98 : ∀ t, Steps p.tables e below (T86.setTop (mkF m 182 #[.val (.int p1), .val (.int p2), .val (.int p3), .val (.int p4), .val (.int p5), .val (.int p6), .val (.int (3 : Int32)), .val (.int ln), .val (.int b0), .val (.int b1), .val (.int b2), .val (.int b3), .val (.int b4), .val (.ref m77), .val (.int (if b0 = (-17 : Int32) then (if b1 = (-69 : Int32) then (if b2 = (-65 : Int32) then (3 : Int32) else (0 : Int32)) else (0 : Int32)) else (0 : Int32))), .unset] [])) t → Steps p.tables e below (s₁.setTop (entryFrame m #[(.int p1), (.int p2), (.int p3), (.int p4), (.int p5), (.int p6)] maxLocals)) t := by
        intro t k
        refine pre_94 t ?_
        by_cases hm95 : b0 = (-17 : Int32)
        · skip
          show Steps p.tables e below (T86.setTop (mkF m 162 #[.val (.int p1), .val (.int p2), .val (.int p3), .val (.int p4), .val (.int p5), .val (.int p6), .val (.int (3 : Int32)), .val (.int ln), .val (.int b0), .val (.int b1), .val (.int b2), .val (.int b3), .val (.int b4), .val (.ref m77), .val (.int (0 : Int32)), .unset] [(.int (-17 : Int32)), (.int b0)])) _
          refine XS.icmpNo X86.here hx rfl (hb hby at_162) rfl (XT.ii_ne_f hm95) ?_
          show Steps p.tables e below (T86.setTop (mkF m 165 #[.val (.int p1), .val (.int p2), .val (.int p3), .val (.int p4), .val (.int p5), .val (.int p6), .val (.int (3 : Int32)), .val (.int ln), .val (.int b0), .val (.int b1), .val (.int b2), .val (.int b3), .val (.int b4), .val (.ref m77), .val (.int (0 : Int32)), .unset] [])) _
          refine XS.iload X86.here hx rfl (hb hby at_165) rfl ?_
          show Steps p.tables e below (T86.setTop (mkF m 167 #[.val (.int p1), .val (.int p2), .val (.int p3), .val (.int p4), .val (.int p5), .val (.int p6), .val (.int (3 : Int32)), .val (.int ln), .val (.int b0), .val (.int b1), .val (.int b2), .val (.int b3), .val (.int b4), .val (.ref m77), .val (.int (0 : Int32)), .unset] [(.int b1)])) _
          refine XS.bipush X86.here hx rfl (hb hby at_167) ?_
          show Steps p.tables e below (T86.setTop (mkF m 169 #[.val (.int p1), .val (.int p2), .val (.int p3), .val (.int p4), .val (.int p5), .val (.int p6), .val (.int (3 : Int32)), .val (.int ln), .val (.int b0), .val (.int b1), .val (.int b2), .val (.int b3), .val (.int b4), .val (.ref m77), .val (.int (0 : Int32)), .unset] [(.int (-69 : Int32)), (.int b1)])) _
          by_cases hm96 : b1 = (-69 : Int32)
          · skip
            show Steps p.tables e below (T86.setTop (mkF m 169 #[.val (.int p1), .val (.int p2), .val (.int p3), .val (.int p4), .val (.int p5), .val (.int p6), .val (.int (3 : Int32)), .val (.int ln), .val (.int b0), .val (.int b1), .val (.int b2), .val (.int b3), .val (.int b4), .val (.ref m77), .val (.int (0 : Int32)), .unset] [(.int (-69 : Int32)), (.int b1)])) _
            refine XS.icmpNo X86.here hx rfl (hb hby at_169) rfl (XT.ii_ne_f hm96) ?_
            show Steps p.tables e below (T86.setTop (mkF m 172 #[.val (.int p1), .val (.int p2), .val (.int p3), .val (.int p4), .val (.int p5), .val (.int p6), .val (.int (3 : Int32)), .val (.int ln), .val (.int b0), .val (.int b1), .val (.int b2), .val (.int b3), .val (.int b4), .val (.ref m77), .val (.int (0 : Int32)), .unset] [])) _
            refine XS.iload X86.here hx rfl (hb hby at_172) rfl ?_
            show Steps p.tables e below (T86.setTop (mkF m 174 #[.val (.int p1), .val (.int p2), .val (.int p3), .val (.int p4), .val (.int p5), .val (.int p6), .val (.int (3 : Int32)), .val (.int ln), .val (.int b0), .val (.int b1), .val (.int b2), .val (.int b3), .val (.int b4), .val (.ref m77), .val (.int (0 : Int32)), .unset] [(.int b2)])) _
            refine XS.bipush X86.here hx rfl (hb hby at_174) ?_
            show Steps p.tables e below (T86.setTop (mkF m 176 #[.val (.int p1), .val (.int p2), .val (.int p3), .val (.int p4), .val (.int p5), .val (.int p6), .val (.int (3 : Int32)), .val (.int ln), .val (.int b0), .val (.int b1), .val (.int b2), .val (.int b3), .val (.int b4), .val (.ref m77), .val (.int (0 : Int32)), .unset] [(.int (-65 : Int32)), (.int b2)])) _
            by_cases hm97 : b2 = (-65 : Int32)
            · skip
              show Steps p.tables e below (T86.setTop (mkF m 176 #[.val (.int p1), .val (.int p2), .val (.int p3), .val (.int p4), .val (.int p5), .val (.int p6), .val (.int (3 : Int32)), .val (.int ln), .val (.int b0), .val (.int b1), .val (.int b2), .val (.int b3), .val (.int b4), .val (.ref m77), .val (.int (0 : Int32)), .unset] [(.int (-65 : Int32)), (.int b2)])) _
              refine XS.icmpNo X86.here hx rfl (hb hby at_176) rfl (XT.ii_ne_f hm97) ?_
              show Steps p.tables e below (T86.setTop (mkF m 179 #[.val (.int p1), .val (.int p2), .val (.int p3), .val (.int p4), .val (.int p5), .val (.int p6), .val (.int (3 : Int32)), .val (.int ln), .val (.int b0), .val (.int b1), .val (.int b2), .val (.int b3), .val (.int b4), .val (.ref m77), .val (.int (0 : Int32)), .unset] [])) _
              refine XS.iconst X86.here hx rfl (hb hby at_179) ?_
              show Steps p.tables e below (T86.setTop (mkF m 180 #[.val (.int p1), .val (.int p2), .val (.int p3), .val (.int p4), .val (.int p5), .val (.int p6), .val (.int (3 : Int32)), .val (.int ln), .val (.int b0), .val (.int b1), .val (.int b2), .val (.int b3), .val (.int b4), .val (.ref m77), .val (.int (0 : Int32)), .unset] [(.int (3 : Int32))])) _
              refine XS.istore X86.here hx rfl (hb hby at_180) rfl (l' := #[.val (.int p1), .val (.int p2), .val (.int p3), .val (.int p4), .val (.int p5), .val (.int p6), .val (.int (3 : Int32)), .val (.int ln), .val (.int b0), .val (.int b1), .val (.int b2), .val (.int b3), .val (.int b4), .val (.ref m77), .val (.int (3 : Int32)), .unset]) rfl ?_
              show Steps p.tables e below (T86.setTop (mkF m 182 #[.val (.int p1), .val (.int p2), .val (.int p3), .val (.int p4), .val (.int p5), .val (.int p6), .val (.int (3 : Int32)), .val (.int ln), .val (.int b0), .val (.int b1), .val (.int b2), .val (.int b3), .val (.int b4), .val (.ref m77), .val (.int (3 : Int32)), .unset] [])) _
              first | exact k | (simp only [if_pos hm95, if_pos hm96, if_pos hm97] at k; exact k)
            · skip
              show Steps p.tables e below (T86.setTop (mkF m 176 #[.val (.int p1), .val (.int p2), .val (.int p3), .val (.int p4), .val (.int p5), .val (.int p6), .val (.int (3 : Int32)), .val (.int ln), .val (.int b0), .val (.int b1), .val (.int b2), .val (.int b3), .val (.int b4), .val (.ref m77), .val (.int (0 : Int32)), .unset] [(.int (-65 : Int32)), (.int b2)])) _
              refine XS.icmpYes X86.here hx rfl (pc0 := 176) (pc' := 182) rfl (hb hby at_176) rfl (XT.ii_ne_t hm97) (by decide) (by decide) ?_
              show Steps p.tables e below (T86.setTop (mkF m 182 #[.val (.int p1), .val (.int p2), .val (.int p3), .val (.int p4), .val (.int p5), .val (.int p6), .val (.int (3 : Int32)), .val (.int ln), .val (.int b0), .val (.int b1), .val (.int b2), .val (.int b3), .val (.int b4), .val (.ref m77), .val (.int (0 : Int32)), .unset] [])) _
              first | exact k | (simp only [if_pos hm95, if_pos hm96, if_neg hm97] at k; exact k)
          · skip
            show Steps p.tables e below (T86.setTop (mkF m 169 #[.val (.int p1), .val (.int p2), .val (.int p3), .val (.int p4), .val (.int p5), .val (.int p6), .val (.int (3 : Int32)), .val (.int ln), .val (.int b0), .val (.int b1), .val (.int b2), .val (.int b3), .val (.int b4), .val (.ref m77), .val (.int (0 : Int32)), .unset] [(.int (-69 : Int32)), (.int b1)])) _
            refine XS.icmpYes X86.here hx rfl (pc0 := 169) (pc' := 182) rfl (hb hby at_169) rfl (XT.ii_ne_t hm96) (by decide) (by decide) ?_
            show Steps p.tables e below (T86.setTop (mkF m 182 #[.val (.int p1), .val (.int p2), .val (.int p3), .val (.int p4), .val (.int p5), .val (.int p6), .val (.int (3 : Int32)), .val (.int ln), .val (.int b0), .val (.int b1), .val (.int b2), .val (.int b3), .val (.int b4), .val (.ref m77), .val (.int (0 : Int32)), .unset] [])) _
            first | exact k | (simp only [if_pos hm95, if_neg hm96] at k; exact k)
        · skip
          show Steps p.tables e below (T86.setTop (mkF m 162 #[.val (.int p1), .val (.int p2), .val (.int p3), .val (.int p4), .val (.int p5), .val (.int p6), .val (.int (3 : Int32)), .val (.int ln), .val (.int b0), .val (.int b1), .val (.int b2), .val (.int b3), .val (.int b4), .val (.ref m77), .val (.int (0 : Int32)), .unset] [(.int (-17 : Int32)), (.int b0)])) _
          refine XS.icmpYes X86.here hx rfl (pc0 := 162) (pc' := 182) rfl (hb hby at_162) rfl (XT.ii_ne_t hm95) (by decide) (by decide) ?_
          show Steps p.tables e below (T86.setTop (mkF m 182 #[.val (.int p1), .val (.int p2), .val (.int p3), .val (.int p4), .val (.int p5), .val (.int p6), .val (.int (3 : Int32)), .val (.int ln), .val (.int b0), .val (.int b1), .val (.int b2), .val (.int b3), .val (.int b4), .val (.ref m77), .val (.int (0 : Int32)), .unset] [])) _
          first | exact k | (simp only [if_neg hm95] at k; exact k)
      have pre_99 : ∀ t, Steps p.tables e below (T86.setTop (mkF m 186 #[.val (.int p1), .val (.int p2), .val (.int p3), .val (.int p4), .val (.int p5), .val (.int p6), .val (.int (3 : Int32)), .val (.int ln), .val (.int b0), .val (.int b1), .val (.int b2), .val (.int b3), .val (.int b4), .val (.ref m77), .val (.int (if b0 = (-17 : Int32) then (if b1 = (-69 : Int32) then (if b2 = (-65 : Int32) then (3 : Int32) else (0 : Int32)) else (0 : Int32)) else (0 : Int32))), .unset] [(.int ln), (.ref m77)])) t → Steps p.tables e below (s₁.setTop (entryFrame m #[(.int p1), (.int p2), (.int p3), (.int p4), (.int p5), (.int p6)] maxLocals)) t := by
        intro t k
        refine pre_98 t ?_
        show Steps p.tables e below (T86.setTop (mkF m 182 #[.val (.int p1), .val (.int p2), .val (.int p3), .val (.int p4), .val (.int p5), .val (.int p6), .val (.int (3 : Int32)), .val (.int ln), .val (.int b0), .val (.int b1), .val (.int b2), .val (.int b3), .val (.int b4), .val (.ref m77), .val (.int (if b0 = (-17 : Int32) then (if b1 = (-69 : Int32) then (if b2 = (-65 : Int32) then (3 : Int32) else (0 : Int32)) else (0 : Int32)) else (0 : Int32))), .unset] [])) _
        refine XS.aload X86.here hx rfl (hb hby at_182) rfl rfl ?_
        show Steps p.tables e below (T86.setTop (mkF m 184 #[.val (.int p1), .val (.int p2), .val (.int p3), .val (.int p4), .val (.int p5), .val (.int p6), .val (.int (3 : Int32)), .val (.int ln), .val (.int b0), .val (.int b1), .val (.int b2), .val (.int b3), .val (.int b4), .val (.ref m77), .val (.int (if b0 = (-17 : Int32) then (if b1 = (-69 : Int32) then (if b2 = (-65 : Int32) then (3 : Int32) else (0 : Int32)) else (0 : Int32)) else (0 : Int32))), .unset] [(.ref m77)])) _
        refine XS.iload X86.here hx rfl (hb hby at_184) rfl ?_
        show Steps p.tables e below (T86.setTop (mkF m 186 #[.val (.int p1), .val (.int p2), .val (.int p3), .val (.int p4), .val (.int p5), .val (.int p6), .val (.int (3 : Int32)), .val (.int ln), .val (.int b0), .val (.int b1), .val (.int b2), .val (.int b3), .val (.int b4), .val (.ref m77), .val (.int (if b0 = (-17 : Int32) then (if b1 = (-69 : Int32) then (if b2 = (-65 : Int32) then (3 : Int32) else (0 : Int32)) else (0 : Int32)) else (0 : Int32))), .unset] [(.int ln), (.ref m77)])) _
        exact k
      obtain ⟨_, _, ⟨T100, L100, k100, n100⟩, -, X100, ⟨Lc100, hQ100, l100, y100, z100⟩, st100⟩ := Jvm.LawKit.callS X86 hx (y := (⟨"com/example/tranche/tranche/TextFile", "textStart", "([BI)I"⟩ : MethodName)) hown (mvT hZ (hw _ (List.mem_of_getElem? (i := 6) rfl))) (mvT hZ (hw _ (List.mem_of_getElem? (i := 7) rfl))) (mvT hZ (hw _ (List.mem_of_getElem? (i := 8) rfl))) (mvT hZ (hw _ (List.mem_of_getElem? (i := 9) rfl))) (by decide) (backOf (W := 0) (rm_ts1 l Z a0 hw [] m77 ln aB cA77 (3 : Int32) b0 b1 b2 [] kB h86 n0 O86 SB VB (by decide) V86 hc89) hZ (hw _ (List.mem_of_getElem? (i := 9) rfl)) (hw _ (List.mem_of_getElem? (i := 8) rfl)) (by decide) (by decide)) (g := (mkF m 186 #[.val (.int p1), .val (.int p2), .val (.int p3), .val (.int p4), .val (.int p5), .val (.int p6), .val (.int (3 : Int32)), .val (.int ln), .val (.int b0), .val (.int b1), .val (.int b2), .val (.int b3), .val (.int b4), .val (.ref m77), .val (.int (if b0 = (-17 : Int32) then (if b1 = (-69 : Int32) then (if b2 = (-65 : Int32) then (3 : Int32) else (0 : Int32)) else (0 : Int32)) else (0 : Int32))), .unset] [(.int ln), (.ref m77)])) rfl (by rw [hml]; rfl) (argsL := [(.ref m77), (.int ln)]) (rest := []) (lenOf pd_law_1 rfl) rfl (by show 2 * 0 + _ ≤ _; exact Nat.le_of_eq rfl) (hb hby at_186) (fun _ _ => ⟨rfl, e86, (by decide : 1 + 0 ≤ _), (by decide : 3 + 0 ≤ _)⟩)
      dsimp only [Pt.U, Pt.locs, Pt.cells, Pt.slots] at X100 l100 y100 z100 st100 hQ100
      subst l100 y100 z100
      obtain ⟨rfl, N100q, e100⟩ := hQ100
      have N100 := Fr.app N86 N100q
      have pre_101 : ∀ t, Steps p.tables e below (T100.setTop (mkF m 189 #[.val (.int p1), .val (.int p2), .val (.int p3), .val (.int p4), .val (.int p5), .val (.int p6), .val (.int (3 : Int32)), .val (.int ln), .val (.int b0), .val (.int b1), .val (.int b2), .val (.int b3), .val (.int b4), .val (.ref m77), .val (.int (if b0 = (-17 : Int32) then (if b1 = (-69 : Int32) then (if b2 = (-65 : Int32) then (3 : Int32) else (0 : Int32)) else (0 : Int32)) else (0 : Int32))), .unset] [(.int (if b0 = (-17 : Int32) then (if b1 = (-69 : Int32) then (if b2 = (-65 : Int32) then (3 : Int32) else (0 : Int32)) else (0 : Int32)) else (0 : Int32)))])) t → Steps p.tables e below (s₁.setTop (entryFrame m #[(.int p1), (.int p2), (.int p3), (.int p4), (.int p5), (.int p6)] maxLocals)) t := fun t k => pre_99 t (st100 t k)
      have pre_102 : ∀ t, Steps p.tables e below (T100.setTop (mkF m 195 #[.val (.int p1), .val (.int p2), .val (.int p3), .val (.int p4), .val (.int p5), .val (.int p6), .val (.int (3 : Int32)), .val (.int ln), .val (.int b0), .val (.int b1), .val (.int b2), .val (.int b3), .val (.int b4), .val (.ref m77), .val (.int (if b0 = (-17 : Int32) then (if b1 = (-69 : Int32) then (if b2 = (-65 : Int32) then (3 : Int32) else (0 : Int32)) else (0 : Int32)) else (0 : Int32))), .val (.int (if b0 = (-17 : Int32) then (if b1 = (-69 : Int32) then (if b2 = (-65 : Int32) then (3 : Int32) else (0 : Int32)) else (0 : Int32)) else (0 : Int32)))] [(.int (if b0 = (-17 : Int32) then (if b1 = (-69 : Int32) then (if b2 = (-65 : Int32) then (3 : Int32) else (0 : Int32)) else (0 : Int32)) else (0 : Int32))), (.int (if b0 = (-17 : Int32) then (if b1 = (-69 : Int32) then (if b2 = (-65 : Int32) then (3 : Int32) else (0 : Int32)) else (0 : Int32)) else (0 : Int32)))])) t → Steps p.tables e below (s₁.setTop (entryFrame m #[(.int p1), (.int p2), (.int p3), (.int p4), (.int p5), (.int p6)] maxLocals)) t := by
        intro t k
        refine pre_101 t ?_
        show Steps p.tables e below (T100.setTop (mkF m 189 #[.val (.int p1), .val (.int p2), .val (.int p3), .val (.int p4), .val (.int p5), .val (.int p6), .val (.int (3 : Int32)), .val (.int ln), .val (.int b0), .val (.int b1), .val (.int b2), .val (.int b3), .val (.int b4), .val (.ref m77), .val (.int (if b0 = (-17 : Int32) then (if b1 = (-69 : Int32) then (if b2 = (-65 : Int32) then (3 : Int32) else (0 : Int32)) else (0 : Int32)) else (0 : Int32))), .unset] [(.int (if b0 = (-17 : Int32) then (if b1 = (-69 : Int32) then (if b2 = (-65 : Int32) then (3 : Int32) else (0 : Int32)) else (0 : Int32)) else (0 : Int32)))])) _
        refine XS.istore X100.here hx rfl (hb hby at_189) rfl (l' := #[.val (.int p1), .val (.int p2), .val (.int p3), .val (.int p4), .val (.int p5), .val (.int p6), .val (.int (3 : Int32)), .val (.int ln), .val (.int b0), .val (.int b1), .val (.int b2), .val (.int b3), .val (.int b4), .val (.ref m77), .val (.int (if b0 = (-17 : Int32) then (if b1 = (-69 : Int32) then (if b2 = (-65 : Int32) then (3 : Int32) else (0 : Int32)) else (0 : Int32)) else (0 : Int32))), .val (.int (if b0 = (-17 : Int32) then (if b1 = (-69 : Int32) then (if b2 = (-65 : Int32) then (3 : Int32) else (0 : Int32)) else (0 : Int32)) else (0 : Int32)))]) rfl ?_
        show Steps p.tables e below (T100.setTop (mkF m 191 #[.val (.int p1), .val (.int p2), .val (.int p3), .val (.int p4), .val (.int p5), .val (.int p6), .val (.int (3 : Int32)), .val (.int ln), .val (.int b0), .val (.int b1), .val (.int b2), .val (.int b3), .val (.int b4), .val (.ref m77), .val (.int (if b0 = (-17 : Int32) then (if b1 = (-69 : Int32) then (if b2 = (-65 : Int32) then (3 : Int32) else (0 : Int32)) else (0 : Int32)) else (0 : Int32))), .val (.int (if b0 = (-17 : Int32) then (if b1 = (-69 : Int32) then (if b2 = (-65 : Int32) then (3 : Int32) else (0 : Int32)) else (0 : Int32)) else (0 : Int32)))] [])) _
        refine XS.iload X100.here hx rfl (hb hby at_191) rfl ?_
        show Steps p.tables e below (T100.setTop (mkF m 193 #[.val (.int p1), .val (.int p2), .val (.int p3), .val (.int p4), .val (.int p5), .val (.int p6), .val (.int (3 : Int32)), .val (.int ln), .val (.int b0), .val (.int b1), .val (.int b2), .val (.int b3), .val (.int b4), .val (.ref m77), .val (.int (if b0 = (-17 : Int32) then (if b1 = (-69 : Int32) then (if b2 = (-65 : Int32) then (3 : Int32) else (0 : Int32)) else (0 : Int32)) else (0 : Int32))), .val (.int (if b0 = (-17 : Int32) then (if b1 = (-69 : Int32) then (if b2 = (-65 : Int32) then (3 : Int32) else (0 : Int32)) else (0 : Int32)) else (0 : Int32)))] [(.int (if b0 = (-17 : Int32) then (if b1 = (-69 : Int32) then (if b2 = (-65 : Int32) then (3 : Int32) else (0 : Int32)) else (0 : Int32)) else (0 : Int32)))])) _
        refine XS.iload X100.here hx rfl (hb hby at_193) rfl ?_
        show Steps p.tables e below (T100.setTop (mkF m 195 #[.val (.int p1), .val (.int p2), .val (.int p3), .val (.int p4), .val (.int p5), .val (.int p6), .val (.int (3 : Int32)), .val (.int ln), .val (.int b0), .val (.int b1), .val (.int b2), .val (.int b3), .val (.int b4), .val (.ref m77), .val (.int (if b0 = (-17 : Int32) then (if b1 = (-69 : Int32) then (if b2 = (-65 : Int32) then (3 : Int32) else (0 : Int32)) else (0 : Int32)) else (0 : Int32))), .val (.int (if b0 = (-17 : Int32) then (if b1 = (-69 : Int32) then (if b2 = (-65 : Int32) then (3 : Int32) else (0 : Int32)) else (0 : Int32)) else (0 : Int32)))] [(.int (if b0 = (-17 : Int32) then (if b1 = (-69 : Int32) then (if b2 = (-65 : Int32) then (3 : Int32) else (0 : Int32)) else (0 : Int32)) else (0 : Int32))), (.int (if b0 = (-17 : Int32) then (if b1 = (-69 : Int32) then (if b2 = (-65 : Int32) then (3 : Int32) else (0 : Int32)) else (0 : Int32)) else (0 : Int32)))])) _
        exact k
      by_cases hc103 : b0 = (-17 : Int32)
      · skip
        by_cases hc104 : b1 = (-69 : Int32)
        · skip
          by_cases hc105 : b2 = (-65 : Int32)
          · skip
            have pre_106 : ∀ t, Steps p.tables e below (T100.setTop (mkF m 203 #[.val (.int p1), .val (.int p2), .val (.int p3), .val (.int p4), .val (.int p5), .val (.int p6), .val (.int (3 : Int32)), .val (.int ln), .val (.int b0), .val (.int b1), .val (.int b2), .val (.int b3), .val (.int b4), .val (.ref m77), .val (.int (if b0 = (-17 : Int32) then (if b1 = (-69 : Int32) then (if b2 = (-65 : Int32) then (3 : Int32) else (0 : Int32)) else (0 : Int32)) else (0 : Int32))), .val (.int (if b0 = (-17 : Int32) then (if b1 = (-69 : Int32) then (if b2 = (-65 : Int32) then (3 : Int32) else (0 : Int32)) else (0 : Int32)) else (0 : Int32)))] [(.int (1 : Int32))])) t → Steps p.tables e below (s₁.setTop (entryFrame m #[(.int p1), (.int p2), (.int p3), (.int p4), (.int p5), (.int p6)] maxLocals)) t := by
              intro t k
              refine pre_102 t ?_
              show Steps p.tables e below (T100.setTop (mkF m 195 #[.val (.int p1), .val (.int p2), .val (.int p3), .val (.int p4), .val (.int p5), .val (.int p6), .val (.int (3 : Int32)), .val (.int ln), .val (.int b0), .val (.int b1), .val (.int b2), .val (.int b3), .val (.int b4), .val (.ref m77), .val (.int (if b0 = (-17 : Int32) then (if b1 = (-69 : Int32) then (if b2 = (-65 : Int32) then (3 : Int32) else (0 : Int32)) else (0 : Int32)) else (0 : Int32))), .val (.int (if b0 = (-17 : Int32) then (if b1 = (-69 : Int32) then (if b2 = (-65 : Int32) then (3 : Int32) else (0 : Int32)) else (0 : Int32)) else (0 : Int32)))] [(.int (if b0 = (-17 : Int32) then (if b1 = (-69 : Int32) then (if b2 = (-65 : Int32) then (3 : Int32) else (0 : Int32)) else (0 : Int32)) else (0 : Int32))), (.int (if b0 = (-17 : Int32) then (if b1 = (-69 : Int32) then (if b2 = (-65 : Int32) then (3 : Int32) else (0 : Int32)) else (0 : Int32)) else (0 : Int32)))])) _
              refine XS.icmpNo X100.here hx rfl (hb hby at_195) rfl (XT.ii_ne_f (by simp only [if_pos hc103, if_pos hc104, if_pos hc105] <;> decide)) ?_
              show Steps p.tables e below (T100.setTop (mkF m 198 #[.val (.int p1), .val (.int p2), .val (.int p3), .val (.int p4), .val (.int p5), .val (.int p6), .val (.int (3 : Int32)), .val (.int ln), .val (.int b0), .val (.int b1), .val (.int b2), .val (.int b3), .val (.int b4), .val (.ref m77), .val (.int (if b0 = (-17 : Int32) then (if b1 = (-69 : Int32) then (if b2 = (-65 : Int32) then (3 : Int32) else (0 : Int32)) else (0 : Int32)) else (0 : Int32))), .val (.int (if b0 = (-17 : Int32) then (if b1 = (-69 : Int32) then (if b2 = (-65 : Int32) then (3 : Int32) else (0 : Int32)) else (0 : Int32)) else (0 : Int32)))] [])) _
              refine XS.iconst X100.here hx rfl (hb hby at_198) ?_
              show Steps p.tables e below (T100.setTop (mkF m 199 #[.val (.int p1), .val (.int p2), .val (.int p3), .val (.int p4), .val (.int p5), .val (.int p6), .val (.int (3 : Int32)), .val (.int ln), .val (.int b0), .val (.int b1), .val (.int b2), .val (.int b3), .val (.int b4), .val (.ref m77), .val (.int (if b0 = (-17 : Int32) then (if b1 = (-69 : Int32) then (if b2 = (-65 : Int32) then (3 : Int32) else (0 : Int32)) else (0 : Int32)) else (0 : Int32))), .val (.int (if b0 = (-17 : Int32) then (if b1 = (-69 : Int32) then (if b2 = (-65 : Int32) then (3 : Int32) else (0 : Int32)) else (0 : Int32)) else (0 : Int32)))] [(.int (1 : Int32))])) _
              refine XS.goto X100.here hx rfl (pc0 := 199) (pc' := 203) rfl (hb hby at_199) (by decide) (by decide) ?_
              show Steps p.tables e below (T100.setTop (mkF m 203 #[.val (.int p1), .val (.int p2), .val (.int p3), .val (.int p4), .val (.int p5), .val (.int p6), .val (.int (3 : Int32)), .val (.int ln), .val (.int b0), .val (.int b1), .val (.int b2), .val (.int b3), .val (.int b4), .val (.ref m77), .val (.int (if b0 = (-17 : Int32) then (if b1 = (-69 : Int32) then (if b2 = (-65 : Int32) then (3 : Int32) else (0 : Int32)) else (0 : Int32)) else (0 : Int32))), .val (.int (if b0 = (-17 : Int32) then (if b1 = (-69 : Int32) then (if b2 = (-65 : Int32) then (3 : Int32) else (0 : Int32)) else (0 : Int32)) else (0 : Int32)))] [(.int (1 : Int32))])) _
              exact k
            obtain ⟨fs, hr, hrun, hended, hW, hsame⟩ := X100.leave (v := some (.int (1 : Int32))) (fun h => by rw [Bd.returns] at h; cases h)
            refine ⟨_, _, pre_106 _ ?_, hrun, hended, _, _, rfl, ?_, ⟨_, rfl⟩, hW, hsame.mono (by decide) (by decide)⟩
            · show Steps p.tables e below (T100.setTop (mkF m 203 #[.val (.int p1), .val (.int p2), .val (.int p3), .val (.int p4), .val (.int p5), .val (.int p6), .val (.int (3 : Int32)), .val (.int ln), .val (.int b0), .val (.int b1), .val (.int b2), .val (.int b3), .val (.int b4), .val (.ref m77), .val (.int (if b0 = (-17 : Int32) then (if b1 = (-69 : Int32) then (if b2 = (-65 : Int32) then (3 : Int32) else (0 : Int32)) else (0 : Int32)) else (0 : Int32))), .val (.int (if b0 = (-17 : Int32) then (if b1 = (-69 : Int32) then (if b2 = (-65 : Int32) then (3 : Int32) else (0 : Int32)) else (0 : Int32)) else (0 : Int32)))] [(.int (1 : Int32))])) _
              exact retN X100 hx (t := .boolean) Bd.returns (by simp) (hb hby at_203) hr
            · show Q_law Z p1 p2 p3 p4 p5 p6 aB kB h0 n0 _ T100.heap _
              rw [e100]
              exact ⟨rfl, N100⟩
          · skip
            have pre_107 : ∀ t, Steps p.tables e below (T100.setTop (mkF m 203 #[.val (.int p1), .val (.int p2), .val (.int p3), .val (.int p4), .val (.int p5), .val (.int p6), .val (.int (3 : Int32)), .val (.int ln), .val (.int b0), .val (.int b1), .val (.int b2), .val (.int b3), .val (.int b4), .val (.ref m77), .val (.int (if b0 = (-17 : Int32) then (if b1 = (-69 : Int32) then (if b2 = (-65 : Int32) then (3 : Int32) else (0 : Int32)) else (0 : Int32)) else (0 : Int32))), .val (.int (if b0 = (-17 : Int32) then (if b1 = (-69 : Int32) then (if b2 = (-65 : Int32) then (3 : Int32) else (0 : Int32)) else (0 : Int32)) else (0 : Int32)))] [(.int (1 : Int32))])) t → Steps p.tables e below (s₁.setTop (entryFrame m #[(.int p1), (.int p2), (.int p3), (.int p4), (.int p5), (.int p6)] maxLocals)) t := by
              intro t k
              refine pre_102 t ?_
              show Steps p.tables e below (T100.setTop (mkF m 195 #[.val (.int p1), .val (.int p2), .val (.int p3), .val (.int p4), .val (.int p5), .val (.int p6), .val (.int (3 : Int32)), .val (.int ln), .val (.int b0), .val (.int b1), .val (.int b2), .val (.int b3), .val (.int b4), .val (.ref m77), .val (.int (if b0 = (-17 : Int32) then (if b1 = (-69 : Int32) then (if b2 = (-65 : Int32) then (3 : Int32) else (0 : Int32)) else (0 : Int32)) else (0 : Int32))), .val (.int (if b0 = (-17 : Int32) then (if b1 = (-69 : Int32) then (if b2 = (-65 : Int32) then (3 : Int32) else (0 : Int32)) else (0 : Int32)) else (0 : Int32)))] [(.int (if b0 = (-17 : Int32) then (if b1 = (-69 : Int32) then (if b2 = (-65 : Int32) then (3 : Int32) else (0 : Int32)) else (0 : Int32)) else (0 : Int32))), (.int (if b0 = (-17 : Int32) then (if b1 = (-69 : Int32) then (if b2 = (-65 : Int32) then (3 : Int32) else (0 : Int32)) else (0 : Int32)) else (0 : Int32)))])) _
              refine XS.icmpNo X100.here hx rfl (hb hby at_195) rfl (XT.ii_ne_f (by simp only [if_pos hc103, if_pos hc104, if_neg hc105] <;> decide)) ?_
              show Steps p.tables e below (T100.setTop (mkF m 198 #[.val (.int p1), .val (.int p2), .val (.int p3), .val (.int p4), .val (.int p5), .val (.int p6), .val (.int (3 : Int32)), .val (.int ln), .val (.int b0), .val (.int b1), .val (.int b2), .val (.int b3), .val (.int b4), .val (.ref m77), .val (.int (if b0 = (-17 : Int32) then (if b1 = (-69 : Int32) then (if b2 = (-65 : Int32) then (3 : Int32) else (0 : Int32)) else (0 : Int32)) else (0 : Int32))), .val (.int (if b0 = (-17 : Int32) then (if b1 = (-69 : Int32) then (if b2 = (-65 : Int32) then (3 : Int32) else (0 : Int32)) else (0 : Int32)) else (0 : Int32)))] [])) _
              refine XS.iconst X100.here hx rfl (hb hby at_198) ?_
              show Steps p.tables e below (T100.setTop (mkF m 199 #[.val (.int p1), .val (.int p2), .val (.int p3), .val (.int p4), .val (.int p5), .val (.int p6), .val (.int (3 : Int32)), .val (.int ln), .val (.int b0), .val (.int b1), .val (.int b2), .val (.int b3), .val (.int b4), .val (.ref m77), .val (.int (if b0 = (-17 : Int32) then (if b1 = (-69 : Int32) then (if b2 = (-65 : Int32) then (3 : Int32) else (0 : Int32)) else (0 : Int32)) else (0 : Int32))), .val (.int (if b0 = (-17 : Int32) then (if b1 = (-69 : Int32) then (if b2 = (-65 : Int32) then (3 : Int32) else (0 : Int32)) else (0 : Int32)) else (0 : Int32)))] [(.int (1 : Int32))])) _
              refine XS.goto X100.here hx rfl (pc0 := 199) (pc' := 203) rfl (hb hby at_199) (by decide) (by decide) ?_
              show Steps p.tables e below (T100.setTop (mkF m 203 #[.val (.int p1), .val (.int p2), .val (.int p3), .val (.int p4), .val (.int p5), .val (.int p6), .val (.int (3 : Int32)), .val (.int ln), .val (.int b0), .val (.int b1), .val (.int b2), .val (.int b3), .val (.int b4), .val (.ref m77), .val (.int (if b0 = (-17 : Int32) then (if b1 = (-69 : Int32) then (if b2 = (-65 : Int32) then (3 : Int32) else (0 : Int32)) else (0 : Int32)) else (0 : Int32))), .val (.int (if b0 = (-17 : Int32) then (if b1 = (-69 : Int32) then (if b2 = (-65 : Int32) then (3 : Int32) else (0 : Int32)) else (0 : Int32)) else (0 : Int32)))] [(.int (1 : Int32))])) _
              exact k
            obtain ⟨fs, hr, hrun, hended, hW, hsame⟩ := X100.leave (v := some (.int (1 : Int32))) (fun h => by rw [Bd.returns] at h; cases h)
            refine ⟨_, _, pre_107 _ ?_, hrun, hended, _, _, rfl, ?_, ⟨_, rfl⟩, hW, hsame.mono (by decide) (by decide)⟩
            · show Steps p.tables e below (T100.setTop (mkF m 203 #[.val (.int p1), .val (.int p2), .val (.int p3), .val (.int p4), .val (.int p5), .val (.int p6), .val (.int (3 : Int32)), .val (.int ln), .val (.int b0), .val (.int b1), .val (.int b2), .val (.int b3), .val (.int b4), .val (.ref m77), .val (.int (if b0 = (-17 : Int32) then (if b1 = (-69 : Int32) then (if b2 = (-65 : Int32) then (3 : Int32) else (0 : Int32)) else (0 : Int32)) else (0 : Int32))), .val (.int (if b0 = (-17 : Int32) then (if b1 = (-69 : Int32) then (if b2 = (-65 : Int32) then (3 : Int32) else (0 : Int32)) else (0 : Int32)) else (0 : Int32)))] [(.int (1 : Int32))])) _
              exact retN X100 hx (t := .boolean) Bd.returns (by simp) (hb hby at_203) hr
            · show Q_law Z p1 p2 p3 p4 p5 p6 aB kB h0 n0 _ T100.heap _
              rw [e100]
              exact ⟨rfl, N100⟩
        · skip
          have pre_108 : ∀ t, Steps p.tables e below (T100.setTop (mkF m 203 #[.val (.int p1), .val (.int p2), .val (.int p3), .val (.int p4), .val (.int p5), .val (.int p6), .val (.int (3 : Int32)), .val (.int ln), .val (.int b0), .val (.int b1), .val (.int b2), .val (.int b3), .val (.int b4), .val (.ref m77), .val (.int (if b0 = (-17 : Int32) then (if b1 = (-69 : Int32) then (if b2 = (-65 : Int32) then (3 : Int32) else (0 : Int32)) else (0 : Int32)) else (0 : Int32))), .val (.int (if b0 = (-17 : Int32) then (if b1 = (-69 : Int32) then (if b2 = (-65 : Int32) then (3 : Int32) else (0 : Int32)) else (0 : Int32)) else (0 : Int32)))] [(.int (1 : Int32))])) t → Steps p.tables e below (s₁.setTop (entryFrame m #[(.int p1), (.int p2), (.int p3), (.int p4), (.int p5), (.int p6)] maxLocals)) t := by
            intro t k
            refine pre_102 t ?_
            show Steps p.tables e below (T100.setTop (mkF m 195 #[.val (.int p1), .val (.int p2), .val (.int p3), .val (.int p4), .val (.int p5), .val (.int p6), .val (.int (3 : Int32)), .val (.int ln), .val (.int b0), .val (.int b1), .val (.int b2), .val (.int b3), .val (.int b4), .val (.ref m77), .val (.int (if b0 = (-17 : Int32) then (if b1 = (-69 : Int32) then (if b2 = (-65 : Int32) then (3 : Int32) else (0 : Int32)) else (0 : Int32)) else (0 : Int32))), .val (.int (if b0 = (-17 : Int32) then (if b1 = (-69 : Int32) then (if b2 = (-65 : Int32) then (3 : Int32) else (0 : Int32)) else (0 : Int32)) else (0 : Int32)))] [(.int (if b0 = (-17 : Int32) then (if b1 = (-69 : Int32) then (if b2 = (-65 : Int32) then (3 : Int32) else (0 : Int32)) else (0 : Int32)) else (0 : Int32))), (.int (if b0 = (-17 : Int32) then (if b1 = (-69 : Int32) then (if b2 = (-65 : Int32) then (3 : Int32) else (0 : Int32)) else (0 : Int32)) else (0 : Int32)))])) _
            refine XS.icmpNo X100.here hx rfl (hb hby at_195) rfl (XT.ii_ne_f (by simp only [if_pos hc103, if_neg hc104] <;> decide)) ?_
            show Steps p.tables e below (T100.setTop (mkF m 198 #[.val (.int p1), .val (.int p2), .val (.int p3), .val (.int p4), .val (.int p5), .val (.int p6), .val (.int (3 : Int32)), .val (.int ln), .val (.int b0), .val (.int b1), .val (.int b2), .val (.int b3), .val (.int b4), .val (.ref m77), .val (.int (if b0 = (-17 : Int32) then (if b1 = (-69 : Int32) then (if b2 = (-65 : Int32) then (3 : Int32) else (0 : Int32)) else (0 : Int32)) else (0 : Int32))), .val (.int (if b0 = (-17 : Int32) then (if b1 = (-69 : Int32) then (if b2 = (-65 : Int32) then (3 : Int32) else (0 : Int32)) else (0 : Int32)) else (0 : Int32)))] [])) _
            refine XS.iconst X100.here hx rfl (hb hby at_198) ?_
            show Steps p.tables e below (T100.setTop (mkF m 199 #[.val (.int p1), .val (.int p2), .val (.int p3), .val (.int p4), .val (.int p5), .val (.int p6), .val (.int (3 : Int32)), .val (.int ln), .val (.int b0), .val (.int b1), .val (.int b2), .val (.int b3), .val (.int b4), .val (.ref m77), .val (.int (if b0 = (-17 : Int32) then (if b1 = (-69 : Int32) then (if b2 = (-65 : Int32) then (3 : Int32) else (0 : Int32)) else (0 : Int32)) else (0 : Int32))), .val (.int (if b0 = (-17 : Int32) then (if b1 = (-69 : Int32) then (if b2 = (-65 : Int32) then (3 : Int32) else (0 : Int32)) else (0 : Int32)) else (0 : Int32)))] [(.int (1 : Int32))])) _
            refine XS.goto X100.here hx rfl (pc0 := 199) (pc' := 203) rfl (hb hby at_199) (by decide) (by decide) ?_
            show Steps p.tables e below (T100.setTop (mkF m 203 #[.val (.int p1), .val (.int p2), .val (.int p3), .val (.int p4), .val (.int p5), .val (.int p6), .val (.int (3 : Int32)), .val (.int ln), .val (.int b0), .val (.int b1), .val (.int b2), .val (.int b3), .val (.int b4), .val (.ref m77), .val (.int (if b0 = (-17 : Int32) then (if b1 = (-69 : Int32) then (if b2 = (-65 : Int32) then (3 : Int32) else (0 : Int32)) else (0 : Int32)) else (0 : Int32))), .val (.int (if b0 = (-17 : Int32) then (if b1 = (-69 : Int32) then (if b2 = (-65 : Int32) then (3 : Int32) else (0 : Int32)) else (0 : Int32)) else (0 : Int32)))] [(.int (1 : Int32))])) _
            exact k
          obtain ⟨fs, hr, hrun, hended, hW, hsame⟩ := X100.leave (v := some (.int (1 : Int32))) (fun h => by rw [Bd.returns] at h; cases h)
          refine ⟨_, _, pre_108 _ ?_, hrun, hended, _, _, rfl, ?_, ⟨_, rfl⟩, hW, hsame.mono (by decide) (by decide)⟩
          · show Steps p.tables e below (T100.setTop (mkF m 203 #[.val (.int p1), .val (.int p2), .val (.int p3), .val (.int p4), .val (.int p5), .val (.int p6), .val (.int (3 : Int32)), .val (.int ln), .val (.int b0), .val (.int b1), .val (.int b2), .val (.int b3), .val (.int b4), .val (.ref m77), .val (.int (if b0 = (-17 : Int32) then (if b1 = (-69 : Int32) then (if b2 = (-65 : Int32) then (3 : Int32) else (0 : Int32)) else (0 : Int32)) else (0 : Int32))), .val (.int (if b0 = (-17 : Int32) then (if b1 = (-69 : Int32) then (if b2 = (-65 : Int32) then (3 : Int32) else (0 : Int32)) else (0 : Int32)) else (0 : Int32)))] [(.int (1 : Int32))])) _
            exact retN X100 hx (t := .boolean) Bd.returns (by simp) (hb hby at_203) hr
          · show Q_law Z p1 p2 p3 p4 p5 p6 aB kB h0 n0 _ T100.heap _
            rw [e100]
            exact ⟨rfl, N100⟩
      · skip
        have pre_109 : ∀ t, Steps p.tables e below (T100.setTop (mkF m 203 #[.val (.int p1), .val (.int p2), .val (.int p3), .val (.int p4), .val (.int p5), .val (.int p6), .val (.int (3 : Int32)), .val (.int ln), .val (.int b0), .val (.int b1), .val (.int b2), .val (.int b3), .val (.int b4), .val (.ref m77), .val (.int (if b0 = (-17 : Int32) then (if b1 = (-69 : Int32) then (if b2 = (-65 : Int32) then (3 : Int32) else (0 : Int32)) else (0 : Int32)) else (0 : Int32))), .val (.int (if b0 = (-17 : Int32) then (if b1 = (-69 : Int32) then (if b2 = (-65 : Int32) then (3 : Int32) else (0 : Int32)) else (0 : Int32)) else (0 : Int32)))] [(.int (1 : Int32))])) t → Steps p.tables e below (s₁.setTop (entryFrame m #[(.int p1), (.int p2), (.int p3), (.int p4), (.int p5), (.int p6)] maxLocals)) t := by
          intro t k
          refine pre_102 t ?_
          show Steps p.tables e below (T100.setTop (mkF m 195 #[.val (.int p1), .val (.int p2), .val (.int p3), .val (.int p4), .val (.int p5), .val (.int p6), .val (.int (3 : Int32)), .val (.int ln), .val (.int b0), .val (.int b1), .val (.int b2), .val (.int b3), .val (.int b4), .val (.ref m77), .val (.int (if b0 = (-17 : Int32) then (if b1 = (-69 : Int32) then (if b2 = (-65 : Int32) then (3 : Int32) else (0 : Int32)) else (0 : Int32)) else (0 : Int32))), .val (.int (if b0 = (-17 : Int32) then (if b1 = (-69 : Int32) then (if b2 = (-65 : Int32) then (3 : Int32) else (0 : Int32)) else (0 : Int32)) else (0 : Int32)))] [(.int (if b0 = (-17 : Int32) then (if b1 = (-69 : Int32) then (if b2 = (-65 : Int32) then (3 : Int32) else (0 : Int32)) else (0 : Int32)) else (0 : Int32))), (.int (if b0 = (-17 : Int32) then (if b1 = (-69 : Int32) then (if b2 = (-65 : Int32) then (3 : Int32) else (0 : Int32)) else (0 : Int32)) else (0 : Int32)))])) _
          refine XS.icmpNo X100.here hx rfl (hb hby at_195) rfl (XT.ii_ne_f (by simp only [if_neg hc103] <;> decide)) ?_
          show Steps p.tables e below (T100.setTop (mkF m 198 #[.val (.int p1), .val (.int p2), .val (.int p3), .val (.int p4), .val (.int p5), .val (.int p6), .val (.int (3 : Int32)), .val (.int ln), .val (.int b0), .val (.int b1), .val (.int b2), .val (.int b3), .val (.int b4), .val (.ref m77), .val (.int (if b0 = (-17 : Int32) then (if b1 = (-69 : Int32) then (if b2 = (-65 : Int32) then (3 : Int32) else (0 : Int32)) else (0 : Int32)) else (0 : Int32))), .val (.int (if b0 = (-17 : Int32) then (if b1 = (-69 : Int32) then (if b2 = (-65 : Int32) then (3 : Int32) else (0 : Int32)) else (0 : Int32)) else (0 : Int32)))] [])) _
          refine XS.iconst X100.here hx rfl (hb hby at_198) ?_
          show Steps p.tables e below (T100.setTop (mkF m 199 #[.val (.int p1), .val (.int p2), .val (.int p3), .val (.int p4), .val (.int p5), .val (.int p6), .val (.int (3 : Int32)), .val (.int ln), .val (.int b0), .val (.int b1), .val (.int b2), .val (.int b3), .val (.int b4), .val (.ref m77), .val (.int (if b0 = (-17 : Int32) then (if b1 = (-69 : Int32) then (if b2 = (-65 : Int32) then (3 : Int32) else (0 : Int32)) else (0 : Int32)) else (0 : Int32))), .val (.int (if b0 = (-17 : Int32) then (if b1 = (-69 : Int32) then (if b2 = (-65 : Int32) then (3 : Int32) else (0 : Int32)) else (0 : Int32)) else (0 : Int32)))] [(.int (1 : Int32))])) _
          refine XS.goto X100.here hx rfl (pc0 := 199) (pc' := 203) rfl (hb hby at_199) (by decide) (by decide) ?_
          show Steps p.tables e below (T100.setTop (mkF m 203 #[.val (.int p1), .val (.int p2), .val (.int p3), .val (.int p4), .val (.int p5), .val (.int p6), .val (.int (3 : Int32)), .val (.int ln), .val (.int b0), .val (.int b1), .val (.int b2), .val (.int b3), .val (.int b4), .val (.ref m77), .val (.int (if b0 = (-17 : Int32) then (if b1 = (-69 : Int32) then (if b2 = (-65 : Int32) then (3 : Int32) else (0 : Int32)) else (0 : Int32)) else (0 : Int32))), .val (.int (if b0 = (-17 : Int32) then (if b1 = (-69 : Int32) then (if b2 = (-65 : Int32) then (3 : Int32) else (0 : Int32)) else (0 : Int32)) else (0 : Int32)))] [(.int (1 : Int32))])) _
          exact k
        obtain ⟨fs, hr, hrun, hended, hW, hsame⟩ := X100.leave (v := some (.int (1 : Int32))) (fun h => by rw [Bd.returns] at h; cases h)
        refine ⟨_, _, pre_109 _ ?_, hrun, hended, _, _, rfl, ?_, ⟨_, rfl⟩, hW, hsame.mono (by decide) (by decide)⟩
        · show Steps p.tables e below (T100.setTop (mkF m 203 #[.val (.int p1), .val (.int p2), .val (.int p3), .val (.int p4), .val (.int p5), .val (.int p6), .val (.int (3 : Int32)), .val (.int ln), .val (.int b0), .val (.int b1), .val (.int b2), .val (.int b3), .val (.int b4), .val (.ref m77), .val (.int (if b0 = (-17 : Int32) then (if b1 = (-69 : Int32) then (if b2 = (-65 : Int32) then (3 : Int32) else (0 : Int32)) else (0 : Int32)) else (0 : Int32))), .val (.int (if b0 = (-17 : Int32) then (if b1 = (-69 : Int32) then (if b2 = (-65 : Int32) then (3 : Int32) else (0 : Int32)) else (0 : Int32)) else (0 : Int32)))] [(.int (1 : Int32))])) _
          exact retN X100 hx (t := .boolean) Bd.returns (by simp) (hb hby at_203) hr
        · show Q_law Z p1 p2 p3 p4 p5 p6 aB kB h0 n0 _ T100.heap _
          rw [e100]
          exact ⟨rfl, N100⟩
  · skip
    rw [hs] at pre_1
    have pre_110 : ∀ t, Steps p.tables e below (s₁.setTop (mkF m 24 #[.val (.int p1), .val (.int p2), .val (.int p3), .val (.int p4), .val (.int p5), .val (.int p6), .val (.int (4 : Int32)), .val (.int (((XT.ushr p6 (3 : Int32)) &&& (2147483647 : Int32)) % (5 : Int32))), .unset, .unset, .unset, .unset, .unset, .unset, .unset, .unset] [])) t → Steps p.tables e below (s₁.setTop (entryFrame m #[(.int p1), (.int p2), (.int p3), (.int p4), (.int p5), (.int p6)] maxLocals)) t := by
      intro t k
      refine pre_1 t ?_
      show Steps p.tables e below (s₁.setTop (mkF m 10 #[.val (.int p1), .val (.int p2), .val (.int p3), .val (.int p4), .val (.int p5), .val (.int p6), .val (.int (4 : Int32)), .unset, .unset, .unset, .unset, .unset, .unset, .unset, .unset, .unset] [])) _
      refine XS.iload X0.here hx rfl (hb hby at_10) rfl ?_
      show Steps p.tables e below (s₁.setTop (mkF m 12 #[.val (.int p1), .val (.int p2), .val (.int p3), .val (.int p4), .val (.int p5), .val (.int p6), .val (.int (4 : Int32)), .unset, .unset, .unset, .unset, .unset, .unset, .unset, .unset, .unset] [(.int p6)])) _
      refine XS.iconst X0.here hx rfl (hb hby at_12) ?_
      show Steps p.tables e below (s₁.setTop (mkF m 13 #[.val (.int p1), .val (.int p2), .val (.int p3), .val (.int p4), .val (.int p5), .val (.int p6), .val (.int (4 : Int32)), .unset, .unset, .unset, .unset, .unset, .unset, .unset, .unset, .unset] [(.int (3 : Int32)), (.int p6)])) _
      refine XT.iushr X0.here hx rfl (hb hby at_13) rfl ?_
      show Steps p.tables e below (s₁.setTop (mkF m 14 #[.val (.int p1), .val (.int p2), .val (.int p3), .val (.int p4), .val (.int p5), .val (.int p6), .val (.int (4 : Int32)), .unset, .unset, .unset, .unset, .unset, .unset, .unset, .unset, .unset] [(.int (XT.ushr p6 (3 : Int32)))])) _
      refine X0.ldcInt hx hown (mvT hZ (hw _ (List.mem_of_getElem? (i := 0) rfl))) (g := (mkF m 14 #[.val (.int p1), .val (.int p2), .val (.int p3), .val (.int p4), .val (.int p5), .val (.int p6), .val (.int (4 : Int32)), .unset, .unset, .unset, .unset, .unset, .unset, .unset, .unset, .unset] [(.int (XT.ushr p6 (3 : Int32)))])) rfl (hb hby at_14) _ ?_
      show Steps p.tables e below (s₁.setTop (mkF m 16 #[.val (.int p1), .val (.int p2), .val (.int p3), .val (.int p4), .val (.int p5), .val (.int p6), .val (.int (4 : Int32)), .unset, .unset, .unset, .unset, .unset, .unset, .unset, .unset, .unset] [(.int (2147483647 : Int32)), (.int (XT.ushr p6 (3 : Int32)))])) _
      refine XS.iand X0.here hx rfl (hb hby at_16) rfl ?_
      show Steps p.tables e below (s₁.setTop (mkF m 17 #[.val (.int p1), .val (.int p2), .val (.int p3), .val (.int p4), .val (.int p5), .val (.int p6), .val (.int (4 : Int32)), .unset, .unset, .unset, .unset, .unset, .unset, .unset, .unset, .unset] [(.int ((XT.ushr p6 (3 : Int32)) &&& (2147483647 : Int32)))])) _
      refine XS.iload X0.here hx rfl (hb hby at_17) rfl ?_
      show Steps p.tables e below (s₁.setTop (mkF m 19 #[.val (.int p1), .val (.int p2), .val (.int p3), .val (.int p4), .val (.int p5), .val (.int p6), .val (.int (4 : Int32)), .unset, .unset, .unset, .unset, .unset, .unset, .unset, .unset, .unset] [(.int (4 : Int32)), (.int ((XT.ushr p6 (3 : Int32)) &&& (2147483647 : Int32)))])) _
      refine XS.iconst X0.here hx rfl (hb hby at_19) ?_
      show Steps p.tables e below (s₁.setTop (mkF m 20 #[.val (.int p1), .val (.int p2), .val (.int p3), .val (.int p4), .val (.int p5), .val (.int p6), .val (.int (4 : Int32)), .unset, .unset, .unset, .unset, .unset, .unset, .unset, .unset, .unset] [(.int (1 : Int32)), (.int (4 : Int32)), (.int ((XT.ushr p6 (3 : Int32)) &&& (2147483647 : Int32)))])) _
      refine XS.iadd X0.here hx rfl (hb hby at_20) rfl ?_
      show Steps p.tables e below (s₁.setTop (mkF m 21 #[.val (.int p1), .val (.int p2), .val (.int p3), .val (.int p4), .val (.int p5), .val (.int p6), .val (.int (4 : Int32)), .unset, .unset, .unset, .unset, .unset, .unset, .unset, .unset, .unset] [(.int (5 : Int32)), (.int ((XT.ushr p6 (3 : Int32)) &&& (2147483647 : Int32)))])) _
      refine iremM X0 hx rfl (hb hby at_21) rfl (by decide) ?_
      show Steps p.tables e below (s₁.setTop (mkF m 22 #[.val (.int p1), .val (.int p2), .val (.int p3), .val (.int p4), .val (.int p5), .val (.int p6), .val (.int (4 : Int32)), .unset, .unset, .unset, .unset, .unset, .unset, .unset, .unset, .unset] [(.int (((XT.ushr p6 (3 : Int32)) &&& (2147483647 : Int32)) % (5 : Int32)))])) _
      refine XS.istore X0.here hx rfl (hb hby at_22) rfl (l' := #[.val (.int p1), .val (.int p2), .val (.int p3), .val (.int p4), .val (.int p5), .val (.int p6), .val (.int (4 : Int32)), .val (.int (((XT.ushr p6 (3 : Int32)) &&& (2147483647 : Int32)) % (5 : Int32))), .unset, .unset, .unset, .unset, .unset, .unset, .unset, .unset]) rfl ?_
      show Steps p.tables e below (s₁.setTop (mkF m 24 #[.val (.int p1), .val (.int p2), .val (.int p3), .val (.int p4), .val (.int p5), .val (.int p6), .val (.int (4 : Int32)), .val (.int (((XT.ushr p6 (3 : Int32)) &&& (2147483647 : Int32)) % (5 : Int32))), .unset, .unset, .unset, .unset, .unset, .unset, .unset, .unset] [])) _
      exact k
    skip
    generalize (((XT.ushr p6 (3 : Int32)) &&& (2147483647 : Int32)) % (5 : Int32)) = ln at pre_110
    have pre_111 : ∀ t, Steps p.tables e below (s₁.setTop (mkF m 28 #[.val (.int p1), .val (.int p2), .val (.int p3), .val (.int p4), .val (.int p5), .val (.int p6), .val (.int (4 : Int32)), .val (.int ln), .unset, .unset, .unset, .unset, .unset, .unset, .unset, .unset] [(.int (p5 &&& (1 : Int32)))])) t → Steps p.tables e below (s₁.setTop (entryFrame m #[(.int p1), (.int p2), (.int p3), (.int p4), (.int p5), (.int p6)] maxLocals)) t := by
      intro t k
      refine pre_110 t ?_
      show Steps p.tables e below (s₁.setTop (mkF m 24 #[.val (.int p1), .val (.int p2), .val (.int p3), .val (.int p4), .val (.int p5), .val (.int p6), .val (.int (4 : Int32)), .val (.int ln), .unset, .unset, .unset, .unset, .unset, .unset, .unset, .unset] [])) _
      refine XS.iload X0.here hx rfl (hb hby at_24) rfl ?_
      show Steps p.tables e below (s₁.setTop (mkF m 26 #[.val (.int p1), .val (.int p2), .val (.int p3), .val (.int p4), .val (.int p5), .val (.int p6), .val (.int (4 : Int32)), .val (.int ln), .unset, .unset, .unset, .unset, .unset, .unset, .unset, .unset] [(.int p5)])) _
      refine XS.iconst X0.here hx rfl (hb hby at_26) ?_
      show Steps p.tables e below (s₁.setTop (mkF m 27 #[.val (.int p1), .val (.int p2), .val (.int p3), .val (.int p4), .val (.int p5), .val (.int p6), .val (.int (4 : Int32)), .val (.int ln), .unset, .unset, .unset, .unset, .unset, .unset, .unset, .unset] [(.int (1 : Int32)), (.int p5)])) _
      refine XS.iand X0.here hx rfl (hb hby at_27) rfl ?_
      show Steps p.tables e below (s₁.setTop (mkF m 28 #[.val (.int p1), .val (.int p2), .val (.int p3), .val (.int p4), .val (.int p5), .val (.int p6), .val (.int (4 : Int32)), .val (.int ln), .unset, .unset, .unset, .unset, .unset, .unset, .unset, .unset] [(.int (p5 &&& (1 : Int32)))])) _
      exact k
    have pre_113 : ∀ t, Steps p.tables e below (s₁.setTop (mkF m 38 #[.val (.int p1), .val (.int p2), .val (.int p3), .val (.int p4), .val (.int p5), .val (.int p6), .val (.int (4 : Int32)), .val (.int ln), .unset, .unset, .unset, .unset, .unset, .unset, .unset, .unset] [(.int (if (p5 &&& (1 : Int32)) = (0 : Int32) then ((p1).toInt8.toInt32) else (-17 : Int32)))])) t → Steps p.tables e below (s₁.setTop (entryFrame m #[(.int p1), (.int p2), (.int p3), (.int p4), (.int p5), (.int p6)] maxLocals)) t := by
      intro t k
      refine pre_111 t ?_
      by_cases hm112 : (p5 &&& (1 : Int32)) = (0 : Int32)
      · skip
        show Steps p.tables e below (s₁.setTop (mkF m 28 #[.val (.int p1), .val (.int p2), .val (.int p3), .val (.int p4), .val (.int p5), .val (.int p6), .val (.int (4 : Int32)), .val (.int ln), .unset, .unset, .unset, .unset, .unset, .unset, .unset, .unset] [(.int (p5 &&& (1 : Int32)))])) _
        refine XS.ifYes X0.here hx rfl (pc0 := 28) (pc' := 36) rfl (hb hby at_28) rfl (XT.i0_eq_t hm112) (by decide) (by decide) ?_
        show Steps p.tables e below (s₁.setTop (mkF m 36 #[.val (.int p1), .val (.int p2), .val (.int p3), .val (.int p4), .val (.int p5), .val (.int p6), .val (.int (4 : Int32)), .val (.int ln), .unset, .unset, .unset, .unset, .unset, .unset, .unset, .unset] [])) _
        refine XS.iloadN X0.here hx rfl (hb hby at_36) rfl ?_
        show Steps p.tables e below (s₁.setTop (mkF m 37 #[.val (.int p1), .val (.int p2), .val (.int p3), .val (.int p4), .val (.int p5), .val (.int p6), .val (.int (4 : Int32)), .val (.int ln), .unset, .unset, .unset, .unset, .unset, .unset, .unset, .unset] [(.int p1)])) _
        refine XT.i2b X0.here hx rfl (hb hby at_37) rfl ?_
        show Steps p.tables e below (s₁.setTop (mkF m 38 #[.val (.int p1), .val (.int p2), .val (.int p3), .val (.int p4), .val (.int p5), .val (.int p6), .val (.int (4 : Int32)), .val (.int ln), .unset, .unset, .unset, .unset, .unset, .unset, .unset, .unset] [(.int ((p1).toInt8.toInt32))])) _
        first | exact k | (simp only [if_pos hm112] at k; exact k)
      · skip
        show Steps p.tables e below (s₁.setTop (mkF m 28 #[.val (.int p1), .val (.int p2), .val (.int p3), .val (.int p4), .val (.int p5), .val (.int p6), .val (.int (4 : Int32)), .val (.int ln), .unset, .unset, .unset, .unset, .unset, .unset, .unset, .unset] [(.int (p5 &&& (1 : Int32)))])) _
        refine XS.ifNo X0.here hx rfl (hb hby at_28) rfl (XT.i0_eq_f hm112) ?_
        show Steps p.tables e below (s₁.setTop (mkF m 31 #[.val (.int p1), .val (.int p2), .val (.int p3), .val (.int p4), .val (.int p5), .val (.int p6), .val (.int (4 : Int32)), .val (.int ln), .unset, .unset, .unset, .unset, .unset, .unset, .unset, .unset] [])) _
        refine XS.bipush X0.here hx rfl (hb hby at_31) ?_
        show Steps p.tables e below (s₁.setTop (mkF m 33 #[.val (.int p1), .val (.int p2), .val (.int p3), .val (.int p4), .val (.int p5), .val (.int p6), .val (.int (4 : Int32)), .val (.int ln), .unset, .unset, .unset, .unset, .unset, .unset, .unset, .unset] [(.int (-17 : Int32))])) _
        refine XS.goto X0.here hx rfl (pc0 := 33) (pc' := 38) rfl (hb hby at_33) (by decide) (by decide) ?_
        show Steps p.tables e below (s₁.setTop (mkF m 38 #[.val (.int p1), .val (.int p2), .val (.int p3), .val (.int p4), .val (.int p5), .val (.int p6), .val (.int (4 : Int32)), .val (.int ln), .unset, .unset, .unset, .unset, .unset, .unset, .unset, .unset] [(.int (-17 : Int32))])) _
        first | exact k | (simp only [if_neg hm112] at k; exact k)
    have pre_114 : ∀ t, Steps p.tables e below (s₁.setTop (mkF m 44 #[.val (.int p1), .val (.int p2), .val (.int p3), .val (.int p4), .val (.int p5), .val (.int p6), .val (.int (4 : Int32)), .val (.int ln), .val (.int (if (p5 &&& (1 : Int32)) = (0 : Int32) then ((p1).toInt8.toInt32) else (-17 : Int32))), .unset, .unset, .unset, .unset, .unset, .unset, .unset] [(.int (p5 &&& (2 : Int32)))])) t → Steps p.tables e below (s₁.setTop (entryFrame m #[(.int p1), (.int p2), (.int p3), (.int p4), (.int p5), (.int p6)] maxLocals)) t := by
      intro t k
      refine pre_113 t ?_
      show Steps p.tables e below (s₁.setTop (mkF m 38 #[.val (.int p1), .val (.int p2), .val (.int p3), .val (.int p4), .val (.int p5), .val (.int p6), .val (.int (4 : Int32)), .val (.int ln), .unset, .unset, .unset, .unset, .unset, .unset, .unset, .unset] [(.int (if (p5 &&& (1 : Int32)) = (0 : Int32) then ((p1).toInt8.toInt32) else (-17 : Int32)))])) _
      refine XS.istore X0.here hx rfl (hb hby at_38) rfl (l' := #[.val (.int p1), .val (.int p2), .val (.int p3), .val (.int p4), .val (.int p5), .val (.int p6), .val (.int (4 : Int32)), .val (.int ln), .val (.int (if (p5 &&& (1 : Int32)) = (0 : Int32) then ((p1).toInt8.toInt32) else (-17 : Int32))), .unset, .unset, .unset, .unset, .unset, .unset, .unset]) rfl ?_
      show Steps p.tables e below (s₁.setTop (mkF m 40 #[.val (.int p1), .val (.int p2), .val (.int p3), .val (.int p4), .val (.int p5), .val (.int p6), .val (.int (4 : Int32)), .val (.int ln), .val (.int (if (p5 &&& (1 : Int32)) = (0 : Int32) then ((p1).toInt8.toInt32) else (-17 : Int32))), .unset, .unset, .unset, .unset, .unset, .unset, .unset] [])) _
      refine XS.iload X0.here hx rfl (hb hby at_40) rfl ?_
      show Steps p.tables e below (s₁.setTop (mkF m 42 #[.val (.int p1), .val (.int p2), .val (.int p3), .val (.int p4), .val (.int p5), .val (.int p6), .val (.int (4 : Int32)), .val (.int ln), .val (.int (if (p5 &&& (1 : Int32)) = (0 : Int32) then ((p1).toInt8.toInt32) else (-17 : Int32))), .unset, .unset, .unset, .unset, .unset, .unset, .unset] [(.int p5)])) _
      refine XS.iconst X0.here hx rfl (hb hby at_42) ?_
      show Steps p.tables e below (s₁.setTop (mkF m 43 #[.val (.int p1), .val (.int p2), .val (.int p3), .val (.int p4), .val (.int p5), .val (.int p6), .val (.int (4 : Int32)), .val (.int ln), .val (.int (if (p5 &&& (1 : Int32)) = (0 : Int32) then ((p1).toInt8.toInt32) else (-17 : Int32))), .unset, .unset, .unset, .unset, .unset, .unset, .unset] [(.int (2 : Int32)), (.int p5)])) _
      refine XS.iand X0.here hx rfl (hb hby at_43) rfl ?_
      show Steps p.tables e below (s₁.setTop (mkF m 44 #[.val (.int p1), .val (.int p2), .val (.int p3), .val (.int p4), .val (.int p5), .val (.int p6), .val (.int (4 : Int32)), .val (.int ln), .val (.int (if (p5 &&& (1 : Int32)) = (0 : Int32) then ((p1).toInt8.toInt32) else (-17 : Int32))), .unset, .unset, .unset, .unset, .unset, .unset, .unset] [(.int (p5 &&& (2 : Int32)))])) _
      exact k
    have pre_116 : ∀ t, Steps p.tables e below (s₁.setTop (mkF m 54 #[.val (.int p1), .val (.int p2), .val (.int p3), .val (.int p4), .val (.int p5), .val (.int p6), .val (.int (4 : Int32)), .val (.int ln), .val (.int (if (p5 &&& (1 : Int32)) = (0 : Int32) then ((p1).toInt8.toInt32) else (-17 : Int32))), .unset, .unset, .unset, .unset, .unset, .unset, .unset] [(.int (if (p5 &&& (2 : Int32)) = (0 : Int32) then ((p2).toInt8.toInt32) else (-69 : Int32)))])) t → Steps p.tables e below (s₁.setTop (entryFrame m #[(.int p1), (.int p2), (.int p3), (.int p4), (.int p5), (.int p6)] maxLocals)) t := by
      intro t k
      refine pre_114 t ?_
      by_cases hm115 : (p5 &&& (2 : Int32)) = (0 : Int32)
      · skip
        show Steps p.tables e below (s₁.setTop (mkF m 44 #[.val (.int p1), .val (.int p2), .val (.int p3), .val (.int p4), .val (.int p5), .val (.int p6), .val (.int (4 : Int32)), .val (.int ln), .val (.int (if (p5 &&& (1 : Int32)) = (0 : Int32) then ((p1).toInt8.toInt32) else (-17 : Int32))), .unset, .unset, .unset, .unset, .unset, .unset, .unset] [(.int (p5 &&& (2 : Int32)))])) _
        refine XS.ifYes X0.here hx rfl (pc0 := 44) (pc' := 52) rfl (hb hby at_44) rfl (XT.i0_eq_t hm115) (by decide) (by decide) ?_
        show Steps p.tables e below (s₁.setTop (mkF m 52 #[.val (.int p1), .val (.int p2), .val (.int p3), .val (.int p4), .val (.int p5), .val (.int p6), .val (.int (4 : Int32)), .val (.int ln), .val (.int (if (p5 &&& (1 : Int32)) = (0 : Int32) then ((p1).toInt8.toInt32) else (-17 : Int32))), .unset, .unset, .unset, .unset, .unset, .unset, .unset] [])) _
        refine XS.iloadN X0.here hx rfl (hb hby at_52) rfl ?_
        show Steps p.tables e below (s₁.setTop (mkF m 53 #[.val (.int p1), .val (.int p2), .val (.int p3), .val (.int p4), .val (.int p5), .val (.int p6), .val (.int (4 : Int32)), .val (.int ln), .val (.int (if (p5 &&& (1 : Int32)) = (0 : Int32) then ((p1).toInt8.toInt32) else (-17 : Int32))), .unset, .unset, .unset, .unset, .unset, .unset, .unset] [(.int p2)])) _
        refine XT.i2b X0.here hx rfl (hb hby at_53) rfl ?_
        show Steps p.tables e below (s₁.setTop (mkF m 54 #[.val (.int p1), .val (.int p2), .val (.int p3), .val (.int p4), .val (.int p5), .val (.int p6), .val (.int (4 : Int32)), .val (.int ln), .val (.int (if (p5 &&& (1 : Int32)) = (0 : Int32) then ((p1).toInt8.toInt32) else (-17 : Int32))), .unset, .unset, .unset, .unset, .unset, .unset, .unset] [(.int ((p2).toInt8.toInt32))])) _
        first | exact k | (simp only [if_pos hm115] at k; exact k)
      · skip
        show Steps p.tables e below (s₁.setTop (mkF m 44 #[.val (.int p1), .val (.int p2), .val (.int p3), .val (.int p4), .val (.int p5), .val (.int p6), .val (.int (4 : Int32)), .val (.int ln), .val (.int (if (p5 &&& (1 : Int32)) = (0 : Int32) then ((p1).toInt8.toInt32) else (-17 : Int32))), .unset, .unset, .unset, .unset, .unset, .unset, .unset] [(.int (p5 &&& (2 : Int32)))])) _
        refine XS.ifNo X0.here hx rfl (hb hby at_44) rfl (XT.i0_eq_f hm115) ?_
        show Steps p.tables e below (s₁.setTop (mkF m 47 #[.val (.int p1), .val (.int p2), .val (.int p3), .val (.int p4), .val (.int p5), .val (.int p6), .val (.int (4 : Int32)), .val (.int ln), .val (.int (if (p5 &&& (1 : Int32)) = (0 : Int32) then ((p1).toInt8.toInt32) else (-17 : Int32))), .unset, .unset, .unset, .unset, .unset, .unset, .unset] [])) _
        refine XS.bipush X0.here hx rfl (hb hby at_47) ?_
        show Steps p.tables e below (s₁.setTop (mkF m 49 #[.val (.int p1), .val (.int p2), .val (.int p3), .val (.int p4), .val (.int p5), .val (.int p6), .val (.int (4 : Int32)), .val (.int ln), .val (.int (if (p5 &&& (1 : Int32)) = (0 : Int32) then ((p1).toInt8.toInt32) else (-17 : Int32))), .unset, .unset, .unset, .unset, .unset, .unset, .unset] [(.int (-69 : Int32))])) _
        refine XS.goto X0.here hx rfl (pc0 := 49) (pc' := 54) rfl (hb hby at_49) (by decide) (by decide) ?_
        show Steps p.tables e below (s₁.setTop (mkF m 54 #[.val (.int p1), .val (.int p2), .val (.int p3), .val (.int p4), .val (.int p5), .val (.int p6), .val (.int (4 : Int32)), .val (.int ln), .val (.int (if (p5 &&& (1 : Int32)) = (0 : Int32) then ((p1).toInt8.toInt32) else (-17 : Int32))), .unset, .unset, .unset, .unset, .unset, .unset, .unset] [(.int (-69 : Int32))])) _
        first | exact k | (simp only [if_neg hm115] at k; exact k)
    have pre_117 : ∀ t, Steps p.tables e below (s₁.setTop (mkF m 60 #[.val (.int p1), .val (.int p2), .val (.int p3), .val (.int p4), .val (.int p5), .val (.int p6), .val (.int (4 : Int32)), .val (.int ln), .val (.int (if (p5 &&& (1 : Int32)) = (0 : Int32) then ((p1).toInt8.toInt32) else (-17 : Int32))), .val (.int (if (p5 &&& (2 : Int32)) = (0 : Int32) then ((p2).toInt8.toInt32) else (-69 : Int32))), .unset, .unset, .unset, .unset, .unset, .unset] [(.int (p5 &&& (4 : Int32)))])) t → Steps p.tables e below (s₁.setTop (entryFrame m #[(.int p1), (.int p2), (.int p3), (.int p4), (.int p5), (.int p6)] maxLocals)) t := by
      intro t k
      refine pre_116 t ?_
      show Steps p.tables e below (s₁.setTop (mkF m 54 #[.val (.int p1), .val (.int p2), .val (.int p3), .val (.int p4), .val (.int p5), .val (.int p6), .val (.int (4 : Int32)), .val (.int ln), .val (.int (if (p5 &&& (1 : Int32)) = (0 : Int32) then ((p1).toInt8.toInt32) else (-17 : Int32))), .unset, .unset, .unset, .unset, .unset, .unset, .unset] [(.int (if (p5 &&& (2 : Int32)) = (0 : Int32) then ((p2).toInt8.toInt32) else (-69 : Int32)))])) _
      refine XS.istore X0.here hx rfl (hb hby at_54) rfl (l' := #[.val (.int p1), .val (.int p2), .val (.int p3), .val (.int p4), .val (.int p5), .val (.int p6), .val (.int (4 : Int32)), .val (.int ln), .val (.int (if (p5 &&& (1 : Int32)) = (0 : Int32) then ((p1).toInt8.toInt32) else (-17 : Int32))), .val (.int (if (p5 &&& (2 : Int32)) = (0 : Int32) then ((p2).toInt8.toInt32) else (-69 : Int32))), .unset, .unset, .unset, .unset, .unset, .unset]) rfl ?_
      show Steps p.tables e below (s₁.setTop (mkF m 56 #[.val (.int p1), .val (.int p2), .val (.int p3), .val (.int p4), .val (.int p5), .val (.int p6), .val (.int (4 : Int32)), .val (.int ln), .val (.int (if (p5 &&& (1 : Int32)) = (0 : Int32) then ((p1).toInt8.toInt32) else (-17 : Int32))), .val (.int (if (p5 &&& (2 : Int32)) = (0 : Int32) then ((p2).toInt8.toInt32) else (-69 : Int32))), .unset, .unset, .unset, .unset, .unset, .unset] [])) _
      refine XS.iload X0.here hx rfl (hb hby at_56) rfl ?_
      show Steps p.tables e below (s₁.setTop (mkF m 58 #[.val (.int p1), .val (.int p2), .val (.int p3), .val (.int p4), .val (.int p5), .val (.int p6), .val (.int (4 : Int32)), .val (.int ln), .val (.int (if (p5 &&& (1 : Int32)) = (0 : Int32) then ((p1).toInt8.toInt32) else (-17 : Int32))), .val (.int (if (p5 &&& (2 : Int32)) = (0 : Int32) then ((p2).toInt8.toInt32) else (-69 : Int32))), .unset, .unset, .unset, .unset, .unset, .unset] [(.int p5)])) _
      refine XS.iconst X0.here hx rfl (hb hby at_58) ?_
      show Steps p.tables e below (s₁.setTop (mkF m 59 #[.val (.int p1), .val (.int p2), .val (.int p3), .val (.int p4), .val (.int p5), .val (.int p6), .val (.int (4 : Int32)), .val (.int ln), .val (.int (if (p5 &&& (1 : Int32)) = (0 : Int32) then ((p1).toInt8.toInt32) else (-17 : Int32))), .val (.int (if (p5 &&& (2 : Int32)) = (0 : Int32) then ((p2).toInt8.toInt32) else (-69 : Int32))), .unset, .unset, .unset, .unset, .unset, .unset] [(.int (4 : Int32)), (.int p5)])) _
      refine XS.iand X0.here hx rfl (hb hby at_59) rfl ?_
      show Steps p.tables e below (s₁.setTop (mkF m 60 #[.val (.int p1), .val (.int p2), .val (.int p3), .val (.int p4), .val (.int p5), .val (.int p6), .val (.int (4 : Int32)), .val (.int ln), .val (.int (if (p5 &&& (1 : Int32)) = (0 : Int32) then ((p1).toInt8.toInt32) else (-17 : Int32))), .val (.int (if (p5 &&& (2 : Int32)) = (0 : Int32) then ((p2).toInt8.toInt32) else (-69 : Int32))), .unset, .unset, .unset, .unset, .unset, .unset] [(.int (p5 &&& (4 : Int32)))])) _
      exact k
    have pre_119 : ∀ t, Steps p.tables e below (s₁.setTop (mkF m 70 #[.val (.int p1), .val (.int p2), .val (.int p3), .val (.int p4), .val (.int p5), .val (.int p6), .val (.int (4 : Int32)), .val (.int ln), .val (.int (if (p5 &&& (1 : Int32)) = (0 : Int32) then ((p1).toInt8.toInt32) else (-17 : Int32))), .val (.int (if (p5 &&& (2 : Int32)) = (0 : Int32) then ((p2).toInt8.toInt32) else (-69 : Int32))), .unset, .unset, .unset, .unset, .unset, .unset] [(.int (if (p5 &&& (4 : Int32)) = (0 : Int32) then ((p3).toInt8.toInt32) else (-65 : Int32)))])) t → Steps p.tables e below (s₁.setTop (entryFrame m #[(.int p1), (.int p2), (.int p3), (.int p4), (.int p5), (.int p6)] maxLocals)) t := by
      intro t k
      refine pre_117 t ?_
      by_cases hm118 : (p5 &&& (4 : Int32)) = (0 : Int32)
      · skip
        show Steps p.tables e below (s₁.setTop (mkF m 60 #[.val (.int p1), .val (.int p2), .val (.int p3), .val (.int p4), .val (.int p5), .val (.int p6), .val (.int (4 : Int32)), .val (.int ln), .val (.int (if (p5 &&& (1 : Int32)) = (0 : Int32) then ((p1).toInt8.toInt32) else (-17 : Int32))), .val (.int (if (p5 &&& (2 : Int32)) = (0 : Int32) then ((p2).toInt8.toInt32) else (-69 : Int32))), .unset, .unset, .unset, .unset, .unset, .unset] [(.int (p5 &&& (4 : Int32)))])) _
        refine XS.ifYes X0.here hx rfl (pc0 := 60) (pc' := 68) rfl (hb hby at_60) rfl (XT.i0_eq_t hm118) (by decide) (by decide) ?_
        show Steps p.tables e below (s₁.setTop (mkF m 68 #[.val (.int p1), .val (.int p2), .val (.int p3), .val (.int p4), .val (.int p5), .val (.int p6), .val (.int (4 : Int32)), .val (.int ln), .val (.int (if (p5 &&& (1 : Int32)) = (0 : Int32) then ((p1).toInt8.toInt32) else (-17 : Int32))), .val (.int (if (p5 &&& (2 : Int32)) = (0 : Int32) then ((p2).toInt8.toInt32) else (-69 : Int32))), .unset, .unset, .unset, .unset, .unset, .unset] [])) _
        refine XS.iloadN X0.here hx rfl (hb hby at_68) rfl ?_
        show Steps p.tables e below (s₁.setTop (mkF m 69 #[.val (.int p1), .val (.int p2), .val (.int p3), .val (.int p4), .val (.int p5), .val (.int p6), .val (.int (4 : Int32)), .val (.int ln), .val (.int (if (p5 &&& (1 : Int32)) = (0 : Int32) then ((p1).toInt8.toInt32) else (-17 : Int32))), .val (.int (if (p5 &&& (2 : Int32)) = (0 : Int32) then ((p2).toInt8.toInt32) else (-69 : Int32))), .unset, .unset, .unset, .unset, .unset, .unset] [(.int p3)])) _
        refine XT.i2b X0.here hx rfl (hb hby at_69) rfl ?_
        show Steps p.tables e below (s₁.setTop (mkF m 70 #[.val (.int p1), .val (.int p2), .val (.int p3), .val (.int p4), .val (.int p5), .val (.int p6), .val (.int (4 : Int32)), .val (.int ln), .val (.int (if (p5 &&& (1 : Int32)) = (0 : Int32) then ((p1).toInt8.toInt32) else (-17 : Int32))), .val (.int (if (p5 &&& (2 : Int32)) = (0 : Int32) then ((p2).toInt8.toInt32) else (-69 : Int32))), .unset, .unset, .unset, .unset, .unset, .unset] [(.int ((p3).toInt8.toInt32))])) _
        first | exact k | (simp only [if_pos hm118] at k; exact k)
      · skip
        show Steps p.tables e below (s₁.setTop (mkF m 60 #[.val (.int p1), .val (.int p2), .val (.int p3), .val (.int p4), .val (.int p5), .val (.int p6), .val (.int (4 : Int32)), .val (.int ln), .val (.int (if (p5 &&& (1 : Int32)) = (0 : Int32) then ((p1).toInt8.toInt32) else (-17 : Int32))), .val (.int (if (p5 &&& (2 : Int32)) = (0 : Int32) then ((p2).toInt8.toInt32) else (-69 : Int32))), .unset, .unset, .unset, .unset, .unset, .unset] [(.int (p5 &&& (4 : Int32)))])) _
        refine XS.ifNo X0.here hx rfl (hb hby at_60) rfl (XT.i0_eq_f hm118) ?_
        show Steps p.tables e below (s₁.setTop (mkF m 63 #[.val (.int p1), .val (.int p2), .val (.int p3), .val (.int p4), .val (.int p5), .val (.int p6), .val (.int (4 : Int32)), .val (.int ln), .val (.int (if (p5 &&& (1 : Int32)) = (0 : Int32) then ((p1).toInt8.toInt32) else (-17 : Int32))), .val (.int (if (p5 &&& (2 : Int32)) = (0 : Int32) then ((p2).toInt8.toInt32) else (-69 : Int32))), .unset, .unset, .unset, .unset, .unset, .unset] [])) _
        refine XS.bipush X0.here hx rfl (hb hby at_63) ?_
        show Steps p.tables e below (s₁.setTop (mkF m 65 #[.val (.int p1), .val (.int p2), .val (.int p3), .val (.int p4), .val (.int p5), .val (.int p6), .val (.int (4 : Int32)), .val (.int ln), .val (.int (if (p5 &&& (1 : Int32)) = (0 : Int32) then ((p1).toInt8.toInt32) else (-17 : Int32))), .val (.int (if (p5 &&& (2 : Int32)) = (0 : Int32) then ((p2).toInt8.toInt32) else (-69 : Int32))), .unset, .unset, .unset, .unset, .unset, .unset] [(.int (-65 : Int32))])) _
        refine XS.goto X0.here hx rfl (pc0 := 65) (pc' := 70) rfl (hb hby at_65) (by decide) (by decide) ?_
        show Steps p.tables e below (s₁.setTop (mkF m 70 #[.val (.int p1), .val (.int p2), .val (.int p3), .val (.int p4), .val (.int p5), .val (.int p6), .val (.int (4 : Int32)), .val (.int ln), .val (.int (if (p5 &&& (1 : Int32)) = (0 : Int32) then ((p1).toInt8.toInt32) else (-17 : Int32))), .val (.int (if (p5 &&& (2 : Int32)) = (0 : Int32) then ((p2).toInt8.toInt32) else (-69 : Int32))), .unset, .unset, .unset, .unset, .unset, .unset] [(.int (-65 : Int32))])) _
        first | exact k | (simp only [if_neg hm118] at k; exact k)
    have pre_120 : ∀ t, Steps p.tables e below (s₁.setTop (mkF m 83 #[.val (.int p1), .val (.int p2), .val (.int p3), .val (.int p4), .val (.int p5), .val (.int p6), .val (.int (4 : Int32)), .val (.int ln), .val (.int (if (p5 &&& (1 : Int32)) = (0 : Int32) then ((p1).toInt8.toInt32) else (-17 : Int32))), .val (.int (if (p5 &&& (2 : Int32)) = (0 : Int32) then ((p2).toInt8.toInt32) else (-69 : Int32))), .val (.int (if (p5 &&& (4 : Int32)) = (0 : Int32) then ((p3).toInt8.toInt32) else (-65 : Int32))), .val (.int ((p4).toInt8.toInt32)), .val (.int (((p4 >>> ((8 : Int32) &&& 31))).toInt8.toInt32)), .unset, .unset, .unset] [])) t → Steps p.tables e below (s₁.setTop (entryFrame m #[(.int p1), (.int p2), (.int p3), (.int p4), (.int p5), (.int p6)] maxLocals)) t := by
      intro t k
      refine pre_119 t ?_
      show Steps p.tables e below (s₁.setTop (mkF m 70 #[.val (.int p1), .val (.int p2), .val (.int p3), .val (.int p4), .val (.int p5), .val (.int p6), .val (.int (4 : Int32)), .val (.int ln), .val (.int (if (p5 &&& (1 : Int32)) = (0 : Int32) then ((p1).toInt8.toInt32) else (-17 : Int32))), .val (.int (if (p5 &&& (2 : Int32)) = (0 : Int32) then ((p2).toInt8.toInt32) else (-69 : Int32))), .unset, .unset, .unset, .unset, .unset, .unset] [(.int (if (p5 &&& (4 : Int32)) = (0 : Int32) then ((p3).toInt8.toInt32) else (-65 : Int32)))])) _
      refine XS.istore X0.here hx rfl (hb hby at_70) rfl (l' := #[.val (.int p1), .val (.int p2), .val (.int p3), .val (.int p4), .val (.int p5), .val (.int p6), .val (.int (4 : Int32)), .val (.int ln), .val (.int (if (p5 &&& (1 : Int32)) = (0 : Int32) then ((p1).toInt8.toInt32) else (-17 : Int32))), .val (.int (if (p5 &&& (2 : Int32)) = (0 : Int32) then ((p2).toInt8.toInt32) else (-69 : Int32))), .val (.int (if (p5 &&& (4 : Int32)) = (0 : Int32) then ((p3).toInt8.toInt32) else (-65 : Int32))), .unset, .unset, .unset, .unset, .unset]) rfl ?_
      show Steps p.tables e below (s₁.setTop (mkF m 72 #[.val (.int p1), .val (.int p2), .val (.int p3), .val (.int p4), .val (.int p5), .val (.int p6), .val (.int (4 : Int32)), .val (.int ln), .val (.int (if (p5 &&& (1 : Int32)) = (0 : Int32) then ((p1).toInt8.toInt32) else (-17 : Int32))), .val (.int (if (p5 &&& (2 : Int32)) = (0 : Int32) then ((p2).toInt8.toInt32) else (-69 : Int32))), .val (.int (if (p5 &&& (4 : Int32)) = (0 : Int32) then ((p3).toInt8.toInt32) else (-65 : Int32))), .unset, .unset, .unset, .unset, .unset] [])) _
      refine XS.iloadN X0.here hx rfl (hb hby at_72) rfl ?_
      show Steps p.tables e below (s₁.setTop (mkF m 73 #[.val (.int p1), .val (.int p2), .val (.int p3), .val (.int p4), .val (.int p5), .val (.int p6), .val (.int (4 : Int32)), .val (.int ln), .val (.int (if (p5 &&& (1 : Int32)) = (0 : Int32) then ((p1).toInt8.toInt32) else (-17 : Int32))), .val (.int (if (p5 &&& (2 : Int32)) = (0 : Int32) then ((p2).toInt8.toInt32) else (-69 : Int32))), .val (.int (if (p5 &&& (4 : Int32)) = (0 : Int32) then ((p3).toInt8.toInt32) else (-65 : Int32))), .unset, .unset, .unset, .unset, .unset] [(.int p4)])) _
      refine XT.i2b X0.here hx rfl (hb hby at_73) rfl ?_
      show Steps p.tables e below (s₁.setTop (mkF m 74 #[.val (.int p1), .val (.int p2), .val (.int p3), .val (.int p4), .val (.int p5), .val (.int p6), .val (.int (4 : Int32)), .val (.int ln), .val (.int (if (p5 &&& (1 : Int32)) = (0 : Int32) then ((p1).toInt8.toInt32) else (-17 : Int32))), .val (.int (if (p5 &&& (2 : Int32)) = (0 : Int32) then ((p2).toInt8.toInt32) else (-69 : Int32))), .val (.int (if (p5 &&& (4 : Int32)) = (0 : Int32) then ((p3).toInt8.toInt32) else (-65 : Int32))), .unset, .unset, .unset, .unset, .unset] [(.int ((p4).toInt8.toInt32))])) _
      refine XS.istore X0.here hx rfl (hb hby at_74) rfl (l' := #[.val (.int p1), .val (.int p2), .val (.int p3), .val (.int p4), .val (.int p5), .val (.int p6), .val (.int (4 : Int32)), .val (.int ln), .val (.int (if (p5 &&& (1 : Int32)) = (0 : Int32) then ((p1).toInt8.toInt32) else (-17 : Int32))), .val (.int (if (p5 &&& (2 : Int32)) = (0 : Int32) then ((p2).toInt8.toInt32) else (-69 : Int32))), .val (.int (if (p5 &&& (4 : Int32)) = (0 : Int32) then ((p3).toInt8.toInt32) else (-65 : Int32))), .val (.int ((p4).toInt8.toInt32)), .unset, .unset, .unset, .unset]) rfl ?_
      show Steps p.tables e below (s₁.setTop (mkF m 76 #[.val (.int p1), .val (.int p2), .val (.int p3), .val (.int p4), .val (.int p5), .val (.int p6), .val (.int (4 : Int32)), .val (.int ln), .val (.int (if (p5 &&& (1 : Int32)) = (0 : Int32) then ((p1).toInt8.toInt32) else (-17 : Int32))), .val (.int (if (p5 &&& (2 : Int32)) = (0 : Int32) then ((p2).toInt8.toInt32) else (-69 : Int32))), .val (.int (if (p5 &&& (4 : Int32)) = (0 : Int32) then ((p3).toInt8.toInt32) else (-65 : Int32))), .val (.int ((p4).toInt8.toInt32)), .unset, .unset, .unset, .unset] [])) _
      refine XS.iloadN X0.here hx rfl (hb hby at_76) rfl ?_
      show Steps p.tables e below (s₁.setTop (mkF m 77 #[.val (.int p1), .val (.int p2), .val (.int p3), .val (.int p4), .val (.int p5), .val (.int p6), .val (.int (4 : Int32)), .val (.int ln), .val (.int (if (p5 &&& (1 : Int32)) = (0 : Int32) then ((p1).toInt8.toInt32) else (-17 : Int32))), .val (.int (if (p5 &&& (2 : Int32)) = (0 : Int32) then ((p2).toInt8.toInt32) else (-69 : Int32))), .val (.int (if (p5 &&& (4 : Int32)) = (0 : Int32) then ((p3).toInt8.toInt32) else (-65 : Int32))), .val (.int ((p4).toInt8.toInt32)), .unset, .unset, .unset, .unset] [(.int p4)])) _
      refine XS.bipush X0.here hx rfl (hb hby at_77) ?_
      show Steps p.tables e below (s₁.setTop (mkF m 79 #[.val (.int p1), .val (.int p2), .val (.int p3), .val (.int p4), .val (.int p5), .val (.int p6), .val (.int (4 : Int32)), .val (.int ln), .val (.int (if (p5 &&& (1 : Int32)) = (0 : Int32) then ((p1).toInt8.toInt32) else (-17 : Int32))), .val (.int (if (p5 &&& (2 : Int32)) = (0 : Int32) then ((p2).toInt8.toInt32) else (-69 : Int32))), .val (.int (if (p5 &&& (4 : Int32)) = (0 : Int32) then ((p3).toInt8.toInt32) else (-65 : Int32))), .val (.int ((p4).toInt8.toInt32)), .unset, .unset, .unset, .unset] [(.int (8 : Int32)), (.int p4)])) _
      refine XT.ishr X0.here hx rfl (hb hby at_79) rfl ?_
      show Steps p.tables e below (s₁.setTop (mkF m 80 #[.val (.int p1), .val (.int p2), .val (.int p3), .val (.int p4), .val (.int p5), .val (.int p6), .val (.int (4 : Int32)), .val (.int ln), .val (.int (if (p5 &&& (1 : Int32)) = (0 : Int32) then ((p1).toInt8.toInt32) else (-17 : Int32))), .val (.int (if (p5 &&& (2 : Int32)) = (0 : Int32) then ((p2).toInt8.toInt32) else (-69 : Int32))), .val (.int (if (p5 &&& (4 : Int32)) = (0 : Int32) then ((p3).toInt8.toInt32) else (-65 : Int32))), .val (.int ((p4).toInt8.toInt32)), .unset, .unset, .unset, .unset] [(.int (p4 >>> ((8 : Int32) &&& 31)))])) _
      refine XT.i2b X0.here hx rfl (hb hby at_80) rfl ?_
      show Steps p.tables e below (s₁.setTop (mkF m 81 #[.val (.int p1), .val (.int p2), .val (.int p3), .val (.int p4), .val (.int p5), .val (.int p6), .val (.int (4 : Int32)), .val (.int ln), .val (.int (if (p5 &&& (1 : Int32)) = (0 : Int32) then ((p1).toInt8.toInt32) else (-17 : Int32))), .val (.int (if (p5 &&& (2 : Int32)) = (0 : Int32) then ((p2).toInt8.toInt32) else (-69 : Int32))), .val (.int (if (p5 &&& (4 : Int32)) = (0 : Int32) then ((p3).toInt8.toInt32) else (-65 : Int32))), .val (.int ((p4).toInt8.toInt32)), .unset, .unset, .unset, .unset] [(.int (((p4 >>> ((8 : Int32) &&& 31))).toInt8.toInt32))])) _
      refine XS.istore X0.here hx rfl (hb hby at_81) rfl (l' := #[.val (.int p1), .val (.int p2), .val (.int p3), .val (.int p4), .val (.int p5), .val (.int p6), .val (.int (4 : Int32)), .val (.int ln), .val (.int (if (p5 &&& (1 : Int32)) = (0 : Int32) then ((p1).toInt8.toInt32) else (-17 : Int32))), .val (.int (if (p5 &&& (2 : Int32)) = (0 : Int32) then ((p2).toInt8.toInt32) else (-69 : Int32))), .val (.int (if (p5 &&& (4 : Int32)) = (0 : Int32) then ((p3).toInt8.toInt32) else (-65 : Int32))), .val (.int ((p4).toInt8.toInt32)), .val (.int (((p4 >>> ((8 : Int32) &&& 31))).toInt8.toInt32)), .unset, .unset, .unset]) rfl ?_
      show Steps p.tables e below (s₁.setTop (mkF m 83 #[.val (.int p1), .val (.int p2), .val (.int p3), .val (.int p4), .val (.int p5), .val (.int p6), .val (.int (4 : Int32)), .val (.int ln), .val (.int (if (p5 &&& (1 : Int32)) = (0 : Int32) then ((p1).toInt8.toInt32) else (-17 : Int32))), .val (.int (if (p5 &&& (2 : Int32)) = (0 : Int32) then ((p2).toInt8.toInt32) else (-69 : Int32))), .val (.int (if (p5 &&& (4 : Int32)) = (0 : Int32) then ((p3).toInt8.toInt32) else (-65 : Int32))), .val (.int ((p4).toInt8.toInt32)), .val (.int (((p4 >>> ((8 : Int32) &&& 31))).toInt8.toInt32)), .unset, .unset, .unset] [])) _
      exact k
    have hb0 : nar .byte (if (p5 &&& (1 : Int32)) = (0 : Int32) then ((p1).toInt8.toInt32) else (-17 : Int32)) = (if (p5 &&& (1 : Int32)) = (0 : Int32) then ((p1).toInt8.toInt32) else (-17 : Int32)) := by exact own_nbi _ _ _ (by decide)
    generalize (if (p5 &&& (1 : Int32)) = (0 : Int32) then ((p1).toInt8.toInt32) else (-17 : Int32)) = b0 at pre_120 hb0
    have hb1 : nar .byte (if (p5 &&& (2 : Int32)) = (0 : Int32) then ((p2).toInt8.toInt32) else (-69 : Int32)) = (if (p5 &&& (2 : Int32)) = (0 : Int32) then ((p2).toInt8.toInt32) else (-69 : Int32)) := by exact own_nbi _ _ _ (by decide)
    generalize (if (p5 &&& (2 : Int32)) = (0 : Int32) then ((p2).toInt8.toInt32) else (-69 : Int32)) = b1 at pre_120 hb1
    have hb2 : nar .byte (if (p5 &&& (4 : Int32)) = (0 : Int32) then ((p3).toInt8.toInt32) else (-65 : Int32)) = (if (p5 &&& (4 : Int32)) = (0 : Int32) then ((p3).toInt8.toInt32) else (-65 : Int32)) := by exact own_nbi _ _ _ (by decide)
    generalize (if (p5 &&& (4 : Int32)) = (0 : Int32) then ((p3).toInt8.toInt32) else (-65 : Int32)) = b2 at pre_120 hb2
    have hb3 : nar .byte ((p4).toInt8.toInt32) = ((p4).toInt8.toInt32) := by exact own_nb _
    generalize ((p4).toInt8.toInt32) = b3 at pre_120 hb3
    have hb4 : nar .byte (((p4 >>> ((8 : Int32) &&& 31))).toInt8.toInt32) = (((p4 >>> ((8 : Int32) &&& 31))).toInt8.toInt32) := by exact own_nb _
    generalize (((p4 >>> ((8 : Int32) &&& 31))).toInt8.toInt32) = b4 at pre_120 hb4
    have pre_121 : ∀ t, Steps p.tables e below (s₁.setTop (mkF m 85 #[.val (.int p1), .val (.int p2), .val (.int p3), .val (.int p4), .val (.int p5), .val (.int p6), .val (.int (4 : Int32)), .val (.int ln), .val (.int b0), .val (.int b1), .val (.int b2), .val (.int b3), .val (.int b4), .unset, .unset, .unset] [(.int (4 : Int32))])) t → Steps p.tables e below (s₁.setTop (entryFrame m #[(.int p1), (.int p2), (.int p3), (.int p4), (.int p5), (.int p6)] maxLocals)) t := by
      intro t k
      refine pre_120 t ?_
      show Steps p.tables e below (s₁.setTop (mkF m 83 #[.val (.int p1), .val (.int p2), .val (.int p3), .val (.int p4), .val (.int p5), .val (.int p6), .val (.int (4 : Int32)), .val (.int ln), .val (.int b0), .val (.int b1), .val (.int b2), .val (.int b3), .val (.int b4), .unset, .unset, .unset] [])) _
      refine XS.iload X0.here hx rfl (hb hby at_83) rfl ?_
      show Steps p.tables e below (s₁.setTop (mkF m 85 #[.val (.int p1), .val (.int p2), .val (.int p3), .val (.int p4), .val (.int p5), .val (.int p6), .val (.int (4 : Int32)), .val (.int ln), .val (.int b0), .val (.int b1), .val (.int b2), .val (.int b3), .val (.int b4), .unset, .unset, .unset] [(.int (4 : Int32))])) _
      exact k
    obtain ⟨_, _, ⟨T122, L122, k122, n122⟩, -, X122, ⟨Lc122, hQ122, l122, y122, z122⟩, st122⟩ := Jvm.LawKit.callS X0 hx (y := (⟨"com/example/tranche/tranche/TextFileTextStartPinLaw", "make", "(I)[B"⟩ : MethodName)) hown (mvT hZ (hw _ (List.mem_of_getElem? (i := 1) rfl))) (mvT hZ (hw _ (List.mem_of_getElem? (i := 2) rfl))) (mvT hZ (hw _ (List.mem_of_getElem? (i := 3) rfl))) (mvT hZ (hw _ (List.mem_of_getElem? (i := 4) rfl))) (by decide) (backOf (W := 0) (rm_make4 l Z a0 hw [] h0 n0 O0) hZ (hw _ (List.mem_of_getElem? (i := 4) rfl)) (hw _ (List.mem_of_getElem? (i := 3) rfl)) (by decide) (by decide)) (g := (mkF m 85 #[.val (.int p1), .val (.int p2), .val (.int p3), .val (.int p4), .val (.int p5), .val (.int p6), .val (.int (4 : Int32)), .val (.int ln), .val (.int b0), .val (.int b1), .val (.int b2), .val (.int b3), .val (.int b4), .unset, .unset, .unset] [(.int (4 : Int32))])) rfl (by rw [hml]; rfl) (argsL := [(.int (4 : Int32))]) (rest := []) (lenOf pd_law_0 rfl) rfl (by show 2 * 0 + _ ≤ _; exact Nat.le_of_eq rfl) (hb hby at_85) (fun _ _ => ⟨rfl, e0, (by decide : 0 + 1 ≤ _), (by decide : 0 + 4 ≤ _)⟩)
    dsimp only [Pt.U, Pt.locs, Pt.cells, Pt.slots] at X122 l122 y122 z122 st122 hQ122
    subst l122 y122 z122
    obtain ⟨m122, cA122, rfl, N122q, K122, gm122, Vm122⟩ := hQ122
    have N122 := Fr.app N0 N122q
    have O122 : Old Z n0 T122.heap := O0.keep K122 all0
    have pre_123 : ∀ t, Steps p.tables e below (T122.setTop (mkF m 88 #[.val (.int p1), .val (.int p2), .val (.int p3), .val (.int p4), .val (.int p5), .val (.int p6), .val (.int (4 : Int32)), .val (.int ln), .val (.int b0), .val (.int b1), .val (.int b2), .val (.int b3), .val (.int b4), .unset, .unset, .unset] [(.ref m122)])) t → Steps p.tables e below (s₁.setTop (entryFrame m #[(.int p1), (.int p2), (.int p3), (.int p4), (.int p5), (.int p6)] maxLocals)) t := fun t k => pre_121 t (st122 t k)
    have pre_124 : ∀ t, Steps p.tables e below (T122.setTop (mkF m 100 #[.val (.int p1), .val (.int p2), .val (.int p3), .val (.int p4), .val (.int p5), .val (.int p6), .val (.int (4 : Int32)), .val (.int ln), .val (.int b0), .val (.int b1), .val (.int b2), .val (.int b3), .val (.int b4), .val (.ref m122), .unset, .unset] [(.int b0), (.int (0 : Int32)), (.ref m122)])) t → Steps p.tables e below (s₁.setTop (entryFrame m #[(.int p1), (.int p2), (.int p3), (.int p4), (.int p5), (.int p6)] maxLocals)) t := by
      intro t k
      refine pre_123 t ?_
      show Steps p.tables e below (T122.setTop (mkF m 88 #[.val (.int p1), .val (.int p2), .val (.int p3), .val (.int p4), .val (.int p5), .val (.int p6), .val (.int (4 : Int32)), .val (.int ln), .val (.int b0), .val (.int b1), .val (.int b2), .val (.int b3), .val (.int b4), .unset, .unset, .unset] [(.ref m122)])) _
      refine XS.astore X122.here hx rfl (hb hby at_88) rfl rfl (l' := #[.val (.int p1), .val (.int p2), .val (.int p3), .val (.int p4), .val (.int p5), .val (.int p6), .val (.int (4 : Int32)), .val (.int ln), .val (.int b0), .val (.int b1), .val (.int b2), .val (.int b3), .val (.int b4), .val (.ref m122), .unset, .unset]) rfl ?_
      show Steps p.tables e below (T122.setTop (mkF m 90 #[.val (.int p1), .val (.int p2), .val (.int p3), .val (.int p4), .val (.int p5), .val (.int p6), .val (.int (4 : Int32)), .val (.int ln), .val (.int b0), .val (.int b1), .val (.int b2), .val (.int b3), .val (.int b4), .val (.ref m122), .unset, .unset] [])) _
      refine XS.iload X122.here hx rfl (hb hby at_90) rfl ?_
      show Steps p.tables e below (T122.setTop (mkF m 92 #[.val (.int p1), .val (.int p2), .val (.int p3), .val (.int p4), .val (.int p5), .val (.int p6), .val (.int (4 : Int32)), .val (.int ln), .val (.int b0), .val (.int b1), .val (.int b2), .val (.int b3), .val (.int b4), .val (.ref m122), .unset, .unset] [(.int (4 : Int32))])) _
      refine XS.ifNo X122.here hx rfl (hb hby at_92) rfl (XT.i0_le_f (by decide)) ?_
      show Steps p.tables e below (T122.setTop (mkF m 95 #[.val (.int p1), .val (.int p2), .val (.int p3), .val (.int p4), .val (.int p5), .val (.int p6), .val (.int (4 : Int32)), .val (.int ln), .val (.int b0), .val (.int b1), .val (.int b2), .val (.int b3), .val (.int b4), .val (.ref m122), .unset, .unset] [])) _
      refine XS.aload X122.here hx rfl (hb hby at_95) rfl rfl ?_
      show Steps p.tables e below (T122.setTop (mkF m 97 #[.val (.int p1), .val (.int p2), .val (.int p3), .val (.int p4), .val (.int p5), .val (.int p6), .val (.int (4 : Int32)), .val (.int ln), .val (.int b0), .val (.int b1), .val (.int b2), .val (.int b3), .val (.int b4), .val (.ref m122), .unset, .unset] [(.ref m122)])) _
      refine XS.iconst X122.here hx rfl (hb hby at_97) ?_
      show Steps p.tables e below (T122.setTop (mkF m 98 #[.val (.int p1), .val (.int p2), .val (.int p3), .val (.int p4), .val (.int p5), .val (.int p6), .val (.int (4 : Int32)), .val (.int ln), .val (.int b0), .val (.int b1), .val (.int b2), .val (.int b3), .val (.int b4), .val (.ref m122), .unset, .unset] [(.int (0 : Int32)), (.ref m122)])) _
      refine XS.iload X122.here hx rfl (hb hby at_98) rfl ?_
      show Steps p.tables e below (T122.setTop (mkF m 100 #[.val (.int p1), .val (.int p2), .val (.int p3), .val (.int p4), .val (.int p5), .val (.int p6), .val (.int (4 : Int32)), .val (.int ln), .val (.int b0), .val (.int b1), .val (.int b2), .val (.int b3), .val (.int b4), .val (.ref m122), .unset, .unset] [(.int b0), (.int (0 : Int32)), (.ref m122)])) _
      exact k
    obtain ⟨cl125, Ar125, q125, S125, M125, H125, G125⟩ := id Vm122
    obtain ⟨T125, h125, X125, e125, W125, st125⟩ := stB X122 hx hZ rfl Ar125 (j := (0 : Int32)) (inb_of S125 (by decide)) (g := (mkF m 100 #[.val (.int p1), .val (.int p2), .val (.int p3), .val (.int p4), .val (.int p5), .val (.int p6), .val (.int (4 : Int32)), .val (.int ln), .val (.int b0), .val (.int b1), .val (.int b2), .val (.int b3), .val (.int b4), .val (.ref m122), .unset, .unset] [(.int b0), (.int (0 : Int32)), (.ref m122)])) rfl rfl (hb hby at_100)
    have N125 := Fr.snoc X125 N122 gm122
    have O125 : Old Z n0 h125 := O122.wr W125 gm122
    rw [hb0] at W125
    have V125 : Arv Z h125 m122 cA122 .byte (4 : Int32) [(.int b0), (.int (0 : Int32)), (.int (0 : Int32)), (.int (0 : Int32))] (.int (0 : Int32)) := Arv.set Ar125 q125 S125 M125 H125 G125 (by rw [← hb0]; exact (fits_nar_byte _)) W125 0 rfl (Nat.le_of_ble_eq_true rfl)
    have pre_126 : ∀ t, Steps p.tables e below (T125.setTop (mkF m 101 #[.val (.int p1), .val (.int p2), .val (.int p3), .val (.int p4), .val (.int p5), .val (.int p6), .val (.int (4 : Int32)), .val (.int ln), .val (.int b0), .val (.int b1), .val (.int b2), .val (.int b3), .val (.int b4), .val (.ref m122), .unset, .unset] [])) t → Steps p.tables e below (s₁.setTop (entryFrame m #[(.int p1), (.int p2), (.int p3), (.int p4), (.int p5), (.int p6)] maxLocals)) t := fun t k => pre_124 t (st125 t k)
    have pre_127 : ∀ t, Steps p.tables e below (T125.setTop (mkF m 112 #[.val (.int p1), .val (.int p2), .val (.int p3), .val (.int p4), .val (.int p5), .val (.int p6), .val (.int (4 : Int32)), .val (.int ln), .val (.int b0), .val (.int b1), .val (.int b2), .val (.int b3), .val (.int b4), .val (.ref m122), .unset, .unset] [(.int b1), (.int (1 : Int32)), (.ref m122)])) t → Steps p.tables e below (s₁.setTop (entryFrame m #[(.int p1), (.int p2), (.int p3), (.int p4), (.int p5), (.int p6)] maxLocals)) t := by
      intro t k
      refine pre_126 t ?_
      show Steps p.tables e below (T125.setTop (mkF m 101 #[.val (.int p1), .val (.int p2), .val (.int p3), .val (.int p4), .val (.int p5), .val (.int p6), .val (.int (4 : Int32)), .val (.int ln), .val (.int b0), .val (.int b1), .val (.int b2), .val (.int b3), .val (.int b4), .val (.ref m122), .unset, .unset] [])) _
      refine XS.iload X125.here hx rfl (hb hby at_101) rfl ?_
      show Steps p.tables e below (T125.setTop (mkF m 103 #[.val (.int p1), .val (.int p2), .val (.int p3), .val (.int p4), .val (.int p5), .val (.int p6), .val (.int (4 : Int32)), .val (.int ln), .val (.int b0), .val (.int b1), .val (.int b2), .val (.int b3), .val (.int b4), .val (.ref m122), .unset, .unset] [(.int (4 : Int32))])) _
      refine XS.iconst X125.here hx rfl (hb hby at_103) ?_
      show Steps p.tables e below (T125.setTop (mkF m 104 #[.val (.int p1), .val (.int p2), .val (.int p3), .val (.int p4), .val (.int p5), .val (.int p6), .val (.int (4 : Int32)), .val (.int ln), .val (.int b0), .val (.int b1), .val (.int b2), .val (.int b3), .val (.int b4), .val (.ref m122), .unset, .unset] [(.int (1 : Int32)), (.int (4 : Int32))])) _
      refine XS.icmpNo X125.here hx rfl (hb hby at_104) rfl (XT.ii_le_f (by decide)) ?_
      show Steps p.tables e below (T125.setTop (mkF m 107 #[.val (.int p1), .val (.int p2), .val (.int p3), .val (.int p4), .val (.int p5), .val (.int p6), .val (.int (4 : Int32)), .val (.int ln), .val (.int b0), .val (.int b1), .val (.int b2), .val (.int b3), .val (.int b4), .val (.ref m122), .unset, .unset] [])) _
      refine XS.aload X125.here hx rfl (hb hby at_107) rfl rfl ?_
      show Steps p.tables e below (T125.setTop (mkF m 109 #[.val (.int p1), .val (.int p2), .val (.int p3), .val (.int p4), .val (.int p5), .val (.int p6), .val (.int (4 : Int32)), .val (.int ln), .val (.int b0), .val (.int b1), .val (.int b2), .val (.int b3), .val (.int b4), .val (.ref m122), .unset, .unset] [(.ref m122)])) _
      refine XS.iconst X125.here hx rfl (hb hby at_109) ?_
      show Steps p.tables e below (T125.setTop (mkF m 110 #[.val (.int p1), .val (.int p2), .val (.int p3), .val (.int p4), .val (.int p5), .val (.int p6), .val (.int (4 : Int32)), .val (.int ln), .val (.int b0), .val (.int b1), .val (.int b2), .val (.int b3), .val (.int b4), .val (.ref m122), .unset, .unset] [(.int (1 : Int32)), (.ref m122)])) _
      refine XS.iload X125.here hx rfl (hb hby at_110) rfl ?_
      show Steps p.tables e below (T125.setTop (mkF m 112 #[.val (.int p1), .val (.int p2), .val (.int p3), .val (.int p4), .val (.int p5), .val (.int p6), .val (.int (4 : Int32)), .val (.int ln), .val (.int b0), .val (.int b1), .val (.int b2), .val (.int b3), .val (.int b4), .val (.ref m122), .unset, .unset] [(.int b1), (.int (1 : Int32)), (.ref m122)])) _
      exact k
    obtain ⟨cl128, Ar128, q128, S128, M128, H128, G128⟩ := id V125
    obtain ⟨T128, h128, X128, e128, W128, st128⟩ := stB X125 hx hZ e125 Ar128 (j := (1 : Int32)) (inb_of S128 (by decide)) (g := (mkF m 112 #[.val (.int p1), .val (.int p2), .val (.int p3), .val (.int p4), .val (.int p5), .val (.int p6), .val (.int (4 : Int32)), .val (.int ln), .val (.int b0), .val (.int b1), .val (.int b2), .val (.int b3), .val (.int b4), .val (.ref m122), .unset, .unset] [(.int b1), (.int (1 : Int32)), (.ref m122)])) rfl rfl (hb hby at_112)
    have N128 := Fr.snoc X128 N125 gm122
    have O128 : Old Z n0 h128 := O125.wr W128 gm122
    rw [hb1] at W128
    have V128 : Arv Z h128 m122 cA122 .byte (4 : Int32) [(.int b0), (.int b1), (.int (0 : Int32)), (.int (0 : Int32))] (.int (0 : Int32)) := Arv.set Ar128 q128 S128 M128 H128 G128 (by rw [← hb1]; exact (fits_nar_byte _)) W128 1 rfl (Nat.le_of_ble_eq_true rfl)
    have pre_129 : ∀ t, Steps p.tables e below (T128.setTop (mkF m 113 #[.val (.int p1), .val (.int p2), .val (.int p3), .val (.int p4), .val (.int p5), .val (.int p6), .val (.int (4 : Int32)), .val (.int ln), .val (.int b0), .val (.int b1), .val (.int b2), .val (.int b3), .val (.int b4), .val (.ref m122), .unset, .unset] [])) t → Steps p.tables e below (s₁.setTop (entryFrame m #[(.int p1), (.int p2), (.int p3), (.int p4), (.int p5), (.int p6)] maxLocals)) t := fun t k => pre_127 t (st128 t k)
    have pre_130 : ∀ t, Steps p.tables e below (T128.setTop (mkF m 124 #[.val (.int p1), .val (.int p2), .val (.int p3), .val (.int p4), .val (.int p5), .val (.int p6), .val (.int (4 : Int32)), .val (.int ln), .val (.int b0), .val (.int b1), .val (.int b2), .val (.int b3), .val (.int b4), .val (.ref m122), .unset, .unset] [(.int b2), (.int (2 : Int32)), (.ref m122)])) t → Steps p.tables e below (s₁.setTop (entryFrame m #[(.int p1), (.int p2), (.int p3), (.int p4), (.int p5), (.int p6)] maxLocals)) t := by
      intro t k
      refine pre_129 t ?_
      show Steps p.tables e below (T128.setTop (mkF m 113 #[.val (.int p1), .val (.int p2), .val (.int p3), .val (.int p4), .val (.int p5), .val (.int p6), .val (.int (4 : Int32)), .val (.int ln), .val (.int b0), .val (.int b1), .val (.int b2), .val (.int b3), .val (.int b4), .val (.ref m122), .unset, .unset] [])) _
      refine XS.iload X128.here hx rfl (hb hby at_113) rfl ?_
      show Steps p.tables e below (T128.setTop (mkF m 115 #[.val (.int p1), .val (.int p2), .val (.int p3), .val (.int p4), .val (.int p5), .val (.int p6), .val (.int (4 : Int32)), .val (.int ln), .val (.int b0), .val (.int b1), .val (.int b2), .val (.int b3), .val (.int b4), .val (.ref m122), .unset, .unset] [(.int (4 : Int32))])) _
      refine XS.iconst X128.here hx rfl (hb hby at_115) ?_
      show Steps p.tables e below (T128.setTop (mkF m 116 #[.val (.int p1), .val (.int p2), .val (.int p3), .val (.int p4), .val (.int p5), .val (.int p6), .val (.int (4 : Int32)), .val (.int ln), .val (.int b0), .val (.int b1), .val (.int b2), .val (.int b3), .val (.int b4), .val (.ref m122), .unset, .unset] [(.int (2 : Int32)), (.int (4 : Int32))])) _
      refine XS.icmpNo X128.here hx rfl (hb hby at_116) rfl (XT.ii_le_f (by decide)) ?_
      show Steps p.tables e below (T128.setTop (mkF m 119 #[.val (.int p1), .val (.int p2), .val (.int p3), .val (.int p4), .val (.int p5), .val (.int p6), .val (.int (4 : Int32)), .val (.int ln), .val (.int b0), .val (.int b1), .val (.int b2), .val (.int b3), .val (.int b4), .val (.ref m122), .unset, .unset] [])) _
      refine XS.aload X128.here hx rfl (hb hby at_119) rfl rfl ?_
      show Steps p.tables e below (T128.setTop (mkF m 121 #[.val (.int p1), .val (.int p2), .val (.int p3), .val (.int p4), .val (.int p5), .val (.int p6), .val (.int (4 : Int32)), .val (.int ln), .val (.int b0), .val (.int b1), .val (.int b2), .val (.int b3), .val (.int b4), .val (.ref m122), .unset, .unset] [(.ref m122)])) _
      refine XS.iconst X128.here hx rfl (hb hby at_121) ?_
      show Steps p.tables e below (T128.setTop (mkF m 122 #[.val (.int p1), .val (.int p2), .val (.int p3), .val (.int p4), .val (.int p5), .val (.int p6), .val (.int (4 : Int32)), .val (.int ln), .val (.int b0), .val (.int b1), .val (.int b2), .val (.int b3), .val (.int b4), .val (.ref m122), .unset, .unset] [(.int (2 : Int32)), (.ref m122)])) _
      refine XS.iload X128.here hx rfl (hb hby at_122) rfl ?_
      show Steps p.tables e below (T128.setTop (mkF m 124 #[.val (.int p1), .val (.int p2), .val (.int p3), .val (.int p4), .val (.int p5), .val (.int p6), .val (.int (4 : Int32)), .val (.int ln), .val (.int b0), .val (.int b1), .val (.int b2), .val (.int b3), .val (.int b4), .val (.ref m122), .unset, .unset] [(.int b2), (.int (2 : Int32)), (.ref m122)])) _
      exact k
    obtain ⟨cl131, Ar131, q131, S131, M131, H131, G131⟩ := id V128
    obtain ⟨T131, h131, X131, e131, W131, st131⟩ := stB X128 hx hZ e128 Ar131 (j := (2 : Int32)) (inb_of S131 (by decide)) (g := (mkF m 124 #[.val (.int p1), .val (.int p2), .val (.int p3), .val (.int p4), .val (.int p5), .val (.int p6), .val (.int (4 : Int32)), .val (.int ln), .val (.int b0), .val (.int b1), .val (.int b2), .val (.int b3), .val (.int b4), .val (.ref m122), .unset, .unset] [(.int b2), (.int (2 : Int32)), (.ref m122)])) rfl rfl (hb hby at_124)
    have N131 := Fr.snoc X131 N128 gm122
    have O131 : Old Z n0 h131 := O128.wr W131 gm122
    rw [hb2] at W131
    have V131 : Arv Z h131 m122 cA122 .byte (4 : Int32) [(.int b0), (.int b1), (.int b2), (.int (0 : Int32))] (.int (0 : Int32)) := Arv.set Ar131 q131 S131 M131 H131 G131 (by rw [← hb2]; exact (fits_nar_byte _)) W131 2 rfl (Nat.le_of_ble_eq_true rfl)
    have pre_132 : ∀ t, Steps p.tables e below (T131.setTop (mkF m 125 #[.val (.int p1), .val (.int p2), .val (.int p3), .val (.int p4), .val (.int p5), .val (.int p6), .val (.int (4 : Int32)), .val (.int ln), .val (.int b0), .val (.int b1), .val (.int b2), .val (.int b3), .val (.int b4), .val (.ref m122), .unset, .unset] [])) t → Steps p.tables e below (s₁.setTop (entryFrame m #[(.int p1), (.int p2), (.int p3), (.int p4), (.int p5), (.int p6)] maxLocals)) t := fun t k => pre_130 t (st131 t k)
    have pre_133 : ∀ t, Steps p.tables e below (T131.setTop (mkF m 136 #[.val (.int p1), .val (.int p2), .val (.int p3), .val (.int p4), .val (.int p5), .val (.int p6), .val (.int (4 : Int32)), .val (.int ln), .val (.int b0), .val (.int b1), .val (.int b2), .val (.int b3), .val (.int b4), .val (.ref m122), .unset, .unset] [(.int b3), (.int (3 : Int32)), (.ref m122)])) t → Steps p.tables e below (s₁.setTop (entryFrame m #[(.int p1), (.int p2), (.int p3), (.int p4), (.int p5), (.int p6)] maxLocals)) t := by
      intro t k
      refine pre_132 t ?_
      show Steps p.tables e below (T131.setTop (mkF m 125 #[.val (.int p1), .val (.int p2), .val (.int p3), .val (.int p4), .val (.int p5), .val (.int p6), .val (.int (4 : Int32)), .val (.int ln), .val (.int b0), .val (.int b1), .val (.int b2), .val (.int b3), .val (.int b4), .val (.ref m122), .unset, .unset] [])) _
      refine XS.iload X131.here hx rfl (hb hby at_125) rfl ?_
      show Steps p.tables e below (T131.setTop (mkF m 127 #[.val (.int p1), .val (.int p2), .val (.int p3), .val (.int p4), .val (.int p5), .val (.int p6), .val (.int (4 : Int32)), .val (.int ln), .val (.int b0), .val (.int b1), .val (.int b2), .val (.int b3), .val (.int b4), .val (.ref m122), .unset, .unset] [(.int (4 : Int32))])) _
      refine XS.iconst X131.here hx rfl (hb hby at_127) ?_
      show Steps p.tables e below (T131.setTop (mkF m 128 #[.val (.int p1), .val (.int p2), .val (.int p3), .val (.int p4), .val (.int p5), .val (.int p6), .val (.int (4 : Int32)), .val (.int ln), .val (.int b0), .val (.int b1), .val (.int b2), .val (.int b3), .val (.int b4), .val (.ref m122), .unset, .unset] [(.int (3 : Int32)), (.int (4 : Int32))])) _
      refine XS.icmpNo X131.here hx rfl (hb hby at_128) rfl (XT.ii_le_f (by decide)) ?_
      show Steps p.tables e below (T131.setTop (mkF m 131 #[.val (.int p1), .val (.int p2), .val (.int p3), .val (.int p4), .val (.int p5), .val (.int p6), .val (.int (4 : Int32)), .val (.int ln), .val (.int b0), .val (.int b1), .val (.int b2), .val (.int b3), .val (.int b4), .val (.ref m122), .unset, .unset] [])) _
      refine XS.aload X131.here hx rfl (hb hby at_131) rfl rfl ?_
      show Steps p.tables e below (T131.setTop (mkF m 133 #[.val (.int p1), .val (.int p2), .val (.int p3), .val (.int p4), .val (.int p5), .val (.int p6), .val (.int (4 : Int32)), .val (.int ln), .val (.int b0), .val (.int b1), .val (.int b2), .val (.int b3), .val (.int b4), .val (.ref m122), .unset, .unset] [(.ref m122)])) _
      refine XS.iconst X131.here hx rfl (hb hby at_133) ?_
      show Steps p.tables e below (T131.setTop (mkF m 134 #[.val (.int p1), .val (.int p2), .val (.int p3), .val (.int p4), .val (.int p5), .val (.int p6), .val (.int (4 : Int32)), .val (.int ln), .val (.int b0), .val (.int b1), .val (.int b2), .val (.int b3), .val (.int b4), .val (.ref m122), .unset, .unset] [(.int (3 : Int32)), (.ref m122)])) _
      refine XS.iload X131.here hx rfl (hb hby at_134) rfl ?_
      show Steps p.tables e below (T131.setTop (mkF m 136 #[.val (.int p1), .val (.int p2), .val (.int p3), .val (.int p4), .val (.int p5), .val (.int p6), .val (.int (4 : Int32)), .val (.int ln), .val (.int b0), .val (.int b1), .val (.int b2), .val (.int b3), .val (.int b4), .val (.ref m122), .unset, .unset] [(.int b3), (.int (3 : Int32)), (.ref m122)])) _
      exact k
    obtain ⟨cl134, Ar134, q134, S134, M134, H134, G134⟩ := id V131
    obtain ⟨T134, h134, X134, e134, W134, st134⟩ := stB X131 hx hZ e131 Ar134 (j := (3 : Int32)) (inb_of S134 (by decide)) (g := (mkF m 136 #[.val (.int p1), .val (.int p2), .val (.int p3), .val (.int p4), .val (.int p5), .val (.int p6), .val (.int (4 : Int32)), .val (.int ln), .val (.int b0), .val (.int b1), .val (.int b2), .val (.int b3), .val (.int b4), .val (.ref m122), .unset, .unset] [(.int b3), (.int (3 : Int32)), (.ref m122)])) rfl rfl (hb hby at_136)
    have N134 := Fr.snoc X134 N131 gm122
    have O134 : Old Z n0 h134 := O131.wr W134 gm122
    rw [hb3] at W134
    have V134 : Arv Z h134 m122 cA122 .byte (4 : Int32) [(.int b0), (.int b1), (.int b2), (.int b3)] (.int (0 : Int32)) := Arv.set Ar134 q134 S134 M134 H134 G134 (by rw [← hb3]; exact (fits_nar_byte _)) W134 3 rfl (Nat.le_of_ble_eq_true rfl)
    have pre_135 : ∀ t, Steps p.tables e below (T134.setTop (mkF m 137 #[.val (.int p1), .val (.int p2), .val (.int p3), .val (.int p4), .val (.int p5), .val (.int p6), .val (.int (4 : Int32)), .val (.int ln), .val (.int b0), .val (.int b1), .val (.int b2), .val (.int b3), .val (.int b4), .val (.ref m122), .unset, .unset] [])) t → Steps p.tables e below (s₁.setTop (entryFrame m #[(.int p1), (.int p2), (.int p3), (.int p4), (.int p5), (.int p6)] maxLocals)) t := fun t k => pre_133 t (st134 t k)
    have pre_136 : ∀ t, Steps p.tables e below (T134.setTop (mkF m 155 #[.val (.int p1), .val (.int p2), .val (.int p3), .val (.int p4), .val (.int p5), .val (.int p6), .val (.int (4 : Int32)), .val (.int ln), .val (.int b0), .val (.int b1), .val (.int b2), .val (.int b3), .val (.int b4), .val (.ref m122), .val (.int (0 : Int32)), .unset] [(.int (3 : Int32)), (.int ln)])) t → Steps p.tables e below (s₁.setTop (entryFrame m #[(.int p1), (.int p2), (.int p3), (.int p4), (.int p5), (.int p6)] maxLocals)) t := by
      intro t k
      refine pre_135 t ?_
      show Steps p.tables e below (T134.setTop (mkF m 137 #[.val (.int p1), .val (.int p2), .val (.int p3), .val (.int p4), .val (.int p5), .val (.int p6), .val (.int (4 : Int32)), .val (.int ln), .val (.int b0), .val (.int b1), .val (.int b2), .val (.int b3), .val (.int b4), .val (.ref m122), .unset, .unset] [])) _
      refine XS.iload X134.here hx rfl (hb hby at_137) rfl ?_
      show Steps p.tables e below (T134.setTop (mkF m 139 #[.val (.int p1), .val (.int p2), .val (.int p3), .val (.int p4), .val (.int p5), .val (.int p6), .val (.int (4 : Int32)), .val (.int ln), .val (.int b0), .val (.int b1), .val (.int b2), .val (.int b3), .val (.int b4), .val (.ref m122), .unset, .unset] [(.int (4 : Int32))])) _
      refine XS.iconst X134.here hx rfl (hb hby at_139) ?_
      show Steps p.tables e below (T134.setTop (mkF m 140 #[.val (.int p1), .val (.int p2), .val (.int p3), .val (.int p4), .val (.int p5), .val (.int p6), .val (.int (4 : Int32)), .val (.int ln), .val (.int b0), .val (.int b1), .val (.int b2), .val (.int b3), .val (.int b4), .val (.ref m122), .unset, .unset] [(.int (4 : Int32)), (.int (4 : Int32))])) _
      refine XS.icmpYes X134.here hx rfl (pc0 := 140) (pc' := 149) rfl (hb hby at_140) rfl (XT.ii_le_t (by decide)) (by decide) (by decide) ?_
      show Steps p.tables e below (T134.setTop (mkF m 149 #[.val (.int p1), .val (.int p2), .val (.int p3), .val (.int p4), .val (.int p5), .val (.int p6), .val (.int (4 : Int32)), .val (.int ln), .val (.int b0), .val (.int b1), .val (.int b2), .val (.int b3), .val (.int b4), .val (.ref m122), .unset, .unset] [])) _
      refine XS.iconst X134.here hx rfl (hb hby at_149) ?_
      show Steps p.tables e below (T134.setTop (mkF m 150 #[.val (.int p1), .val (.int p2), .val (.int p3), .val (.int p4), .val (.int p5), .val (.int p6), .val (.int (4 : Int32)), .val (.int ln), .val (.int b0), .val (.int b1), .val (.int b2), .val (.int b3), .val (.int b4), .val (.ref m122), .unset, .unset] [(.int (0 : Int32))])) _
      refine XS.istore X134.here hx rfl (hb hby at_150) rfl (l' := #[.val (.int p1), .val (.int p2), .val (.int p3), .val (.int p4), .val (.int p5), .val (.int p6), .val (.int (4 : Int32)), .val (.int ln), .val (.int b0), .val (.int b1), .val (.int b2), .val (.int b3), .val (.int b4), .val (.ref m122), .val (.int (0 : Int32)), .unset]) rfl ?_
      show Steps p.tables e below (T134.setTop (mkF m 152 #[.val (.int p1), .val (.int p2), .val (.int p3), .val (.int p4), .val (.int p5), .val (.int p6), .val (.int (4 : Int32)), .val (.int ln), .val (.int b0), .val (.int b1), .val (.int b2), .val (.int b3), .val (.int b4), .val (.ref m122), .val (.int (0 : Int32)), .unset] [])) _
      refine XS.iload X134.here hx rfl (hb hby at_152) rfl ?_
      show Steps p.tables e below (T134.setTop (mkF m 154 #[.val (.int p1), .val (.int p2), .val (.int p3), .val (.int p4), .val (.int p5), .val (.int p6), .val (.int (4 : Int32)), .val (.int ln), .val (.int b0), .val (.int b1), .val (.int b2), .val (.int b3), .val (.int b4), .val (.ref m122), .val (.int (0 : Int32)), .unset] [(.int ln)])) _
      refine XS.iconst X134.here hx rfl (hb hby at_154) ?_
      show Steps p.tables e below (T134.setTop (mkF m 155 #[.val (.int p1), .val (.int p2), .val (.int p3), .val (.int p4), .val (.int p5), .val (.int p6), .val (.int (4 : Int32)), .val (.int ln), .val (.int b0), .val (.int b1), .val (.int b2), .val (.int b3), .val (.int b4), .val (.ref m122), .val (.int (0 : Int32)), .unset] [(.int (3 : Int32)), (.int ln)])) _
      exact k
    by_cases hc137 : ln < (3 : Int32)
    · skip
      have pre_138 : ∀ t, Steps p.tables e below (T134.setTop (mkF m 186 #[.val (.int p1), .val (.int p2), .val (.int p3), .val (.int p4), .val (.int p5), .val (.int p6), .val (.int (4 : Int32)), .val (.int ln), .val (.int b0), .val (.int b1), .val (.int b2), .val (.int b3), .val (.int b4), .val (.ref m122), .val (.int (0 : Int32)), .unset] [(.int ln), (.ref m122)])) t → Steps p.tables e below (s₁.setTop (entryFrame m #[(.int p1), (.int p2), (.int p3), (.int p4), (.int p5), (.int p6)] maxLocals)) t := by
        intro t k
        refine pre_136 t ?_
        show Steps p.tables e below (T134.setTop (mkF m 155 #[.val (.int p1), .val (.int p2), .val (.int p3), .val (.int p4), .val (.int p5), .val (.int p6), .val (.int (4 : Int32)), .val (.int ln), .val (.int b0), .val (.int b1), .val (.int b2), .val (.int b3), .val (.int b4), .val (.ref m122), .val (.int (0 : Int32)), .unset] [(.int (3 : Int32)), (.int ln)])) _
        refine XS.icmpYes X134.here hx rfl (pc0 := 155) (pc' := 182) rfl (hb hby at_155) rfl (XT.ii_lt_t hc137) (by decide) (by decide) ?_
        show Steps p.tables e below (T134.setTop (mkF m 182 #[.val (.int p1), .val (.int p2), .val (.int p3), .val (.int p4), .val (.int p5), .val (.int p6), .val (.int (4 : Int32)), .val (.int ln), .val (.int b0), .val (.int b1), .val (.int b2), .val (.int b3), .val (.int b4), .val (.ref m122), .val (.int (0 : Int32)), .unset] [])) _
        refine XS.aload X134.here hx rfl (hb hby at_182) rfl rfl ?_
        show Steps p.tables e below (T134.setTop (mkF m 184 #[.val (.int p1), .val (.int p2), .val (.int p3), .val (.int p4), .val (.int p5), .val (.int p6), .val (.int (4 : Int32)), .val (.int ln), .val (.int b0), .val (.int b1), .val (.int b2), .val (.int b3), .val (.int b4), .val (.ref m122), .val (.int (0 : Int32)), .unset] [(.ref m122)])) _
        refine XS.iload X134.here hx rfl (hb hby at_184) rfl ?_
        show Steps p.tables e below (T134.setTop (mkF m 186 #[.val (.int p1), .val (.int p2), .val (.int p3), .val (.int p4), .val (.int p5), .val (.int p6), .val (.int (4 : Int32)), .val (.int ln), .val (.int b0), .val (.int b1), .val (.int b2), .val (.int b3), .val (.int b4), .val (.ref m122), .val (.int (0 : Int32)), .unset] [(.int ln), (.ref m122)])) _
        exact k
      obtain ⟨_, _, ⟨T139, L139, k139, n139⟩, -, X139, ⟨Lc139, hQ139, l139, y139, z139⟩, st139⟩ := Jvm.LawKit.callS X134 hx (y := (⟨"com/example/tranche/tranche/TextFile", "textStart", "([BI)I"⟩ : MethodName)) hown (mvT hZ (hw _ (List.mem_of_getElem? (i := 6) rfl))) (mvT hZ (hw _ (List.mem_of_getElem? (i := 7) rfl))) (mvT hZ (hw _ (List.mem_of_getElem? (i := 8) rfl))) (mvT hZ (hw _ (List.mem_of_getElem? (i := 9) rfl))) (by decide) (backOf (W := 0) (rm_ts0 l Z a0 hw [] m122 ln aB kB h134 n0 O134 SB VB hc137) hZ (hw _ (List.mem_of_getElem? (i := 9) rfl)) (hw _ (List.mem_of_getElem? (i := 8) rfl)) (by decide) (by decide)) (g := (mkF m 186 #[.val (.int p1), .val (.int p2), .val (.int p3), .val (.int p4), .val (.int p5), .val (.int p6), .val (.int (4 : Int32)), .val (.int ln), .val (.int b0), .val (.int b1), .val (.int b2), .val (.int b3), .val (.int b4), .val (.ref m122), .val (.int (0 : Int32)), .unset] [(.int ln), (.ref m122)])) rfl (by rw [hml]; rfl) (argsL := [(.ref m122), (.int ln)]) (rest := []) (lenOf pd_law_1 rfl) rfl (by show 2 * 0 + _ ≤ _; exact Nat.le_of_eq rfl) (hb hby at_186) (fun _ _ => ⟨rfl, e134, (by decide : 1 + 0 ≤ _), (by decide : 4 + 0 ≤ _)⟩)
      dsimp only [Pt.U, Pt.locs, Pt.cells, Pt.slots] at X139 l139 y139 z139 st139 hQ139
      subst l139 y139 z139
      obtain ⟨rfl, N139q, e139⟩ := hQ139
      have N139 := Fr.app N134 N139q
      have pre_140 : ∀ t, Steps p.tables e below (T139.setTop (mkF m 189 #[.val (.int p1), .val (.int p2), .val (.int p3), .val (.int p4), .val (.int p5), .val (.int p6), .val (.int (4 : Int32)), .val (.int ln), .val (.int b0), .val (.int b1), .val (.int b2), .val (.int b3), .val (.int b4), .val (.ref m122), .val (.int (0 : Int32)), .unset] [(.int (0 : Int32))])) t → Steps p.tables e below (s₁.setTop (entryFrame m #[(.int p1), (.int p2), (.int p3), (.int p4), (.int p5), (.int p6)] maxLocals)) t := fun t k => pre_138 t (st139 t k)
      have pre_141 : ∀ t, Steps p.tables e below (T139.setTop (mkF m 203 #[.val (.int p1), .val (.int p2), .val (.int p3), .val (.int p4), .val (.int p5), .val (.int p6), .val (.int (4 : Int32)), .val (.int ln), .val (.int b0), .val (.int b1), .val (.int b2), .val (.int b3), .val (.int b4), .val (.ref m122), .val (.int (0 : Int32)), .val (.int (0 : Int32))] [(.int (1 : Int32))])) t → Steps p.tables e below (s₁.setTop (entryFrame m #[(.int p1), (.int p2), (.int p3), (.int p4), (.int p5), (.int p6)] maxLocals)) t := by
        intro t k
        refine pre_140 t ?_
        show Steps p.tables e below (T139.setTop (mkF m 189 #[.val (.int p1), .val (.int p2), .val (.int p3), .val (.int p4), .val (.int p5), .val (.int p6), .val (.int (4 : Int32)), .val (.int ln), .val (.int b0), .val (.int b1), .val (.int b2), .val (.int b3), .val (.int b4), .val (.ref m122), .val (.int (0 : Int32)), .unset] [(.int (0 : Int32))])) _
        refine XS.istore X139.here hx rfl (hb hby at_189) rfl (l' := #[.val (.int p1), .val (.int p2), .val (.int p3), .val (.int p4), .val (.int p5), .val (.int p6), .val (.int (4 : Int32)), .val (.int ln), .val (.int b0), .val (.int b1), .val (.int b2), .val (.int b3), .val (.int b4), .val (.ref m122), .val (.int (0 : Int32)), .val (.int (0 : Int32))]) rfl ?_
        show Steps p.tables e below (T139.setTop (mkF m 191 #[.val (.int p1), .val (.int p2), .val (.int p3), .val (.int p4), .val (.int p5), .val (.int p6), .val (.int (4 : Int32)), .val (.int ln), .val (.int b0), .val (.int b1), .val (.int b2), .val (.int b3), .val (.int b4), .val (.ref m122), .val (.int (0 : Int32)), .val (.int (0 : Int32))] [])) _
        refine XS.iload X139.here hx rfl (hb hby at_191) rfl ?_
        show Steps p.tables e below (T139.setTop (mkF m 193 #[.val (.int p1), .val (.int p2), .val (.int p3), .val (.int p4), .val (.int p5), .val (.int p6), .val (.int (4 : Int32)), .val (.int ln), .val (.int b0), .val (.int b1), .val (.int b2), .val (.int b3), .val (.int b4), .val (.ref m122), .val (.int (0 : Int32)), .val (.int (0 : Int32))] [(.int (0 : Int32))])) _
        refine XS.iload X139.here hx rfl (hb hby at_193) rfl ?_
        show Steps p.tables e below (T139.setTop (mkF m 195 #[.val (.int p1), .val (.int p2), .val (.int p3), .val (.int p4), .val (.int p5), .val (.int p6), .val (.int (4 : Int32)), .val (.int ln), .val (.int b0), .val (.int b1), .val (.int b2), .val (.int b3), .val (.int b4), .val (.ref m122), .val (.int (0 : Int32)), .val (.int (0 : Int32))] [(.int (0 : Int32)), (.int (0 : Int32))])) _
        refine XS.icmpNo X139.here hx rfl (hb hby at_195) rfl (XT.ii_ne_f (by decide)) ?_
        show Steps p.tables e below (T139.setTop (mkF m 198 #[.val (.int p1), .val (.int p2), .val (.int p3), .val (.int p4), .val (.int p5), .val (.int p6), .val (.int (4 : Int32)), .val (.int ln), .val (.int b0), .val (.int b1), .val (.int b2), .val (.int b3), .val (.int b4), .val (.ref m122), .val (.int (0 : Int32)), .val (.int (0 : Int32))] [])) _
        refine XS.iconst X139.here hx rfl (hb hby at_198) ?_
        show Steps p.tables e below (T139.setTop (mkF m 199 #[.val (.int p1), .val (.int p2), .val (.int p3), .val (.int p4), .val (.int p5), .val (.int p6), .val (.int (4 : Int32)), .val (.int ln), .val (.int b0), .val (.int b1), .val (.int b2), .val (.int b3), .val (.int b4), .val (.ref m122), .val (.int (0 : Int32)), .val (.int (0 : Int32))] [(.int (1 : Int32))])) _
        refine XS.goto X139.here hx rfl (pc0 := 199) (pc' := 203) rfl (hb hby at_199) (by decide) (by decide) ?_
        show Steps p.tables e below (T139.setTop (mkF m 203 #[.val (.int p1), .val (.int p2), .val (.int p3), .val (.int p4), .val (.int p5), .val (.int p6), .val (.int (4 : Int32)), .val (.int ln), .val (.int b0), .val (.int b1), .val (.int b2), .val (.int b3), .val (.int b4), .val (.ref m122), .val (.int (0 : Int32)), .val (.int (0 : Int32))] [(.int (1 : Int32))])) _
        exact k
      obtain ⟨fs, hr, hrun, hended, hW, hsame⟩ := X139.leave (v := some (.int (1 : Int32))) (fun h => by rw [Bd.returns] at h; cases h)
      refine ⟨_, _, pre_141 _ ?_, hrun, hended, _, _, rfl, ?_, ⟨_, rfl⟩, hW, hsame.mono (by decide) (by decide)⟩
      · show Steps p.tables e below (T139.setTop (mkF m 203 #[.val (.int p1), .val (.int p2), .val (.int p3), .val (.int p4), .val (.int p5), .val (.int p6), .val (.int (4 : Int32)), .val (.int ln), .val (.int b0), .val (.int b1), .val (.int b2), .val (.int b3), .val (.int b4), .val (.ref m122), .val (.int (0 : Int32)), .val (.int (0 : Int32))] [(.int (1 : Int32))])) _
        exact retN X139 hx (t := .boolean) Bd.returns (by simp) (hb hby at_203) hr
      · show Q_law Z p1 p2 p3 p4 p5 p6 aB kB h0 n0 _ T139.heap _
        rw [e139]
        exact ⟨rfl, N139⟩
    · skip
      have pre_142 : ∀ t, Steps p.tables e below (T134.setTop (mkF m 162 #[.val (.int p1), .val (.int p2), .val (.int p3), .val (.int p4), .val (.int p5), .val (.int p6), .val (.int (4 : Int32)), .val (.int ln), .val (.int b0), .val (.int b1), .val (.int b2), .val (.int b3), .val (.int b4), .val (.ref m122), .val (.int (0 : Int32)), .unset] [(.int (-17 : Int32)), (.int b0)])) t → Steps p.tables e below (s₁.setTop (entryFrame m #[(.int p1), (.int p2), (.int p3), (.int p4), (.int p5), (.int p6)] maxLocals)) t := by
        intro t k
        refine pre_136 t ?_
        show Steps p.tables e below (T134.setTop (mkF m 155 #[.val (.int p1), .val (.int p2), .val (.int p3), .val (.int p4), .val (.int p5), .val (.int p6), .val (.int (4 : Int32)), .val (.int ln), .val (.int b0), .val (.int b1), .val (.int b2), .val (.int b3), .val (.int b4), .val (.ref m122), .val (.int (0 : Int32)), .unset] [(.int (3 : Int32)), (.int ln)])) _
        refine XS.icmpNo X134.here hx rfl (hb hby at_155) rfl (XT.ii_lt_f hc137) ?_
        show Steps p.tables e below (T134.setTop (mkF m 158 #[.val (.int p1), .val (.int p2), .val (.int p3), .val (.int p4), .val (.int p5), .val (.int p6), .val (.int (4 : Int32)), .val (.int ln), .val (.int b0), .val (.int b1), .val (.int b2), .val (.int b3), .val (.int b4), .val (.ref m122), .val (.int (0 : Int32)), .unset] [])) _
        refine XS.iload X134.here hx rfl (hb hby at_158) rfl ?_
        show Steps p.tables e below (T134.setTop (mkF m 160 #[.val (.int p1), .val (.int p2), .val (.int p3), .val (.int p4), .val (.int p5), .val (.int p6), .val (.int (4 : Int32)), .val (.int ln), .val (.int b0), .val (.int b1), .val (.int b2), .val (.int b3), .val (.int b4), .val (.ref m122), .val (.int (0 : Int32)), .unset] [(.int b0)])) _
        refine XS.bipush X134.here hx rfl (hb hby at_160) ?_
        show Steps p.tables e below (T134.setTop (mkF m 162 #[.val (.int p1), .val (.int p2), .val (.int p3), .val (.int p4), .val (.int p5), .val (.int p6), .val (.int (4 : Int32)), .val (.int ln), .val (.int b0), .val (.int b1), .val (.int b2), .val (.int b3), .val (.int b4), .val (.ref m122), .val (.int (0 : Int32)), .unset] [(.int (-17 : Int32)), (.int b0)])) _
        exact k
      have pre_146 : ∀ t, Steps p.tables e below (T134.setTop (mkF m 182 #[.val (.int p1), .val (.int p2), .val (.int p3), .val (.int p4), .val (.int p5), .val (.int p6), .val (.int (4 : Int32)), .val (.int ln), .val (.int b0), .val (.int b1), .val (.int b2), .val (.int b3), .val (.int b4), .val (.ref m122), .val (.int (if b0 = (-17 : Int32) then (if b1 = (-69 : Int32) then (if b2 = (-65 : Int32) then (3 : Int32) else (0 : Int32)) else (0 : Int32)) else (0 : Int32))), .unset] [])) t → Steps p.tables e below (s₁.setTop (entryFrame m #[(.int p1), (.int p2), (.int p3), (.int p4), (.int p5), (.int p6)] maxLocals)) t := by
        intro t k
        refine pre_142 t ?_
        by_cases hm143 : b0 = (-17 : Int32)
        · skip
          show Steps p.tables e below (T134.setTop (mkF m 162 #[.val (.int p1), .val (.int p2), .val (.int p3), .val (.int p4), .val (.int p5), .val (.int p6), .val (.int (4 : Int32)), .val (.int ln), .val (.int b0), .val (.int b1), .val (.int b2), .val (.int b3), .val (.int b4), .val (.ref m122), .val (.int (0 : Int32)), .unset] [(.int (-17 : Int32)), (.int b0)])) _
          refine XS.icmpNo X134.here hx rfl (hb hby at_162) rfl (XT.ii_ne_f hm143) ?_
          show Steps p.tables e below (T134.setTop (mkF m 165 #[.val (.int p1), .val (.int p2), .val (.int p3), .val (.int p4), .val (.int p5), .val (.int p6), .val (.int (4 : Int32)), .val (.int ln), .val (.int b0), .val (.int b1), .val (.int b2), .val (.int b3), .val (.int b4), .val (.ref m122), .val (.int (0 : Int32)), .unset] [])) _
          refine XS.iload X134.here hx rfl (hb hby at_165) rfl ?_
          show Steps p.tables e below (T134.setTop (mkF m 167 #[.val (.int p1), .val (.int p2), .val (.int p3), .val (.int p4), .val (.int p5), .val (.int p6), .val (.int (4 : Int32)), .val (.int ln), .val (.int b0), .val (.int b1), .val (.int b2), .val (.int b3), .val (.int b4), .val (.ref m122), .val (.int (0 : Int32)), .unset] [(.int b1)])) _
          refine XS.bipush X134.here hx rfl (hb hby at_167) ?_
          show Steps p.tables e below (T134.setTop (mkF m 169 #[.val (.int p1), .val (.int p2), .val (.int p3), .val (.int p4), .val (.int p5), .val (.int p6), .val (.int (4 : Int32)), .val (.int ln), .val (.int b0), .val (.int b1), .val (.int b2), .val (.int b3), .val (.int b4), .val (.ref m122), .val (.int (0 : Int32)), .unset] [(.int (-69 : Int32)), (.int b1)])) _
          by_cases hm144 : b1 = (-69 : Int32)
          · skip
            show Steps p.tables e below (T134.setTop (mkF m 169 #[.val (.int p1), .val (.int p2), .val (.int p3), .val (.int p4), .val (.int p5), .val (.int p6), .val (.int (4 : Int32)), .val (.int ln), .val (.int b0), .val (.int b1), .val (.int b2), .val (.int b3), .val (.int b4), .val (.ref m122), .val (.int (0 : Int32)), .unset] [(.int (-69 : Int32)), (.int b1)])) _
            refine XS.icmpNo X134.here hx rfl (hb hby at_169) rfl (XT.ii_ne_f hm144) ?_
            show Steps p.tables e below (T134.setTop (mkF m 172 #[.val (.int p1), .val (.int p2), .val (.int p3), .val (.int p4), .val (.int p5), .val (.int p6), .val (.int (4 : Int32)), .val (.int ln), .val (.int b0), .val (.int b1), .val (.int b2), .val (.int b3), .val (.int b4), .val (.ref m122), .val (.int (0 : Int32)), .unset] [])) _
            refine XS.iload X134.here hx rfl (hb hby at_172) rfl ?_
            show Steps p.tables e below (T134.setTop (mkF m 174 #[.val (.int p1), .val (.int p2), .val (.int p3), .val (.int p4), .val (.int p5), .val (.int p6), .val (.int (4 : Int32)), .val (.int ln), .val (.int b0), .val (.int b1), .val (.int b2), .val (.int b3), .val (.int b4), .val (.ref m122), .val (.int (0 : Int32)), .unset] [(.int b2)])) _
            refine XS.bipush X134.here hx rfl (hb hby at_174) ?_
            show Steps p.tables e below (T134.setTop (mkF m 176 #[.val (.int p1), .val (.int p2), .val (.int p3), .val (.int p4), .val (.int p5), .val (.int p6), .val (.int (4 : Int32)), .val (.int ln), .val (.int b0), .val (.int b1), .val (.int b2), .val (.int b3), .val (.int b4), .val (.ref m122), .val (.int (0 : Int32)), .unset] [(.int (-65 : Int32)), (.int b2)])) _
            by_cases hm145 : b2 = (-65 : Int32)
            · skip
              show Steps p.tables e below (T134.setTop (mkF m 176 #[.val (.int p1), .val (.int p2), .val (.int p3), .val (.int p4), .val (.int p5), .val (.int p6), .val (.int (4 : Int32)), .val (.int ln), .val (.int b0), .val (.int b1), .val (.int b2), .val (.int b3), .val (.int b4), .val (.ref m122), .val (.int (0 : Int32)), .unset] [(.int (-65 : Int32)), (.int b2)])) _
              refine XS.icmpNo X134.here hx rfl (hb hby at_176) rfl (XT.ii_ne_f hm145) ?_
              show Steps p.tables e below (T134.setTop (mkF m 179 #[.val (.int p1), .val (.int p2), .val (.int p3), .val (.int p4), .val (.int p5), .val (.int p6), .val (.int (4 : Int32)), .val (.int ln), .val (.int b0), .val (.int b1), .val (.int b2), .val (.int b3), .val (.int b4), .val (.ref m122), .val (.int (0 : Int32)), .unset] [])) _
              refine XS.iconst X134.here hx rfl (hb hby at_179) ?_
              show Steps p.tables e below (T134.setTop (mkF m 180 #[.val (.int p1), .val (.int p2), .val (.int p3), .val (.int p4), .val (.int p5), .val (.int p6), .val (.int (4 : Int32)), .val (.int ln), .val (.int b0), .val (.int b1), .val (.int b2), .val (.int b3), .val (.int b4), .val (.ref m122), .val (.int (0 : Int32)), .unset] [(.int (3 : Int32))])) _
              refine XS.istore X134.here hx rfl (hb hby at_180) rfl (l' := #[.val (.int p1), .val (.int p2), .val (.int p3), .val (.int p4), .val (.int p5), .val (.int p6), .val (.int (4 : Int32)), .val (.int ln), .val (.int b0), .val (.int b1), .val (.int b2), .val (.int b3), .val (.int b4), .val (.ref m122), .val (.int (3 : Int32)), .unset]) rfl ?_
              show Steps p.tables e below (T134.setTop (mkF m 182 #[.val (.int p1), .val (.int p2), .val (.int p3), .val (.int p4), .val (.int p5), .val (.int p6), .val (.int (4 : Int32)), .val (.int ln), .val (.int b0), .val (.int b1), .val (.int b2), .val (.int b3), .val (.int b4), .val (.ref m122), .val (.int (3 : Int32)), .unset] [])) _
              first | exact k | (simp only [if_pos hm143, if_pos hm144, if_pos hm145] at k; exact k)
            · skip
              show Steps p.tables e below (T134.setTop (mkF m 176 #[.val (.int p1), .val (.int p2), .val (.int p3), .val (.int p4), .val (.int p5), .val (.int p6), .val (.int (4 : Int32)), .val (.int ln), .val (.int b0), .val (.int b1), .val (.int b2), .val (.int b3), .val (.int b4), .val (.ref m122), .val (.int (0 : Int32)), .unset] [(.int (-65 : Int32)), (.int b2)])) _
              refine XS.icmpYes X134.here hx rfl (pc0 := 176) (pc' := 182) rfl (hb hby at_176) rfl (XT.ii_ne_t hm145) (by decide) (by decide) ?_
              show Steps p.tables e below (T134.setTop (mkF m 182 #[.val (.int p1), .val (.int p2), .val (.int p3), .val (.int p4), .val (.int p5), .val (.int p6), .val (.int (4 : Int32)), .val (.int ln), .val (.int b0), .val (.int b1), .val (.int b2), .val (.int b3), .val (.int b4), .val (.ref m122), .val (.int (0 : Int32)), .unset] [])) _
              first | exact k | (simp only [if_pos hm143, if_pos hm144, if_neg hm145] at k; exact k)
          · skip
            show Steps p.tables e below (T134.setTop (mkF m 169 #[.val (.int p1), .val (.int p2), .val (.int p3), .val (.int p4), .val (.int p5), .val (.int p6), .val (.int (4 : Int32)), .val (.int ln), .val (.int b0), .val (.int b1), .val (.int b2), .val (.int b3), .val (.int b4), .val (.ref m122), .val (.int (0 : Int32)), .unset] [(.int (-69 : Int32)), (.int b1)])) _
            refine XS.icmpYes X134.here hx rfl (pc0 := 169) (pc' := 182) rfl (hb hby at_169) rfl (XT.ii_ne_t hm144) (by decide) (by decide) ?_
            show Steps p.tables e below (T134.setTop (mkF m 182 #[.val (.int p1), .val (.int p2), .val (.int p3), .val (.int p4), .val (.int p5), .val (.int p6), .val (.int (4 : Int32)), .val (.int ln), .val (.int b0), .val (.int b1), .val (.int b2), .val (.int b3), .val (.int b4), .val (.ref m122), .val (.int (0 : Int32)), .unset] [])) _
            first | exact k | (simp only [if_pos hm143, if_neg hm144] at k; exact k)
        · skip
          show Steps p.tables e below (T134.setTop (mkF m 162 #[.val (.int p1), .val (.int p2), .val (.int p3), .val (.int p4), .val (.int p5), .val (.int p6), .val (.int (4 : Int32)), .val (.int ln), .val (.int b0), .val (.int b1), .val (.int b2), .val (.int b3), .val (.int b4), .val (.ref m122), .val (.int (0 : Int32)), .unset] [(.int (-17 : Int32)), (.int b0)])) _
          refine XS.icmpYes X134.here hx rfl (pc0 := 162) (pc' := 182) rfl (hb hby at_162) rfl (XT.ii_ne_t hm143) (by decide) (by decide) ?_
          show Steps p.tables e below (T134.setTop (mkF m 182 #[.val (.int p1), .val (.int p2), .val (.int p3), .val (.int p4), .val (.int p5), .val (.int p6), .val (.int (4 : Int32)), .val (.int ln), .val (.int b0), .val (.int b1), .val (.int b2), .val (.int b3), .val (.int b4), .val (.ref m122), .val (.int (0 : Int32)), .unset] [])) _
          first | exact k | (simp only [if_neg hm143] at k; exact k)
      have pre_147 : ∀ t, Steps p.tables e below (T134.setTop (mkF m 186 #[.val (.int p1), .val (.int p2), .val (.int p3), .val (.int p4), .val (.int p5), .val (.int p6), .val (.int (4 : Int32)), .val (.int ln), .val (.int b0), .val (.int b1), .val (.int b2), .val (.int b3), .val (.int b4), .val (.ref m122), .val (.int (if b0 = (-17 : Int32) then (if b1 = (-69 : Int32) then (if b2 = (-65 : Int32) then (3 : Int32) else (0 : Int32)) else (0 : Int32)) else (0 : Int32))), .unset] [(.int ln), (.ref m122)])) t → Steps p.tables e below (s₁.setTop (entryFrame m #[(.int p1), (.int p2), (.int p3), (.int p4), (.int p5), (.int p6)] maxLocals)) t := by
        intro t k
        refine pre_146 t ?_
        show Steps p.tables e below (T134.setTop (mkF m 182 #[.val (.int p1), .val (.int p2), .val (.int p3), .val (.int p4), .val (.int p5), .val (.int p6), .val (.int (4 : Int32)), .val (.int ln), .val (.int b0), .val (.int b1), .val (.int b2), .val (.int b3), .val (.int b4), .val (.ref m122), .val (.int (if b0 = (-17 : Int32) then (if b1 = (-69 : Int32) then (if b2 = (-65 : Int32) then (3 : Int32) else (0 : Int32)) else (0 : Int32)) else (0 : Int32))), .unset] [])) _
        refine XS.aload X134.here hx rfl (hb hby at_182) rfl rfl ?_
        show Steps p.tables e below (T134.setTop (mkF m 184 #[.val (.int p1), .val (.int p2), .val (.int p3), .val (.int p4), .val (.int p5), .val (.int p6), .val (.int (4 : Int32)), .val (.int ln), .val (.int b0), .val (.int b1), .val (.int b2), .val (.int b3), .val (.int b4), .val (.ref m122), .val (.int (if b0 = (-17 : Int32) then (if b1 = (-69 : Int32) then (if b2 = (-65 : Int32) then (3 : Int32) else (0 : Int32)) else (0 : Int32)) else (0 : Int32))), .unset] [(.ref m122)])) _
        refine XS.iload X134.here hx rfl (hb hby at_184) rfl ?_
        show Steps p.tables e below (T134.setTop (mkF m 186 #[.val (.int p1), .val (.int p2), .val (.int p3), .val (.int p4), .val (.int p5), .val (.int p6), .val (.int (4 : Int32)), .val (.int ln), .val (.int b0), .val (.int b1), .val (.int b2), .val (.int b3), .val (.int b4), .val (.ref m122), .val (.int (if b0 = (-17 : Int32) then (if b1 = (-69 : Int32) then (if b2 = (-65 : Int32) then (3 : Int32) else (0 : Int32)) else (0 : Int32)) else (0 : Int32))), .unset] [(.int ln), (.ref m122)])) _
        exact k
      obtain ⟨_, _, ⟨T148, L148, k148, n148⟩, -, X148, ⟨Lc148, hQ148, l148, y148, z148⟩, st148⟩ := Jvm.LawKit.callS X134 hx (y := (⟨"com/example/tranche/tranche/TextFile", "textStart", "([BI)I"⟩ : MethodName)) hown (mvT hZ (hw _ (List.mem_of_getElem? (i := 6) rfl))) (mvT hZ (hw _ (List.mem_of_getElem? (i := 7) rfl))) (mvT hZ (hw _ (List.mem_of_getElem? (i := 8) rfl))) (mvT hZ (hw _ (List.mem_of_getElem? (i := 9) rfl))) (by decide) (backOf (W := 0) (rm_ts1 l Z a0 hw [] m122 ln aB cA122 (4 : Int32) b0 b1 b2 [(.int b3)] kB h134 n0 O134 SB VB (by decide) V134 hc137) hZ (hw _ (List.mem_of_getElem? (i := 9) rfl)) (hw _ (List.mem_of_getElem? (i := 8) rfl)) (by decide) (by decide)) (g := (mkF m 186 #[.val (.int p1), .val (.int p2), .val (.int p3), .val (.int p4), .val (.int p5), .val (.int p6), .val (.int (4 : Int32)), .val (.int ln), .val (.int b0), .val (.int b1), .val (.int b2), .val (.int b3), .val (.int b4), .val (.ref m122), .val (.int (if b0 = (-17 : Int32) then (if b1 = (-69 : Int32) then (if b2 = (-65 : Int32) then (3 : Int32) else (0 : Int32)) else (0 : Int32)) else (0 : Int32))), .unset] [(.int ln), (.ref m122)])) rfl (by rw [hml]; rfl) (argsL := [(.ref m122), (.int ln)]) (rest := []) (lenOf pd_law_1 rfl) rfl (by show 2 * 0 + _ ≤ _; exact Nat.le_of_eq rfl) (hb hby at_186) (fun _ _ => ⟨rfl, e134, (by decide : 1 + 0 ≤ _), (by decide : 4 + 0 ≤ _)⟩)
      dsimp only [Pt.U, Pt.locs, Pt.cells, Pt.slots] at X148 l148 y148 z148 st148 hQ148
      subst l148 y148 z148
      obtain ⟨rfl, N148q, e148⟩ := hQ148
      have N148 := Fr.app N134 N148q
      have pre_149 : ∀ t, Steps p.tables e below (T148.setTop (mkF m 189 #[.val (.int p1), .val (.int p2), .val (.int p3), .val (.int p4), .val (.int p5), .val (.int p6), .val (.int (4 : Int32)), .val (.int ln), .val (.int b0), .val (.int b1), .val (.int b2), .val (.int b3), .val (.int b4), .val (.ref m122), .val (.int (if b0 = (-17 : Int32) then (if b1 = (-69 : Int32) then (if b2 = (-65 : Int32) then (3 : Int32) else (0 : Int32)) else (0 : Int32)) else (0 : Int32))), .unset] [(.int (if b0 = (-17 : Int32) then (if b1 = (-69 : Int32) then (if b2 = (-65 : Int32) then (3 : Int32) else (0 : Int32)) else (0 : Int32)) else (0 : Int32)))])) t → Steps p.tables e below (s₁.setTop (entryFrame m #[(.int p1), (.int p2), (.int p3), (.int p4), (.int p5), (.int p6)] maxLocals)) t := fun t k => pre_147 t (st148 t k)
      have pre_150 : ∀ t, Steps p.tables e below (T148.setTop (mkF m 195 #[.val (.int p1), .val (.int p2), .val (.int p3), .val (.int p4), .val (.int p5), .val (.int p6), .val (.int (4 : Int32)), .val (.int ln), .val (.int b0), .val (.int b1), .val (.int b2), .val (.int b3), .val (.int b4), .val (.ref m122), .val (.int (if b0 = (-17 : Int32) then (if b1 = (-69 : Int32) then (if b2 = (-65 : Int32) then (3 : Int32) else (0 : Int32)) else (0 : Int32)) else (0 : Int32))), .val (.int (if b0 = (-17 : Int32) then (if b1 = (-69 : Int32) then (if b2 = (-65 : Int32) then (3 : Int32) else (0 : Int32)) else (0 : Int32)) else (0 : Int32)))] [(.int (if b0 = (-17 : Int32) then (if b1 = (-69 : Int32) then (if b2 = (-65 : Int32) then (3 : Int32) else (0 : Int32)) else (0 : Int32)) else (0 : Int32))), (.int (if b0 = (-17 : Int32) then (if b1 = (-69 : Int32) then (if b2 = (-65 : Int32) then (3 : Int32) else (0 : Int32)) else (0 : Int32)) else (0 : Int32)))])) t → Steps p.tables e below (s₁.setTop (entryFrame m #[(.int p1), (.int p2), (.int p3), (.int p4), (.int p5), (.int p6)] maxLocals)) t := by
        intro t k
        refine pre_149 t ?_
        show Steps p.tables e below (T148.setTop (mkF m 189 #[.val (.int p1), .val (.int p2), .val (.int p3), .val (.int p4), .val (.int p5), .val (.int p6), .val (.int (4 : Int32)), .val (.int ln), .val (.int b0), .val (.int b1), .val (.int b2), .val (.int b3), .val (.int b4), .val (.ref m122), .val (.int (if b0 = (-17 : Int32) then (if b1 = (-69 : Int32) then (if b2 = (-65 : Int32) then (3 : Int32) else (0 : Int32)) else (0 : Int32)) else (0 : Int32))), .unset] [(.int (if b0 = (-17 : Int32) then (if b1 = (-69 : Int32) then (if b2 = (-65 : Int32) then (3 : Int32) else (0 : Int32)) else (0 : Int32)) else (0 : Int32)))])) _
        refine XS.istore X148.here hx rfl (hb hby at_189) rfl (l' := #[.val (.int p1), .val (.int p2), .val (.int p3), .val (.int p4), .val (.int p5), .val (.int p6), .val (.int (4 : Int32)), .val (.int ln), .val (.int b0), .val (.int b1), .val (.int b2), .val (.int b3), .val (.int b4), .val (.ref m122), .val (.int (if b0 = (-17 : Int32) then (if b1 = (-69 : Int32) then (if b2 = (-65 : Int32) then (3 : Int32) else (0 : Int32)) else (0 : Int32)) else (0 : Int32))), .val (.int (if b0 = (-17 : Int32) then (if b1 = (-69 : Int32) then (if b2 = (-65 : Int32) then (3 : Int32) else (0 : Int32)) else (0 : Int32)) else (0 : Int32)))]) rfl ?_
        show Steps p.tables e below (T148.setTop (mkF m 191 #[.val (.int p1), .val (.int p2), .val (.int p3), .val (.int p4), .val (.int p5), .val (.int p6), .val (.int (4 : Int32)), .val (.int ln), .val (.int b0), .val (.int b1), .val (.int b2), .val (.int b3), .val (.int b4), .val (.ref m122), .val (.int (if b0 = (-17 : Int32) then (if b1 = (-69 : Int32) then (if b2 = (-65 : Int32) then (3 : Int32) else (0 : Int32)) else (0 : Int32)) else (0 : Int32))), .val (.int (if b0 = (-17 : Int32) then (if b1 = (-69 : Int32) then (if b2 = (-65 : Int32) then (3 : Int32) else (0 : Int32)) else (0 : Int32)) else (0 : Int32)))] [])) _
        refine XS.iload X148.here hx rfl (hb hby at_191) rfl ?_
        show Steps p.tables e below (T148.setTop (mkF m 193 #[.val (.int p1), .val (.int p2), .val (.int p3), .val (.int p4), .val (.int p5), .val (.int p6), .val (.int (4 : Int32)), .val (.int ln), .val (.int b0), .val (.int b1), .val (.int b2), .val (.int b3), .val (.int b4), .val (.ref m122), .val (.int (if b0 = (-17 : Int32) then (if b1 = (-69 : Int32) then (if b2 = (-65 : Int32) then (3 : Int32) else (0 : Int32)) else (0 : Int32)) else (0 : Int32))), .val (.int (if b0 = (-17 : Int32) then (if b1 = (-69 : Int32) then (if b2 = (-65 : Int32) then (3 : Int32) else (0 : Int32)) else (0 : Int32)) else (0 : Int32)))] [(.int (if b0 = (-17 : Int32) then (if b1 = (-69 : Int32) then (if b2 = (-65 : Int32) then (3 : Int32) else (0 : Int32)) else (0 : Int32)) else (0 : Int32)))])) _
        refine XS.iload X148.here hx rfl (hb hby at_193) rfl ?_
        show Steps p.tables e below (T148.setTop (mkF m 195 #[.val (.int p1), .val (.int p2), .val (.int p3), .val (.int p4), .val (.int p5), .val (.int p6), .val (.int (4 : Int32)), .val (.int ln), .val (.int b0), .val (.int b1), .val (.int b2), .val (.int b3), .val (.int b4), .val (.ref m122), .val (.int (if b0 = (-17 : Int32) then (if b1 = (-69 : Int32) then (if b2 = (-65 : Int32) then (3 : Int32) else (0 : Int32)) else (0 : Int32)) else (0 : Int32))), .val (.int (if b0 = (-17 : Int32) then (if b1 = (-69 : Int32) then (if b2 = (-65 : Int32) then (3 : Int32) else (0 : Int32)) else (0 : Int32)) else (0 : Int32)))] [(.int (if b0 = (-17 : Int32) then (if b1 = (-69 : Int32) then (if b2 = (-65 : Int32) then (3 : Int32) else (0 : Int32)) else (0 : Int32)) else (0 : Int32))), (.int (if b0 = (-17 : Int32) then (if b1 = (-69 : Int32) then (if b2 = (-65 : Int32) then (3 : Int32) else (0 : Int32)) else (0 : Int32)) else (0 : Int32)))])) _
        exact k
      by_cases hc151 : b0 = (-17 : Int32)
      · skip
        by_cases hc152 : b1 = (-69 : Int32)
        · skip
          by_cases hc153 : b2 = (-65 : Int32)
          · skip
            have pre_154 : ∀ t, Steps p.tables e below (T148.setTop (mkF m 203 #[.val (.int p1), .val (.int p2), .val (.int p3), .val (.int p4), .val (.int p5), .val (.int p6), .val (.int (4 : Int32)), .val (.int ln), .val (.int b0), .val (.int b1), .val (.int b2), .val (.int b3), .val (.int b4), .val (.ref m122), .val (.int (if b0 = (-17 : Int32) then (if b1 = (-69 : Int32) then (if b2 = (-65 : Int32) then (3 : Int32) else (0 : Int32)) else (0 : Int32)) else (0 : Int32))), .val (.int (if b0 = (-17 : Int32) then (if b1 = (-69 : Int32) then (if b2 = (-65 : Int32) then (3 : Int32) else (0 : Int32)) else (0 : Int32)) else (0 : Int32)))] [(.int (1 : Int32))])) t → Steps p.tables e below (s₁.setTop (entryFrame m #[(.int p1), (.int p2), (.int p3), (.int p4), (.int p5), (.int p6)] maxLocals)) t := by
              intro t k
              refine pre_150 t ?_
              show Steps p.tables e below (T148.setTop (mkF m 195 #[.val (.int p1), .val (.int p2), .val (.int p3), .val (.int p4), .val (.int p5), .val (.int p6), .val (.int (4 : Int32)), .val (.int ln), .val (.int b0), .val (.int b1), .val (.int b2), .val (.int b3), .val (.int b4), .val (.ref m122), .val (.int (if b0 = (-17 : Int32) then (if b1 = (-69 : Int32) then (if b2 = (-65 : Int32) then (3 : Int32) else (0 : Int32)) else (0 : Int32)) else (0 : Int32))), .val (.int (if b0 = (-17 : Int32) then (if b1 = (-69 : Int32) then (if b2 = (-65 : Int32) then (3 : Int32) else (0 : Int32)) else (0 : Int32)) else (0 : Int32)))] [(.int (if b0 = (-17 : Int32) then (if b1 = (-69 : Int32) then (if b2 = (-65 : Int32) then (3 : Int32) else (0 : Int32)) else (0 : Int32)) else (0 : Int32))), (.int (if b0 = (-17 : Int32) then (if b1 = (-69 : Int32) then (if b2 = (-65 : Int32) then (3 : Int32) else (0 : Int32)) else (0 : Int32)) else (0 : Int32)))])) _
              refine XS.icmpNo X148.here hx rfl (hb hby at_195) rfl (XT.ii_ne_f (by simp only [if_pos hc151, if_pos hc152, if_pos hc153] <;> decide)) ?_
              show Steps p.tables e below (T148.setTop (mkF m 198 #[.val (.int p1), .val (.int p2), .val (.int p3), .val (.int p4), .val (.int p5), .val (.int p6), .val (.int (4 : Int32)), .val (.int ln), .val (.int b0), .val (.int b1), .val (.int b2), .val (.int b3), .val (.int b4), .val (.ref m122), .val (.int (if b0 = (-17 : Int32) then (if b1 = (-69 : Int32) then (if b2 = (-65 : Int32) then (3 : Int32) else (0 : Int32)) else (0 : Int32)) else (0 : Int32))), .val (.int (if b0 = (-17 : Int32) then (if b1 = (-69 : Int32) then (if b2 = (-65 : Int32) then (3 : Int32) else (0 : Int32)) else (0 : Int32)) else (0 : Int32)))] [])) _
              refine XS.iconst X148.here hx rfl (hb hby at_198) ?_
              show Steps p.tables e below (T148.setTop (mkF m 199 #[.val (.int p1), .val (.int p2), .val (.int p3), .val (.int p4), .val (.int p5), .val (.int p6), .val (.int (4 : Int32)), .val (.int ln), .val (.int b0), .val (.int b1), .val (.int b2), .val (.int b3), .val (.int b4), .val (.ref m122), .val (.int (if b0 = (-17 : Int32) then (if b1 = (-69 : Int32) then (if b2 = (-65 : Int32) then (3 : Int32) else (0 : Int32)) else (0 : Int32)) else (0 : Int32))), .val (.int (if b0 = (-17 : Int32) then (if b1 = (-69 : Int32) then (if b2 = (-65 : Int32) then (3 : Int32) else (0 : Int32)) else (0 : Int32)) else (0 : Int32)))] [(.int (1 : Int32))])) _
              refine XS.goto X148.here hx rfl (pc0 := 199) (pc' := 203) rfl (hb hby at_199) (by decide) (by decide) ?_
              show Steps p.tables e below (T148.setTop (mkF m 203 #[.val (.int p1), .val (.int p2), .val (.int p3), .val (.int p4), .val (.int p5), .val (.int p6), .val (.int (4 : Int32)), .val (.int ln), .val (.int b0), .val (.int b1), .val (.int b2), .val (.int b3), .val (.int b4), .val (.ref m122), .val (.int (if b0 = (-17 : Int32) then (if b1 = (-69 : Int32) then (if b2 = (-65 : Int32) then (3 : Int32) else (0 : Int32)) else (0 : Int32)) else (0 : Int32))), .val (.int (if b0 = (-17 : Int32) then (if b1 = (-69 : Int32) then (if b2 = (-65 : Int32) then (3 : Int32) else (0 : Int32)) else (0 : Int32)) else (0 : Int32)))] [(.int (1 : Int32))])) _
              exact k
            obtain ⟨fs, hr, hrun, hended, hW, hsame⟩ := X148.leave (v := some (.int (1 : Int32))) (fun h => by rw [Bd.returns] at h; cases h)
            refine ⟨_, _, pre_154 _ ?_, hrun, hended, _, _, rfl, ?_, ⟨_, rfl⟩, hW, hsame.mono (by decide) (by decide)⟩
            · show Steps p.tables e below (T148.setTop (mkF m 203 #[.val (.int p1), .val (.int p2), .val (.int p3), .val (.int p4), .val (.int p5), .val (.int p6), .val (.int (4 : Int32)), .val (.int ln), .val (.int b0), .val (.int b1), .val (.int b2), .val (.int b3), .val (.int b4), .val (.ref m122), .val (.int (if b0 = (-17 : Int32) then (if b1 = (-69 : Int32) then (if b2 = (-65 : Int32) then (3 : Int32) else (0 : Int32)) else (0 : Int32)) else (0 : Int32))), .val (.int (if b0 = (-17 : Int32) then (if b1 = (-69 : Int32) then (if b2 = (-65 : Int32) then (3 : Int32) else (0 : Int32)) else (0 : Int32)) else (0 : Int32)))] [(.int (1 : Int32))])) _
              exact retN X148 hx (t := .boolean) Bd.returns (by simp) (hb hby at_203) hr
            · show Q_law Z p1 p2 p3 p4 p5 p6 aB kB h0 n0 _ T148.heap _
              rw [e148]
              exact ⟨rfl, N148⟩
          · skip
            have pre_155 : ∀ t, Steps p.tables e below (T148.setTop (mkF m 203 #[.val (.int p1), .val (.int p2), .val (.int p3), .val (.int p4), .val (.int p5), .val (.int p6), .val (.int (4 : Int32)), .val (.int ln), .val (.int b0), .val (.int b1), .val (.int b2), .val (.int b3), .val (.int b4), .val (.ref m122), .val (.int (if b0 = (-17 : Int32) then (if b1 = (-69 : Int32) then (if b2 = (-65 : Int32) then (3 : Int32) else (0 : Int32)) else (0 : Int32)) else (0 : Int32))), .val (.int (if b0 = (-17 : Int32) then (if b1 = (-69 : Int32) then (if b2 = (-65 : Int32) then (3 : Int32) else (0 : Int32)) else (0 : Int32)) else (0 : Int32)))] [(.int (1 : Int32))])) t → Steps p.tables e below (s₁.setTop (entryFrame m #[(.int p1), (.int p2), (.int p3), (.int p4), (.int p5), (.int p6)] maxLocals)) t := by
              intro t k
              refine pre_150 t ?_
              show Steps p.tables e below (T148.setTop (mkF m 195 #[.val (.int p1), .val (.int p2), .val (.int p3), .val (.int p4), .val (.int p5), .val (.int p6), .val (.int (4 : Int32)), .val (.int ln), .val (.int b0), .val (.int b1), .val (.int b2), .val (.int b3), .val (.int b4), .val (.ref m122), .val (.int (if b0 = (-17 : Int32) then (if b1 = (-69 : Int32) then (if b2 = (-65 : Int32) then (3 : Int32) else (0 : Int32)) else (0 : Int32)) else (0 : Int32))), .val (.int (if b0 = (-17 : Int32) then (if b1 = (-69 : Int32) then (if b2 = (-65 : Int32) then (3 : Int32) else (0 : Int32)) else (0 : Int32)) else (0 : Int32)))] [(.int (if b0 = (-17 : Int32) then (if b1 = (-69 : Int32) then (if b2 = (-65 : Int32) then (3 : Int32) else (0 : Int32)) else (0 : Int32)) else (0 : Int32))), (.int (if b0 = (-17 : Int32) then (if b1 = (-69 : Int32) then (if b2 = (-65 : Int32) then (3 : Int32) else (0 : Int32)) else (0 : Int32)) else (0 : Int32)))])) _
              refine XS.icmpNo X148.here hx rfl (hb hby at_195) rfl (XT.ii_ne_f (by simp only [if_pos hc151, if_pos hc152, if_neg hc153] <;> decide)) ?_
              show Steps p.tables e below (T148.setTop (mkF m 198 #[.val (.int p1), .val (.int p2), .val (.int p3), .val (.int p4), .val (.int p5), .val (.int p6), .val (.int (4 : Int32)), .val (.int ln), .val (.int b0), .val (.int b1), .val (.int b2), .val (.int b3), .val (.int b4), .val (.ref m122), .val (.int (if b0 = (-17 : Int32) then (if b1 = (-69 : Int32) then (if b2 = (-65 : Int32) then (3 : Int32) else (0 : Int32)) else (0 : Int32)) else (0 : Int32))), .val (.int (if b0 = (-17 : Int32) then (if b1 = (-69 : Int32) then (if b2 = (-65 : Int32) then (3 : Int32) else (0 : Int32)) else (0 : Int32)) else (0 : Int32)))] [])) _
              refine XS.iconst X148.here hx rfl (hb hby at_198) ?_
              show Steps p.tables e below (T148.setTop (mkF m 199 #[.val (.int p1), .val (.int p2), .val (.int p3), .val (.int p4), .val (.int p5), .val (.int p6), .val (.int (4 : Int32)), .val (.int ln), .val (.int b0), .val (.int b1), .val (.int b2), .val (.int b3), .val (.int b4), .val (.ref m122), .val (.int (if b0 = (-17 : Int32) then (if b1 = (-69 : Int32) then (if b2 = (-65 : Int32) then (3 : Int32) else (0 : Int32)) else (0 : Int32)) else (0 : Int32))), .val (.int (if b0 = (-17 : Int32) then (if b1 = (-69 : Int32) then (if b2 = (-65 : Int32) then (3 : Int32) else (0 : Int32)) else (0 : Int32)) else (0 : Int32)))] [(.int (1 : Int32))])) _
              refine XS.goto X148.here hx rfl (pc0 := 199) (pc' := 203) rfl (hb hby at_199) (by decide) (by decide) ?_
              show Steps p.tables e below (T148.setTop (mkF m 203 #[.val (.int p1), .val (.int p2), .val (.int p3), .val (.int p4), .val (.int p5), .val (.int p6), .val (.int (4 : Int32)), .val (.int ln), .val (.int b0), .val (.int b1), .val (.int b2), .val (.int b3), .val (.int b4), .val (.ref m122), .val (.int (if b0 = (-17 : Int32) then (if b1 = (-69 : Int32) then (if b2 = (-65 : Int32) then (3 : Int32) else (0 : Int32)) else (0 : Int32)) else (0 : Int32))), .val (.int (if b0 = (-17 : Int32) then (if b1 = (-69 : Int32) then (if b2 = (-65 : Int32) then (3 : Int32) else (0 : Int32)) else (0 : Int32)) else (0 : Int32)))] [(.int (1 : Int32))])) _
              exact k
            obtain ⟨fs, hr, hrun, hended, hW, hsame⟩ := X148.leave (v := some (.int (1 : Int32))) (fun h => by rw [Bd.returns] at h; cases h)
            refine ⟨_, _, pre_155 _ ?_, hrun, hended, _, _, rfl, ?_, ⟨_, rfl⟩, hW, hsame.mono (by decide) (by decide)⟩
            · show Steps p.tables e below (T148.setTop (mkF m 203 #[.val (.int p1), .val (.int p2), .val (.int p3), .val (.int p4), .val (.int p5), .val (.int p6), .val (.int (4 : Int32)), .val (.int ln), .val (.int b0), .val (.int b1), .val (.int b2), .val (.int b3), .val (.int b4), .val (.ref m122), .val (.int (if b0 = (-17 : Int32) then (if b1 = (-69 : Int32) then (if b2 = (-65 : Int32) then (3 : Int32) else (0 : Int32)) else (0 : Int32)) else (0 : Int32))), .val (.int (if b0 = (-17 : Int32) then (if b1 = (-69 : Int32) then (if b2 = (-65 : Int32) then (3 : Int32) else (0 : Int32)) else (0 : Int32)) else (0 : Int32)))] [(.int (1 : Int32))])) _
              exact retN X148 hx (t := .boolean) Bd.returns (by simp) (hb hby at_203) hr
            · show Q_law Z p1 p2 p3 p4 p5 p6 aB kB h0 n0 _ T148.heap _
              rw [e148]
              exact ⟨rfl, N148⟩
        · skip
          have pre_156 : ∀ t, Steps p.tables e below (T148.setTop (mkF m 203 #[.val (.int p1), .val (.int p2), .val (.int p3), .val (.int p4), .val (.int p5), .val (.int p6), .val (.int (4 : Int32)), .val (.int ln), .val (.int b0), .val (.int b1), .val (.int b2), .val (.int b3), .val (.int b4), .val (.ref m122), .val (.int (if b0 = (-17 : Int32) then (if b1 = (-69 : Int32) then (if b2 = (-65 : Int32) then (3 : Int32) else (0 : Int32)) else (0 : Int32)) else (0 : Int32))), .val (.int (if b0 = (-17 : Int32) then (if b1 = (-69 : Int32) then (if b2 = (-65 : Int32) then (3 : Int32) else (0 : Int32)) else (0 : Int32)) else (0 : Int32)))] [(.int (1 : Int32))])) t → Steps p.tables e below (s₁.setTop (entryFrame m #[(.int p1), (.int p2), (.int p3), (.int p4), (.int p5), (.int p6)] maxLocals)) t := by
            intro t k
            refine pre_150 t ?_
            show Steps p.tables e below (T148.setTop (mkF m 195 #[.val (.int p1), .val (.int p2), .val (.int p3), .val (.int p4), .val (.int p5), .val (.int p6), .val (.int (4 : Int32)), .val (.int ln), .val (.int b0), .val (.int b1), .val (.int b2), .val (.int b3), .val (.int b4), .val (.ref m122), .val (.int (if b0 = (-17 : Int32) then (if b1 = (-69 : Int32) then (if b2 = (-65 : Int32) then (3 : Int32) else (0 : Int32)) else (0 : Int32)) else (0 : Int32))), .val (.int (if b0 = (-17 : Int32) then (if b1 = (-69 : Int32) then (if b2 = (-65 : Int32) then (3 : Int32) else (0 : Int32)) else (0 : Int32)) else (0 : Int32)))] [(.int (if b0 = (-17 : Int32) then (if b1 = (-69 : Int32) then (if b2 = (-65 : Int32) then (3 : Int32) else (0 : Int32)) else (0 : Int32)) else (0 : Int32))), (.int (if b0 = (-17 : Int32) then (if b1 = (-69 : Int32) then (if b2 = (-65 : Int32) then (3 : Int32) else (0 : Int32)) else (0 : Int32)) else (0 : Int32)))])) _
            refine XS.icmpNo X148.here hx rfl (hb hby at_195) rfl (XT.ii_ne_f (by simp only [if_pos hc151, if_neg hc152] <;> decide)) ?_
            show Steps p.tables e below (T148.setTop (mkF m 198 #[.val (.int p1), .val (.int p2), .val (.int p3), .val (.int p4), .val (.int p5), .val (.int p6), .val (.int (4 : Int32)), .val (.int ln), .val (.int b0), .val (.int b1), .val (.int b2), .val (.int b3), .val (.int b4), .val (.ref m122), .val (.int (if b0 = (-17 : Int32) then (if b1 = (-69 : Int32) then (if b2 = (-65 : Int32) then (3 : Int32) else (0 : Int32)) else (0 : Int32)) else (0 : Int32))), .val (.int (if b0 = (-17 : Int32) then (if b1 = (-69 : Int32) then (if b2 = (-65 : Int32) then (3 : Int32) else (0 : Int32)) else (0 : Int32)) else (0 : Int32)))] [])) _
            refine XS.iconst X148.here hx rfl (hb hby at_198) ?_
            show Steps p.tables e below (T148.setTop (mkF m 199 #[.val (.int p1), .val (.int p2), .val (.int p3), .val (.int p4), .val (.int p5), .val (.int p6), .val (.int (4 : Int32)), .val (.int ln), .val (.int b0), .val (.int b1), .val (.int b2), .val (.int b3), .val (.int b4), .val (.ref m122), .val (.int (if b0 = (-17 : Int32) then (if b1 = (-69 : Int32) then (if b2 = (-65 : Int32) then (3 : Int32) else (0 : Int32)) else (0 : Int32)) else (0 : Int32))), .val (.int (if b0 = (-17 : Int32) then (if b1 = (-69 : Int32) then (if b2 = (-65 : Int32) then (3 : Int32) else (0 : Int32)) else (0 : Int32)) else (0 : Int32)))] [(.int (1 : Int32))])) _
            refine XS.goto X148.here hx rfl (pc0 := 199) (pc' := 203) rfl (hb hby at_199) (by decide) (by decide) ?_
            show Steps p.tables e below (T148.setTop (mkF m 203 #[.val (.int p1), .val (.int p2), .val (.int p3), .val (.int p4), .val (.int p5), .val (.int p6), .val (.int (4 : Int32)), .val (.int ln), .val (.int b0), .val (.int b1), .val (.int b2), .val (.int b3), .val (.int b4), .val (.ref m122), .val (.int (if b0 = (-17 : Int32) then (if b1 = (-69 : Int32) then (if b2 = (-65 : Int32) then (3 : Int32) else (0 : Int32)) else (0 : Int32)) else (0 : Int32))), .val (.int (if b0 = (-17 : Int32) then (if b1 = (-69 : Int32) then (if b2 = (-65 : Int32) then (3 : Int32) else (0 : Int32)) else (0 : Int32)) else (0 : Int32)))] [(.int (1 : Int32))])) _
            exact k
          obtain ⟨fs, hr, hrun, hended, hW, hsame⟩ := X148.leave (v := some (.int (1 : Int32))) (fun h => by rw [Bd.returns] at h; cases h)
          refine ⟨_, _, pre_156 _ ?_, hrun, hended, _, _, rfl, ?_, ⟨_, rfl⟩, hW, hsame.mono (by decide) (by decide)⟩
          · show Steps p.tables e below (T148.setTop (mkF m 203 #[.val (.int p1), .val (.int p2), .val (.int p3), .val (.int p4), .val (.int p5), .val (.int p6), .val (.int (4 : Int32)), .val (.int ln), .val (.int b0), .val (.int b1), .val (.int b2), .val (.int b3), .val (.int b4), .val (.ref m122), .val (.int (if b0 = (-17 : Int32) then (if b1 = (-69 : Int32) then (if b2 = (-65 : Int32) then (3 : Int32) else (0 : Int32)) else (0 : Int32)) else (0 : Int32))), .val (.int (if b0 = (-17 : Int32) then (if b1 = (-69 : Int32) then (if b2 = (-65 : Int32) then (3 : Int32) else (0 : Int32)) else (0 : Int32)) else (0 : Int32)))] [(.int (1 : Int32))])) _
            exact retN X148 hx (t := .boolean) Bd.returns (by simp) (hb hby at_203) hr
          · show Q_law Z p1 p2 p3 p4 p5 p6 aB kB h0 n0 _ T148.heap _
            rw [e148]
            exact ⟨rfl, N148⟩
      · skip
        have pre_157 : ∀ t, Steps p.tables e below (T148.setTop (mkF m 203 #[.val (.int p1), .val (.int p2), .val (.int p3), .val (.int p4), .val (.int p5), .val (.int p6), .val (.int (4 : Int32)), .val (.int ln), .val (.int b0), .val (.int b1), .val (.int b2), .val (.int b3), .val (.int b4), .val (.ref m122), .val (.int (if b0 = (-17 : Int32) then (if b1 = (-69 : Int32) then (if b2 = (-65 : Int32) then (3 : Int32) else (0 : Int32)) else (0 : Int32)) else (0 : Int32))), .val (.int (if b0 = (-17 : Int32) then (if b1 = (-69 : Int32) then (if b2 = (-65 : Int32) then (3 : Int32) else (0 : Int32)) else (0 : Int32)) else (0 : Int32)))] [(.int (1 : Int32))])) t → Steps p.tables e below (s₁.setTop (entryFrame m #[(.int p1), (.int p2), (.int p3), (.int p4), (.int p5), (.int p6)] maxLocals)) t := by
          intro t k
          refine pre_150 t ?_
          show Steps p.tables e below (T148.setTop (mkF m 195 #[.val (.int p1), .val (.int p2), .val (.int p3), .val (.int p4), .val (.int p5), .val (.int p6), .val (.int (4 : Int32)), .val (.int ln), .val (.int b0), .val (.int b1), .val (.int b2), .val (.int b3), .val (.int b4), .val (.ref m122), .val (.int (if b0 = (-17 : Int32) then (if b1 = (-69 : Int32) then (if b2 = (-65 : Int32) then (3 : Int32) else (0 : Int32)) else (0 : Int32)) else (0 : Int32))), .val (.int (if b0 = (-17 : Int32) then (if b1 = (-69 : Int32) then (if b2 = (-65 : Int32) then (3 : Int32) else (0 : Int32)) else (0 : Int32)) else (0 : Int32)))] [(.int (if b0 = (-17 : Int32) then (if b1 = (-69 : Int32) then (if b2 = (-65 : Int32) then (3 : Int32) else (0 : Int32)) else (0 : Int32)) else (0 : Int32))), (.int (if b0 = (-17 : Int32) then (if b1 = (-69 : Int32) then (if b2 = (-65 : Int32) then (3 : Int32) else (0 : Int32)) else (0 : Int32)) else (0 : Int32)))])) _
          refine XS.icmpNo X148.here hx rfl (hb hby at_195) rfl (XT.ii_ne_f (by simp only [if_neg hc151] <;> decide)) ?_
          show Steps p.tables e below (T148.setTop (mkF m 198 #[.val (.int p1), .val (.int p2), .val (.int p3), .val (.int p4), .val (.int p5), .val (.int p6), .val (.int (4 : Int32)), .val (.int ln), .val (.int b0), .val (.int b1), .val (.int b2), .val (.int b3), .val (.int b4), .val (.ref m122), .val (.int (if b0 = (-17 : Int32) then (if b1 = (-69 : Int32) then (if b2 = (-65 : Int32) then (3 : Int32) else (0 : Int32)) else (0 : Int32)) else (0 : Int32))), .val (.int (if b0 = (-17 : Int32) then (if b1 = (-69 : Int32) then (if b2 = (-65 : Int32) then (3 : Int32) else (0 : Int32)) else (0 : Int32)) else (0 : Int32)))] [])) _
          refine XS.iconst X148.here hx rfl (hb hby at_198) ?_
          show Steps p.tables e below (T148.setTop (mkF m 199 #[.val (.int p1), .val (.int p2), .val (.int p3), .val (.int p4), .val (.int p5), .val (.int p6), .val (.int (4 : Int32)), .val (.int ln), .val (.int b0), .val (.int b1), .val (.int b2), .val (.int b3), .val (.int b4), .val (.ref m122), .val (.int (if b0 = (-17 : Int32) then (if b1 = (-69 : Int32) then (if b2 = (-65 : Int32) then (3 : Int32) else (0 : Int32)) else (0 : Int32)) else (0 : Int32))), .val (.int (if b0 = (-17 : Int32) then (if b1 = (-69 : Int32) then (if b2 = (-65 : Int32) then (3 : Int32) else (0 : Int32)) else (0 : Int32)) else (0 : Int32)))] [(.int (1 : Int32))])) _
          refine XS.goto X148.here hx rfl (pc0 := 199) (pc' := 203) rfl (hb hby at_199) (by decide) (by decide) ?_
          show Steps p.tables e below (T148.setTop (mkF m 203 #[.val (.int p1), .val (.int p2), .val (.int p3), .val (.int p4), .val (.int p5), .val (.int p6), .val (.int (4 : Int32)), .val (.int ln), .val (.int b0), .val (.int b1), .val (.int b2), .val (.int b3), .val (.int b4), .val (.ref m122), .val (.int (if b0 = (-17 : Int32) then (if b1 = (-69 : Int32) then (if b2 = (-65 : Int32) then (3 : Int32) else (0 : Int32)) else (0 : Int32)) else (0 : Int32))), .val (.int (if b0 = (-17 : Int32) then (if b1 = (-69 : Int32) then (if b2 = (-65 : Int32) then (3 : Int32) else (0 : Int32)) else (0 : Int32)) else (0 : Int32)))] [(.int (1 : Int32))])) _
          exact k
        obtain ⟨fs, hr, hrun, hended, hW, hsame⟩ := X148.leave (v := some (.int (1 : Int32))) (fun h => by rw [Bd.returns] at h; cases h)
        refine ⟨_, _, pre_157 _ ?_, hrun, hended, _, _, rfl, ?_, ⟨_, rfl⟩, hW, hsame.mono (by decide) (by decide)⟩
        · show Steps p.tables e below (T148.setTop (mkF m 203 #[.val (.int p1), .val (.int p2), .val (.int p3), .val (.int p4), .val (.int p5), .val (.int p6), .val (.int (4 : Int32)), .val (.int ln), .val (.int b0), .val (.int b1), .val (.int b2), .val (.int b3), .val (.int b4), .val (.ref m122), .val (.int (if b0 = (-17 : Int32) then (if b1 = (-69 : Int32) then (if b2 = (-65 : Int32) then (3 : Int32) else (0 : Int32)) else (0 : Int32)) else (0 : Int32))), .val (.int (if b0 = (-17 : Int32) then (if b1 = (-69 : Int32) then (if b2 = (-65 : Int32) then (3 : Int32) else (0 : Int32)) else (0 : Int32)) else (0 : Int32)))] [(.int (1 : Int32))])) _
          exact retN X148 hx (t := .boolean) Bd.returns (by simp) (hb hby at_203) hr
        · show Q_law Z p1 p2 p3 p4 p5 p6 aB kB h0 n0 _ T148.heap _
          rw [e148]
          exact ⟨rfl, N148⟩
  · skip
    rw [hs] at pre_1
    have pre_158 : ∀ t, Steps p.tables e below (s₁.setTop (mkF m 24 #[.val (.int p1), .val (.int p2), .val (.int p3), .val (.int p4), .val (.int p5), .val (.int p6), .val (.int (5 : Int32)), .val (.int (((XT.ushr p6 (3 : Int32)) &&& (2147483647 : Int32)) % (6 : Int32))), .unset, .unset, .unset, .unset, .unset, .unset, .unset, .unset] [])) t → Steps p.tables e below (s₁.setTop (entryFrame m #[(.int p1), (.int p2), (.int p3), (.int p4), (.int p5), (.int p6)] maxLocals)) t := by
      intro t k
      refine pre_1 t ?_
      show Steps p.tables e below (s₁.setTop (mkF m 10 #[.val (.int p1), .val (.int p2), .val (.int p3), .val (.int p4), .val (.int p5), .val (.int p6), .val (.int (5 : Int32)), .unset, .unset, .unset, .unset, .unset, .unset, .unset, .unset, .unset] [])) _
      refine XS.iload X0.here hx rfl (hb hby at_10) rfl ?_
      show Steps p.tables e below (s₁.setTop (mkF m 12 #[.val (.int p1), .val (.int p2), .val (.int p3), .val (.int p4), .val (.int p5), .val (.int p6), .val (.int (5 : Int32)), .unset, .unset, .unset, .unset, .unset, .unset, .unset, .unset, .unset] [(.int p6)])) _
      refine XS.iconst X0.here hx rfl (hb hby at_12) ?_
      show Steps p.tables e below (s₁.setTop (mkF m 13 #[.val (.int p1), .val (.int p2), .val (.int p3), .val (.int p4), .val (.int p5), .val (.int p6), .val (.int (5 : Int32)), .unset, .unset, .unset, .unset, .unset, .unset, .unset, .unset, .unset] [(.int (3 : Int32)), (.int p6)])) _
      refine XT.iushr X0.here hx rfl (hb hby at_13) rfl ?_
      show Steps p.tables e below (s₁.setTop (mkF m 14 #[.val (.int p1), .val (.int p2), .val (.int p3), .val (.int p4), .val (.int p5), .val (.int p6), .val (.int (5 : Int32)), .unset, .unset, .unset, .unset, .unset, .unset, .unset, .unset, .unset] [(.int (XT.ushr p6 (3 : Int32)))])) _
      refine X0.ldcInt hx hown (mvT hZ (hw _ (List.mem_of_getElem? (i := 0) rfl))) (g := (mkF m 14 #[.val (.int p1), .val (.int p2), .val (.int p3), .val (.int p4), .val (.int p5), .val (.int p6), .val (.int (5 : Int32)), .unset, .unset, .unset, .unset, .unset, .unset, .unset, .unset, .unset] [(.int (XT.ushr p6 (3 : Int32)))])) rfl (hb hby at_14) _ ?_
      show Steps p.tables e below (s₁.setTop (mkF m 16 #[.val (.int p1), .val (.int p2), .val (.int p3), .val (.int p4), .val (.int p5), .val (.int p6), .val (.int (5 : Int32)), .unset, .unset, .unset, .unset, .unset, .unset, .unset, .unset, .unset] [(.int (2147483647 : Int32)), (.int (XT.ushr p6 (3 : Int32)))])) _
      refine XS.iand X0.here hx rfl (hb hby at_16) rfl ?_
      show Steps p.tables e below (s₁.setTop (mkF m 17 #[.val (.int p1), .val (.int p2), .val (.int p3), .val (.int p4), .val (.int p5), .val (.int p6), .val (.int (5 : Int32)), .unset, .unset, .unset, .unset, .unset, .unset, .unset, .unset, .unset] [(.int ((XT.ushr p6 (3 : Int32)) &&& (2147483647 : Int32)))])) _
      refine XS.iload X0.here hx rfl (hb hby at_17) rfl ?_
      show Steps p.tables e below (s₁.setTop (mkF m 19 #[.val (.int p1), .val (.int p2), .val (.int p3), .val (.int p4), .val (.int p5), .val (.int p6), .val (.int (5 : Int32)), .unset, .unset, .unset, .unset, .unset, .unset, .unset, .unset, .unset] [(.int (5 : Int32)), (.int ((XT.ushr p6 (3 : Int32)) &&& (2147483647 : Int32)))])) _
      refine XS.iconst X0.here hx rfl (hb hby at_19) ?_
      show Steps p.tables e below (s₁.setTop (mkF m 20 #[.val (.int p1), .val (.int p2), .val (.int p3), .val (.int p4), .val (.int p5), .val (.int p6), .val (.int (5 : Int32)), .unset, .unset, .unset, .unset, .unset, .unset, .unset, .unset, .unset] [(.int (1 : Int32)), (.int (5 : Int32)), (.int ((XT.ushr p6 (3 : Int32)) &&& (2147483647 : Int32)))])) _
      refine XS.iadd X0.here hx rfl (hb hby at_20) rfl ?_
      show Steps p.tables e below (s₁.setTop (mkF m 21 #[.val (.int p1), .val (.int p2), .val (.int p3), .val (.int p4), .val (.int p5), .val (.int p6), .val (.int (5 : Int32)), .unset, .unset, .unset, .unset, .unset, .unset, .unset, .unset, .unset] [(.int (6 : Int32)), (.int ((XT.ushr p6 (3 : Int32)) &&& (2147483647 : Int32)))])) _
      refine iremM X0 hx rfl (hb hby at_21) rfl (by decide) ?_
      show Steps p.tables e below (s₁.setTop (mkF m 22 #[.val (.int p1), .val (.int p2), .val (.int p3), .val (.int p4), .val (.int p5), .val (.int p6), .val (.int (5 : Int32)), .unset, .unset, .unset, .unset, .unset, .unset, .unset, .unset, .unset] [(.int (((XT.ushr p6 (3 : Int32)) &&& (2147483647 : Int32)) % (6 : Int32)))])) _
      refine XS.istore X0.here hx rfl (hb hby at_22) rfl (l' := #[.val (.int p1), .val (.int p2), .val (.int p3), .val (.int p4), .val (.int p5), .val (.int p6), .val (.int (5 : Int32)), .val (.int (((XT.ushr p6 (3 : Int32)) &&& (2147483647 : Int32)) % (6 : Int32))), .unset, .unset, .unset, .unset, .unset, .unset, .unset, .unset]) rfl ?_
      show Steps p.tables e below (s₁.setTop (mkF m 24 #[.val (.int p1), .val (.int p2), .val (.int p3), .val (.int p4), .val (.int p5), .val (.int p6), .val (.int (5 : Int32)), .val (.int (((XT.ushr p6 (3 : Int32)) &&& (2147483647 : Int32)) % (6 : Int32))), .unset, .unset, .unset, .unset, .unset, .unset, .unset, .unset] [])) _
      exact k
    skip
    generalize (((XT.ushr p6 (3 : Int32)) &&& (2147483647 : Int32)) % (6 : Int32)) = ln at pre_158
    have pre_159 : ∀ t, Steps p.tables e below (s₁.setTop (mkF m 28 #[.val (.int p1), .val (.int p2), .val (.int p3), .val (.int p4), .val (.int p5), .val (.int p6), .val (.int (5 : Int32)), .val (.int ln), .unset, .unset, .unset, .unset, .unset, .unset, .unset, .unset] [(.int (p5 &&& (1 : Int32)))])) t → Steps p.tables e below (s₁.setTop (entryFrame m #[(.int p1), (.int p2), (.int p3), (.int p4), (.int p5), (.int p6)] maxLocals)) t := by
      intro t k
      refine pre_158 t ?_
      show Steps p.tables e below (s₁.setTop (mkF m 24 #[.val (.int p1), .val (.int p2), .val (.int p3), .val (.int p4), .val (.int p5), .val (.int p6), .val (.int (5 : Int32)), .val (.int ln), .unset, .unset, .unset, .unset, .unset, .unset, .unset, .unset] [])) _
      refine XS.iload X0.here hx rfl (hb hby at_24) rfl ?_
      show Steps p.tables e below (s₁.setTop (mkF m 26 #[.val (.int p1), .val (.int p2), .val (.int p3), .val (.int p4), .val (.int p5), .val (.int p6), .val (.int (5 : Int32)), .val (.int ln), .unset, .unset, .unset, .unset, .unset, .unset, .unset, .unset] [(.int p5)])) _
      refine XS.iconst X0.here hx rfl (hb hby at_26) ?_
      show Steps p.tables e below (s₁.setTop (mkF m 27 #[.val (.int p1), .val (.int p2), .val (.int p3), .val (.int p4), .val (.int p5), .val (.int p6), .val (.int (5 : Int32)), .val (.int ln), .unset, .unset, .unset, .unset, .unset, .unset, .unset, .unset] [(.int (1 : Int32)), (.int p5)])) _
      refine XS.iand X0.here hx rfl (hb hby at_27) rfl ?_
      show Steps p.tables e below (s₁.setTop (mkF m 28 #[.val (.int p1), .val (.int p2), .val (.int p3), .val (.int p4), .val (.int p5), .val (.int p6), .val (.int (5 : Int32)), .val (.int ln), .unset, .unset, .unset, .unset, .unset, .unset, .unset, .unset] [(.int (p5 &&& (1 : Int32)))])) _
      exact k
    have pre_161 : ∀ t, Steps p.tables e below (s₁.setTop (mkF m 38 #[.val (.int p1), .val (.int p2), .val (.int p3), .val (.int p4), .val (.int p5), .val (.int p6), .val (.int (5 : Int32)), .val (.int ln), .unset, .unset, .unset, .unset, .unset, .unset, .unset, .unset] [(.int (if (p5 &&& (1 : Int32)) = (0 : Int32) then ((p1).toInt8.toInt32) else (-17 : Int32)))])) t → Steps p.tables e below (s₁.setTop (entryFrame m #[(.int p1), (.int p2), (.int p3), (.int p4), (.int p5), (.int p6)] maxLocals)) t := by
      intro t k
      refine pre_159 t ?_
      by_cases hm160 : (p5 &&& (1 : Int32)) = (0 : Int32)
      · skip
        show Steps p.tables e below (s₁.setTop (mkF m 28 #[.val (.int p1), .val (.int p2), .val (.int p3), .val (.int p4), .val (.int p5), .val (.int p6), .val (.int (5 : Int32)), .val (.int ln), .unset, .unset, .unset, .unset, .unset, .unset, .unset, .unset] [(.int (p5 &&& (1 : Int32)))])) _
        refine XS.ifYes X0.here hx rfl (pc0 := 28) (pc' := 36) rfl (hb hby at_28) rfl (XT.i0_eq_t hm160) (by decide) (by decide) ?_
        show Steps p.tables e below (s₁.setTop (mkF m 36 #[.val (.int p1), .val (.int p2), .val (.int p3), .val (.int p4), .val (.int p5), .val (.int p6), .val (.int (5 : Int32)), .val (.int ln), .unset, .unset, .unset, .unset, .unset, .unset, .unset, .unset] [])) _
        refine XS.iloadN X0.here hx rfl (hb hby at_36) rfl ?_
        show Steps p.tables e below (s₁.setTop (mkF m 37 #[.val (.int p1), .val (.int p2), .val (.int p3), .val (.int p4), .val (.int p5), .val (.int p6), .val (.int (5 : Int32)), .val (.int ln), .unset, .unset, .unset, .unset, .unset, .unset, .unset, .unset] [(.int p1)])) _
        refine XT.i2b X0.here hx rfl (hb hby at_37) rfl ?_
        show Steps p.tables e below (s₁.setTop (mkF m 38 #[.val (.int p1), .val (.int p2), .val (.int p3), .val (.int p4), .val (.int p5), .val (.int p6), .val (.int (5 : Int32)), .val (.int ln), .unset, .unset, .unset, .unset, .unset, .unset, .unset, .unset] [(.int ((p1).toInt8.toInt32))])) _
        first | exact k | (simp only [if_pos hm160] at k; exact k)
      · skip
        show Steps p.tables e below (s₁.setTop (mkF m 28 #[.val (.int p1), .val (.int p2), .val (.int p3), .val (.int p4), .val (.int p5), .val (.int p6), .val (.int (5 : Int32)), .val (.int ln), .unset, .unset, .unset, .unset, .unset, .unset, .unset, .unset] [(.int (p5 &&& (1 : Int32)))])) _
        refine XS.ifNo X0.here hx rfl (hb hby at_28) rfl (XT.i0_eq_f hm160) ?_
        show Steps p.tables e below (s₁.setTop (mkF m 31 #[.val (.int p1), .val (.int p2), .val (.int p3), .val (.int p4), .val (.int p5), .val (.int p6), .val (.int (5 : Int32)), .val (.int ln), .unset, .unset, .unset, .unset, .unset, .unset, .unset, .unset] [])) _
        refine XS.bipush X0.here hx rfl (hb hby at_31) ?_
        show Steps p.tables e below (s₁.setTop (mkF m 33 #[.val (.int p1), .val (.int p2), .val (.int p3), .val (.int p4), .val (.int p5), .val (.int p6), .val (.int (5 : Int32)), .val (.int ln), .unset, .unset, .unset, .unset, .unset, .unset, .unset, .unset] [(.int (-17 : Int32))])) _
        refine XS.goto X0.here hx rfl (pc0 := 33) (pc' := 38) rfl (hb hby at_33) (by decide) (by decide) ?_
        show Steps p.tables e below (s₁.setTop (mkF m 38 #[.val (.int p1), .val (.int p2), .val (.int p3), .val (.int p4), .val (.int p5), .val (.int p6), .val (.int (5 : Int32)), .val (.int ln), .unset, .unset, .unset, .unset, .unset, .unset, .unset, .unset] [(.int (-17 : Int32))])) _
        first | exact k | (simp only [if_neg hm160] at k; exact k)
    have pre_162 : ∀ t, Steps p.tables e below (s₁.setTop (mkF m 44 #[.val (.int p1), .val (.int p2), .val (.int p3), .val (.int p4), .val (.int p5), .val (.int p6), .val (.int (5 : Int32)), .val (.int ln), .val (.int (if (p5 &&& (1 : Int32)) = (0 : Int32) then ((p1).toInt8.toInt32) else (-17 : Int32))), .unset, .unset, .unset, .unset, .unset, .unset, .unset] [(.int (p5 &&& (2 : Int32)))])) t → Steps p.tables e below (s₁.setTop (entryFrame m #[(.int p1), (.int p2), (.int p3), (.int p4), (.int p5), (.int p6)] maxLocals)) t := by
      intro t k
      refine pre_161 t ?_
      show Steps p.tables e below (s₁.setTop (mkF m 38 #[.val (.int p1), .val (.int p2), .val (.int p3), .val (.int p4), .val (.int p5), .val (.int p6), .val (.int (5 : Int32)), .val (.int ln), .unset, .unset, .unset, .unset, .unset, .unset, .unset, .unset] [(.int (if (p5 &&& (1 : Int32)) = (0 : Int32) then ((p1).toInt8.toInt32) else (-17 : Int32)))])) _
      refine XS.istore X0.here hx rfl (hb hby at_38) rfl (l' := #[.val (.int p1), .val (.int p2), .val (.int p3), .val (.int p4), .val (.int p5), .val (.int p6), .val (.int (5 : Int32)), .val (.int ln), .val (.int (if (p5 &&& (1 : Int32)) = (0 : Int32) then ((p1).toInt8.toInt32) else (-17 : Int32))), .unset, .unset, .unset, .unset, .unset, .unset, .unset]) rfl ?_
      show Steps p.tables e below (s₁.setTop (mkF m 40 #[.val (.int p1), .val (.int p2), .val (.int p3), .val (.int p4), .val (.int p5), .val (.int p6), .val (.int (5 : Int32)), .val (.int ln), .val (.int (if (p5 &&& (1 : Int32)) = (0 : Int32) then ((p1).toInt8.toInt32) else (-17 : Int32))), .unset, .unset, .unset, .unset, .unset, .unset, .unset] [])) _
      refine XS.iload X0.here hx rfl (hb hby at_40) rfl ?_
      show Steps p.tables e below (s₁.setTop (mkF m 42 #[.val (.int p1), .val (.int p2), .val (.int p3), .val (.int p4), .val (.int p5), .val (.int p6), .val (.int (5 : Int32)), .val (.int ln), .val (.int (if (p5 &&& (1 : Int32)) = (0 : Int32) then ((p1).toInt8.toInt32) else (-17 : Int32))), .unset, .unset, .unset, .unset, .unset, .unset, .unset] [(.int p5)])) _
      refine XS.iconst X0.here hx rfl (hb hby at_42) ?_
      show Steps p.tables e below (s₁.setTop (mkF m 43 #[.val (.int p1), .val (.int p2), .val (.int p3), .val (.int p4), .val (.int p5), .val (.int p6), .val (.int (5 : Int32)), .val (.int ln), .val (.int (if (p5 &&& (1 : Int32)) = (0 : Int32) then ((p1).toInt8.toInt32) else (-17 : Int32))), .unset, .unset, .unset, .unset, .unset, .unset, .unset] [(.int (2 : Int32)), (.int p5)])) _
      refine XS.iand X0.here hx rfl (hb hby at_43) rfl ?_
      show Steps p.tables e below (s₁.setTop (mkF m 44 #[.val (.int p1), .val (.int p2), .val (.int p3), .val (.int p4), .val (.int p5), .val (.int p6), .val (.int (5 : Int32)), .val (.int ln), .val (.int (if (p5 &&& (1 : Int32)) = (0 : Int32) then ((p1).toInt8.toInt32) else (-17 : Int32))), .unset, .unset, .unset, .unset, .unset, .unset, .unset] [(.int (p5 &&& (2 : Int32)))])) _
      exact k
    have pre_164 : ∀ t, Steps p.tables e below (s₁.setTop (mkF m 54 #[.val (.int p1), .val (.int p2), .val (.int p3), .val (.int p4), .val (.int p5), .val (.int p6), .val (.int (5 : Int32)), .val (.int ln), .val (.int (if (p5 &&& (1 : Int32)) = (0 : Int32) then ((p1).toInt8.toInt32) else (-17 : Int32))), .unset, .unset, .unset, .unset, .unset, .unset, .unset] [(.int (if (p5 &&& (2 : Int32)) = (0 : Int32) then ((p2).toInt8.toInt32) else (-69 : Int32)))])) t → Steps p.tables e below (s₁.setTop (entryFrame m #[(.int p1), (.int p2), (.int p3), (.int p4), (.int p5), (.int p6)] maxLocals)) t := by
      intro t k
      refine pre_162 t ?_
      by_cases hm163 : (p5 &&& (2 : Int32)) = (0 : Int32)
      · skip
        show Steps p.tables e below (s₁.setTop (mkF m 44 #[.val (.int p1), .val (.int p2), .val (.int p3), .val (.int p4), .val (.int p5), .val (.int p6), .val (.int (5 : Int32)), .val (.int ln), .val (.int (if (p5 &&& (1 : Int32)) = (0 : Int32) then ((p1).toInt8.toInt32) else (-17 : Int32))), .unset, .unset, .unset, .unset, .unset, .unset, .unset] [(.int (p5 &&& (2 : Int32)))])) _
        refine XS.ifYes X0.here hx rfl (pc0 := 44) (pc' := 52) rfl (hb hby at_44) rfl (XT.i0_eq_t hm163) (by decide) (by decide) ?_
        show Steps p.tables e below (s₁.setTop (mkF m 52 #[.val (.int p1), .val (.int p2), .val (.int p3), .val (.int p4), .val (.int p5), .val (.int p6), .val (.int (5 : Int32)), .val (.int ln), .val (.int (if (p5 &&& (1 : Int32)) = (0 : Int32) then ((p1).toInt8.toInt32) else (-17 : Int32))), .unset, .unset, .unset, .unset, .unset, .unset, .unset] [])) _
        refine XS.iloadN X0.here hx rfl (hb hby at_52) rfl ?_
        show Steps p.tables e below (s₁.setTop (mkF m 53 #[.val (.int p1), .val (.int p2), .val (.int p3), .val (.int p4), .val (.int p5), .val (.int p6), .val (.int (5 : Int32)), .val (.int ln), .val (.int (if (p5 &&& (1 : Int32)) = (0 : Int32) then ((p1).toInt8.toInt32) else (-17 : Int32))), .unset, .unset, .unset, .unset, .unset, .unset, .unset] [(.int p2)])) _
        refine XT.i2b X0.here hx rfl (hb hby at_53) rfl ?_
        show Steps p.tables e below (s₁.setTop (mkF m 54 #[.val (.int p1), .val (.int p2), .val (.int p3), .val (.int p4), .val (.int p5), .val (.int p6), .val (.int (5 : Int32)), .val (.int ln), .val (.int (if (p5 &&& (1 : Int32)) = (0 : Int32) then ((p1).toInt8.toInt32) else (-17 : Int32))), .unset, .unset, .unset, .unset, .unset, .unset, .unset] [(.int ((p2).toInt8.toInt32))])) _
        first | exact k | (simp only [if_pos hm163] at k; exact k)
      · skip
        show Steps p.tables e below (s₁.setTop (mkF m 44 #[.val (.int p1), .val (.int p2), .val (.int p3), .val (.int p4), .val (.int p5), .val (.int p6), .val (.int (5 : Int32)), .val (.int ln), .val (.int (if (p5 &&& (1 : Int32)) = (0 : Int32) then ((p1).toInt8.toInt32) else (-17 : Int32))), .unset, .unset, .unset, .unset, .unset, .unset, .unset] [(.int (p5 &&& (2 : Int32)))])) _
        refine XS.ifNo X0.here hx rfl (hb hby at_44) rfl (XT.i0_eq_f hm163) ?_
        show Steps p.tables e below (s₁.setTop (mkF m 47 #[.val (.int p1), .val (.int p2), .val (.int p3), .val (.int p4), .val (.int p5), .val (.int p6), .val (.int (5 : Int32)), .val (.int ln), .val (.int (if (p5 &&& (1 : Int32)) = (0 : Int32) then ((p1).toInt8.toInt32) else (-17 : Int32))), .unset, .unset, .unset, .unset, .unset, .unset, .unset] [])) _
        refine XS.bipush X0.here hx rfl (hb hby at_47) ?_
        show Steps p.tables e below (s₁.setTop (mkF m 49 #[.val (.int p1), .val (.int p2), .val (.int p3), .val (.int p4), .val (.int p5), .val (.int p6), .val (.int (5 : Int32)), .val (.int ln), .val (.int (if (p5 &&& (1 : Int32)) = (0 : Int32) then ((p1).toInt8.toInt32) else (-17 : Int32))), .unset, .unset, .unset, .unset, .unset, .unset, .unset] [(.int (-69 : Int32))])) _
        refine XS.goto X0.here hx rfl (pc0 := 49) (pc' := 54) rfl (hb hby at_49) (by decide) (by decide) ?_
        show Steps p.tables e below (s₁.setTop (mkF m 54 #[.val (.int p1), .val (.int p2), .val (.int p3), .val (.int p4), .val (.int p5), .val (.int p6), .val (.int (5 : Int32)), .val (.int ln), .val (.int (if (p5 &&& (1 : Int32)) = (0 : Int32) then ((p1).toInt8.toInt32) else (-17 : Int32))), .unset, .unset, .unset, .unset, .unset, .unset, .unset] [(.int (-69 : Int32))])) _
        first | exact k | (simp only [if_neg hm163] at k; exact k)
    have pre_165 : ∀ t, Steps p.tables e below (s₁.setTop (mkF m 60 #[.val (.int p1), .val (.int p2), .val (.int p3), .val (.int p4), .val (.int p5), .val (.int p6), .val (.int (5 : Int32)), .val (.int ln), .val (.int (if (p5 &&& (1 : Int32)) = (0 : Int32) then ((p1).toInt8.toInt32) else (-17 : Int32))), .val (.int (if (p5 &&& (2 : Int32)) = (0 : Int32) then ((p2).toInt8.toInt32) else (-69 : Int32))), .unset, .unset, .unset, .unset, .unset, .unset] [(.int (p5 &&& (4 : Int32)))])) t → Steps p.tables e below (s₁.setTop (entryFrame m #[(.int p1), (.int p2), (.int p3), (.int p4), (.int p5), (.int p6)] maxLocals)) t := by
      intro t k
      refine pre_164 t ?_
      show Steps p.tables e below (s₁.setTop (mkF m 54 #[.val (.int p1), .val (.int p2), .val (.int p3), .val (.int p4), .val (.int p5), .val (.int p6), .val (.int (5 : Int32)), .val (.int ln), .val (.int (if (p5 &&& (1 : Int32)) = (0 : Int32) then ((p1).toInt8.toInt32) else (-17 : Int32))), .unset, .unset, .unset, .unset, .unset, .unset, .unset] [(.int (if (p5 &&& (2 : Int32)) = (0 : Int32) then ((p2).toInt8.toInt32) else (-69 : Int32)))])) _
      refine XS.istore X0.here hx rfl (hb hby at_54) rfl (l' := #[.val (.int p1), .val (.int p2), .val (.int p3), .val (.int p4), .val (.int p5), .val (.int p6), .val (.int (5 : Int32)), .val (.int ln), .val (.int (if (p5 &&& (1 : Int32)) = (0 : Int32) then ((p1).toInt8.toInt32) else (-17 : Int32))), .val (.int (if (p5 &&& (2 : Int32)) = (0 : Int32) then ((p2).toInt8.toInt32) else (-69 : Int32))), .unset, .unset, .unset, .unset, .unset, .unset]) rfl ?_
      show Steps p.tables e below (s₁.setTop (mkF m 56 #[.val (.int p1), .val (.int p2), .val (.int p3), .val (.int p4), .val (.int p5), .val (.int p6), .val (.int (5 : Int32)), .val (.int ln), .val (.int (if (p5 &&& (1 : Int32)) = (0 : Int32) then ((p1).toInt8.toInt32) else (-17 : Int32))), .val (.int (if (p5 &&& (2 : Int32)) = (0 : Int32) then ((p2).toInt8.toInt32) else (-69 : Int32))), .unset, .unset, .unset, .unset, .unset, .unset] [])) _
      refine XS.iload X0.here hx rfl (hb hby at_56) rfl ?_
      show Steps p.tables e below (s₁.setTop (mkF m 58 #[.val (.int p1), .val (.int p2), .val (.int p3), .val (.int p4), .val (.int p5), .val (.int p6), .val (.int (5 : Int32)), .val (.int ln), .val (.int (if (p5 &&& (1 : Int32)) = (0 : Int32) then ((p1).toInt8.toInt32) else (-17 : Int32))), .val (.int (if (p5 &&& (2 : Int32)) = (0 : Int32) then ((p2).toInt8.toInt32) else (-69 : Int32))), .unset, .unset, .unset, .unset, .unset, .unset] [(.int p5)])) _
      refine XS.iconst X0.here hx rfl (hb hby at_58) ?_
      show Steps p.tables e below (s₁.setTop (mkF m 59 #[.val (.int p1), .val (.int p2), .val (.int p3), .val (.int p4), .val (.int p5), .val (.int p6), .val (.int (5 : Int32)), .val (.int ln), .val (.int (if (p5 &&& (1 : Int32)) = (0 : Int32) then ((p1).toInt8.toInt32) else (-17 : Int32))), .val (.int (if (p5 &&& (2 : Int32)) = (0 : Int32) then ((p2).toInt8.toInt32) else (-69 : Int32))), .unset, .unset, .unset, .unset, .unset, .unset] [(.int (4 : Int32)), (.int p5)])) _
      refine XS.iand X0.here hx rfl (hb hby at_59) rfl ?_
      show Steps p.tables e below (s₁.setTop (mkF m 60 #[.val (.int p1), .val (.int p2), .val (.int p3), .val (.int p4), .val (.int p5), .val (.int p6), .val (.int (5 : Int32)), .val (.int ln), .val (.int (if (p5 &&& (1 : Int32)) = (0 : Int32) then ((p1).toInt8.toInt32) else (-17 : Int32))), .val (.int (if (p5 &&& (2 : Int32)) = (0 : Int32) then ((p2).toInt8.toInt32) else (-69 : Int32))), .unset, .unset, .unset, .unset, .unset, .unset] [(.int (p5 &&& (4 : Int32)))])) _
      exact k
    have pre_167 : ∀ t, Steps p.tables e below (s₁.setTop (mkF m 70 #[.val (.int p1), .val (.int p2), .val (.int p3), .val (.int p4), .val (.int p5), .val (.int p6), .val (.int (5 : Int32)), .val (.int ln), .val (.int (if (p5 &&& (1 : Int32)) = (0 : Int32) then ((p1).toInt8.toInt32) else (-17 : Int32))), .val (.int (if (p5 &&& (2 : Int32)) = (0 : Int32) then ((p2).toInt8.toInt32) else (-69 : Int32))), .unset, .unset, .unset, .unset, .unset, .unset] [(.int (if (p5 &&& (4 : Int32)) = (0 : Int32) then ((p3).toInt8.toInt32) else (-65 : Int32)))])) t → Steps p.tables e below (s₁.setTop (entryFrame m #[(.int p1), (.int p2), (.int p3), (.int p4), (.int p5), (.int p6)] maxLocals)) t := by
      intro t k
      refine pre_165 t ?_
      by_cases hm166 : (p5 &&& (4 : Int32)) = (0 : Int32)
      · skip
        show Steps p.tables e below (s₁.setTop (mkF m 60 #[.val (.int p1), .val (.int p2), .val (.int p3), .val (.int p4), .val (.int p5), .val (.int p6), .val (.int (5 : Int32)), .val (.int ln), .val (.int (if (p5 &&& (1 : Int32)) = (0 : Int32) then ((p1).toInt8.toInt32) else (-17 : Int32))), .val (.int (if (p5 &&& (2 : Int32)) = (0 : Int32) then ((p2).toInt8.toInt32) else (-69 : Int32))), .unset, .unset, .unset, .unset, .unset, .unset] [(.int (p5 &&& (4 : Int32)))])) _
        refine XS.ifYes X0.here hx rfl (pc0 := 60) (pc' := 68) rfl (hb hby at_60) rfl (XT.i0_eq_t hm166) (by decide) (by decide) ?_
        show Steps p.tables e below (s₁.setTop (mkF m 68 #[.val (.int p1), .val (.int p2), .val (.int p3), .val (.int p4), .val (.int p5), .val (.int p6), .val (.int (5 : Int32)), .val (.int ln), .val (.int (if (p5 &&& (1 : Int32)) = (0 : Int32) then ((p1).toInt8.toInt32) else (-17 : Int32))), .val (.int (if (p5 &&& (2 : Int32)) = (0 : Int32) then ((p2).toInt8.toInt32) else (-69 : Int32))), .unset, .unset, .unset, .unset, .unset, .unset] [])) _
        refine XS.iloadN X0.here hx rfl (hb hby at_68) rfl ?_
        show Steps p.tables e below (s₁.setTop (mkF m 69 #[.val (.int p1), .val (.int p2), .val (.int p3), .val (.int p4), .val (.int p5), .val (.int p6), .val (.int (5 : Int32)), .val (.int ln), .val (.int (if (p5 &&& (1 : Int32)) = (0 : Int32) then ((p1).toInt8.toInt32) else (-17 : Int32))), .val (.int (if (p5 &&& (2 : Int32)) = (0 : Int32) then ((p2).toInt8.toInt32) else (-69 : Int32))), .unset, .unset, .unset, .unset, .unset, .unset] [(.int p3)])) _
        refine XT.i2b X0.here hx rfl (hb hby at_69) rfl ?_
        show Steps p.tables e below (s₁.setTop (mkF m 70 #[.val (.int p1), .val (.int p2), .val (.int p3), .val (.int p4), .val (.int p5), .val (.int p6), .val (.int (5 : Int32)), .val (.int ln), .val (.int (if (p5 &&& (1 : Int32)) = (0 : Int32) then ((p1).toInt8.toInt32) else (-17 : Int32))), .val (.int (if (p5 &&& (2 : Int32)) = (0 : Int32) then ((p2).toInt8.toInt32) else (-69 : Int32))), .unset, .unset, .unset, .unset, .unset, .unset] [(.int ((p3).toInt8.toInt32))])) _
        first | exact k | (simp only [if_pos hm166] at k; exact k)
      · skip
        show Steps p.tables e below (s₁.setTop (mkF m 60 #[.val (.int p1), .val (.int p2), .val (.int p3), .val (.int p4), .val (.int p5), .val (.int p6), .val (.int (5 : Int32)), .val (.int ln), .val (.int (if (p5 &&& (1 : Int32)) = (0 : Int32) then ((p1).toInt8.toInt32) else (-17 : Int32))), .val (.int (if (p5 &&& (2 : Int32)) = (0 : Int32) then ((p2).toInt8.toInt32) else (-69 : Int32))), .unset, .unset, .unset, .unset, .unset, .unset] [(.int (p5 &&& (4 : Int32)))])) _
        refine XS.ifNo X0.here hx rfl (hb hby at_60) rfl (XT.i0_eq_f hm166) ?_
        show Steps p.tables e below (s₁.setTop (mkF m 63 #[.val (.int p1), .val (.int p2), .val (.int p3), .val (.int p4), .val (.int p5), .val (.int p6), .val (.int (5 : Int32)), .val (.int ln), .val (.int (if (p5 &&& (1 : Int32)) = (0 : Int32) then ((p1).toInt8.toInt32) else (-17 : Int32))), .val (.int (if (p5 &&& (2 : Int32)) = (0 : Int32) then ((p2).toInt8.toInt32) else (-69 : Int32))), .unset, .unset, .unset, .unset, .unset, .unset] [])) _
        refine XS.bipush X0.here hx rfl (hb hby at_63) ?_
        show Steps p.tables e below (s₁.setTop (mkF m 65 #[.val (.int p1), .val (.int p2), .val (.int p3), .val (.int p4), .val (.int p5), .val (.int p6), .val (.int (5 : Int32)), .val (.int ln), .val (.int (if (p5 &&& (1 : Int32)) = (0 : Int32) then ((p1).toInt8.toInt32) else (-17 : Int32))), .val (.int (if (p5 &&& (2 : Int32)) = (0 : Int32) then ((p2).toInt8.toInt32) else (-69 : Int32))), .unset, .unset, .unset, .unset, .unset, .unset] [(.int (-65 : Int32))])) _
        refine XS.goto X0.here hx rfl (pc0 := 65) (pc' := 70) rfl (hb hby at_65) (by decide) (by decide) ?_
        show Steps p.tables e below (s₁.setTop (mkF m 70 #[.val (.int p1), .val (.int p2), .val (.int p3), .val (.int p4), .val (.int p5), .val (.int p6), .val (.int (5 : Int32)), .val (.int ln), .val (.int (if (p5 &&& (1 : Int32)) = (0 : Int32) then ((p1).toInt8.toInt32) else (-17 : Int32))), .val (.int (if (p5 &&& (2 : Int32)) = (0 : Int32) then ((p2).toInt8.toInt32) else (-69 : Int32))), .unset, .unset, .unset, .unset, .unset, .unset] [(.int (-65 : Int32))])) _
        first | exact k | (simp only [if_neg hm166] at k; exact k)
    have pre_168 : ∀ t, Steps p.tables e below (s₁.setTop (mkF m 83 #[.val (.int p1), .val (.int p2), .val (.int p3), .val (.int p4), .val (.int p5), .val (.int p6), .val (.int (5 : Int32)), .val (.int ln), .val (.int (if (p5 &&& (1 : Int32)) = (0 : Int32) then ((p1).toInt8.toInt32) else (-17 : Int32))), .val (.int (if (p5 &&& (2 : Int32)) = (0 : Int32) then ((p2).toInt8.toInt32) else (-69 : Int32))), .val (.int (if (p5 &&& (4 : Int32)) = (0 : Int32) then ((p3).toInt8.toInt32) else (-65 : Int32))), .val (.int ((p4).toInt8.toInt32)), .val (.int (((p4 >>> ((8 : Int32) &&& 31))).toInt8.toInt32)), .unset, .unset, .unset] [])) t → Steps p.tables e below (s₁.setTop (entryFrame m #[(.int p1), (.int p2), (.int p3), (.int p4), (.int p5), (.int p6)] maxLocals)) t := by
      intro t k
      refine pre_167 t ?_
      show Steps p.tables e below (s₁.setTop (mkF m 70 #[.val (.int p1), .val (.int p2), .val (.int p3), .val (.int p4), .val (.int p5), .val (.int p6), .val (.int (5 : Int32)), .val (.int ln), .val (.int (if (p5 &&& (1 : Int32)) = (0 : Int32) then ((p1).toInt8.toInt32) else (-17 : Int32))), .val (.int (if (p5 &&& (2 : Int32)) = (0 : Int32) then ((p2).toInt8.toInt32) else (-69 : Int32))), .unset, .unset, .unset, .unset, .unset, .unset] [(.int (if (p5 &&& (4 : Int32)) = (0 : Int32) then ((p3).toInt8.toInt32) else (-65 : Int32)))])) _
      refine XS.istore X0.here hx rfl (hb hby at_70) rfl (l' := #[.val (.int p1), .val (.int p2), .val (.int p3), .val (.int p4), .val (.int p5), .val (.int p6), .val (.int (5 : Int32)), .val (.int ln), .val (.int (if (p5 &&& (1 : Int32)) = (0 : Int32) then ((p1).toInt8.toInt32) else (-17 : Int32))), .val (.int (if (p5 &&& (2 : Int32)) = (0 : Int32) then ((p2).toInt8.toInt32) else (-69 : Int32))), .val (.int (if (p5 &&& (4 : Int32)) = (0 : Int32) then ((p3).toInt8.toInt32) else (-65 : Int32))), .unset, .unset, .unset, .unset, .unset]) rfl ?_
      show Steps p.tables e below (s₁.setTop (mkF m 72 #[.val (.int p1), .val (.int p2), .val (.int p3), .val (.int p4), .val (.int p5), .val (.int p6), .val (.int (5 : Int32)), .val (.int ln), .val (.int (if (p5 &&& (1 : Int32)) = (0 : Int32) then ((p1).toInt8.toInt32) else (-17 : Int32))), .val (.int (if (p5 &&& (2 : Int32)) = (0 : Int32) then ((p2).toInt8.toInt32) else (-69 : Int32))), .val (.int (if (p5 &&& (4 : Int32)) = (0 : Int32) then ((p3).toInt8.toInt32) else (-65 : Int32))), .unset, .unset, .unset, .unset, .unset] [])) _
      refine XS.iloadN X0.here hx rfl (hb hby at_72) rfl ?_
      show Steps p.tables e below (s₁.setTop (mkF m 73 #[.val (.int p1), .val (.int p2), .val (.int p3), .val (.int p4), .val (.int p5), .val (.int p6), .val (.int (5 : Int32)), .val (.int ln), .val (.int (if (p5 &&& (1 : Int32)) = (0 : Int32) then ((p1).toInt8.toInt32) else (-17 : Int32))), .val (.int (if (p5 &&& (2 : Int32)) = (0 : Int32) then ((p2).toInt8.toInt32) else (-69 : Int32))), .val (.int (if (p5 &&& (4 : Int32)) = (0 : Int32) then ((p3).toInt8.toInt32) else (-65 : Int32))), .unset, .unset, .unset, .unset, .unset] [(.int p4)])) _
      refine XT.i2b X0.here hx rfl (hb hby at_73) rfl ?_
      show Steps p.tables e below (s₁.setTop (mkF m 74 #[.val (.int p1), .val (.int p2), .val (.int p3), .val (.int p4), .val (.int p5), .val (.int p6), .val (.int (5 : Int32)), .val (.int ln), .val (.int (if (p5 &&& (1 : Int32)) = (0 : Int32) then ((p1).toInt8.toInt32) else (-17 : Int32))), .val (.int (if (p5 &&& (2 : Int32)) = (0 : Int32) then ((p2).toInt8.toInt32) else (-69 : Int32))), .val (.int (if (p5 &&& (4 : Int32)) = (0 : Int32) then ((p3).toInt8.toInt32) else (-65 : Int32))), .unset, .unset, .unset, .unset, .unset] [(.int ((p4).toInt8.toInt32))])) _
      refine XS.istore X0.here hx rfl (hb hby at_74) rfl (l' := #[.val (.int p1), .val (.int p2), .val (.int p3), .val (.int p4), .val (.int p5), .val (.int p6), .val (.int (5 : Int32)), .val (.int ln), .val (.int (if (p5 &&& (1 : Int32)) = (0 : Int32) then ((p1).toInt8.toInt32) else (-17 : Int32))), .val (.int (if (p5 &&& (2 : Int32)) = (0 : Int32) then ((p2).toInt8.toInt32) else (-69 : Int32))), .val (.int (if (p5 &&& (4 : Int32)) = (0 : Int32) then ((p3).toInt8.toInt32) else (-65 : Int32))), .val (.int ((p4).toInt8.toInt32)), .unset, .unset, .unset, .unset]) rfl ?_
      show Steps p.tables e below (s₁.setTop (mkF m 76 #[.val (.int p1), .val (.int p2), .val (.int p3), .val (.int p4), .val (.int p5), .val (.int p6), .val (.int (5 : Int32)), .val (.int ln), .val (.int (if (p5 &&& (1 : Int32)) = (0 : Int32) then ((p1).toInt8.toInt32) else (-17 : Int32))), .val (.int (if (p5 &&& (2 : Int32)) = (0 : Int32) then ((p2).toInt8.toInt32) else (-69 : Int32))), .val (.int (if (p5 &&& (4 : Int32)) = (0 : Int32) then ((p3).toInt8.toInt32) else (-65 : Int32))), .val (.int ((p4).toInt8.toInt32)), .unset, .unset, .unset, .unset] [])) _
      refine XS.iloadN X0.here hx rfl (hb hby at_76) rfl ?_
      show Steps p.tables e below (s₁.setTop (mkF m 77 #[.val (.int p1), .val (.int p2), .val (.int p3), .val (.int p4), .val (.int p5), .val (.int p6), .val (.int (5 : Int32)), .val (.int ln), .val (.int (if (p5 &&& (1 : Int32)) = (0 : Int32) then ((p1).toInt8.toInt32) else (-17 : Int32))), .val (.int (if (p5 &&& (2 : Int32)) = (0 : Int32) then ((p2).toInt8.toInt32) else (-69 : Int32))), .val (.int (if (p5 &&& (4 : Int32)) = (0 : Int32) then ((p3).toInt8.toInt32) else (-65 : Int32))), .val (.int ((p4).toInt8.toInt32)), .unset, .unset, .unset, .unset] [(.int p4)])) _
      refine XS.bipush X0.here hx rfl (hb hby at_77) ?_
      show Steps p.tables e below (s₁.setTop (mkF m 79 #[.val (.int p1), .val (.int p2), .val (.int p3), .val (.int p4), .val (.int p5), .val (.int p6), .val (.int (5 : Int32)), .val (.int ln), .val (.int (if (p5 &&& (1 : Int32)) = (0 : Int32) then ((p1).toInt8.toInt32) else (-17 : Int32))), .val (.int (if (p5 &&& (2 : Int32)) = (0 : Int32) then ((p2).toInt8.toInt32) else (-69 : Int32))), .val (.int (if (p5 &&& (4 : Int32)) = (0 : Int32) then ((p3).toInt8.toInt32) else (-65 : Int32))), .val (.int ((p4).toInt8.toInt32)), .unset, .unset, .unset, .unset] [(.int (8 : Int32)), (.int p4)])) _
      refine XT.ishr X0.here hx rfl (hb hby at_79) rfl ?_
      show Steps p.tables e below (s₁.setTop (mkF m 80 #[.val (.int p1), .val (.int p2), .val (.int p3), .val (.int p4), .val (.int p5), .val (.int p6), .val (.int (5 : Int32)), .val (.int ln), .val (.int (if (p5 &&& (1 : Int32)) = (0 : Int32) then ((p1).toInt8.toInt32) else (-17 : Int32))), .val (.int (if (p5 &&& (2 : Int32)) = (0 : Int32) then ((p2).toInt8.toInt32) else (-69 : Int32))), .val (.int (if (p5 &&& (4 : Int32)) = (0 : Int32) then ((p3).toInt8.toInt32) else (-65 : Int32))), .val (.int ((p4).toInt8.toInt32)), .unset, .unset, .unset, .unset] [(.int (p4 >>> ((8 : Int32) &&& 31)))])) _
      refine XT.i2b X0.here hx rfl (hb hby at_80) rfl ?_
      show Steps p.tables e below (s₁.setTop (mkF m 81 #[.val (.int p1), .val (.int p2), .val (.int p3), .val (.int p4), .val (.int p5), .val (.int p6), .val (.int (5 : Int32)), .val (.int ln), .val (.int (if (p5 &&& (1 : Int32)) = (0 : Int32) then ((p1).toInt8.toInt32) else (-17 : Int32))), .val (.int (if (p5 &&& (2 : Int32)) = (0 : Int32) then ((p2).toInt8.toInt32) else (-69 : Int32))), .val (.int (if (p5 &&& (4 : Int32)) = (0 : Int32) then ((p3).toInt8.toInt32) else (-65 : Int32))), .val (.int ((p4).toInt8.toInt32)), .unset, .unset, .unset, .unset] [(.int (((p4 >>> ((8 : Int32) &&& 31))).toInt8.toInt32))])) _
      refine XS.istore X0.here hx rfl (hb hby at_81) rfl (l' := #[.val (.int p1), .val (.int p2), .val (.int p3), .val (.int p4), .val (.int p5), .val (.int p6), .val (.int (5 : Int32)), .val (.int ln), .val (.int (if (p5 &&& (1 : Int32)) = (0 : Int32) then ((p1).toInt8.toInt32) else (-17 : Int32))), .val (.int (if (p5 &&& (2 : Int32)) = (0 : Int32) then ((p2).toInt8.toInt32) else (-69 : Int32))), .val (.int (if (p5 &&& (4 : Int32)) = (0 : Int32) then ((p3).toInt8.toInt32) else (-65 : Int32))), .val (.int ((p4).toInt8.toInt32)), .val (.int (((p4 >>> ((8 : Int32) &&& 31))).toInt8.toInt32)), .unset, .unset, .unset]) rfl ?_
      show Steps p.tables e below (s₁.setTop (mkF m 83 #[.val (.int p1), .val (.int p2), .val (.int p3), .val (.int p4), .val (.int p5), .val (.int p6), .val (.int (5 : Int32)), .val (.int ln), .val (.int (if (p5 &&& (1 : Int32)) = (0 : Int32) then ((p1).toInt8.toInt32) else (-17 : Int32))), .val (.int (if (p5 &&& (2 : Int32)) = (0 : Int32) then ((p2).toInt8.toInt32) else (-69 : Int32))), .val (.int (if (p5 &&& (4 : Int32)) = (0 : Int32) then ((p3).toInt8.toInt32) else (-65 : Int32))), .val (.int ((p4).toInt8.toInt32)), .val (.int (((p4 >>> ((8 : Int32) &&& 31))).toInt8.toInt32)), .unset, .unset, .unset] [])) _
      exact k
    have hb0 : nar .byte (if (p5 &&& (1 : Int32)) = (0 : Int32) then ((p1).toInt8.toInt32) else (-17 : Int32)) = (if (p5 &&& (1 : Int32)) = (0 : Int32) then ((p1).toInt8.toInt32) else (-17 : Int32)) := by exact own_nbi _ _ _ (by decide)
    generalize (if (p5 &&& (1 : Int32)) = (0 : Int32) then ((p1).toInt8.toInt32) else (-17 : Int32)) = b0 at pre_168 hb0
    have hb1 : nar .byte (if (p5 &&& (2 : Int32)) = (0 : Int32) then ((p2).toInt8.toInt32) else (-69 : Int32)) = (if (p5 &&& (2 : Int32)) = (0 : Int32) then ((p2).toInt8.toInt32) else (-69 : Int32)) := by exact own_nbi _ _ _ (by decide)
    generalize (if (p5 &&& (2 : Int32)) = (0 : Int32) then ((p2).toInt8.toInt32) else (-69 : Int32)) = b1 at pre_168 hb1
    have hb2 : nar .byte (if (p5 &&& (4 : Int32)) = (0 : Int32) then ((p3).toInt8.toInt32) else (-65 : Int32)) = (if (p5 &&& (4 : Int32)) = (0 : Int32) then ((p3).toInt8.toInt32) else (-65 : Int32)) := by exact own_nbi _ _ _ (by decide)
    generalize (if (p5 &&& (4 : Int32)) = (0 : Int32) then ((p3).toInt8.toInt32) else (-65 : Int32)) = b2 at pre_168 hb2
    have hb3 : nar .byte ((p4).toInt8.toInt32) = ((p4).toInt8.toInt32) := by exact own_nb _
    generalize ((p4).toInt8.toInt32) = b3 at pre_168 hb3
    have hb4 : nar .byte (((p4 >>> ((8 : Int32) &&& 31))).toInt8.toInt32) = (((p4 >>> ((8 : Int32) &&& 31))).toInt8.toInt32) := by exact own_nb _
    generalize (((p4 >>> ((8 : Int32) &&& 31))).toInt8.toInt32) = b4 at pre_168 hb4
    have pre_169 : ∀ t, Steps p.tables e below (s₁.setTop (mkF m 85 #[.val (.int p1), .val (.int p2), .val (.int p3), .val (.int p4), .val (.int p5), .val (.int p6), .val (.int (5 : Int32)), .val (.int ln), .val (.int b0), .val (.int b1), .val (.int b2), .val (.int b3), .val (.int b4), .unset, .unset, .unset] [(.int (5 : Int32))])) t → Steps p.tables e below (s₁.setTop (entryFrame m #[(.int p1), (.int p2), (.int p3), (.int p4), (.int p5), (.int p6)] maxLocals)) t := by
      intro t k
      refine pre_168 t ?_
      show Steps p.tables e below (s₁.setTop (mkF m 83 #[.val (.int p1), .val (.int p2), .val (.int p3), .val (.int p4), .val (.int p5), .val (.int p6), .val (.int (5 : Int32)), .val (.int ln), .val (.int b0), .val (.int b1), .val (.int b2), .val (.int b3), .val (.int b4), .unset, .unset, .unset] [])) _
      refine XS.iload X0.here hx rfl (hb hby at_83) rfl ?_
      show Steps p.tables e below (s₁.setTop (mkF m 85 #[.val (.int p1), .val (.int p2), .val (.int p3), .val (.int p4), .val (.int p5), .val (.int p6), .val (.int (5 : Int32)), .val (.int ln), .val (.int b0), .val (.int b1), .val (.int b2), .val (.int b3), .val (.int b4), .unset, .unset, .unset] [(.int (5 : Int32))])) _
      exact k
    obtain ⟨_, _, ⟨T170, L170, k170, n170⟩, -, X170, ⟨Lc170, hQ170, l170, y170, z170⟩, st170⟩ := Jvm.LawKit.callS X0 hx (y := (⟨"com/example/tranche/tranche/TextFileTextStartPinLaw", "make", "(I)[B"⟩ : MethodName)) hown (mvT hZ (hw _ (List.mem_of_getElem? (i := 1) rfl))) (mvT hZ (hw _ (List.mem_of_getElem? (i := 2) rfl))) (mvT hZ (hw _ (List.mem_of_getElem? (i := 3) rfl))) (mvT hZ (hw _ (List.mem_of_getElem? (i := 4) rfl))) (by decide) (backOf (W := 0) (rm_make5 l Z a0 hw [] h0 n0 O0) hZ (hw _ (List.mem_of_getElem? (i := 4) rfl)) (hw _ (List.mem_of_getElem? (i := 3) rfl)) (by decide) (by decide)) (g := (mkF m 85 #[.val (.int p1), .val (.int p2), .val (.int p3), .val (.int p4), .val (.int p5), .val (.int p6), .val (.int (5 : Int32)), .val (.int ln), .val (.int b0), .val (.int b1), .val (.int b2), .val (.int b3), .val (.int b4), .unset, .unset, .unset] [(.int (5 : Int32))])) rfl (by rw [hml]; rfl) (argsL := [(.int (5 : Int32))]) (rest := []) (lenOf pd_law_0 rfl) rfl (by show 2 * 0 + _ ≤ _; exact Nat.le_of_eq rfl) (hb hby at_85) (fun _ _ => ⟨rfl, e0, (by decide : 0 + 1 ≤ _), (by decide : 0 + 5 ≤ _)⟩)
    dsimp only [Pt.U, Pt.locs, Pt.cells, Pt.slots] at X170 l170 y170 z170 st170 hQ170
    subst l170 y170 z170
    obtain ⟨m170, cA170, rfl, N170q, K170, gm170, Vm170⟩ := hQ170
    have N170 := Fr.app N0 N170q
    have O170 : Old Z n0 T170.heap := O0.keep K170 all0
    have pre_171 : ∀ t, Steps p.tables e below (T170.setTop (mkF m 88 #[.val (.int p1), .val (.int p2), .val (.int p3), .val (.int p4), .val (.int p5), .val (.int p6), .val (.int (5 : Int32)), .val (.int ln), .val (.int b0), .val (.int b1), .val (.int b2), .val (.int b3), .val (.int b4), .unset, .unset, .unset] [(.ref m170)])) t → Steps p.tables e below (s₁.setTop (entryFrame m #[(.int p1), (.int p2), (.int p3), (.int p4), (.int p5), (.int p6)] maxLocals)) t := fun t k => pre_169 t (st170 t k)
    have pre_172 : ∀ t, Steps p.tables e below (T170.setTop (mkF m 100 #[.val (.int p1), .val (.int p2), .val (.int p3), .val (.int p4), .val (.int p5), .val (.int p6), .val (.int (5 : Int32)), .val (.int ln), .val (.int b0), .val (.int b1), .val (.int b2), .val (.int b3), .val (.int b4), .val (.ref m170), .unset, .unset] [(.int b0), (.int (0 : Int32)), (.ref m170)])) t → Steps p.tables e below (s₁.setTop (entryFrame m #[(.int p1), (.int p2), (.int p3), (.int p4), (.int p5), (.int p6)] maxLocals)) t := by
      intro t k
      refine pre_171 t ?_
      show Steps p.tables e below (T170.setTop (mkF m 88 #[.val (.int p1), .val (.int p2), .val (.int p3), .val (.int p4), .val (.int p5), .val (.int p6), .val (.int (5 : Int32)), .val (.int ln), .val (.int b0), .val (.int b1), .val (.int b2), .val (.int b3), .val (.int b4), .unset, .unset, .unset] [(.ref m170)])) _
      refine XS.astore X170.here hx rfl (hb hby at_88) rfl rfl (l' := #[.val (.int p1), .val (.int p2), .val (.int p3), .val (.int p4), .val (.int p5), .val (.int p6), .val (.int (5 : Int32)), .val (.int ln), .val (.int b0), .val (.int b1), .val (.int b2), .val (.int b3), .val (.int b4), .val (.ref m170), .unset, .unset]) rfl ?_
      show Steps p.tables e below (T170.setTop (mkF m 90 #[.val (.int p1), .val (.int p2), .val (.int p3), .val (.int p4), .val (.int p5), .val (.int p6), .val (.int (5 : Int32)), .val (.int ln), .val (.int b0), .val (.int b1), .val (.int b2), .val (.int b3), .val (.int b4), .val (.ref m170), .unset, .unset] [])) _
      refine XS.iload X170.here hx rfl (hb hby at_90) rfl ?_
      show Steps p.tables e below (T170.setTop (mkF m 92 #[.val (.int p1), .val (.int p2), .val (.int p3), .val (.int p4), .val (.int p5), .val (.int p6), .val (.int (5 : Int32)), .val (.int ln), .val (.int b0), .val (.int b1), .val (.int b2), .val (.int b3), .val (.int b4), .val (.ref m170), .unset, .unset] [(.int (5 : Int32))])) _
      refine XS.ifNo X170.here hx rfl (hb hby at_92) rfl (XT.i0_le_f (by decide)) ?_
      show Steps p.tables e below (T170.setTop (mkF m 95 #[.val (.int p1), .val (.int p2), .val (.int p3), .val (.int p4), .val (.int p5), .val (.int p6), .val (.int (5 : Int32)), .val (.int ln), .val (.int b0), .val (.int b1), .val (.int b2), .val (.int b3), .val (.int b4), .val (.ref m170), .unset, .unset] [])) _
      refine XS.aload X170.here hx rfl (hb hby at_95) rfl rfl ?_
      show Steps p.tables e below (T170.setTop (mkF m 97 #[.val (.int p1), .val (.int p2), .val (.int p3), .val (.int p4), .val (.int p5), .val (.int p6), .val (.int (5 : Int32)), .val (.int ln), .val (.int b0), .val (.int b1), .val (.int b2), .val (.int b3), .val (.int b4), .val (.ref m170), .unset, .unset] [(.ref m170)])) _
      refine XS.iconst X170.here hx rfl (hb hby at_97) ?_
      show Steps p.tables e below (T170.setTop (mkF m 98 #[.val (.int p1), .val (.int p2), .val (.int p3), .val (.int p4), .val (.int p5), .val (.int p6), .val (.int (5 : Int32)), .val (.int ln), .val (.int b0), .val (.int b1), .val (.int b2), .val (.int b3), .val (.int b4), .val (.ref m170), .unset, .unset] [(.int (0 : Int32)), (.ref m170)])) _
      refine XS.iload X170.here hx rfl (hb hby at_98) rfl ?_
      show Steps p.tables e below (T170.setTop (mkF m 100 #[.val (.int p1), .val (.int p2), .val (.int p3), .val (.int p4), .val (.int p5), .val (.int p6), .val (.int (5 : Int32)), .val (.int ln), .val (.int b0), .val (.int b1), .val (.int b2), .val (.int b3), .val (.int b4), .val (.ref m170), .unset, .unset] [(.int b0), (.int (0 : Int32)), (.ref m170)])) _
      exact k
    obtain ⟨cl173, Ar173, q173, S173, M173, H173, G173⟩ := id Vm170
    obtain ⟨T173, h173, X173, e173, W173, st173⟩ := stB X170 hx hZ rfl Ar173 (j := (0 : Int32)) (inb_of S173 (by decide)) (g := (mkF m 100 #[.val (.int p1), .val (.int p2), .val (.int p3), .val (.int p4), .val (.int p5), .val (.int p6), .val (.int (5 : Int32)), .val (.int ln), .val (.int b0), .val (.int b1), .val (.int b2), .val (.int b3), .val (.int b4), .val (.ref m170), .unset, .unset] [(.int b0), (.int (0 : Int32)), (.ref m170)])) rfl rfl (hb hby at_100)
    have N173 := Fr.snoc X173 N170 gm170
    have O173 : Old Z n0 h173 := O170.wr W173 gm170
    rw [hb0] at W173
    have V173 : Arv Z h173 m170 cA170 .byte (5 : Int32) [(.int b0), (.int (0 : Int32)), (.int (0 : Int32)), (.int (0 : Int32)), (.int (0 : Int32))] (.int (0 : Int32)) := Arv.set Ar173 q173 S173 M173 H173 G173 (by rw [← hb0]; exact (fits_nar_byte _)) W173 0 rfl (Nat.le_of_ble_eq_true rfl)
    have pre_174 : ∀ t, Steps p.tables e below (T173.setTop (mkF m 101 #[.val (.int p1), .val (.int p2), .val (.int p3), .val (.int p4), .val (.int p5), .val (.int p6), .val (.int (5 : Int32)), .val (.int ln), .val (.int b0), .val (.int b1), .val (.int b2), .val (.int b3), .val (.int b4), .val (.ref m170), .unset, .unset] [])) t → Steps p.tables e below (s₁.setTop (entryFrame m #[(.int p1), (.int p2), (.int p3), (.int p4), (.int p5), (.int p6)] maxLocals)) t := fun t k => pre_172 t (st173 t k)
    have pre_175 : ∀ t, Steps p.tables e below (T173.setTop (mkF m 112 #[.val (.int p1), .val (.int p2), .val (.int p3), .val (.int p4), .val (.int p5), .val (.int p6), .val (.int (5 : Int32)), .val (.int ln), .val (.int b0), .val (.int b1), .val (.int b2), .val (.int b3), .val (.int b4), .val (.ref m170), .unset, .unset] [(.int b1), (.int (1 : Int32)), (.ref m170)])) t → Steps p.tables e below (s₁.setTop (entryFrame m #[(.int p1), (.int p2), (.int p3), (.int p4), (.int p5), (.int p6)] maxLocals)) t := by
      intro t k
      refine pre_174 t ?_
      show Steps p.tables e below (T173.setTop (mkF m 101 #[.val (.int p1), .val (.int p2), .val (.int p3), .val (.int p4), .val (.int p5), .val (.int p6), .val (.int (5 : Int32)), .val (.int ln), .val (.int b0), .val (.int b1), .val (.int b2), .val (.int b3), .val (.int b4), .val (.ref m170), .unset, .unset] [])) _
      refine XS.iload X173.here hx rfl (hb hby at_101) rfl ?_
      show Steps p.tables e below (T173.setTop (mkF m 103 #[.val (.int p1), .val (.int p2), .val (.int p3), .val (.int p4), .val (.int p5), .val (.int p6), .val (.int (5 : Int32)), .val (.int ln), .val (.int b0), .val (.int b1), .val (.int b2), .val (.int b3), .val (.int b4), .val (.ref m170), .unset, .unset] [(.int (5 : Int32))])) _
      refine XS.iconst X173.here hx rfl (hb hby at_103) ?_
      show Steps p.tables e below (T173.setTop (mkF m 104 #[.val (.int p1), .val (.int p2), .val (.int p3), .val (.int p4), .val (.int p5), .val (.int p6), .val (.int (5 : Int32)), .val (.int ln), .val (.int b0), .val (.int b1), .val (.int b2), .val (.int b3), .val (.int b4), .val (.ref m170), .unset, .unset] [(.int (1 : Int32)), (.int (5 : Int32))])) _
      refine XS.icmpNo X173.here hx rfl (hb hby at_104) rfl (XT.ii_le_f (by decide)) ?_
      show Steps p.tables e below (T173.setTop (mkF m 107 #[.val (.int p1), .val (.int p2), .val (.int p3), .val (.int p4), .val (.int p5), .val (.int p6), .val (.int (5 : Int32)), .val (.int ln), .val (.int b0), .val (.int b1), .val (.int b2), .val (.int b3), .val (.int b4), .val (.ref m170), .unset, .unset] [])) _
      refine XS.aload X173.here hx rfl (hb hby at_107) rfl rfl ?_
      show Steps p.tables e below (T173.setTop (mkF m 109 #[.val (.int p1), .val (.int p2), .val (.int p3), .val (.int p4), .val (.int p5), .val (.int p6), .val (.int (5 : Int32)), .val (.int ln), .val (.int b0), .val (.int b1), .val (.int b2), .val (.int b3), .val (.int b4), .val (.ref m170), .unset, .unset] [(.ref m170)])) _
      refine XS.iconst X173.here hx rfl (hb hby at_109) ?_
      show Steps p.tables e below (T173.setTop (mkF m 110 #[.val (.int p1), .val (.int p2), .val (.int p3), .val (.int p4), .val (.int p5), .val (.int p6), .val (.int (5 : Int32)), .val (.int ln), .val (.int b0), .val (.int b1), .val (.int b2), .val (.int b3), .val (.int b4), .val (.ref m170), .unset, .unset] [(.int (1 : Int32)), (.ref m170)])) _
      refine XS.iload X173.here hx rfl (hb hby at_110) rfl ?_
      show Steps p.tables e below (T173.setTop (mkF m 112 #[.val (.int p1), .val (.int p2), .val (.int p3), .val (.int p4), .val (.int p5), .val (.int p6), .val (.int (5 : Int32)), .val (.int ln), .val (.int b0), .val (.int b1), .val (.int b2), .val (.int b3), .val (.int b4), .val (.ref m170), .unset, .unset] [(.int b1), (.int (1 : Int32)), (.ref m170)])) _
      exact k
    obtain ⟨cl176, Ar176, q176, S176, M176, H176, G176⟩ := id V173
    obtain ⟨T176, h176, X176, e176, W176, st176⟩ := stB X173 hx hZ e173 Ar176 (j := (1 : Int32)) (inb_of S176 (by decide)) (g := (mkF m 112 #[.val (.int p1), .val (.int p2), .val (.int p3), .val (.int p4), .val (.int p5), .val (.int p6), .val (.int (5 : Int32)), .val (.int ln), .val (.int b0), .val (.int b1), .val (.int b2), .val (.int b3), .val (.int b4), .val (.ref m170), .unset, .unset] [(.int b1), (.int (1 : Int32)), (.ref m170)])) rfl rfl (hb hby at_112)
    have N176 := Fr.snoc X176 N173 gm170
    have O176 : Old Z n0 h176 := O173.wr W176 gm170
    rw [hb1] at W176
    have V176 : Arv Z h176 m170 cA170 .byte (5 : Int32) [(.int b0), (.int b1), (.int (0 : Int32)), (.int (0 : Int32)), (.int (0 : Int32))] (.int (0 : Int32)) := Arv.set Ar176 q176 S176 M176 H176 G176 (by rw [← hb1]; exact (fits_nar_byte _)) W176 1 rfl (Nat.le_of_ble_eq_true rfl)
    have pre_177 : ∀ t, Steps p.tables e below (T176.setTop (mkF m 113 #[.val (.int p1), .val (.int p2), .val (.int p3), .val (.int p4), .val (.int p5), .val (.int p6), .val (.int (5 : Int32)), .val (.int ln), .val (.int b0), .val (.int b1), .val (.int b2), .val (.int b3), .val (.int b4), .val (.ref m170), .unset, .unset] [])) t → Steps p.tables e below (s₁.setTop (entryFrame m #[(.int p1), (.int p2), (.int p3), (.int p4), (.int p5), (.int p6)] maxLocals)) t := fun t k => pre_175 t (st176 t k)
    have pre_178 : ∀ t, Steps p.tables e below (T176.setTop (mkF m 124 #[.val (.int p1), .val (.int p2), .val (.int p3), .val (.int p4), .val (.int p5), .val (.int p6), .val (.int (5 : Int32)), .val (.int ln), .val (.int b0), .val (.int b1), .val (.int b2), .val (.int b3), .val (.int b4), .val (.ref m170), .unset, .unset] [(.int b2), (.int (2 : Int32)), (.ref m170)])) t → Steps p.tables e below (s₁.setTop (entryFrame m #[(.int p1), (.int p2), (.int p3), (.int p4), (.int p5), (.int p6)] maxLocals)) t := by
      intro t k
      refine pre_177 t ?_
      show Steps p.tables e below (T176.setTop (mkF m 113 #[.val (.int p1), .val (.int p2), .val (.int p3), .val (.int p4), .val (.int p5), .val (.int p6), .val (.int (5 : Int32)), .val (.int ln), .val (.int b0), .val (.int b1), .val (.int b2), .val (.int b3), .val (.int b4), .val (.ref m170), .unset, .unset] [])) _
      refine XS.iload X176.here hx rfl (hb hby at_113) rfl ?_
      show Steps p.tables e below (T176.setTop (mkF m 115 #[.val (.int p1), .val (.int p2), .val (.int p3), .val (.int p4), .val (.int p5), .val (.int p6), .val (.int (5 : Int32)), .val (.int ln), .val (.int b0), .val (.int b1), .val (.int b2), .val (.int b3), .val (.int b4), .val (.ref m170), .unset, .unset] [(.int (5 : Int32))])) _
      refine XS.iconst X176.here hx rfl (hb hby at_115) ?_
      show Steps p.tables e below (T176.setTop (mkF m 116 #[.val (.int p1), .val (.int p2), .val (.int p3), .val (.int p4), .val (.int p5), .val (.int p6), .val (.int (5 : Int32)), .val (.int ln), .val (.int b0), .val (.int b1), .val (.int b2), .val (.int b3), .val (.int b4), .val (.ref m170), .unset, .unset] [(.int (2 : Int32)), (.int (5 : Int32))])) _
      refine XS.icmpNo X176.here hx rfl (hb hby at_116) rfl (XT.ii_le_f (by decide)) ?_
      show Steps p.tables e below (T176.setTop (mkF m 119 #[.val (.int p1), .val (.int p2), .val (.int p3), .val (.int p4), .val (.int p5), .val (.int p6), .val (.int (5 : Int32)), .val (.int ln), .val (.int b0), .val (.int b1), .val (.int b2), .val (.int b3), .val (.int b4), .val (.ref m170), .unset, .unset] [])) _
      refine XS.aload X176.here hx rfl (hb hby at_119) rfl rfl ?_
      show Steps p.tables e below (T176.setTop (mkF m 121 #[.val (.int p1), .val (.int p2), .val (.int p3), .val (.int p4), .val (.int p5), .val (.int p6), .val (.int (5 : Int32)), .val (.int ln), .val (.int b0), .val (.int b1), .val (.int b2), .val (.int b3), .val (.int b4), .val (.ref m170), .unset, .unset] [(.ref m170)])) _
      refine XS.iconst X176.here hx rfl (hb hby at_121) ?_
      show Steps p.tables e below (T176.setTop (mkF m 122 #[.val (.int p1), .val (.int p2), .val (.int p3), .val (.int p4), .val (.int p5), .val (.int p6), .val (.int (5 : Int32)), .val (.int ln), .val (.int b0), .val (.int b1), .val (.int b2), .val (.int b3), .val (.int b4), .val (.ref m170), .unset, .unset] [(.int (2 : Int32)), (.ref m170)])) _
      refine XS.iload X176.here hx rfl (hb hby at_122) rfl ?_
      show Steps p.tables e below (T176.setTop (mkF m 124 #[.val (.int p1), .val (.int p2), .val (.int p3), .val (.int p4), .val (.int p5), .val (.int p6), .val (.int (5 : Int32)), .val (.int ln), .val (.int b0), .val (.int b1), .val (.int b2), .val (.int b3), .val (.int b4), .val (.ref m170), .unset, .unset] [(.int b2), (.int (2 : Int32)), (.ref m170)])) _
      exact k
    obtain ⟨cl179, Ar179, q179, S179, M179, H179, G179⟩ := id V176
    obtain ⟨T179, h179, X179, e179, W179, st179⟩ := stB X176 hx hZ e176 Ar179 (j := (2 : Int32)) (inb_of S179 (by decide)) (g := (mkF m 124 #[.val (.int p1), .val (.int p2), .val (.int p3), .val (.int p4), .val (.int p5), .val (.int p6), .val (.int (5 : Int32)), .val (.int ln), .val (.int b0), .val (.int b1), .val (.int b2), .val (.int b3), .val (.int b4), .val (.ref m170), .unset, .unset] [(.int b2), (.int (2 : Int32)), (.ref m170)])) rfl rfl (hb hby at_124)
    have N179 := Fr.snoc X179 N176 gm170
    have O179 : Old Z n0 h179 := O176.wr W179 gm170
    rw [hb2] at W179
    have V179 : Arv Z h179 m170 cA170 .byte (5 : Int32) [(.int b0), (.int b1), (.int b2), (.int (0 : Int32)), (.int (0 : Int32))] (.int (0 : Int32)) := Arv.set Ar179 q179 S179 M179 H179 G179 (by rw [← hb2]; exact (fits_nar_byte _)) W179 2 rfl (Nat.le_of_ble_eq_true rfl)
    have pre_180 : ∀ t, Steps p.tables e below (T179.setTop (mkF m 125 #[.val (.int p1), .val (.int p2), .val (.int p3), .val (.int p4), .val (.int p5), .val (.int p6), .val (.int (5 : Int32)), .val (.int ln), .val (.int b0), .val (.int b1), .val (.int b2), .val (.int b3), .val (.int b4), .val (.ref m170), .unset, .unset] [])) t → Steps p.tables e below (s₁.setTop (entryFrame m #[(.int p1), (.int p2), (.int p3), (.int p4), (.int p5), (.int p6)] maxLocals)) t := fun t k => pre_178 t (st179 t k)
    have pre_181 : ∀ t, Steps p.tables e below (T179.setTop (mkF m 136 #[.val (.int p1), .val (.int p2), .val (.int p3), .val (.int p4), .val (.int p5), .val (.int p6), .val (.int (5 : Int32)), .val (.int ln), .val (.int b0), .val (.int b1), .val (.int b2), .val (.int b3), .val (.int b4), .val (.ref m170), .unset, .unset] [(.int b3), (.int (3 : Int32)), (.ref m170)])) t → Steps p.tables e below (s₁.setTop (entryFrame m #[(.int p1), (.int p2), (.int p3), (.int p4), (.int p5), (.int p6)] maxLocals)) t := by
      intro t k
      refine pre_180 t ?_
      show Steps p.tables e below (T179.setTop (mkF m 125 #[.val (.int p1), .val (.int p2), .val (.int p3), .val (.int p4), .val (.int p5), .val (.int p6), .val (.int (5 : Int32)), .val (.int ln), .val (.int b0), .val (.int b1), .val (.int b2), .val (.int b3), .val (.int b4), .val (.ref m170), .unset, .unset] [])) _
      refine XS.iload X179.here hx rfl (hb hby at_125) rfl ?_
      show Steps p.tables e below (T179.setTop (mkF m 127 #[.val (.int p1), .val (.int p2), .val (.int p3), .val (.int p4), .val (.int p5), .val (.int p6), .val (.int (5 : Int32)), .val (.int ln), .val (.int b0), .val (.int b1), .val (.int b2), .val (.int b3), .val (.int b4), .val (.ref m170), .unset, .unset] [(.int (5 : Int32))])) _
      refine XS.iconst X179.here hx rfl (hb hby at_127) ?_
      show Steps p.tables e below (T179.setTop (mkF m 128 #[.val (.int p1), .val (.int p2), .val (.int p3), .val (.int p4), .val (.int p5), .val (.int p6), .val (.int (5 : Int32)), .val (.int ln), .val (.int b0), .val (.int b1), .val (.int b2), .val (.int b3), .val (.int b4), .val (.ref m170), .unset, .unset] [(.int (3 : Int32)), (.int (5 : Int32))])) _
      refine XS.icmpNo X179.here hx rfl (hb hby at_128) rfl (XT.ii_le_f (by decide)) ?_
      show Steps p.tables e below (T179.setTop (mkF m 131 #[.val (.int p1), .val (.int p2), .val (.int p3), .val (.int p4), .val (.int p5), .val (.int p6), .val (.int (5 : Int32)), .val (.int ln), .val (.int b0), .val (.int b1), .val (.int b2), .val (.int b3), .val (.int b4), .val (.ref m170), .unset, .unset] [])) _
      refine XS.aload X179.here hx rfl (hb hby at_131) rfl rfl ?_
      show Steps p.tables e below (T179.setTop (mkF m 133 #[.val (.int p1), .val (.int p2), .val (.int p3), .val (.int p4), .val (.int p5), .val (.int p6), .val (.int (5 : Int32)), .val (.int ln), .val (.int b0), .val (.int b1), .val (.int b2), .val (.int b3), .val (.int b4), .val (.ref m170), .unset, .unset] [(.ref m170)])) _
      refine XS.iconst X179.here hx rfl (hb hby at_133) ?_
      show Steps p.tables e below (T179.setTop (mkF m 134 #[.val (.int p1), .val (.int p2), .val (.int p3), .val (.int p4), .val (.int p5), .val (.int p6), .val (.int (5 : Int32)), .val (.int ln), .val (.int b0), .val (.int b1), .val (.int b2), .val (.int b3), .val (.int b4), .val (.ref m170), .unset, .unset] [(.int (3 : Int32)), (.ref m170)])) _
      refine XS.iload X179.here hx rfl (hb hby at_134) rfl ?_
      show Steps p.tables e below (T179.setTop (mkF m 136 #[.val (.int p1), .val (.int p2), .val (.int p3), .val (.int p4), .val (.int p5), .val (.int p6), .val (.int (5 : Int32)), .val (.int ln), .val (.int b0), .val (.int b1), .val (.int b2), .val (.int b3), .val (.int b4), .val (.ref m170), .unset, .unset] [(.int b3), (.int (3 : Int32)), (.ref m170)])) _
      exact k
    obtain ⟨cl182, Ar182, q182, S182, M182, H182, G182⟩ := id V179
    obtain ⟨T182, h182, X182, e182, W182, st182⟩ := stB X179 hx hZ e179 Ar182 (j := (3 : Int32)) (inb_of S182 (by decide)) (g := (mkF m 136 #[.val (.int p1), .val (.int p2), .val (.int p3), .val (.int p4), .val (.int p5), .val (.int p6), .val (.int (5 : Int32)), .val (.int ln), .val (.int b0), .val (.int b1), .val (.int b2), .val (.int b3), .val (.int b4), .val (.ref m170), .unset, .unset] [(.int b3), (.int (3 : Int32)), (.ref m170)])) rfl rfl (hb hby at_136)
    have N182 := Fr.snoc X182 N179 gm170
    have O182 : Old Z n0 h182 := O179.wr W182 gm170
    rw [hb3] at W182
    have V182 : Arv Z h182 m170 cA170 .byte (5 : Int32) [(.int b0), (.int b1), (.int b2), (.int b3), (.int (0 : Int32))] (.int (0 : Int32)) := Arv.set Ar182 q182 S182 M182 H182 G182 (by rw [← hb3]; exact (fits_nar_byte _)) W182 3 rfl (Nat.le_of_ble_eq_true rfl)
    have pre_183 : ∀ t, Steps p.tables e below (T182.setTop (mkF m 137 #[.val (.int p1), .val (.int p2), .val (.int p3), .val (.int p4), .val (.int p5), .val (.int p6), .val (.int (5 : Int32)), .val (.int ln), .val (.int b0), .val (.int b1), .val (.int b2), .val (.int b3), .val (.int b4), .val (.ref m170), .unset, .unset] [])) t → Steps p.tables e below (s₁.setTop (entryFrame m #[(.int p1), (.int p2), (.int p3), (.int p4), (.int p5), (.int p6)] maxLocals)) t := fun t k => pre_181 t (st182 t k)
    have pre_184 : ∀ t, Steps p.tables e below (T182.setTop (mkF m 148 #[.val (.int p1), .val (.int p2), .val (.int p3), .val (.int p4), .val (.int p5), .val (.int p6), .val (.int (5 : Int32)), .val (.int ln), .val (.int b0), .val (.int b1), .val (.int b2), .val (.int b3), .val (.int b4), .val (.ref m170), .unset, .unset] [(.int b4), (.int (4 : Int32)), (.ref m170)])) t → Steps p.tables e below (s₁.setTop (entryFrame m #[(.int p1), (.int p2), (.int p3), (.int p4), (.int p5), (.int p6)] maxLocals)) t := by
      intro t k
      refine pre_183 t ?_
      show Steps p.tables e below (T182.setTop (mkF m 137 #[.val (.int p1), .val (.int p2), .val (.int p3), .val (.int p4), .val (.int p5), .val (.int p6), .val (.int (5 : Int32)), .val (.int ln), .val (.int b0), .val (.int b1), .val (.int b2), .val (.int b3), .val (.int b4), .val (.ref m170), .unset, .unset] [])) _
      refine XS.iload X182.here hx rfl (hb hby at_137) rfl ?_
      show Steps p.tables e below (T182.setTop (mkF m 139 #[.val (.int p1), .val (.int p2), .val (.int p3), .val (.int p4), .val (.int p5), .val (.int p6), .val (.int (5 : Int32)), .val (.int ln), .val (.int b0), .val (.int b1), .val (.int b2), .val (.int b3), .val (.int b4), .val (.ref m170), .unset, .unset] [(.int (5 : Int32))])) _
      refine XS.iconst X182.here hx rfl (hb hby at_139) ?_
      show Steps p.tables e below (T182.setTop (mkF m 140 #[.val (.int p1), .val (.int p2), .val (.int p3), .val (.int p4), .val (.int p5), .val (.int p6), .val (.int (5 : Int32)), .val (.int ln), .val (.int b0), .val (.int b1), .val (.int b2), .val (.int b3), .val (.int b4), .val (.ref m170), .unset, .unset] [(.int (4 : Int32)), (.int (5 : Int32))])) _
      refine XS.icmpNo X182.here hx rfl (hb hby at_140) rfl (XT.ii_le_f (by decide)) ?_
      show Steps p.tables e below (T182.setTop (mkF m 143 #[.val (.int p1), .val (.int p2), .val (.int p3), .val (.int p4), .val (.int p5), .val (.int p6), .val (.int (5 : Int32)), .val (.int ln), .val (.int b0), .val (.int b1), .val (.int b2), .val (.int b3), .val (.int b4), .val (.ref m170), .unset, .unset] [])) _
      refine XS.aload X182.here hx rfl (hb hby at_143) rfl rfl ?_
      show Steps p.tables e below (T182.setTop (mkF m 145 #[.val (.int p1), .val (.int p2), .val (.int p3), .val (.int p4), .val (.int p5), .val (.int p6), .val (.int (5 : Int32)), .val (.int ln), .val (.int b0), .val (.int b1), .val (.int b2), .val (.int b3), .val (.int b4), .val (.ref m170), .unset, .unset] [(.ref m170)])) _
      refine XS.iconst X182.here hx rfl (hb hby at_145) ?_
      show Steps p.tables e below (T182.setTop (mkF m 146 #[.val (.int p1), .val (.int p2), .val (.int p3), .val (.int p4), .val (.int p5), .val (.int p6), .val (.int (5 : Int32)), .val (.int ln), .val (.int b0), .val (.int b1), .val (.int b2), .val (.int b3), .val (.int b4), .val (.ref m170), .unset, .unset] [(.int (4 : Int32)), (.ref m170)])) _
      refine XS.iload X182.here hx rfl (hb hby at_146) rfl ?_
      show Steps p.tables e below (T182.setTop (mkF m 148 #[.val (.int p1), .val (.int p2), .val (.int p3), .val (.int p4), .val (.int p5), .val (.int p6), .val (.int (5 : Int32)), .val (.int ln), .val (.int b0), .val (.int b1), .val (.int b2), .val (.int b3), .val (.int b4), .val (.ref m170), .unset, .unset] [(.int b4), (.int (4 : Int32)), (.ref m170)])) _
      exact k
    obtain ⟨cl185, Ar185, q185, S185, M185, H185, G185⟩ := id V182
    obtain ⟨T185, h185, X185, e185, W185, st185⟩ := stB X182 hx hZ e182 Ar185 (j := (4 : Int32)) (inb_of S185 (by decide)) (g := (mkF m 148 #[.val (.int p1), .val (.int p2), .val (.int p3), .val (.int p4), .val (.int p5), .val (.int p6), .val (.int (5 : Int32)), .val (.int ln), .val (.int b0), .val (.int b1), .val (.int b2), .val (.int b3), .val (.int b4), .val (.ref m170), .unset, .unset] [(.int b4), (.int (4 : Int32)), (.ref m170)])) rfl rfl (hb hby at_148)
    have N185 := Fr.snoc X185 N182 gm170
    have O185 : Old Z n0 h185 := O182.wr W185 gm170
    rw [hb4] at W185
    have V185 : Arv Z h185 m170 cA170 .byte (5 : Int32) [(.int b0), (.int b1), (.int b2), (.int b3), (.int b4)] (.int (0 : Int32)) := Arv.set Ar185 q185 S185 M185 H185 G185 (by rw [← hb4]; exact (fits_nar_byte _)) W185 4 rfl (Nat.le_of_ble_eq_true rfl)
    have pre_186 : ∀ t, Steps p.tables e below (T185.setTop (mkF m 149 #[.val (.int p1), .val (.int p2), .val (.int p3), .val (.int p4), .val (.int p5), .val (.int p6), .val (.int (5 : Int32)), .val (.int ln), .val (.int b0), .val (.int b1), .val (.int b2), .val (.int b3), .val (.int b4), .val (.ref m170), .unset, .unset] [])) t → Steps p.tables e below (s₁.setTop (entryFrame m #[(.int p1), (.int p2), (.int p3), (.int p4), (.int p5), (.int p6)] maxLocals)) t := fun t k => pre_184 t (st185 t k)
    have pre_187 : ∀ t, Steps p.tables e below (T185.setTop (mkF m 155 #[.val (.int p1), .val (.int p2), .val (.int p3), .val (.int p4), .val (.int p5), .val (.int p6), .val (.int (5 : Int32)), .val (.int ln), .val (.int b0), .val (.int b1), .val (.int b2), .val (.int b3), .val (.int b4), .val (.ref m170), .val (.int (0 : Int32)), .unset] [(.int (3 : Int32)), (.int ln)])) t → Steps p.tables e below (s₁.setTop (entryFrame m #[(.int p1), (.int p2), (.int p3), (.int p4), (.int p5), (.int p6)] maxLocals)) t := by
      intro t k
      refine pre_186 t ?_
      show Steps p.tables e below (T185.setTop (mkF m 149 #[.val (.int p1), .val (.int p2), .val (.int p3), .val (.int p4), .val (.int p5), .val (.int p6), .val (.int (5 : Int32)), .val (.int ln), .val (.int b0), .val (.int b1), .val (.int b2), .val (.int b3), .val (.int b4), .val (.ref m170), .unset, .unset] [])) _
      refine XS.iconst X185.here hx rfl (hb hby at_149) ?_
      show Steps p.tables e below (T185.setTop (mkF m 150 #[.val (.int p1), .val (.int p2), .val (.int p3), .val (.int p4), .val (.int p5), .val (.int p6), .val (.int (5 : Int32)), .val (.int ln), .val (.int b0), .val (.int b1), .val (.int b2), .val (.int b3), .val (.int b4), .val (.ref m170), .unset, .unset] [(.int (0 : Int32))])) _
      refine XS.istore X185.here hx rfl (hb hby at_150) rfl (l' := #[.val (.int p1), .val (.int p2), .val (.int p3), .val (.int p4), .val (.int p5), .val (.int p6), .val (.int (5 : Int32)), .val (.int ln), .val (.int b0), .val (.int b1), .val (.int b2), .val (.int b3), .val (.int b4), .val (.ref m170), .val (.int (0 : Int32)), .unset]) rfl ?_
      show Steps p.tables e below (T185.setTop (mkF m 152 #[.val (.int p1), .val (.int p2), .val (.int p3), .val (.int p4), .val (.int p5), .val (.int p6), .val (.int (5 : Int32)), .val (.int ln), .val (.int b0), .val (.int b1), .val (.int b2), .val (.int b3), .val (.int b4), .val (.ref m170), .val (.int (0 : Int32)), .unset] [])) _
      refine XS.iload X185.here hx rfl (hb hby at_152) rfl ?_
      show Steps p.tables e below (T185.setTop (mkF m 154 #[.val (.int p1), .val (.int p2), .val (.int p3), .val (.int p4), .val (.int p5), .val (.int p6), .val (.int (5 : Int32)), .val (.int ln), .val (.int b0), .val (.int b1), .val (.int b2), .val (.int b3), .val (.int b4), .val (.ref m170), .val (.int (0 : Int32)), .unset] [(.int ln)])) _
      refine XS.iconst X185.here hx rfl (hb hby at_154) ?_
      show Steps p.tables e below (T185.setTop (mkF m 155 #[.val (.int p1), .val (.int p2), .val (.int p3), .val (.int p4), .val (.int p5), .val (.int p6), .val (.int (5 : Int32)), .val (.int ln), .val (.int b0), .val (.int b1), .val (.int b2), .val (.int b3), .val (.int b4), .val (.ref m170), .val (.int (0 : Int32)), .unset] [(.int (3 : Int32)), (.int ln)])) _
      exact k
    by_cases hc188 : ln < (3 : Int32)
    · skip
      have pre_189 : ∀ t, Steps p.tables e below (T185.setTop (mkF m 186 #[.val (.int p1), .val (.int p2), .val (.int p3), .val (.int p4), .val (.int p5), .val (.int p6), .val (.int (5 : Int32)), .val (.int ln), .val (.int b0), .val (.int b1), .val (.int b2), .val (.int b3), .val (.int b4), .val (.ref m170), .val (.int (0 : Int32)), .unset] [(.int ln), (.ref m170)])) t → Steps p.tables e below (s₁.setTop (entryFrame m #[(.int p1), (.int p2), (.int p3), (.int p4), (.int p5), (.int p6)] maxLocals)) t := by
        intro t k
        refine pre_187 t ?_
        show Steps p.tables e below (T185.setTop (mkF m 155 #[.val (.int p1), .val (.int p2), .val (.int p3), .val (.int p4), .val (.int p5), .val (.int p6), .val (.int (5 : Int32)), .val (.int ln), .val (.int b0), .val (.int b1), .val (.int b2), .val (.int b3), .val (.int b4), .val (.ref m170), .val (.int (0 : Int32)), .unset] [(.int (3 : Int32)), (.int ln)])) _
        refine XS.icmpYes X185.here hx rfl (pc0 := 155) (pc' := 182) rfl (hb hby at_155) rfl (XT.ii_lt_t hc188) (by decide) (by decide) ?_
        show Steps p.tables e below (T185.setTop (mkF m 182 #[.val (.int p1), .val (.int p2), .val (.int p3), .val (.int p4), .val (.int p5), .val (.int p6), .val (.int (5 : Int32)), .val (.int ln), .val (.int b0), .val (.int b1), .val (.int b2), .val (.int b3), .val (.int b4), .val (.ref m170), .val (.int (0 : Int32)), .unset] [])) _
        refine XS.aload X185.here hx rfl (hb hby at_182) rfl rfl ?_
        show Steps p.tables e below (T185.setTop (mkF m 184 #[.val (.int p1), .val (.int p2), .val (.int p3), .val (.int p4), .val (.int p5), .val (.int p6), .val (.int (5 : Int32)), .val (.int ln), .val (.int b0), .val (.int b1), .val (.int b2), .val (.int b3), .val (.int b4), .val (.ref m170), .val (.int (0 : Int32)), .unset] [(.ref m170)])) _
        refine XS.iload X185.here hx rfl (hb hby at_184) rfl ?_
        show Steps p.tables e below (T185.setTop (mkF m 186 #[.val (.int p1), .val (.int p2), .val (.int p3), .val (.int p4), .val (.int p5), .val (.int p6), .val (.int (5 : Int32)), .val (.int ln), .val (.int b0), .val (.int b1), .val (.int b2), .val (.int b3), .val (.int b4), .val (.ref m170), .val (.int (0 : Int32)), .unset] [(.int ln), (.ref m170)])) _
        exact k
      obtain ⟨_, _, ⟨T190, L190, k190, n190⟩, -, X190, ⟨Lc190, hQ190, l190, y190, z190⟩, st190⟩ := Jvm.LawKit.callS X185 hx (y := (⟨"com/example/tranche/tranche/TextFile", "textStart", "([BI)I"⟩ : MethodName)) hown (mvT hZ (hw _ (List.mem_of_getElem? (i := 6) rfl))) (mvT hZ (hw _ (List.mem_of_getElem? (i := 7) rfl))) (mvT hZ (hw _ (List.mem_of_getElem? (i := 8) rfl))) (mvT hZ (hw _ (List.mem_of_getElem? (i := 9) rfl))) (by decide) (backOf (W := 0) (rm_ts0 l Z a0 hw [] m170 ln aB kB h185 n0 O185 SB VB hc188) hZ (hw _ (List.mem_of_getElem? (i := 9) rfl)) (hw _ (List.mem_of_getElem? (i := 8) rfl)) (by decide) (by decide)) (g := (mkF m 186 #[.val (.int p1), .val (.int p2), .val (.int p3), .val (.int p4), .val (.int p5), .val (.int p6), .val (.int (5 : Int32)), .val (.int ln), .val (.int b0), .val (.int b1), .val (.int b2), .val (.int b3), .val (.int b4), .val (.ref m170), .val (.int (0 : Int32)), .unset] [(.int ln), (.ref m170)])) rfl (by rw [hml]; rfl) (argsL := [(.ref m170), (.int ln)]) (rest := []) (lenOf pd_law_1 rfl) rfl (by show 2 * 0 + _ ≤ _; exact Nat.le_of_eq rfl) (hb hby at_186) (fun _ _ => ⟨rfl, e185, (by decide : 1 + 0 ≤ _), (by decide : 5 + 0 ≤ _)⟩)
      dsimp only [Pt.U, Pt.locs, Pt.cells, Pt.slots] at X190 l190 y190 z190 st190 hQ190
      subst l190 y190 z190
      obtain ⟨rfl, N190q, e190⟩ := hQ190
      have N190 := Fr.app N185 N190q
      have pre_191 : ∀ t, Steps p.tables e below (T190.setTop (mkF m 189 #[.val (.int p1), .val (.int p2), .val (.int p3), .val (.int p4), .val (.int p5), .val (.int p6), .val (.int (5 : Int32)), .val (.int ln), .val (.int b0), .val (.int b1), .val (.int b2), .val (.int b3), .val (.int b4), .val (.ref m170), .val (.int (0 : Int32)), .unset] [(.int (0 : Int32))])) t → Steps p.tables e below (s₁.setTop (entryFrame m #[(.int p1), (.int p2), (.int p3), (.int p4), (.int p5), (.int p6)] maxLocals)) t := fun t k => pre_189 t (st190 t k)
      have pre_192 : ∀ t, Steps p.tables e below (T190.setTop (mkF m 203 #[.val (.int p1), .val (.int p2), .val (.int p3), .val (.int p4), .val (.int p5), .val (.int p6), .val (.int (5 : Int32)), .val (.int ln), .val (.int b0), .val (.int b1), .val (.int b2), .val (.int b3), .val (.int b4), .val (.ref m170), .val (.int (0 : Int32)), .val (.int (0 : Int32))] [(.int (1 : Int32))])) t → Steps p.tables e below (s₁.setTop (entryFrame m #[(.int p1), (.int p2), (.int p3), (.int p4), (.int p5), (.int p6)] maxLocals)) t := by
        intro t k
        refine pre_191 t ?_
        show Steps p.tables e below (T190.setTop (mkF m 189 #[.val (.int p1), .val (.int p2), .val (.int p3), .val (.int p4), .val (.int p5), .val (.int p6), .val (.int (5 : Int32)), .val (.int ln), .val (.int b0), .val (.int b1), .val (.int b2), .val (.int b3), .val (.int b4), .val (.ref m170), .val (.int (0 : Int32)), .unset] [(.int (0 : Int32))])) _
        refine XS.istore X190.here hx rfl (hb hby at_189) rfl (l' := #[.val (.int p1), .val (.int p2), .val (.int p3), .val (.int p4), .val (.int p5), .val (.int p6), .val (.int (5 : Int32)), .val (.int ln), .val (.int b0), .val (.int b1), .val (.int b2), .val (.int b3), .val (.int b4), .val (.ref m170), .val (.int (0 : Int32)), .val (.int (0 : Int32))]) rfl ?_
        show Steps p.tables e below (T190.setTop (mkF m 191 #[.val (.int p1), .val (.int p2), .val (.int p3), .val (.int p4), .val (.int p5), .val (.int p6), .val (.int (5 : Int32)), .val (.int ln), .val (.int b0), .val (.int b1), .val (.int b2), .val (.int b3), .val (.int b4), .val (.ref m170), .val (.int (0 : Int32)), .val (.int (0 : Int32))] [])) _
        refine XS.iload X190.here hx rfl (hb hby at_191) rfl ?_
        show Steps p.tables e below (T190.setTop (mkF m 193 #[.val (.int p1), .val (.int p2), .val (.int p3), .val (.int p4), .val (.int p5), .val (.int p6), .val (.int (5 : Int32)), .val (.int ln), .val (.int b0), .val (.int b1), .val (.int b2), .val (.int b3), .val (.int b4), .val (.ref m170), .val (.int (0 : Int32)), .val (.int (0 : Int32))] [(.int (0 : Int32))])) _
        refine XS.iload X190.here hx rfl (hb hby at_193) rfl ?_
        show Steps p.tables e below (T190.setTop (mkF m 195 #[.val (.int p1), .val (.int p2), .val (.int p3), .val (.int p4), .val (.int p5), .val (.int p6), .val (.int (5 : Int32)), .val (.int ln), .val (.int b0), .val (.int b1), .val (.int b2), .val (.int b3), .val (.int b4), .val (.ref m170), .val (.int (0 : Int32)), .val (.int (0 : Int32))] [(.int (0 : Int32)), (.int (0 : Int32))])) _
        refine XS.icmpNo X190.here hx rfl (hb hby at_195) rfl (XT.ii_ne_f (by decide)) ?_
        show Steps p.tables e below (T190.setTop (mkF m 198 #[.val (.int p1), .val (.int p2), .val (.int p3), .val (.int p4), .val (.int p5), .val (.int p6), .val (.int (5 : Int32)), .val (.int ln), .val (.int b0), .val (.int b1), .val (.int b2), .val (.int b3), .val (.int b4), .val (.ref m170), .val (.int (0 : Int32)), .val (.int (0 : Int32))] [])) _
        refine XS.iconst X190.here hx rfl (hb hby at_198) ?_
        show Steps p.tables e below (T190.setTop (mkF m 199 #[.val (.int p1), .val (.int p2), .val (.int p3), .val (.int p4), .val (.int p5), .val (.int p6), .val (.int (5 : Int32)), .val (.int ln), .val (.int b0), .val (.int b1), .val (.int b2), .val (.int b3), .val (.int b4), .val (.ref m170), .val (.int (0 : Int32)), .val (.int (0 : Int32))] [(.int (1 : Int32))])) _
        refine XS.goto X190.here hx rfl (pc0 := 199) (pc' := 203) rfl (hb hby at_199) (by decide) (by decide) ?_
        show Steps p.tables e below (T190.setTop (mkF m 203 #[.val (.int p1), .val (.int p2), .val (.int p3), .val (.int p4), .val (.int p5), .val (.int p6), .val (.int (5 : Int32)), .val (.int ln), .val (.int b0), .val (.int b1), .val (.int b2), .val (.int b3), .val (.int b4), .val (.ref m170), .val (.int (0 : Int32)), .val (.int (0 : Int32))] [(.int (1 : Int32))])) _
        exact k
      obtain ⟨fs, hr, hrun, hended, hW, hsame⟩ := X190.leave (v := some (.int (1 : Int32))) (fun h => by rw [Bd.returns] at h; cases h)
      refine ⟨_, _, pre_192 _ ?_, hrun, hended, _, _, rfl, ?_, ⟨_, rfl⟩, hW, hsame.mono (by decide) (by decide)⟩
      · show Steps p.tables e below (T190.setTop (mkF m 203 #[.val (.int p1), .val (.int p2), .val (.int p3), .val (.int p4), .val (.int p5), .val (.int p6), .val (.int (5 : Int32)), .val (.int ln), .val (.int b0), .val (.int b1), .val (.int b2), .val (.int b3), .val (.int b4), .val (.ref m170), .val (.int (0 : Int32)), .val (.int (0 : Int32))] [(.int (1 : Int32))])) _
        exact retN X190 hx (t := .boolean) Bd.returns (by simp) (hb hby at_203) hr
      · show Q_law Z p1 p2 p3 p4 p5 p6 aB kB h0 n0 _ T190.heap _
        rw [e190]
        exact ⟨rfl, N190⟩
    · skip
      have pre_193 : ∀ t, Steps p.tables e below (T185.setTop (mkF m 162 #[.val (.int p1), .val (.int p2), .val (.int p3), .val (.int p4), .val (.int p5), .val (.int p6), .val (.int (5 : Int32)), .val (.int ln), .val (.int b0), .val (.int b1), .val (.int b2), .val (.int b3), .val (.int b4), .val (.ref m170), .val (.int (0 : Int32)), .unset] [(.int (-17 : Int32)), (.int b0)])) t → Steps p.tables e below (s₁.setTop (entryFrame m #[(.int p1), (.int p2), (.int p3), (.int p4), (.int p5), (.int p6)] maxLocals)) t := by
        intro t k
        refine pre_187 t ?_
        show Steps p.tables e below (T185.setTop (mkF m 155 #[.val (.int p1), .val (.int p2), .val (.int p3), .val (.int p4), .val (.int p5), .val (.int p6), .val (.int (5 : Int32)), .val (.int ln), .val (.int b0), .val (.int b1), .val (.int b2), .val (.int b3), .val (.int b4), .val (.ref m170), .val (.int (0 : Int32)), .unset] [(.int (3 : Int32)), (.int ln)])) _
        refine XS.icmpNo X185.here hx rfl (hb hby at_155) rfl (XT.ii_lt_f hc188) ?_
        show Steps p.tables e below (T185.setTop (mkF m 158 #[.val (.int p1), .val (.int p2), .val (.int p3), .val (.int p4), .val (.int p5), .val (.int p6), .val (.int (5 : Int32)), .val (.int ln), .val (.int b0), .val (.int b1), .val (.int b2), .val (.int b3), .val (.int b4), .val (.ref m170), .val (.int (0 : Int32)), .unset] [])) _
        refine XS.iload X185.here hx rfl (hb hby at_158) rfl ?_
        show Steps p.tables e below (T185.setTop (mkF m 160 #[.val (.int p1), .val (.int p2), .val (.int p3), .val (.int p4), .val (.int p5), .val (.int p6), .val (.int (5 : Int32)), .val (.int ln), .val (.int b0), .val (.int b1), .val (.int b2), .val (.int b3), .val (.int b4), .val (.ref m170), .val (.int (0 : Int32)), .unset] [(.int b0)])) _
        refine XS.bipush X185.here hx rfl (hb hby at_160) ?_
        show Steps p.tables e below (T185.setTop (mkF m 162 #[.val (.int p1), .val (.int p2), .val (.int p3), .val (.int p4), .val (.int p5), .val (.int p6), .val (.int (5 : Int32)), .val (.int ln), .val (.int b0), .val (.int b1), .val (.int b2), .val (.int b3), .val (.int b4), .val (.ref m170), .val (.int (0 : Int32)), .unset] [(.int (-17 : Int32)), (.int b0)])) _
        exact k
      have pre_197 : ∀ t, Steps p.tables e below (T185.setTop (mkF m 182 #[.val (.int p1), .val (.int p2), .val (.int p3), .val (.int p4), .val (.int p5), .val (.int p6), .val (.int (5 : Int32)), .val (.int ln), .val (.int b0), .val (.int b1), .val (.int b2), .val (.int b3), .val (.int b4), .val (.ref m170), .val (.int (if b0 = (-17 : Int32) then (if b1 = (-69 : Int32) then (if b2 = (-65 : Int32) then (3 : Int32) else (0 : Int32)) else (0 : Int32)) else (0 : Int32))), .unset] [])) t → Steps p.tables e below (s₁.setTop (entryFrame m #[(.int p1), (.int p2), (.int p3), (.int p4), (.int p5), (.int p6)] maxLocals)) t := by
        intro t k
        refine pre_193 t ?_
        by_cases hm194 : b0 = (-17 : Int32)
        · skip
          show Steps p.tables e below (T185.setTop (mkF m 162 #[.val (.int p1), .val (.int p2), .val (.int p3), .val (.int p4), .val (.int p5), .val (.int p6), .val (.int (5 : Int32)), .val (.int ln), .val (.int b0), .val (.int b1), .val (.int b2), .val (.int b3), .val (.int b4), .val (.ref m170), .val (.int (0 : Int32)), .unset] [(.int (-17 : Int32)), (.int b0)])) _
          refine XS.icmpNo X185.here hx rfl (hb hby at_162) rfl (XT.ii_ne_f hm194) ?_
          show Steps p.tables e below (T185.setTop (mkF m 165 #[.val (.int p1), .val (.int p2), .val (.int p3), .val (.int p4), .val (.int p5), .val (.int p6), .val (.int (5 : Int32)), .val (.int ln), .val (.int b0), .val (.int b1), .val (.int b2), .val (.int b3), .val (.int b4), .val (.ref m170), .val (.int (0 : Int32)), .unset] [])) _
          refine XS.iload X185.here hx rfl (hb hby at_165) rfl ?_
          show Steps p.tables e below (T185.setTop (mkF m 167 #[.val (.int p1), .val (.int p2), .val (.int p3), .val (.int p4), .val (.int p5), .val (.int p6), .val (.int (5 : Int32)), .val (.int ln), .val (.int b0), .val (.int b1), .val (.int b2), .val (.int b3), .val (.int b4), .val (.ref m170), .val (.int (0 : Int32)), .unset] [(.int b1)])) _
          refine XS.bipush X185.here hx rfl (hb hby at_167) ?_
          show Steps p.tables e below (T185.setTop (mkF m 169 #[.val (.int p1), .val (.int p2), .val (.int p3), .val (.int p4), .val (.int p5), .val (.int p6), .val (.int (5 : Int32)), .val (.int ln), .val (.int b0), .val (.int b1), .val (.int b2), .val (.int b3), .val (.int b4), .val (.ref m170), .val (.int (0 : Int32)), .unset] [(.int (-69 : Int32)), (.int b1)])) _
          by_cases hm195 : b1 = (-69 : Int32)
          · skip
            show Steps p.tables e below (T185.setTop (mkF m 169 #[.val (.int p1), .val (.int p2), .val (.int p3), .val (.int p4), .val (.int p5), .val (.int p6), .val (.int (5 : Int32)), .val (.int ln), .val (.int b0), .val (.int b1), .val (.int b2), .val (.int b3), .val (.int b4), .val (.ref m170), .val (.int (0 : Int32)), .unset] [(.int (-69 : Int32)), (.int b1)])) _
            refine XS.icmpNo X185.here hx rfl (hb hby at_169) rfl (XT.ii_ne_f hm195) ?_
            show Steps p.tables e below (T185.setTop (mkF m 172 #[.val (.int p1), .val (.int p2), .val (.int p3), .val (.int p4), .val (.int p5), .val (.int p6), .val (.int (5 : Int32)), .val (.int ln), .val (.int b0), .val (.int b1), .val (.int b2), .val (.int b3), .val (.int b4), .val (.ref m170), .val (.int (0 : Int32)), .unset] [])) _
            refine XS.iload X185.here hx rfl (hb hby at_172) rfl ?_
            show Steps p.tables e below (T185.setTop (mkF m 174 #[.val (.int p1), .val (.int p2), .val (.int p3), .val (.int p4), .val (.int p5), .val (.int p6), .val (.int (5 : Int32)), .val (.int ln), .val (.int b0), .val (.int b1), .val (.int b2), .val (.int b3), .val (.int b4), .val (.ref m170), .val (.int (0 : Int32)), .unset] [(.int b2)])) _
            refine XS.bipush X185.here hx rfl (hb hby at_174) ?_
            show Steps p.tables e below (T185.setTop (mkF m 176 #[.val (.int p1), .val (.int p2), .val (.int p3), .val (.int p4), .val (.int p5), .val (.int p6), .val (.int (5 : Int32)), .val (.int ln), .val (.int b0), .val (.int b1), .val (.int b2), .val (.int b3), .val (.int b4), .val (.ref m170), .val (.int (0 : Int32)), .unset] [(.int (-65 : Int32)), (.int b2)])) _
            by_cases hm196 : b2 = (-65 : Int32)
            · skip
              show Steps p.tables e below (T185.setTop (mkF m 176 #[.val (.int p1), .val (.int p2), .val (.int p3), .val (.int p4), .val (.int p5), .val (.int p6), .val (.int (5 : Int32)), .val (.int ln), .val (.int b0), .val (.int b1), .val (.int b2), .val (.int b3), .val (.int b4), .val (.ref m170), .val (.int (0 : Int32)), .unset] [(.int (-65 : Int32)), (.int b2)])) _
              refine XS.icmpNo X185.here hx rfl (hb hby at_176) rfl (XT.ii_ne_f hm196) ?_
              show Steps p.tables e below (T185.setTop (mkF m 179 #[.val (.int p1), .val (.int p2), .val (.int p3), .val (.int p4), .val (.int p5), .val (.int p6), .val (.int (5 : Int32)), .val (.int ln), .val (.int b0), .val (.int b1), .val (.int b2), .val (.int b3), .val (.int b4), .val (.ref m170), .val (.int (0 : Int32)), .unset] [])) _
              refine XS.iconst X185.here hx rfl (hb hby at_179) ?_
              show Steps p.tables e below (T185.setTop (mkF m 180 #[.val (.int p1), .val (.int p2), .val (.int p3), .val (.int p4), .val (.int p5), .val (.int p6), .val (.int (5 : Int32)), .val (.int ln), .val (.int b0), .val (.int b1), .val (.int b2), .val (.int b3), .val (.int b4), .val (.ref m170), .val (.int (0 : Int32)), .unset] [(.int (3 : Int32))])) _
              refine XS.istore X185.here hx rfl (hb hby at_180) rfl (l' := #[.val (.int p1), .val (.int p2), .val (.int p3), .val (.int p4), .val (.int p5), .val (.int p6), .val (.int (5 : Int32)), .val (.int ln), .val (.int b0), .val (.int b1), .val (.int b2), .val (.int b3), .val (.int b4), .val (.ref m170), .val (.int (3 : Int32)), .unset]) rfl ?_
              show Steps p.tables e below (T185.setTop (mkF m 182 #[.val (.int p1), .val (.int p2), .val (.int p3), .val (.int p4), .val (.int p5), .val (.int p6), .val (.int (5 : Int32)), .val (.int ln), .val (.int b0), .val (.int b1), .val (.int b2), .val (.int b3), .val (.int b4), .val (.ref m170), .val (.int (3 : Int32)), .unset] [])) _
              first | exact k | (simp only [if_pos hm194, if_pos hm195, if_pos hm196] at k; exact k)
            · skip
              show Steps p.tables e below (T185.setTop (mkF m 176 #[.val (.int p1), .val (.int p2), .val (.int p3), .val (.int p4), .val (.int p5), .val (.int p6), .val (.int (5 : Int32)), .val (.int ln), .val (.int b0), .val (.int b1), .val (.int b2), .val (.int b3), .val (.int b4), .val (.ref m170), .val (.int (0 : Int32)), .unset] [(.int (-65 : Int32)), (.int b2)])) _
              refine XS.icmpYes X185.here hx rfl (pc0 := 176) (pc' := 182) rfl (hb hby at_176) rfl (XT.ii_ne_t hm196) (by decide) (by decide) ?_
              show Steps p.tables e below (T185.setTop (mkF m 182 #[.val (.int p1), .val (.int p2), .val (.int p3), .val (.int p4), .val (.int p5), .val (.int p6), .val (.int (5 : Int32)), .val (.int ln), .val (.int b0), .val (.int b1), .val (.int b2), .val (.int b3), .val (.int b4), .val (.ref m170), .val (.int (0 : Int32)), .unset] [])) _
              first | exact k | (simp only [if_pos hm194, if_pos hm195, if_neg hm196] at k; exact k)
          · skip
            show Steps p.tables e below (T185.setTop (mkF m 169 #[.val (.int p1), .val (.int p2), .val (.int p3), .val (.int p4), .val (.int p5), .val (.int p6), .val (.int (5 : Int32)), .val (.int ln), .val (.int b0), .val (.int b1), .val (.int b2), .val (.int b3), .val (.int b4), .val (.ref m170), .val (.int (0 : Int32)), .unset] [(.int (-69 : Int32)), (.int b1)])) _
            refine XS.icmpYes X185.here hx rfl (pc0 := 169) (pc' := 182) rfl (hb hby at_169) rfl (XT.ii_ne_t hm195) (by decide) (by decide) ?_
            show Steps p.tables e below (T185.setTop (mkF m 182 #[.val (.int p1), .val (.int p2), .val (.int p3), .val (.int p4), .val (.int p5), .val (.int p6), .val (.int (5 : Int32)), .val (.int ln), .val (.int b0), .val (.int b1), .val (.int b2), .val (.int b3), .val (.int b4), .val (.ref m170), .val (.int (0 : Int32)), .unset] [])) _
            first | exact k | (simp only [if_pos hm194, if_neg hm195] at k; exact k)
        · skip
          show Steps p.tables e below (T185.setTop (mkF m 162 #[.val (.int p1), .val (.int p2), .val (.int p3), .val (.int p4), .val (.int p5), .val (.int p6), .val (.int (5 : Int32)), .val (.int ln), .val (.int b0), .val (.int b1), .val (.int b2), .val (.int b3), .val (.int b4), .val (.ref m170), .val (.int (0 : Int32)), .unset] [(.int (-17 : Int32)), (.int b0)])) _
          refine XS.icmpYes X185.here hx rfl (pc0 := 162) (pc' := 182) rfl (hb hby at_162) rfl (XT.ii_ne_t hm194) (by decide) (by decide) ?_
          show Steps p.tables e below (T185.setTop (mkF m 182 #[.val (.int p1), .val (.int p2), .val (.int p3), .val (.int p4), .val (.int p5), .val (.int p6), .val (.int (5 : Int32)), .val (.int ln), .val (.int b0), .val (.int b1), .val (.int b2), .val (.int b3), .val (.int b4), .val (.ref m170), .val (.int (0 : Int32)), .unset] [])) _
          first | exact k | (simp only [if_neg hm194] at k; exact k)
      have pre_198 : ∀ t, Steps p.tables e below (T185.setTop (mkF m 186 #[.val (.int p1), .val (.int p2), .val (.int p3), .val (.int p4), .val (.int p5), .val (.int p6), .val (.int (5 : Int32)), .val (.int ln), .val (.int b0), .val (.int b1), .val (.int b2), .val (.int b3), .val (.int b4), .val (.ref m170), .val (.int (if b0 = (-17 : Int32) then (if b1 = (-69 : Int32) then (if b2 = (-65 : Int32) then (3 : Int32) else (0 : Int32)) else (0 : Int32)) else (0 : Int32))), .unset] [(.int ln), (.ref m170)])) t → Steps p.tables e below (s₁.setTop (entryFrame m #[(.int p1), (.int p2), (.int p3), (.int p4), (.int p5), (.int p6)] maxLocals)) t := by
        intro t k
        refine pre_197 t ?_
        show Steps p.tables e below (T185.setTop (mkF m 182 #[.val (.int p1), .val (.int p2), .val (.int p3), .val (.int p4), .val (.int p5), .val (.int p6), .val (.int (5 : Int32)), .val (.int ln), .val (.int b0), .val (.int b1), .val (.int b2), .val (.int b3), .val (.int b4), .val (.ref m170), .val (.int (if b0 = (-17 : Int32) then (if b1 = (-69 : Int32) then (if b2 = (-65 : Int32) then (3 : Int32) else (0 : Int32)) else (0 : Int32)) else (0 : Int32))), .unset] [])) _
        refine XS.aload X185.here hx rfl (hb hby at_182) rfl rfl ?_
        show Steps p.tables e below (T185.setTop (mkF m 184 #[.val (.int p1), .val (.int p2), .val (.int p3), .val (.int p4), .val (.int p5), .val (.int p6), .val (.int (5 : Int32)), .val (.int ln), .val (.int b0), .val (.int b1), .val (.int b2), .val (.int b3), .val (.int b4), .val (.ref m170), .val (.int (if b0 = (-17 : Int32) then (if b1 = (-69 : Int32) then (if b2 = (-65 : Int32) then (3 : Int32) else (0 : Int32)) else (0 : Int32)) else (0 : Int32))), .unset] [(.ref m170)])) _
        refine XS.iload X185.here hx rfl (hb hby at_184) rfl ?_
        show Steps p.tables e below (T185.setTop (mkF m 186 #[.val (.int p1), .val (.int p2), .val (.int p3), .val (.int p4), .val (.int p5), .val (.int p6), .val (.int (5 : Int32)), .val (.int ln), .val (.int b0), .val (.int b1), .val (.int b2), .val (.int b3), .val (.int b4), .val (.ref m170), .val (.int (if b0 = (-17 : Int32) then (if b1 = (-69 : Int32) then (if b2 = (-65 : Int32) then (3 : Int32) else (0 : Int32)) else (0 : Int32)) else (0 : Int32))), .unset] [(.int ln), (.ref m170)])) _
        exact k
      obtain ⟨_, _, ⟨T199, L199, k199, n199⟩, -, X199, ⟨Lc199, hQ199, l199, y199, z199⟩, st199⟩ := Jvm.LawKit.callS X185 hx (y := (⟨"com/example/tranche/tranche/TextFile", "textStart", "([BI)I"⟩ : MethodName)) hown (mvT hZ (hw _ (List.mem_of_getElem? (i := 6) rfl))) (mvT hZ (hw _ (List.mem_of_getElem? (i := 7) rfl))) (mvT hZ (hw _ (List.mem_of_getElem? (i := 8) rfl))) (mvT hZ (hw _ (List.mem_of_getElem? (i := 9) rfl))) (by decide) (backOf (W := 0) (rm_ts1 l Z a0 hw [] m170 ln aB cA170 (5 : Int32) b0 b1 b2 [(.int b3), (.int b4)] kB h185 n0 O185 SB VB (by decide) V185 hc188) hZ (hw _ (List.mem_of_getElem? (i := 9) rfl)) (hw _ (List.mem_of_getElem? (i := 8) rfl)) (by decide) (by decide)) (g := (mkF m 186 #[.val (.int p1), .val (.int p2), .val (.int p3), .val (.int p4), .val (.int p5), .val (.int p6), .val (.int (5 : Int32)), .val (.int ln), .val (.int b0), .val (.int b1), .val (.int b2), .val (.int b3), .val (.int b4), .val (.ref m170), .val (.int (if b0 = (-17 : Int32) then (if b1 = (-69 : Int32) then (if b2 = (-65 : Int32) then (3 : Int32) else (0 : Int32)) else (0 : Int32)) else (0 : Int32))), .unset] [(.int ln), (.ref m170)])) rfl (by rw [hml]; rfl) (argsL := [(.ref m170), (.int ln)]) (rest := []) (lenOf pd_law_1 rfl) rfl (by show 2 * 0 + _ ≤ _; exact Nat.le_of_eq rfl) (hb hby at_186) (fun _ _ => ⟨rfl, e185, (by decide : 1 + 0 ≤ _), (by decide : 5 + 0 ≤ _)⟩)
      dsimp only [Pt.U, Pt.locs, Pt.cells, Pt.slots] at X199 l199 y199 z199 st199 hQ199
      subst l199 y199 z199
      obtain ⟨rfl, N199q, e199⟩ := hQ199
      have N199 := Fr.app N185 N199q
      have pre_200 : ∀ t, Steps p.tables e below (T199.setTop (mkF m 189 #[.val (.int p1), .val (.int p2), .val (.int p3), .val (.int p4), .val (.int p5), .val (.int p6), .val (.int (5 : Int32)), .val (.int ln), .val (.int b0), .val (.int b1), .val (.int b2), .val (.int b3), .val (.int b4), .val (.ref m170), .val (.int (if b0 = (-17 : Int32) then (if b1 = (-69 : Int32) then (if b2 = (-65 : Int32) then (3 : Int32) else (0 : Int32)) else (0 : Int32)) else (0 : Int32))), .unset] [(.int (if b0 = (-17 : Int32) then (if b1 = (-69 : Int32) then (if b2 = (-65 : Int32) then (3 : Int32) else (0 : Int32)) else (0 : Int32)) else (0 : Int32)))])) t → Steps p.tables e below (s₁.setTop (entryFrame m #[(.int p1), (.int p2), (.int p3), (.int p4), (.int p5), (.int p6)] maxLocals)) t := fun t k => pre_198 t (st199 t k)
      have pre_201 : ∀ t, Steps p.tables e below (T199.setTop (mkF m 195 #[.val (.int p1), .val (.int p2), .val (.int p3), .val (.int p4), .val (.int p5), .val (.int p6), .val (.int (5 : Int32)), .val (.int ln), .val (.int b0), .val (.int b1), .val (.int b2), .val (.int b3), .val (.int b4), .val (.ref m170), .val (.int (if b0 = (-17 : Int32) then (if b1 = (-69 : Int32) then (if b2 = (-65 : Int32) then (3 : Int32) else (0 : Int32)) else (0 : Int32)) else (0 : Int32))), .val (.int (if b0 = (-17 : Int32) then (if b1 = (-69 : Int32) then (if b2 = (-65 : Int32) then (3 : Int32) else (0 : Int32)) else (0 : Int32)) else (0 : Int32)))] [(.int (if b0 = (-17 : Int32) then (if b1 = (-69 : Int32) then (if b2 = (-65 : Int32) then (3 : Int32) else (0 : Int32)) else (0 : Int32)) else (0 : Int32))), (.int (if b0 = (-17 : Int32) then (if b1 = (-69 : Int32) then (if b2 = (-65 : Int32) then (3 : Int32) else (0 : Int32)) else (0 : Int32)) else (0 : Int32)))])) t → Steps p.tables e below (s₁.setTop (entryFrame m #[(.int p1), (.int p2), (.int p3), (.int p4), (.int p5), (.int p6)] maxLocals)) t := by
        intro t k
        refine pre_200 t ?_
        show Steps p.tables e below (T199.setTop (mkF m 189 #[.val (.int p1), .val (.int p2), .val (.int p3), .val (.int p4), .val (.int p5), .val (.int p6), .val (.int (5 : Int32)), .val (.int ln), .val (.int b0), .val (.int b1), .val (.int b2), .val (.int b3), .val (.int b4), .val (.ref m170), .val (.int (if b0 = (-17 : Int32) then (if b1 = (-69 : Int32) then (if b2 = (-65 : Int32) then (3 : Int32) else (0 : Int32)) else (0 : Int32)) else (0 : Int32))), .unset] [(.int (if b0 = (-17 : Int32) then (if b1 = (-69 : Int32) then (if b2 = (-65 : Int32) then (3 : Int32) else (0 : Int32)) else (0 : Int32)) else (0 : Int32)))])) _
        refine XS.istore X199.here hx rfl (hb hby at_189) rfl (l' := #[.val (.int p1), .val (.int p2), .val (.int p3), .val (.int p4), .val (.int p5), .val (.int p6), .val (.int (5 : Int32)), .val (.int ln), .val (.int b0), .val (.int b1), .val (.int b2), .val (.int b3), .val (.int b4), .val (.ref m170), .val (.int (if b0 = (-17 : Int32) then (if b1 = (-69 : Int32) then (if b2 = (-65 : Int32) then (3 : Int32) else (0 : Int32)) else (0 : Int32)) else (0 : Int32))), .val (.int (if b0 = (-17 : Int32) then (if b1 = (-69 : Int32) then (if b2 = (-65 : Int32) then (3 : Int32) else (0 : Int32)) else (0 : Int32)) else (0 : Int32)))]) rfl ?_
        show Steps p.tables e below (T199.setTop (mkF m 191 #[.val (.int p1), .val (.int p2), .val (.int p3), .val (.int p4), .val (.int p5), .val (.int p6), .val (.int (5 : Int32)), .val (.int ln), .val (.int b0), .val (.int b1), .val (.int b2), .val (.int b3), .val (.int b4), .val (.ref m170), .val (.int (if b0 = (-17 : Int32) then (if b1 = (-69 : Int32) then (if b2 = (-65 : Int32) then (3 : Int32) else (0 : Int32)) else (0 : Int32)) else (0 : Int32))), .val (.int (if b0 = (-17 : Int32) then (if b1 = (-69 : Int32) then (if b2 = (-65 : Int32) then (3 : Int32) else (0 : Int32)) else (0 : Int32)) else (0 : Int32)))] [])) _
        refine XS.iload X199.here hx rfl (hb hby at_191) rfl ?_
        show Steps p.tables e below (T199.setTop (mkF m 193 #[.val (.int p1), .val (.int p2), .val (.int p3), .val (.int p4), .val (.int p5), .val (.int p6), .val (.int (5 : Int32)), .val (.int ln), .val (.int b0), .val (.int b1), .val (.int b2), .val (.int b3), .val (.int b4), .val (.ref m170), .val (.int (if b0 = (-17 : Int32) then (if b1 = (-69 : Int32) then (if b2 = (-65 : Int32) then (3 : Int32) else (0 : Int32)) else (0 : Int32)) else (0 : Int32))), .val (.int (if b0 = (-17 : Int32) then (if b1 = (-69 : Int32) then (if b2 = (-65 : Int32) then (3 : Int32) else (0 : Int32)) else (0 : Int32)) else (0 : Int32)))] [(.int (if b0 = (-17 : Int32) then (if b1 = (-69 : Int32) then (if b2 = (-65 : Int32) then (3 : Int32) else (0 : Int32)) else (0 : Int32)) else (0 : Int32)))])) _
        refine XS.iload X199.here hx rfl (hb hby at_193) rfl ?_
        show Steps p.tables e below (T199.setTop (mkF m 195 #[.val (.int p1), .val (.int p2), .val (.int p3), .val (.int p4), .val (.int p5), .val (.int p6), .val (.int (5 : Int32)), .val (.int ln), .val (.int b0), .val (.int b1), .val (.int b2), .val (.int b3), .val (.int b4), .val (.ref m170), .val (.int (if b0 = (-17 : Int32) then (if b1 = (-69 : Int32) then (if b2 = (-65 : Int32) then (3 : Int32) else (0 : Int32)) else (0 : Int32)) else (0 : Int32))), .val (.int (if b0 = (-17 : Int32) then (if b1 = (-69 : Int32) then (if b2 = (-65 : Int32) then (3 : Int32) else (0 : Int32)) else (0 : Int32)) else (0 : Int32)))] [(.int (if b0 = (-17 : Int32) then (if b1 = (-69 : Int32) then (if b2 = (-65 : Int32) then (3 : Int32) else (0 : Int32)) else (0 : Int32)) else (0 : Int32))), (.int (if b0 = (-17 : Int32) then (if b1 = (-69 : Int32) then (if b2 = (-65 : Int32) then (3 : Int32) else (0 : Int32)) else (0 : Int32)) else (0 : Int32)))])) _
        exact k
      by_cases hc202 : b0 = (-17 : Int32)
      · skip
        by_cases hc203 : b1 = (-69 : Int32)
        · skip
          by_cases hc204 : b2 = (-65 : Int32)
          · skip
            have pre_205 : ∀ t, Steps p.tables e below (T199.setTop (mkF m 203 #[.val (.int p1), .val (.int p2), .val (.int p3), .val (.int p4), .val (.int p5), .val (.int p6), .val (.int (5 : Int32)), .val (.int ln), .val (.int b0), .val (.int b1), .val (.int b2), .val (.int b3), .val (.int b4), .val (.ref m170), .val (.int (if b0 = (-17 : Int32) then (if b1 = (-69 : Int32) then (if b2 = (-65 : Int32) then (3 : Int32) else (0 : Int32)) else (0 : Int32)) else (0 : Int32))), .val (.int (if b0 = (-17 : Int32) then (if b1 = (-69 : Int32) then (if b2 = (-65 : Int32) then (3 : Int32) else (0 : Int32)) else (0 : Int32)) else (0 : Int32)))] [(.int (1 : Int32))])) t → Steps p.tables e below (s₁.setTop (entryFrame m #[(.int p1), (.int p2), (.int p3), (.int p4), (.int p5), (.int p6)] maxLocals)) t := by
              intro t k
              refine pre_201 t ?_
              show Steps p.tables e below (T199.setTop (mkF m 195 #[.val (.int p1), .val (.int p2), .val (.int p3), .val (.int p4), .val (.int p5), .val (.int p6), .val (.int (5 : Int32)), .val (.int ln), .val (.int b0), .val (.int b1), .val (.int b2), .val (.int b3), .val (.int b4), .val (.ref m170), .val (.int (if b0 = (-17 : Int32) then (if b1 = (-69 : Int32) then (if b2 = (-65 : Int32) then (3 : Int32) else (0 : Int32)) else (0 : Int32)) else (0 : Int32))), .val (.int (if b0 = (-17 : Int32) then (if b1 = (-69 : Int32) then (if b2 = (-65 : Int32) then (3 : Int32) else (0 : Int32)) else (0 : Int32)) else (0 : Int32)))] [(.int (if b0 = (-17 : Int32) then (if b1 = (-69 : Int32) then (if b2 = (-65 : Int32) then (3 : Int32) else (0 : Int32)) else (0 : Int32)) else (0 : Int32))), (.int (if b0 = (-17 : Int32) then (if b1 = (-69 : Int32) then (if b2 = (-65 : Int32) then (3 : Int32) else (0 : Int32)) else (0 : Int32)) else (0 : Int32)))])) _
              refine XS.icmpNo X199.here hx rfl (hb hby at_195) rfl (XT.ii_ne_f (by simp only [if_pos hc202, if_pos hc203, if_pos hc204] <;> decide)) ?_
              show Steps p.tables e below (T199.setTop (mkF m 198 #[.val (.int p1), .val (.int p2), .val (.int p3), .val (.int p4), .val (.int p5), .val (.int p6), .val (.int (5 : Int32)), .val (.int ln), .val (.int b0), .val (.int b1), .val (.int b2), .val (.int b3), .val (.int b4), .val (.ref m170), .val (.int (if b0 = (-17 : Int32) then (if b1 = (-69 : Int32) then (if b2 = (-65 : Int32) then (3 : Int32) else (0 : Int32)) else (0 : Int32)) else (0 : Int32))), .val (.int (if b0 = (-17 : Int32) then (if b1 = (-69 : Int32) then (if b2 = (-65 : Int32) then (3 : Int32) else (0 : Int32)) else (0 : Int32)) else (0 : Int32)))] [])) _
              refine XS.iconst X199.here hx rfl (hb hby at_198) ?_
              show Steps p.tables e below (T199.setTop (mkF m 199 #[.val (.int p1), .val (.int p2), .val (.int p3), .val (.int p4), .val (.int p5), .val (.int p6), .val (.int (5 : Int32)), .val (.int ln), .val (.int b0), .val (.int b1), .val (.int b2), .val (.int b3), .val (.int b4), .val (.ref m170), .val (.int (if b0 = (-17 : Int32) then (if b1 = (-69 : Int32) then (if b2 = (-65 : Int32) then (3 : Int32) else (0 : Int32)) else (0 : Int32)) else (0 : Int32))), .val (.int (if b0 = (-17 : Int32) then (if b1 = (-69 : Int32) then (if b2 = (-65 : Int32) then (3 : Int32) else (0 : Int32)) else (0 : Int32)) else (0 : Int32)))] [(.int (1 : Int32))])) _
              refine XS.goto X199.here hx rfl (pc0 := 199) (pc' := 203) rfl (hb hby at_199) (by decide) (by decide) ?_
              show Steps p.tables e below (T199.setTop (mkF m 203 #[.val (.int p1), .val (.int p2), .val (.int p3), .val (.int p4), .val (.int p5), .val (.int p6), .val (.int (5 : Int32)), .val (.int ln), .val (.int b0), .val (.int b1), .val (.int b2), .val (.int b3), .val (.int b4), .val (.ref m170), .val (.int (if b0 = (-17 : Int32) then (if b1 = (-69 : Int32) then (if b2 = (-65 : Int32) then (3 : Int32) else (0 : Int32)) else (0 : Int32)) else (0 : Int32))), .val (.int (if b0 = (-17 : Int32) then (if b1 = (-69 : Int32) then (if b2 = (-65 : Int32) then (3 : Int32) else (0 : Int32)) else (0 : Int32)) else (0 : Int32)))] [(.int (1 : Int32))])) _
              exact k
            obtain ⟨fs, hr, hrun, hended, hW, hsame⟩ := X199.leave (v := some (.int (1 : Int32))) (fun h => by rw [Bd.returns] at h; cases h)
            refine ⟨_, _, pre_205 _ ?_, hrun, hended, _, _, rfl, ?_, ⟨_, rfl⟩, hW, hsame.mono (by decide) (by decide)⟩
            · show Steps p.tables e below (T199.setTop (mkF m 203 #[.val (.int p1), .val (.int p2), .val (.int p3), .val (.int p4), .val (.int p5), .val (.int p6), .val (.int (5 : Int32)), .val (.int ln), .val (.int b0), .val (.int b1), .val (.int b2), .val (.int b3), .val (.int b4), .val (.ref m170), .val (.int (if b0 = (-17 : Int32) then (if b1 = (-69 : Int32) then (if b2 = (-65 : Int32) then (3 : Int32) else (0 : Int32)) else (0 : Int32)) else (0 : Int32))), .val (.int (if b0 = (-17 : Int32) then (if b1 = (-69 : Int32) then (if b2 = (-65 : Int32) then (3 : Int32) else (0 : Int32)) else (0 : Int32)) else (0 : Int32)))] [(.int (1 : Int32))])) _
              exact retN X199 hx (t := .boolean) Bd.returns (by simp) (hb hby at_203) hr
            · show Q_law Z p1 p2 p3 p4 p5 p6 aB kB h0 n0 _ T199.heap _
              rw [e199]
              exact ⟨rfl, N199⟩
          · skip
            have pre_206 : ∀ t, Steps p.tables e below (T199.setTop (mkF m 203 #[.val (.int p1), .val (.int p2), .val (.int p3), .val (.int p4), .val (.int p5), .val (.int p6), .val (.int (5 : Int32)), .val (.int ln), .val (.int b0), .val (.int b1), .val (.int b2), .val (.int b3), .val (.int b4), .val (.ref m170), .val (.int (if b0 = (-17 : Int32) then (if b1 = (-69 : Int32) then (if b2 = (-65 : Int32) then (3 : Int32) else (0 : Int32)) else (0 : Int32)) else (0 : Int32))), .val (.int (if b0 = (-17 : Int32) then (if b1 = (-69 : Int32) then (if b2 = (-65 : Int32) then (3 : Int32) else (0 : Int32)) else (0 : Int32)) else (0 : Int32)))] [(.int (1 : Int32))])) t → Steps p.tables e below (s₁.setTop (entryFrame m #[(.int p1), (.int p2), (.int p3), (.int p4), (.int p5), (.int p6)] maxLocals)) t := by
              intro t k
              refine pre_201 t ?_
              show Steps p.tables e below (T199.setTop (mkF m 195 #[.val (.int p1), .val (.int p2), .val (.int p3), .val (.int p4), .val (.int p5), .val (.int p6), .val (.int (5 : Int32)), .val (.int ln), .val (.int b0), .val (.int b1), .val (.int b2), .val (.int b3), .val (.int b4), .val (.ref m170), .val (.int (if b0 = (-17 : Int32) then (if b1 = (-69 : Int32) then (if b2 = (-65 : Int32) then (3 : Int32) else (0 : Int32)) else (0 : Int32)) else (0 : Int32))), .val (.int (if b0 = (-17 : Int32) then (if b1 = (-69 : Int32) then (if b2 = (-65 : Int32) then (3 : Int32) else (0 : Int32)) else (0 : Int32)) else (0 : Int32)))] [(.int (if b0 = (-17 : Int32) then (if b1 = (-69 : Int32) then (if b2 = (-65 : Int32) then (3 : Int32) else (0 : Int32)) else (0 : Int32)) else (0 : Int32))), (.int (if b0 = (-17 : Int32) then (if b1 = (-69 : Int32) then (if b2 = (-65 : Int32) then (3 : Int32) else (0 : Int32)) else (0 : Int32)) else (0 : Int32)))])) _
              refine XS.icmpNo X199.here hx rfl (hb hby at_195) rfl (XT.ii_ne_f (by simp only [if_pos hc202, if_pos hc203, if_neg hc204] <;> decide)) ?_
              show Steps p.tables e below (T199.setTop (mkF m 198 #[.val (.int p1), .val (.int p2), .val (.int p3), .val (.int p4), .val (.int p5), .val (.int p6), .val (.int (5 : Int32)), .val (.int ln), .val (.int b0), .val (.int b1), .val (.int b2), .val (.int b3), .val (.int b4), .val (.ref m170), .val (.int (if b0 = (-17 : Int32) then (if b1 = (-69 : Int32) then (if b2 = (-65 : Int32) then (3 : Int32) else (0 : Int32)) else (0 : Int32)) else (0 : Int32))), .val (.int (if b0 = (-17 : Int32) then (if b1 = (-69 : Int32) then (if b2 = (-65 : Int32) then (3 : Int32) else (0 : Int32)) else (0 : Int32)) else (0 : Int32)))] [])) _
              refine XS.iconst X199.here hx rfl (hb hby at_198) ?_
              show Steps p.tables e below (T199.setTop (mkF m 199 #[.val (.int p1), .val (.int p2), .val (.int p3), .val (.int p4), .val (.int p5), .val (.int p6), .val (.int (5 : Int32)), .val (.int ln), .val (.int b0), .val (.int b1), .val (.int b2), .val (.int b3), .val (.int b4), .val (.ref m170), .val (.int (if b0 = (-17 : Int32) then (if b1 = (-69 : Int32) then (if b2 = (-65 : Int32) then (3 : Int32) else (0 : Int32)) else (0 : Int32)) else (0 : Int32))), .val (.int (if b0 = (-17 : Int32) then (if b1 = (-69 : Int32) then (if b2 = (-65 : Int32) then (3 : Int32) else (0 : Int32)) else (0 : Int32)) else (0 : Int32)))] [(.int (1 : Int32))])) _
              refine XS.goto X199.here hx rfl (pc0 := 199) (pc' := 203) rfl (hb hby at_199) (by decide) (by decide) ?_
              show Steps p.tables e below (T199.setTop (mkF m 203 #[.val (.int p1), .val (.int p2), .val (.int p3), .val (.int p4), .val (.int p5), .val (.int p6), .val (.int (5 : Int32)), .val (.int ln), .val (.int b0), .val (.int b1), .val (.int b2), .val (.int b3), .val (.int b4), .val (.ref m170), .val (.int (if b0 = (-17 : Int32) then (if b1 = (-69 : Int32) then (if b2 = (-65 : Int32) then (3 : Int32) else (0 : Int32)) else (0 : Int32)) else (0 : Int32))), .val (.int (if b0 = (-17 : Int32) then (if b1 = (-69 : Int32) then (if b2 = (-65 : Int32) then (3 : Int32) else (0 : Int32)) else (0 : Int32)) else (0 : Int32)))] [(.int (1 : Int32))])) _
              exact k
            obtain ⟨fs, hr, hrun, hended, hW, hsame⟩ := X199.leave (v := some (.int (1 : Int32))) (fun h => by rw [Bd.returns] at h; cases h)
            refine ⟨_, _, pre_206 _ ?_, hrun, hended, _, _, rfl, ?_, ⟨_, rfl⟩, hW, hsame.mono (by decide) (by decide)⟩
            · show Steps p.tables e below (T199.setTop (mkF m 203 #[.val (.int p1), .val (.int p2), .val (.int p3), .val (.int p4), .val (.int p5), .val (.int p6), .val (.int (5 : Int32)), .val (.int ln), .val (.int b0), .val (.int b1), .val (.int b2), .val (.int b3), .val (.int b4), .val (.ref m170), .val (.int (if b0 = (-17 : Int32) then (if b1 = (-69 : Int32) then (if b2 = (-65 : Int32) then (3 : Int32) else (0 : Int32)) else (0 : Int32)) else (0 : Int32))), .val (.int (if b0 = (-17 : Int32) then (if b1 = (-69 : Int32) then (if b2 = (-65 : Int32) then (3 : Int32) else (0 : Int32)) else (0 : Int32)) else (0 : Int32)))] [(.int (1 : Int32))])) _
              exact retN X199 hx (t := .boolean) Bd.returns (by simp) (hb hby at_203) hr
            · show Q_law Z p1 p2 p3 p4 p5 p6 aB kB h0 n0 _ T199.heap _
              rw [e199]
              exact ⟨rfl, N199⟩
        · skip
          have pre_207 : ∀ t, Steps p.tables e below (T199.setTop (mkF m 203 #[.val (.int p1), .val (.int p2), .val (.int p3), .val (.int p4), .val (.int p5), .val (.int p6), .val (.int (5 : Int32)), .val (.int ln), .val (.int b0), .val (.int b1), .val (.int b2), .val (.int b3), .val (.int b4), .val (.ref m170), .val (.int (if b0 = (-17 : Int32) then (if b1 = (-69 : Int32) then (if b2 = (-65 : Int32) then (3 : Int32) else (0 : Int32)) else (0 : Int32)) else (0 : Int32))), .val (.int (if b0 = (-17 : Int32) then (if b1 = (-69 : Int32) then (if b2 = (-65 : Int32) then (3 : Int32) else (0 : Int32)) else (0 : Int32)) else (0 : Int32)))] [(.int (1 : Int32))])) t → Steps p.tables e below (s₁.setTop (entryFrame m #[(.int p1), (.int p2), (.int p3), (.int p4), (.int p5), (.int p6)] maxLocals)) t := by
            intro t k
            refine pre_201 t ?_
            show Steps p.tables e below (T199.setTop (mkF m 195 #[.val (.int p1), .val (.int p2), .val (.int p3), .val (.int p4), .val (.int p5), .val (.int p6), .val (.int (5 : Int32)), .val (.int ln), .val (.int b0), .val (.int b1), .val (.int b2), .val (.int b3), .val (.int b4), .val (.ref m170), .val (.int (if b0 = (-17 : Int32) then (if b1 = (-69 : Int32) then (if b2 = (-65 : Int32) then (3 : Int32) else (0 : Int32)) else (0 : Int32)) else (0 : Int32))), .val (.int (if b0 = (-17 : Int32) then (if b1 = (-69 : Int32) then (if b2 = (-65 : Int32) then (3 : Int32) else (0 : Int32)) else (0 : Int32)) else (0 : Int32)))] [(.int (if b0 = (-17 : Int32) then (if b1 = (-69 : Int32) then (if b2 = (-65 : Int32) then (3 : Int32) else (0 : Int32)) else (0 : Int32)) else (0 : Int32))), (.int (if b0 = (-17 : Int32) then (if b1 = (-69 : Int32) then (if b2 = (-65 : Int32) then (3 : Int32) else (0 : Int32)) else (0 : Int32)) else (0 : Int32)))])) _
            refine XS.icmpNo X199.here hx rfl (hb hby at_195) rfl (XT.ii_ne_f (by simp only [if_pos hc202, if_neg hc203] <;> decide)) ?_
            show Steps p.tables e below (T199.setTop (mkF m 198 #[.val (.int p1), .val (.int p2), .val (.int p3), .val (.int p4), .val (.int p5), .val (.int p6), .val (.int (5 : Int32)), .val (.int ln), .val (.int b0), .val (.int b1), .val (.int b2), .val (.int b3), .val (.int b4), .val (.ref m170), .val (.int (if b0 = (-17 : Int32) then (if b1 = (-69 : Int32) then (if b2 = (-65 : Int32) then (3 : Int32) else (0 : Int32)) else (0 : Int32)) else (0 : Int32))), .val (.int (if b0 = (-17 : Int32) then (if b1 = (-69 : Int32) then (if b2 = (-65 : Int32) then (3 : Int32) else (0 : Int32)) else (0 : Int32)) else (0 : Int32)))] [])) _
            refine XS.iconst X199.here hx rfl (hb hby at_198) ?_
            show Steps p.tables e below (T199.setTop (mkF m 199 #[.val (.int p1), .val (.int p2), .val (.int p3), .val (.int p4), .val (.int p5), .val (.int p6), .val (.int (5 : Int32)), .val (.int ln), .val (.int b0), .val (.int b1), .val (.int b2), .val (.int b3), .val (.int b4), .val (.ref m170), .val (.int (if b0 = (-17 : Int32) then (if b1 = (-69 : Int32) then (if b2 = (-65 : Int32) then (3 : Int32) else (0 : Int32)) else (0 : Int32)) else (0 : Int32))), .val (.int (if b0 = (-17 : Int32) then (if b1 = (-69 : Int32) then (if b2 = (-65 : Int32) then (3 : Int32) else (0 : Int32)) else (0 : Int32)) else (0 : Int32)))] [(.int (1 : Int32))])) _
            refine XS.goto X199.here hx rfl (pc0 := 199) (pc' := 203) rfl (hb hby at_199) (by decide) (by decide) ?_
            show Steps p.tables e below (T199.setTop (mkF m 203 #[.val (.int p1), .val (.int p2), .val (.int p3), .val (.int p4), .val (.int p5), .val (.int p6), .val (.int (5 : Int32)), .val (.int ln), .val (.int b0), .val (.int b1), .val (.int b2), .val (.int b3), .val (.int b4), .val (.ref m170), .val (.int (if b0 = (-17 : Int32) then (if b1 = (-69 : Int32) then (if b2 = (-65 : Int32) then (3 : Int32) else (0 : Int32)) else (0 : Int32)) else (0 : Int32))), .val (.int (if b0 = (-17 : Int32) then (if b1 = (-69 : Int32) then (if b2 = (-65 : Int32) then (3 : Int32) else (0 : Int32)) else (0 : Int32)) else (0 : Int32)))] [(.int (1 : Int32))])) _
            exact k
          obtain ⟨fs, hr, hrun, hended, hW, hsame⟩ := X199.leave (v := some (.int (1 : Int32))) (fun h => by rw [Bd.returns] at h; cases h)
          refine ⟨_, _, pre_207 _ ?_, hrun, hended, _, _, rfl, ?_, ⟨_, rfl⟩, hW, hsame.mono (by decide) (by decide)⟩
          · show Steps p.tables e below (T199.setTop (mkF m 203 #[.val (.int p1), .val (.int p2), .val (.int p3), .val (.int p4), .val (.int p5), .val (.int p6), .val (.int (5 : Int32)), .val (.int ln), .val (.int b0), .val (.int b1), .val (.int b2), .val (.int b3), .val (.int b4), .val (.ref m170), .val (.int (if b0 = (-17 : Int32) then (if b1 = (-69 : Int32) then (if b2 = (-65 : Int32) then (3 : Int32) else (0 : Int32)) else (0 : Int32)) else (0 : Int32))), .val (.int (if b0 = (-17 : Int32) then (if b1 = (-69 : Int32) then (if b2 = (-65 : Int32) then (3 : Int32) else (0 : Int32)) else (0 : Int32)) else (0 : Int32)))] [(.int (1 : Int32))])) _
            exact retN X199 hx (t := .boolean) Bd.returns (by simp) (hb hby at_203) hr
          · show Q_law Z p1 p2 p3 p4 p5 p6 aB kB h0 n0 _ T199.heap _
            rw [e199]
            exact ⟨rfl, N199⟩
      · skip
        have pre_208 : ∀ t, Steps p.tables e below (T199.setTop (mkF m 203 #[.val (.int p1), .val (.int p2), .val (.int p3), .val (.int p4), .val (.int p5), .val (.int p6), .val (.int (5 : Int32)), .val (.int ln), .val (.int b0), .val (.int b1), .val (.int b2), .val (.int b3), .val (.int b4), .val (.ref m170), .val (.int (if b0 = (-17 : Int32) then (if b1 = (-69 : Int32) then (if b2 = (-65 : Int32) then (3 : Int32) else (0 : Int32)) else (0 : Int32)) else (0 : Int32))), .val (.int (if b0 = (-17 : Int32) then (if b1 = (-69 : Int32) then (if b2 = (-65 : Int32) then (3 : Int32) else (0 : Int32)) else (0 : Int32)) else (0 : Int32)))] [(.int (1 : Int32))])) t → Steps p.tables e below (s₁.setTop (entryFrame m #[(.int p1), (.int p2), (.int p3), (.int p4), (.int p5), (.int p6)] maxLocals)) t := by
          intro t k
          refine pre_201 t ?_
          show Steps p.tables e below (T199.setTop (mkF m 195 #[.val (.int p1), .val (.int p2), .val (.int p3), .val (.int p4), .val (.int p5), .val (.int p6), .val (.int (5 : Int32)), .val (.int ln), .val (.int b0), .val (.int b1), .val (.int b2), .val (.int b3), .val (.int b4), .val (.ref m170), .val (.int (if b0 = (-17 : Int32) then (if b1 = (-69 : Int32) then (if b2 = (-65 : Int32) then (3 : Int32) else (0 : Int32)) else (0 : Int32)) else (0 : Int32))), .val (.int (if b0 = (-17 : Int32) then (if b1 = (-69 : Int32) then (if b2 = (-65 : Int32) then (3 : Int32) else (0 : Int32)) else (0 : Int32)) else (0 : Int32)))] [(.int (if b0 = (-17 : Int32) then (if b1 = (-69 : Int32) then (if b2 = (-65 : Int32) then (3 : Int32) else (0 : Int32)) else (0 : Int32)) else (0 : Int32))), (.int (if b0 = (-17 : Int32) then (if b1 = (-69 : Int32) then (if b2 = (-65 : Int32) then (3 : Int32) else (0 : Int32)) else (0 : Int32)) else (0 : Int32)))])) _
          refine XS.icmpNo X199.here hx rfl (hb hby at_195) rfl (XT.ii_ne_f (by simp only [if_neg hc202] <;> decide)) ?_
          show Steps p.tables e below (T199.setTop (mkF m 198 #[.val (.int p1), .val (.int p2), .val (.int p3), .val (.int p4), .val (.int p5), .val (.int p6), .val (.int (5 : Int32)), .val (.int ln), .val (.int b0), .val (.int b1), .val (.int b2), .val (.int b3), .val (.int b4), .val (.ref m170), .val (.int (if b0 = (-17 : Int32) then (if b1 = (-69 : Int32) then (if b2 = (-65 : Int32) then (3 : Int32) else (0 : Int32)) else (0 : Int32)) else (0 : Int32))), .val (.int (if b0 = (-17 : Int32) then (if b1 = (-69 : Int32) then (if b2 = (-65 : Int32) then (3 : Int32) else (0 : Int32)) else (0 : Int32)) else (0 : Int32)))] [])) _
          refine XS.iconst X199.here hx rfl (hb hby at_198) ?_
          show Steps p.tables e below (T199.setTop (mkF m 199 #[.val (.int p1), .val (.int p2), .val (.int p3), .val (.int p4), .val (.int p5), .val (.int p6), .val (.int (5 : Int32)), .val (.int ln), .val (.int b0), .val (.int b1), .val (.int b2), .val (.int b3), .val (.int b4), .val (.ref m170), .val (.int (if b0 = (-17 : Int32) then (if b1 = (-69 : Int32) then (if b2 = (-65 : Int32) then (3 : Int32) else (0 : Int32)) else (0 : Int32)) else (0 : Int32))), .val (.int (if b0 = (-17 : Int32) then (if b1 = (-69 : Int32) then (if b2 = (-65 : Int32) then (3 : Int32) else (0 : Int32)) else (0 : Int32)) else (0 : Int32)))] [(.int (1 : Int32))])) _
          refine XS.goto X199.here hx rfl (pc0 := 199) (pc' := 203) rfl (hb hby at_199) (by decide) (by decide) ?_
          show Steps p.tables e below (T199.setTop (mkF m 203 #[.val (.int p1), .val (.int p2), .val (.int p3), .val (.int p4), .val (.int p5), .val (.int p6), .val (.int (5 : Int32)), .val (.int ln), .val (.int b0), .val (.int b1), .val (.int b2), .val (.int b3), .val (.int b4), .val (.ref m170), .val (.int (if b0 = (-17 : Int32) then (if b1 = (-69 : Int32) then (if b2 = (-65 : Int32) then (3 : Int32) else (0 : Int32)) else (0 : Int32)) else (0 : Int32))), .val (.int (if b0 = (-17 : Int32) then (if b1 = (-69 : Int32) then (if b2 = (-65 : Int32) then (3 : Int32) else (0 : Int32)) else (0 : Int32)) else (0 : Int32)))] [(.int (1 : Int32))])) _
          exact k
        obtain ⟨fs, hr, hrun, hended, hW, hsame⟩ := X199.leave (v := some (.int (1 : Int32))) (fun h => by rw [Bd.returns] at h; cases h)
        refine ⟨_, _, pre_208 _ ?_, hrun, hended, _, _, rfl, ?_, ⟨_, rfl⟩, hW, hsame.mono (by decide) (by decide)⟩
        · show Steps p.tables e below (T199.setTop (mkF m 203 #[.val (.int p1), .val (.int p2), .val (.int p3), .val (.int p4), .val (.int p5), .val (.int p6), .val (.int (5 : Int32)), .val (.int ln), .val (.int b0), .val (.int b1), .val (.int b2), .val (.int b3), .val (.int b4), .val (.ref m170), .val (.int (if b0 = (-17 : Int32) then (if b1 = (-69 : Int32) then (if b2 = (-65 : Int32) then (3 : Int32) else (0 : Int32)) else (0 : Int32)) else (0 : Int32))), .val (.int (if b0 = (-17 : Int32) then (if b1 = (-69 : Int32) then (if b2 = (-65 : Int32) then (3 : Int32) else (0 : Int32)) else (0 : Int32)) else (0 : Int32)))] [(.int (1 : Int32))])) _
          exact retN X199 hx (t := .boolean) Bd.returns (by simp) (hb hby at_203) hr
        · show Q_law Z p1 p2 p3 p4 p5 p6 aB kB h0 n0 _ T199.heap _
          rw [e199]
          exact ⟨rfl, N199⟩
set_option maxRecDepth 65536 in
set_option maxHeartbeats 40000000 in
theorem comes_1 {Post : Tables → Env → Array Value → State → Outcome → State → Prop} (hpost : ∀ tb e args s v u, (limb_1_1.after args s (.returned v) u = true ∧ limb_1_2.after args s (.returned v) u = true ∧ True) → FrameEnd s (.returned v) u (Jvm.fieldLocs frame_1_writes args s ++ Jvm.arrayLocs frame_1_arrays args s ++ Jvm.staticLocs frame_1_statics s) 16 128 → Post tb e args s (.returned v) u) :
    ArmFor flags0 classFile x code maxLocals ret World_1 tables_1 room_1 Calls_1 rest_1 Pre_1 Post := by
  intro l hfl _ _ p e ha hc hk s m args below hf hA hF happ hP
  obtain ⟨hcalls, hrest, hpre⟩ := hP
  obtain ⟨-, -, -, hnamed, -, -, -, hat⟩ := (Spec.applies_iff hf).mp happ
  obtain ⟨hg, hn⟩ := and_e (Cond.before_iff.mp (show (Jvm.Cond.and given_1 narrow_1).before args s = true from hpre))
  obtain ⟨hg0, hgs⟩ := and_e hg
  obtain ⟨w0, w1, w2, w3, w4, w5, rfl⟩ : ∃ w0 w1 w2 w3 w4 w5 : Value, args = #[w0, w1, w2, w3, w4, w5] := by
    have hs : args.size = 6 := by simpa [Cond.value, given_1] using hg0
    obtain ⟨L⟩ := args
    match L, hs with
    | [w0, w1, w2, w3, w4, w5], _ => exact ⟨w0, w1, w2, w3, w4, w5, rfl⟩
  have hw := fun d (hd : d ∈ tables_1) => atoms_spec (ws := Jvm.Cond.code x code maxLocals ret :: tables_1) hat d (List.mem_cons_of_mem _ hd)
  have hfit : Fit s := fun {y c} hc i hi => by
    obtain ⟨ha, rfl⟩ := Array.getElem?_eq_some_iff.mp hc
    have q := List.all_eq_true.mp ((Array.all_eq_true_iff_forall_mem.mp hF) _ (Array.getElem_mem ha)) i (List.mem_range.mpr hi)
    simpa [Array.getElem?_eq_getElem hi] using q
  obtain ⟨ha0, hgs0⟩ := and_e hgs
  obtain ⟨i0, ei0⟩ := is_v ha0
  obtain rfl : w0 = (.int i0) := Option.some.inj ei0
  obtain ⟨ha1, hgs1⟩ := and_e hgs0
  obtain ⟨i1, ei1⟩ := is_v ha1
  obtain rfl : w1 = (.int i1) := Option.some.inj ei1
  obtain ⟨ha2, hgs2⟩ := and_e hgs1
  obtain ⟨i2, ei2⟩ := is_v ha2
  obtain rfl : w2 = (.int i2) := Option.some.inj ei2
  obtain ⟨ha3, hgs3⟩ := and_e hgs2
  obtain ⟨i3, ei3⟩ := is_v ha3
  obtain rfl : w3 = (.int i3) := Option.some.inj ei3
  obtain ⟨ha4, hgs4⟩ := and_e hgs3
  obtain ⟨i4, ei4⟩ := is_v ha4
  obtain rfl : w4 = (.int i4) := Option.some.inj ei4
  obtain ⟨i5, ei5⟩ := is_v hgs4
  obtain rfl : w5 = (.int i5) := Option.some.inj ei5
  obtain ⟨hn0, hr0⟩ := and_e hn
  obtain ⟨hn1, hr1⟩ := and_e hr0
  obtain ⟨hn2, hr2⟩ := and_e hr1
  obtain ⟨hn3, hr3⟩ := and_e hr2
  have hn4 := hr3
  obtain ⟨aB, evB⟩ := arr_v hn0
  obtain ⟨clB, ArB⟩ := Arr.start evB hn0
  have qB := own_len evB (ArB.fin (Vm.Alike.refl _)) (own_eqc hn1)
  have SB := Sta.start evB (Or.inr ⟨(hw _ (List.mem_of_getElem? (i := 8) rfl)), (hw _ (List.mem_of_getElem? (i := 11) rfl))⟩)
  have VB : Arv s s.heap aB clB.cls .byte (3 : Int32) [(.int (-17 : Int32)), (.int (-69 : Int32)), (.int (-65 : Int32))] (.int (0 : Int32)) := Arv.start hfit ArB qB.1 qB.2 (by decide) rfl ⟨(elem_in (own_eqc hn2) evB (Term.int_eval _) ArB.1).2, (elem_in (own_eqc hn3) evB (Term.int_eval _) ArB.1).2, (elem_in (own_eqc hn4) evB (Term.int_eval _) ArB.1).2, trivial⟩
  obtain ⟨n, o, h1, h2, h3, _, L, rfl, ⟨rfl, N⟩, hq⟩ := rm_law l s _ hw tables_1 i0 i1 i2 i3 i4 i5 aB clB.cls s.heap s.heap.size (Old.start s) SB VB p e ha hc hk s m _ below hf ((Spec.applies_iff_loose hf).mp happ).1 ⟨rfl, State.Warmed39.refl s, rfl⟩ trivial
  refine ⟨n, _, h1, h2, h3, hpost _ _ _ _ _ _ ⟨Cond.after_iff.mpr rfl, Cond.after_iff.mpr (eq_i res_at (Term.int_eval (1)) rfl), trivial⟩ ⟨hq.1, hq.2.1, (hq.2.2.sift fun y hy => Or.inr (N y hy)).mono (by decide) (by decide)⟩⟩
theorem main_1_1 : Claimed_1_1 := comes_1 fun _ _ _ _ _ _ h hF => ⟨h.1, hF⟩
theorem main_1_2 : Claimed_1_2 := comes_1 fun _ _ _ _ _ _ h hF => ⟨h.2.1, hF⟩
end Jvm.Pilot.@@N@@
namespace Jvm.Pilot.@@N@@
open Jvm Jvm.ClassFile Sem Op Lib Jvm.Free Jvm.Stand Jvm.Pilot.@@N@@.Jvm.D
/-! MADE BY PROGRAM (witnessworld.py) out of the Statement's table words and the real class files: 11 classes; the members and pool entries that the words name. The judged class is class 1, her method 2. -/
namespace start1
open Jvm.ClassFile
def u (s : String) : CpInfo := .utf8 (stringToUtf16 s)
/-- a pool by its gaps: so many unusable entries, then the entry; so many at the end -/
def gap : Nat → List CpInfo → List CpInfo
  | 0, r => r
  | n + 1, r => .unusable :: gap n r
def poolList (es : List (Nat × CpInfo)) (last : Nat) : List CpInfo := es.foldr (fun e r => gap e.1 (e.2 :: r)) (gap last [])
def pool (es : List (Nat × CpInfo)) (last : Nat) : Array CpInfo := ⟨poolList es last⟩
def fileOf (pool : Array CpInfo) (this : Nat) (attrs : Array Attribute := #[]) (ms : Array MethodInfo := #[]) (fl : Nat := 33) (sup : Nat := 0) (ifs : Array Nat := #[]) (fds : Array FieldInfo := #[]) : ClassFile where
  minorVersion := 0
  majorVersion := 65
  constantPool := pool
  accessFlags := fl
  thisClass := this
  superClass := sup
  interfaces := ifs
  fields := fds
  methods := ms
  attributes := attrs
def plain (name : String) (sup : Option ClassId) : Class where
  name := name
  kind := .ordinary
  loader := none
  accessFlags := 33
  super := sup
  interfaces := #[]
  cf := none
  fields := #[]
  methods := #[]
  instanceTypes := #[]
  staticTypes := #[]
  resolved := #[]
  callSites := []
  init := .initialized
  statics := none
  mirror := none

def pool0 : Array CpInfo := pool [(5, u "<init>"), (0, u "()V"), (1, .class_ 10), (1, u "java/lang/Object")] 113

def k0m0 : Method := { name := "<init>", desc := "()V", sig := { parameters := [], returnType := none }, accessFlags := 1, code := none }
/-- java/lang/Object -/
def k0 : Class := { plain "java/lang/Object" none with
  accessFlags := 33
  interfaces := #[]
  cf := some (fileOf pool0 8 #[] #[{ accessFlags := 1, nameIndex := 5, descriptorIndex := 6, attributes := #[] }] 33 0 #[] #[])
  fields := #[]
  methods := #[k0m0]
  instanceTypes := #[]
  staticTypes := #[]
  resolved := Array.replicate 124 none
  statics := none }

def pool1 : Array CpInfo := pool [(2, .class_ 4), (1, u "java/lang/Object"), (0, u "<init>"), (0, u "()V"), (0, .integer 2147483647), (0, .methodref 9 10), (0, .class_ 11), (0, .nameAndType 12 13), (0, u "com/example/tranche/tranche/TextFileTextStartPinLaw"), (0, u "make"), (0, u "(I)[B"), (0, .methodref 15 16), (0, .class_ 17), (0, .nameAndType 18 19), (0, u "com/example/tranche/tranche/TextFile"), (0, u "textStart"), (0, u "([BI)I"), (3, u "law"), (0, u "(IIIIII)Z")] 4

def k1m0 : Method := { name := "<init>", desc := "()V", sig := { parameters := [], returnType := none }, accessFlags := 2, code := none }
def k1c1 : Code := { maxStack := 2, maxLocals := 1, code := method_2_code, exceptionTable := #[], attributes := #[] }
def k1m1 : Method := { name := "make", desc := "(I)[B", sig := { parameters := [.int], returnType := some (.array .byte) }, accessFlags := 10, code := some k1c1 }
def k1c2 : Code := { maxStack := 3, maxLocals := 16, code := code, exceptionTable := #[], attributes := #[] }
def k1m2 : Method := { name := "law", desc := "(IIIIII)Z", sig := { parameters := [.int, .int, .int, .int, .int, .int], returnType := some .boolean }, accessFlags := 9, code := some k1c2 }
/-- com/example/tranche/tranche/TextFileTextStartPinLaw -/
def k1 : Class := { plain "com/example/tranche/tranche/TextFileTextStartPinLaw" (some 0) with
  accessFlags := 49
  interfaces := #[]
  cf := some (fileOf pool1 9 #[] #[{ accessFlags := 2, nameIndex := 5, descriptorIndex := 6, attributes := #[] }, { accessFlags := 10, nameIndex := 12, descriptorIndex := 13, attributes := #[] }, { accessFlags := 9, nameIndex := 23, descriptorIndex := 24, attributes := #[] }] 49 2 #[] #[])
  fields := #[]
  methods := #[k1m0, k1m1, k1m2]
  instanceTypes := #[]
  staticTypes := #[]
  resolved := Array.replicate 29 none
  statics := none }

def pool2 : Array CpInfo := pool [(4, .class_ 6), (1, u "java/lang/Object"), (0, u "<init>"), (0, u "()V"), (1, .class_ 12), (1, u "com/example/tranche/tranche/TextFile"), (103, .class_ 118), (1, u "com/example/tranche/tranche/TextFile$Source"), (2, .class_ 123), (1, u "java/util/Arrays"), (37, u "equals"), (24, .fieldref 10 187), (0, .nameAndType 188 189), (0, u "BYTE_ORDER_MARK"), (0, u "[B"), (0, .methodref 121 191), (0, .nameAndType 161 192), (0, u "([BII[BII)Z"), (2, u "textStart"), (0, u "([BI)I"), (34, u "MAX_BYTES"), (0, u "I")] 57

def k2m0 : Method := { name := "<init>", desc := "()V", sig := { parameters := [], returnType := none }, accessFlags := 2, code := none }
def k2c1 : Code := { maxStack := 6, maxLocals := 3, code := prog_33_method_9_code, exceptionTable := #[], attributes := #[] }
def k2m1 : Method := { name := "textStart", desc := "([BI)I", sig := { parameters := [(.array .byte), .int], returnType := some .int }, accessFlags := 8, code := some k2c1 }
/-- com/example/tranche/tranche/TextFile -/
def k2 : Class := { plain "com/example/tranche/tranche/TextFile" (some 0) with
  accessFlags := 48
  interfaces := #[]
  cf := some (fileOf pool2 10 #[.nestMembers #[116]] #[{ accessFlags := 2, nameIndex := 7, descriptorIndex := 8, attributes := #[] }, { accessFlags := 8, nameIndex := 195, descriptorIndex := 196, attributes := #[] }] 48 4 #[] #[{ accessFlags := 26, nameIndex := 231, descriptorIndex := 232, attributes := #[] }, { accessFlags := 26, nameIndex := 188, descriptorIndex := 189, attributes := #[] }])
  fields := #[{ name := "MAX_BYTES", type := .int, accessFlags := 26, slot := 0, constantValue := 0 }, { name := "BYTE_ORDER_MARK", type := (.array .byte), accessFlags := 26, slot := 1, constantValue := 0 }]
  methods := #[k2m0, k2m1]
  instanceTypes := #[]
  staticTypes := #[.int, (.array .byte)]
  resolved := Array.replicate 290 none
  statics := some 0 }

def pool3 : Array CpInfo := pool [(2, .class_ 4), (1, u "java/lang/Object"), (0, u "<init>"), (0, u "()V"), (6, .methodref 14 15), (0, .class_ 16), (0, .nameAndType 17 18), (0, u "java/util/Arrays"), (0, u "rangeCheck"), (0, u "(III)V"), (55, .class_ 76), (1, u "java/util/Arrays$NaturalOrder"), (36, .class_ 115), (1, u "java/util/Arrays$LegacyMergeSort"), (1, u "Z"), (128, .class_ 248), (1, u "jdk/internal/util/ArraysSupport"), (0, u "mismatch"), (25, .methodref 246 276), (0, .nameAndType 249 277), (0, u "([BI[BII)I"), (20, u "equals"), (76, .class_ 376), (0, u "java/util/Arrays$ArrayList"), (68, u "$assertionsDisabled"), (269, u "MIN_ARRAY_SORT_GRAN"), (0, u "I"), (2, u "INSERTIONSORT_THRESHOLD"), (111, u "([BII[BII)Z"), (143, .class_ 976), (0, u "java/util/Arrays$ArrayItr")] 52

def k3m0 : Method := { name := "<init>", desc := "()V", sig := { parameters := [], returnType := none }, accessFlags := 2, code := none }
def k3c1 : Code := { maxStack := 4, maxLocals := 3, code := jdk_65_method_30_code, exceptionTable := #[], attributes := #[] }
def k3m1 : Method := { name := "rangeCheck", desc := "(III)V", sig := { parameters := [.int, .int, .int], returnType := none }, accessFlags := 8, code := some k3c1 }
def k3c2 : Code := { maxStack := 5, maxLocals := 8, code := jdk_65_method_90_code, exceptionTable := #[], attributes := #[] }
def k3m2 : Method := { name := "equals", desc := "([BII[BII)Z", sig := { parameters := [(.array .byte), .int, .int, (.array .byte), .int, .int], returnType := some .boolean }, accessFlags := 9, code := some k3c2 }
/-- java/util/Arrays -/
def k3 : Class := { plain "java/util/Arrays" (some 0) with
  accessFlags := 49
  interfaces := #[]
  cf := some (fileOf pool3 14 #[.nestMembers #[975, 375, 113, 74]] #[{ accessFlags := 2, nameIndex := 5, descriptorIndex := 6, attributes := #[] }, { accessFlags := 8, nameIndex := 17, descriptorIndex := 18, attributes := #[] }, { accessFlags := 9, nameIndex := 298, descriptorIndex := 831, attributes := #[] }] 49 2 #[] #[{ accessFlags := 26, nameIndex := 715, descriptorIndex := 716, attributes := #[] }, { accessFlags := 26, nameIndex := 719, descriptorIndex := 716, attributes := #[] }, { accessFlags := 4120, nameIndex := 445, descriptorIndex := 117, attributes := #[] }])
  fields := #[{ name := "MIN_ARRAY_SORT_GRAN", type := .int, accessFlags := 26, slot := 0, constantValue := 0 }, { name := "INSERTIONSORT_THRESHOLD", type := .int, accessFlags := 26, slot := 1, constantValue := 0 }, { name := "$assertionsDisabled", type := .boolean, accessFlags := 4120, slot := 2, constantValue := 0 }]
  methods := #[k3m0, k3m1, k3m2]
  instanceTypes := #[]
  staticTypes := #[.int, .int, .boolean]
  resolved := Array.replicate 1029 none
  statics := none }

def pool4 : Array CpInfo := pool [(9, u "<init>"), (6, .class_ 18), (1, u "java/lang/Object"), (0, u "()V"), (1, .class_ 23), (1, u "jdk/internal/util/ArraysSupport"), (0, u "LOG2_ARRAY_LONG_INDEX_SCALE"), (0, u "I"), (2, u "U"), (0, u "Ljdk/internal/misc/Unsafe;"), (8, u "BIG_ENDIAN"), (0, u "Z"), (8, u "LOG2_BYTE_BIT_SIZE"), (4, u "LOG2_ARRAY_INT_INDEX_SCALE"), (54, u "JLA"), (0, u "Ljdk/internal/access/JavaLangAccess;"), (11, u "LOG2_ARRAY_BOOLEAN_INDEX_SCALE"), (9, u "LOG2_ARRAY_BYTE_INDEX_SCALE"), (5, u "LOG2_ARRAY_CHAR_INDEX_SCALE"), (5, u "LOG2_ARRAY_SHORT_INDEX_SCALE"), (5, u "mismatch"), (12, u "LOG2_ARRAY_FLOAT_INDEX_SCALE"), (24, u "LOG2_ARRAY_DOUBLE_INDEX_SCALE"), (89, u "T_BOOLEAN"), (2, u "T_CHAR"), (1, u "T_FLOAT"), (1, u "T_DOUBLE"), (1, u "T_BYTE"), (1, u "T_SHORT"), (1, u "T_INT"), (1, u "T_LONG"), (1, u "SOFT_MAX_ARRAY_LENGTH"), (42, u "([BI[BII)I")] 40

def k4m0 : Method := { name := "<init>", desc := "()V", sig := { parameters := [], returnType := none }, accessFlags := 2, code := none }
def k4c1 : Code := { maxStack := 8, maxLocals := 8, code := jdk_48_method_14_code, exceptionTable := #[], attributes := #[] }
def k4m1 : Method := { name := "mismatch", desc := "([BI[BII)I", sig := { parameters := [(.array .byte), .int, (.array .byte), .int, .int], returnType := some .int }, accessFlags := 9, code := some k4c1 }
/-- jdk/internal/util/ArraysSupport -/
def k4 : Class := { plain "jdk/internal/util/ArraysSupport" (some 0) with
  accessFlags := 33
  interfaces := #[]
  cf := some (fileOf pool4 21 #[] #[{ accessFlags := 2, nameIndex := 9, descriptorIndex := 19, attributes := #[] }, { accessFlags := 9, nameIndex := 149, descriptorIndex := 337, attributes := #[] }] 33 16 #[] #[{ accessFlags := 24, nameIndex := 28, descriptorIndex := 29, attributes := #[] }, { accessFlags := 26, nameIndex := 38, descriptorIndex := 39, attributes := #[] }, { accessFlags := 25, nameIndex := 121, descriptorIndex := 25, attributes := #[] }, { accessFlags := 25, nameIndex := 131, descriptorIndex := 25, attributes := #[] }, { accessFlags := 25, nameIndex := 137, descriptorIndex := 25, attributes := #[] }, { accessFlags := 25, nameIndex := 143, descriptorIndex := 25, attributes := #[] }, { accessFlags := 25, nameIndex := 53, descriptorIndex := 25, attributes := #[] }, { accessFlags := 25, nameIndex := 24, descriptorIndex := 25, attributes := #[] }, { accessFlags := 25, nameIndex := 162, descriptorIndex := 25, attributes := #[] }, { accessFlags := 25, nameIndex := 187, descriptorIndex := 25, attributes := #[] }, { accessFlags := 26, nameIndex := 48, descriptorIndex := 25, attributes := #[] }, { accessFlags := 25, nameIndex := 277, descriptorIndex := 25, attributes := #[] }, { accessFlags := 25, nameIndex := 280, descriptorIndex := 25, attributes := #[] }, { accessFlags := 25, nameIndex := 282, descriptorIndex := 25, attributes := #[] }, { accessFlags := 25, nameIndex := 284, descriptorIndex := 25, attributes := #[] }, { accessFlags := 25, nameIndex := 286, descriptorIndex := 25, attributes := #[] }, { accessFlags := 25, nameIndex := 288, descriptorIndex := 25, attributes := #[] }, { accessFlags := 25, nameIndex := 290, descriptorIndex := 25, attributes := #[] }, { accessFlags := 25, nameIndex := 292, descriptorIndex := 25, attributes := #[] }, { accessFlags := 26, nameIndex := 108, descriptorIndex := 109, attributes := #[] }, { accessFlags := 25, nameIndex := 294, descriptorIndex := 25, attributes := #[] }])
  fields := #[{ name := "U", type := (.object "jdk/internal/misc/Unsafe"), accessFlags := 24, slot := 0, constantValue := 0 }, { name := "BIG_ENDIAN", type := .boolean, accessFlags := 26, slot := 1, constantValue := 0 }, { name := "LOG2_ARRAY_BOOLEAN_INDEX_SCALE", type := .int, accessFlags := 25, slot := 2, constantValue := 0 }, { name := "LOG2_ARRAY_BYTE_INDEX_SCALE", type := .int, accessFlags := 25, slot := 3, constantValue := 0 }, { name := "LOG2_ARRAY_CHAR_INDEX_SCALE", type := .int, accessFlags := 25, slot := 4, constantValue := 0 }, { name := "LOG2_ARRAY_SHORT_INDEX_SCALE", type := .int, accessFlags := 25, slot := 5, constantValue := 0 }, { name := "LOG2_ARRAY_INT_INDEX_SCALE", type := .int, accessFlags := 25, slot := 6, constantValue := 0 }, { name := "LOG2_ARRAY_LONG_INDEX_SCALE", type := .int, accessFlags := 25, slot := 7, constantValue := 0 }, { name := "LOG2_ARRAY_FLOAT_INDEX_SCALE", type := .int, accessFlags := 25, slot := 8, constantValue := 0 }, { name := "LOG2_ARRAY_DOUBLE_INDEX_SCALE", type := .int, accessFlags := 25, slot := 9, constantValue := 0 }, { name := "LOG2_BYTE_BIT_SIZE", type := .int, accessFlags := 26, slot := 10, constantValue := 0 }, { name := "T_BOOLEAN", type := .int, accessFlags := 25, slot := 11, constantValue := 0 }, { name := "T_CHAR", type := .int, accessFlags := 25, slot := 12, constantValue := 0 }, { name := "T_FLOAT", type := .int, accessFlags := 25, slot := 13, constantValue := 0 }, { name := "T_DOUBLE", type := .int, accessFlags := 25, slot := 14, constantValue := 0 }, { name := "T_BYTE", type := .int, accessFlags := 25, slot := 15, constantValue := 0 }, { name := "T_SHORT", type := .int, accessFlags := 25, slot := 16, constantValue := 0 }, { name := "T_INT", type := .int, accessFlags := 25, slot := 17, constantValue := 0 }, { name := "T_LONG", type := .int, accessFlags := 25, slot := 18, constantValue := 0 }, { name := "JLA", type := (.object "jdk/internal/access/JavaLangAccess"), accessFlags := 26, slot := 19, constantValue := 0 }, { name := "SOFT_MAX_ARRAY_LENGTH", type := .int, accessFlags := 25, slot := 20, constantValue := 0 }]
  methods := #[k4m0, k4m1]
  instanceTypes := #[]
  staticTypes := #[(.object "jdk/internal/misc/Unsafe"), .boolean, .int, .int, .int, .int, .int, .int, .int, .int, .int, .int, .int, .int, .int, .int, .int, .int, .int, (.object "jdk/internal/access/JavaLangAccess"), .int]
  resolved := Array.replicate 378 none
  statics := none }

def pool5 : Array CpInfo := pool [(1, u "java/lang/Cloneable"), (0, .class_ 1), (0, u "java/lang/Object"), (0, .class_ 3)] 3

/-- java/lang/Cloneable -/
def k5 : Class := { plain "java/lang/Cloneable" (some 0) with
  accessFlags := 1537
  interfaces := #[]
  cf := some (fileOf pool5 2 #[] #[] 1537 4 #[] #[])
  fields := #[]
  methods := #[]
  instanceTypes := #[]
  staticTypes := #[]
  resolved := Array.replicate 8 none
  statics := none }

def pool6 : Array CpInfo := pool [(1, u "java/io/Serializable"), (0, .class_ 1), (0, u "java/lang/Object"), (0, .class_ 3)] 3

/-- java/io/Serializable -/
def k6 : Class := { plain "java/io/Serializable" (some 0) with
  accessFlags := 1537
  interfaces := #[]
  cf := some (fileOf pool6 2 #[] #[] 1537 4 #[] #[])
  fields := #[]
  methods := #[]
  instanceTypes := #[]
  staticTypes := #[]
  resolved := Array.replicate 8 none
  statics := none }

/-- the primitive byte -/
def k7 : Class := { plain "byte" none with kind := .primitive 'B', accessFlags := 0x411 }
/-- [B -/
def k8 : Class := { plain "[B" (some 0) with kind := .array 7 .byte, interfaces := #[5, 6], accessFlags := 1041 }

/-- the primitive int -/
def k9 : Class := { plain "int" none with kind := .primitive 'I', accessFlags := 0x411 }
/-- [I -/
def k10 : Class := { plain "[I" (some 0) with kind := .array 9 .int, interfaces := #[5, 6], accessFlags := 1041 }

def heap : Heap := #[{ cls := 2, slots := #[.int 0, .ref 1], vm := .statics 2 },
  { cls := 8, slots := #[.int (-17), .int (-69), .int (-65)], vm := .none }]
def classes : Array Class := #[k0, k1, k2, k3, k4, k5, k6, k7, k8, k9, k10]
def interned : List (Array UInt16 × Addr) := []
def slotsUsed : Nat := 5
def theMethod : MethodId := ⟨1, 2⟩
def args0 : Array Value := #[.int 5, .int 6, .int 2, .int 1, .int 7, .int 9]
def aboutOver (below : List Frame) : State where
  vm := { classes := classes, interned := interned.toArray }
  heap := heap
  slotsUsed := slotsUsed
  threads := #[{ frames := .invoking theMethod args0 :: below }]
def below0 : List Frame := [.native { method := ⟨0, 0⟩, args := #[] }]
def about1 : State := aboutOver below0
def p0 : Program := .bare "" "" ""
def e0 : Env := launch0.env 0 0 0
theorem w_frames : about1.frames = Frame.invoking theMethod args0 :: below0 := rfl
set_option maxRecDepth 65536 in
theorem w_args : argsFit about1.vm theMethod args0 = true := by decide +kernel
set_option maxRecDepth 65536 in
theorem w_heap : heapFits about1 = true := by decide +kernel
set_option maxRecDepth 65536 in
theorem w_runnable : about1.curStatus? = some .runnable := by decide +kernel
set_option maxRecDepth 65536 in
theorem w_alone : about1.alone = true := by decide +kernel
set_option maxRecDepth 65536 in
theorem w_named : about1.methodNamed? x = some theMethod := by decide +kernel
set_option maxRecDepth 65536 in
theorem w_hears : about1.hears theMethod below0 = true := by decide +kernel
set_option maxRecDepth 65536 in
theorem w_ripe : about1.ripe theMethod args0 below0 = true := by decide +kernel
theorem w_running : about1.status = .running := rfl
set_option maxRecDepth 65536 in
theorem w_room : about1.hasRoom e0.platform room_1 = true :=
  launch0.hasRoom_least _ room_1 (by decide +kernel) (by decide +kernel) (by decide +kernel) (by decide +kernel) (by decide +kernel) (by decide +kernel)
theorem allAtoms_all (ts : List Jvm.Cond) (a : Array Jvm.Value) (st : Jvm.State) : (allAtoms ts).before a st = ts.all (fun c => c.before a st) := by
  induction ts with
  | nil => rfl
  | cons c t ih =>
    show (Jvm.Cond.and c (allAtoms t)).before a st = _
    rw [Jvm.Cond.before_and, ih, List.all_cons]
def words1 : List Jvm.Cond := Jvm.Cond.code x code maxLocals ret :: tables_1
/-- a 'code' word, met by the world's own term for the bytes: nothing is compared byte by byte -/
theorem code_word {y : MethodName} {bytes : ByteArray} {mx : Nat} {rt : Option FieldType} {a : Array Value} {s : State} {m : MethodId} {meth : Method} {c : Code} (h1 : s.methodNamed? y = some m) (h2 : s.vm.method? m = some meth) (h3 : meth.code = some c) (h4 : c.code = bytes)
    (h5 : (c.maxLocals == mx && c.exceptionTable.isEmpty && decide (c.maxStack ≤ mostOperands) && decide (meth.sig.returnType = rt) && !meth.locks && decide (parseMethodDescriptor y.desc = some meth.sig)) = true) : (Jvm.Cond.code y bytes mx rt).before a s = true := by
  simp only [Bool.and_eq_true, beq_iff_eq, Bool.not_eq_true', decide_eq_true_eq] at h5
  obtain ⟨⟨⟨⟨⟨g1, g2⟩, g3⟩, g4⟩, g5⟩, g6⟩ := h5
  simp [Cond.before, Cond.holds, Cond.value, h1, h2, h3, h4, g1, g2, g3, g4, g5, g6]
def isCode : Jvm.Cond → Bool
  | .code _ _ _ _ => true
  | _ => false
theorem all_split {L : List Jvm.Cond} {P : Jvm.Cond → Bool} (h1 : L.all (fun c => isCode c || P c) = true) (h2 : ∀ c ∈ L.filter isCode, P c = true) : L.all P = true := by
  refine List.all_eq_true.mpr fun c hc => ?_
  have h := List.all_eq_true.mp h1 c hc
  rcases Bool.eq_false_or_eq_true (isCode c) with hi | hi
  · exact h2 c (List.mem_filter.mpr ⟨hc, hi⟩)
  · simpa [hi] using h
set_option maxRecDepth 65536 in
theorem w_c0 : (Jvm.Cond.code x code maxLocals ret).before args0 about1 = true := code_word (m := ⟨1, 2⟩) (meth := k1m2) (c := k1c2) (by decide +kernel) rfl rfl rfl (by decide +kernel)
set_option maxRecDepth 65536 in
theorem w_c1 : (Jvm.Cond.code ({ cls := "com/example/tranche/tranche/TextFileTextStartPinLaw", name := "make", desc := "(I)[B" } : Jvm.MethodName) method_2_code (1 : Nat) (Option.some (Jvm.ClassFile.FieldType.array Jvm.ClassFile.FieldType.byte))).before args0 about1 = true := code_word (m := ⟨1, 1⟩) (meth := k1m1) (c := k1c1) (by decide +kernel) rfl rfl rfl (by decide +kernel)
set_option maxRecDepth 65536 in
theorem w_c2 : (Jvm.Cond.code ({ cls := "com/example/tranche/tranche/TextFile", name := "textStart", desc := "([BI)I" } : Jvm.MethodName) prog_33_method_9_code (3 : Nat) (Option.some Jvm.ClassFile.FieldType.int)).before args0 about1 = true := code_word (m := ⟨2, 1⟩) (meth := k2m1) (c := k2c1) (by decide +kernel) rfl rfl rfl (by decide +kernel)
set_option maxRecDepth 65536 in
theorem w_c3 : (Jvm.Cond.code ({ cls := "java/util/Arrays", name := "equals", desc := "([BII[BII)Z" } : Jvm.MethodName) jdk_65_method_90_code (8 : Nat) (Option.some Jvm.ClassFile.FieldType.boolean)).before args0 about1 = true := code_word (m := ⟨3, 2⟩) (meth := k3m2) (c := k3c2) (by decide +kernel) rfl rfl rfl (by decide +kernel)
set_option maxRecDepth 65536 in
theorem w_c4 : (Jvm.Cond.code ({ cls := "java/util/Arrays", name := "rangeCheck", desc := "(III)V" } : Jvm.MethodName) jdk_65_method_30_code (3 : Nat) (Option.none : Option Jvm.ClassFile.FieldType)).before args0 about1 = true := code_word (m := ⟨3, 1⟩) (meth := k3m1) (c := k3c1) (by decide +kernel) rfl rfl rfl (by decide +kernel)
set_option maxRecDepth 65536 in
theorem w_c5 : (Jvm.Cond.code ({ cls := "jdk/internal/util/ArraysSupport", name := "mismatch", desc := "([BI[BII)I" } : Jvm.MethodName) jdk_48_method_14_code (8 : Nat) (Option.some Jvm.ClassFile.FieldType.int)).before args0 about1 = true := code_word (m := ⟨4, 1⟩) (meth := k4m1) (c := k4c1) (by decide +kernel) rfl rfl rfl (by decide +kernel)
def codes1 : List Jvm.Cond := [Jvm.Cond.code x code maxLocals ret, Jvm.Cond.code ({ cls := "com/example/tranche/tranche/TextFileTextStartPinLaw", name := "make", desc := "(I)[B" } : Jvm.MethodName) method_2_code (1 : Nat) (Option.some (Jvm.ClassFile.FieldType.array Jvm.ClassFile.FieldType.byte)), Jvm.Cond.code ({ cls := "com/example/tranche/tranche/TextFile", name := "textStart", desc := "([BI)I" } : Jvm.MethodName) prog_33_method_9_code (3 : Nat) (Option.some Jvm.ClassFile.FieldType.int), Jvm.Cond.code ({ cls := "java/util/Arrays", name := "equals", desc := "([BII[BII)Z" } : Jvm.MethodName) jdk_65_method_90_code (8 : Nat) (Option.some Jvm.ClassFile.FieldType.boolean), Jvm.Cond.code ({ cls := "java/util/Arrays", name := "rangeCheck", desc := "(III)V" } : Jvm.MethodName) jdk_65_method_30_code (3 : Nat) (Option.none : Option Jvm.ClassFile.FieldType), Jvm.Cond.code ({ cls := "jdk/internal/util/ArraysSupport", name := "mismatch", desc := "([BI[BII)I" } : Jvm.MethodName) jdk_48_method_14_code (8 : Nat) (Option.some Jvm.ClassFile.FieldType.int)]
set_option maxRecDepth 65536 in
theorem codes_eq : words1.filter isCode = codes1 := rfl
theorem w_codes : ∀ c ∈ words1.filter isCode, c.before args0 about1 = true := by
  rw [codes_eq]
  intro c hc
  simp only [codes1, List.mem_cons, List.not_mem_nil, or_false] at hc
  rcases hc with rfl | rfl | rfl | rfl | rfl | rfl
  · exact w_c0
  · exact w_c1
  · exact w_c2
  · exact w_c3
  · exact w_c4
  · exact w_c5
set_option maxRecDepth 65536 in
theorem w_t1 : words1.all (fun c => isCode c || c.before args0 about1) = true := by decide +kernel
theorem w_tables : (allAtoms (Jvm.Cond.code x code maxLocals ret :: tables_1)).before args0 about1 = true := by
  rw [allAtoms_all]
  show words1.all (fun c => c.before args0 about1) = true
  refine all_split ?_ w_codes
  rw [w_t1]
set_option maxRecDepth 65536 in
theorem w_case : (Jvm.Cond.and given_1 narrow_1).before args0 about1 = true := by decide +kernel
theorem w_applies : (headSpec (Jvm.Cond.code x code maxLocals ret :: tables_1) room_1).applies x e0.platform about1 = true :=
  (Spec.applies_iff w_frames).mpr ⟨w_running, w_runnable, w_alone, w_named, w_hears, w_ripe, w_room, w_tables⟩
theorem atStart : AtStart classFile x code maxLocals ret World_1 tables_1 room_1 Calls_1 rest_1 Pre_1 launch0 p0 e0 about1 theMethod args0 below0 :=
  ⟨lists_1, trivial, launch0.admits_env _ _ _, launch0.least_env, fairChoices_fair.cas, fairChoices_fair.clock, w_frames, w_args, w_heap, w_applies, trivial, trivial, w_case⟩
end start1
theorem witness_1 : WitnessClaimed_1 := ⟨start1.p0, start1.e0, start1.about1, start1.theMethod, start1.args0, start1.below0, start1.atStart⟩
end Jvm.Pilot.@@N@@
