import JvmDerived
import JvmDerived.Pilot.@@N@@Statement
import JvmDerived.Pilot.@@N@@Code
set_option linter.unusedVariables false
set_option linter.unusedSimpArgs false
namespace Jvm.RoadKit
open Sem ClassFile Op Lib Jvm.Stand Jvm.Free Jvm.LawKit
section New
variable {p : Program} {l : Launch} {e : Env} {R : Room} {s : State} {m : MethodId} {args : Array Value} {below : List Frame} {meth : Method} {c : Code} {T : State} {locs : List Loc} {cells slots : Nat}
theorem retI (X : Stand p l e R s m args below meth c T locs cells slots) (hx : p.tables.exec = Jvm.exec) {pc : Nat} {Ls : Array Slot} {z : Int32} {rest : List Value} (hret : meth.sig.returnType = some .int) (hd : decode c.code pc = .ok (.ireturn, 1)) {fs : List Frame}
    (hl : ∀ (f : JFrame) (acts : List Action), f.method = m → f.locked = none → f.entered = [] → (doReturn e (T.setTop f) acts (some (.int z))).1 = T.setFrames fs) : Steps p.tables e below (T.setTop (mkF m pc Ls (.int z :: rest))) (T.setFrames fs) := by
  have hm' : T.vm.method? m = some meth := X.method'
  have hn : narrow .int (.int z) = .int z := rfl
  show Steps p.tables e below (T.setTop { method := m, pc := pc, locals := Ls, stack := _ :: rest, locked := none }) _
  jvm_step X.here [X.here.top, hx, hd, hm', hret, hn]
  first | (intro acts; rw [hl _ acts rfl rfl rfl]) | rw [hl _ _ rfl rfl rfl]
  exact Steps.refl _
end New
end Jvm.RoadKit

namespace Jvm.Pilot.@@N@@
open Jvm Jvm.ClassFile Sem Op Lib Jvm.Free Jvm.Stand Jvm.LawKit Jvm.RoadKit Bundle Jvm.Pilot.@@N@@.Jvm.D
theorem own_w {a0 : Array Value} {Z : State} (hw : ∀ d ∈ tables_1, d.before a0 Z = true) {d : Jvm.Cond} (i : Nat) (h : tables_1[i]? = some d) : d.before a0 Z = true := hw d (List.mem_of_getElem? h)
abbrev Sp (p : Program) (e : Env) (b : List Frame) (T : State) (g : JFrame) (t : State) : Prop := Steps p.tables e b (T.setTop g) t
theorem own_le {Z : State} {n0 : Nat} {h : Heap} (O : Old Z n0 h) : n0 ≤ h.size := O.1 ▸ O.2.1
theorem own_narb {c : Prop} [Decidable c] : nar .boolean (if c then (1 : Int32) else 0) = if c then (1 : Int32) else 0 := by split <;> rfl
theorem own_narb' {c : Prop} [Decidable c] : nar .boolean (if c then (0 : Int32) else 1) = if c then (0 : Int32) else 1 := by split <;> rfl
theorem own_eqc {t : Term} {k : Int32} {a0 : Array Value} {Z : State} (h : (Jvm.Cond.eq t (.int k)).value a0 Z none Z [] = some true) : t.eval a0 Z none [] Z = some (.int k) := by
  obtain ⟨x, y, e1, e2, k1, -⟩ := cmp_v (Or.inl h)
  obtain rfl : Value.int k = y := Option.some.inj ((Term.int_eval k).symm.trans e2)
  cases x <;> simp [Kin, Value.isRef] at k1
  simp [Jvm.Cond.value, e1, Term.int_eval] at h
  rw [e1, h]

theorem own_IBw {Z s : State} {vm0 vm : Vm} {Ts : List String} (I : IB Z vm0 Ts) (h : (s.setVm vm0).WarmedH vm) : IB Z vm Ts := by
  obtain ⟨more, h1, h2⟩ := I
  exact ⟨more, h.interned_eq.trans h1, h2⟩
theorem own_sa {a0 : Array Value} {Z : State} (hw : ∀ d ∈ tables_1, d.before a0 Z = true) : ∀ d ∈ Bundle.stringAtoms, d.before a0 Z = true := fun d hd => hw d ((by decide +kernel : ∀ d ∈ Bundle.stringAtoms, d ∈ tables_1) d hd)
theorem own_backS {p : Program} {l : Launch} {e : Env} {R : Room} {s : State} {args : Array Value} {below : List Frame} {Z : State} {a0 : Array Value} {h : Heap} {y : MethodName} {bytes : ByteArray} {maxL : Nat} {ret : Option FieldType} {rm : Room} {len W : Nat} {as' : Array Value} {PV : Vm → Prop} {Q : Option Value → Vm → Heap → List Loc → Prop}
    (hM : MetFree l y (head1 [Jvm.Cond.code y bytes maxL ret] rm) (fun a U => a = as' ∧ Z.Warmed39 U.vm ∧ U.heap = h ∧ PV U.vm) (fun _ _ _ _ _ => True) (fun _ U o U' => ∃ v L, o = .returned v ∧ Q v U'.vm U'.heap L ∧ ReturnedEndW U o U' L rm.cells rm.slots))
    (hZ : Z.Warmed39 s.vm) (wc : (Jvm.Cond.code y bytes maxL ret).before a0 Z = true) (wz : (Jvm.Cond.initialized y.cls).before a0 Z = true) (hf : rm.frames + 1 ≤ R.frames) (hl : W + (maxL + 11) + rm.locals ≤ R.locals) (hPV : ∀ vm, s.WarmedH vm → PV vm) :
    BackS l R p e below s args y len W (fun A a => a = as' ∧ A.U.heap = h ∧ A.cells + rm.cells ≤ R.cells ∧ A.slots + rm.slots ≤ R.slots)
      (fun A _ v B => ∃ L, Q v B.U.vm B.U.heap L ∧ B.locs = A.locs ++ L ∧ B.cells = A.cells + rm.cells ∧ B.slots = A.slots + rm.slots) :=
  BackS.of_freeW (bytes := bytes) (maxL := maxL) (ret := ret) (E := fun _ _ o t L k n => k = rm.cells ∧ n = rm.slots ∧ ∃ v, o = .returned v ∧ Q v t.vm t.heap L) hM hf hl
    (fun m meth c A a Y hp => have hU : Z.Warmed39 A.U.vm := wtrans hZ Y.warmed
      ⟨by show (Cond.and _ .tt).before a A.U = true; rw [Cond.before_and, mv hU wc]; rfl, mv hU wc, mv hU wz, hp.2.2.1, hp.2.2.2⟩)
    (fun m meth c A a g mk Y hp => ⟨hp.1, wtrans hZ Y.warmed, hp.2.1, hPV _ Y.warmed⟩) (fun _ _ _ _ _ _ _ _ _ => trivial)
    (fun _ _ _ _ ⟨v, L, h1, h2, h3⟩ => ⟨L, _, _, h3, rfl, rfl, v, h1, h2⟩)
    (fun m meth c A a g mk v t L k n Y hp _ _ ⟨e1, e2, v', e3, e4⟩ => by cases e3; subst e1 e2; exact ⟨L, e4, rfl, rfl, rfl⟩)

theorem own_nb (x : Int32) : nar .byte (x.toInt8.toInt32) = x.toInt8.toInt32 := by simp [nar]

theorem own_i2c_id (z : Int32) (h0 : 0 ≤ z.toInt) (h1 : z.toInt < 65536) : z.toUInt32.toUInt16.toUInt32.toInt32 = z := by
  apply Int32.toInt_inj.mp
  have := c_i2c z
  omega
theorem own_and255 (x : Int32) : 0 ≤ (x &&& (255 : Int32)).toInt ∧ (x &&& (255 : Int32)).toInt ≤ 255 := by
  have := c_and x (255 : Int32) (by decide)
  have e : (255 : Int32).toInt = 255 := rfl
  omega
theorem own_c255 (x : Int32) : nar .char ((x &&& (255 : Int32)).toUInt32.toUInt16.toUInt32.toInt32) = (x &&& (255 : Int32)).toUInt32.toUInt16.toUInt32.toInt32 ∧ ¬ (255 : Int32) < (x &&& (255 : Int32)).toUInt32.toUInt16.toUInt32.toInt32 := by
  have h := own_and255 x
  have e : (255 : Int32).toInt = 255 := rfl
  rw [own_i2c_id _ h.1 (by omega)]
  refine ⟨own_i2c_id _ h.1 (by omega), ?_⟩
  rw [Int32.lt_iff_toInt_lt]
  omega

theorem d_jdk_52_21_0 : decode jdk_52_method_21_code 0 = .ok (.iconst 0, 1) := by decide +kernel
theorem d_jdk_52_21_1 : decode jdk_52_method_21_code 1 = .ok (.istore 5, 2) := by decide +kernel
theorem d_jdk_52_21_3 : decode jdk_52_method_21_code 3 = .ok (.iload 5, 2) := by decide +kernel
theorem d_jdk_52_21_5 : decode jdk_52_method_21_code 5 = .ok (.iload 4, 2) := by decide +kernel
theorem d_jdk_52_21_7 : decode jdk_52_method_21_code 7 = .ok (.if_icmp .ge 37, 3) := by decide +kernel
theorem d_jdk_52_21_10 : decode jdk_52_method_21_code 10 = .ok (.aload_n 0, 1) := by decide +kernel
theorem d_jdk_52_21_11 : decode jdk_52_method_21_code 11 = .ok (.iload_n 1, 1) := by decide +kernel
theorem d_jdk_52_21_12 : decode jdk_52_method_21_code 12 = .ok (.caload, 1) := by decide +kernel
theorem d_jdk_52_21_13 : decode jdk_52_method_21_code 13 = .ok (.istore 6, 2) := by decide +kernel
theorem d_jdk_52_21_15 : decode jdk_52_method_21_code 15 = .ok (.iload 6, 2) := by decide +kernel
theorem d_jdk_52_21_17 : decode jdk_52_method_21_code 17 = .ok (.sipush 255, 3) := by decide +kernel
theorem d_jdk_52_21_20 : decode jdk_52_method_21_code 20 = .ok (.if_icmp .le 6, 3) := by decide +kernel
theorem d_jdk_52_21_26 : decode jdk_52_method_21_code 26 = .ok (.aload_n 2, 1) := by decide +kernel
theorem d_jdk_52_21_27 : decode jdk_52_method_21_code 27 = .ok (.iload_n 3, 1) := by decide +kernel
theorem d_jdk_52_21_28 : decode jdk_52_method_21_code 28 = .ok (.iload 6, 2) := by decide +kernel
theorem d_jdk_52_21_30 : decode jdk_52_method_21_code 30 = .ok (.i2b, 1) := by decide +kernel
theorem d_jdk_52_21_31 : decode jdk_52_method_21_code 31 = .ok (.bastore, 1) := by decide +kernel
theorem d_jdk_52_21_32 : decode jdk_52_method_21_code 32 = .ok (.iinc 1 1, 3) := by decide +kernel
theorem d_jdk_52_21_35 : decode jdk_52_method_21_code 35 = .ok (.iinc 3 1, 3) := by decide +kernel
theorem d_jdk_52_21_38 : decode jdk_52_method_21_code 38 = .ok (.iinc 5 1, 3) := by decide +kernel
theorem d_jdk_52_21_41 : decode jdk_52_method_21_code 41 = .ok (.goto (-38), 3) := by decide +kernel
theorem d_jdk_52_21_44 : decode jdk_52_method_21_code 44 = .ok (.iload 4, 2) := by decide +kernel
theorem d_jdk_52_21_46 : decode jdk_52_method_21_code 46 = .ok (.ireturn, 1) := by decide +kernel
theorem pn_cmpa1 : plainName "java/lang/StringUTF16" = true := by first | (simp [plainName, overriddenIn]; done) | decide +kernel
theorem ef_cmpa1 (m : MethodId) (a1 : Addr) (a3 : Addr) : entryFrame m #[(.ref a1), (.int (0 : Int32)), (.ref a3), (.int (0 : Int32)), (.int (1 : Int32))] 7 = (mkF m 0 #[.val (.ref a1), .val (.int (0 : Int32)), .val (.ref a3), .val (.int (0 : Int32)), .val (.int (1 : Int32)), .unset, .unset] []) := by first | (simp [entryFrame, mkF, argsToLocals, Value.category]; done) | rfl
def Q_cmpa1 (Z : State) (a1 : Addr) (a3 : Addr) (kC kB : ClassId) (c0 : Int32) (h0 : Heap) (n0 : Nat) (v : Option Value) (h : Heap) (L : List Loc) : Prop := v = some (.int (1 : Int32)) ∧ Fr n0 L ∧ Keep h0 h [a3] ∧ Arv Z h a3 kB .byte (1 : Int32) [(.int (c0).toInt8.toInt32)] (.int (0 : Int32))
set_option maxRecDepth 65536 in
set_option maxHeartbeats 40000000 in
theorem rm_cmpa1 (l : Launch) (Z : State) (a0 : Array Value) (hw : ∀ d ∈ tables_1, d.before a0 Z = true) (ws : List Jvm.Cond) (a1 : Addr) (a3 : Addr) (kC kB : ClassId) (c0 : Int32) (h0 : Heap) (n0 : Nat) (O0 : Old Z n0 h0) (VC : Arv Z h0 a1 kC .char (1 : Int32) [(.int c0)] (.int (0 : Int32))) (VB : Arv Z h0 a3 kB .byte (1 : Int32) [(.int (0 : Int32))] (.int (0 : Int32))) (g3 : n0 ≤ a3) (ne13 : a1 ≠ a3) (hc0 : ¬ (255 : Int32) < c0) :
    MetFree l (⟨"java/lang/StringUTF16", "compress", "([CI[BII)I"⟩ : MethodName) (head1 (Jvm.Cond.code (⟨"java/lang/StringUTF16", "compress", "([CI[BII)I"⟩ : MethodName) jdk_52_method_21_code 7 (some .int) :: ws) ({ frames := 0, cells := 0, slots := 0, locals := 0 } : Room)) (fun a U => a = #[(.ref a1), (.int (0 : Int32)), (.ref a3), (.int (0 : Int32)), (.int (1 : Int32))] ∧ Z.Warmed39 U.vm ∧ U.heap = h0) (fun _ _ _ _ _ => True) (fun _ U o U' => ∃ v L, o = .returned v ∧ Q_cmpa1 Z a1 a3 kC kB c0 h0 n0 v U'.heap L ∧ FrameEnd U o U' L ({ frames := 0, cells := 0, slots := 0, locals := 0 } : Room).cells ({ frames := 0, cells := 0, slots := 0, locals := 0 } : Room).slots) := by
  refine MetFree.of_bodySF (plainFor_of_name pn_cmpa1) hisR ?_
  intro p e s m args below meth c s₁ Bd hml0 hP hK
  obtain ⟨rfl, hZ, hh⟩ := hP
  have hx := Bd.exec
  have hby := Bd.bytes
  have hml : c.maxLocals = 7 := hml0
  have hown : s.vm.findClass "java/lang/StringUTF16" = some m.cls := findClass_of_methodNamed Bd.named
  have hnm := (name_of_methodNamed Bd.named Bd.method).1
  have X0 : Stand p l e ({ frames := 0, cells := 0, slots := 0, locals := 0 } : Room) s m #[(.ref a1), (.int (0 : Int32)), (.ref a3), (.int (0 : Int32)), (.int (1 : Int32))] below meth c s₁ [] 0 0 := Stand.of_body Bd
  have e0 : s₁.heap = h0 := by rw [← hh, Bd.state]; rfl
  have N0 := Fr.nil n0
  have pre0 : ∀ t, Steps p.tables e below (s₁.setTop (mkF m 0 #[.val (.ref a1), .val (.int (0 : Int32)), .val (.ref a3), .val (.int (0 : Int32)), .val (.int (1 : Int32)), .unset, .unset] [])) t → Steps p.tables e below (s₁.setTop (entryFrame m #[(.ref a1), (.int (0 : Int32)), (.ref a3), (.int (0 : Int32)), (.int (1 : Int32))] 7)) t := fun t k => castTop (ef_cmpa1 m a1 a3) k
  generalize s₁.setTop (entryFrame m #[(.ref a1), (.int (0 : Int32)), (.ref a3), (.int (0 : Int32)), (.int (1 : Int32))] 7) = E0 at pre0 ⊢
  have pre_2 : ∀ t, Sp p e below s₁ (mkF m 31 #[.val (.ref a1), .val (.int (0 : Int32)), .val (.ref a3), .val (.int (0 : Int32)), .val (.int (1 : Int32)), .val (.int (0 : Int32)), .val (.int c0)] [(.int ((c0).toInt8.toInt32)), (.int (0 : Int32)), (.ref a3)]) t → Steps p.tables e below E0 t := by
    intro t k
    refine pre0 t ?_
    show Sp p e below s₁ (mkF m 0 #[.val (.ref a1), .val (.int (0 : Int32)), .val (.ref a3), .val (.int (0 : Int32)), .val (.int (1 : Int32)), .unset, .unset] []) _
    refine XS.iconst X0.here hx rfl (hb hby d_jdk_52_21_0) ?_
    refine XS.istore X0.here hx rfl (hb hby d_jdk_52_21_1) rfl (l' := #[.val (.ref a1), .val (.int (0 : Int32)), .val (.ref a3), .val (.int (0 : Int32)), .val (.int (1 : Int32)), .val (.int (0 : Int32)), .unset]) rfl ?_
    refine XS.iload X0.here hx rfl (hb hby d_jdk_52_21_3) rfl ?_
    refine XS.iload X0.here hx rfl (hb hby d_jdk_52_21_5) rfl ?_
    show Sp p e below s₁ (mkF m 7 #[.val (.ref a1), .val (.int (0 : Int32)), .val (.ref a3), .val (.int (0 : Int32)), .val (.int (1 : Int32)), .val (.int (0 : Int32)), .unset] [(.int (1 : Int32)), (.int (0 : Int32))]) _
    refine XS.icmpNo X0.here hx rfl (hb hby d_jdk_52_21_7) rfl (XT.ii_ge_f (by decide)) ?_
    refine XS.aloadN X0.here hx rfl (hb hby d_jdk_52_21_10) rfl rfl ?_
    refine XS.iloadN X0.here hx rfl (hb hby d_jdk_52_21_11) rfl ?_
    obtain ⟨cl1, Ar1, -, S1, -, H1, -⟩ := id VC
    have hin1 : ¬ ((0 : Int32) < 0 ∨ cl1.slots.size ≤ ((0 : Int32)).toNatClampNeg) := inb_of S1 (by decide)
    refine X0.caload hx (j := (0 : Int32)) (v := (.int c0)) (by rw [e0]; exact Ar1.1) (State.isArrayOf_alike hZ.alike Ar1.2.1) Ar1.2.2 hin1 (H1.at hin1 rfl) (g := (mkF m 12 #[.val (.ref a1), .val (.int (0 : Int32)), .val (.ref a3), .val (.int (0 : Int32)), .val (.int (1 : Int32)), .val (.int (0 : Int32)), .unset] [(.int (0 : Int32)), (.ref a1)])) rfl rfl (hb hby d_jdk_52_21_12) _ ?_
    show Sp p e below s₁ (mkF m 13 #[.val (.ref a1), .val (.int (0 : Int32)), .val (.ref a3), .val (.int (0 : Int32)), .val (.int (1 : Int32)), .val (.int (0 : Int32)), .unset] [(.int c0)]) _
    refine XS.istore X0.here hx rfl (hb hby d_jdk_52_21_13) rfl (l' := #[.val (.ref a1), .val (.int (0 : Int32)), .val (.ref a3), .val (.int (0 : Int32)), .val (.int (1 : Int32)), .val (.int (0 : Int32)), .val (.int c0)]) rfl ?_
    refine XS.iload X0.here hx rfl (hb hby d_jdk_52_21_15) rfl ?_
    refine XS.sipush X0.here hx rfl (hb hby d_jdk_52_21_17) ?_
    refine XS.icmpYes X0.here hx rfl (pc0 := 20) (pc' := 26) rfl (hb hby d_jdk_52_21_20) rfl (XT.ii_le_t hc0) (by decide) (by decide) ?_
    show Sp p e below s₁ (mkF m 26 #[.val (.ref a1), .val (.int (0 : Int32)), .val (.ref a3), .val (.int (0 : Int32)), .val (.int (1 : Int32)), .val (.int (0 : Int32)), .val (.int c0)] []) _
    refine XS.aloadN X0.here hx rfl (hb hby d_jdk_52_21_26) rfl rfl ?_
    refine XS.iloadN X0.here hx rfl (hb hby d_jdk_52_21_27) rfl ?_
    refine XS.iload X0.here hx rfl (hb hby d_jdk_52_21_28) rfl ?_
    refine XT.i2b X0.here hx rfl (hb hby d_jdk_52_21_30) rfl ?_
    show Sp p e below s₁ (mkF m 31 #[.val (.ref a1), .val (.int (0 : Int32)), .val (.ref a3), .val (.int (0 : Int32)), .val (.int (1 : Int32)), .val (.int (0 : Int32)), .val (.int c0)] [(.int ((c0).toInt8.toInt32)), (.int (0 : Int32)), (.ref a3)]) _
    exact k
  obtain ⟨cl3, Ar3, q3, S3, M3, H3, G3⟩ := id VB
  obtain ⟨T3, h3, X3, e3, W3, st3⟩ := stB X0 hx hZ e0 Ar3 (j := (0 : Int32)) (inb_of S3 (by decide)) (g := (mkF m 31 #[.val (.ref a1), .val (.int (0 : Int32)), .val (.ref a3), .val (.int (0 : Int32)), .val (.int (1 : Int32)), .val (.int (0 : Int32)), .val (.int c0)] [(.int ((c0).toInt8.toInt32)), (.int (0 : Int32)), (.ref a3)])) rfl rfl (hb hby d_jdk_52_21_31)
  have N3 := Fr.snoc X3 N0 g3
  have O3 : Old Z n0 h3 := O0.wr W3 g3
  rw [(own_nb c0)] at W3
  have V3 : Arv Z h3 a3 kB .byte (1 : Int32) [(.int ((c0).toInt8.toInt32))] (.int (0 : Int32)) := Arv.set Ar3 q3 S3 M3 H3 G3 (by rw [← (own_nb c0)]; exact (fits_nar_byte _)) W3 0 rfl (Nat.le_of_ble_eq_true rfl)
  have pre_4 : ∀ t, Sp p e below T3 (mkF m 32 #[.val (.ref a1), .val (.int (0 : Int32)), .val (.ref a3), .val (.int (0 : Int32)), .val (.int (1 : Int32)), .val (.int (0 : Int32)), .val (.int c0)] []) t → Steps p.tables e below E0 t := fun t k => pre_2 t (st3 t k)
  have pre_5 : ∀ t, Sp p e below T3 (mkF m 46 #[.val (.ref a1), .val (.int (1 : Int32)), .val (.ref a3), .val (.int (1 : Int32)), .val (.int (1 : Int32)), .val (.int (1 : Int32)), .val (.int c0)] [(.int (1 : Int32))]) t → Steps p.tables e below E0 t := by
    intro t k
    refine pre_4 t ?_
    show Sp p e below T3 (mkF m 32 #[.val (.ref a1), .val (.int (0 : Int32)), .val (.ref a3), .val (.int (0 : Int32)), .val (.int (1 : Int32)), .val (.int (0 : Int32)), .val (.int c0)] []) _
    refine XS.iinc X3.here hx rfl (hb hby d_jdk_52_21_32) rfl (l' := #[.val (.ref a1), .val (.int (1 : Int32)), .val (.ref a3), .val (.int (0 : Int32)), .val (.int (1 : Int32)), .val (.int (0 : Int32)), .val (.int c0)]) rfl ?_
    refine XS.iinc X3.here hx rfl (hb hby d_jdk_52_21_35) rfl (l' := #[.val (.ref a1), .val (.int (1 : Int32)), .val (.ref a3), .val (.int (1 : Int32)), .val (.int (1 : Int32)), .val (.int (0 : Int32)), .val (.int c0)]) rfl ?_
    refine XS.iinc X3.here hx rfl (hb hby d_jdk_52_21_38) rfl (l' := #[.val (.ref a1), .val (.int (1 : Int32)), .val (.ref a3), .val (.int (1 : Int32)), .val (.int (1 : Int32)), .val (.int (1 : Int32)), .val (.int c0)]) rfl ?_
    refine XS.goto X3.here hx rfl (pc0 := 41) (pc' := 3) rfl (hb hby d_jdk_52_21_41) (by decide) (by decide) ?_
    show Sp p e below T3 (mkF m 3 #[.val (.ref a1), .val (.int (1 : Int32)), .val (.ref a3), .val (.int (1 : Int32)), .val (.int (1 : Int32)), .val (.int (1 : Int32)), .val (.int c0)] []) _
    refine XS.iload X3.here hx rfl (hb hby d_jdk_52_21_3) rfl ?_
    refine XS.iload X3.here hx rfl (hb hby d_jdk_52_21_5) rfl ?_
    refine XS.icmpYes X3.here hx rfl (pc0 := 7) (pc' := 44) rfl (hb hby d_jdk_52_21_7) rfl (XT.ii_ge_t (by decide)) (by decide) (by decide) ?_
    refine XS.iload X3.here hx rfl (hb hby d_jdk_52_21_44) rfl ?_
    show Sp p e below T3 (mkF m 46 #[.val (.ref a1), .val (.int (1 : Int32)), .val (.ref a3), .val (.int (1 : Int32)), .val (.int (1 : Int32)), .val (.int (1 : Int32)), .val (.int c0)] [(.int (1 : Int32))]) _
    exact k
  obtain ⟨fs, hr, hrun, hended, hW, hsame⟩ := X3.leave (v := some (.int (1 : Int32))) (fun h => by rw [Bd.returns] at h; cases h)
  refine ⟨_, _, pre_5 _ ?_, hrun, hended, _, _, rfl, ?_, ⟨_, rfl⟩, hW, hsame.mono (by decide) (by decide)⟩
  · show Sp p e below T3 (mkF m 46 #[.val (.ref a1), .val (.int (1 : Int32)), .val (.ref a3), .val (.int (1 : Int32)), .val (.int (1 : Int32)), .val (.int (1 : Int32)), .val (.int c0)] [(.int (1 : Int32))]) _
    exact retI X3 hx Bd.returns (hb hby d_jdk_52_21_46) hr
  · show Q_cmpa1 Z _ _ _ _ _ h0 n0 _ T3.heap _
    rw [e3]
    exact ⟨rfl, N3, ((Keep.refl h0 [a3]).wr W3 (Or.inl (List.mem_of_getElem? (i := 0) rfl))), V3⟩
theorem d_jdk_52_16_0 : decode jdk_52_method_16_code 0 = .ok (.iload_n 2, 1) := by decide +kernel
theorem d_jdk_52_16_1 : decode jdk_52_method_16_code 1 = .ok (.newarray .byte, 2) := by decide +kernel
theorem d_jdk_52_16_3 : decode jdk_52_method_16_code 3 = .ok (.astore_n 3, 1) := by decide +kernel
theorem d_jdk_52_16_4 : decode jdk_52_method_16_code 4 = .ok (.aload_n 0, 1) := by decide +kernel
theorem d_jdk_52_16_5 : decode jdk_52_method_16_code 5 = .ok (.iload_n 1, 1) := by decide +kernel
theorem d_jdk_52_16_6 : decode jdk_52_method_16_code 6 = .ok (.aload_n 3, 1) := by decide +kernel
theorem d_jdk_52_16_7 : decode jdk_52_method_16_code 7 = .ok (.iconst 0, 1) := by decide +kernel
theorem d_jdk_52_16_8 : decode jdk_52_method_16_code 8 = .ok (.iload_n 2, 1) := by decide +kernel
theorem d_jdk_52_16_9 : decode jdk_52_method_16_code 9 = .ok (.invokestatic 115, 3) := by decide +kernel
theorem d_jdk_52_16_12 : decode jdk_52_method_16_code 12 = .ok (.istore 4, 2) := by decide +kernel
theorem d_jdk_52_16_14 : decode jdk_52_method_16_code 14 = .ok (.iload 4, 2) := by decide +kernel
theorem d_jdk_52_16_16 : decode jdk_52_method_16_code 16 = .ok (.iload_n 2, 1) := by decide +kernel
theorem d_jdk_52_16_17 : decode jdk_52_method_16_code 17 = .ok (.if_icmp .eq 40, 3) := by decide +kernel
theorem d_jdk_52_16_57 : decode jdk_52_method_16_code 57 = .ok (.aload_n 3, 1) := by decide +kernel
theorem d_jdk_52_16_58 : decode jdk_52_method_16_code 58 = .ok (.areturn, 1) := by decide +kernel
theorem pn_cmpb1 : plainName "java/lang/StringUTF16" = true := by first | (simp [plainName, overriddenIn]; done) | decide +kernel
theorem pd_cmpb1_0 : parseMethodDescriptor "([CI[BII)I" = some ⟨[(.array .char), .int, (.array .byte), .int, .int], some .int⟩ := by decide +kernel
theorem ef_cmpb1 (m : MethodId) (a1 : Addr) : entryFrame m #[(.ref a1), (.int (0 : Int32)), (.int (1 : Int32))] 6 = (mkF m 0 #[.val (.ref a1), .val (.int (0 : Int32)), .val (.int (1 : Int32)), .unset, .unset, .unset] []) := by first | (simp [entryFrame, mkF, argsToLocals, Value.category]; done) | rfl
def Q_cmpb1 (Z : State) (a1 : Addr) (kC : ClassId) (c0 : Int32) (h0 : Heap) (n0 : Nat) (v : Option Value) (h : Heap) (L : List Loc) : Prop := ∃ b kB, v = some (.ref b) ∧ Fr n0 L ∧ Keep h0 h [] ∧ h0.size ≤ b ∧ Arv Z h b kB .byte (1 : Int32) [(.int (c0).toInt8.toInt32)] (.int (0 : Int32))
set_option maxRecDepth 65536 in
set_option maxHeartbeats 40000000 in
theorem rm_cmpb1 (l : Launch) (Z : State) (a0 : Array Value) (hw : ∀ d ∈ tables_1, d.before a0 Z = true) (ws : List Jvm.Cond) (a1 : Addr) (kC : ClassId) (c0 : Int32) (h0 : Heap) (n0 : Nat) (O0 : Old Z n0 h0) (VC : Arv Z h0 a1 kC .char (1 : Int32) [(.int c0)] (.int (0 : Int32))) (hc0 : ¬ (255 : Int32) < c0) :
    MetFree l (⟨"java/lang/StringUTF16", "compress", "([CII)[B"⟩ : MethodName) (head1 (Jvm.Cond.code (⟨"java/lang/StringUTF16", "compress", "([CII)[B"⟩ : MethodName) jdk_52_method_16_code 6 (some (.array .byte)) :: ws) ({ frames := 1, cells := 1, slots := 1, locals := 18 } : Room)) (fun a U => a = #[(.ref a1), (.int (0 : Int32)), (.int (1 : Int32))] ∧ Z.Warmed39 U.vm ∧ U.heap = h0) (fun _ _ _ _ _ => True) (fun _ U o U' => ∃ v L, o = .returned v ∧ Q_cmpb1 Z a1 kC c0 h0 n0 v U'.heap L ∧ FrameEnd U o U' L ({ frames := 1, cells := 1, slots := 1, locals := 18 } : Room).cells ({ frames := 1, cells := 1, slots := 1, locals := 18 } : Room).slots) := by
  refine MetFree.of_bodySF (plainFor_of_name pn_cmpb1) hisR ?_
  intro p e s m args below meth c s₁ Bd hml0 hP hK
  obtain ⟨rfl, hZ, hh⟩ := hP
  have hx := Bd.exec
  have hby := Bd.bytes
  have hml : c.maxLocals = 6 := hml0
  have hown : s.vm.findClass "java/lang/StringUTF16" = some m.cls := findClass_of_methodNamed Bd.named
  have hnm := (name_of_methodNamed Bd.named Bd.method).1
  have X0 : Stand p l e ({ frames := 1, cells := 1, slots := 1, locals := 18 } : Room) s m #[(.ref a1), (.int (0 : Int32)), (.int (1 : Int32))] below meth c s₁ [] 0 0 := Stand.of_body Bd
  have e0 : s₁.heap = h0 := by rw [← hh, Bd.state]; rfl
  have N0 := Fr.nil n0
  have pre0 : ∀ t, Steps p.tables e below (s₁.setTop (mkF m 0 #[.val (.ref a1), .val (.int (0 : Int32)), .val (.int (1 : Int32)), .unset, .unset, .unset] [])) t → Steps p.tables e below (s₁.setTop (entryFrame m #[(.ref a1), (.int (0 : Int32)), (.int (1 : Int32))] 6)) t := fun t k => castTop (ef_cmpb1 m a1) k
  generalize s₁.setTop (entryFrame m #[(.ref a1), (.int (0 : Int32)), (.int (1 : Int32))] 6) = E0 at pre0 ⊢
  have pre_1 : ∀ t, Sp p e below s₁ (mkF m 1 #[.val (.ref a1), .val (.int (0 : Int32)), .val (.int (1 : Int32)), .unset, .unset, .unset] [(.int (1 : Int32))]) t → Steps p.tables e below E0 t := by
    intro t k
    refine pre0 t ?_
    show Sp p e below s₁ (mkF m 0 #[.val (.ref a1), .val (.int (0 : Int32)), .val (.int (1 : Int32)), .unset, .unset, .unset] []) _
    refine XS.iloadN X0.here hx rfl (hb hby d_jdk_52_16_0) rfl ?_
    exact k
  obtain ⟨T2, h2, cA2, X2, e2, E2, A2, st2⟩ := newP X0 hx hZ (own_w hw 60 rfl) e0 (g := (mkF m 1 #[.val (.ref a1), .val (.int (0 : Int32)), .val (.int (1 : Int32)), .unset, .unset, .unset] [(.int (1 : Int32))])) rfl (hb hby d_jdk_52_16_1) rfl (by decide) (cap := 1) (by decide) (by decide) (by decide) (by decide)
  obtain ⟨b2, g2⟩ : ∃ z, z = h0.size := ⟨_, rfl⟩
  rw [← g2] at A2 st2
  have O2 : Old Z n0 h2 := O0.ext E2
  have V2 : Arv Z h2 b2 cA2 .byte (1 : Int32) [(.int (0 : Int32))] (.int (0 : Int32)) := (Arv.new A2 (by decide)).pad (pad_rep [] _ 1)
  have pre_3 : ∀ t, Sp p e below T2 (mkF m 3 #[.val (.ref a1), .val (.int (0 : Int32)), .val (.int (1 : Int32)), .unset, .unset, .unset] [(.ref b2)]) t → Steps p.tables e below E0 t := fun t k => pre_1 t (st2 t k)
  have pre_4 : ∀ t, Sp p e below T2 (mkF m 9 #[.val (.ref a1), .val (.int (0 : Int32)), .val (.int (1 : Int32)), .val (.ref b2), .unset, .unset] [(.int (1 : Int32)), (.int (0 : Int32)), (.ref b2), (.int (0 : Int32)), (.ref a1)]) t → Steps p.tables e below E0 t := by
    intro t k
    refine pre_3 t ?_
    show Sp p e below T2 (mkF m 3 #[.val (.ref a1), .val (.int (0 : Int32)), .val (.int (1 : Int32)), .unset, .unset, .unset] [(.ref b2)]) _
    refine XS.astoreN X2.here hx rfl (hb hby d_jdk_52_16_3) rfl rfl (l' := #[.val (.ref a1), .val (.int (0 : Int32)), .val (.int (1 : Int32)), .val (.ref b2), .unset, .unset]) rfl ?_
    refine XS.aloadN X2.here hx rfl (hb hby d_jdk_52_16_4) rfl rfl ?_
    refine XS.iloadN X2.here hx rfl (hb hby d_jdk_52_16_5) rfl ?_
    show Sp p e below T2 (mkF m 6 #[.val (.ref a1), .val (.int (0 : Int32)), .val (.int (1 : Int32)), .val (.ref b2), .unset, .unset] [(.int (0 : Int32)), (.ref a1)]) _
    refine XS.aloadN X2.here hx rfl (hb hby d_jdk_52_16_6) rfl rfl ?_
    refine XS.iconst X2.here hx rfl (hb hby d_jdk_52_16_7) ?_
    refine XS.iloadN X2.here hx rfl (hb hby d_jdk_52_16_8) rfl ?_
    exact k
  obtain ⟨_, _, ⟨T5, L5, k5, n5⟩, -, X5, ⟨Lc5, hQ5, l5, y5, z5⟩, st5⟩ := Jvm.LawKit.callS X2 hx (y := (⟨"java/lang/StringUTF16", "compress", "([CI[BII)I"⟩ : MethodName)) hown (mvT hZ (own_w hw 77 rfl)) (mvT hZ (own_w hw 78 rfl)) (mvT hZ (own_w hw 75 rfl)) (mvT hZ (own_w hw 79 rfl)) (by decide) (backOf (W := 0) (rm_cmpa1 l Z a0 hw [] a1 b2 kC cA2 c0 h2 n0 O2 (VC.ext E2) V2 (Nat.le_trans (own_le O0) (Nat.le_of_eq g2.symm)) (Nat.ne_of_lt (Nat.lt_of_lt_of_le VC.lt (Nat.le_of_eq g2.symm))) hc0) hZ (own_w hw 79 rfl) (own_w hw 75 rfl) (by decide) (by decide)) (g := (mkF m 9 #[.val (.ref a1), .val (.int (0 : Int32)), .val (.int (1 : Int32)), .val (.ref b2), .unset, .unset] [(.int (1 : Int32)), (.int (0 : Int32)), (.ref b2), (.int (0 : Int32)), (.ref a1)])) rfl (by rw [hml]; rfl) (argsL := [(.ref a1), (.int (0 : Int32)), (.ref b2), (.int (0 : Int32)), (.int (1 : Int32))]) (rest := []) (lenOf pd_cmpb1_0 rfl) rfl (by show 2 * 0 + _ ≤ _; exact Nat.le_of_eq rfl) (hb hby d_jdk_52_16_9) (fun _ _ => ⟨rfl, e2, (by decide : 1 + 0 ≤ _), (by decide : 1 + 0 ≤ _)⟩)
  dsimp only [Pt.U, Pt.locs, Pt.cells, Pt.slots] at X5 l5 y5 z5 st5 hQ5
  subst l5 y5 z5
  obtain ⟨rfl, N5q, K5, Vb5⟩ := hQ5
  have N5 := Fr.app N0 N5q
  have O5 : Old Z n0 T5.heap := O2.keep K5 (allS (Nat.le_trans (own_le O0) (Nat.le_of_eq g2.symm)) all0)
  have pre_6 : ∀ t, Sp p e below T5 (mkF m 12 #[.val (.ref a1), .val (.int (0 : Int32)), .val (.int (1 : Int32)), .val (.ref b2), .unset, .unset] [(.int (1 : Int32))]) t → Steps p.tables e below E0 t := fun t k => pre_4 t (st5 t k)
  have pre_7 : ∀ t, Sp p e below T5 (mkF m 58 #[.val (.ref a1), .val (.int (0 : Int32)), .val (.int (1 : Int32)), .val (.ref b2), .val (.int (1 : Int32)), .unset] [(.ref b2)]) t → Steps p.tables e below E0 t := by
    intro t k
    refine pre_6 t ?_
    show Sp p e below T5 (mkF m 12 #[.val (.ref a1), .val (.int (0 : Int32)), .val (.int (1 : Int32)), .val (.ref b2), .unset, .unset] [(.int (1 : Int32))]) _
    refine XS.istore X5.here hx rfl (hb hby d_jdk_52_16_12) rfl (l' := #[.val (.ref a1), .val (.int (0 : Int32)), .val (.int (1 : Int32)), .val (.ref b2), .val (.int (1 : Int32)), .unset]) rfl ?_
    show Sp p e below T5 (mkF m 14 #[.val (.ref a1), .val (.int (0 : Int32)), .val (.int (1 : Int32)), .val (.ref b2), .val (.int (1 : Int32)), .unset] []) _
    refine XS.iload X5.here hx rfl (hb hby d_jdk_52_16_14) rfl ?_
    refine XS.iloadN X5.here hx rfl (hb hby d_jdk_52_16_16) rfl ?_
    refine XS.icmpYes X5.here hx rfl (pc0 := 17) (pc' := 57) rfl (hb hby d_jdk_52_16_17) rfl (XT.ii_eq_t (by decide)) (by decide) (by decide) ?_
    refine XS.aloadN X5.here hx rfl (hb hby d_jdk_52_16_57) rfl rfl ?_
    show Sp p e below T5 (mkF m 58 #[.val (.ref a1), .val (.int (0 : Int32)), .val (.int (1 : Int32)), .val (.ref b2), .val (.int (1 : Int32)), .unset] [(.ref b2)]) _
    exact k
  obtain ⟨fs, hr, hrun, hended, hW, hsame⟩ := X5.leave (v := some (.ref b2)) (fun h => by rw [Bd.returns] at h; cases h)
  refine ⟨_, _, pre_7 _ ?_, hrun, hended, _, _, rfl, ?_, ⟨_, rfl⟩, hW, hsame.mono (by decide) (by decide)⟩
  · show Sp p e below T5 (mkF m 58 #[.val (.ref a1), .val (.int (0 : Int32)), .val (.int (1 : Int32)), .val (.ref b2), .val (.int (1 : Int32)), .unset] [(.ref b2)]) _
    exact retOut X5 hx (t := (.array .byte)) Bd.returns rfl (Or.inr (Or.inr (Or.inr (Or.inr ⟨rfl, rfl, rfl⟩)))) (hb hby d_jdk_52_16_58) hr
  · show Q_cmpb1 Z _ _ _ h0 n0 _ T5.heap _
    exact ⟨b2, cA2, rfl, N5, (((Keep.refl h0 []).ext E2).trans K5 (allS (Or.inr (Nat.le_trans (Keep.refl h0 []).1 (Nat.le_of_eq g2.symm))) all0)), (Nat.le_trans (Keep.refl h0 []).1 (Nat.le_of_eq g2.symm)), Vb5⟩
theorem d_jdk_52_15_0 : decode jdk_52_method_15_code 0 = .ok (.iload_n 1, 1) := by decide +kernel
theorem d_jdk_52_15_1 : decode jdk_52_method_15_code 1 = .ok (.aload_n 0, 1) := by decide +kernel
theorem d_jdk_52_15_2 : decode jdk_52_method_15_code 2 = .ok (.arraylength, 1) := by decide +kernel
theorem d_jdk_52_15_3 : decode jdk_52_method_15_code 3 = .ok (.isub, 1) := by decide +kernel
theorem d_jdk_52_15_4 : decode jdk_52_method_15_code 4 = .ok (.bipush 31, 2) := by decide +kernel
theorem d_jdk_52_15_6 : decode jdk_52_method_15_code 6 = .ok (.iushr, 1) := by decide +kernel
theorem d_jdk_52_15_7 : decode jdk_52_method_15_code 7 = .ok (.i2b, 1) := by decide +kernel
theorem d_jdk_52_15_8 : decode jdk_52_method_15_code 8 = .ok (.ireturn, 1) := by decide +kernel
theorem pn_cfa1 : plainName "java/lang/StringUTF16" = true := by first | (simp [plainName, overriddenIn]; done) | decide +kernel
theorem ef_cfa1 (m : MethodId) (a1 : Addr) : entryFrame m #[(.ref a1), (.int (1 : Int32))] 2 = (mkF m 0 #[.val (.ref a1), .val (.int (1 : Int32))] []) := by first | (simp [entryFrame, mkF, argsToLocals, Value.category]; done) | rfl
def Q_cfa1 (Z : State) (a1 : Addr) (kB : ClassId) (c0 : Int32) (h0 : Heap) (n0 : Nat) (v : Option Value) (h : Heap) (L : List Loc) : Prop := v = some (.int (0 : Int32)) ∧ Fr n0 L ∧ h = h0
set_option maxRecDepth 65536 in
set_option maxHeartbeats 40000000 in
theorem rm_cfa1 (l : Launch) (Z : State) (a0 : Array Value) (hw : ∀ d ∈ tables_1, d.before a0 Z = true) (ws : List Jvm.Cond) (a1 : Addr) (kB : ClassId) (c0 : Int32) (h0 : Heap) (n0 : Nat) (O0 : Old Z n0 h0) (VB : Arv Z h0 a1 kB .byte (1 : Int32) [(.int (c0).toInt8.toInt32)] (.int (0 : Int32))) :
    MetFree l (⟨"java/lang/StringUTF16", "coderFromArrayLen", "([BI)B"⟩ : MethodName) (head1 (Jvm.Cond.code (⟨"java/lang/StringUTF16", "coderFromArrayLen", "([BI)B"⟩ : MethodName) jdk_52_method_15_code 2 (some .byte) :: ws) ({ frames := 0, cells := 0, slots := 0, locals := 0 } : Room)) (fun a U => a = #[(.ref a1), (.int (1 : Int32))] ∧ Z.Warmed39 U.vm ∧ U.heap = h0) (fun _ _ _ _ _ => True) (fun _ U o U' => ∃ v L, o = .returned v ∧ Q_cfa1 Z a1 kB c0 h0 n0 v U'.heap L ∧ FrameEnd U o U' L ({ frames := 0, cells := 0, slots := 0, locals := 0 } : Room).cells ({ frames := 0, cells := 0, slots := 0, locals := 0 } : Room).slots) := by
  refine MetFree.of_bodySF (plainFor_of_name pn_cfa1) hisR ?_
  intro p e s m args below meth c s₁ Bd hml0 hP hK
  obtain ⟨rfl, hZ, hh⟩ := hP
  have hx := Bd.exec
  have hby := Bd.bytes
  have hml : c.maxLocals = 2 := hml0
  have hown : s.vm.findClass "java/lang/StringUTF16" = some m.cls := findClass_of_methodNamed Bd.named
  have hnm := (name_of_methodNamed Bd.named Bd.method).1
  have X0 : Stand p l e ({ frames := 0, cells := 0, slots := 0, locals := 0 } : Room) s m #[(.ref a1), (.int (1 : Int32))] below meth c s₁ [] 0 0 := Stand.of_body Bd
  have e0 : s₁.heap = h0 := by rw [← hh, Bd.state]; rfl
  have N0 := Fr.nil n0
  have pre0 : ∀ t, Steps p.tables e below (s₁.setTop (mkF m 0 #[.val (.ref a1), .val (.int (1 : Int32))] [])) t → Steps p.tables e below (s₁.setTop (entryFrame m #[(.ref a1), (.int (1 : Int32))] 2)) t := fun t k => castTop (ef_cfa1 m a1) k
  generalize s₁.setTop (entryFrame m #[(.ref a1), (.int (1 : Int32))] 2) = E0 at pre0 ⊢
  have pre_2 : ∀ t, Sp p e below s₁ (mkF m 8 #[.val (.ref a1), .val (.int (1 : Int32))] [(.int (0 : Int32))]) t → Steps p.tables e below E0 t := by
    intro t k
    refine pre0 t ?_
    show Sp p e below s₁ (mkF m 0 #[.val (.ref a1), .val (.int (1 : Int32))] []) _
    refine XS.iloadN X0.here hx rfl (hb hby d_jdk_52_15_0) rfl ?_
    refine XS.aloadN X0.here hx rfl (hb hby d_jdk_52_15_1) rfl rfl ?_
    obtain ⟨cl1, Ar1, -, S1, M1, -, -⟩ := id VB
    refine X0.arraylength hx (cell := cl1) (by rw [e0]; exact Ar1.1) (State.isArrayOf_alike hZ.alike Ar1.2.1) (g := (mkF m 2 #[.val (.ref a1), .val (.int (1 : Int32))] [(.ref a1), (.int (1 : Int32))])) rfl (rest := [(.int (1 : Int32))]) rfl (hb hby d_jdk_52_15_2) _ ?_
    rw [len_of S1 M1]
    show Sp p e below s₁ (mkF m 3 #[.val (.ref a1), .val (.int (1 : Int32))] [(.int (1 : Int32)), (.int (1 : Int32))]) _
    refine XS.isub X0.here hx rfl (hb hby d_jdk_52_15_3) rfl ?_
    refine XS.bipush X0.here hx rfl (hb hby d_jdk_52_15_4) ?_
    show Sp p e below s₁ (mkF m 6 #[.val (.ref a1), .val (.int (1 : Int32))] [(.int (31 : Int32)), (.int (0 : Int32))]) _
    refine XT.iushr X0.here hx rfl (hb hby d_jdk_52_15_6) rfl ?_
    refine XT.i2b X0.here hx rfl (hb hby d_jdk_52_15_7) rfl ?_
    exact k
  obtain ⟨fs, hr, hrun, hended, hW, hsame⟩ := X0.leave (v := some (.int (0 : Int32))) (fun h => by rw [Bd.returns] at h; cases h)
  refine ⟨_, _, pre_2 _ ?_, hrun, hended, _, _, rfl, ?_, ⟨_, rfl⟩, hW, hsame.mono (by decide) (by decide)⟩
  · show Sp p e below s₁ (mkF m 8 #[.val (.ref a1), .val (.int (1 : Int32))] [(.int (0 : Int32))]) _
    exact retN X0 hx (t := .byte) Bd.returns (by simp) (hb hby d_jdk_52_15_8) hr
  · show Q_cfa1 Z _ _ _ h0 n0 _ s₁.heap _
    rw [e0]
    exact ⟨rfl, N0, rfl⟩
theorem d_jdk_42_149_0 : decode jdk_42_method_149_code 0 = .ok (.aload_n 0, 1) := by decide +kernel
theorem d_jdk_42_149_1 : decode jdk_42_method_149_code 1 = .ok (.invokespecial 1, 3) := by decide +kernel
theorem d_jdk_42_149_4 : decode jdk_42_method_149_code 4 = .ok (.iload_n 3, 1) := by decide +kernel
theorem d_jdk_42_149_5 : decode jdk_42_method_149_code 5 = .ok (.ifCond .ne 22, 3) := by decide +kernel
theorem d_jdk_42_149_27 : decode jdk_42_method_149_code 27 = .ok (.getstatic 38, 3) := by decide +kernel
theorem d_jdk_42_149_30 : decode jdk_42_method_149_code 30 = .ok (.ifCond .eq 28, 3) := by decide +kernel
theorem d_jdk_42_149_33 : decode jdk_42_method_149_code 33 = .ok (.aload_n 1, 1) := by decide +kernel
theorem d_jdk_42_149_34 : decode jdk_42_method_149_code 34 = .ok (.iload_n 2, 1) := by decide +kernel
theorem d_jdk_42_149_35 : decode jdk_42_method_149_code 35 = .ok (.iload_n 3, 1) := by decide +kernel
theorem d_jdk_42_149_36 : decode jdk_42_method_149_code 36 = .ok (.invokestatic 177, 3) := by decide +kernel
theorem d_jdk_42_149_39 : decode jdk_42_method_149_code 39 = .ok (.astore 5, 2) := by decide +kernel
theorem d_jdk_42_149_41 : decode jdk_42_method_149_code 41 = .ok (.aload_n 0, 1) := by decide +kernel
theorem d_jdk_42_149_42 : decode jdk_42_method_149_code 42 = .ok (.aload 5, 2) := by decide +kernel
theorem d_jdk_42_149_44 : decode jdk_42_method_149_code 44 = .ok (.iload_n 3, 1) := by decide +kernel
theorem d_jdk_42_149_45 : decode jdk_42_method_149_code 45 = .ok (.invokestatic 47, 3) := by decide +kernel
theorem d_jdk_42_149_48 : decode jdk_42_method_149_code 48 = .ok (.putfield 15, 3) := by decide +kernel
theorem d_jdk_42_149_51 : decode jdk_42_method_149_code 51 = .ok (.aload_n 0, 1) := by decide +kernel
theorem d_jdk_42_149_52 : decode jdk_42_method_149_code 52 = .ok (.aload 5, 2) := by decide +kernel
theorem d_jdk_42_149_54 : decode jdk_42_method_149_code 54 = .ok (.putfield 9, 3) := by decide +kernel
theorem d_jdk_42_149_57 : decode jdk_42_method_149_code 57 = .ok (.return_, 1) := by decide +kernel
theorem pn_sti1 : plainName "java/lang/String" = true := by first | (simp [plainName, overriddenIn]; done) | decide +kernel
theorem pd_sti1_0 : parseMethodDescriptor "([CII)[B" = some ⟨[(.array .char), .int, .int], some (.array .byte)⟩ := by decide +kernel
theorem pd_sti1_1 : parseMethodDescriptor "([BI)B" = some ⟨[(.array .byte), .int], some .byte⟩ := by decide +kernel
theorem ef_sti1 (m : MethodId) (a1 : Addr) (a2 : Addr) : entryFrame m #[(.ref a1), (.ref a2), (.int (0 : Int32)), (.int (1 : Int32)), .null] 6 = (mkF m 0 #[.val (.ref a1), .val (.ref a2), .val (.int (0 : Int32)), .val (.int (1 : Int32)), .val .null, .unset] []) := by first | (simp [entryFrame, mkF, argsToLocals, Value.category]; done) | rfl
def Q_sti1 (Z : State) (a1 : Addr) (a2 : Addr) (u1 u2 : Value) (G1 : Int32) (kC : ClassId) (c0 : Int32) (h0 : Heap) (n0 : Nat) (v : Option Value) (h : Heap) (L : List Loc) : Prop := v = none ∧ Fr n0 L ∧ Keep h0 h [a1] ∧ Fld Z h a1 "java/lang/String" "coder" "B" (.int (0 : Int32)) ∧ ∃ b kB, h0.size ≤ b ∧ Fld Z h a1 "java/lang/String" "value" "[B" (.ref b) ∧ Arv Z h b kB .byte (1 : Int32) [(.int (c0).toInt8.toInt32)] (.int (0 : Int32))
set_option maxRecDepth 65536 in
set_option maxHeartbeats 40000000 in
theorem rm_sti1 (l : Launch) (Z : State) (a0 : Array Value) (hw : ∀ d ∈ tables_1, d.before a0 Z = true) (ws : List Jvm.Cond) (a1 : Addr) (a2 : Addr) (u1 u2 : Value) (G1 : Int32) (kC : ClassId) (c0 : Int32) (h0 : Heap) (n0 : Nat) (O0 : Old Z n0 h0) (E1 : Exa Z h0 a1 "java/lang/String") (F1 : Fld Z h0 a1 "java/lang/String" "value" "[B" u1) (F2 : Fld Z h0 a1 "java/lang/String" "coder" "B" u2) (g1 : n0 ≤ a1) (SC : Sta Z Z.heap "java/lang/String" "COMPACT_STRINGS" "Z" (.int G1)) (hG : ¬ G1 = (0 : Int32)) (VC : Arv Z h0 a2 kC .char (1 : Int32) [(.int c0)] (.int (0 : Int32))) (hc0 : ¬ (255 : Int32) < c0) :
    MetFree l (⟨"java/lang/String", "<init>", "([CIILjava/lang/Void;)V"⟩ : MethodName) (head1 (Jvm.Cond.code (⟨"java/lang/String", "<init>", "([CIILjava/lang/Void;)V"⟩ : MethodName) jdk_42_method_149_code 6 none :: ws) ({ frames := 2, cells := 1, slots := 1, locals := 36 } : Room)) (fun a U => a = #[(.ref a1), (.ref a2), (.int (0 : Int32)), (.int (1 : Int32)), .null] ∧ Z.Warmed39 U.vm ∧ U.heap = h0) (fun _ _ _ _ _ => True) (fun _ U o U' => ∃ v L, o = .returned v ∧ Q_sti1 Z a1 a2 u1 u2 G1 kC c0 h0 n0 v U'.heap L ∧ FrameEnd U o U' L ({ frames := 2, cells := 1, slots := 1, locals := 36 } : Room).cells ({ frames := 2, cells := 1, slots := 1, locals := 36 } : Room).slots) := by
  refine MetFree.of_bodySF (plainFor_of_name pn_sti1) hisR ?_
  intro p e s m args below meth c s₁ Bd hml0 hP hK
  obtain ⟨rfl, hZ, hh⟩ := hP
  have hx := Bd.exec
  have hby := Bd.bytes
  have hml : c.maxLocals = 6 := hml0
  have hown : s.vm.findClass "java/lang/String" = some m.cls := findClass_of_methodNamed Bd.named
  have hnm := (name_of_methodNamed Bd.named Bd.method).1
  have X0 : Stand p l e ({ frames := 2, cells := 1, slots := 1, locals := 36 } : Room) s m #[(.ref a1), (.ref a2), (.int (0 : Int32)), (.int (1 : Int32)), .null] below meth c s₁ [] 0 0 := Stand.of_body Bd
  have e0 : s₁.heap = h0 := by rw [← hh, Bd.state]; rfl
  have N0 := Fr.nil n0
  have pre0 : ∀ t, Steps p.tables e below (s₁.setTop (mkF m 0 #[.val (.ref a1), .val (.ref a2), .val (.int (0 : Int32)), .val (.int (1 : Int32)), .val .null, .unset] [])) t → Steps p.tables e below (s₁.setTop (entryFrame m #[(.ref a1), (.ref a2), (.int (0 : Int32)), (.int (1 : Int32)), .null] 6)) t := fun t k => castTop (ef_sti1 m a1 a2) k
  generalize s₁.setTop (entryFrame m #[(.ref a1), (.ref a2), (.int (0 : Int32)), (.int (1 : Int32)), .null] 6) = E0 at pre0 ⊢
  have pre_1 : ∀ t, Sp p e below s₁ (mkF m 1 #[.val (.ref a1), .val (.ref a2), .val (.int (0 : Int32)), .val (.int (1 : Int32)), .val .null, .unset] [(.ref a1)]) t → Steps p.tables e below E0 t := by
    intro t k
    refine pre0 t ?_
    show Sp p e below s₁ (mkF m 0 #[.val (.ref a1), .val (.ref a2), .val (.int (0 : Int32)), .val (.int (1 : Int32)), .val .null, .unset] []) _
    refine XS.aloadN X0.here hx rfl (hb hby d_jdk_42_149_0) rfl rfl ?_
    exact k
  obtain ⟨T2, X2, e2, st2⟩ := initO X0 hx hZ hown (own_w hw 58 rfl) (own_w hw 24 rfl) (own_w hw 25 rfl) e0 (g := (mkF m 1 #[.val (.ref a1), .val (.ref a2), .val (.int (0 : Int32)), .val (.int (1 : Int32)), .val .null, .unset] [(.ref a1)])) rfl (by rw [hml]; rfl) rfl (hb hby d_jdk_42_149_1) (by decide) (W := 0) (by show 2 * 0 + _ ≤ _; exact Nat.le_of_eq rfl) (by decide)
  have pre_3 : ∀ t, Sp p e below T2 (mkF m 4 #[.val (.ref a1), .val (.ref a2), .val (.int (0 : Int32)), .val (.int (1 : Int32)), .val .null, .unset] []) t → Steps p.tables e below E0 t := fun t k => pre_1 t (st2 t k)
  have pre_4 : ∀ t, Sp p e below T2 (mkF m 27 #[.val (.ref a1), .val (.ref a2), .val (.int (0 : Int32)), .val (.int (1 : Int32)), .val .null, .unset] []) t → Steps p.tables e below E0 t := by
    intro t k
    refine pre_3 t ?_
    show Sp p e below T2 (mkF m 4 #[.val (.ref a1), .val (.ref a2), .val (.int (0 : Int32)), .val (.int (1 : Int32)), .val .null, .unset] []) _
    refine XS.iloadN X2.here hx rfl (hb hby d_jdk_42_149_4) rfl ?_
    refine XS.ifYes X2.here hx rfl (pc0 := 5) (pc' := 27) rfl (hb hby d_jdk_42_149_5) rfl (XT.i0_ne_t (by decide)) (by decide) (by decide) ?_
    exact k
  obtain ⟨T5, X5, e5, st5⟩ := getS X2 hx hZ hown (host := "") (own_w hw 72 rfl) Via.refl e2 (SC.ext O0.2) (g := (mkF m 27 #[.val (.ref a1), .val (.ref a2), .val (.int (0 : Int32)), .val (.int (1 : Int32)), .val .null, .unset] [])) rfl (hb hby d_jdk_42_149_27)
  have pre_6 : ∀ t, Sp p e below T5 (mkF m 30 #[.val (.ref a1), .val (.ref a2), .val (.int (0 : Int32)), .val (.int (1 : Int32)), .val .null, .unset] [(.int G1)]) t → Steps p.tables e below E0 t := fun t k => pre_4 t (st5 t k)
  have pre_7 : ∀ t, Sp p e below T5 (mkF m 36 #[.val (.ref a1), .val (.ref a2), .val (.int (0 : Int32)), .val (.int (1 : Int32)), .val .null, .unset] [(.int (1 : Int32)), (.int (0 : Int32)), (.ref a2)]) t → Steps p.tables e below E0 t := by
    intro t k
    refine pre_6 t ?_
    show Sp p e below T5 (mkF m 30 #[.val (.ref a1), .val (.ref a2), .val (.int (0 : Int32)), .val (.int (1 : Int32)), .val .null, .unset] [(.int G1)]) _
    refine XS.ifNo X5.here hx rfl (hb hby d_jdk_42_149_30) rfl (XT.i0_eq_f hG) ?_
    show Sp p e below T5 (mkF m 33 #[.val (.ref a1), .val (.ref a2), .val (.int (0 : Int32)), .val (.int (1 : Int32)), .val .null, .unset] []) _
    refine XS.aloadN X5.here hx rfl (hb hby d_jdk_42_149_33) rfl rfl ?_
    refine XS.iloadN X5.here hx rfl (hb hby d_jdk_42_149_34) rfl ?_
    refine XS.iloadN X5.here hx rfl (hb hby d_jdk_42_149_35) rfl ?_
    exact k
  obtain ⟨_, _, ⟨T8, L8, k8, n8⟩, -, X8, ⟨Lc8, hQ8, l8, y8, z8⟩, st8⟩ := Jvm.LawKit.callS X5 hx (y := (⟨"java/lang/StringUTF16", "compress", "([CII)[B"⟩ : MethodName)) hown (mvT hZ (own_w hw 73 rfl)) (mvT hZ (own_w hw 74 rfl)) (mvT hZ (own_w hw 75 rfl)) (mvT hZ (own_w hw 76 rfl)) (by decide) (backOf (W := 0) (rm_cmpb1 l Z a0 hw [] a2 kC c0 h0 n0 O0 VC hc0) hZ (own_w hw 76 rfl) (own_w hw 75 rfl) (by decide) (by decide)) (g := (mkF m 36 #[.val (.ref a1), .val (.ref a2), .val (.int (0 : Int32)), .val (.int (1 : Int32)), .val .null, .unset] [(.int (1 : Int32)), (.int (0 : Int32)), (.ref a2)])) rfl (by rw [hml]; rfl) (argsL := [(.ref a2), (.int (0 : Int32)), (.int (1 : Int32))]) (rest := []) (lenOf pd_sti1_0 rfl) rfl (by show 2 * 0 + _ ≤ _; exact Nat.le_of_eq rfl) (hb hby d_jdk_42_149_36) (fun _ _ => ⟨rfl, e5, (by decide : 0 + 1 ≤ _), (by decide : 0 + 1 ≤ _)⟩)
  dsimp only [Pt.U, Pt.locs, Pt.cells, Pt.slots] at X8 l8 y8 z8 st8 hQ8
  subst l8 y8 z8
  obtain ⟨b8, kB8, rfl, N8q, K8, sb8, Vb8⟩ := hQ8
  have N8 := Fr.app N0 N8q
  have O8 : Old Z n0 T8.heap := O0.keep K8 all0
  have pre_9 : ∀ t, Sp p e below T8 (mkF m 39 #[.val (.ref a1), .val (.ref a2), .val (.int (0 : Int32)), .val (.int (1 : Int32)), .val .null, .unset] [(.ref b8)]) t → Steps p.tables e below E0 t := fun t k => pre_7 t (st8 t k)
  have pre_10 : ∀ t, Sp p e below T8 (mkF m 45 #[.val (.ref a1), .val (.ref a2), .val (.int (0 : Int32)), .val (.int (1 : Int32)), .val .null, .val (.ref b8)] [(.int (1 : Int32)), (.ref b8), (.ref a1)]) t → Steps p.tables e below E0 t := by
    intro t k
    refine pre_9 t ?_
    show Sp p e below T8 (mkF m 39 #[.val (.ref a1), .val (.ref a2), .val (.int (0 : Int32)), .val (.int (1 : Int32)), .val .null, .unset] [(.ref b8)]) _
    refine XS.astore X8.here hx rfl (hb hby d_jdk_42_149_39) rfl rfl (l' := #[.val (.ref a1), .val (.ref a2), .val (.int (0 : Int32)), .val (.int (1 : Int32)), .val .null, .val (.ref b8)]) rfl ?_
    show Sp p e below T8 (mkF m 41 #[.val (.ref a1), .val (.ref a2), .val (.int (0 : Int32)), .val (.int (1 : Int32)), .val .null, .val (.ref b8)] []) _
    refine XS.aloadN X8.here hx rfl (hb hby d_jdk_42_149_41) rfl rfl ?_
    refine XS.aload X8.here hx rfl (hb hby d_jdk_42_149_42) rfl rfl ?_
    refine XS.iloadN X8.here hx rfl (hb hby d_jdk_42_149_44) rfl ?_
    exact k
  obtain ⟨_, _, ⟨T11, L11, k11, n11⟩, -, X11, ⟨Lc11, hQ11, l11, y11, z11⟩, st11⟩ := Jvm.LawKit.callS X8 hx (y := (⟨"java/lang/StringUTF16", "coderFromArrayLen", "([BI)B"⟩ : MethodName)) hown (mvT hZ (own_w hw 80 rfl)) (mvT hZ (own_w hw 81 rfl)) (mvT hZ (own_w hw 75 rfl)) (mvT hZ (own_w hw 82 rfl)) (by decide) (backOf (W := 1) (rm_cfa1 l Z a0 hw [] b8 kB8 c0 T8.heap n0 O8 Vb8) hZ (own_w hw 82 rfl) (own_w hw 75 rfl) (by decide) (by decide)) (g := (mkF m 45 #[.val (.ref a1), .val (.ref a2), .val (.int (0 : Int32)), .val (.int (1 : Int32)), .val .null, .val (.ref b8)] [(.int (1 : Int32)), (.ref b8), (.ref a1)])) rfl (by rw [hml]; rfl) (argsL := [(.ref b8), (.int (1 : Int32))]) (rest := [(.ref a1)]) (lenOf pd_sti1_1 rfl) rfl (by show 2 * 0 + _ ≤ _; exact Nat.le_of_eq rfl) (hb hby d_jdk_42_149_45) (fun _ _ => ⟨rfl, rfl, (by decide : 1 + 0 ≤ _), (by decide : 1 + 0 ≤ _)⟩)
  dsimp only [Pt.U, Pt.locs, Pt.cells, Pt.slots] at X11 l11 y11 z11 st11 hQ11
  subst l11 y11 z11
  obtain ⟨rfl, N11q, e11⟩ := hQ11
  have N11 := Fr.app N8 N11q
  have pre_12 : ∀ t, Sp p e below T11 (mkF m 48 #[.val (.ref a1), .val (.ref a2), .val (.int (0 : Int32)), .val (.int (1 : Int32)), .val .null, .val (.ref b8)] [(.int (0 : Int32)), (.ref a1)]) t → Steps p.tables e below E0 t := fun t k => pre_10 t (st11 t k)
  obtain ⟨T13, h13, X13, e13, W13, st13⟩ := putF X11 hx hZ hown (host := "") (Or.inl (own_w hw 66 rfl)) Via.refl e11 (F2.keep K8 nin0) (E1.keep K8) (Or.inr ⟨(own_w hw 62 rfl), rfl, hnm⟩) (own_w hw 48 rfl) (ty := .byte) (by decide) rfl rfl (g := (mkF m 48 #[.val (.ref a1), .val (.ref a2), .val (.int (0 : Int32)), .val (.int (1 : Int32)), .val .null, .val (.ref b8)] [(.int (0 : Int32)), (.ref a1)])) rfl rfl (hb hby d_jdk_42_149_48)
  have Fw13 := (F2.keep K8 nin0).same W13
  have N13 := Fr.snoc X13 N11 g1
  have O13 : Old Z n0 h13 := O8.wr W13 g1
  have pre_14 : ∀ t, Sp p e below T13 (mkF m 51 #[.val (.ref a1), .val (.ref a2), .val (.int (0 : Int32)), .val (.int (1 : Int32)), .val .null, .val (.ref b8)] []) t → Steps p.tables e below E0 t := fun t k => pre_12 t (st13 t k)
  have pre_15 : ∀ t, Sp p e below T13 (mkF m 54 #[.val (.ref a1), .val (.ref a2), .val (.int (0 : Int32)), .val (.int (1 : Int32)), .val .null, .val (.ref b8)] [(.ref b8), (.ref a1)]) t → Steps p.tables e below E0 t := by
    intro t k
    refine pre_14 t ?_
    show Sp p e below T13 (mkF m 51 #[.val (.ref a1), .val (.ref a2), .val (.int (0 : Int32)), .val (.int (1 : Int32)), .val .null, .val (.ref b8)] []) _
    refine XS.aloadN X13.here hx rfl (hb hby d_jdk_42_149_51) rfl rfl ?_
    show Sp p e below T13 (mkF m 52 #[.val (.ref a1), .val (.ref a2), .val (.int (0 : Int32)), .val (.int (1 : Int32)), .val .null, .val (.ref b8)] [(.ref a1)]) _
    refine XS.aload X13.here hx rfl (hb hby d_jdk_42_149_52) rfl rfl ?_
    exact k
  obtain ⟨T16, h16, X16, e16, W16, st16⟩ := putF X13 hx hZ hown (host := "") (Or.inl (own_w hw 65 rfl)) Via.refl e13 ((F1.keep K8 nin0).other W13 (Or.inr (slot_ne (Or.inr (own_w hw 61 rfl)) (Or.inr (own_w hw 62 rfl)) (by decide) (t := (.array .byte)) (t' := .byte) (by decide) (by decide)))) ((E1.keep K8).wr W13) (Or.inr ⟨(own_w hw 61 rfl), rfl, hnm⟩) (own_w hw 48 rfl) (ty := (.array .byte)) (by decide) rfl rfl (g := (mkF m 54 #[.val (.ref a1), .val (.ref a2), .val (.int (0 : Int32)), .val (.int (1 : Int32)), .val .null, .val (.ref b8)] [(.ref b8), (.ref a1)])) rfl rfl (hb hby d_jdk_42_149_54)
  have Fw16 := ((F1.keep K8 nin0).other W13 (Or.inr (slot_ne (Or.inr (own_w hw 61 rfl)) (Or.inr (own_w hw 62 rfl)) (by decide) (t := (.array .byte)) (t' := .byte) (by decide) (by decide)))).same W16
  have N16 := Fr.snoc X16 N13 g1
  have O16 : Old Z n0 h16 := O13.wr W16 g1
  have pre_17 : ∀ t, Sp p e below T16 (mkF m 57 #[.val (.ref a1), .val (.ref a2), .val (.int (0 : Int32)), .val (.int (1 : Int32)), .val .null, .val (.ref b8)] []) t → Steps p.tables e below E0 t := fun t k => pre_15 t (st16 t k)
  obtain ⟨fs, hr, hrun, hended, hW, hsame⟩ := X16.leave (v := none) (fun _ => rfl)
  refine ⟨_, _, pre_17 _ ?_, hrun, hended, _, _, rfl, ?_, ⟨_, rfl⟩, hW, hsame.mono (by decide) (by decide)⟩
  · show Sp p e below T16 (mkF m 57 #[.val (.ref a1), .val (.ref a2), .val (.int (0 : Int32)), .val (.int (1 : Int32)), .val .null, .val (.ref b8)] []) _
    exact X16.returnOut hx Bd.returns (hb hby d_jdk_42_149_57) hr
  · show Q_sti1 Z _ _ _ _ _ _ _ h0 n0 _ T16.heap _
    rw [e16]
    exact ⟨rfl, N16, ((((Keep.refl h0 [a1]).trans K8 all0).wr W13 (Or.inl (List.mem_of_getElem? (i := 0) rfl))).wr W16 (Or.inl (List.mem_of_getElem? (i := 0) rfl))), (Fw13.other W16 (Or.inr (slot_ne (Or.inr (own_w hw 62 rfl)) (Or.inr (own_w hw 61 rfl)) (by decide) (t := .byte) (t' := (.array .byte)) (by decide) (by decide)))), b8, kB8, (Nat.le_trans (Keep.refl h0 [a1]).1 sb8), Fw16, ((Vb8.other W13 (Ne.symm (Nat.ne_of_lt (Nat.lt_of_lt_of_le E1.lt sb8)))).other W16 (Ne.symm (Nat.ne_of_lt (Nat.lt_of_lt_of_le E1.lt sb8))))⟩
theorem d_jdk_42_3_0 : decode jdk_42_method_3_code 0 = .ok (.aload_n 0, 1) := by decide +kernel
theorem d_jdk_42_3_1 : decode jdk_42_method_3_code 1 = .ok (.aload_n 1, 1) := by decide +kernel
theorem d_jdk_42_3_2 : decode jdk_42_method_3_code 2 = .ok (.iconst 0, 1) := by decide +kernel
theorem d_jdk_42_3_3 : decode jdk_42_method_3_code 3 = .ok (.aload_n 1, 1) := by decide +kernel
theorem d_jdk_42_3_4 : decode jdk_42_method_3_code 4 = .ok (.arraylength, 1) := by decide +kernel
theorem d_jdk_42_3_5 : decode jdk_42_method_3_code 5 = .ok (.aconst_null, 1) := by decide +kernel
theorem d_jdk_42_3_6 : decode jdk_42_method_3_code 6 = .ok (.invokespecial 27, 3) := by decide +kernel
theorem d_jdk_42_3_9 : decode jdk_42_method_3_code 9 = .ok (.return_, 1) := by decide +kernel
theorem pn_str1 : plainName "java/lang/String" = true := by first | (simp [plainName, overriddenIn]; done) | decide +kernel
theorem pd_str1_0 : parseMethodDescriptor "([CIILjava/lang/Void;)V" = some ⟨[(.array .char), .int, .int, (.object "java/lang/Void")], none⟩ := by decide +kernel
theorem ef_str1 (m : MethodId) (a1 : Addr) (a2 : Addr) : entryFrame m #[(.ref a1), (.ref a2)] 2 = (mkF m 0 #[.val (.ref a1), .val (.ref a2)] []) := by first | (simp [entryFrame, mkF, argsToLocals, Value.category]; done) | rfl
def Q_str1 (Z : State) (a1 : Addr) (a2 : Addr) (u1 u2 : Value) (G1 : Int32) (kC : ClassId) (c0 : Int32) (h0 : Heap) (n0 : Nat) (v : Option Value) (h : Heap) (L : List Loc) : Prop := v = none ∧ Fr n0 L ∧ Keep h0 h [a1] ∧ Fld Z h a1 "java/lang/String" "coder" "B" (.int (0 : Int32)) ∧ ∃ b kB, h0.size ≤ b ∧ Fld Z h a1 "java/lang/String" "value" "[B" (.ref b) ∧ Arv Z h b kB .byte (1 : Int32) [(.int (c0).toInt8.toInt32)] (.int (0 : Int32))
set_option maxRecDepth 65536 in
set_option maxHeartbeats 40000000 in
theorem rm_str1 (l : Launch) (Z : State) (a0 : Array Value) (hw : ∀ d ∈ tables_1, d.before a0 Z = true) (ws : List Jvm.Cond) (a1 : Addr) (a2 : Addr) (u1 u2 : Value) (G1 : Int32) (kC : ClassId) (c0 : Int32) (h0 : Heap) (n0 : Nat) (O0 : Old Z n0 h0) (E1 : Exa Z h0 a1 "java/lang/String") (F1 : Fld Z h0 a1 "java/lang/String" "value" "[B" u1) (F2 : Fld Z h0 a1 "java/lang/String" "coder" "B" u2) (g1 : n0 ≤ a1) (SC : Sta Z Z.heap "java/lang/String" "COMPACT_STRINGS" "Z" (.int G1)) (hG : ¬ G1 = (0 : Int32)) (VC : Arv Z h0 a2 kC .char (1 : Int32) [(.int c0)] (.int (0 : Int32))) (hc0 : ¬ (255 : Int32) < c0) :
    MetFree l (⟨"java/lang/String", "<init>", "([C)V"⟩ : MethodName) (head1 (Jvm.Cond.code (⟨"java/lang/String", "<init>", "([C)V"⟩ : MethodName) jdk_42_method_3_code 2 none :: ws) ({ frames := 3, cells := 1, slots := 1, locals := 53 } : Room)) (fun a U => a = #[(.ref a1), (.ref a2)] ∧ Z.Warmed39 U.vm ∧ U.heap = h0) (fun _ _ _ _ _ => True) (fun _ U o U' => ∃ v L, o = .returned v ∧ Q_str1 Z a1 a2 u1 u2 G1 kC c0 h0 n0 v U'.heap L ∧ FrameEnd U o U' L ({ frames := 3, cells := 1, slots := 1, locals := 53 } : Room).cells ({ frames := 3, cells := 1, slots := 1, locals := 53 } : Room).slots) := by
  refine MetFree.of_bodySF (plainFor_of_name pn_str1) hisR ?_
  intro p e s m args below meth c s₁ Bd hml0 hP hK
  obtain ⟨rfl, hZ, hh⟩ := hP
  have hx := Bd.exec
  have hby := Bd.bytes
  have hml : c.maxLocals = 2 := hml0
  have hown : s.vm.findClass "java/lang/String" = some m.cls := findClass_of_methodNamed Bd.named
  have hnm := (name_of_methodNamed Bd.named Bd.method).1
  have X0 : Stand p l e ({ frames := 3, cells := 1, slots := 1, locals := 53 } : Room) s m #[(.ref a1), (.ref a2)] below meth c s₁ [] 0 0 := Stand.of_body Bd
  have e0 : s₁.heap = h0 := by rw [← hh, Bd.state]; rfl
  have N0 := Fr.nil n0
  have pre0 : ∀ t, Steps p.tables e below (s₁.setTop (mkF m 0 #[.val (.ref a1), .val (.ref a2)] [])) t → Steps p.tables e below (s₁.setTop (entryFrame m #[(.ref a1), (.ref a2)] 2)) t := fun t k => castTop (ef_str1 m a1 a2) k
  generalize s₁.setTop (entryFrame m #[(.ref a1), (.ref a2)] 2) = E0 at pre0 ⊢
  have pre_2 : ∀ t, Sp p e below s₁ (mkF m 6 #[.val (.ref a1), .val (.ref a2)] [.null, (.int (1 : Int32)), (.int (0 : Int32)), (.ref a2), (.ref a1)]) t → Steps p.tables e below E0 t := by
    intro t k
    refine pre0 t ?_
    show Sp p e below s₁ (mkF m 0 #[.val (.ref a1), .val (.ref a2)] []) _
    refine XS.aloadN X0.here hx rfl (hb hby d_jdk_42_3_0) rfl rfl ?_
    refine XS.aloadN X0.here hx rfl (hb hby d_jdk_42_3_1) rfl rfl ?_
    refine XS.iconst X0.here hx rfl (hb hby d_jdk_42_3_2) ?_
    refine XS.aloadN X0.here hx rfl (hb hby d_jdk_42_3_3) rfl rfl ?_
    show Sp p e below s₁ (mkF m 4 #[.val (.ref a1), .val (.ref a2)] [(.ref a2), (.int (0 : Int32)), (.ref a2), (.ref a1)]) _
    obtain ⟨cl1, Ar1, -, S1, M1, -, -⟩ := id VC
    refine X0.arraylength hx (cell := cl1) (by rw [e0]; exact Ar1.1) (State.isArrayOf_alike hZ.alike Ar1.2.1) (g := (mkF m 4 #[.val (.ref a1), .val (.ref a2)] [(.ref a2), (.int (0 : Int32)), (.ref a2), (.ref a1)])) rfl (rest := [(.int (0 : Int32)), (.ref a2), (.ref a1)]) rfl (hb hby d_jdk_42_3_4) _ ?_
    rw [len_of S1 M1]
    show Sp p e below s₁ (mkF m 5 #[.val (.ref a1), .val (.ref a2)] [(.int (1 : Int32)), (.int (0 : Int32)), (.ref a2), (.ref a1)]) _
    refine XS.aconstNull X0.here hx rfl (hb hby d_jdk_42_3_5) ?_
    exact k
  obtain ⟨_, _, ⟨T3, L3, k3, n3⟩, -, X3, ⟨Lc3, hQ3, l3, y3, z3⟩, st3⟩ := X0.specialBack hx (y := (⟨"java/lang/String", "<init>", "([CIILjava/lang/Void;)V"⟩ : MethodName)) rfl hown (mvT hZ (own_w hw 54 rfl)) (mvT hZ (own_w hw 55 rfl)) (mvT hZ (own_w hw 57 rfl)) (by decide) (backOf (W := 0) (rm_sti1 l Z a0 hw [] a1 a2 u1 u2 G1 kC c0 h0 n0 O0 E1 F1 F2 g1 SC hG VC hc0) hZ (own_w hw 57 rfl) (own_w hw 49 rfl) (by decide) (by decide)) (g := (mkF m 6 #[.val (.ref a1), .val (.ref a2)] [.null, (.int (1 : Int32)), (.int (0 : Int32)), (.ref a2), (.ref a1)])) rfl (by rw [hml]; rfl) (Steps.refl _) (a := a1) (argsL := [(.ref a2), (.int (0 : Int32)), (.int (1 : Int32)), .null]) (rest := []) (lenOf pd_str1_0 rfl) rfl (by show 2 * 0 + _ ≤ _; exact Nat.le_of_eq rfl) (hb hby d_jdk_42_3_6) (fun _ _ => ⟨rfl, e0, (by decide : 0 + 1 ≤ _), (by decide : 0 + 1 ≤ _)⟩)
  dsimp only [Pt.U, Pt.locs, Pt.cells, Pt.slots] at X3 l3 y3 z3 st3 hQ3
  subst l3 y3 z3
  obtain ⟨rfl, N3q, K3, Fc3, b3, kB3, sb3, Fv3, Vb3⟩ := hQ3
  have N3 := Fr.app N0 N3q
  have O3 : Old Z n0 T3.heap := O0.keep K3 (allS g1 all0)
  have pre_4 : ∀ t, Sp p e below T3 (mkF m 9 #[.val (.ref a1), .val (.ref a2)] []) t → Steps p.tables e below E0 t := fun t k => pre_2 t (st3.trans k)
  obtain ⟨fs, hr, hrun, hended, hW, hsame⟩ := X3.leave (v := none) (fun _ => rfl)
  refine ⟨_, _, pre_4 _ ?_, hrun, hended, _, _, rfl, ?_, ⟨_, rfl⟩, hW, hsame.mono (by decide) (by decide)⟩
  · show Sp p e below T3 (mkF m 9 #[.val (.ref a1), .val (.ref a2)] []) _
    exact X3.returnOut hx Bd.returns (hb hby d_jdk_42_3_9) hr
  · show Q_str1 Z _ _ _ _ _ _ _ h0 n0 _ T3.heap _
    exact ⟨rfl, N3, ((Keep.refl h0 [a1]).trans K3 (allS (Or.inl (List.mem_of_getElem? (i := 0) rfl)) all0)), Fc3, b3, kB3, sb3, Fv3, Vb3⟩
theorem pn_cmpa2 : plainName "java/lang/StringUTF16" = true := by first | (simp [plainName, overriddenIn]; done) | decide +kernel
theorem ef_cmpa2 (m : MethodId) (a1 : Addr) (a3 : Addr) : entryFrame m #[(.ref a1), (.int (0 : Int32)), (.ref a3), (.int (0 : Int32)), (.int (2 : Int32))] 7 = (mkF m 0 #[.val (.ref a1), .val (.int (0 : Int32)), .val (.ref a3), .val (.int (0 : Int32)), .val (.int (2 : Int32)), .unset, .unset] []) := by first | (simp [entryFrame, mkF, argsToLocals, Value.category]; done) | rfl
def Q_cmpa2 (Z : State) (a1 : Addr) (a3 : Addr) (kC kB : ClassId) (c0 c1 : Int32) (h0 : Heap) (n0 : Nat) (v : Option Value) (h : Heap) (L : List Loc) : Prop := v = some (.int (2 : Int32)) ∧ Fr n0 L ∧ Keep h0 h [a3] ∧ Arv Z h a3 kB .byte (2 : Int32) [(.int (c0).toInt8.toInt32), (.int (c1).toInt8.toInt32)] (.int (0 : Int32))
set_option maxRecDepth 65536 in
set_option maxHeartbeats 40000000 in
theorem rm_cmpa2 (l : Launch) (Z : State) (a0 : Array Value) (hw : ∀ d ∈ tables_1, d.before a0 Z = true) (ws : List Jvm.Cond) (a1 : Addr) (a3 : Addr) (kC kB : ClassId) (c0 c1 : Int32) (h0 : Heap) (n0 : Nat) (O0 : Old Z n0 h0) (VC : Arv Z h0 a1 kC .char (2 : Int32) [(.int c0), (.int c1)] (.int (0 : Int32))) (VB : Arv Z h0 a3 kB .byte (2 : Int32) [(.int (0 : Int32)), (.int (0 : Int32))] (.int (0 : Int32))) (g3 : n0 ≤ a3) (ne13 : a1 ≠ a3) (hc0 : ¬ (255 : Int32) < c0) (hc1 : ¬ (255 : Int32) < c1) :
    MetFree l (⟨"java/lang/StringUTF16", "compress", "([CI[BII)I"⟩ : MethodName) (head1 (Jvm.Cond.code (⟨"java/lang/StringUTF16", "compress", "([CI[BII)I"⟩ : MethodName) jdk_52_method_21_code 7 (some .int) :: ws) ({ frames := 0, cells := 0, slots := 0, locals := 0 } : Room)) (fun a U => a = #[(.ref a1), (.int (0 : Int32)), (.ref a3), (.int (0 : Int32)), (.int (2 : Int32))] ∧ Z.Warmed39 U.vm ∧ U.heap = h0) (fun _ _ _ _ _ => True) (fun _ U o U' => ∃ v L, o = .returned v ∧ Q_cmpa2 Z a1 a3 kC kB c0 c1 h0 n0 v U'.heap L ∧ FrameEnd U o U' L ({ frames := 0, cells := 0, slots := 0, locals := 0 } : Room).cells ({ frames := 0, cells := 0, slots := 0, locals := 0 } : Room).slots) := by
  refine MetFree.of_bodySF (plainFor_of_name pn_cmpa2) hisR ?_
  intro p e s m args below meth c s₁ Bd hml0 hP hK
  obtain ⟨rfl, hZ, hh⟩ := hP
  have hx := Bd.exec
  have hby := Bd.bytes
  have hml : c.maxLocals = 7 := hml0
  have hown : s.vm.findClass "java/lang/StringUTF16" = some m.cls := findClass_of_methodNamed Bd.named
  have hnm := (name_of_methodNamed Bd.named Bd.method).1
  have X0 : Stand p l e ({ frames := 0, cells := 0, slots := 0, locals := 0 } : Room) s m #[(.ref a1), (.int (0 : Int32)), (.ref a3), (.int (0 : Int32)), (.int (2 : Int32))] below meth c s₁ [] 0 0 := Stand.of_body Bd
  have e0 : s₁.heap = h0 := by rw [← hh, Bd.state]; rfl
  have N0 := Fr.nil n0
  have pre0 : ∀ t, Steps p.tables e below (s₁.setTop (mkF m 0 #[.val (.ref a1), .val (.int (0 : Int32)), .val (.ref a3), .val (.int (0 : Int32)), .val (.int (2 : Int32)), .unset, .unset] [])) t → Steps p.tables e below (s₁.setTop (entryFrame m #[(.ref a1), (.int (0 : Int32)), (.ref a3), (.int (0 : Int32)), (.int (2 : Int32))] 7)) t := fun t k => castTop (ef_cmpa2 m a1 a3) k
  generalize s₁.setTop (entryFrame m #[(.ref a1), (.int (0 : Int32)), (.ref a3), (.int (0 : Int32)), (.int (2 : Int32))] 7) = E0 at pre0 ⊢
  have pre_2 : ∀ t, Sp p e below s₁ (mkF m 31 #[.val (.ref a1), .val (.int (0 : Int32)), .val (.ref a3), .val (.int (0 : Int32)), .val (.int (2 : Int32)), .val (.int (0 : Int32)), .val (.int c0)] [(.int ((c0).toInt8.toInt32)), (.int (0 : Int32)), (.ref a3)]) t → Steps p.tables e below E0 t := by
    intro t k
    refine pre0 t ?_
    show Sp p e below s₁ (mkF m 0 #[.val (.ref a1), .val (.int (0 : Int32)), .val (.ref a3), .val (.int (0 : Int32)), .val (.int (2 : Int32)), .unset, .unset] []) _
    refine XS.iconst X0.here hx rfl (hb hby d_jdk_52_21_0) ?_
    refine XS.istore X0.here hx rfl (hb hby d_jdk_52_21_1) rfl (l' := #[.val (.ref a1), .val (.int (0 : Int32)), .val (.ref a3), .val (.int (0 : Int32)), .val (.int (2 : Int32)), .val (.int (0 : Int32)), .unset]) rfl ?_
    refine XS.iload X0.here hx rfl (hb hby d_jdk_52_21_3) rfl ?_
    refine XS.iload X0.here hx rfl (hb hby d_jdk_52_21_5) rfl ?_
    show Sp p e below s₁ (mkF m 7 #[.val (.ref a1), .val (.int (0 : Int32)), .val (.ref a3), .val (.int (0 : Int32)), .val (.int (2 : Int32)), .val (.int (0 : Int32)), .unset] [(.int (2 : Int32)), (.int (0 : Int32))]) _
    refine XS.icmpNo X0.here hx rfl (hb hby d_jdk_52_21_7) rfl (XT.ii_ge_f (by decide)) ?_
    refine XS.aloadN X0.here hx rfl (hb hby d_jdk_52_21_10) rfl rfl ?_
    refine XS.iloadN X0.here hx rfl (hb hby d_jdk_52_21_11) rfl ?_
    obtain ⟨cl1, Ar1, -, S1, -, H1, -⟩ := id VC
    have hin1 : ¬ ((0 : Int32) < 0 ∨ cl1.slots.size ≤ ((0 : Int32)).toNatClampNeg) := inb_of S1 (by decide)
    refine X0.caload hx (j := (0 : Int32)) (v := (.int c0)) (by rw [e0]; exact Ar1.1) (State.isArrayOf_alike hZ.alike Ar1.2.1) Ar1.2.2 hin1 (H1.at hin1 rfl) (g := (mkF m 12 #[.val (.ref a1), .val (.int (0 : Int32)), .val (.ref a3), .val (.int (0 : Int32)), .val (.int (2 : Int32)), .val (.int (0 : Int32)), .unset] [(.int (0 : Int32)), (.ref a1)])) rfl rfl (hb hby d_jdk_52_21_12) _ ?_
    show Sp p e below s₁ (mkF m 13 #[.val (.ref a1), .val (.int (0 : Int32)), .val (.ref a3), .val (.int (0 : Int32)), .val (.int (2 : Int32)), .val (.int (0 : Int32)), .unset] [(.int c0)]) _
    refine XS.istore X0.here hx rfl (hb hby d_jdk_52_21_13) rfl (l' := #[.val (.ref a1), .val (.int (0 : Int32)), .val (.ref a3), .val (.int (0 : Int32)), .val (.int (2 : Int32)), .val (.int (0 : Int32)), .val (.int c0)]) rfl ?_
    refine XS.iload X0.here hx rfl (hb hby d_jdk_52_21_15) rfl ?_
    refine XS.sipush X0.here hx rfl (hb hby d_jdk_52_21_17) ?_
    refine XS.icmpYes X0.here hx rfl (pc0 := 20) (pc' := 26) rfl (hb hby d_jdk_52_21_20) rfl (XT.ii_le_t hc0) (by decide) (by decide) ?_
    show Sp p e below s₁ (mkF m 26 #[.val (.ref a1), .val (.int (0 : Int32)), .val (.ref a3), .val (.int (0 : Int32)), .val (.int (2 : Int32)), .val (.int (0 : Int32)), .val (.int c0)] []) _
    refine XS.aloadN X0.here hx rfl (hb hby d_jdk_52_21_26) rfl rfl ?_
    refine XS.iloadN X0.here hx rfl (hb hby d_jdk_52_21_27) rfl ?_
    refine XS.iload X0.here hx rfl (hb hby d_jdk_52_21_28) rfl ?_
    refine XT.i2b X0.here hx rfl (hb hby d_jdk_52_21_30) rfl ?_
    show Sp p e below s₁ (mkF m 31 #[.val (.ref a1), .val (.int (0 : Int32)), .val (.ref a3), .val (.int (0 : Int32)), .val (.int (2 : Int32)), .val (.int (0 : Int32)), .val (.int c0)] [(.int ((c0).toInt8.toInt32)), (.int (0 : Int32)), (.ref a3)]) _
    exact k
  obtain ⟨cl3, Ar3, q3, S3, M3, H3, G3⟩ := id VB
  obtain ⟨T3, h3, X3, e3, W3, st3⟩ := stB X0 hx hZ e0 Ar3 (j := (0 : Int32)) (inb_of S3 (by decide)) (g := (mkF m 31 #[.val (.ref a1), .val (.int (0 : Int32)), .val (.ref a3), .val (.int (0 : Int32)), .val (.int (2 : Int32)), .val (.int (0 : Int32)), .val (.int c0)] [(.int ((c0).toInt8.toInt32)), (.int (0 : Int32)), (.ref a3)])) rfl rfl (hb hby d_jdk_52_21_31)
  have N3 := Fr.snoc X3 N0 g3
  have O3 : Old Z n0 h3 := O0.wr W3 g3
  rw [(own_nb c0)] at W3
  have V3 : Arv Z h3 a3 kB .byte (2 : Int32) [(.int ((c0).toInt8.toInt32)), (.int (0 : Int32))] (.int (0 : Int32)) := Arv.set Ar3 q3 S3 M3 H3 G3 (by rw [← (own_nb c0)]; exact (fits_nar_byte _)) W3 0 rfl (Nat.le_of_ble_eq_true rfl)
  have pre_4 : ∀ t, Sp p e below T3 (mkF m 32 #[.val (.ref a1), .val (.int (0 : Int32)), .val (.ref a3), .val (.int (0 : Int32)), .val (.int (2 : Int32)), .val (.int (0 : Int32)), .val (.int c0)] []) t → Steps p.tables e below E0 t := fun t k => pre_2 t (st3 t k)
  have pre_6 : ∀ t, Sp p e below T3 (mkF m 31 #[.val (.ref a1), .val (.int (1 : Int32)), .val (.ref a3), .val (.int (1 : Int32)), .val (.int (2 : Int32)), .val (.int (1 : Int32)), .val (.int c1)] [(.int ((c1).toInt8.toInt32)), (.int (1 : Int32)), (.ref a3)]) t → Steps p.tables e below E0 t := by
    intro t k
    refine pre_4 t ?_
    show Sp p e below T3 (mkF m 32 #[.val (.ref a1), .val (.int (0 : Int32)), .val (.ref a3), .val (.int (0 : Int32)), .val (.int (2 : Int32)), .val (.int (0 : Int32)), .val (.int c0)] []) _
    refine XS.iinc X3.here hx rfl (hb hby d_jdk_52_21_32) rfl (l' := #[.val (.ref a1), .val (.int (1 : Int32)), .val (.ref a3), .val (.int (0 : Int32)), .val (.int (2 : Int32)), .val (.int (0 : Int32)), .val (.int c0)]) rfl ?_
    refine XS.iinc X3.here hx rfl (hb hby d_jdk_52_21_35) rfl (l' := #[.val (.ref a1), .val (.int (1 : Int32)), .val (.ref a3), .val (.int (1 : Int32)), .val (.int (2 : Int32)), .val (.int (0 : Int32)), .val (.int c0)]) rfl ?_
    refine XS.iinc X3.here hx rfl (hb hby d_jdk_52_21_38) rfl (l' := #[.val (.ref a1), .val (.int (1 : Int32)), .val (.ref a3), .val (.int (1 : Int32)), .val (.int (2 : Int32)), .val (.int (1 : Int32)), .val (.int c0)]) rfl ?_
    refine XS.goto X3.here hx rfl (pc0 := 41) (pc' := 3) rfl (hb hby d_jdk_52_21_41) (by decide) (by decide) ?_
    show Sp p e below T3 (mkF m 3 #[.val (.ref a1), .val (.int (1 : Int32)), .val (.ref a3), .val (.int (1 : Int32)), .val (.int (2 : Int32)), .val (.int (1 : Int32)), .val (.int c0)] []) _
    refine XS.iload X3.here hx rfl (hb hby d_jdk_52_21_3) rfl ?_
    refine XS.iload X3.here hx rfl (hb hby d_jdk_52_21_5) rfl ?_
    refine XS.icmpNo X3.here hx rfl (hb hby d_jdk_52_21_7) rfl (XT.ii_ge_f (by decide)) ?_
    refine XS.aloadN X3.here hx rfl (hb hby d_jdk_52_21_10) rfl rfl ?_
    show Sp p e below T3 (mkF m 11 #[.val (.ref a1), .val (.int (1 : Int32)), .val (.ref a3), .val (.int (1 : Int32)), .val (.int (2 : Int32)), .val (.int (1 : Int32)), .val (.int c0)] [(.ref a1)]) _
    refine XS.iloadN X3.here hx rfl (hb hby d_jdk_52_21_11) rfl ?_
    obtain ⟨cl5, Ar5, -, S5, -, H5, -⟩ := id (VC.other W3 ne13)
    have hin5 : ¬ ((1 : Int32) < 0 ∨ cl5.slots.size ≤ ((1 : Int32)).toNatClampNeg) := inb_of S5 (by decide)
    refine X3.caload hx (j := (1 : Int32)) (v := (.int c1)) (by rw [e3]; exact Ar5.1) (State.isArrayOf_alike hZ.alike Ar5.2.1) Ar5.2.2 hin5 (H5.at hin5 rfl) (g := (mkF m 12 #[.val (.ref a1), .val (.int (1 : Int32)), .val (.ref a3), .val (.int (1 : Int32)), .val (.int (2 : Int32)), .val (.int (1 : Int32)), .val (.int c0)] [(.int (1 : Int32)), (.ref a1)])) rfl rfl (hb hby d_jdk_52_21_12) _ ?_
    refine XS.istore X3.here hx rfl (hb hby d_jdk_52_21_13) rfl (l' := #[.val (.ref a1), .val (.int (1 : Int32)), .val (.ref a3), .val (.int (1 : Int32)), .val (.int (2 : Int32)), .val (.int (1 : Int32)), .val (.int c1)]) rfl ?_
    refine XS.iload X3.here hx rfl (hb hby d_jdk_52_21_15) rfl ?_
    show Sp p e below T3 (mkF m 17 #[.val (.ref a1), .val (.int (1 : Int32)), .val (.ref a3), .val (.int (1 : Int32)), .val (.int (2 : Int32)), .val (.int (1 : Int32)), .val (.int c1)] [(.int c1)]) _
    refine XS.sipush X3.here hx rfl (hb hby d_jdk_52_21_17) ?_
    refine XS.icmpYes X3.here hx rfl (pc0 := 20) (pc' := 26) rfl (hb hby d_jdk_52_21_20) rfl (XT.ii_le_t hc1) (by decide) (by decide) ?_
    refine XS.aloadN X3.here hx rfl (hb hby d_jdk_52_21_26) rfl rfl ?_
    refine XS.iloadN X3.here hx rfl (hb hby d_jdk_52_21_27) rfl ?_
    show Sp p e below T3 (mkF m 28 #[.val (.ref a1), .val (.int (1 : Int32)), .val (.ref a3), .val (.int (1 : Int32)), .val (.int (2 : Int32)), .val (.int (1 : Int32)), .val (.int c1)] [(.int (1 : Int32)), (.ref a3)]) _
    refine XS.iload X3.here hx rfl (hb hby d_jdk_52_21_28) rfl ?_
    refine XT.i2b X3.here hx rfl (hb hby d_jdk_52_21_30) rfl ?_
    exact k
  obtain ⟨cl7, Ar7, q7, S7, M7, H7, G7⟩ := id V3
  obtain ⟨T7, h7, X7, e7, W7, st7⟩ := stB X3 hx hZ e3 Ar7 (j := (1 : Int32)) (inb_of S7 (by decide)) (g := (mkF m 31 #[.val (.ref a1), .val (.int (1 : Int32)), .val (.ref a3), .val (.int (1 : Int32)), .val (.int (2 : Int32)), .val (.int (1 : Int32)), .val (.int c1)] [(.int ((c1).toInt8.toInt32)), (.int (1 : Int32)), (.ref a3)])) rfl rfl (hb hby d_jdk_52_21_31)
  have N7 := Fr.snoc X7 N3 g3
  have O7 : Old Z n0 h7 := O3.wr W7 g3
  rw [(own_nb c1)] at W7
  have V7 : Arv Z h7 a3 kB .byte (2 : Int32) [(.int ((c0).toInt8.toInt32)), (.int ((c1).toInt8.toInt32))] (.int (0 : Int32)) := Arv.set Ar7 q7 S7 M7 H7 G7 (by rw [← (own_nb c1)]; exact (fits_nar_byte _)) W7 1 rfl (Nat.le_of_ble_eq_true rfl)
  have pre_8 : ∀ t, Sp p e below T7 (mkF m 32 #[.val (.ref a1), .val (.int (1 : Int32)), .val (.ref a3), .val (.int (1 : Int32)), .val (.int (2 : Int32)), .val (.int (1 : Int32)), .val (.int c1)] []) t → Steps p.tables e below E0 t := fun t k => pre_6 t (st7 t k)
  have pre_9 : ∀ t, Sp p e below T7 (mkF m 46 #[.val (.ref a1), .val (.int (2 : Int32)), .val (.ref a3), .val (.int (2 : Int32)), .val (.int (2 : Int32)), .val (.int (2 : Int32)), .val (.int c1)] [(.int (2 : Int32))]) t → Steps p.tables e below E0 t := by
    intro t k
    refine pre_8 t ?_
    show Sp p e below T7 (mkF m 32 #[.val (.ref a1), .val (.int (1 : Int32)), .val (.ref a3), .val (.int (1 : Int32)), .val (.int (2 : Int32)), .val (.int (1 : Int32)), .val (.int c1)] []) _
    refine XS.iinc X7.here hx rfl (hb hby d_jdk_52_21_32) rfl (l' := #[.val (.ref a1), .val (.int (2 : Int32)), .val (.ref a3), .val (.int (1 : Int32)), .val (.int (2 : Int32)), .val (.int (1 : Int32)), .val (.int c1)]) rfl ?_
    refine XS.iinc X7.here hx rfl (hb hby d_jdk_52_21_35) rfl (l' := #[.val (.ref a1), .val (.int (2 : Int32)), .val (.ref a3), .val (.int (2 : Int32)), .val (.int (2 : Int32)), .val (.int (1 : Int32)), .val (.int c1)]) rfl ?_
    show Sp p e below T7 (mkF m 38 #[.val (.ref a1), .val (.int (2 : Int32)), .val (.ref a3), .val (.int (2 : Int32)), .val (.int (2 : Int32)), .val (.int (1 : Int32)), .val (.int c1)] []) _
    refine XS.iinc X7.here hx rfl (hb hby d_jdk_52_21_38) rfl (l' := #[.val (.ref a1), .val (.int (2 : Int32)), .val (.ref a3), .val (.int (2 : Int32)), .val (.int (2 : Int32)), .val (.int (2 : Int32)), .val (.int c1)]) rfl ?_
    refine XS.goto X7.here hx rfl (pc0 := 41) (pc' := 3) rfl (hb hby d_jdk_52_21_41) (by decide) (by decide) ?_
    refine XS.iload X7.here hx rfl (hb hby d_jdk_52_21_3) rfl ?_
    refine XS.iload X7.here hx rfl (hb hby d_jdk_52_21_5) rfl ?_
    show Sp p e below T7 (mkF m 7 #[.val (.ref a1), .val (.int (2 : Int32)), .val (.ref a3), .val (.int (2 : Int32)), .val (.int (2 : Int32)), .val (.int (2 : Int32)), .val (.int c1)] [(.int (2 : Int32)), (.int (2 : Int32))]) _
    refine XS.icmpYes X7.here hx rfl (pc0 := 7) (pc' := 44) rfl (hb hby d_jdk_52_21_7) rfl (XT.ii_ge_t (by decide)) (by decide) (by decide) ?_
    refine XS.iload X7.here hx rfl (hb hby d_jdk_52_21_44) rfl ?_
    exact k
  obtain ⟨fs, hr, hrun, hended, hW, hsame⟩ := X7.leave (v := some (.int (2 : Int32))) (fun h => by rw [Bd.returns] at h; cases h)
  refine ⟨_, _, pre_9 _ ?_, hrun, hended, _, _, rfl, ?_, ⟨_, rfl⟩, hW, hsame.mono (by decide) (by decide)⟩
  · show Sp p e below T7 (mkF m 46 #[.val (.ref a1), .val (.int (2 : Int32)), .val (.ref a3), .val (.int (2 : Int32)), .val (.int (2 : Int32)), .val (.int (2 : Int32)), .val (.int c1)] [(.int (2 : Int32))]) _
    exact retI X7 hx Bd.returns (hb hby d_jdk_52_21_46) hr
  · show Q_cmpa2 Z _ _ _ _ _ _ h0 n0 _ T7.heap _
    rw [e7]
    exact ⟨rfl, N7, (((Keep.refl h0 [a3]).wr W3 (Or.inl (List.mem_of_getElem? (i := 0) rfl))).wr W7 (Or.inl (List.mem_of_getElem? (i := 0) rfl))), V7⟩
theorem pn_cmpb2 : plainName "java/lang/StringUTF16" = true := by first | (simp [plainName, overriddenIn]; done) | decide +kernel
theorem pd_cmpb2_0 : parseMethodDescriptor "([CI[BII)I" = some ⟨[(.array .char), .int, (.array .byte), .int, .int], some .int⟩ := by decide +kernel
theorem ef_cmpb2 (m : MethodId) (a1 : Addr) : entryFrame m #[(.ref a1), (.int (0 : Int32)), (.int (2 : Int32))] 6 = (mkF m 0 #[.val (.ref a1), .val (.int (0 : Int32)), .val (.int (2 : Int32)), .unset, .unset, .unset] []) := by first | (simp [entryFrame, mkF, argsToLocals, Value.category]; done) | rfl
def Q_cmpb2 (Z : State) (a1 : Addr) (kC : ClassId) (c0 c1 : Int32) (h0 : Heap) (n0 : Nat) (v : Option Value) (h : Heap) (L : List Loc) : Prop := ∃ b kB, v = some (.ref b) ∧ Fr n0 L ∧ Keep h0 h [] ∧ h0.size ≤ b ∧ Arv Z h b kB .byte (2 : Int32) [(.int (c0).toInt8.toInt32), (.int (c1).toInt8.toInt32)] (.int (0 : Int32))
set_option maxRecDepth 65536 in
set_option maxHeartbeats 40000000 in
theorem rm_cmpb2 (l : Launch) (Z : State) (a0 : Array Value) (hw : ∀ d ∈ tables_1, d.before a0 Z = true) (ws : List Jvm.Cond) (a1 : Addr) (kC : ClassId) (c0 c1 : Int32) (h0 : Heap) (n0 : Nat) (O0 : Old Z n0 h0) (VC : Arv Z h0 a1 kC .char (2 : Int32) [(.int c0), (.int c1)] (.int (0 : Int32))) (hc0 : ¬ (255 : Int32) < c0) (hc1 : ¬ (255 : Int32) < c1) :
    MetFree l (⟨"java/lang/StringUTF16", "compress", "([CII)[B"⟩ : MethodName) (head1 (Jvm.Cond.code (⟨"java/lang/StringUTF16", "compress", "([CII)[B"⟩ : MethodName) jdk_52_method_16_code 6 (some (.array .byte)) :: ws) ({ frames := 1, cells := 1, slots := 2, locals := 18 } : Room)) (fun a U => a = #[(.ref a1), (.int (0 : Int32)), (.int (2 : Int32))] ∧ Z.Warmed39 U.vm ∧ U.heap = h0) (fun _ _ _ _ _ => True) (fun _ U o U' => ∃ v L, o = .returned v ∧ Q_cmpb2 Z a1 kC c0 c1 h0 n0 v U'.heap L ∧ FrameEnd U o U' L ({ frames := 1, cells := 1, slots := 2, locals := 18 } : Room).cells ({ frames := 1, cells := 1, slots := 2, locals := 18 } : Room).slots) := by
  refine MetFree.of_bodySF (plainFor_of_name pn_cmpb2) hisR ?_
  intro p e s m args below meth c s₁ Bd hml0 hP hK
  obtain ⟨rfl, hZ, hh⟩ := hP
  have hx := Bd.exec
  have hby := Bd.bytes
  have hml : c.maxLocals = 6 := hml0
  have hown : s.vm.findClass "java/lang/StringUTF16" = some m.cls := findClass_of_methodNamed Bd.named
  have hnm := (name_of_methodNamed Bd.named Bd.method).1
  have X0 : Stand p l e ({ frames := 1, cells := 1, slots := 2, locals := 18 } : Room) s m #[(.ref a1), (.int (0 : Int32)), (.int (2 : Int32))] below meth c s₁ [] 0 0 := Stand.of_body Bd
  have e0 : s₁.heap = h0 := by rw [← hh, Bd.state]; rfl
  have N0 := Fr.nil n0
  have pre0 : ∀ t, Steps p.tables e below (s₁.setTop (mkF m 0 #[.val (.ref a1), .val (.int (0 : Int32)), .val (.int (2 : Int32)), .unset, .unset, .unset] [])) t → Steps p.tables e below (s₁.setTop (entryFrame m #[(.ref a1), (.int (0 : Int32)), (.int (2 : Int32))] 6)) t := fun t k => castTop (ef_cmpb2 m a1) k
  generalize s₁.setTop (entryFrame m #[(.ref a1), (.int (0 : Int32)), (.int (2 : Int32))] 6) = E0 at pre0 ⊢
  have pre_1 : ∀ t, Sp p e below s₁ (mkF m 1 #[.val (.ref a1), .val (.int (0 : Int32)), .val (.int (2 : Int32)), .unset, .unset, .unset] [(.int (2 : Int32))]) t → Steps p.tables e below E0 t := by
    intro t k
    refine pre0 t ?_
    show Sp p e below s₁ (mkF m 0 #[.val (.ref a1), .val (.int (0 : Int32)), .val (.int (2 : Int32)), .unset, .unset, .unset] []) _
    refine XS.iloadN X0.here hx rfl (hb hby d_jdk_52_16_0) rfl ?_
    exact k
  obtain ⟨T2, h2, cA2, X2, e2, E2, A2, st2⟩ := newP X0 hx hZ (own_w hw 60 rfl) e0 (g := (mkF m 1 #[.val (.ref a1), .val (.int (0 : Int32)), .val (.int (2 : Int32)), .unset, .unset, .unset] [(.int (2 : Int32))])) rfl (hb hby d_jdk_52_16_1) rfl (by decide) (cap := 2) (by decide) (by decide) (by decide) (by decide)
  obtain ⟨b2, g2⟩ : ∃ z, z = h0.size := ⟨_, rfl⟩
  rw [← g2] at A2 st2
  have O2 : Old Z n0 h2 := O0.ext E2
  have V2 : Arv Z h2 b2 cA2 .byte (2 : Int32) [(.int (0 : Int32)), (.int (0 : Int32))] (.int (0 : Int32)) := (Arv.new A2 (by decide)).pad (pad_rep [] _ 2)
  have pre_3 : ∀ t, Sp p e below T2 (mkF m 3 #[.val (.ref a1), .val (.int (0 : Int32)), .val (.int (2 : Int32)), .unset, .unset, .unset] [(.ref b2)]) t → Steps p.tables e below E0 t := fun t k => pre_1 t (st2 t k)
  have pre_4 : ∀ t, Sp p e below T2 (mkF m 9 #[.val (.ref a1), .val (.int (0 : Int32)), .val (.int (2 : Int32)), .val (.ref b2), .unset, .unset] [(.int (2 : Int32)), (.int (0 : Int32)), (.ref b2), (.int (0 : Int32)), (.ref a1)]) t → Steps p.tables e below E0 t := by
    intro t k
    refine pre_3 t ?_
    show Sp p e below T2 (mkF m 3 #[.val (.ref a1), .val (.int (0 : Int32)), .val (.int (2 : Int32)), .unset, .unset, .unset] [(.ref b2)]) _
    refine XS.astoreN X2.here hx rfl (hb hby d_jdk_52_16_3) rfl rfl (l' := #[.val (.ref a1), .val (.int (0 : Int32)), .val (.int (2 : Int32)), .val (.ref b2), .unset, .unset]) rfl ?_
    refine XS.aloadN X2.here hx rfl (hb hby d_jdk_52_16_4) rfl rfl ?_
    refine XS.iloadN X2.here hx rfl (hb hby d_jdk_52_16_5) rfl ?_
    show Sp p e below T2 (mkF m 6 #[.val (.ref a1), .val (.int (0 : Int32)), .val (.int (2 : Int32)), .val (.ref b2), .unset, .unset] [(.int (0 : Int32)), (.ref a1)]) _
    refine XS.aloadN X2.here hx rfl (hb hby d_jdk_52_16_6) rfl rfl ?_
    refine XS.iconst X2.here hx rfl (hb hby d_jdk_52_16_7) ?_
    refine XS.iloadN X2.here hx rfl (hb hby d_jdk_52_16_8) rfl ?_
    exact k
  obtain ⟨_, _, ⟨T5, L5, k5, n5⟩, -, X5, ⟨Lc5, hQ5, l5, y5, z5⟩, st5⟩ := Jvm.LawKit.callS X2 hx (y := (⟨"java/lang/StringUTF16", "compress", "([CI[BII)I"⟩ : MethodName)) hown (mvT hZ (own_w hw 77 rfl)) (mvT hZ (own_w hw 78 rfl)) (mvT hZ (own_w hw 75 rfl)) (mvT hZ (own_w hw 79 rfl)) (by decide) (backOf (W := 0) (rm_cmpa2 l Z a0 hw [] a1 b2 kC cA2 c0 c1 h2 n0 O2 (VC.ext E2) V2 (Nat.le_trans (own_le O0) (Nat.le_of_eq g2.symm)) (Nat.ne_of_lt (Nat.lt_of_lt_of_le VC.lt (Nat.le_of_eq g2.symm))) hc0 hc1) hZ (own_w hw 79 rfl) (own_w hw 75 rfl) (by decide) (by decide)) (g := (mkF m 9 #[.val (.ref a1), .val (.int (0 : Int32)), .val (.int (2 : Int32)), .val (.ref b2), .unset, .unset] [(.int (2 : Int32)), (.int (0 : Int32)), (.ref b2), (.int (0 : Int32)), (.ref a1)])) rfl (by rw [hml]; rfl) (argsL := [(.ref a1), (.int (0 : Int32)), (.ref b2), (.int (0 : Int32)), (.int (2 : Int32))]) (rest := []) (lenOf pd_cmpb2_0 rfl) rfl (by show 2 * 0 + _ ≤ _; exact Nat.le_of_eq rfl) (hb hby d_jdk_52_16_9) (fun _ _ => ⟨rfl, e2, (by decide : 1 + 0 ≤ _), (by decide : 2 + 0 ≤ _)⟩)
  dsimp only [Pt.U, Pt.locs, Pt.cells, Pt.slots] at X5 l5 y5 z5 st5 hQ5
  subst l5 y5 z5
  obtain ⟨rfl, N5q, K5, Vb5⟩ := hQ5
  have N5 := Fr.app N0 N5q
  have O5 : Old Z n0 T5.heap := O2.keep K5 (allS (Nat.le_trans (own_le O0) (Nat.le_of_eq g2.symm)) all0)
  have pre_6 : ∀ t, Sp p e below T5 (mkF m 12 #[.val (.ref a1), .val (.int (0 : Int32)), .val (.int (2 : Int32)), .val (.ref b2), .unset, .unset] [(.int (2 : Int32))]) t → Steps p.tables e below E0 t := fun t k => pre_4 t (st5 t k)
  have pre_7 : ∀ t, Sp p e below T5 (mkF m 58 #[.val (.ref a1), .val (.int (0 : Int32)), .val (.int (2 : Int32)), .val (.ref b2), .val (.int (2 : Int32)), .unset] [(.ref b2)]) t → Steps p.tables e below E0 t := by
    intro t k
    refine pre_6 t ?_
    show Sp p e below T5 (mkF m 12 #[.val (.ref a1), .val (.int (0 : Int32)), .val (.int (2 : Int32)), .val (.ref b2), .unset, .unset] [(.int (2 : Int32))]) _
    refine XS.istore X5.here hx rfl (hb hby d_jdk_52_16_12) rfl (l' := #[.val (.ref a1), .val (.int (0 : Int32)), .val (.int (2 : Int32)), .val (.ref b2), .val (.int (2 : Int32)), .unset]) rfl ?_
    show Sp p e below T5 (mkF m 14 #[.val (.ref a1), .val (.int (0 : Int32)), .val (.int (2 : Int32)), .val (.ref b2), .val (.int (2 : Int32)), .unset] []) _
    refine XS.iload X5.here hx rfl (hb hby d_jdk_52_16_14) rfl ?_
    refine XS.iloadN X5.here hx rfl (hb hby d_jdk_52_16_16) rfl ?_
    refine XS.icmpYes X5.here hx rfl (pc0 := 17) (pc' := 57) rfl (hb hby d_jdk_52_16_17) rfl (XT.ii_eq_t (by decide)) (by decide) (by decide) ?_
    refine XS.aloadN X5.here hx rfl (hb hby d_jdk_52_16_57) rfl rfl ?_
    show Sp p e below T5 (mkF m 58 #[.val (.ref a1), .val (.int (0 : Int32)), .val (.int (2 : Int32)), .val (.ref b2), .val (.int (2 : Int32)), .unset] [(.ref b2)]) _
    exact k
  obtain ⟨fs, hr, hrun, hended, hW, hsame⟩ := X5.leave (v := some (.ref b2)) (fun h => by rw [Bd.returns] at h; cases h)
  refine ⟨_, _, pre_7 _ ?_, hrun, hended, _, _, rfl, ?_, ⟨_, rfl⟩, hW, hsame.mono (by decide) (by decide)⟩
  · show Sp p e below T5 (mkF m 58 #[.val (.ref a1), .val (.int (0 : Int32)), .val (.int (2 : Int32)), .val (.ref b2), .val (.int (2 : Int32)), .unset] [(.ref b2)]) _
    exact retOut X5 hx (t := (.array .byte)) Bd.returns rfl (Or.inr (Or.inr (Or.inr (Or.inr ⟨rfl, rfl, rfl⟩)))) (hb hby d_jdk_52_16_58) hr
  · show Q_cmpb2 Z _ _ _ _ h0 n0 _ T5.heap _
    exact ⟨b2, cA2, rfl, N5, (((Keep.refl h0 []).ext E2).trans K5 (allS (Or.inr (Nat.le_trans (Keep.refl h0 []).1 (Nat.le_of_eq g2.symm))) all0)), (Nat.le_trans (Keep.refl h0 []).1 (Nat.le_of_eq g2.symm)), Vb5⟩
theorem pn_cfa2 : plainName "java/lang/StringUTF16" = true := by first | (simp [plainName, overriddenIn]; done) | decide +kernel
theorem ef_cfa2 (m : MethodId) (a1 : Addr) : entryFrame m #[(.ref a1), (.int (2 : Int32))] 2 = (mkF m 0 #[.val (.ref a1), .val (.int (2 : Int32))] []) := by first | (simp [entryFrame, mkF, argsToLocals, Value.category]; done) | rfl
def Q_cfa2 (Z : State) (a1 : Addr) (kB : ClassId) (c0 c1 : Int32) (h0 : Heap) (n0 : Nat) (v : Option Value) (h : Heap) (L : List Loc) : Prop := v = some (.int (0 : Int32)) ∧ Fr n0 L ∧ h = h0
set_option maxRecDepth 65536 in
set_option maxHeartbeats 40000000 in
theorem rm_cfa2 (l : Launch) (Z : State) (a0 : Array Value) (hw : ∀ d ∈ tables_1, d.before a0 Z = true) (ws : List Jvm.Cond) (a1 : Addr) (kB : ClassId) (c0 c1 : Int32) (h0 : Heap) (n0 : Nat) (O0 : Old Z n0 h0) (VB : Arv Z h0 a1 kB .byte (2 : Int32) [(.int (c0).toInt8.toInt32), (.int (c1).toInt8.toInt32)] (.int (0 : Int32))) :
    MetFree l (⟨"java/lang/StringUTF16", "coderFromArrayLen", "([BI)B"⟩ : MethodName) (head1 (Jvm.Cond.code (⟨"java/lang/StringUTF16", "coderFromArrayLen", "([BI)B"⟩ : MethodName) jdk_52_method_15_code 2 (some .byte) :: ws) ({ frames := 0, cells := 0, slots := 0, locals := 0 } : Room)) (fun a U => a = #[(.ref a1), (.int (2 : Int32))] ∧ Z.Warmed39 U.vm ∧ U.heap = h0) (fun _ _ _ _ _ => True) (fun _ U o U' => ∃ v L, o = .returned v ∧ Q_cfa2 Z a1 kB c0 c1 h0 n0 v U'.heap L ∧ FrameEnd U o U' L ({ frames := 0, cells := 0, slots := 0, locals := 0 } : Room).cells ({ frames := 0, cells := 0, slots := 0, locals := 0 } : Room).slots) := by
  refine MetFree.of_bodySF (plainFor_of_name pn_cfa2) hisR ?_
  intro p e s m args below meth c s₁ Bd hml0 hP hK
  obtain ⟨rfl, hZ, hh⟩ := hP
  have hx := Bd.exec
  have hby := Bd.bytes
  have hml : c.maxLocals = 2 := hml0
  have hown : s.vm.findClass "java/lang/StringUTF16" = some m.cls := findClass_of_methodNamed Bd.named
  have hnm := (name_of_methodNamed Bd.named Bd.method).1
  have X0 : Stand p l e ({ frames := 0, cells := 0, slots := 0, locals := 0 } : Room) s m #[(.ref a1), (.int (2 : Int32))] below meth c s₁ [] 0 0 := Stand.of_body Bd
  have e0 : s₁.heap = h0 := by rw [← hh, Bd.state]; rfl
  have N0 := Fr.nil n0
  have pre0 : ∀ t, Steps p.tables e below (s₁.setTop (mkF m 0 #[.val (.ref a1), .val (.int (2 : Int32))] [])) t → Steps p.tables e below (s₁.setTop (entryFrame m #[(.ref a1), (.int (2 : Int32))] 2)) t := fun t k => castTop (ef_cfa2 m a1) k
  generalize s₁.setTop (entryFrame m #[(.ref a1), (.int (2 : Int32))] 2) = E0 at pre0 ⊢
  have pre_2 : ∀ t, Sp p e below s₁ (mkF m 8 #[.val (.ref a1), .val (.int (2 : Int32))] [(.int (0 : Int32))]) t → Steps p.tables e below E0 t := by
    intro t k
    refine pre0 t ?_
    show Sp p e below s₁ (mkF m 0 #[.val (.ref a1), .val (.int (2 : Int32))] []) _
    refine XS.iloadN X0.here hx rfl (hb hby d_jdk_52_15_0) rfl ?_
    refine XS.aloadN X0.here hx rfl (hb hby d_jdk_52_15_1) rfl rfl ?_
    obtain ⟨cl1, Ar1, -, S1, M1, -, -⟩ := id VB
    refine X0.arraylength hx (cell := cl1) (by rw [e0]; exact Ar1.1) (State.isArrayOf_alike hZ.alike Ar1.2.1) (g := (mkF m 2 #[.val (.ref a1), .val (.int (2 : Int32))] [(.ref a1), (.int (2 : Int32))])) rfl (rest := [(.int (2 : Int32))]) rfl (hb hby d_jdk_52_15_2) _ ?_
    rw [len_of S1 M1]
    show Sp p e below s₁ (mkF m 3 #[.val (.ref a1), .val (.int (2 : Int32))] [(.int (2 : Int32)), (.int (2 : Int32))]) _
    refine XS.isub X0.here hx rfl (hb hby d_jdk_52_15_3) rfl ?_
    refine XS.bipush X0.here hx rfl (hb hby d_jdk_52_15_4) ?_
    show Sp p e below s₁ (mkF m 6 #[.val (.ref a1), .val (.int (2 : Int32))] [(.int (31 : Int32)), (.int (0 : Int32))]) _
    refine XT.iushr X0.here hx rfl (hb hby d_jdk_52_15_6) rfl ?_
    refine XT.i2b X0.here hx rfl (hb hby d_jdk_52_15_7) rfl ?_
    exact k
  obtain ⟨fs, hr, hrun, hended, hW, hsame⟩ := X0.leave (v := some (.int (0 : Int32))) (fun h => by rw [Bd.returns] at h; cases h)
  refine ⟨_, _, pre_2 _ ?_, hrun, hended, _, _, rfl, ?_, ⟨_, rfl⟩, hW, hsame.mono (by decide) (by decide)⟩
  · show Sp p e below s₁ (mkF m 8 #[.val (.ref a1), .val (.int (2 : Int32))] [(.int (0 : Int32))]) _
    exact retN X0 hx (t := .byte) Bd.returns (by simp) (hb hby d_jdk_52_15_8) hr
  · show Q_cfa2 Z _ _ _ _ h0 n0 _ s₁.heap _
    rw [e0]
    exact ⟨rfl, N0, rfl⟩
theorem pn_sti2 : plainName "java/lang/String" = true := by first | (simp [plainName, overriddenIn]; done) | decide +kernel
theorem pd_sti2_0 : parseMethodDescriptor "([CII)[B" = some ⟨[(.array .char), .int, .int], some (.array .byte)⟩ := by decide +kernel
theorem pd_sti2_1 : parseMethodDescriptor "([BI)B" = some ⟨[(.array .byte), .int], some .byte⟩ := by decide +kernel
theorem ef_sti2 (m : MethodId) (a1 : Addr) (a2 : Addr) : entryFrame m #[(.ref a1), (.ref a2), (.int (0 : Int32)), (.int (2 : Int32)), .null] 6 = (mkF m 0 #[.val (.ref a1), .val (.ref a2), .val (.int (0 : Int32)), .val (.int (2 : Int32)), .val .null, .unset] []) := by first | (simp [entryFrame, mkF, argsToLocals, Value.category]; done) | rfl
def Q_sti2 (Z : State) (a1 : Addr) (a2 : Addr) (u1 u2 : Value) (G1 : Int32) (kC : ClassId) (c0 c1 : Int32) (h0 : Heap) (n0 : Nat) (v : Option Value) (h : Heap) (L : List Loc) : Prop := v = none ∧ Fr n0 L ∧ Keep h0 h [a1] ∧ Fld Z h a1 "java/lang/String" "coder" "B" (.int (0 : Int32)) ∧ ∃ b kB, h0.size ≤ b ∧ Fld Z h a1 "java/lang/String" "value" "[B" (.ref b) ∧ Arv Z h b kB .byte (2 : Int32) [(.int (c0).toInt8.toInt32), (.int (c1).toInt8.toInt32)] (.int (0 : Int32))
set_option maxRecDepth 65536 in
set_option maxHeartbeats 40000000 in
theorem rm_sti2 (l : Launch) (Z : State) (a0 : Array Value) (hw : ∀ d ∈ tables_1, d.before a0 Z = true) (ws : List Jvm.Cond) (a1 : Addr) (a2 : Addr) (u1 u2 : Value) (G1 : Int32) (kC : ClassId) (c0 c1 : Int32) (h0 : Heap) (n0 : Nat) (O0 : Old Z n0 h0) (E1 : Exa Z h0 a1 "java/lang/String") (F1 : Fld Z h0 a1 "java/lang/String" "value" "[B" u1) (F2 : Fld Z h0 a1 "java/lang/String" "coder" "B" u2) (g1 : n0 ≤ a1) (SC : Sta Z Z.heap "java/lang/String" "COMPACT_STRINGS" "Z" (.int G1)) (hG : ¬ G1 = (0 : Int32)) (VC : Arv Z h0 a2 kC .char (2 : Int32) [(.int c0), (.int c1)] (.int (0 : Int32))) (hc0 : ¬ (255 : Int32) < c0) (hc1 : ¬ (255 : Int32) < c1) :
    MetFree l (⟨"java/lang/String", "<init>", "([CIILjava/lang/Void;)V"⟩ : MethodName) (head1 (Jvm.Cond.code (⟨"java/lang/String", "<init>", "([CIILjava/lang/Void;)V"⟩ : MethodName) jdk_42_method_149_code 6 none :: ws) ({ frames := 2, cells := 1, slots := 2, locals := 36 } : Room)) (fun a U => a = #[(.ref a1), (.ref a2), (.int (0 : Int32)), (.int (2 : Int32)), .null] ∧ Z.Warmed39 U.vm ∧ U.heap = h0) (fun _ _ _ _ _ => True) (fun _ U o U' => ∃ v L, o = .returned v ∧ Q_sti2 Z a1 a2 u1 u2 G1 kC c0 c1 h0 n0 v U'.heap L ∧ FrameEnd U o U' L ({ frames := 2, cells := 1, slots := 2, locals := 36 } : Room).cells ({ frames := 2, cells := 1, slots := 2, locals := 36 } : Room).slots) := by
  refine MetFree.of_bodySF (plainFor_of_name pn_sti2) hisR ?_
  intro p e s m args below meth c s₁ Bd hml0 hP hK
  obtain ⟨rfl, hZ, hh⟩ := hP
  have hx := Bd.exec
  have hby := Bd.bytes
  have hml : c.maxLocals = 6 := hml0
  have hown : s.vm.findClass "java/lang/String" = some m.cls := findClass_of_methodNamed Bd.named
  have hnm := (name_of_methodNamed Bd.named Bd.method).1
  have X0 : Stand p l e ({ frames := 2, cells := 1, slots := 2, locals := 36 } : Room) s m #[(.ref a1), (.ref a2), (.int (0 : Int32)), (.int (2 : Int32)), .null] below meth c s₁ [] 0 0 := Stand.of_body Bd
  have e0 : s₁.heap = h0 := by rw [← hh, Bd.state]; rfl
  have N0 := Fr.nil n0
  have pre0 : ∀ t, Steps p.tables e below (s₁.setTop (mkF m 0 #[.val (.ref a1), .val (.ref a2), .val (.int (0 : Int32)), .val (.int (2 : Int32)), .val .null, .unset] [])) t → Steps p.tables e below (s₁.setTop (entryFrame m #[(.ref a1), (.ref a2), (.int (0 : Int32)), (.int (2 : Int32)), .null] 6)) t := fun t k => castTop (ef_sti2 m a1 a2) k
  generalize s₁.setTop (entryFrame m #[(.ref a1), (.ref a2), (.int (0 : Int32)), (.int (2 : Int32)), .null] 6) = E0 at pre0 ⊢
  have pre_1 : ∀ t, Sp p e below s₁ (mkF m 1 #[.val (.ref a1), .val (.ref a2), .val (.int (0 : Int32)), .val (.int (2 : Int32)), .val .null, .unset] [(.ref a1)]) t → Steps p.tables e below E0 t := by
    intro t k
    refine pre0 t ?_
    show Sp p e below s₁ (mkF m 0 #[.val (.ref a1), .val (.ref a2), .val (.int (0 : Int32)), .val (.int (2 : Int32)), .val .null, .unset] []) _
    refine XS.aloadN X0.here hx rfl (hb hby d_jdk_42_149_0) rfl rfl ?_
    exact k
  obtain ⟨T2, X2, e2, st2⟩ := initO X0 hx hZ hown (own_w hw 58 rfl) (own_w hw 24 rfl) (own_w hw 25 rfl) e0 (g := (mkF m 1 #[.val (.ref a1), .val (.ref a2), .val (.int (0 : Int32)), .val (.int (2 : Int32)), .val .null, .unset] [(.ref a1)])) rfl (by rw [hml]; rfl) rfl (hb hby d_jdk_42_149_1) (by decide) (W := 0) (by show 2 * 0 + _ ≤ _; exact Nat.le_of_eq rfl) (by decide)
  have pre_3 : ∀ t, Sp p e below T2 (mkF m 4 #[.val (.ref a1), .val (.ref a2), .val (.int (0 : Int32)), .val (.int (2 : Int32)), .val .null, .unset] []) t → Steps p.tables e below E0 t := fun t k => pre_1 t (st2 t k)
  have pre_4 : ∀ t, Sp p e below T2 (mkF m 27 #[.val (.ref a1), .val (.ref a2), .val (.int (0 : Int32)), .val (.int (2 : Int32)), .val .null, .unset] []) t → Steps p.tables e below E0 t := by
    intro t k
    refine pre_3 t ?_
    show Sp p e below T2 (mkF m 4 #[.val (.ref a1), .val (.ref a2), .val (.int (0 : Int32)), .val (.int (2 : Int32)), .val .null, .unset] []) _
    refine XS.iloadN X2.here hx rfl (hb hby d_jdk_42_149_4) rfl ?_
    refine XS.ifYes X2.here hx rfl (pc0 := 5) (pc' := 27) rfl (hb hby d_jdk_42_149_5) rfl (XT.i0_ne_t (by decide)) (by decide) (by decide) ?_
    exact k
  obtain ⟨T5, X5, e5, st5⟩ := getS X2 hx hZ hown (host := "") (own_w hw 72 rfl) Via.refl e2 (SC.ext O0.2) (g := (mkF m 27 #[.val (.ref a1), .val (.ref a2), .val (.int (0 : Int32)), .val (.int (2 : Int32)), .val .null, .unset] [])) rfl (hb hby d_jdk_42_149_27)
  have pre_6 : ∀ t, Sp p e below T5 (mkF m 30 #[.val (.ref a1), .val (.ref a2), .val (.int (0 : Int32)), .val (.int (2 : Int32)), .val .null, .unset] [(.int G1)]) t → Steps p.tables e below E0 t := fun t k => pre_4 t (st5 t k)
  have pre_7 : ∀ t, Sp p e below T5 (mkF m 36 #[.val (.ref a1), .val (.ref a2), .val (.int (0 : Int32)), .val (.int (2 : Int32)), .val .null, .unset] [(.int (2 : Int32)), (.int (0 : Int32)), (.ref a2)]) t → Steps p.tables e below E0 t := by
    intro t k
    refine pre_6 t ?_
    show Sp p e below T5 (mkF m 30 #[.val (.ref a1), .val (.ref a2), .val (.int (0 : Int32)), .val (.int (2 : Int32)), .val .null, .unset] [(.int G1)]) _
    refine XS.ifNo X5.here hx rfl (hb hby d_jdk_42_149_30) rfl (XT.i0_eq_f hG) ?_
    show Sp p e below T5 (mkF m 33 #[.val (.ref a1), .val (.ref a2), .val (.int (0 : Int32)), .val (.int (2 : Int32)), .val .null, .unset] []) _
    refine XS.aloadN X5.here hx rfl (hb hby d_jdk_42_149_33) rfl rfl ?_
    refine XS.iloadN X5.here hx rfl (hb hby d_jdk_42_149_34) rfl ?_
    refine XS.iloadN X5.here hx rfl (hb hby d_jdk_42_149_35) rfl ?_
    exact k
  obtain ⟨_, _, ⟨T8, L8, k8, n8⟩, -, X8, ⟨Lc8, hQ8, l8, y8, z8⟩, st8⟩ := Jvm.LawKit.callS X5 hx (y := (⟨"java/lang/StringUTF16", "compress", "([CII)[B"⟩ : MethodName)) hown (mvT hZ (own_w hw 73 rfl)) (mvT hZ (own_w hw 74 rfl)) (mvT hZ (own_w hw 75 rfl)) (mvT hZ (own_w hw 76 rfl)) (by decide) (backOf (W := 0) (rm_cmpb2 l Z a0 hw [] a2 kC c0 c1 h0 n0 O0 VC hc0 hc1) hZ (own_w hw 76 rfl) (own_w hw 75 rfl) (by decide) (by decide)) (g := (mkF m 36 #[.val (.ref a1), .val (.ref a2), .val (.int (0 : Int32)), .val (.int (2 : Int32)), .val .null, .unset] [(.int (2 : Int32)), (.int (0 : Int32)), (.ref a2)])) rfl (by rw [hml]; rfl) (argsL := [(.ref a2), (.int (0 : Int32)), (.int (2 : Int32))]) (rest := []) (lenOf pd_sti2_0 rfl) rfl (by show 2 * 0 + _ ≤ _; exact Nat.le_of_eq rfl) (hb hby d_jdk_42_149_36) (fun _ _ => ⟨rfl, e5, (by decide : 0 + 1 ≤ _), (by decide : 0 + 2 ≤ _)⟩)
  dsimp only [Pt.U, Pt.locs, Pt.cells, Pt.slots] at X8 l8 y8 z8 st8 hQ8
  subst l8 y8 z8
  obtain ⟨b8, kB8, rfl, N8q, K8, sb8, Vb8⟩ := hQ8
  have N8 := Fr.app N0 N8q
  have O8 : Old Z n0 T8.heap := O0.keep K8 all0
  have pre_9 : ∀ t, Sp p e below T8 (mkF m 39 #[.val (.ref a1), .val (.ref a2), .val (.int (0 : Int32)), .val (.int (2 : Int32)), .val .null, .unset] [(.ref b8)]) t → Steps p.tables e below E0 t := fun t k => pre_7 t (st8 t k)
  have pre_10 : ∀ t, Sp p e below T8 (mkF m 45 #[.val (.ref a1), .val (.ref a2), .val (.int (0 : Int32)), .val (.int (2 : Int32)), .val .null, .val (.ref b8)] [(.int (2 : Int32)), (.ref b8), (.ref a1)]) t → Steps p.tables e below E0 t := by
    intro t k
    refine pre_9 t ?_
    show Sp p e below T8 (mkF m 39 #[.val (.ref a1), .val (.ref a2), .val (.int (0 : Int32)), .val (.int (2 : Int32)), .val .null, .unset] [(.ref b8)]) _
    refine XS.astore X8.here hx rfl (hb hby d_jdk_42_149_39) rfl rfl (l' := #[.val (.ref a1), .val (.ref a2), .val (.int (0 : Int32)), .val (.int (2 : Int32)), .val .null, .val (.ref b8)]) rfl ?_
    show Sp p e below T8 (mkF m 41 #[.val (.ref a1), .val (.ref a2), .val (.int (0 : Int32)), .val (.int (2 : Int32)), .val .null, .val (.ref b8)] []) _
    refine XS.aloadN X8.here hx rfl (hb hby d_jdk_42_149_41) rfl rfl ?_
    refine XS.aload X8.here hx rfl (hb hby d_jdk_42_149_42) rfl rfl ?_
    refine XS.iloadN X8.here hx rfl (hb hby d_jdk_42_149_44) rfl ?_
    exact k
  obtain ⟨_, _, ⟨T11, L11, k11, n11⟩, -, X11, ⟨Lc11, hQ11, l11, y11, z11⟩, st11⟩ := Jvm.LawKit.callS X8 hx (y := (⟨"java/lang/StringUTF16", "coderFromArrayLen", "([BI)B"⟩ : MethodName)) hown (mvT hZ (own_w hw 80 rfl)) (mvT hZ (own_w hw 81 rfl)) (mvT hZ (own_w hw 75 rfl)) (mvT hZ (own_w hw 82 rfl)) (by decide) (backOf (W := 1) (rm_cfa2 l Z a0 hw [] b8 kB8 c0 c1 T8.heap n0 O8 Vb8) hZ (own_w hw 82 rfl) (own_w hw 75 rfl) (by decide) (by decide)) (g := (mkF m 45 #[.val (.ref a1), .val (.ref a2), .val (.int (0 : Int32)), .val (.int (2 : Int32)), .val .null, .val (.ref b8)] [(.int (2 : Int32)), (.ref b8), (.ref a1)])) rfl (by rw [hml]; rfl) (argsL := [(.ref b8), (.int (2 : Int32))]) (rest := [(.ref a1)]) (lenOf pd_sti2_1 rfl) rfl (by show 2 * 0 + _ ≤ _; exact Nat.le_of_eq rfl) (hb hby d_jdk_42_149_45) (fun _ _ => ⟨rfl, rfl, (by decide : 1 + 0 ≤ _), (by decide : 2 + 0 ≤ _)⟩)
  dsimp only [Pt.U, Pt.locs, Pt.cells, Pt.slots] at X11 l11 y11 z11 st11 hQ11
  subst l11 y11 z11
  obtain ⟨rfl, N11q, e11⟩ := hQ11
  have N11 := Fr.app N8 N11q
  have pre_12 : ∀ t, Sp p e below T11 (mkF m 48 #[.val (.ref a1), .val (.ref a2), .val (.int (0 : Int32)), .val (.int (2 : Int32)), .val .null, .val (.ref b8)] [(.int (0 : Int32)), (.ref a1)]) t → Steps p.tables e below E0 t := fun t k => pre_10 t (st11 t k)
  obtain ⟨T13, h13, X13, e13, W13, st13⟩ := putF X11 hx hZ hown (host := "") (Or.inl (own_w hw 66 rfl)) Via.refl e11 (F2.keep K8 nin0) (E1.keep K8) (Or.inr ⟨(own_w hw 62 rfl), rfl, hnm⟩) (own_w hw 48 rfl) (ty := .byte) (by decide) rfl rfl (g := (mkF m 48 #[.val (.ref a1), .val (.ref a2), .val (.int (0 : Int32)), .val (.int (2 : Int32)), .val .null, .val (.ref b8)] [(.int (0 : Int32)), (.ref a1)])) rfl rfl (hb hby d_jdk_42_149_48)
  have Fw13 := (F2.keep K8 nin0).same W13
  have N13 := Fr.snoc X13 N11 g1
  have O13 : Old Z n0 h13 := O8.wr W13 g1
  have pre_14 : ∀ t, Sp p e below T13 (mkF m 51 #[.val (.ref a1), .val (.ref a2), .val (.int (0 : Int32)), .val (.int (2 : Int32)), .val .null, .val (.ref b8)] []) t → Steps p.tables e below E0 t := fun t k => pre_12 t (st13 t k)
  have pre_15 : ∀ t, Sp p e below T13 (mkF m 54 #[.val (.ref a1), .val (.ref a2), .val (.int (0 : Int32)), .val (.int (2 : Int32)), .val .null, .val (.ref b8)] [(.ref b8), (.ref a1)]) t → Steps p.tables e below E0 t := by
    intro t k
    refine pre_14 t ?_
    show Sp p e below T13 (mkF m 51 #[.val (.ref a1), .val (.ref a2), .val (.int (0 : Int32)), .val (.int (2 : Int32)), .val .null, .val (.ref b8)] []) _
    refine XS.aloadN X13.here hx rfl (hb hby d_jdk_42_149_51) rfl rfl ?_
    show Sp p e below T13 (mkF m 52 #[.val (.ref a1), .val (.ref a2), .val (.int (0 : Int32)), .val (.int (2 : Int32)), .val .null, .val (.ref b8)] [(.ref a1)]) _
    refine XS.aload X13.here hx rfl (hb hby d_jdk_42_149_52) rfl rfl ?_
    exact k
  obtain ⟨T16, h16, X16, e16, W16, st16⟩ := putF X13 hx hZ hown (host := "") (Or.inl (own_w hw 65 rfl)) Via.refl e13 ((F1.keep K8 nin0).other W13 (Or.inr (slot_ne (Or.inr (own_w hw 61 rfl)) (Or.inr (own_w hw 62 rfl)) (by decide) (t := (.array .byte)) (t' := .byte) (by decide) (by decide)))) ((E1.keep K8).wr W13) (Or.inr ⟨(own_w hw 61 rfl), rfl, hnm⟩) (own_w hw 48 rfl) (ty := (.array .byte)) (by decide) rfl rfl (g := (mkF m 54 #[.val (.ref a1), .val (.ref a2), .val (.int (0 : Int32)), .val (.int (2 : Int32)), .val .null, .val (.ref b8)] [(.ref b8), (.ref a1)])) rfl rfl (hb hby d_jdk_42_149_54)
  have Fw16 := ((F1.keep K8 nin0).other W13 (Or.inr (slot_ne (Or.inr (own_w hw 61 rfl)) (Or.inr (own_w hw 62 rfl)) (by decide) (t := (.array .byte)) (t' := .byte) (by decide) (by decide)))).same W16
  have N16 := Fr.snoc X16 N13 g1
  have O16 : Old Z n0 h16 := O13.wr W16 g1
  have pre_17 : ∀ t, Sp p e below T16 (mkF m 57 #[.val (.ref a1), .val (.ref a2), .val (.int (0 : Int32)), .val (.int (2 : Int32)), .val .null, .val (.ref b8)] []) t → Steps p.tables e below E0 t := fun t k => pre_15 t (st16 t k)
  obtain ⟨fs, hr, hrun, hended, hW, hsame⟩ := X16.leave (v := none) (fun _ => rfl)
  refine ⟨_, _, pre_17 _ ?_, hrun, hended, _, _, rfl, ?_, ⟨_, rfl⟩, hW, hsame.mono (by decide) (by decide)⟩
  · show Sp p e below T16 (mkF m 57 #[.val (.ref a1), .val (.ref a2), .val (.int (0 : Int32)), .val (.int (2 : Int32)), .val .null, .val (.ref b8)] []) _
    exact X16.returnOut hx Bd.returns (hb hby d_jdk_42_149_57) hr
  · show Q_sti2 Z _ _ _ _ _ _ _ _ h0 n0 _ T16.heap _
    rw [e16]
    exact ⟨rfl, N16, ((((Keep.refl h0 [a1]).trans K8 all0).wr W13 (Or.inl (List.mem_of_getElem? (i := 0) rfl))).wr W16 (Or.inl (List.mem_of_getElem? (i := 0) rfl))), (Fw13.other W16 (Or.inr (slot_ne (Or.inr (own_w hw 62 rfl)) (Or.inr (own_w hw 61 rfl)) (by decide) (t := .byte) (t' := (.array .byte)) (by decide) (by decide)))), b8, kB8, (Nat.le_trans (Keep.refl h0 [a1]).1 sb8), Fw16, ((Vb8.other W13 (Ne.symm (Nat.ne_of_lt (Nat.lt_of_lt_of_le E1.lt sb8)))).other W16 (Ne.symm (Nat.ne_of_lt (Nat.lt_of_lt_of_le E1.lt sb8))))⟩
theorem pn_str2 : plainName "java/lang/String" = true := by first | (simp [plainName, overriddenIn]; done) | decide +kernel
theorem pd_str2_0 : parseMethodDescriptor "([CIILjava/lang/Void;)V" = some ⟨[(.array .char), .int, .int, (.object "java/lang/Void")], none⟩ := by decide +kernel
theorem ef_str2 (m : MethodId) (a1 : Addr) (a2 : Addr) : entryFrame m #[(.ref a1), (.ref a2)] 2 = (mkF m 0 #[.val (.ref a1), .val (.ref a2)] []) := by first | (simp [entryFrame, mkF, argsToLocals, Value.category]; done) | rfl
def Q_str2 (Z : State) (a1 : Addr) (a2 : Addr) (u1 u2 : Value) (G1 : Int32) (kC : ClassId) (c0 c1 : Int32) (h0 : Heap) (n0 : Nat) (v : Option Value) (h : Heap) (L : List Loc) : Prop := v = none ∧ Fr n0 L ∧ Keep h0 h [a1] ∧ Fld Z h a1 "java/lang/String" "coder" "B" (.int (0 : Int32)) ∧ ∃ b kB, h0.size ≤ b ∧ Fld Z h a1 "java/lang/String" "value" "[B" (.ref b) ∧ Arv Z h b kB .byte (2 : Int32) [(.int (c0).toInt8.toInt32), (.int (c1).toInt8.toInt32)] (.int (0 : Int32))
set_option maxRecDepth 65536 in
set_option maxHeartbeats 40000000 in
theorem rm_str2 (l : Launch) (Z : State) (a0 : Array Value) (hw : ∀ d ∈ tables_1, d.before a0 Z = true) (ws : List Jvm.Cond) (a1 : Addr) (a2 : Addr) (u1 u2 : Value) (G1 : Int32) (kC : ClassId) (c0 c1 : Int32) (h0 : Heap) (n0 : Nat) (O0 : Old Z n0 h0) (E1 : Exa Z h0 a1 "java/lang/String") (F1 : Fld Z h0 a1 "java/lang/String" "value" "[B" u1) (F2 : Fld Z h0 a1 "java/lang/String" "coder" "B" u2) (g1 : n0 ≤ a1) (SC : Sta Z Z.heap "java/lang/String" "COMPACT_STRINGS" "Z" (.int G1)) (hG : ¬ G1 = (0 : Int32)) (VC : Arv Z h0 a2 kC .char (2 : Int32) [(.int c0), (.int c1)] (.int (0 : Int32))) (hc0 : ¬ (255 : Int32) < c0) (hc1 : ¬ (255 : Int32) < c1) :
    MetFree l (⟨"java/lang/String", "<init>", "([C)V"⟩ : MethodName) (head1 (Jvm.Cond.code (⟨"java/lang/String", "<init>", "([C)V"⟩ : MethodName) jdk_42_method_3_code 2 none :: ws) ({ frames := 3, cells := 1, slots := 2, locals := 53 } : Room)) (fun a U => a = #[(.ref a1), (.ref a2)] ∧ Z.Warmed39 U.vm ∧ U.heap = h0) (fun _ _ _ _ _ => True) (fun _ U o U' => ∃ v L, o = .returned v ∧ Q_str2 Z a1 a2 u1 u2 G1 kC c0 c1 h0 n0 v U'.heap L ∧ FrameEnd U o U' L ({ frames := 3, cells := 1, slots := 2, locals := 53 } : Room).cells ({ frames := 3, cells := 1, slots := 2, locals := 53 } : Room).slots) := by
  refine MetFree.of_bodySF (plainFor_of_name pn_str2) hisR ?_
  intro p e s m args below meth c s₁ Bd hml0 hP hK
  obtain ⟨rfl, hZ, hh⟩ := hP
  have hx := Bd.exec
  have hby := Bd.bytes
  have hml : c.maxLocals = 2 := hml0
  have hown : s.vm.findClass "java/lang/String" = some m.cls := findClass_of_methodNamed Bd.named
  have hnm := (name_of_methodNamed Bd.named Bd.method).1
  have X0 : Stand p l e ({ frames := 3, cells := 1, slots := 2, locals := 53 } : Room) s m #[(.ref a1), (.ref a2)] below meth c s₁ [] 0 0 := Stand.of_body Bd
  have e0 : s₁.heap = h0 := by rw [← hh, Bd.state]; rfl
  have N0 := Fr.nil n0
  have pre0 : ∀ t, Steps p.tables e below (s₁.setTop (mkF m 0 #[.val (.ref a1), .val (.ref a2)] [])) t → Steps p.tables e below (s₁.setTop (entryFrame m #[(.ref a1), (.ref a2)] 2)) t := fun t k => castTop (ef_str2 m a1 a2) k
  generalize s₁.setTop (entryFrame m #[(.ref a1), (.ref a2)] 2) = E0 at pre0 ⊢
  have pre_2 : ∀ t, Sp p e below s₁ (mkF m 6 #[.val (.ref a1), .val (.ref a2)] [.null, (.int (2 : Int32)), (.int (0 : Int32)), (.ref a2), (.ref a1)]) t → Steps p.tables e below E0 t := by
    intro t k
    refine pre0 t ?_
    show Sp p e below s₁ (mkF m 0 #[.val (.ref a1), .val (.ref a2)] []) _
    refine XS.aloadN X0.here hx rfl (hb hby d_jdk_42_3_0) rfl rfl ?_
    refine XS.aloadN X0.here hx rfl (hb hby d_jdk_42_3_1) rfl rfl ?_
    refine XS.iconst X0.here hx rfl (hb hby d_jdk_42_3_2) ?_
    refine XS.aloadN X0.here hx rfl (hb hby d_jdk_42_3_3) rfl rfl ?_
    show Sp p e below s₁ (mkF m 4 #[.val (.ref a1), .val (.ref a2)] [(.ref a2), (.int (0 : Int32)), (.ref a2), (.ref a1)]) _
    obtain ⟨cl1, Ar1, -, S1, M1, -, -⟩ := id VC
    refine X0.arraylength hx (cell := cl1) (by rw [e0]; exact Ar1.1) (State.isArrayOf_alike hZ.alike Ar1.2.1) (g := (mkF m 4 #[.val (.ref a1), .val (.ref a2)] [(.ref a2), (.int (0 : Int32)), (.ref a2), (.ref a1)])) rfl (rest := [(.int (0 : Int32)), (.ref a2), (.ref a1)]) rfl (hb hby d_jdk_42_3_4) _ ?_
    rw [len_of S1 M1]
    show Sp p e below s₁ (mkF m 5 #[.val (.ref a1), .val (.ref a2)] [(.int (2 : Int32)), (.int (0 : Int32)), (.ref a2), (.ref a1)]) _
    refine XS.aconstNull X0.here hx rfl (hb hby d_jdk_42_3_5) ?_
    exact k
  obtain ⟨_, _, ⟨T3, L3, k3, n3⟩, -, X3, ⟨Lc3, hQ3, l3, y3, z3⟩, st3⟩ := X0.specialBack hx (y := (⟨"java/lang/String", "<init>", "([CIILjava/lang/Void;)V"⟩ : MethodName)) rfl hown (mvT hZ (own_w hw 54 rfl)) (mvT hZ (own_w hw 55 rfl)) (mvT hZ (own_w hw 57 rfl)) (by decide) (backOf (W := 0) (rm_sti2 l Z a0 hw [] a1 a2 u1 u2 G1 kC c0 c1 h0 n0 O0 E1 F1 F2 g1 SC hG VC hc0 hc1) hZ (own_w hw 57 rfl) (own_w hw 49 rfl) (by decide) (by decide)) (g := (mkF m 6 #[.val (.ref a1), .val (.ref a2)] [.null, (.int (2 : Int32)), (.int (0 : Int32)), (.ref a2), (.ref a1)])) rfl (by rw [hml]; rfl) (Steps.refl _) (a := a1) (argsL := [(.ref a2), (.int (0 : Int32)), (.int (2 : Int32)), .null]) (rest := []) (lenOf pd_str2_0 rfl) rfl (by show 2 * 0 + _ ≤ _; exact Nat.le_of_eq rfl) (hb hby d_jdk_42_3_6) (fun _ _ => ⟨rfl, e0, (by decide : 0 + 1 ≤ _), (by decide : 0 + 2 ≤ _)⟩)
  dsimp only [Pt.U, Pt.locs, Pt.cells, Pt.slots] at X3 l3 y3 z3 st3 hQ3
  subst l3 y3 z3
  obtain ⟨rfl, N3q, K3, Fc3, b3, kB3, sb3, Fv3, Vb3⟩ := hQ3
  have N3 := Fr.app N0 N3q
  have O3 : Old Z n0 T3.heap := O0.keep K3 (allS g1 all0)
  have pre_4 : ∀ t, Sp p e below T3 (mkF m 9 #[.val (.ref a1), .val (.ref a2)] []) t → Steps p.tables e below E0 t := fun t k => pre_2 t (st3.trans k)
  obtain ⟨fs, hr, hrun, hended, hW, hsame⟩ := X3.leave (v := none) (fun _ => rfl)
  refine ⟨_, _, pre_4 _ ?_, hrun, hended, _, _, rfl, ?_, ⟨_, rfl⟩, hW, hsame.mono (by decide) (by decide)⟩
  · show Sp p e below T3 (mkF m 9 #[.val (.ref a1), .val (.ref a2)] []) _
    exact X3.returnOut hx Bd.returns (hb hby d_jdk_42_3_9) hr
  · show Q_str2 Z _ _ _ _ _ _ _ _ h0 n0 _ T3.heap _
    exact ⟨rfl, N3, ((Keep.refl h0 [a1]).trans K3 (allS (Or.inl (List.mem_of_getElem? (i := 0) rfl)) all0)), Fc3, b3, kB3, sb3, Fv3, Vb3⟩
theorem pn_cmpa3 : plainName "java/lang/StringUTF16" = true := by first | (simp [plainName, overriddenIn]; done) | decide +kernel
theorem ef_cmpa3 (m : MethodId) (a1 : Addr) (a3 : Addr) : entryFrame m #[(.ref a1), (.int (0 : Int32)), (.ref a3), (.int (0 : Int32)), (.int (3 : Int32))] 7 = (mkF m 0 #[.val (.ref a1), .val (.int (0 : Int32)), .val (.ref a3), .val (.int (0 : Int32)), .val (.int (3 : Int32)), .unset, .unset] []) := by first | (simp [entryFrame, mkF, argsToLocals, Value.category]; done) | rfl
def Q_cmpa3 (Z : State) (a1 : Addr) (a3 : Addr) (kC kB : ClassId) (c0 c1 c2 : Int32) (h0 : Heap) (n0 : Nat) (v : Option Value) (h : Heap) (L : List Loc) : Prop := v = some (.int (3 : Int32)) ∧ Fr n0 L ∧ Keep h0 h [a3] ∧ Arv Z h a3 kB .byte (3 : Int32) [(.int (c0).toInt8.toInt32), (.int (c1).toInt8.toInt32), (.int (c2).toInt8.toInt32)] (.int (0 : Int32))
set_option maxRecDepth 65536 in
set_option maxHeartbeats 40000000 in
theorem rm_cmpa3 (l : Launch) (Z : State) (a0 : Array Value) (hw : ∀ d ∈ tables_1, d.before a0 Z = true) (ws : List Jvm.Cond) (a1 : Addr) (a3 : Addr) (kC kB : ClassId) (c0 c1 c2 : Int32) (h0 : Heap) (n0 : Nat) (O0 : Old Z n0 h0) (VC : Arv Z h0 a1 kC .char (3 : Int32) [(.int c0), (.int c1), (.int c2)] (.int (0 : Int32))) (VB : Arv Z h0 a3 kB .byte (3 : Int32) [(.int (0 : Int32)), (.int (0 : Int32)), (.int (0 : Int32))] (.int (0 : Int32))) (g3 : n0 ≤ a3) (ne13 : a1 ≠ a3) (hc0 : ¬ (255 : Int32) < c0) (hc1 : ¬ (255 : Int32) < c1) (hc2 : ¬ (255 : Int32) < c2) :
    MetFree l (⟨"java/lang/StringUTF16", "compress", "([CI[BII)I"⟩ : MethodName) (head1 (Jvm.Cond.code (⟨"java/lang/StringUTF16", "compress", "([CI[BII)I"⟩ : MethodName) jdk_52_method_21_code 7 (some .int) :: ws) ({ frames := 0, cells := 0, slots := 0, locals := 0 } : Room)) (fun a U => a = #[(.ref a1), (.int (0 : Int32)), (.ref a3), (.int (0 : Int32)), (.int (3 : Int32))] ∧ Z.Warmed39 U.vm ∧ U.heap = h0) (fun _ _ _ _ _ => True) (fun _ U o U' => ∃ v L, o = .returned v ∧ Q_cmpa3 Z a1 a3 kC kB c0 c1 c2 h0 n0 v U'.heap L ∧ FrameEnd U o U' L ({ frames := 0, cells := 0, slots := 0, locals := 0 } : Room).cells ({ frames := 0, cells := 0, slots := 0, locals := 0 } : Room).slots) := by
  refine MetFree.of_bodySF (plainFor_of_name pn_cmpa3) hisR ?_
  intro p e s m args below meth c s₁ Bd hml0 hP hK
  obtain ⟨rfl, hZ, hh⟩ := hP
  have hx := Bd.exec
  have hby := Bd.bytes
  have hml : c.maxLocals = 7 := hml0
  have hown : s.vm.findClass "java/lang/StringUTF16" = some m.cls := findClass_of_methodNamed Bd.named
  have hnm := (name_of_methodNamed Bd.named Bd.method).1
  have X0 : Stand p l e ({ frames := 0, cells := 0, slots := 0, locals := 0 } : Room) s m #[(.ref a1), (.int (0 : Int32)), (.ref a3), (.int (0 : Int32)), (.int (3 : Int32))] below meth c s₁ [] 0 0 := Stand.of_body Bd
  have e0 : s₁.heap = h0 := by rw [← hh, Bd.state]; rfl
  have N0 := Fr.nil n0
  have pre0 : ∀ t, Steps p.tables e below (s₁.setTop (mkF m 0 #[.val (.ref a1), .val (.int (0 : Int32)), .val (.ref a3), .val (.int (0 : Int32)), .val (.int (3 : Int32)), .unset, .unset] [])) t → Steps p.tables e below (s₁.setTop (entryFrame m #[(.ref a1), (.int (0 : Int32)), (.ref a3), (.int (0 : Int32)), (.int (3 : Int32))] 7)) t := fun t k => castTop (ef_cmpa3 m a1 a3) k
  generalize s₁.setTop (entryFrame m #[(.ref a1), (.int (0 : Int32)), (.ref a3), (.int (0 : Int32)), (.int (3 : Int32))] 7) = E0 at pre0 ⊢
  have pre_2 : ∀ t, Sp p e below s₁ (mkF m 31 #[.val (.ref a1), .val (.int (0 : Int32)), .val (.ref a3), .val (.int (0 : Int32)), .val (.int (3 : Int32)), .val (.int (0 : Int32)), .val (.int c0)] [(.int ((c0).toInt8.toInt32)), (.int (0 : Int32)), (.ref a3)]) t → Steps p.tables e below E0 t := by
    intro t k
    refine pre0 t ?_
    show Sp p e below s₁ (mkF m 0 #[.val (.ref a1), .val (.int (0 : Int32)), .val (.ref a3), .val (.int (0 : Int32)), .val (.int (3 : Int32)), .unset, .unset] []) _
    refine XS.iconst X0.here hx rfl (hb hby d_jdk_52_21_0) ?_
    refine XS.istore X0.here hx rfl (hb hby d_jdk_52_21_1) rfl (l' := #[.val (.ref a1), .val (.int (0 : Int32)), .val (.ref a3), .val (.int (0 : Int32)), .val (.int (3 : Int32)), .val (.int (0 : Int32)), .unset]) rfl ?_
    refine XS.iload X0.here hx rfl (hb hby d_jdk_52_21_3) rfl ?_
    refine XS.iload X0.here hx rfl (hb hby d_jdk_52_21_5) rfl ?_
    show Sp p e below s₁ (mkF m 7 #[.val (.ref a1), .val (.int (0 : Int32)), .val (.ref a3), .val (.int (0 : Int32)), .val (.int (3 : Int32)), .val (.int (0 : Int32)), .unset] [(.int (3 : Int32)), (.int (0 : Int32))]) _
    refine XS.icmpNo X0.here hx rfl (hb hby d_jdk_52_21_7) rfl (XT.ii_ge_f (by decide)) ?_
    refine XS.aloadN X0.here hx rfl (hb hby d_jdk_52_21_10) rfl rfl ?_
    refine XS.iloadN X0.here hx rfl (hb hby d_jdk_52_21_11) rfl ?_
    obtain ⟨cl1, Ar1, -, S1, -, H1, -⟩ := id VC
    have hin1 : ¬ ((0 : Int32) < 0 ∨ cl1.slots.size ≤ ((0 : Int32)).toNatClampNeg) := inb_of S1 (by decide)
    refine X0.caload hx (j := (0 : Int32)) (v := (.int c0)) (by rw [e0]; exact Ar1.1) (State.isArrayOf_alike hZ.alike Ar1.2.1) Ar1.2.2 hin1 (H1.at hin1 rfl) (g := (mkF m 12 #[.val (.ref a1), .val (.int (0 : Int32)), .val (.ref a3), .val (.int (0 : Int32)), .val (.int (3 : Int32)), .val (.int (0 : Int32)), .unset] [(.int (0 : Int32)), (.ref a1)])) rfl rfl (hb hby d_jdk_52_21_12) _ ?_
    show Sp p e below s₁ (mkF m 13 #[.val (.ref a1), .val (.int (0 : Int32)), .val (.ref a3), .val (.int (0 : Int32)), .val (.int (3 : Int32)), .val (.int (0 : Int32)), .unset] [(.int c0)]) _
    refine XS.istore X0.here hx rfl (hb hby d_jdk_52_21_13) rfl (l' := #[.val (.ref a1), .val (.int (0 : Int32)), .val (.ref a3), .val (.int (0 : Int32)), .val (.int (3 : Int32)), .val (.int (0 : Int32)), .val (.int c0)]) rfl ?_
    refine XS.iload X0.here hx rfl (hb hby d_jdk_52_21_15) rfl ?_
    refine XS.sipush X0.here hx rfl (hb hby d_jdk_52_21_17) ?_
    refine XS.icmpYes X0.here hx rfl (pc0 := 20) (pc' := 26) rfl (hb hby d_jdk_52_21_20) rfl (XT.ii_le_t hc0) (by decide) (by decide) ?_
    show Sp p e below s₁ (mkF m 26 #[.val (.ref a1), .val (.int (0 : Int32)), .val (.ref a3), .val (.int (0 : Int32)), .val (.int (3 : Int32)), .val (.int (0 : Int32)), .val (.int c0)] []) _
    refine XS.aloadN X0.here hx rfl (hb hby d_jdk_52_21_26) rfl rfl ?_
    refine XS.iloadN X0.here hx rfl (hb hby d_jdk_52_21_27) rfl ?_
    refine XS.iload X0.here hx rfl (hb hby d_jdk_52_21_28) rfl ?_
    refine XT.i2b X0.here hx rfl (hb hby d_jdk_52_21_30) rfl ?_
    show Sp p e below s₁ (mkF m 31 #[.val (.ref a1), .val (.int (0 : Int32)), .val (.ref a3), .val (.int (0 : Int32)), .val (.int (3 : Int32)), .val (.int (0 : Int32)), .val (.int c0)] [(.int ((c0).toInt8.toInt32)), (.int (0 : Int32)), (.ref a3)]) _
    exact k
  obtain ⟨cl3, Ar3, q3, S3, M3, H3, G3⟩ := id VB
  obtain ⟨T3, h3, X3, e3, W3, st3⟩ := stB X0 hx hZ e0 Ar3 (j := (0 : Int32)) (inb_of S3 (by decide)) (g := (mkF m 31 #[.val (.ref a1), .val (.int (0 : Int32)), .val (.ref a3), .val (.int (0 : Int32)), .val (.int (3 : Int32)), .val (.int (0 : Int32)), .val (.int c0)] [(.int ((c0).toInt8.toInt32)), (.int (0 : Int32)), (.ref a3)])) rfl rfl (hb hby d_jdk_52_21_31)
  have N3 := Fr.snoc X3 N0 g3
  have O3 : Old Z n0 h3 := O0.wr W3 g3
  rw [(own_nb c0)] at W3
  have V3 : Arv Z h3 a3 kB .byte (3 : Int32) [(.int ((c0).toInt8.toInt32)), (.int (0 : Int32)), (.int (0 : Int32))] (.int (0 : Int32)) := Arv.set Ar3 q3 S3 M3 H3 G3 (by rw [← (own_nb c0)]; exact (fits_nar_byte _)) W3 0 rfl (Nat.le_of_ble_eq_true rfl)
  have pre_4 : ∀ t, Sp p e below T3 (mkF m 32 #[.val (.ref a1), .val (.int (0 : Int32)), .val (.ref a3), .val (.int (0 : Int32)), .val (.int (3 : Int32)), .val (.int (0 : Int32)), .val (.int c0)] []) t → Steps p.tables e below E0 t := fun t k => pre_2 t (st3 t k)
  have pre_6 : ∀ t, Sp p e below T3 (mkF m 31 #[.val (.ref a1), .val (.int (1 : Int32)), .val (.ref a3), .val (.int (1 : Int32)), .val (.int (3 : Int32)), .val (.int (1 : Int32)), .val (.int c1)] [(.int ((c1).toInt8.toInt32)), (.int (1 : Int32)), (.ref a3)]) t → Steps p.tables e below E0 t := by
    intro t k
    refine pre_4 t ?_
    show Sp p e below T3 (mkF m 32 #[.val (.ref a1), .val (.int (0 : Int32)), .val (.ref a3), .val (.int (0 : Int32)), .val (.int (3 : Int32)), .val (.int (0 : Int32)), .val (.int c0)] []) _
    refine XS.iinc X3.here hx rfl (hb hby d_jdk_52_21_32) rfl (l' := #[.val (.ref a1), .val (.int (1 : Int32)), .val (.ref a3), .val (.int (0 : Int32)), .val (.int (3 : Int32)), .val (.int (0 : Int32)), .val (.int c0)]) rfl ?_
    refine XS.iinc X3.here hx rfl (hb hby d_jdk_52_21_35) rfl (l' := #[.val (.ref a1), .val (.int (1 : Int32)), .val (.ref a3), .val (.int (1 : Int32)), .val (.int (3 : Int32)), .val (.int (0 : Int32)), .val (.int c0)]) rfl ?_
    refine XS.iinc X3.here hx rfl (hb hby d_jdk_52_21_38) rfl (l' := #[.val (.ref a1), .val (.int (1 : Int32)), .val (.ref a3), .val (.int (1 : Int32)), .val (.int (3 : Int32)), .val (.int (1 : Int32)), .val (.int c0)]) rfl ?_
    refine XS.goto X3.here hx rfl (pc0 := 41) (pc' := 3) rfl (hb hby d_jdk_52_21_41) (by decide) (by decide) ?_
    show Sp p e below T3 (mkF m 3 #[.val (.ref a1), .val (.int (1 : Int32)), .val (.ref a3), .val (.int (1 : Int32)), .val (.int (3 : Int32)), .val (.int (1 : Int32)), .val (.int c0)] []) _
    refine XS.iload X3.here hx rfl (hb hby d_jdk_52_21_3) rfl ?_
    refine XS.iload X3.here hx rfl (hb hby d_jdk_52_21_5) rfl ?_
    refine XS.icmpNo X3.here hx rfl (hb hby d_jdk_52_21_7) rfl (XT.ii_ge_f (by decide)) ?_
    refine XS.aloadN X3.here hx rfl (hb hby d_jdk_52_21_10) rfl rfl ?_
    show Sp p e below T3 (mkF m 11 #[.val (.ref a1), .val (.int (1 : Int32)), .val (.ref a3), .val (.int (1 : Int32)), .val (.int (3 : Int32)), .val (.int (1 : Int32)), .val (.int c0)] [(.ref a1)]) _
    refine XS.iloadN X3.here hx rfl (hb hby d_jdk_52_21_11) rfl ?_
    obtain ⟨cl5, Ar5, -, S5, -, H5, -⟩ := id (VC.other W3 ne13)
    have hin5 : ¬ ((1 : Int32) < 0 ∨ cl5.slots.size ≤ ((1 : Int32)).toNatClampNeg) := inb_of S5 (by decide)
    refine X3.caload hx (j := (1 : Int32)) (v := (.int c1)) (by rw [e3]; exact Ar5.1) (State.isArrayOf_alike hZ.alike Ar5.2.1) Ar5.2.2 hin5 (H5.at hin5 rfl) (g := (mkF m 12 #[.val (.ref a1), .val (.int (1 : Int32)), .val (.ref a3), .val (.int (1 : Int32)), .val (.int (3 : Int32)), .val (.int (1 : Int32)), .val (.int c0)] [(.int (1 : Int32)), (.ref a1)])) rfl rfl (hb hby d_jdk_52_21_12) _ ?_
    refine XS.istore X3.here hx rfl (hb hby d_jdk_52_21_13) rfl (l' := #[.val (.ref a1), .val (.int (1 : Int32)), .val (.ref a3), .val (.int (1 : Int32)), .val (.int (3 : Int32)), .val (.int (1 : Int32)), .val (.int c1)]) rfl ?_
    refine XS.iload X3.here hx rfl (hb hby d_jdk_52_21_15) rfl ?_
    show Sp p e below T3 (mkF m 17 #[.val (.ref a1), .val (.int (1 : Int32)), .val (.ref a3), .val (.int (1 : Int32)), .val (.int (3 : Int32)), .val (.int (1 : Int32)), .val (.int c1)] [(.int c1)]) _
    refine XS.sipush X3.here hx rfl (hb hby d_jdk_52_21_17) ?_
    refine XS.icmpYes X3.here hx rfl (pc0 := 20) (pc' := 26) rfl (hb hby d_jdk_52_21_20) rfl (XT.ii_le_t hc1) (by decide) (by decide) ?_
    refine XS.aloadN X3.here hx rfl (hb hby d_jdk_52_21_26) rfl rfl ?_
    refine XS.iloadN X3.here hx rfl (hb hby d_jdk_52_21_27) rfl ?_
    show Sp p e below T3 (mkF m 28 #[.val (.ref a1), .val (.int (1 : Int32)), .val (.ref a3), .val (.int (1 : Int32)), .val (.int (3 : Int32)), .val (.int (1 : Int32)), .val (.int c1)] [(.int (1 : Int32)), (.ref a3)]) _
    refine XS.iload X3.here hx rfl (hb hby d_jdk_52_21_28) rfl ?_
    refine XT.i2b X3.here hx rfl (hb hby d_jdk_52_21_30) rfl ?_
    exact k
  obtain ⟨cl7, Ar7, q7, S7, M7, H7, G7⟩ := id V3
  obtain ⟨T7, h7, X7, e7, W7, st7⟩ := stB X3 hx hZ e3 Ar7 (j := (1 : Int32)) (inb_of S7 (by decide)) (g := (mkF m 31 #[.val (.ref a1), .val (.int (1 : Int32)), .val (.ref a3), .val (.int (1 : Int32)), .val (.int (3 : Int32)), .val (.int (1 : Int32)), .val (.int c1)] [(.int ((c1).toInt8.toInt32)), (.int (1 : Int32)), (.ref a3)])) rfl rfl (hb hby d_jdk_52_21_31)
  have N7 := Fr.snoc X7 N3 g3
  have O7 : Old Z n0 h7 := O3.wr W7 g3
  rw [(own_nb c1)] at W7
  have V7 : Arv Z h7 a3 kB .byte (3 : Int32) [(.int ((c0).toInt8.toInt32)), (.int ((c1).toInt8.toInt32)), (.int (0 : Int32))] (.int (0 : Int32)) := Arv.set Ar7 q7 S7 M7 H7 G7 (by rw [← (own_nb c1)]; exact (fits_nar_byte _)) W7 1 rfl (Nat.le_of_ble_eq_true rfl)
  have pre_8 : ∀ t, Sp p e below T7 (mkF m 32 #[.val (.ref a1), .val (.int (1 : Int32)), .val (.ref a3), .val (.int (1 : Int32)), .val (.int (3 : Int32)), .val (.int (1 : Int32)), .val (.int c1)] []) t → Steps p.tables e below E0 t := fun t k => pre_6 t (st7 t k)
  have pre_10 : ∀ t, Sp p e below T7 (mkF m 31 #[.val (.ref a1), .val (.int (2 : Int32)), .val (.ref a3), .val (.int (2 : Int32)), .val (.int (3 : Int32)), .val (.int (2 : Int32)), .val (.int c2)] [(.int ((c2).toInt8.toInt32)), (.int (2 : Int32)), (.ref a3)]) t → Steps p.tables e below E0 t := by
    intro t k
    refine pre_8 t ?_
    show Sp p e below T7 (mkF m 32 #[.val (.ref a1), .val (.int (1 : Int32)), .val (.ref a3), .val (.int (1 : Int32)), .val (.int (3 : Int32)), .val (.int (1 : Int32)), .val (.int c1)] []) _
    refine XS.iinc X7.here hx rfl (hb hby d_jdk_52_21_32) rfl (l' := #[.val (.ref a1), .val (.int (2 : Int32)), .val (.ref a3), .val (.int (1 : Int32)), .val (.int (3 : Int32)), .val (.int (1 : Int32)), .val (.int c1)]) rfl ?_
    refine XS.iinc X7.here hx rfl (hb hby d_jdk_52_21_35) rfl (l' := #[.val (.ref a1), .val (.int (2 : Int32)), .val (.ref a3), .val (.int (2 : Int32)), .val (.int (3 : Int32)), .val (.int (1 : Int32)), .val (.int c1)]) rfl ?_
    show Sp p e below T7 (mkF m 38 #[.val (.ref a1), .val (.int (2 : Int32)), .val (.ref a3), .val (.int (2 : Int32)), .val (.int (3 : Int32)), .val (.int (1 : Int32)), .val (.int c1)] []) _
    refine XS.iinc X7.here hx rfl (hb hby d_jdk_52_21_38) rfl (l' := #[.val (.ref a1), .val (.int (2 : Int32)), .val (.ref a3), .val (.int (2 : Int32)), .val (.int (3 : Int32)), .val (.int (2 : Int32)), .val (.int c1)]) rfl ?_
    refine XS.goto X7.here hx rfl (pc0 := 41) (pc' := 3) rfl (hb hby d_jdk_52_21_41) (by decide) (by decide) ?_
    refine XS.iload X7.here hx rfl (hb hby d_jdk_52_21_3) rfl ?_
    refine XS.iload X7.here hx rfl (hb hby d_jdk_52_21_5) rfl ?_
    show Sp p e below T7 (mkF m 7 #[.val (.ref a1), .val (.int (2 : Int32)), .val (.ref a3), .val (.int (2 : Int32)), .val (.int (3 : Int32)), .val (.int (2 : Int32)), .val (.int c1)] [(.int (3 : Int32)), (.int (2 : Int32))]) _
    refine XS.icmpNo X7.here hx rfl (hb hby d_jdk_52_21_7) rfl (XT.ii_ge_f (by decide)) ?_
    refine XS.aloadN X7.here hx rfl (hb hby d_jdk_52_21_10) rfl rfl ?_
    refine XS.iloadN X7.here hx rfl (hb hby d_jdk_52_21_11) rfl ?_
    obtain ⟨cl9, Ar9, -, S9, -, H9, -⟩ := id ((VC.other W3 ne13).other W7 ne13)
    have hin9 : ¬ ((2 : Int32) < 0 ∨ cl9.slots.size ≤ ((2 : Int32)).toNatClampNeg) := inb_of S9 (by decide)
    refine X7.caload hx (j := (2 : Int32)) (v := (.int c2)) (by rw [e7]; exact Ar9.1) (State.isArrayOf_alike hZ.alike Ar9.2.1) Ar9.2.2 hin9 (H9.at hin9 rfl) (g := (mkF m 12 #[.val (.ref a1), .val (.int (2 : Int32)), .val (.ref a3), .val (.int (2 : Int32)), .val (.int (3 : Int32)), .val (.int (2 : Int32)), .val (.int c1)] [(.int (2 : Int32)), (.ref a1)])) rfl rfl (hb hby d_jdk_52_21_12) _ ?_
    show Sp p e below T7 (mkF m 13 #[.val (.ref a1), .val (.int (2 : Int32)), .val (.ref a3), .val (.int (2 : Int32)), .val (.int (3 : Int32)), .val (.int (2 : Int32)), .val (.int c1)] [(.int c2)]) _
    refine XS.istore X7.here hx rfl (hb hby d_jdk_52_21_13) rfl (l' := #[.val (.ref a1), .val (.int (2 : Int32)), .val (.ref a3), .val (.int (2 : Int32)), .val (.int (3 : Int32)), .val (.int (2 : Int32)), .val (.int c2)]) rfl ?_
    refine XS.iload X7.here hx rfl (hb hby d_jdk_52_21_15) rfl ?_
    refine XS.sipush X7.here hx rfl (hb hby d_jdk_52_21_17) ?_
    refine XS.icmpYes X7.here hx rfl (pc0 := 20) (pc' := 26) rfl (hb hby d_jdk_52_21_20) rfl (XT.ii_le_t hc2) (by decide) (by decide) ?_
    show Sp p e below T7 (mkF m 26 #[.val (.ref a1), .val (.int (2 : Int32)), .val (.ref a3), .val (.int (2 : Int32)), .val (.int (3 : Int32)), .val (.int (2 : Int32)), .val (.int c2)] []) _
    refine XS.aloadN X7.here hx rfl (hb hby d_jdk_52_21_26) rfl rfl ?_
    refine XS.iloadN X7.here hx rfl (hb hby d_jdk_52_21_27) rfl ?_
    refine XS.iload X7.here hx rfl (hb hby d_jdk_52_21_28) rfl ?_
    refine XT.i2b X7.here hx rfl (hb hby d_jdk_52_21_30) rfl ?_
    show Sp p e below T7 (mkF m 31 #[.val (.ref a1), .val (.int (2 : Int32)), .val (.ref a3), .val (.int (2 : Int32)), .val (.int (3 : Int32)), .val (.int (2 : Int32)), .val (.int c2)] [(.int ((c2).toInt8.toInt32)), (.int (2 : Int32)), (.ref a3)]) _
    exact k
  obtain ⟨cl11, Ar11, q11, S11, M11, H11, G11⟩ := id V7
  obtain ⟨T11, h11, X11, e11, W11, st11⟩ := stB X7 hx hZ e7 Ar11 (j := (2 : Int32)) (inb_of S11 (by decide)) (g := (mkF m 31 #[.val (.ref a1), .val (.int (2 : Int32)), .val (.ref a3), .val (.int (2 : Int32)), .val (.int (3 : Int32)), .val (.int (2 : Int32)), .val (.int c2)] [(.int ((c2).toInt8.toInt32)), (.int (2 : Int32)), (.ref a3)])) rfl rfl (hb hby d_jdk_52_21_31)
  have N11 := Fr.snoc X11 N7 g3
  have O11 : Old Z n0 h11 := O7.wr W11 g3
  rw [(own_nb c2)] at W11
  have V11 : Arv Z h11 a3 kB .byte (3 : Int32) [(.int ((c0).toInt8.toInt32)), (.int ((c1).toInt8.toInt32)), (.int ((c2).toInt8.toInt32))] (.int (0 : Int32)) := Arv.set Ar11 q11 S11 M11 H11 G11 (by rw [← (own_nb c2)]; exact (fits_nar_byte _)) W11 2 rfl (Nat.le_of_ble_eq_true rfl)
  have pre_12 : ∀ t, Sp p e below T11 (mkF m 32 #[.val (.ref a1), .val (.int (2 : Int32)), .val (.ref a3), .val (.int (2 : Int32)), .val (.int (3 : Int32)), .val (.int (2 : Int32)), .val (.int c2)] []) t → Steps p.tables e below E0 t := fun t k => pre_10 t (st11 t k)
  have pre_13 : ∀ t, Sp p e below T11 (mkF m 46 #[.val (.ref a1), .val (.int (3 : Int32)), .val (.ref a3), .val (.int (3 : Int32)), .val (.int (3 : Int32)), .val (.int (3 : Int32)), .val (.int c2)] [(.int (3 : Int32))]) t → Steps p.tables e below E0 t := by
    intro t k
    refine pre_12 t ?_
    show Sp p e below T11 (mkF m 32 #[.val (.ref a1), .val (.int (2 : Int32)), .val (.ref a3), .val (.int (2 : Int32)), .val (.int (3 : Int32)), .val (.int (2 : Int32)), .val (.int c2)] []) _
    refine XS.iinc X11.here hx rfl (hb hby d_jdk_52_21_32) rfl (l' := #[.val (.ref a1), .val (.int (3 : Int32)), .val (.ref a3), .val (.int (2 : Int32)), .val (.int (3 : Int32)), .val (.int (2 : Int32)), .val (.int c2)]) rfl ?_
    refine XS.iinc X11.here hx rfl (hb hby d_jdk_52_21_35) rfl (l' := #[.val (.ref a1), .val (.int (3 : Int32)), .val (.ref a3), .val (.int (3 : Int32)), .val (.int (3 : Int32)), .val (.int (2 : Int32)), .val (.int c2)]) rfl ?_
    refine XS.iinc X11.here hx rfl (hb hby d_jdk_52_21_38) rfl (l' := #[.val (.ref a1), .val (.int (3 : Int32)), .val (.ref a3), .val (.int (3 : Int32)), .val (.int (3 : Int32)), .val (.int (3 : Int32)), .val (.int c2)]) rfl ?_
    refine XS.goto X11.here hx rfl (pc0 := 41) (pc' := 3) rfl (hb hby d_jdk_52_21_41) (by decide) (by decide) ?_
    show Sp p e below T11 (mkF m 3 #[.val (.ref a1), .val (.int (3 : Int32)), .val (.ref a3), .val (.int (3 : Int32)), .val (.int (3 : Int32)), .val (.int (3 : Int32)), .val (.int c2)] []) _
    refine XS.iload X11.here hx rfl (hb hby d_jdk_52_21_3) rfl ?_
    refine XS.iload X11.here hx rfl (hb hby d_jdk_52_21_5) rfl ?_
    refine XS.icmpYes X11.here hx rfl (pc0 := 7) (pc' := 44) rfl (hb hby d_jdk_52_21_7) rfl (XT.ii_ge_t (by decide)) (by decide) (by decide) ?_
    refine XS.iload X11.here hx rfl (hb hby d_jdk_52_21_44) rfl ?_
    show Sp p e below T11 (mkF m 46 #[.val (.ref a1), .val (.int (3 : Int32)), .val (.ref a3), .val (.int (3 : Int32)), .val (.int (3 : Int32)), .val (.int (3 : Int32)), .val (.int c2)] [(.int (3 : Int32))]) _
    exact k
  obtain ⟨fs, hr, hrun, hended, hW, hsame⟩ := X11.leave (v := some (.int (3 : Int32))) (fun h => by rw [Bd.returns] at h; cases h)
  refine ⟨_, _, pre_13 _ ?_, hrun, hended, _, _, rfl, ?_, ⟨_, rfl⟩, hW, hsame.mono (by decide) (by decide)⟩
  · show Sp p e below T11 (mkF m 46 #[.val (.ref a1), .val (.int (3 : Int32)), .val (.ref a3), .val (.int (3 : Int32)), .val (.int (3 : Int32)), .val (.int (3 : Int32)), .val (.int c2)] [(.int (3 : Int32))]) _
    exact retI X11 hx Bd.returns (hb hby d_jdk_52_21_46) hr
  · show Q_cmpa3 Z _ _ _ _ _ _ _ h0 n0 _ T11.heap _
    rw [e11]
    exact ⟨rfl, N11, ((((Keep.refl h0 [a3]).wr W3 (Or.inl (List.mem_of_getElem? (i := 0) rfl))).wr W7 (Or.inl (List.mem_of_getElem? (i := 0) rfl))).wr W11 (Or.inl (List.mem_of_getElem? (i := 0) rfl))), V11⟩
theorem pn_cmpb3 : plainName "java/lang/StringUTF16" = true := by first | (simp [plainName, overriddenIn]; done) | decide +kernel
theorem pd_cmpb3_0 : parseMethodDescriptor "([CI[BII)I" = some ⟨[(.array .char), .int, (.array .byte), .int, .int], some .int⟩ := by decide +kernel
theorem ef_cmpb3 (m : MethodId) (a1 : Addr) : entryFrame m #[(.ref a1), (.int (0 : Int32)), (.int (3 : Int32))] 6 = (mkF m 0 #[.val (.ref a1), .val (.int (0 : Int32)), .val (.int (3 : Int32)), .unset, .unset, .unset] []) := by first | (simp [entryFrame, mkF, argsToLocals, Value.category]; done) | rfl
def Q_cmpb3 (Z : State) (a1 : Addr) (kC : ClassId) (c0 c1 c2 : Int32) (h0 : Heap) (n0 : Nat) (v : Option Value) (h : Heap) (L : List Loc) : Prop := ∃ b kB, v = some (.ref b) ∧ Fr n0 L ∧ Keep h0 h [] ∧ h0.size ≤ b ∧ Arv Z h b kB .byte (3 : Int32) [(.int (c0).toInt8.toInt32), (.int (c1).toInt8.toInt32), (.int (c2).toInt8.toInt32)] (.int (0 : Int32))
set_option maxRecDepth 65536 in
set_option maxHeartbeats 40000000 in
theorem rm_cmpb3 (l : Launch) (Z : State) (a0 : Array Value) (hw : ∀ d ∈ tables_1, d.before a0 Z = true) (ws : List Jvm.Cond) (a1 : Addr) (kC : ClassId) (c0 c1 c2 : Int32) (h0 : Heap) (n0 : Nat) (O0 : Old Z n0 h0) (VC : Arv Z h0 a1 kC .char (3 : Int32) [(.int c0), (.int c1), (.int c2)] (.int (0 : Int32))) (hc0 : ¬ (255 : Int32) < c0) (hc1 : ¬ (255 : Int32) < c1) (hc2 : ¬ (255 : Int32) < c2) :
    MetFree l (⟨"java/lang/StringUTF16", "compress", "([CII)[B"⟩ : MethodName) (head1 (Jvm.Cond.code (⟨"java/lang/StringUTF16", "compress", "([CII)[B"⟩ : MethodName) jdk_52_method_16_code 6 (some (.array .byte)) :: ws) ({ frames := 1, cells := 1, slots := 3, locals := 18 } : Room)) (fun a U => a = #[(.ref a1), (.int (0 : Int32)), (.int (3 : Int32))] ∧ Z.Warmed39 U.vm ∧ U.heap = h0) (fun _ _ _ _ _ => True) (fun _ U o U' => ∃ v L, o = .returned v ∧ Q_cmpb3 Z a1 kC c0 c1 c2 h0 n0 v U'.heap L ∧ FrameEnd U o U' L ({ frames := 1, cells := 1, slots := 3, locals := 18 } : Room).cells ({ frames := 1, cells := 1, slots := 3, locals := 18 } : Room).slots) := by
  refine MetFree.of_bodySF (plainFor_of_name pn_cmpb3) hisR ?_
  intro p e s m args below meth c s₁ Bd hml0 hP hK
  obtain ⟨rfl, hZ, hh⟩ := hP
  have hx := Bd.exec
  have hby := Bd.bytes
  have hml : c.maxLocals = 6 := hml0
  have hown : s.vm.findClass "java/lang/StringUTF16" = some m.cls := findClass_of_methodNamed Bd.named
  have hnm := (name_of_methodNamed Bd.named Bd.method).1
  have X0 : Stand p l e ({ frames := 1, cells := 1, slots := 3, locals := 18 } : Room) s m #[(.ref a1), (.int (0 : Int32)), (.int (3 : Int32))] below meth c s₁ [] 0 0 := Stand.of_body Bd
  have e0 : s₁.heap = h0 := by rw [← hh, Bd.state]; rfl
  have N0 := Fr.nil n0
  have pre0 : ∀ t, Steps p.tables e below (s₁.setTop (mkF m 0 #[.val (.ref a1), .val (.int (0 : Int32)), .val (.int (3 : Int32)), .unset, .unset, .unset] [])) t → Steps p.tables e below (s₁.setTop (entryFrame m #[(.ref a1), (.int (0 : Int32)), (.int (3 : Int32))] 6)) t := fun t k => castTop (ef_cmpb3 m a1) k
  generalize s₁.setTop (entryFrame m #[(.ref a1), (.int (0 : Int32)), (.int (3 : Int32))] 6) = E0 at pre0 ⊢
  have pre_1 : ∀ t, Sp p e below s₁ (mkF m 1 #[.val (.ref a1), .val (.int (0 : Int32)), .val (.int (3 : Int32)), .unset, .unset, .unset] [(.int (3 : Int32))]) t → Steps p.tables e below E0 t := by
    intro t k
    refine pre0 t ?_
    show Sp p e below s₁ (mkF m 0 #[.val (.ref a1), .val (.int (0 : Int32)), .val (.int (3 : Int32)), .unset, .unset, .unset] []) _
    refine XS.iloadN X0.here hx rfl (hb hby d_jdk_52_16_0) rfl ?_
    exact k
  obtain ⟨T2, h2, cA2, X2, e2, E2, A2, st2⟩ := newP X0 hx hZ (own_w hw 60 rfl) e0 (g := (mkF m 1 #[.val (.ref a1), .val (.int (0 : Int32)), .val (.int (3 : Int32)), .unset, .unset, .unset] [(.int (3 : Int32))])) rfl (hb hby d_jdk_52_16_1) rfl (by decide) (cap := 3) (by decide) (by decide) (by decide) (by decide)
  obtain ⟨b2, g2⟩ : ∃ z, z = h0.size := ⟨_, rfl⟩
  rw [← g2] at A2 st2
  have O2 : Old Z n0 h2 := O0.ext E2
  have V2 : Arv Z h2 b2 cA2 .byte (3 : Int32) [(.int (0 : Int32)), (.int (0 : Int32)), (.int (0 : Int32))] (.int (0 : Int32)) := (Arv.new A2 (by decide)).pad (pad_rep [] _ 3)
  have pre_3 : ∀ t, Sp p e below T2 (mkF m 3 #[.val (.ref a1), .val (.int (0 : Int32)), .val (.int (3 : Int32)), .unset, .unset, .unset] [(.ref b2)]) t → Steps p.tables e below E0 t := fun t k => pre_1 t (st2 t k)
  have pre_4 : ∀ t, Sp p e below T2 (mkF m 9 #[.val (.ref a1), .val (.int (0 : Int32)), .val (.int (3 : Int32)), .val (.ref b2), .unset, .unset] [(.int (3 : Int32)), (.int (0 : Int32)), (.ref b2), (.int (0 : Int32)), (.ref a1)]) t → Steps p.tables e below E0 t := by
    intro t k
    refine pre_3 t ?_
    show Sp p e below T2 (mkF m 3 #[.val (.ref a1), .val (.int (0 : Int32)), .val (.int (3 : Int32)), .unset, .unset, .unset] [(.ref b2)]) _
    refine XS.astoreN X2.here hx rfl (hb hby d_jdk_52_16_3) rfl rfl (l' := #[.val (.ref a1), .val (.int (0 : Int32)), .val (.int (3 : Int32)), .val (.ref b2), .unset, .unset]) rfl ?_
    refine XS.aloadN X2.here hx rfl (hb hby d_jdk_52_16_4) rfl rfl ?_
    refine XS.iloadN X2.here hx rfl (hb hby d_jdk_52_16_5) rfl ?_
    show Sp p e below T2 (mkF m 6 #[.val (.ref a1), .val (.int (0 : Int32)), .val (.int (3 : Int32)), .val (.ref b2), .unset, .unset] [(.int (0 : Int32)), (.ref a1)]) _
    refine XS.aloadN X2.here hx rfl (hb hby d_jdk_52_16_6) rfl rfl ?_
    refine XS.iconst X2.here hx rfl (hb hby d_jdk_52_16_7) ?_
    refine XS.iloadN X2.here hx rfl (hb hby d_jdk_52_16_8) rfl ?_
    exact k
  obtain ⟨_, _, ⟨T5, L5, k5, n5⟩, -, X5, ⟨Lc5, hQ5, l5, y5, z5⟩, st5⟩ := Jvm.LawKit.callS X2 hx (y := (⟨"java/lang/StringUTF16", "compress", "([CI[BII)I"⟩ : MethodName)) hown (mvT hZ (own_w hw 77 rfl)) (mvT hZ (own_w hw 78 rfl)) (mvT hZ (own_w hw 75 rfl)) (mvT hZ (own_w hw 79 rfl)) (by decide) (backOf (W := 0) (rm_cmpa3 l Z a0 hw [] a1 b2 kC cA2 c0 c1 c2 h2 n0 O2 (VC.ext E2) V2 (Nat.le_trans (own_le O0) (Nat.le_of_eq g2.symm)) (Nat.ne_of_lt (Nat.lt_of_lt_of_le VC.lt (Nat.le_of_eq g2.symm))) hc0 hc1 hc2) hZ (own_w hw 79 rfl) (own_w hw 75 rfl) (by decide) (by decide)) (g := (mkF m 9 #[.val (.ref a1), .val (.int (0 : Int32)), .val (.int (3 : Int32)), .val (.ref b2), .unset, .unset] [(.int (3 : Int32)), (.int (0 : Int32)), (.ref b2), (.int (0 : Int32)), (.ref a1)])) rfl (by rw [hml]; rfl) (argsL := [(.ref a1), (.int (0 : Int32)), (.ref b2), (.int (0 : Int32)), (.int (3 : Int32))]) (rest := []) (lenOf pd_cmpb3_0 rfl) rfl (by show 2 * 0 + _ ≤ _; exact Nat.le_of_eq rfl) (hb hby d_jdk_52_16_9) (fun _ _ => ⟨rfl, e2, (by decide : 1 + 0 ≤ _), (by decide : 3 + 0 ≤ _)⟩)
  dsimp only [Pt.U, Pt.locs, Pt.cells, Pt.slots] at X5 l5 y5 z5 st5 hQ5
  subst l5 y5 z5
  obtain ⟨rfl, N5q, K5, Vb5⟩ := hQ5
  have N5 := Fr.app N0 N5q
  have O5 : Old Z n0 T5.heap := O2.keep K5 (allS (Nat.le_trans (own_le O0) (Nat.le_of_eq g2.symm)) all0)
  have pre_6 : ∀ t, Sp p e below T5 (mkF m 12 #[.val (.ref a1), .val (.int (0 : Int32)), .val (.int (3 : Int32)), .val (.ref b2), .unset, .unset] [(.int (3 : Int32))]) t → Steps p.tables e below E0 t := fun t k => pre_4 t (st5 t k)
  have pre_7 : ∀ t, Sp p e below T5 (mkF m 58 #[.val (.ref a1), .val (.int (0 : Int32)), .val (.int (3 : Int32)), .val (.ref b2), .val (.int (3 : Int32)), .unset] [(.ref b2)]) t → Steps p.tables e below E0 t := by
    intro t k
    refine pre_6 t ?_
    show Sp p e below T5 (mkF m 12 #[.val (.ref a1), .val (.int (0 : Int32)), .val (.int (3 : Int32)), .val (.ref b2), .unset, .unset] [(.int (3 : Int32))]) _
    refine XS.istore X5.here hx rfl (hb hby d_jdk_52_16_12) rfl (l' := #[.val (.ref a1), .val (.int (0 : Int32)), .val (.int (3 : Int32)), .val (.ref b2), .val (.int (3 : Int32)), .unset]) rfl ?_
    show Sp p e below T5 (mkF m 14 #[.val (.ref a1), .val (.int (0 : Int32)), .val (.int (3 : Int32)), .val (.ref b2), .val (.int (3 : Int32)), .unset] []) _
    refine XS.iload X5.here hx rfl (hb hby d_jdk_52_16_14) rfl ?_
    refine XS.iloadN X5.here hx rfl (hb hby d_jdk_52_16_16) rfl ?_
    refine XS.icmpYes X5.here hx rfl (pc0 := 17) (pc' := 57) rfl (hb hby d_jdk_52_16_17) rfl (XT.ii_eq_t (by decide)) (by decide) (by decide) ?_
    refine XS.aloadN X5.here hx rfl (hb hby d_jdk_52_16_57) rfl rfl ?_
    show Sp p e below T5 (mkF m 58 #[.val (.ref a1), .val (.int (0 : Int32)), .val (.int (3 : Int32)), .val (.ref b2), .val (.int (3 : Int32)), .unset] [(.ref b2)]) _
    exact k
  obtain ⟨fs, hr, hrun, hended, hW, hsame⟩ := X5.leave (v := some (.ref b2)) (fun h => by rw [Bd.returns] at h; cases h)
  refine ⟨_, _, pre_7 _ ?_, hrun, hended, _, _, rfl, ?_, ⟨_, rfl⟩, hW, hsame.mono (by decide) (by decide)⟩
  · show Sp p e below T5 (mkF m 58 #[.val (.ref a1), .val (.int (0 : Int32)), .val (.int (3 : Int32)), .val (.ref b2), .val (.int (3 : Int32)), .unset] [(.ref b2)]) _
    exact retOut X5 hx (t := (.array .byte)) Bd.returns rfl (Or.inr (Or.inr (Or.inr (Or.inr ⟨rfl, rfl, rfl⟩)))) (hb hby d_jdk_52_16_58) hr
  · show Q_cmpb3 Z _ _ _ _ _ h0 n0 _ T5.heap _
    exact ⟨b2, cA2, rfl, N5, (((Keep.refl h0 []).ext E2).trans K5 (allS (Or.inr (Nat.le_trans (Keep.refl h0 []).1 (Nat.le_of_eq g2.symm))) all0)), (Nat.le_trans (Keep.refl h0 []).1 (Nat.le_of_eq g2.symm)), Vb5⟩
theorem pn_cfa3 : plainName "java/lang/StringUTF16" = true := by first | (simp [plainName, overriddenIn]; done) | decide +kernel
theorem ef_cfa3 (m : MethodId) (a1 : Addr) : entryFrame m #[(.ref a1), (.int (3 : Int32))] 2 = (mkF m 0 #[.val (.ref a1), .val (.int (3 : Int32))] []) := by first | (simp [entryFrame, mkF, argsToLocals, Value.category]; done) | rfl
def Q_cfa3 (Z : State) (a1 : Addr) (kB : ClassId) (c0 c1 c2 : Int32) (h0 : Heap) (n0 : Nat) (v : Option Value) (h : Heap) (L : List Loc) : Prop := v = some (.int (0 : Int32)) ∧ Fr n0 L ∧ h = h0
set_option maxRecDepth 65536 in
set_option maxHeartbeats 40000000 in
theorem rm_cfa3 (l : Launch) (Z : State) (a0 : Array Value) (hw : ∀ d ∈ tables_1, d.before a0 Z = true) (ws : List Jvm.Cond) (a1 : Addr) (kB : ClassId) (c0 c1 c2 : Int32) (h0 : Heap) (n0 : Nat) (O0 : Old Z n0 h0) (VB : Arv Z h0 a1 kB .byte (3 : Int32) [(.int (c0).toInt8.toInt32), (.int (c1).toInt8.toInt32), (.int (c2).toInt8.toInt32)] (.int (0 : Int32))) :
    MetFree l (⟨"java/lang/StringUTF16", "coderFromArrayLen", "([BI)B"⟩ : MethodName) (head1 (Jvm.Cond.code (⟨"java/lang/StringUTF16", "coderFromArrayLen", "([BI)B"⟩ : MethodName) jdk_52_method_15_code 2 (some .byte) :: ws) ({ frames := 0, cells := 0, slots := 0, locals := 0 } : Room)) (fun a U => a = #[(.ref a1), (.int (3 : Int32))] ∧ Z.Warmed39 U.vm ∧ U.heap = h0) (fun _ _ _ _ _ => True) (fun _ U o U' => ∃ v L, o = .returned v ∧ Q_cfa3 Z a1 kB c0 c1 c2 h0 n0 v U'.heap L ∧ FrameEnd U o U' L ({ frames := 0, cells := 0, slots := 0, locals := 0 } : Room).cells ({ frames := 0, cells := 0, slots := 0, locals := 0 } : Room).slots) := by
  refine MetFree.of_bodySF (plainFor_of_name pn_cfa3) hisR ?_
  intro p e s m args below meth c s₁ Bd hml0 hP hK
  obtain ⟨rfl, hZ, hh⟩ := hP
  have hx := Bd.exec
  have hby := Bd.bytes
  have hml : c.maxLocals = 2 := hml0
  have hown : s.vm.findClass "java/lang/StringUTF16" = some m.cls := findClass_of_methodNamed Bd.named
  have hnm := (name_of_methodNamed Bd.named Bd.method).1
  have X0 : Stand p l e ({ frames := 0, cells := 0, slots := 0, locals := 0 } : Room) s m #[(.ref a1), (.int (3 : Int32))] below meth c s₁ [] 0 0 := Stand.of_body Bd
  have e0 : s₁.heap = h0 := by rw [← hh, Bd.state]; rfl
  have N0 := Fr.nil n0
  have pre0 : ∀ t, Steps p.tables e below (s₁.setTop (mkF m 0 #[.val (.ref a1), .val (.int (3 : Int32))] [])) t → Steps p.tables e below (s₁.setTop (entryFrame m #[(.ref a1), (.int (3 : Int32))] 2)) t := fun t k => castTop (ef_cfa3 m a1) k
  generalize s₁.setTop (entryFrame m #[(.ref a1), (.int (3 : Int32))] 2) = E0 at pre0 ⊢
  have pre_2 : ∀ t, Sp p e below s₁ (mkF m 8 #[.val (.ref a1), .val (.int (3 : Int32))] [(.int (0 : Int32))]) t → Steps p.tables e below E0 t := by
    intro t k
    refine pre0 t ?_
    show Sp p e below s₁ (mkF m 0 #[.val (.ref a1), .val (.int (3 : Int32))] []) _
    refine XS.iloadN X0.here hx rfl (hb hby d_jdk_52_15_0) rfl ?_
    refine XS.aloadN X0.here hx rfl (hb hby d_jdk_52_15_1) rfl rfl ?_
    obtain ⟨cl1, Ar1, -, S1, M1, -, -⟩ := id VB
    refine X0.arraylength hx (cell := cl1) (by rw [e0]; exact Ar1.1) (State.isArrayOf_alike hZ.alike Ar1.2.1) (g := (mkF m 2 #[.val (.ref a1), .val (.int (3 : Int32))] [(.ref a1), (.int (3 : Int32))])) rfl (rest := [(.int (3 : Int32))]) rfl (hb hby d_jdk_52_15_2) _ ?_
    rw [len_of S1 M1]
    show Sp p e below s₁ (mkF m 3 #[.val (.ref a1), .val (.int (3 : Int32))] [(.int (3 : Int32)), (.int (3 : Int32))]) _
    refine XS.isub X0.here hx rfl (hb hby d_jdk_52_15_3) rfl ?_
    refine XS.bipush X0.here hx rfl (hb hby d_jdk_52_15_4) ?_
    show Sp p e below s₁ (mkF m 6 #[.val (.ref a1), .val (.int (3 : Int32))] [(.int (31 : Int32)), (.int (0 : Int32))]) _
    refine XT.iushr X0.here hx rfl (hb hby d_jdk_52_15_6) rfl ?_
    refine XT.i2b X0.here hx rfl (hb hby d_jdk_52_15_7) rfl ?_
    exact k
  obtain ⟨fs, hr, hrun, hended, hW, hsame⟩ := X0.leave (v := some (.int (0 : Int32))) (fun h => by rw [Bd.returns] at h; cases h)
  refine ⟨_, _, pre_2 _ ?_, hrun, hended, _, _, rfl, ?_, ⟨_, rfl⟩, hW, hsame.mono (by decide) (by decide)⟩
  · show Sp p e below s₁ (mkF m 8 #[.val (.ref a1), .val (.int (3 : Int32))] [(.int (0 : Int32))]) _
    exact retN X0 hx (t := .byte) Bd.returns (by simp) (hb hby d_jdk_52_15_8) hr
  · show Q_cfa3 Z _ _ _ _ _ h0 n0 _ s₁.heap _
    rw [e0]
    exact ⟨rfl, N0, rfl⟩
theorem pn_sti3 : plainName "java/lang/String" = true := by first | (simp [plainName, overriddenIn]; done) | decide +kernel
theorem pd_sti3_0 : parseMethodDescriptor "([CII)[B" = some ⟨[(.array .char), .int, .int], some (.array .byte)⟩ := by decide +kernel
theorem pd_sti3_1 : parseMethodDescriptor "([BI)B" = some ⟨[(.array .byte), .int], some .byte⟩ := by decide +kernel
theorem ef_sti3 (m : MethodId) (a1 : Addr) (a2 : Addr) : entryFrame m #[(.ref a1), (.ref a2), (.int (0 : Int32)), (.int (3 : Int32)), .null] 6 = (mkF m 0 #[.val (.ref a1), .val (.ref a2), .val (.int (0 : Int32)), .val (.int (3 : Int32)), .val .null, .unset] []) := by first | (simp [entryFrame, mkF, argsToLocals, Value.category]; done) | rfl
def Q_sti3 (Z : State) (a1 : Addr) (a2 : Addr) (u1 u2 : Value) (G1 : Int32) (kC : ClassId) (c0 c1 c2 : Int32) (h0 : Heap) (n0 : Nat) (v : Option Value) (h : Heap) (L : List Loc) : Prop := v = none ∧ Fr n0 L ∧ Keep h0 h [a1] ∧ Fld Z h a1 "java/lang/String" "coder" "B" (.int (0 : Int32)) ∧ ∃ b kB, h0.size ≤ b ∧ Fld Z h a1 "java/lang/String" "value" "[B" (.ref b) ∧ Arv Z h b kB .byte (3 : Int32) [(.int (c0).toInt8.toInt32), (.int (c1).toInt8.toInt32), (.int (c2).toInt8.toInt32)] (.int (0 : Int32))
set_option maxRecDepth 65536 in
set_option maxHeartbeats 40000000 in
theorem rm_sti3 (l : Launch) (Z : State) (a0 : Array Value) (hw : ∀ d ∈ tables_1, d.before a0 Z = true) (ws : List Jvm.Cond) (a1 : Addr) (a2 : Addr) (u1 u2 : Value) (G1 : Int32) (kC : ClassId) (c0 c1 c2 : Int32) (h0 : Heap) (n0 : Nat) (O0 : Old Z n0 h0) (E1 : Exa Z h0 a1 "java/lang/String") (F1 : Fld Z h0 a1 "java/lang/String" "value" "[B" u1) (F2 : Fld Z h0 a1 "java/lang/String" "coder" "B" u2) (g1 : n0 ≤ a1) (SC : Sta Z Z.heap "java/lang/String" "COMPACT_STRINGS" "Z" (.int G1)) (hG : ¬ G1 = (0 : Int32)) (VC : Arv Z h0 a2 kC .char (3 : Int32) [(.int c0), (.int c1), (.int c2)] (.int (0 : Int32))) (hc0 : ¬ (255 : Int32) < c0) (hc1 : ¬ (255 : Int32) < c1) (hc2 : ¬ (255 : Int32) < c2) :
    MetFree l (⟨"java/lang/String", "<init>", "([CIILjava/lang/Void;)V"⟩ : MethodName) (head1 (Jvm.Cond.code (⟨"java/lang/String", "<init>", "([CIILjava/lang/Void;)V"⟩ : MethodName) jdk_42_method_149_code 6 none :: ws) ({ frames := 2, cells := 1, slots := 3, locals := 36 } : Room)) (fun a U => a = #[(.ref a1), (.ref a2), (.int (0 : Int32)), (.int (3 : Int32)), .null] ∧ Z.Warmed39 U.vm ∧ U.heap = h0) (fun _ _ _ _ _ => True) (fun _ U o U' => ∃ v L, o = .returned v ∧ Q_sti3 Z a1 a2 u1 u2 G1 kC c0 c1 c2 h0 n0 v U'.heap L ∧ FrameEnd U o U' L ({ frames := 2, cells := 1, slots := 3, locals := 36 } : Room).cells ({ frames := 2, cells := 1, slots := 3, locals := 36 } : Room).slots) := by
  refine MetFree.of_bodySF (plainFor_of_name pn_sti3) hisR ?_
  intro p e s m args below meth c s₁ Bd hml0 hP hK
  obtain ⟨rfl, hZ, hh⟩ := hP
  have hx := Bd.exec
  have hby := Bd.bytes
  have hml : c.maxLocals = 6 := hml0
  have hown : s.vm.findClass "java/lang/String" = some m.cls := findClass_of_methodNamed Bd.named
  have hnm := (name_of_methodNamed Bd.named Bd.method).1
  have X0 : Stand p l e ({ frames := 2, cells := 1, slots := 3, locals := 36 } : Room) s m #[(.ref a1), (.ref a2), (.int (0 : Int32)), (.int (3 : Int32)), .null] below meth c s₁ [] 0 0 := Stand.of_body Bd
  have e0 : s₁.heap = h0 := by rw [← hh, Bd.state]; rfl
  have N0 := Fr.nil n0
  have pre0 : ∀ t, Steps p.tables e below (s₁.setTop (mkF m 0 #[.val (.ref a1), .val (.ref a2), .val (.int (0 : Int32)), .val (.int (3 : Int32)), .val .null, .unset] [])) t → Steps p.tables e below (s₁.setTop (entryFrame m #[(.ref a1), (.ref a2), (.int (0 : Int32)), (.int (3 : Int32)), .null] 6)) t := fun t k => castTop (ef_sti3 m a1 a2) k
  generalize s₁.setTop (entryFrame m #[(.ref a1), (.ref a2), (.int (0 : Int32)), (.int (3 : Int32)), .null] 6) = E0 at pre0 ⊢
  have pre_1 : ∀ t, Sp p e below s₁ (mkF m 1 #[.val (.ref a1), .val (.ref a2), .val (.int (0 : Int32)), .val (.int (3 : Int32)), .val .null, .unset] [(.ref a1)]) t → Steps p.tables e below E0 t := by
    intro t k
    refine pre0 t ?_
    show Sp p e below s₁ (mkF m 0 #[.val (.ref a1), .val (.ref a2), .val (.int (0 : Int32)), .val (.int (3 : Int32)), .val .null, .unset] []) _
    refine XS.aloadN X0.here hx rfl (hb hby d_jdk_42_149_0) rfl rfl ?_
    exact k
  obtain ⟨T2, X2, e2, st2⟩ := initO X0 hx hZ hown (own_w hw 58 rfl) (own_w hw 24 rfl) (own_w hw 25 rfl) e0 (g := (mkF m 1 #[.val (.ref a1), .val (.ref a2), .val (.int (0 : Int32)), .val (.int (3 : Int32)), .val .null, .unset] [(.ref a1)])) rfl (by rw [hml]; rfl) rfl (hb hby d_jdk_42_149_1) (by decide) (W := 0) (by show 2 * 0 + _ ≤ _; exact Nat.le_of_eq rfl) (by decide)
  have pre_3 : ∀ t, Sp p e below T2 (mkF m 4 #[.val (.ref a1), .val (.ref a2), .val (.int (0 : Int32)), .val (.int (3 : Int32)), .val .null, .unset] []) t → Steps p.tables e below E0 t := fun t k => pre_1 t (st2 t k)
  have pre_4 : ∀ t, Sp p e below T2 (mkF m 27 #[.val (.ref a1), .val (.ref a2), .val (.int (0 : Int32)), .val (.int (3 : Int32)), .val .null, .unset] []) t → Steps p.tables e below E0 t := by
    intro t k
    refine pre_3 t ?_
    show Sp p e below T2 (mkF m 4 #[.val (.ref a1), .val (.ref a2), .val (.int (0 : Int32)), .val (.int (3 : Int32)), .val .null, .unset] []) _
    refine XS.iloadN X2.here hx rfl (hb hby d_jdk_42_149_4) rfl ?_
    refine XS.ifYes X2.here hx rfl (pc0 := 5) (pc' := 27) rfl (hb hby d_jdk_42_149_5) rfl (XT.i0_ne_t (by decide)) (by decide) (by decide) ?_
    exact k
  obtain ⟨T5, X5, e5, st5⟩ := getS X2 hx hZ hown (host := "") (own_w hw 72 rfl) Via.refl e2 (SC.ext O0.2) (g := (mkF m 27 #[.val (.ref a1), .val (.ref a2), .val (.int (0 : Int32)), .val (.int (3 : Int32)), .val .null, .unset] [])) rfl (hb hby d_jdk_42_149_27)
  have pre_6 : ∀ t, Sp p e below T5 (mkF m 30 #[.val (.ref a1), .val (.ref a2), .val (.int (0 : Int32)), .val (.int (3 : Int32)), .val .null, .unset] [(.int G1)]) t → Steps p.tables e below E0 t := fun t k => pre_4 t (st5 t k)
  have pre_7 : ∀ t, Sp p e below T5 (mkF m 36 #[.val (.ref a1), .val (.ref a2), .val (.int (0 : Int32)), .val (.int (3 : Int32)), .val .null, .unset] [(.int (3 : Int32)), (.int (0 : Int32)), (.ref a2)]) t → Steps p.tables e below E0 t := by
    intro t k
    refine pre_6 t ?_
    show Sp p e below T5 (mkF m 30 #[.val (.ref a1), .val (.ref a2), .val (.int (0 : Int32)), .val (.int (3 : Int32)), .val .null, .unset] [(.int G1)]) _
    refine XS.ifNo X5.here hx rfl (hb hby d_jdk_42_149_30) rfl (XT.i0_eq_f hG) ?_
    show Sp p e below T5 (mkF m 33 #[.val (.ref a1), .val (.ref a2), .val (.int (0 : Int32)), .val (.int (3 : Int32)), .val .null, .unset] []) _
    refine XS.aloadN X5.here hx rfl (hb hby d_jdk_42_149_33) rfl rfl ?_
    refine XS.iloadN X5.here hx rfl (hb hby d_jdk_42_149_34) rfl ?_
    refine XS.iloadN X5.here hx rfl (hb hby d_jdk_42_149_35) rfl ?_
    exact k
  obtain ⟨_, _, ⟨T8, L8, k8, n8⟩, -, X8, ⟨Lc8, hQ8, l8, y8, z8⟩, st8⟩ := Jvm.LawKit.callS X5 hx (y := (⟨"java/lang/StringUTF16", "compress", "([CII)[B"⟩ : MethodName)) hown (mvT hZ (own_w hw 73 rfl)) (mvT hZ (own_w hw 74 rfl)) (mvT hZ (own_w hw 75 rfl)) (mvT hZ (own_w hw 76 rfl)) (by decide) (backOf (W := 0) (rm_cmpb3 l Z a0 hw [] a2 kC c0 c1 c2 h0 n0 O0 VC hc0 hc1 hc2) hZ (own_w hw 76 rfl) (own_w hw 75 rfl) (by decide) (by decide)) (g := (mkF m 36 #[.val (.ref a1), .val (.ref a2), .val (.int (0 : Int32)), .val (.int (3 : Int32)), .val .null, .unset] [(.int (3 : Int32)), (.int (0 : Int32)), (.ref a2)])) rfl (by rw [hml]; rfl) (argsL := [(.ref a2), (.int (0 : Int32)), (.int (3 : Int32))]) (rest := []) (lenOf pd_sti3_0 rfl) rfl (by show 2 * 0 + _ ≤ _; exact Nat.le_of_eq rfl) (hb hby d_jdk_42_149_36) (fun _ _ => ⟨rfl, e5, (by decide : 0 + 1 ≤ _), (by decide : 0 + 3 ≤ _)⟩)
  dsimp only [Pt.U, Pt.locs, Pt.cells, Pt.slots] at X8 l8 y8 z8 st8 hQ8
  subst l8 y8 z8
  obtain ⟨b8, kB8, rfl, N8q, K8, sb8, Vb8⟩ := hQ8
  have N8 := Fr.app N0 N8q
  have O8 : Old Z n0 T8.heap := O0.keep K8 all0
  have pre_9 : ∀ t, Sp p e below T8 (mkF m 39 #[.val (.ref a1), .val (.ref a2), .val (.int (0 : Int32)), .val (.int (3 : Int32)), .val .null, .unset] [(.ref b8)]) t → Steps p.tables e below E0 t := fun t k => pre_7 t (st8 t k)
  have pre_10 : ∀ t, Sp p e below T8 (mkF m 45 #[.val (.ref a1), .val (.ref a2), .val (.int (0 : Int32)), .val (.int (3 : Int32)), .val .null, .val (.ref b8)] [(.int (3 : Int32)), (.ref b8), (.ref a1)]) t → Steps p.tables e below E0 t := by
    intro t k
    refine pre_9 t ?_
    show Sp p e below T8 (mkF m 39 #[.val (.ref a1), .val (.ref a2), .val (.int (0 : Int32)), .val (.int (3 : Int32)), .val .null, .unset] [(.ref b8)]) _
    refine XS.astore X8.here hx rfl (hb hby d_jdk_42_149_39) rfl rfl (l' := #[.val (.ref a1), .val (.ref a2), .val (.int (0 : Int32)), .val (.int (3 : Int32)), .val .null, .val (.ref b8)]) rfl ?_
    show Sp p e below T8 (mkF m 41 #[.val (.ref a1), .val (.ref a2), .val (.int (0 : Int32)), .val (.int (3 : Int32)), .val .null, .val (.ref b8)] []) _
    refine XS.aloadN X8.here hx rfl (hb hby d_jdk_42_149_41) rfl rfl ?_
    refine XS.aload X8.here hx rfl (hb hby d_jdk_42_149_42) rfl rfl ?_
    refine XS.iloadN X8.here hx rfl (hb hby d_jdk_42_149_44) rfl ?_
    exact k
  obtain ⟨_, _, ⟨T11, L11, k11, n11⟩, -, X11, ⟨Lc11, hQ11, l11, y11, z11⟩, st11⟩ := Jvm.LawKit.callS X8 hx (y := (⟨"java/lang/StringUTF16", "coderFromArrayLen", "([BI)B"⟩ : MethodName)) hown (mvT hZ (own_w hw 80 rfl)) (mvT hZ (own_w hw 81 rfl)) (mvT hZ (own_w hw 75 rfl)) (mvT hZ (own_w hw 82 rfl)) (by decide) (backOf (W := 1) (rm_cfa3 l Z a0 hw [] b8 kB8 c0 c1 c2 T8.heap n0 O8 Vb8) hZ (own_w hw 82 rfl) (own_w hw 75 rfl) (by decide) (by decide)) (g := (mkF m 45 #[.val (.ref a1), .val (.ref a2), .val (.int (0 : Int32)), .val (.int (3 : Int32)), .val .null, .val (.ref b8)] [(.int (3 : Int32)), (.ref b8), (.ref a1)])) rfl (by rw [hml]; rfl) (argsL := [(.ref b8), (.int (3 : Int32))]) (rest := [(.ref a1)]) (lenOf pd_sti3_1 rfl) rfl (by show 2 * 0 + _ ≤ _; exact Nat.le_of_eq rfl) (hb hby d_jdk_42_149_45) (fun _ _ => ⟨rfl, rfl, (by decide : 1 + 0 ≤ _), (by decide : 3 + 0 ≤ _)⟩)
  dsimp only [Pt.U, Pt.locs, Pt.cells, Pt.slots] at X11 l11 y11 z11 st11 hQ11
  subst l11 y11 z11
  obtain ⟨rfl, N11q, e11⟩ := hQ11
  have N11 := Fr.app N8 N11q
  have pre_12 : ∀ t, Sp p e below T11 (mkF m 48 #[.val (.ref a1), .val (.ref a2), .val (.int (0 : Int32)), .val (.int (3 : Int32)), .val .null, .val (.ref b8)] [(.int (0 : Int32)), (.ref a1)]) t → Steps p.tables e below E0 t := fun t k => pre_10 t (st11 t k)
  obtain ⟨T13, h13, X13, e13, W13, st13⟩ := putF X11 hx hZ hown (host := "") (Or.inl (own_w hw 66 rfl)) Via.refl e11 (F2.keep K8 nin0) (E1.keep K8) (Or.inr ⟨(own_w hw 62 rfl), rfl, hnm⟩) (own_w hw 48 rfl) (ty := .byte) (by decide) rfl rfl (g := (mkF m 48 #[.val (.ref a1), .val (.ref a2), .val (.int (0 : Int32)), .val (.int (3 : Int32)), .val .null, .val (.ref b8)] [(.int (0 : Int32)), (.ref a1)])) rfl rfl (hb hby d_jdk_42_149_48)
  have Fw13 := (F2.keep K8 nin0).same W13
  have N13 := Fr.snoc X13 N11 g1
  have O13 : Old Z n0 h13 := O8.wr W13 g1
  have pre_14 : ∀ t, Sp p e below T13 (mkF m 51 #[.val (.ref a1), .val (.ref a2), .val (.int (0 : Int32)), .val (.int (3 : Int32)), .val .null, .val (.ref b8)] []) t → Steps p.tables e below E0 t := fun t k => pre_12 t (st13 t k)
  have pre_15 : ∀ t, Sp p e below T13 (mkF m 54 #[.val (.ref a1), .val (.ref a2), .val (.int (0 : Int32)), .val (.int (3 : Int32)), .val .null, .val (.ref b8)] [(.ref b8), (.ref a1)]) t → Steps p.tables e below E0 t := by
    intro t k
    refine pre_14 t ?_
    show Sp p e below T13 (mkF m 51 #[.val (.ref a1), .val (.ref a2), .val (.int (0 : Int32)), .val (.int (3 : Int32)), .val .null, .val (.ref b8)] []) _
    refine XS.aloadN X13.here hx rfl (hb hby d_jdk_42_149_51) rfl rfl ?_
    show Sp p e below T13 (mkF m 52 #[.val (.ref a1), .val (.ref a2), .val (.int (0 : Int32)), .val (.int (3 : Int32)), .val .null, .val (.ref b8)] [(.ref a1)]) _
    refine XS.aload X13.here hx rfl (hb hby d_jdk_42_149_52) rfl rfl ?_
    exact k
  obtain ⟨T16, h16, X16, e16, W16, st16⟩ := putF X13 hx hZ hown (host := "") (Or.inl (own_w hw 65 rfl)) Via.refl e13 ((F1.keep K8 nin0).other W13 (Or.inr (slot_ne (Or.inr (own_w hw 61 rfl)) (Or.inr (own_w hw 62 rfl)) (by decide) (t := (.array .byte)) (t' := .byte) (by decide) (by decide)))) ((E1.keep K8).wr W13) (Or.inr ⟨(own_w hw 61 rfl), rfl, hnm⟩) (own_w hw 48 rfl) (ty := (.array .byte)) (by decide) rfl rfl (g := (mkF m 54 #[.val (.ref a1), .val (.ref a2), .val (.int (0 : Int32)), .val (.int (3 : Int32)), .val .null, .val (.ref b8)] [(.ref b8), (.ref a1)])) rfl rfl (hb hby d_jdk_42_149_54)
  have Fw16 := ((F1.keep K8 nin0).other W13 (Or.inr (slot_ne (Or.inr (own_w hw 61 rfl)) (Or.inr (own_w hw 62 rfl)) (by decide) (t := (.array .byte)) (t' := .byte) (by decide) (by decide)))).same W16
  have N16 := Fr.snoc X16 N13 g1
  have O16 : Old Z n0 h16 := O13.wr W16 g1
  have pre_17 : ∀ t, Sp p e below T16 (mkF m 57 #[.val (.ref a1), .val (.ref a2), .val (.int (0 : Int32)), .val (.int (3 : Int32)), .val .null, .val (.ref b8)] []) t → Steps p.tables e below E0 t := fun t k => pre_15 t (st16 t k)
  obtain ⟨fs, hr, hrun, hended, hW, hsame⟩ := X16.leave (v := none) (fun _ => rfl)
  refine ⟨_, _, pre_17 _ ?_, hrun, hended, _, _, rfl, ?_, ⟨_, rfl⟩, hW, hsame.mono (by decide) (by decide)⟩
  · show Sp p e below T16 (mkF m 57 #[.val (.ref a1), .val (.ref a2), .val (.int (0 : Int32)), .val (.int (3 : Int32)), .val .null, .val (.ref b8)] []) _
    exact X16.returnOut hx Bd.returns (hb hby d_jdk_42_149_57) hr
  · show Q_sti3 Z _ _ _ _ _ _ _ _ _ h0 n0 _ T16.heap _
    rw [e16]
    exact ⟨rfl, N16, ((((Keep.refl h0 [a1]).trans K8 all0).wr W13 (Or.inl (List.mem_of_getElem? (i := 0) rfl))).wr W16 (Or.inl (List.mem_of_getElem? (i := 0) rfl))), (Fw13.other W16 (Or.inr (slot_ne (Or.inr (own_w hw 62 rfl)) (Or.inr (own_w hw 61 rfl)) (by decide) (t := .byte) (t' := (.array .byte)) (by decide) (by decide)))), b8, kB8, (Nat.le_trans (Keep.refl h0 [a1]).1 sb8), Fw16, ((Vb8.other W13 (Ne.symm (Nat.ne_of_lt (Nat.lt_of_lt_of_le E1.lt sb8)))).other W16 (Ne.symm (Nat.ne_of_lt (Nat.lt_of_lt_of_le E1.lt sb8))))⟩
theorem pn_str3 : plainName "java/lang/String" = true := by first | (simp [plainName, overriddenIn]; done) | decide +kernel
theorem pd_str3_0 : parseMethodDescriptor "([CIILjava/lang/Void;)V" = some ⟨[(.array .char), .int, .int, (.object "java/lang/Void")], none⟩ := by decide +kernel
theorem ef_str3 (m : MethodId) (a1 : Addr) (a2 : Addr) : entryFrame m #[(.ref a1), (.ref a2)] 2 = (mkF m 0 #[.val (.ref a1), .val (.ref a2)] []) := by first | (simp [entryFrame, mkF, argsToLocals, Value.category]; done) | rfl
def Q_str3 (Z : State) (a1 : Addr) (a2 : Addr) (u1 u2 : Value) (G1 : Int32) (kC : ClassId) (c0 c1 c2 : Int32) (h0 : Heap) (n0 : Nat) (v : Option Value) (h : Heap) (L : List Loc) : Prop := v = none ∧ Fr n0 L ∧ Keep h0 h [a1] ∧ Fld Z h a1 "java/lang/String" "coder" "B" (.int (0 : Int32)) ∧ ∃ b kB, h0.size ≤ b ∧ Fld Z h a1 "java/lang/String" "value" "[B" (.ref b) ∧ Arv Z h b kB .byte (3 : Int32) [(.int (c0).toInt8.toInt32), (.int (c1).toInt8.toInt32), (.int (c2).toInt8.toInt32)] (.int (0 : Int32))
set_option maxRecDepth 65536 in
set_option maxHeartbeats 40000000 in
theorem rm_str3 (l : Launch) (Z : State) (a0 : Array Value) (hw : ∀ d ∈ tables_1, d.before a0 Z = true) (ws : List Jvm.Cond) (a1 : Addr) (a2 : Addr) (u1 u2 : Value) (G1 : Int32) (kC : ClassId) (c0 c1 c2 : Int32) (h0 : Heap) (n0 : Nat) (O0 : Old Z n0 h0) (E1 : Exa Z h0 a1 "java/lang/String") (F1 : Fld Z h0 a1 "java/lang/String" "value" "[B" u1) (F2 : Fld Z h0 a1 "java/lang/String" "coder" "B" u2) (g1 : n0 ≤ a1) (SC : Sta Z Z.heap "java/lang/String" "COMPACT_STRINGS" "Z" (.int G1)) (hG : ¬ G1 = (0 : Int32)) (VC : Arv Z h0 a2 kC .char (3 : Int32) [(.int c0), (.int c1), (.int c2)] (.int (0 : Int32))) (hc0 : ¬ (255 : Int32) < c0) (hc1 : ¬ (255 : Int32) < c1) (hc2 : ¬ (255 : Int32) < c2) :
    MetFree l (⟨"java/lang/String", "<init>", "([C)V"⟩ : MethodName) (head1 (Jvm.Cond.code (⟨"java/lang/String", "<init>", "([C)V"⟩ : MethodName) jdk_42_method_3_code 2 none :: ws) ({ frames := 3, cells := 1, slots := 3, locals := 53 } : Room)) (fun a U => a = #[(.ref a1), (.ref a2)] ∧ Z.Warmed39 U.vm ∧ U.heap = h0) (fun _ _ _ _ _ => True) (fun _ U o U' => ∃ v L, o = .returned v ∧ Q_str3 Z a1 a2 u1 u2 G1 kC c0 c1 c2 h0 n0 v U'.heap L ∧ FrameEnd U o U' L ({ frames := 3, cells := 1, slots := 3, locals := 53 } : Room).cells ({ frames := 3, cells := 1, slots := 3, locals := 53 } : Room).slots) := by
  refine MetFree.of_bodySF (plainFor_of_name pn_str3) hisR ?_
  intro p e s m args below meth c s₁ Bd hml0 hP hK
  obtain ⟨rfl, hZ, hh⟩ := hP
  have hx := Bd.exec
  have hby := Bd.bytes
  have hml : c.maxLocals = 2 := hml0
  have hown : s.vm.findClass "java/lang/String" = some m.cls := findClass_of_methodNamed Bd.named
  have hnm := (name_of_methodNamed Bd.named Bd.method).1
  have X0 : Stand p l e ({ frames := 3, cells := 1, slots := 3, locals := 53 } : Room) s m #[(.ref a1), (.ref a2)] below meth c s₁ [] 0 0 := Stand.of_body Bd
  have e0 : s₁.heap = h0 := by rw [← hh, Bd.state]; rfl
  have N0 := Fr.nil n0
  have pre0 : ∀ t, Steps p.tables e below (s₁.setTop (mkF m 0 #[.val (.ref a1), .val (.ref a2)] [])) t → Steps p.tables e below (s₁.setTop (entryFrame m #[(.ref a1), (.ref a2)] 2)) t := fun t k => castTop (ef_str3 m a1 a2) k
  generalize s₁.setTop (entryFrame m #[(.ref a1), (.ref a2)] 2) = E0 at pre0 ⊢
  have pre_2 : ∀ t, Sp p e below s₁ (mkF m 6 #[.val (.ref a1), .val (.ref a2)] [.null, (.int (3 : Int32)), (.int (0 : Int32)), (.ref a2), (.ref a1)]) t → Steps p.tables e below E0 t := by
    intro t k
    refine pre0 t ?_
    show Sp p e below s₁ (mkF m 0 #[.val (.ref a1), .val (.ref a2)] []) _
    refine XS.aloadN X0.here hx rfl (hb hby d_jdk_42_3_0) rfl rfl ?_
    refine XS.aloadN X0.here hx rfl (hb hby d_jdk_42_3_1) rfl rfl ?_
    refine XS.iconst X0.here hx rfl (hb hby d_jdk_42_3_2) ?_
    refine XS.aloadN X0.here hx rfl (hb hby d_jdk_42_3_3) rfl rfl ?_
    show Sp p e below s₁ (mkF m 4 #[.val (.ref a1), .val (.ref a2)] [(.ref a2), (.int (0 : Int32)), (.ref a2), (.ref a1)]) _
    obtain ⟨cl1, Ar1, -, S1, M1, -, -⟩ := id VC
    refine X0.arraylength hx (cell := cl1) (by rw [e0]; exact Ar1.1) (State.isArrayOf_alike hZ.alike Ar1.2.1) (g := (mkF m 4 #[.val (.ref a1), .val (.ref a2)] [(.ref a2), (.int (0 : Int32)), (.ref a2), (.ref a1)])) rfl (rest := [(.int (0 : Int32)), (.ref a2), (.ref a1)]) rfl (hb hby d_jdk_42_3_4) _ ?_
    rw [len_of S1 M1]
    show Sp p e below s₁ (mkF m 5 #[.val (.ref a1), .val (.ref a2)] [(.int (3 : Int32)), (.int (0 : Int32)), (.ref a2), (.ref a1)]) _
    refine XS.aconstNull X0.here hx rfl (hb hby d_jdk_42_3_5) ?_
    exact k
  obtain ⟨_, _, ⟨T3, L3, k3, n3⟩, -, X3, ⟨Lc3, hQ3, l3, y3, z3⟩, st3⟩ := X0.specialBack hx (y := (⟨"java/lang/String", "<init>", "([CIILjava/lang/Void;)V"⟩ : MethodName)) rfl hown (mvT hZ (own_w hw 54 rfl)) (mvT hZ (own_w hw 55 rfl)) (mvT hZ (own_w hw 57 rfl)) (by decide) (backOf (W := 0) (rm_sti3 l Z a0 hw [] a1 a2 u1 u2 G1 kC c0 c1 c2 h0 n0 O0 E1 F1 F2 g1 SC hG VC hc0 hc1 hc2) hZ (own_w hw 57 rfl) (own_w hw 49 rfl) (by decide) (by decide)) (g := (mkF m 6 #[.val (.ref a1), .val (.ref a2)] [.null, (.int (3 : Int32)), (.int (0 : Int32)), (.ref a2), (.ref a1)])) rfl (by rw [hml]; rfl) (Steps.refl _) (a := a1) (argsL := [(.ref a2), (.int (0 : Int32)), (.int (3 : Int32)), .null]) (rest := []) (lenOf pd_str3_0 rfl) rfl (by show 2 * 0 + _ ≤ _; exact Nat.le_of_eq rfl) (hb hby d_jdk_42_3_6) (fun _ _ => ⟨rfl, e0, (by decide : 0 + 1 ≤ _), (by decide : 0 + 3 ≤ _)⟩)
  dsimp only [Pt.U, Pt.locs, Pt.cells, Pt.slots] at X3 l3 y3 z3 st3 hQ3
  subst l3 y3 z3
  obtain ⟨rfl, N3q, K3, Fc3, b3, kB3, sb3, Fv3, Vb3⟩ := hQ3
  have N3 := Fr.app N0 N3q
  have O3 : Old Z n0 T3.heap := O0.keep K3 (allS g1 all0)
  have pre_4 : ∀ t, Sp p e below T3 (mkF m 9 #[.val (.ref a1), .val (.ref a2)] []) t → Steps p.tables e below E0 t := fun t k => pre_2 t (st3.trans k)
  obtain ⟨fs, hr, hrun, hended, hW, hsame⟩ := X3.leave (v := none) (fun _ => rfl)
  refine ⟨_, _, pre_4 _ ?_, hrun, hended, _, _, rfl, ?_, ⟨_, rfl⟩, hW, hsame.mono (by decide) (by decide)⟩
  · show Sp p e below T3 (mkF m 9 #[.val (.ref a1), .val (.ref a2)] []) _
    exact X3.returnOut hx Bd.returns (hb hby d_jdk_42_3_9) hr
  · show Q_str3 Z _ _ _ _ _ _ _ _ _ h0 n0 _ T3.heap _
    exact ⟨rfl, N3, ((Keep.refl h0 [a1]).trans K3 (allS (Or.inl (List.mem_of_getElem? (i := 0) rfl)) all0)), Fc3, b3, kB3, sb3, Fv3, Vb3⟩
theorem pn_cmpa4 : plainName "java/lang/StringUTF16" = true := by first | (simp [plainName, overriddenIn]; done) | decide +kernel
theorem ef_cmpa4 (m : MethodId) (a1 : Addr) (a3 : Addr) : entryFrame m #[(.ref a1), (.int (0 : Int32)), (.ref a3), (.int (0 : Int32)), (.int (4 : Int32))] 7 = (mkF m 0 #[.val (.ref a1), .val (.int (0 : Int32)), .val (.ref a3), .val (.int (0 : Int32)), .val (.int (4 : Int32)), .unset, .unset] []) := by first | (simp [entryFrame, mkF, argsToLocals, Value.category]; done) | rfl
def Q_cmpa4 (Z : State) (a1 : Addr) (a3 : Addr) (kC kB : ClassId) (c0 c1 c2 c3 : Int32) (h0 : Heap) (n0 : Nat) (v : Option Value) (h : Heap) (L : List Loc) : Prop := v = some (.int (4 : Int32)) ∧ Fr n0 L ∧ Keep h0 h [a3] ∧ Arv Z h a3 kB .byte (4 : Int32) [(.int (c0).toInt8.toInt32), (.int (c1).toInt8.toInt32), (.int (c2).toInt8.toInt32), (.int (c3).toInt8.toInt32)] (.int (0 : Int32))
set_option maxRecDepth 65536 in
set_option maxHeartbeats 40000000 in
theorem rm_cmpa4 (l : Launch) (Z : State) (a0 : Array Value) (hw : ∀ d ∈ tables_1, d.before a0 Z = true) (ws : List Jvm.Cond) (a1 : Addr) (a3 : Addr) (kC kB : ClassId) (c0 c1 c2 c3 : Int32) (h0 : Heap) (n0 : Nat) (O0 : Old Z n0 h0) (VC : Arv Z h0 a1 kC .char (4 : Int32) [(.int c0), (.int c1), (.int c2), (.int c3)] (.int (0 : Int32))) (VB : Arv Z h0 a3 kB .byte (4 : Int32) [(.int (0 : Int32)), (.int (0 : Int32)), (.int (0 : Int32)), (.int (0 : Int32))] (.int (0 : Int32))) (g3 : n0 ≤ a3) (ne13 : a1 ≠ a3) (hc0 : ¬ (255 : Int32) < c0) (hc1 : ¬ (255 : Int32) < c1) (hc2 : ¬ (255 : Int32) < c2) (hc3 : ¬ (255 : Int32) < c3) :
    MetFree l (⟨"java/lang/StringUTF16", "compress", "([CI[BII)I"⟩ : MethodName) (head1 (Jvm.Cond.code (⟨"java/lang/StringUTF16", "compress", "([CI[BII)I"⟩ : MethodName) jdk_52_method_21_code 7 (some .int) :: ws) ({ frames := 0, cells := 0, slots := 0, locals := 0 } : Room)) (fun a U => a = #[(.ref a1), (.int (0 : Int32)), (.ref a3), (.int (0 : Int32)), (.int (4 : Int32))] ∧ Z.Warmed39 U.vm ∧ U.heap = h0) (fun _ _ _ _ _ => True) (fun _ U o U' => ∃ v L, o = .returned v ∧ Q_cmpa4 Z a1 a3 kC kB c0 c1 c2 c3 h0 n0 v U'.heap L ∧ FrameEnd U o U' L ({ frames := 0, cells := 0, slots := 0, locals := 0 } : Room).cells ({ frames := 0, cells := 0, slots := 0, locals := 0 } : Room).slots) := by
  refine MetFree.of_bodySF (plainFor_of_name pn_cmpa4) hisR ?_
  intro p e s m args below meth c s₁ Bd hml0 hP hK
  obtain ⟨rfl, hZ, hh⟩ := hP
  have hx := Bd.exec
  have hby := Bd.bytes
  have hml : c.maxLocals = 7 := hml0
  have hown : s.vm.findClass "java/lang/StringUTF16" = some m.cls := findClass_of_methodNamed Bd.named
  have hnm := (name_of_methodNamed Bd.named Bd.method).1
  have X0 : Stand p l e ({ frames := 0, cells := 0, slots := 0, locals := 0 } : Room) s m #[(.ref a1), (.int (0 : Int32)), (.ref a3), (.int (0 : Int32)), (.int (4 : Int32))] below meth c s₁ [] 0 0 := Stand.of_body Bd
  have e0 : s₁.heap = h0 := by rw [← hh, Bd.state]; rfl
  have N0 := Fr.nil n0
  have pre0 : ∀ t, Steps p.tables e below (s₁.setTop (mkF m 0 #[.val (.ref a1), .val (.int (0 : Int32)), .val (.ref a3), .val (.int (0 : Int32)), .val (.int (4 : Int32)), .unset, .unset] [])) t → Steps p.tables e below (s₁.setTop (entryFrame m #[(.ref a1), (.int (0 : Int32)), (.ref a3), (.int (0 : Int32)), (.int (4 : Int32))] 7)) t := fun t k => castTop (ef_cmpa4 m a1 a3) k
  generalize s₁.setTop (entryFrame m #[(.ref a1), (.int (0 : Int32)), (.ref a3), (.int (0 : Int32)), (.int (4 : Int32))] 7) = E0 at pre0 ⊢
  have pre_2 : ∀ t, Sp p e below s₁ (mkF m 31 #[.val (.ref a1), .val (.int (0 : Int32)), .val (.ref a3), .val (.int (0 : Int32)), .val (.int (4 : Int32)), .val (.int (0 : Int32)), .val (.int c0)] [(.int ((c0).toInt8.toInt32)), (.int (0 : Int32)), (.ref a3)]) t → Steps p.tables e below E0 t := by
    intro t k
    refine pre0 t ?_
    show Sp p e below s₁ (mkF m 0 #[.val (.ref a1), .val (.int (0 : Int32)), .val (.ref a3), .val (.int (0 : Int32)), .val (.int (4 : Int32)), .unset, .unset] []) _
    refine XS.iconst X0.here hx rfl (hb hby d_jdk_52_21_0) ?_
    refine XS.istore X0.here hx rfl (hb hby d_jdk_52_21_1) rfl (l' := #[.val (.ref a1), .val (.int (0 : Int32)), .val (.ref a3), .val (.int (0 : Int32)), .val (.int (4 : Int32)), .val (.int (0 : Int32)), .unset]) rfl ?_
    refine XS.iload X0.here hx rfl (hb hby d_jdk_52_21_3) rfl ?_
    refine XS.iload X0.here hx rfl (hb hby d_jdk_52_21_5) rfl ?_
    show Sp p e below s₁ (mkF m 7 #[.val (.ref a1), .val (.int (0 : Int32)), .val (.ref a3), .val (.int (0 : Int32)), .val (.int (4 : Int32)), .val (.int (0 : Int32)), .unset] [(.int (4 : Int32)), (.int (0 : Int32))]) _
    refine XS.icmpNo X0.here hx rfl (hb hby d_jdk_52_21_7) rfl (XT.ii_ge_f (by decide)) ?_
    refine XS.aloadN X0.here hx rfl (hb hby d_jdk_52_21_10) rfl rfl ?_
    refine XS.iloadN X0.here hx rfl (hb hby d_jdk_52_21_11) rfl ?_
    obtain ⟨cl1, Ar1, -, S1, -, H1, -⟩ := id VC
    have hin1 : ¬ ((0 : Int32) < 0 ∨ cl1.slots.size ≤ ((0 : Int32)).toNatClampNeg) := inb_of S1 (by decide)
    refine X0.caload hx (j := (0 : Int32)) (v := (.int c0)) (by rw [e0]; exact Ar1.1) (State.isArrayOf_alike hZ.alike Ar1.2.1) Ar1.2.2 hin1 (H1.at hin1 rfl) (g := (mkF m 12 #[.val (.ref a1), .val (.int (0 : Int32)), .val (.ref a3), .val (.int (0 : Int32)), .val (.int (4 : Int32)), .val (.int (0 : Int32)), .unset] [(.int (0 : Int32)), (.ref a1)])) rfl rfl (hb hby d_jdk_52_21_12) _ ?_
    show Sp p e below s₁ (mkF m 13 #[.val (.ref a1), .val (.int (0 : Int32)), .val (.ref a3), .val (.int (0 : Int32)), .val (.int (4 : Int32)), .val (.int (0 : Int32)), .unset] [(.int c0)]) _
    refine XS.istore X0.here hx rfl (hb hby d_jdk_52_21_13) rfl (l' := #[.val (.ref a1), .val (.int (0 : Int32)), .val (.ref a3), .val (.int (0 : Int32)), .val (.int (4 : Int32)), .val (.int (0 : Int32)), .val (.int c0)]) rfl ?_
    refine XS.iload X0.here hx rfl (hb hby d_jdk_52_21_15) rfl ?_
    refine XS.sipush X0.here hx rfl (hb hby d_jdk_52_21_17) ?_
    refine XS.icmpYes X0.here hx rfl (pc0 := 20) (pc' := 26) rfl (hb hby d_jdk_52_21_20) rfl (XT.ii_le_t hc0) (by decide) (by decide) ?_
    show Sp p e below s₁ (mkF m 26 #[.val (.ref a1), .val (.int (0 : Int32)), .val (.ref a3), .val (.int (0 : Int32)), .val (.int (4 : Int32)), .val (.int (0 : Int32)), .val (.int c0)] []) _
    refine XS.aloadN X0.here hx rfl (hb hby d_jdk_52_21_26) rfl rfl ?_
    refine XS.iloadN X0.here hx rfl (hb hby d_jdk_52_21_27) rfl ?_
    refine XS.iload X0.here hx rfl (hb hby d_jdk_52_21_28) rfl ?_
    refine XT.i2b X0.here hx rfl (hb hby d_jdk_52_21_30) rfl ?_
    show Sp p e below s₁ (mkF m 31 #[.val (.ref a1), .val (.int (0 : Int32)), .val (.ref a3), .val (.int (0 : Int32)), .val (.int (4 : Int32)), .val (.int (0 : Int32)), .val (.int c0)] [(.int ((c0).toInt8.toInt32)), (.int (0 : Int32)), (.ref a3)]) _
    exact k
  obtain ⟨cl3, Ar3, q3, S3, M3, H3, G3⟩ := id VB
  obtain ⟨T3, h3, X3, e3, W3, st3⟩ := stB X0 hx hZ e0 Ar3 (j := (0 : Int32)) (inb_of S3 (by decide)) (g := (mkF m 31 #[.val (.ref a1), .val (.int (0 : Int32)), .val (.ref a3), .val (.int (0 : Int32)), .val (.int (4 : Int32)), .val (.int (0 : Int32)), .val (.int c0)] [(.int ((c0).toInt8.toInt32)), (.int (0 : Int32)), (.ref a3)])) rfl rfl (hb hby d_jdk_52_21_31)
  have N3 := Fr.snoc X3 N0 g3
  have O3 : Old Z n0 h3 := O0.wr W3 g3
  rw [(own_nb c0)] at W3
  have V3 : Arv Z h3 a3 kB .byte (4 : Int32) [(.int ((c0).toInt8.toInt32)), (.int (0 : Int32)), (.int (0 : Int32)), (.int (0 : Int32))] (.int (0 : Int32)) := Arv.set Ar3 q3 S3 M3 H3 G3 (by rw [← (own_nb c0)]; exact (fits_nar_byte _)) W3 0 rfl (Nat.le_of_ble_eq_true rfl)
  have pre_4 : ∀ t, Sp p e below T3 (mkF m 32 #[.val (.ref a1), .val (.int (0 : Int32)), .val (.ref a3), .val (.int (0 : Int32)), .val (.int (4 : Int32)), .val (.int (0 : Int32)), .val (.int c0)] []) t → Steps p.tables e below E0 t := fun t k => pre_2 t (st3 t k)
  have pre_6 : ∀ t, Sp p e below T3 (mkF m 31 #[.val (.ref a1), .val (.int (1 : Int32)), .val (.ref a3), .val (.int (1 : Int32)), .val (.int (4 : Int32)), .val (.int (1 : Int32)), .val (.int c1)] [(.int ((c1).toInt8.toInt32)), (.int (1 : Int32)), (.ref a3)]) t → Steps p.tables e below E0 t := by
    intro t k
    refine pre_4 t ?_
    show Sp p e below T3 (mkF m 32 #[.val (.ref a1), .val (.int (0 : Int32)), .val (.ref a3), .val (.int (0 : Int32)), .val (.int (4 : Int32)), .val (.int (0 : Int32)), .val (.int c0)] []) _
    refine XS.iinc X3.here hx rfl (hb hby d_jdk_52_21_32) rfl (l' := #[.val (.ref a1), .val (.int (1 : Int32)), .val (.ref a3), .val (.int (0 : Int32)), .val (.int (4 : Int32)), .val (.int (0 : Int32)), .val (.int c0)]) rfl ?_
    refine XS.iinc X3.here hx rfl (hb hby d_jdk_52_21_35) rfl (l' := #[.val (.ref a1), .val (.int (1 : Int32)), .val (.ref a3), .val (.int (1 : Int32)), .val (.int (4 : Int32)), .val (.int (0 : Int32)), .val (.int c0)]) rfl ?_
    refine XS.iinc X3.here hx rfl (hb hby d_jdk_52_21_38) rfl (l' := #[.val (.ref a1), .val (.int (1 : Int32)), .val (.ref a3), .val (.int (1 : Int32)), .val (.int (4 : Int32)), .val (.int (1 : Int32)), .val (.int c0)]) rfl ?_
    refine XS.goto X3.here hx rfl (pc0 := 41) (pc' := 3) rfl (hb hby d_jdk_52_21_41) (by decide) (by decide) ?_
    show Sp p e below T3 (mkF m 3 #[.val (.ref a1), .val (.int (1 : Int32)), .val (.ref a3), .val (.int (1 : Int32)), .val (.int (4 : Int32)), .val (.int (1 : Int32)), .val (.int c0)] []) _
    refine XS.iload X3.here hx rfl (hb hby d_jdk_52_21_3) rfl ?_
    refine XS.iload X3.here hx rfl (hb hby d_jdk_52_21_5) rfl ?_
    refine XS.icmpNo X3.here hx rfl (hb hby d_jdk_52_21_7) rfl (XT.ii_ge_f (by decide)) ?_
    refine XS.aloadN X3.here hx rfl (hb hby d_jdk_52_21_10) rfl rfl ?_
    show Sp p e below T3 (mkF m 11 #[.val (.ref a1), .val (.int (1 : Int32)), .val (.ref a3), .val (.int (1 : Int32)), .val (.int (4 : Int32)), .val (.int (1 : Int32)), .val (.int c0)] [(.ref a1)]) _
    refine XS.iloadN X3.here hx rfl (hb hby d_jdk_52_21_11) rfl ?_
    obtain ⟨cl5, Ar5, -, S5, -, H5, -⟩ := id (VC.other W3 ne13)
    have hin5 : ¬ ((1 : Int32) < 0 ∨ cl5.slots.size ≤ ((1 : Int32)).toNatClampNeg) := inb_of S5 (by decide)
    refine X3.caload hx (j := (1 : Int32)) (v := (.int c1)) (by rw [e3]; exact Ar5.1) (State.isArrayOf_alike hZ.alike Ar5.2.1) Ar5.2.2 hin5 (H5.at hin5 rfl) (g := (mkF m 12 #[.val (.ref a1), .val (.int (1 : Int32)), .val (.ref a3), .val (.int (1 : Int32)), .val (.int (4 : Int32)), .val (.int (1 : Int32)), .val (.int c0)] [(.int (1 : Int32)), (.ref a1)])) rfl rfl (hb hby d_jdk_52_21_12) _ ?_
    refine XS.istore X3.here hx rfl (hb hby d_jdk_52_21_13) rfl (l' := #[.val (.ref a1), .val (.int (1 : Int32)), .val (.ref a3), .val (.int (1 : Int32)), .val (.int (4 : Int32)), .val (.int (1 : Int32)), .val (.int c1)]) rfl ?_
    refine XS.iload X3.here hx rfl (hb hby d_jdk_52_21_15) rfl ?_
    show Sp p e below T3 (mkF m 17 #[.val (.ref a1), .val (.int (1 : Int32)), .val (.ref a3), .val (.int (1 : Int32)), .val (.int (4 : Int32)), .val (.int (1 : Int32)), .val (.int c1)] [(.int c1)]) _
    refine XS.sipush X3.here hx rfl (hb hby d_jdk_52_21_17) ?_
    refine XS.icmpYes X3.here hx rfl (pc0 := 20) (pc' := 26) rfl (hb hby d_jdk_52_21_20) rfl (XT.ii_le_t hc1) (by decide) (by decide) ?_
    refine XS.aloadN X3.here hx rfl (hb hby d_jdk_52_21_26) rfl rfl ?_
    refine XS.iloadN X3.here hx rfl (hb hby d_jdk_52_21_27) rfl ?_
    show Sp p e below T3 (mkF m 28 #[.val (.ref a1), .val (.int (1 : Int32)), .val (.ref a3), .val (.int (1 : Int32)), .val (.int (4 : Int32)), .val (.int (1 : Int32)), .val (.int c1)] [(.int (1 : Int32)), (.ref a3)]) _
    refine XS.iload X3.here hx rfl (hb hby d_jdk_52_21_28) rfl ?_
    refine XT.i2b X3.here hx rfl (hb hby d_jdk_52_21_30) rfl ?_
    exact k
  obtain ⟨cl7, Ar7, q7, S7, M7, H7, G7⟩ := id V3
  obtain ⟨T7, h7, X7, e7, W7, st7⟩ := stB X3 hx hZ e3 Ar7 (j := (1 : Int32)) (inb_of S7 (by decide)) (g := (mkF m 31 #[.val (.ref a1), .val (.int (1 : Int32)), .val (.ref a3), .val (.int (1 : Int32)), .val (.int (4 : Int32)), .val (.int (1 : Int32)), .val (.int c1)] [(.int ((c1).toInt8.toInt32)), (.int (1 : Int32)), (.ref a3)])) rfl rfl (hb hby d_jdk_52_21_31)
  have N7 := Fr.snoc X7 N3 g3
  have O7 : Old Z n0 h7 := O3.wr W7 g3
  rw [(own_nb c1)] at W7
  have V7 : Arv Z h7 a3 kB .byte (4 : Int32) [(.int ((c0).toInt8.toInt32)), (.int ((c1).toInt8.toInt32)), (.int (0 : Int32)), (.int (0 : Int32))] (.int (0 : Int32)) := Arv.set Ar7 q7 S7 M7 H7 G7 (by rw [← (own_nb c1)]; exact (fits_nar_byte _)) W7 1 rfl (Nat.le_of_ble_eq_true rfl)
  have pre_8 : ∀ t, Sp p e below T7 (mkF m 32 #[.val (.ref a1), .val (.int (1 : Int32)), .val (.ref a3), .val (.int (1 : Int32)), .val (.int (4 : Int32)), .val (.int (1 : Int32)), .val (.int c1)] []) t → Steps p.tables e below E0 t := fun t k => pre_6 t (st7 t k)
  have pre_10 : ∀ t, Sp p e below T7 (mkF m 31 #[.val (.ref a1), .val (.int (2 : Int32)), .val (.ref a3), .val (.int (2 : Int32)), .val (.int (4 : Int32)), .val (.int (2 : Int32)), .val (.int c2)] [(.int ((c2).toInt8.toInt32)), (.int (2 : Int32)), (.ref a3)]) t → Steps p.tables e below E0 t := by
    intro t k
    refine pre_8 t ?_
    show Sp p e below T7 (mkF m 32 #[.val (.ref a1), .val (.int (1 : Int32)), .val (.ref a3), .val (.int (1 : Int32)), .val (.int (4 : Int32)), .val (.int (1 : Int32)), .val (.int c1)] []) _
    refine XS.iinc X7.here hx rfl (hb hby d_jdk_52_21_32) rfl (l' := #[.val (.ref a1), .val (.int (2 : Int32)), .val (.ref a3), .val (.int (1 : Int32)), .val (.int (4 : Int32)), .val (.int (1 : Int32)), .val (.int c1)]) rfl ?_
    refine XS.iinc X7.here hx rfl (hb hby d_jdk_52_21_35) rfl (l' := #[.val (.ref a1), .val (.int (2 : Int32)), .val (.ref a3), .val (.int (2 : Int32)), .val (.int (4 : Int32)), .val (.int (1 : Int32)), .val (.int c1)]) rfl ?_
    show Sp p e below T7 (mkF m 38 #[.val (.ref a1), .val (.int (2 : Int32)), .val (.ref a3), .val (.int (2 : Int32)), .val (.int (4 : Int32)), .val (.int (1 : Int32)), .val (.int c1)] []) _
    refine XS.iinc X7.here hx rfl (hb hby d_jdk_52_21_38) rfl (l' := #[.val (.ref a1), .val (.int (2 : Int32)), .val (.ref a3), .val (.int (2 : Int32)), .val (.int (4 : Int32)), .val (.int (2 : Int32)), .val (.int c1)]) rfl ?_
    refine XS.goto X7.here hx rfl (pc0 := 41) (pc' := 3) rfl (hb hby d_jdk_52_21_41) (by decide) (by decide) ?_
    refine XS.iload X7.here hx rfl (hb hby d_jdk_52_21_3) rfl ?_
    refine XS.iload X7.here hx rfl (hb hby d_jdk_52_21_5) rfl ?_
    show Sp p e below T7 (mkF m 7 #[.val (.ref a1), .val (.int (2 : Int32)), .val (.ref a3), .val (.int (2 : Int32)), .val (.int (4 : Int32)), .val (.int (2 : Int32)), .val (.int c1)] [(.int (4 : Int32)), (.int (2 : Int32))]) _
    refine XS.icmpNo X7.here hx rfl (hb hby d_jdk_52_21_7) rfl (XT.ii_ge_f (by decide)) ?_
    refine XS.aloadN X7.here hx rfl (hb hby d_jdk_52_21_10) rfl rfl ?_
    refine XS.iloadN X7.here hx rfl (hb hby d_jdk_52_21_11) rfl ?_
    obtain ⟨cl9, Ar9, -, S9, -, H9, -⟩ := id ((VC.other W3 ne13).other W7 ne13)
    have hin9 : ¬ ((2 : Int32) < 0 ∨ cl9.slots.size ≤ ((2 : Int32)).toNatClampNeg) := inb_of S9 (by decide)
    refine X7.caload hx (j := (2 : Int32)) (v := (.int c2)) (by rw [e7]; exact Ar9.1) (State.isArrayOf_alike hZ.alike Ar9.2.1) Ar9.2.2 hin9 (H9.at hin9 rfl) (g := (mkF m 12 #[.val (.ref a1), .val (.int (2 : Int32)), .val (.ref a3), .val (.int (2 : Int32)), .val (.int (4 : Int32)), .val (.int (2 : Int32)), .val (.int c1)] [(.int (2 : Int32)), (.ref a1)])) rfl rfl (hb hby d_jdk_52_21_12) _ ?_
    show Sp p e below T7 (mkF m 13 #[.val (.ref a1), .val (.int (2 : Int32)), .val (.ref a3), .val (.int (2 : Int32)), .val (.int (4 : Int32)), .val (.int (2 : Int32)), .val (.int c1)] [(.int c2)]) _
    refine XS.istore X7.here hx rfl (hb hby d_jdk_52_21_13) rfl (l' := #[.val (.ref a1), .val (.int (2 : Int32)), .val (.ref a3), .val (.int (2 : Int32)), .val (.int (4 : Int32)), .val (.int (2 : Int32)), .val (.int c2)]) rfl ?_
    refine XS.iload X7.here hx rfl (hb hby d_jdk_52_21_15) rfl ?_
    refine XS.sipush X7.here hx rfl (hb hby d_jdk_52_21_17) ?_
    refine XS.icmpYes X7.here hx rfl (pc0 := 20) (pc' := 26) rfl (hb hby d_jdk_52_21_20) rfl (XT.ii_le_t hc2) (by decide) (by decide) ?_
    show Sp p e below T7 (mkF m 26 #[.val (.ref a1), .val (.int (2 : Int32)), .val (.ref a3), .val (.int (2 : Int32)), .val (.int (4 : Int32)), .val (.int (2 : Int32)), .val (.int c2)] []) _
    refine XS.aloadN X7.here hx rfl (hb hby d_jdk_52_21_26) rfl rfl ?_
    refine XS.iloadN X7.here hx rfl (hb hby d_jdk_52_21_27) rfl ?_
    refine XS.iload X7.here hx rfl (hb hby d_jdk_52_21_28) rfl ?_
    refine XT.i2b X7.here hx rfl (hb hby d_jdk_52_21_30) rfl ?_
    show Sp p e below T7 (mkF m 31 #[.val (.ref a1), .val (.int (2 : Int32)), .val (.ref a3), .val (.int (2 : Int32)), .val (.int (4 : Int32)), .val (.int (2 : Int32)), .val (.int c2)] [(.int ((c2).toInt8.toInt32)), (.int (2 : Int32)), (.ref a3)]) _
    exact k
  obtain ⟨cl11, Ar11, q11, S11, M11, H11, G11⟩ := id V7
  obtain ⟨T11, h11, X11, e11, W11, st11⟩ := stB X7 hx hZ e7 Ar11 (j := (2 : Int32)) (inb_of S11 (by decide)) (g := (mkF m 31 #[.val (.ref a1), .val (.int (2 : Int32)), .val (.ref a3), .val (.int (2 : Int32)), .val (.int (4 : Int32)), .val (.int (2 : Int32)), .val (.int c2)] [(.int ((c2).toInt8.toInt32)), (.int (2 : Int32)), (.ref a3)])) rfl rfl (hb hby d_jdk_52_21_31)
  have N11 := Fr.snoc X11 N7 g3
  have O11 : Old Z n0 h11 := O7.wr W11 g3
  rw [(own_nb c2)] at W11
  have V11 : Arv Z h11 a3 kB .byte (4 : Int32) [(.int ((c0).toInt8.toInt32)), (.int ((c1).toInt8.toInt32)), (.int ((c2).toInt8.toInt32)), (.int (0 : Int32))] (.int (0 : Int32)) := Arv.set Ar11 q11 S11 M11 H11 G11 (by rw [← (own_nb c2)]; exact (fits_nar_byte _)) W11 2 rfl (Nat.le_of_ble_eq_true rfl)
  have pre_12 : ∀ t, Sp p e below T11 (mkF m 32 #[.val (.ref a1), .val (.int (2 : Int32)), .val (.ref a3), .val (.int (2 : Int32)), .val (.int (4 : Int32)), .val (.int (2 : Int32)), .val (.int c2)] []) t → Steps p.tables e below E0 t := fun t k => pre_10 t (st11 t k)
  have pre_14 : ∀ t, Sp p e below T11 (mkF m 31 #[.val (.ref a1), .val (.int (3 : Int32)), .val (.ref a3), .val (.int (3 : Int32)), .val (.int (4 : Int32)), .val (.int (3 : Int32)), .val (.int c3)] [(.int ((c3).toInt8.toInt32)), (.int (3 : Int32)), (.ref a3)]) t → Steps p.tables e below E0 t := by
    intro t k
    refine pre_12 t ?_
    show Sp p e below T11 (mkF m 32 #[.val (.ref a1), .val (.int (2 : Int32)), .val (.ref a3), .val (.int (2 : Int32)), .val (.int (4 : Int32)), .val (.int (2 : Int32)), .val (.int c2)] []) _
    refine XS.iinc X11.here hx rfl (hb hby d_jdk_52_21_32) rfl (l' := #[.val (.ref a1), .val (.int (3 : Int32)), .val (.ref a3), .val (.int (2 : Int32)), .val (.int (4 : Int32)), .val (.int (2 : Int32)), .val (.int c2)]) rfl ?_
    refine XS.iinc X11.here hx rfl (hb hby d_jdk_52_21_35) rfl (l' := #[.val (.ref a1), .val (.int (3 : Int32)), .val (.ref a3), .val (.int (3 : Int32)), .val (.int (4 : Int32)), .val (.int (2 : Int32)), .val (.int c2)]) rfl ?_
    refine XS.iinc X11.here hx rfl (hb hby d_jdk_52_21_38) rfl (l' := #[.val (.ref a1), .val (.int (3 : Int32)), .val (.ref a3), .val (.int (3 : Int32)), .val (.int (4 : Int32)), .val (.int (3 : Int32)), .val (.int c2)]) rfl ?_
    refine XS.goto X11.here hx rfl (pc0 := 41) (pc' := 3) rfl (hb hby d_jdk_52_21_41) (by decide) (by decide) ?_
    show Sp p e below T11 (mkF m 3 #[.val (.ref a1), .val (.int (3 : Int32)), .val (.ref a3), .val (.int (3 : Int32)), .val (.int (4 : Int32)), .val (.int (3 : Int32)), .val (.int c2)] []) _
    refine XS.iload X11.here hx rfl (hb hby d_jdk_52_21_3) rfl ?_
    refine XS.iload X11.here hx rfl (hb hby d_jdk_52_21_5) rfl ?_
    refine XS.icmpNo X11.here hx rfl (hb hby d_jdk_52_21_7) rfl (XT.ii_ge_f (by decide)) ?_
    refine XS.aloadN X11.here hx rfl (hb hby d_jdk_52_21_10) rfl rfl ?_
    show Sp p e below T11 (mkF m 11 #[.val (.ref a1), .val (.int (3 : Int32)), .val (.ref a3), .val (.int (3 : Int32)), .val (.int (4 : Int32)), .val (.int (3 : Int32)), .val (.int c2)] [(.ref a1)]) _
    refine XS.iloadN X11.here hx rfl (hb hby d_jdk_52_21_11) rfl ?_
    obtain ⟨cl13, Ar13, -, S13, -, H13, -⟩ := id (((VC.other W3 ne13).other W7 ne13).other W11 ne13)
    have hin13 : ¬ ((3 : Int32) < 0 ∨ cl13.slots.size ≤ ((3 : Int32)).toNatClampNeg) := inb_of S13 (by decide)
    refine X11.caload hx (j := (3 : Int32)) (v := (.int c3)) (by rw [e11]; exact Ar13.1) (State.isArrayOf_alike hZ.alike Ar13.2.1) Ar13.2.2 hin13 (H13.at hin13 rfl) (g := (mkF m 12 #[.val (.ref a1), .val (.int (3 : Int32)), .val (.ref a3), .val (.int (3 : Int32)), .val (.int (4 : Int32)), .val (.int (3 : Int32)), .val (.int c2)] [(.int (3 : Int32)), (.ref a1)])) rfl rfl (hb hby d_jdk_52_21_12) _ ?_
    refine XS.istore X11.here hx rfl (hb hby d_jdk_52_21_13) rfl (l' := #[.val (.ref a1), .val (.int (3 : Int32)), .val (.ref a3), .val (.int (3 : Int32)), .val (.int (4 : Int32)), .val (.int (3 : Int32)), .val (.int c3)]) rfl ?_
    refine XS.iload X11.here hx rfl (hb hby d_jdk_52_21_15) rfl ?_
    show Sp p e below T11 (mkF m 17 #[.val (.ref a1), .val (.int (3 : Int32)), .val (.ref a3), .val (.int (3 : Int32)), .val (.int (4 : Int32)), .val (.int (3 : Int32)), .val (.int c3)] [(.int c3)]) _
    refine XS.sipush X11.here hx rfl (hb hby d_jdk_52_21_17) ?_
    refine XS.icmpYes X11.here hx rfl (pc0 := 20) (pc' := 26) rfl (hb hby d_jdk_52_21_20) rfl (XT.ii_le_t hc3) (by decide) (by decide) ?_
    refine XS.aloadN X11.here hx rfl (hb hby d_jdk_52_21_26) rfl rfl ?_
    refine XS.iloadN X11.here hx rfl (hb hby d_jdk_52_21_27) rfl ?_
    show Sp p e below T11 (mkF m 28 #[.val (.ref a1), .val (.int (3 : Int32)), .val (.ref a3), .val (.int (3 : Int32)), .val (.int (4 : Int32)), .val (.int (3 : Int32)), .val (.int c3)] [(.int (3 : Int32)), (.ref a3)]) _
    refine XS.iload X11.here hx rfl (hb hby d_jdk_52_21_28) rfl ?_
    refine XT.i2b X11.here hx rfl (hb hby d_jdk_52_21_30) rfl ?_
    exact k
  obtain ⟨cl15, Ar15, q15, S15, M15, H15, G15⟩ := id V11
  obtain ⟨T15, h15, X15, e15, W15, st15⟩ := stB X11 hx hZ e11 Ar15 (j := (3 : Int32)) (inb_of S15 (by decide)) (g := (mkF m 31 #[.val (.ref a1), .val (.int (3 : Int32)), .val (.ref a3), .val (.int (3 : Int32)), .val (.int (4 : Int32)), .val (.int (3 : Int32)), .val (.int c3)] [(.int ((c3).toInt8.toInt32)), (.int (3 : Int32)), (.ref a3)])) rfl rfl (hb hby d_jdk_52_21_31)
  have N15 := Fr.snoc X15 N11 g3
  have O15 : Old Z n0 h15 := O11.wr W15 g3
  rw [(own_nb c3)] at W15
  have V15 : Arv Z h15 a3 kB .byte (4 : Int32) [(.int ((c0).toInt8.toInt32)), (.int ((c1).toInt8.toInt32)), (.int ((c2).toInt8.toInt32)), (.int ((c3).toInt8.toInt32))] (.int (0 : Int32)) := Arv.set Ar15 q15 S15 M15 H15 G15 (by rw [← (own_nb c3)]; exact (fits_nar_byte _)) W15 3 rfl (Nat.le_of_ble_eq_true rfl)
  have pre_16 : ∀ t, Sp p e below T15 (mkF m 32 #[.val (.ref a1), .val (.int (3 : Int32)), .val (.ref a3), .val (.int (3 : Int32)), .val (.int (4 : Int32)), .val (.int (3 : Int32)), .val (.int c3)] []) t → Steps p.tables e below E0 t := fun t k => pre_14 t (st15 t k)
  have pre_17 : ∀ t, Sp p e below T15 (mkF m 46 #[.val (.ref a1), .val (.int (4 : Int32)), .val (.ref a3), .val (.int (4 : Int32)), .val (.int (4 : Int32)), .val (.int (4 : Int32)), .val (.int c3)] [(.int (4 : Int32))]) t → Steps p.tables e below E0 t := by
    intro t k
    refine pre_16 t ?_
    show Sp p e below T15 (mkF m 32 #[.val (.ref a1), .val (.int (3 : Int32)), .val (.ref a3), .val (.int (3 : Int32)), .val (.int (4 : Int32)), .val (.int (3 : Int32)), .val (.int c3)] []) _
    refine XS.iinc X15.here hx rfl (hb hby d_jdk_52_21_32) rfl (l' := #[.val (.ref a1), .val (.int (4 : Int32)), .val (.ref a3), .val (.int (3 : Int32)), .val (.int (4 : Int32)), .val (.int (3 : Int32)), .val (.int c3)]) rfl ?_
    refine XS.iinc X15.here hx rfl (hb hby d_jdk_52_21_35) rfl (l' := #[.val (.ref a1), .val (.int (4 : Int32)), .val (.ref a3), .val (.int (4 : Int32)), .val (.int (4 : Int32)), .val (.int (3 : Int32)), .val (.int c3)]) rfl ?_
    show Sp p e below T15 (mkF m 38 #[.val (.ref a1), .val (.int (4 : Int32)), .val (.ref a3), .val (.int (4 : Int32)), .val (.int (4 : Int32)), .val (.int (3 : Int32)), .val (.int c3)] []) _
    refine XS.iinc X15.here hx rfl (hb hby d_jdk_52_21_38) rfl (l' := #[.val (.ref a1), .val (.int (4 : Int32)), .val (.ref a3), .val (.int (4 : Int32)), .val (.int (4 : Int32)), .val (.int (4 : Int32)), .val (.int c3)]) rfl ?_
    refine XS.goto X15.here hx rfl (pc0 := 41) (pc' := 3) rfl (hb hby d_jdk_52_21_41) (by decide) (by decide) ?_
    refine XS.iload X15.here hx rfl (hb hby d_jdk_52_21_3) rfl ?_
    refine XS.iload X15.here hx rfl (hb hby d_jdk_52_21_5) rfl ?_
    show Sp p e below T15 (mkF m 7 #[.val (.ref a1), .val (.int (4 : Int32)), .val (.ref a3), .val (.int (4 : Int32)), .val (.int (4 : Int32)), .val (.int (4 : Int32)), .val (.int c3)] [(.int (4 : Int32)), (.int (4 : Int32))]) _
    refine XS.icmpYes X15.here hx rfl (pc0 := 7) (pc' := 44) rfl (hb hby d_jdk_52_21_7) rfl (XT.ii_ge_t (by decide)) (by decide) (by decide) ?_
    refine XS.iload X15.here hx rfl (hb hby d_jdk_52_21_44) rfl ?_
    exact k
  obtain ⟨fs, hr, hrun, hended, hW, hsame⟩ := X15.leave (v := some (.int (4 : Int32))) (fun h => by rw [Bd.returns] at h; cases h)
  refine ⟨_, _, pre_17 _ ?_, hrun, hended, _, _, rfl, ?_, ⟨_, rfl⟩, hW, hsame.mono (by decide) (by decide)⟩
  · show Sp p e below T15 (mkF m 46 #[.val (.ref a1), .val (.int (4 : Int32)), .val (.ref a3), .val (.int (4 : Int32)), .val (.int (4 : Int32)), .val (.int (4 : Int32)), .val (.int c3)] [(.int (4 : Int32))]) _
    exact retI X15 hx Bd.returns (hb hby d_jdk_52_21_46) hr
  · show Q_cmpa4 Z _ _ _ _ _ _ _ _ h0 n0 _ T15.heap _
    rw [e15]
    exact ⟨rfl, N15, (((((Keep.refl h0 [a3]).wr W3 (Or.inl (List.mem_of_getElem? (i := 0) rfl))).wr W7 (Or.inl (List.mem_of_getElem? (i := 0) rfl))).wr W11 (Or.inl (List.mem_of_getElem? (i := 0) rfl))).wr W15 (Or.inl (List.mem_of_getElem? (i := 0) rfl))), V15⟩
theorem pn_cmpb4 : plainName "java/lang/StringUTF16" = true := by first | (simp [plainName, overriddenIn]; done) | decide +kernel
theorem pd_cmpb4_0 : parseMethodDescriptor "([CI[BII)I" = some ⟨[(.array .char), .int, (.array .byte), .int, .int], some .int⟩ := by decide +kernel
theorem ef_cmpb4 (m : MethodId) (a1 : Addr) : entryFrame m #[(.ref a1), (.int (0 : Int32)), (.int (4 : Int32))] 6 = (mkF m 0 #[.val (.ref a1), .val (.int (0 : Int32)), .val (.int (4 : Int32)), .unset, .unset, .unset] []) := by first | (simp [entryFrame, mkF, argsToLocals, Value.category]; done) | rfl
def Q_cmpb4 (Z : State) (a1 : Addr) (kC : ClassId) (c0 c1 c2 c3 : Int32) (h0 : Heap) (n0 : Nat) (v : Option Value) (h : Heap) (L : List Loc) : Prop := ∃ b kB, v = some (.ref b) ∧ Fr n0 L ∧ Keep h0 h [] ∧ h0.size ≤ b ∧ Arv Z h b kB .byte (4 : Int32) [(.int (c0).toInt8.toInt32), (.int (c1).toInt8.toInt32), (.int (c2).toInt8.toInt32), (.int (c3).toInt8.toInt32)] (.int (0 : Int32))
set_option maxRecDepth 65536 in
set_option maxHeartbeats 40000000 in
theorem rm_cmpb4 (l : Launch) (Z : State) (a0 : Array Value) (hw : ∀ d ∈ tables_1, d.before a0 Z = true) (ws : List Jvm.Cond) (a1 : Addr) (kC : ClassId) (c0 c1 c2 c3 : Int32) (h0 : Heap) (n0 : Nat) (O0 : Old Z n0 h0) (VC : Arv Z h0 a1 kC .char (4 : Int32) [(.int c0), (.int c1), (.int c2), (.int c3)] (.int (0 : Int32))) (hc0 : ¬ (255 : Int32) < c0) (hc1 : ¬ (255 : Int32) < c1) (hc2 : ¬ (255 : Int32) < c2) (hc3 : ¬ (255 : Int32) < c3) :
    MetFree l (⟨"java/lang/StringUTF16", "compress", "([CII)[B"⟩ : MethodName) (head1 (Jvm.Cond.code (⟨"java/lang/StringUTF16", "compress", "([CII)[B"⟩ : MethodName) jdk_52_method_16_code 6 (some (.array .byte)) :: ws) ({ frames := 1, cells := 1, slots := 4, locals := 18 } : Room)) (fun a U => a = #[(.ref a1), (.int (0 : Int32)), (.int (4 : Int32))] ∧ Z.Warmed39 U.vm ∧ U.heap = h0) (fun _ _ _ _ _ => True) (fun _ U o U' => ∃ v L, o = .returned v ∧ Q_cmpb4 Z a1 kC c0 c1 c2 c3 h0 n0 v U'.heap L ∧ FrameEnd U o U' L ({ frames := 1, cells := 1, slots := 4, locals := 18 } : Room).cells ({ frames := 1, cells := 1, slots := 4, locals := 18 } : Room).slots) := by
  refine MetFree.of_bodySF (plainFor_of_name pn_cmpb4) hisR ?_
  intro p e s m args below meth c s₁ Bd hml0 hP hK
  obtain ⟨rfl, hZ, hh⟩ := hP
  have hx := Bd.exec
  have hby := Bd.bytes
  have hml : c.maxLocals = 6 := hml0
  have hown : s.vm.findClass "java/lang/StringUTF16" = some m.cls := findClass_of_methodNamed Bd.named
  have hnm := (name_of_methodNamed Bd.named Bd.method).1
  have X0 : Stand p l e ({ frames := 1, cells := 1, slots := 4, locals := 18 } : Room) s m #[(.ref a1), (.int (0 : Int32)), (.int (4 : Int32))] below meth c s₁ [] 0 0 := Stand.of_body Bd
  have e0 : s₁.heap = h0 := by rw [← hh, Bd.state]; rfl
  have N0 := Fr.nil n0
  have pre0 : ∀ t, Steps p.tables e below (s₁.setTop (mkF m 0 #[.val (.ref a1), .val (.int (0 : Int32)), .val (.int (4 : Int32)), .unset, .unset, .unset] [])) t → Steps p.tables e below (s₁.setTop (entryFrame m #[(.ref a1), (.int (0 : Int32)), (.int (4 : Int32))] 6)) t := fun t k => castTop (ef_cmpb4 m a1) k
  generalize s₁.setTop (entryFrame m #[(.ref a1), (.int (0 : Int32)), (.int (4 : Int32))] 6) = E0 at pre0 ⊢
  have pre_1 : ∀ t, Sp p e below s₁ (mkF m 1 #[.val (.ref a1), .val (.int (0 : Int32)), .val (.int (4 : Int32)), .unset, .unset, .unset] [(.int (4 : Int32))]) t → Steps p.tables e below E0 t := by
    intro t k
    refine pre0 t ?_
    show Sp p e below s₁ (mkF m 0 #[.val (.ref a1), .val (.int (0 : Int32)), .val (.int (4 : Int32)), .unset, .unset, .unset] []) _
    refine XS.iloadN X0.here hx rfl (hb hby d_jdk_52_16_0) rfl ?_
    exact k
  obtain ⟨T2, h2, cA2, X2, e2, E2, A2, st2⟩ := newP X0 hx hZ (own_w hw 60 rfl) e0 (g := (mkF m 1 #[.val (.ref a1), .val (.int (0 : Int32)), .val (.int (4 : Int32)), .unset, .unset, .unset] [(.int (4 : Int32))])) rfl (hb hby d_jdk_52_16_1) rfl (by decide) (cap := 4) (by decide) (by decide) (by decide) (by decide)
  obtain ⟨b2, g2⟩ : ∃ z, z = h0.size := ⟨_, rfl⟩
  rw [← g2] at A2 st2
  have O2 : Old Z n0 h2 := O0.ext E2
  have V2 : Arv Z h2 b2 cA2 .byte (4 : Int32) [(.int (0 : Int32)), (.int (0 : Int32)), (.int (0 : Int32)), (.int (0 : Int32))] (.int (0 : Int32)) := (Arv.new A2 (by decide)).pad (pad_rep [] _ 4)
  have pre_3 : ∀ t, Sp p e below T2 (mkF m 3 #[.val (.ref a1), .val (.int (0 : Int32)), .val (.int (4 : Int32)), .unset, .unset, .unset] [(.ref b2)]) t → Steps p.tables e below E0 t := fun t k => pre_1 t (st2 t k)
  have pre_4 : ∀ t, Sp p e below T2 (mkF m 9 #[.val (.ref a1), .val (.int (0 : Int32)), .val (.int (4 : Int32)), .val (.ref b2), .unset, .unset] [(.int (4 : Int32)), (.int (0 : Int32)), (.ref b2), (.int (0 : Int32)), (.ref a1)]) t → Steps p.tables e below E0 t := by
    intro t k
    refine pre_3 t ?_
    show Sp p e below T2 (mkF m 3 #[.val (.ref a1), .val (.int (0 : Int32)), .val (.int (4 : Int32)), .unset, .unset, .unset] [(.ref b2)]) _
    refine XS.astoreN X2.here hx rfl (hb hby d_jdk_52_16_3) rfl rfl (l' := #[.val (.ref a1), .val (.int (0 : Int32)), .val (.int (4 : Int32)), .val (.ref b2), .unset, .unset]) rfl ?_
    refine XS.aloadN X2.here hx rfl (hb hby d_jdk_52_16_4) rfl rfl ?_
    refine XS.iloadN X2.here hx rfl (hb hby d_jdk_52_16_5) rfl ?_
    show Sp p e below T2 (mkF m 6 #[.val (.ref a1), .val (.int (0 : Int32)), .val (.int (4 : Int32)), .val (.ref b2), .unset, .unset] [(.int (0 : Int32)), (.ref a1)]) _
    refine XS.aloadN X2.here hx rfl (hb hby d_jdk_52_16_6) rfl rfl ?_
    refine XS.iconst X2.here hx rfl (hb hby d_jdk_52_16_7) ?_
    refine XS.iloadN X2.here hx rfl (hb hby d_jdk_52_16_8) rfl ?_
    exact k
  obtain ⟨_, _, ⟨T5, L5, k5, n5⟩, -, X5, ⟨Lc5, hQ5, l5, y5, z5⟩, st5⟩ := Jvm.LawKit.callS X2 hx (y := (⟨"java/lang/StringUTF16", "compress", "([CI[BII)I"⟩ : MethodName)) hown (mvT hZ (own_w hw 77 rfl)) (mvT hZ (own_w hw 78 rfl)) (mvT hZ (own_w hw 75 rfl)) (mvT hZ (own_w hw 79 rfl)) (by decide) (backOf (W := 0) (rm_cmpa4 l Z a0 hw [] a1 b2 kC cA2 c0 c1 c2 c3 h2 n0 O2 (VC.ext E2) V2 (Nat.le_trans (own_le O0) (Nat.le_of_eq g2.symm)) (Nat.ne_of_lt (Nat.lt_of_lt_of_le VC.lt (Nat.le_of_eq g2.symm))) hc0 hc1 hc2 hc3) hZ (own_w hw 79 rfl) (own_w hw 75 rfl) (by decide) (by decide)) (g := (mkF m 9 #[.val (.ref a1), .val (.int (0 : Int32)), .val (.int (4 : Int32)), .val (.ref b2), .unset, .unset] [(.int (4 : Int32)), (.int (0 : Int32)), (.ref b2), (.int (0 : Int32)), (.ref a1)])) rfl (by rw [hml]; rfl) (argsL := [(.ref a1), (.int (0 : Int32)), (.ref b2), (.int (0 : Int32)), (.int (4 : Int32))]) (rest := []) (lenOf pd_cmpb4_0 rfl) rfl (by show 2 * 0 + _ ≤ _; exact Nat.le_of_eq rfl) (hb hby d_jdk_52_16_9) (fun _ _ => ⟨rfl, e2, (by decide : 1 + 0 ≤ _), (by decide : 4 + 0 ≤ _)⟩)
  dsimp only [Pt.U, Pt.locs, Pt.cells, Pt.slots] at X5 l5 y5 z5 st5 hQ5
  subst l5 y5 z5
  obtain ⟨rfl, N5q, K5, Vb5⟩ := hQ5
  have N5 := Fr.app N0 N5q
  have O5 : Old Z n0 T5.heap := O2.keep K5 (allS (Nat.le_trans (own_le O0) (Nat.le_of_eq g2.symm)) all0)
  have pre_6 : ∀ t, Sp p e below T5 (mkF m 12 #[.val (.ref a1), .val (.int (0 : Int32)), .val (.int (4 : Int32)), .val (.ref b2), .unset, .unset] [(.int (4 : Int32))]) t → Steps p.tables e below E0 t := fun t k => pre_4 t (st5 t k)
  have pre_7 : ∀ t, Sp p e below T5 (mkF m 58 #[.val (.ref a1), .val (.int (0 : Int32)), .val (.int (4 : Int32)), .val (.ref b2), .val (.int (4 : Int32)), .unset] [(.ref b2)]) t → Steps p.tables e below E0 t := by
    intro t k
    refine pre_6 t ?_
    show Sp p e below T5 (mkF m 12 #[.val (.ref a1), .val (.int (0 : Int32)), .val (.int (4 : Int32)), .val (.ref b2), .unset, .unset] [(.int (4 : Int32))]) _
    refine XS.istore X5.here hx rfl (hb hby d_jdk_52_16_12) rfl (l' := #[.val (.ref a1), .val (.int (0 : Int32)), .val (.int (4 : Int32)), .val (.ref b2), .val (.int (4 : Int32)), .unset]) rfl ?_
    show Sp p e below T5 (mkF m 14 #[.val (.ref a1), .val (.int (0 : Int32)), .val (.int (4 : Int32)), .val (.ref b2), .val (.int (4 : Int32)), .unset] []) _
    refine XS.iload X5.here hx rfl (hb hby d_jdk_52_16_14) rfl ?_
    refine XS.iloadN X5.here hx rfl (hb hby d_jdk_52_16_16) rfl ?_
    refine XS.icmpYes X5.here hx rfl (pc0 := 17) (pc' := 57) rfl (hb hby d_jdk_52_16_17) rfl (XT.ii_eq_t (by decide)) (by decide) (by decide) ?_
    refine XS.aloadN X5.here hx rfl (hb hby d_jdk_52_16_57) rfl rfl ?_
    show Sp p e below T5 (mkF m 58 #[.val (.ref a1), .val (.int (0 : Int32)), .val (.int (4 : Int32)), .val (.ref b2), .val (.int (4 : Int32)), .unset] [(.ref b2)]) _
    exact k
  obtain ⟨fs, hr, hrun, hended, hW, hsame⟩ := X5.leave (v := some (.ref b2)) (fun h => by rw [Bd.returns] at h; cases h)
  refine ⟨_, _, pre_7 _ ?_, hrun, hended, _, _, rfl, ?_, ⟨_, rfl⟩, hW, hsame.mono (by decide) (by decide)⟩
  · show Sp p e below T5 (mkF m 58 #[.val (.ref a1), .val (.int (0 : Int32)), .val (.int (4 : Int32)), .val (.ref b2), .val (.int (4 : Int32)), .unset] [(.ref b2)]) _
    exact retOut X5 hx (t := (.array .byte)) Bd.returns rfl (Or.inr (Or.inr (Or.inr (Or.inr ⟨rfl, rfl, rfl⟩)))) (hb hby d_jdk_52_16_58) hr
  · show Q_cmpb4 Z _ _ _ _ _ _ h0 n0 _ T5.heap _
    exact ⟨b2, cA2, rfl, N5, (((Keep.refl h0 []).ext E2).trans K5 (allS (Or.inr (Nat.le_trans (Keep.refl h0 []).1 (Nat.le_of_eq g2.symm))) all0)), (Nat.le_trans (Keep.refl h0 []).1 (Nat.le_of_eq g2.symm)), Vb5⟩
theorem pn_cfa4 : plainName "java/lang/StringUTF16" = true := by first | (simp [plainName, overriddenIn]; done) | decide +kernel
theorem ef_cfa4 (m : MethodId) (a1 : Addr) : entryFrame m #[(.ref a1), (.int (4 : Int32))] 2 = (mkF m 0 #[.val (.ref a1), .val (.int (4 : Int32))] []) := by first | (simp [entryFrame, mkF, argsToLocals, Value.category]; done) | rfl
def Q_cfa4 (Z : State) (a1 : Addr) (kB : ClassId) (c0 c1 c2 c3 : Int32) (h0 : Heap) (n0 : Nat) (v : Option Value) (h : Heap) (L : List Loc) : Prop := v = some (.int (0 : Int32)) ∧ Fr n0 L ∧ h = h0
set_option maxRecDepth 65536 in
set_option maxHeartbeats 40000000 in
theorem rm_cfa4 (l : Launch) (Z : State) (a0 : Array Value) (hw : ∀ d ∈ tables_1, d.before a0 Z = true) (ws : List Jvm.Cond) (a1 : Addr) (kB : ClassId) (c0 c1 c2 c3 : Int32) (h0 : Heap) (n0 : Nat) (O0 : Old Z n0 h0) (VB : Arv Z h0 a1 kB .byte (4 : Int32) [(.int (c0).toInt8.toInt32), (.int (c1).toInt8.toInt32), (.int (c2).toInt8.toInt32), (.int (c3).toInt8.toInt32)] (.int (0 : Int32))) :
    MetFree l (⟨"java/lang/StringUTF16", "coderFromArrayLen", "([BI)B"⟩ : MethodName) (head1 (Jvm.Cond.code (⟨"java/lang/StringUTF16", "coderFromArrayLen", "([BI)B"⟩ : MethodName) jdk_52_method_15_code 2 (some .byte) :: ws) ({ frames := 0, cells := 0, slots := 0, locals := 0 } : Room)) (fun a U => a = #[(.ref a1), (.int (4 : Int32))] ∧ Z.Warmed39 U.vm ∧ U.heap = h0) (fun _ _ _ _ _ => True) (fun _ U o U' => ∃ v L, o = .returned v ∧ Q_cfa4 Z a1 kB c0 c1 c2 c3 h0 n0 v U'.heap L ∧ FrameEnd U o U' L ({ frames := 0, cells := 0, slots := 0, locals := 0 } : Room).cells ({ frames := 0, cells := 0, slots := 0, locals := 0 } : Room).slots) := by
  refine MetFree.of_bodySF (plainFor_of_name pn_cfa4) hisR ?_
  intro p e s m args below meth c s₁ Bd hml0 hP hK
  obtain ⟨rfl, hZ, hh⟩ := hP
  have hx := Bd.exec
  have hby := Bd.bytes
  have hml : c.maxLocals = 2 := hml0
  have hown : s.vm.findClass "java/lang/StringUTF16" = some m.cls := findClass_of_methodNamed Bd.named
  have hnm := (name_of_methodNamed Bd.named Bd.method).1
  have X0 : Stand p l e ({ frames := 0, cells := 0, slots := 0, locals := 0 } : Room) s m #[(.ref a1), (.int (4 : Int32))] below meth c s₁ [] 0 0 := Stand.of_body Bd
  have e0 : s₁.heap = h0 := by rw [← hh, Bd.state]; rfl
  have N0 := Fr.nil n0
  have pre0 : ∀ t, Steps p.tables e below (s₁.setTop (mkF m 0 #[.val (.ref a1), .val (.int (4 : Int32))] [])) t → Steps p.tables e below (s₁.setTop (entryFrame m #[(.ref a1), (.int (4 : Int32))] 2)) t := fun t k => castTop (ef_cfa4 m a1) k
  generalize s₁.setTop (entryFrame m #[(.ref a1), (.int (4 : Int32))] 2) = E0 at pre0 ⊢
  have pre_2 : ∀ t, Sp p e below s₁ (mkF m 8 #[.val (.ref a1), .val (.int (4 : Int32))] [(.int (0 : Int32))]) t → Steps p.tables e below E0 t := by
    intro t k
    refine pre0 t ?_
    show Sp p e below s₁ (mkF m 0 #[.val (.ref a1), .val (.int (4 : Int32))] []) _
    refine XS.iloadN X0.here hx rfl (hb hby d_jdk_52_15_0) rfl ?_
    refine XS.aloadN X0.here hx rfl (hb hby d_jdk_52_15_1) rfl rfl ?_
    obtain ⟨cl1, Ar1, -, S1, M1, -, -⟩ := id VB
    refine X0.arraylength hx (cell := cl1) (by rw [e0]; exact Ar1.1) (State.isArrayOf_alike hZ.alike Ar1.2.1) (g := (mkF m 2 #[.val (.ref a1), .val (.int (4 : Int32))] [(.ref a1), (.int (4 : Int32))])) rfl (rest := [(.int (4 : Int32))]) rfl (hb hby d_jdk_52_15_2) _ ?_
    rw [len_of S1 M1]
    show Sp p e below s₁ (mkF m 3 #[.val (.ref a1), .val (.int (4 : Int32))] [(.int (4 : Int32)), (.int (4 : Int32))]) _
    refine XS.isub X0.here hx rfl (hb hby d_jdk_52_15_3) rfl ?_
    refine XS.bipush X0.here hx rfl (hb hby d_jdk_52_15_4) ?_
    show Sp p e below s₁ (mkF m 6 #[.val (.ref a1), .val (.int (4 : Int32))] [(.int (31 : Int32)), (.int (0 : Int32))]) _
    refine XT.iushr X0.here hx rfl (hb hby d_jdk_52_15_6) rfl ?_
    refine XT.i2b X0.here hx rfl (hb hby d_jdk_52_15_7) rfl ?_
    exact k
  obtain ⟨fs, hr, hrun, hended, hW, hsame⟩ := X0.leave (v := some (.int (0 : Int32))) (fun h => by rw [Bd.returns] at h; cases h)
  refine ⟨_, _, pre_2 _ ?_, hrun, hended, _, _, rfl, ?_, ⟨_, rfl⟩, hW, hsame.mono (by decide) (by decide)⟩
  · show Sp p e below s₁ (mkF m 8 #[.val (.ref a1), .val (.int (4 : Int32))] [(.int (0 : Int32))]) _
    exact retN X0 hx (t := .byte) Bd.returns (by simp) (hb hby d_jdk_52_15_8) hr
  · show Q_cfa4 Z _ _ _ _ _ _ h0 n0 _ s₁.heap _
    rw [e0]
    exact ⟨rfl, N0, rfl⟩
theorem pn_sti4 : plainName "java/lang/String" = true := by first | (simp [plainName, overriddenIn]; done) | decide +kernel
theorem pd_sti4_0 : parseMethodDescriptor "([CII)[B" = some ⟨[(.array .char), .int, .int], some (.array .byte)⟩ := by decide +kernel
theorem pd_sti4_1 : parseMethodDescriptor "([BI)B" = some ⟨[(.array .byte), .int], some .byte⟩ := by decide +kernel
theorem ef_sti4 (m : MethodId) (a1 : Addr) (a2 : Addr) : entryFrame m #[(.ref a1), (.ref a2), (.int (0 : Int32)), (.int (4 : Int32)), .null] 6 = (mkF m 0 #[.val (.ref a1), .val (.ref a2), .val (.int (0 : Int32)), .val (.int (4 : Int32)), .val .null, .unset] []) := by first | (simp [entryFrame, mkF, argsToLocals, Value.category]; done) | rfl
def Q_sti4 (Z : State) (a1 : Addr) (a2 : Addr) (u1 u2 : Value) (G1 : Int32) (kC : ClassId) (c0 c1 c2 c3 : Int32) (h0 : Heap) (n0 : Nat) (v : Option Value) (h : Heap) (L : List Loc) : Prop := v = none ∧ Fr n0 L ∧ Keep h0 h [a1] ∧ Fld Z h a1 "java/lang/String" "coder" "B" (.int (0 : Int32)) ∧ ∃ b kB, h0.size ≤ b ∧ Fld Z h a1 "java/lang/String" "value" "[B" (.ref b) ∧ Arv Z h b kB .byte (4 : Int32) [(.int (c0).toInt8.toInt32), (.int (c1).toInt8.toInt32), (.int (c2).toInt8.toInt32), (.int (c3).toInt8.toInt32)] (.int (0 : Int32))
set_option maxRecDepth 65536 in
set_option maxHeartbeats 40000000 in
theorem rm_sti4 (l : Launch) (Z : State) (a0 : Array Value) (hw : ∀ d ∈ tables_1, d.before a0 Z = true) (ws : List Jvm.Cond) (a1 : Addr) (a2 : Addr) (u1 u2 : Value) (G1 : Int32) (kC : ClassId) (c0 c1 c2 c3 : Int32) (h0 : Heap) (n0 : Nat) (O0 : Old Z n0 h0) (E1 : Exa Z h0 a1 "java/lang/String") (F1 : Fld Z h0 a1 "java/lang/String" "value" "[B" u1) (F2 : Fld Z h0 a1 "java/lang/String" "coder" "B" u2) (g1 : n0 ≤ a1) (SC : Sta Z Z.heap "java/lang/String" "COMPACT_STRINGS" "Z" (.int G1)) (hG : ¬ G1 = (0 : Int32)) (VC : Arv Z h0 a2 kC .char (4 : Int32) [(.int c0), (.int c1), (.int c2), (.int c3)] (.int (0 : Int32))) (hc0 : ¬ (255 : Int32) < c0) (hc1 : ¬ (255 : Int32) < c1) (hc2 : ¬ (255 : Int32) < c2) (hc3 : ¬ (255 : Int32) < c3) :
    MetFree l (⟨"java/lang/String", "<init>", "([CIILjava/lang/Void;)V"⟩ : MethodName) (head1 (Jvm.Cond.code (⟨"java/lang/String", "<init>", "([CIILjava/lang/Void;)V"⟩ : MethodName) jdk_42_method_149_code 6 none :: ws) ({ frames := 2, cells := 1, slots := 4, locals := 36 } : Room)) (fun a U => a = #[(.ref a1), (.ref a2), (.int (0 : Int32)), (.int (4 : Int32)), .null] ∧ Z.Warmed39 U.vm ∧ U.heap = h0) (fun _ _ _ _ _ => True) (fun _ U o U' => ∃ v L, o = .returned v ∧ Q_sti4 Z a1 a2 u1 u2 G1 kC c0 c1 c2 c3 h0 n0 v U'.heap L ∧ FrameEnd U o U' L ({ frames := 2, cells := 1, slots := 4, locals := 36 } : Room).cells ({ frames := 2, cells := 1, slots := 4, locals := 36 } : Room).slots) := by
  refine MetFree.of_bodySF (plainFor_of_name pn_sti4) hisR ?_
  intro p e s m args below meth c s₁ Bd hml0 hP hK
  obtain ⟨rfl, hZ, hh⟩ := hP
  have hx := Bd.exec
  have hby := Bd.bytes
  have hml : c.maxLocals = 6 := hml0
  have hown : s.vm.findClass "java/lang/String" = some m.cls := findClass_of_methodNamed Bd.named
  have hnm := (name_of_methodNamed Bd.named Bd.method).1
  have X0 : Stand p l e ({ frames := 2, cells := 1, slots := 4, locals := 36 } : Room) s m #[(.ref a1), (.ref a2), (.int (0 : Int32)), (.int (4 : Int32)), .null] below meth c s₁ [] 0 0 := Stand.of_body Bd
  have e0 : s₁.heap = h0 := by rw [← hh, Bd.state]; rfl
  have N0 := Fr.nil n0
  have pre0 : ∀ t, Steps p.tables e below (s₁.setTop (mkF m 0 #[.val (.ref a1), .val (.ref a2), .val (.int (0 : Int32)), .val (.int (4 : Int32)), .val .null, .unset] [])) t → Steps p.tables e below (s₁.setTop (entryFrame m #[(.ref a1), (.ref a2), (.int (0 : Int32)), (.int (4 : Int32)), .null] 6)) t := fun t k => castTop (ef_sti4 m a1 a2) k
  generalize s₁.setTop (entryFrame m #[(.ref a1), (.ref a2), (.int (0 : Int32)), (.int (4 : Int32)), .null] 6) = E0 at pre0 ⊢
  have pre_1 : ∀ t, Sp p e below s₁ (mkF m 1 #[.val (.ref a1), .val (.ref a2), .val (.int (0 : Int32)), .val (.int (4 : Int32)), .val .null, .unset] [(.ref a1)]) t → Steps p.tables e below E0 t := by
    intro t k
    refine pre0 t ?_
    show Sp p e below s₁ (mkF m 0 #[.val (.ref a1), .val (.ref a2), .val (.int (0 : Int32)), .val (.int (4 : Int32)), .val .null, .unset] []) _
    refine XS.aloadN X0.here hx rfl (hb hby d_jdk_42_149_0) rfl rfl ?_
    exact k
  obtain ⟨T2, X2, e2, st2⟩ := initO X0 hx hZ hown (own_w hw 58 rfl) (own_w hw 24 rfl) (own_w hw 25 rfl) e0 (g := (mkF m 1 #[.val (.ref a1), .val (.ref a2), .val (.int (0 : Int32)), .val (.int (4 : Int32)), .val .null, .unset] [(.ref a1)])) rfl (by rw [hml]; rfl) rfl (hb hby d_jdk_42_149_1) (by decide) (W := 0) (by show 2 * 0 + _ ≤ _; exact Nat.le_of_eq rfl) (by decide)
  have pre_3 : ∀ t, Sp p e below T2 (mkF m 4 #[.val (.ref a1), .val (.ref a2), .val (.int (0 : Int32)), .val (.int (4 : Int32)), .val .null, .unset] []) t → Steps p.tables e below E0 t := fun t k => pre_1 t (st2 t k)
  have pre_4 : ∀ t, Sp p e below T2 (mkF m 27 #[.val (.ref a1), .val (.ref a2), .val (.int (0 : Int32)), .val (.int (4 : Int32)), .val .null, .unset] []) t → Steps p.tables e below E0 t := by
    intro t k
    refine pre_3 t ?_
    show Sp p e below T2 (mkF m 4 #[.val (.ref a1), .val (.ref a2), .val (.int (0 : Int32)), .val (.int (4 : Int32)), .val .null, .unset] []) _
    refine XS.iloadN X2.here hx rfl (hb hby d_jdk_42_149_4) rfl ?_
    refine XS.ifYes X2.here hx rfl (pc0 := 5) (pc' := 27) rfl (hb hby d_jdk_42_149_5) rfl (XT.i0_ne_t (by decide)) (by decide) (by decide) ?_
    exact k
  obtain ⟨T5, X5, e5, st5⟩ := getS X2 hx hZ hown (host := "") (own_w hw 72 rfl) Via.refl e2 (SC.ext O0.2) (g := (mkF m 27 #[.val (.ref a1), .val (.ref a2), .val (.int (0 : Int32)), .val (.int (4 : Int32)), .val .null, .unset] [])) rfl (hb hby d_jdk_42_149_27)
  have pre_6 : ∀ t, Sp p e below T5 (mkF m 30 #[.val (.ref a1), .val (.ref a2), .val (.int (0 : Int32)), .val (.int (4 : Int32)), .val .null, .unset] [(.int G1)]) t → Steps p.tables e below E0 t := fun t k => pre_4 t (st5 t k)
  have pre_7 : ∀ t, Sp p e below T5 (mkF m 36 #[.val (.ref a1), .val (.ref a2), .val (.int (0 : Int32)), .val (.int (4 : Int32)), .val .null, .unset] [(.int (4 : Int32)), (.int (0 : Int32)), (.ref a2)]) t → Steps p.tables e below E0 t := by
    intro t k
    refine pre_6 t ?_
    show Sp p e below T5 (mkF m 30 #[.val (.ref a1), .val (.ref a2), .val (.int (0 : Int32)), .val (.int (4 : Int32)), .val .null, .unset] [(.int G1)]) _
    refine XS.ifNo X5.here hx rfl (hb hby d_jdk_42_149_30) rfl (XT.i0_eq_f hG) ?_
    show Sp p e below T5 (mkF m 33 #[.val (.ref a1), .val (.ref a2), .val (.int (0 : Int32)), .val (.int (4 : Int32)), .val .null, .unset] []) _
    refine XS.aloadN X5.here hx rfl (hb hby d_jdk_42_149_33) rfl rfl ?_
    refine XS.iloadN X5.here hx rfl (hb hby d_jdk_42_149_34) rfl ?_
    refine XS.iloadN X5.here hx rfl (hb hby d_jdk_42_149_35) rfl ?_
    exact k
  obtain ⟨_, _, ⟨T8, L8, k8, n8⟩, -, X8, ⟨Lc8, hQ8, l8, y8, z8⟩, st8⟩ := Jvm.LawKit.callS X5 hx (y := (⟨"java/lang/StringUTF16", "compress", "([CII)[B"⟩ : MethodName)) hown (mvT hZ (own_w hw 73 rfl)) (mvT hZ (own_w hw 74 rfl)) (mvT hZ (own_w hw 75 rfl)) (mvT hZ (own_w hw 76 rfl)) (by decide) (backOf (W := 0) (rm_cmpb4 l Z a0 hw [] a2 kC c0 c1 c2 c3 h0 n0 O0 VC hc0 hc1 hc2 hc3) hZ (own_w hw 76 rfl) (own_w hw 75 rfl) (by decide) (by decide)) (g := (mkF m 36 #[.val (.ref a1), .val (.ref a2), .val (.int (0 : Int32)), .val (.int (4 : Int32)), .val .null, .unset] [(.int (4 : Int32)), (.int (0 : Int32)), (.ref a2)])) rfl (by rw [hml]; rfl) (argsL := [(.ref a2), (.int (0 : Int32)), (.int (4 : Int32))]) (rest := []) (lenOf pd_sti4_0 rfl) rfl (by show 2 * 0 + _ ≤ _; exact Nat.le_of_eq rfl) (hb hby d_jdk_42_149_36) (fun _ _ => ⟨rfl, e5, (by decide : 0 + 1 ≤ _), (by decide : 0 + 4 ≤ _)⟩)
  dsimp only [Pt.U, Pt.locs, Pt.cells, Pt.slots] at X8 l8 y8 z8 st8 hQ8
  subst l8 y8 z8
  obtain ⟨b8, kB8, rfl, N8q, K8, sb8, Vb8⟩ := hQ8
  have N8 := Fr.app N0 N8q
  have O8 : Old Z n0 T8.heap := O0.keep K8 all0
  have pre_9 : ∀ t, Sp p e below T8 (mkF m 39 #[.val (.ref a1), .val (.ref a2), .val (.int (0 : Int32)), .val (.int (4 : Int32)), .val .null, .unset] [(.ref b8)]) t → Steps p.tables e below E0 t := fun t k => pre_7 t (st8 t k)
  have pre_10 : ∀ t, Sp p e below T8 (mkF m 45 #[.val (.ref a1), .val (.ref a2), .val (.int (0 : Int32)), .val (.int (4 : Int32)), .val .null, .val (.ref b8)] [(.int (4 : Int32)), (.ref b8), (.ref a1)]) t → Steps p.tables e below E0 t := by
    intro t k
    refine pre_9 t ?_
    show Sp p e below T8 (mkF m 39 #[.val (.ref a1), .val (.ref a2), .val (.int (0 : Int32)), .val (.int (4 : Int32)), .val .null, .unset] [(.ref b8)]) _
    refine XS.astore X8.here hx rfl (hb hby d_jdk_42_149_39) rfl rfl (l' := #[.val (.ref a1), .val (.ref a2), .val (.int (0 : Int32)), .val (.int (4 : Int32)), .val .null, .val (.ref b8)]) rfl ?_
    show Sp p e below T8 (mkF m 41 #[.val (.ref a1), .val (.ref a2), .val (.int (0 : Int32)), .val (.int (4 : Int32)), .val .null, .val (.ref b8)] []) _
    refine XS.aloadN X8.here hx rfl (hb hby d_jdk_42_149_41) rfl rfl ?_
    refine XS.aload X8.here hx rfl (hb hby d_jdk_42_149_42) rfl rfl ?_
    refine XS.iloadN X8.here hx rfl (hb hby d_jdk_42_149_44) rfl ?_
    exact k
  obtain ⟨_, _, ⟨T11, L11, k11, n11⟩, -, X11, ⟨Lc11, hQ11, l11, y11, z11⟩, st11⟩ := Jvm.LawKit.callS X8 hx (y := (⟨"java/lang/StringUTF16", "coderFromArrayLen", "([BI)B"⟩ : MethodName)) hown (mvT hZ (own_w hw 80 rfl)) (mvT hZ (own_w hw 81 rfl)) (mvT hZ (own_w hw 75 rfl)) (mvT hZ (own_w hw 82 rfl)) (by decide) (backOf (W := 1) (rm_cfa4 l Z a0 hw [] b8 kB8 c0 c1 c2 c3 T8.heap n0 O8 Vb8) hZ (own_w hw 82 rfl) (own_w hw 75 rfl) (by decide) (by decide)) (g := (mkF m 45 #[.val (.ref a1), .val (.ref a2), .val (.int (0 : Int32)), .val (.int (4 : Int32)), .val .null, .val (.ref b8)] [(.int (4 : Int32)), (.ref b8), (.ref a1)])) rfl (by rw [hml]; rfl) (argsL := [(.ref b8), (.int (4 : Int32))]) (rest := [(.ref a1)]) (lenOf pd_sti4_1 rfl) rfl (by show 2 * 0 + _ ≤ _; exact Nat.le_of_eq rfl) (hb hby d_jdk_42_149_45) (fun _ _ => ⟨rfl, rfl, (by decide : 1 + 0 ≤ _), (by decide : 4 + 0 ≤ _)⟩)
  dsimp only [Pt.U, Pt.locs, Pt.cells, Pt.slots] at X11 l11 y11 z11 st11 hQ11
  subst l11 y11 z11
  obtain ⟨rfl, N11q, e11⟩ := hQ11
  have N11 := Fr.app N8 N11q
  have pre_12 : ∀ t, Sp p e below T11 (mkF m 48 #[.val (.ref a1), .val (.ref a2), .val (.int (0 : Int32)), .val (.int (4 : Int32)), .val .null, .val (.ref b8)] [(.int (0 : Int32)), (.ref a1)]) t → Steps p.tables e below E0 t := fun t k => pre_10 t (st11 t k)
  obtain ⟨T13, h13, X13, e13, W13, st13⟩ := putF X11 hx hZ hown (host := "") (Or.inl (own_w hw 66 rfl)) Via.refl e11 (F2.keep K8 nin0) (E1.keep K8) (Or.inr ⟨(own_w hw 62 rfl), rfl, hnm⟩) (own_w hw 48 rfl) (ty := .byte) (by decide) rfl rfl (g := (mkF m 48 #[.val (.ref a1), .val (.ref a2), .val (.int (0 : Int32)), .val (.int (4 : Int32)), .val .null, .val (.ref b8)] [(.int (0 : Int32)), (.ref a1)])) rfl rfl (hb hby d_jdk_42_149_48)
  have Fw13 := (F2.keep K8 nin0).same W13
  have N13 := Fr.snoc X13 N11 g1
  have O13 : Old Z n0 h13 := O8.wr W13 g1
  have pre_14 : ∀ t, Sp p e below T13 (mkF m 51 #[.val (.ref a1), .val (.ref a2), .val (.int (0 : Int32)), .val (.int (4 : Int32)), .val .null, .val (.ref b8)] []) t → Steps p.tables e below E0 t := fun t k => pre_12 t (st13 t k)
  have pre_15 : ∀ t, Sp p e below T13 (mkF m 54 #[.val (.ref a1), .val (.ref a2), .val (.int (0 : Int32)), .val (.int (4 : Int32)), .val .null, .val (.ref b8)] [(.ref b8), (.ref a1)]) t → Steps p.tables e below E0 t := by
    intro t k
    refine pre_14 t ?_
    show Sp p e below T13 (mkF m 51 #[.val (.ref a1), .val (.ref a2), .val (.int (0 : Int32)), .val (.int (4 : Int32)), .val .null, .val (.ref b8)] []) _
    refine XS.aloadN X13.here hx rfl (hb hby d_jdk_42_149_51) rfl rfl ?_
    show Sp p e below T13 (mkF m 52 #[.val (.ref a1), .val (.ref a2), .val (.int (0 : Int32)), .val (.int (4 : Int32)), .val .null, .val (.ref b8)] [(.ref a1)]) _
    refine XS.aload X13.here hx rfl (hb hby d_jdk_42_149_52) rfl rfl ?_
    exact k
  obtain ⟨T16, h16, X16, e16, W16, st16⟩ := putF X13 hx hZ hown (host := "") (Or.inl (own_w hw 65 rfl)) Via.refl e13 ((F1.keep K8 nin0).other W13 (Or.inr (slot_ne (Or.inr (own_w hw 61 rfl)) (Or.inr (own_w hw 62 rfl)) (by decide) (t := (.array .byte)) (t' := .byte) (by decide) (by decide)))) ((E1.keep K8).wr W13) (Or.inr ⟨(own_w hw 61 rfl), rfl, hnm⟩) (own_w hw 48 rfl) (ty := (.array .byte)) (by decide) rfl rfl (g := (mkF m 54 #[.val (.ref a1), .val (.ref a2), .val (.int (0 : Int32)), .val (.int (4 : Int32)), .val .null, .val (.ref b8)] [(.ref b8), (.ref a1)])) rfl rfl (hb hby d_jdk_42_149_54)
  have Fw16 := ((F1.keep K8 nin0).other W13 (Or.inr (slot_ne (Or.inr (own_w hw 61 rfl)) (Or.inr (own_w hw 62 rfl)) (by decide) (t := (.array .byte)) (t' := .byte) (by decide) (by decide)))).same W16
  have N16 := Fr.snoc X16 N13 g1
  have O16 : Old Z n0 h16 := O13.wr W16 g1
  have pre_17 : ∀ t, Sp p e below T16 (mkF m 57 #[.val (.ref a1), .val (.ref a2), .val (.int (0 : Int32)), .val (.int (4 : Int32)), .val .null, .val (.ref b8)] []) t → Steps p.tables e below E0 t := fun t k => pre_15 t (st16 t k)
  obtain ⟨fs, hr, hrun, hended, hW, hsame⟩ := X16.leave (v := none) (fun _ => rfl)
  refine ⟨_, _, pre_17 _ ?_, hrun, hended, _, _, rfl, ?_, ⟨_, rfl⟩, hW, hsame.mono (by decide) (by decide)⟩
  · show Sp p e below T16 (mkF m 57 #[.val (.ref a1), .val (.ref a2), .val (.int (0 : Int32)), .val (.int (4 : Int32)), .val .null, .val (.ref b8)] []) _
    exact X16.returnOut hx Bd.returns (hb hby d_jdk_42_149_57) hr
  · show Q_sti4 Z _ _ _ _ _ _ _ _ _ _ h0 n0 _ T16.heap _
    rw [e16]
    exact ⟨rfl, N16, ((((Keep.refl h0 [a1]).trans K8 all0).wr W13 (Or.inl (List.mem_of_getElem? (i := 0) rfl))).wr W16 (Or.inl (List.mem_of_getElem? (i := 0) rfl))), (Fw13.other W16 (Or.inr (slot_ne (Or.inr (own_w hw 62 rfl)) (Or.inr (own_w hw 61 rfl)) (by decide) (t := .byte) (t' := (.array .byte)) (by decide) (by decide)))), b8, kB8, (Nat.le_trans (Keep.refl h0 [a1]).1 sb8), Fw16, ((Vb8.other W13 (Ne.symm (Nat.ne_of_lt (Nat.lt_of_lt_of_le E1.lt sb8)))).other W16 (Ne.symm (Nat.ne_of_lt (Nat.lt_of_lt_of_le E1.lt sb8))))⟩
theorem pn_str4 : plainName "java/lang/String" = true := by first | (simp [plainName, overriddenIn]; done) | decide +kernel
theorem pd_str4_0 : parseMethodDescriptor "([CIILjava/lang/Void;)V" = some ⟨[(.array .char), .int, .int, (.object "java/lang/Void")], none⟩ := by decide +kernel
theorem ef_str4 (m : MethodId) (a1 : Addr) (a2 : Addr) : entryFrame m #[(.ref a1), (.ref a2)] 2 = (mkF m 0 #[.val (.ref a1), .val (.ref a2)] []) := by first | (simp [entryFrame, mkF, argsToLocals, Value.category]; done) | rfl
def Q_str4 (Z : State) (a1 : Addr) (a2 : Addr) (u1 u2 : Value) (G1 : Int32) (kC : ClassId) (c0 c1 c2 c3 : Int32) (h0 : Heap) (n0 : Nat) (v : Option Value) (h : Heap) (L : List Loc) : Prop := v = none ∧ Fr n0 L ∧ Keep h0 h [a1] ∧ Fld Z h a1 "java/lang/String" "coder" "B" (.int (0 : Int32)) ∧ ∃ b kB, h0.size ≤ b ∧ Fld Z h a1 "java/lang/String" "value" "[B" (.ref b) ∧ Arv Z h b kB .byte (4 : Int32) [(.int (c0).toInt8.toInt32), (.int (c1).toInt8.toInt32), (.int (c2).toInt8.toInt32), (.int (c3).toInt8.toInt32)] (.int (0 : Int32))
set_option maxRecDepth 65536 in
set_option maxHeartbeats 40000000 in
theorem rm_str4 (l : Launch) (Z : State) (a0 : Array Value) (hw : ∀ d ∈ tables_1, d.before a0 Z = true) (ws : List Jvm.Cond) (a1 : Addr) (a2 : Addr) (u1 u2 : Value) (G1 : Int32) (kC : ClassId) (c0 c1 c2 c3 : Int32) (h0 : Heap) (n0 : Nat) (O0 : Old Z n0 h0) (E1 : Exa Z h0 a1 "java/lang/String") (F1 : Fld Z h0 a1 "java/lang/String" "value" "[B" u1) (F2 : Fld Z h0 a1 "java/lang/String" "coder" "B" u2) (g1 : n0 ≤ a1) (SC : Sta Z Z.heap "java/lang/String" "COMPACT_STRINGS" "Z" (.int G1)) (hG : ¬ G1 = (0 : Int32)) (VC : Arv Z h0 a2 kC .char (4 : Int32) [(.int c0), (.int c1), (.int c2), (.int c3)] (.int (0 : Int32))) (hc0 : ¬ (255 : Int32) < c0) (hc1 : ¬ (255 : Int32) < c1) (hc2 : ¬ (255 : Int32) < c2) (hc3 : ¬ (255 : Int32) < c3) :
    MetFree l (⟨"java/lang/String", "<init>", "([C)V"⟩ : MethodName) (head1 (Jvm.Cond.code (⟨"java/lang/String", "<init>", "([C)V"⟩ : MethodName) jdk_42_method_3_code 2 none :: ws) ({ frames := 3, cells := 1, slots := 4, locals := 53 } : Room)) (fun a U => a = #[(.ref a1), (.ref a2)] ∧ Z.Warmed39 U.vm ∧ U.heap = h0) (fun _ _ _ _ _ => True) (fun _ U o U' => ∃ v L, o = .returned v ∧ Q_str4 Z a1 a2 u1 u2 G1 kC c0 c1 c2 c3 h0 n0 v U'.heap L ∧ FrameEnd U o U' L ({ frames := 3, cells := 1, slots := 4, locals := 53 } : Room).cells ({ frames := 3, cells := 1, slots := 4, locals := 53 } : Room).slots) := by
  refine MetFree.of_bodySF (plainFor_of_name pn_str4) hisR ?_
  intro p e s m args below meth c s₁ Bd hml0 hP hK
  obtain ⟨rfl, hZ, hh⟩ := hP
  have hx := Bd.exec
  have hby := Bd.bytes
  have hml : c.maxLocals = 2 := hml0
  have hown : s.vm.findClass "java/lang/String" = some m.cls := findClass_of_methodNamed Bd.named
  have hnm := (name_of_methodNamed Bd.named Bd.method).1
  have X0 : Stand p l e ({ frames := 3, cells := 1, slots := 4, locals := 53 } : Room) s m #[(.ref a1), (.ref a2)] below meth c s₁ [] 0 0 := Stand.of_body Bd
  have e0 : s₁.heap = h0 := by rw [← hh, Bd.state]; rfl
  have N0 := Fr.nil n0
  have pre0 : ∀ t, Steps p.tables e below (s₁.setTop (mkF m 0 #[.val (.ref a1), .val (.ref a2)] [])) t → Steps p.tables e below (s₁.setTop (entryFrame m #[(.ref a1), (.ref a2)] 2)) t := fun t k => castTop (ef_str4 m a1 a2) k
  generalize s₁.setTop (entryFrame m #[(.ref a1), (.ref a2)] 2) = E0 at pre0 ⊢
  have pre_2 : ∀ t, Sp p e below s₁ (mkF m 6 #[.val (.ref a1), .val (.ref a2)] [.null, (.int (4 : Int32)), (.int (0 : Int32)), (.ref a2), (.ref a1)]) t → Steps p.tables e below E0 t := by
    intro t k
    refine pre0 t ?_
    show Sp p e below s₁ (mkF m 0 #[.val (.ref a1), .val (.ref a2)] []) _
    refine XS.aloadN X0.here hx rfl (hb hby d_jdk_42_3_0) rfl rfl ?_
    refine XS.aloadN X0.here hx rfl (hb hby d_jdk_42_3_1) rfl rfl ?_
    refine XS.iconst X0.here hx rfl (hb hby d_jdk_42_3_2) ?_
    refine XS.aloadN X0.here hx rfl (hb hby d_jdk_42_3_3) rfl rfl ?_
    show Sp p e below s₁ (mkF m 4 #[.val (.ref a1), .val (.ref a2)] [(.ref a2), (.int (0 : Int32)), (.ref a2), (.ref a1)]) _
    obtain ⟨cl1, Ar1, -, S1, M1, -, -⟩ := id VC
    refine X0.arraylength hx (cell := cl1) (by rw [e0]; exact Ar1.1) (State.isArrayOf_alike hZ.alike Ar1.2.1) (g := (mkF m 4 #[.val (.ref a1), .val (.ref a2)] [(.ref a2), (.int (0 : Int32)), (.ref a2), (.ref a1)])) rfl (rest := [(.int (0 : Int32)), (.ref a2), (.ref a1)]) rfl (hb hby d_jdk_42_3_4) _ ?_
    rw [len_of S1 M1]
    show Sp p e below s₁ (mkF m 5 #[.val (.ref a1), .val (.ref a2)] [(.int (4 : Int32)), (.int (0 : Int32)), (.ref a2), (.ref a1)]) _
    refine XS.aconstNull X0.here hx rfl (hb hby d_jdk_42_3_5) ?_
    exact k
  obtain ⟨_, _, ⟨T3, L3, k3, n3⟩, -, X3, ⟨Lc3, hQ3, l3, y3, z3⟩, st3⟩ := X0.specialBack hx (y := (⟨"java/lang/String", "<init>", "([CIILjava/lang/Void;)V"⟩ : MethodName)) rfl hown (mvT hZ (own_w hw 54 rfl)) (mvT hZ (own_w hw 55 rfl)) (mvT hZ (own_w hw 57 rfl)) (by decide) (backOf (W := 0) (rm_sti4 l Z a0 hw [] a1 a2 u1 u2 G1 kC c0 c1 c2 c3 h0 n0 O0 E1 F1 F2 g1 SC hG VC hc0 hc1 hc2 hc3) hZ (own_w hw 57 rfl) (own_w hw 49 rfl) (by decide) (by decide)) (g := (mkF m 6 #[.val (.ref a1), .val (.ref a2)] [.null, (.int (4 : Int32)), (.int (0 : Int32)), (.ref a2), (.ref a1)])) rfl (by rw [hml]; rfl) (Steps.refl _) (a := a1) (argsL := [(.ref a2), (.int (0 : Int32)), (.int (4 : Int32)), .null]) (rest := []) (lenOf pd_str4_0 rfl) rfl (by show 2 * 0 + _ ≤ _; exact Nat.le_of_eq rfl) (hb hby d_jdk_42_3_6) (fun _ _ => ⟨rfl, e0, (by decide : 0 + 1 ≤ _), (by decide : 0 + 4 ≤ _)⟩)
  dsimp only [Pt.U, Pt.locs, Pt.cells, Pt.slots] at X3 l3 y3 z3 st3 hQ3
  subst l3 y3 z3
  obtain ⟨rfl, N3q, K3, Fc3, b3, kB3, sb3, Fv3, Vb3⟩ := hQ3
  have N3 := Fr.app N0 N3q
  have O3 : Old Z n0 T3.heap := O0.keep K3 (allS g1 all0)
  have pre_4 : ∀ t, Sp p e below T3 (mkF m 9 #[.val (.ref a1), .val (.ref a2)] []) t → Steps p.tables e below E0 t := fun t k => pre_2 t (st3.trans k)
  obtain ⟨fs, hr, hrun, hended, hW, hsame⟩ := X3.leave (v := none) (fun _ => rfl)
  refine ⟨_, _, pre_4 _ ?_, hrun, hended, _, _, rfl, ?_, ⟨_, rfl⟩, hW, hsame.mono (by decide) (by decide)⟩
  · show Sp p e below T3 (mkF m 9 #[.val (.ref a1), .val (.ref a2)] []) _
    exact X3.returnOut hx Bd.returns (hb hby d_jdk_42_3_9) hr
  · show Q_str4 Z _ _ _ _ _ _ _ _ _ _ h0 n0 _ T3.heap _
    exact ⟨rfl, N3, ((Keep.refl h0 [a1]).trans K3 (allS (Or.inl (List.mem_of_getElem? (i := 0) rfl)) all0)), Fc3, b3, kB3, sb3, Fv3, Vb3⟩
theorem d_jdk_42_149_8 : decode jdk_42_method_149_code 8 = .ok (.aload_n 0, 1) := by decide +kernel
theorem d_jdk_42_149_9 : decode jdk_42_method_149_code 9 = .ok (.ldc 7, 2) := by decide +kernel
theorem d_jdk_42_149_11 : decode jdk_42_method_149_code 11 = .ok (.getfield 9, 3) := by decide +kernel
theorem d_jdk_42_149_14 : decode jdk_42_method_149_code 14 = .ok (.putfield 9, 3) := by decide +kernel
theorem d_jdk_42_149_17 : decode jdk_42_method_149_code 17 = .ok (.aload_n 0, 1) := by decide +kernel
theorem d_jdk_42_149_18 : decode jdk_42_method_149_code 18 = .ok (.ldc 7, 2) := by decide +kernel
theorem d_jdk_42_149_20 : decode jdk_42_method_149_code 20 = .ok (.getfield 15, 3) := by decide +kernel
theorem d_jdk_42_149_23 : decode jdk_42_method_149_code 23 = .ok (.putfield 15, 3) := by decide +kernel
theorem d_jdk_42_149_26 : decode jdk_42_method_149_code 26 = .ok (.return_, 1) := by decide +kernel
theorem pn_sti0A : plainName "java/lang/String" = true := by first | (simp [plainName, overriddenIn]; done) | decide +kernel
theorem ef_sti0A (m : MethodId) (a1 : Addr) (a2 : Addr) : entryFrame m #[(.ref a1), (.ref a2), (.int (0 : Int32)), (.int (0 : Int32)), .null] 6 = (mkF m 0 #[.val (.ref a1), .val (.ref a2), .val (.int (0 : Int32)), .val (.int (0 : Int32)), .val .null, .unset] []) := by first | (simp [entryFrame, mkF, argsToLocals, Value.category]; done) | rfl
def Q_sti0A (Z : State) (a1 : Addr) (a2 : Addr) (u2 : Value) (h0 : Heap) (n0 : Nat) (v : Option Value) (vm : Vm) (h : Heap) (L : List Loc) : Prop := v = none ∧ Fr n0 L ∧ Keep h0 h [a1] ∧ Fld Z h a1 "java/lang/String" "coder" "B" (.int (0 : Int32)) ∧ ∃ aE bE kE, Fld Z h a1 "java/lang/String" "value" "[B" (.ref bE) ∧ Arv Z h bE kE .byte (0 : Int32) [] (.int (0 : Int32)) ∧ Exa Z h aE "java/lang/String" ∧ Fld Z h aE "java/lang/String" "value" "[B" (.ref bE) ∧ Fld Z h aE "java/lang/String" "coder" "B" (.int (0 : Int32)) ∧ Lit (Z.setVm vm) "java/lang/String" 7 aE
set_option maxRecDepth 65536 in
set_option maxHeartbeats 40000000 in
theorem rm_sti0A (l : Launch) (Z : State) (a0 : Array Value) (hw : ∀ d ∈ tables_1, d.before a0 Z = true) (ws : List Jvm.Cond) (a1 : Addr) (a2 : Addr) (u2 : Value) (h0 : Heap) (n0 : Nat) (O0 : Old Z n0 h0) (E1 : Exa Z h0 a1 "java/lang/String") (F1 : Fld Z h0 a1 "java/lang/String" "value" "[B" .null) (F2 : Fld Z h0 a1 "java/lang/String" "coder" "B" u2) (g1 : n0 ≤ a1) (hHC : Jvm.Lit.constHeld Z "java/lang/String" 7) (hCW : Jvm.Lit.compactW.before a0 Z = true) :
    MetFree l (⟨"java/lang/String", "<init>", "([CIILjava/lang/Void;)V"⟩ : MethodName) (head1 (Jvm.Cond.code (⟨"java/lang/String", "<init>", "([CIILjava/lang/Void;)V"⟩ : MethodName) jdk_42_method_149_code 6 none :: ws) ({ frames := 1, cells := 2, slots := 4, locals := 12 } : Room)) (fun a U => a = #[(.ref a1), (.ref a2), (.int (0 : Int32)), (.int (0 : Int32)), .null] ∧ Z.Warmed39 U.vm ∧ U.heap = h0 ∧ IB Z U.vm []) (fun _ _ _ _ _ => True) (fun _ U o U' => ∃ v L, o = .returned v ∧ Q_sti0A Z a1 a2 u2 h0 n0 v U'.vm U'.heap L ∧ ReturnedEndW U o U' L ({ frames := 1, cells := 2, slots := 4, locals := 12 } : Room).cells ({ frames := 1, cells := 2, slots := 4, locals := 12 } : Room).slots) := by
  refine MetFree.of_bodySF (plainFor_of_name pn_sti0A) hisR ?_
  intro p e s m args below meth c s₁ Bd hml0 hP hK
  obtain ⟨rfl, hZ, hh, hPV⟩ := hP
  have hx := Bd.exec
  have hby := Bd.bytes
  have hml : c.maxLocals = 6 := hml0
  have hown : s.vm.findClass "java/lang/String" = some m.cls := findClass_of_methodNamed Bd.named
  have hnm := (name_of_methodNamed Bd.named Bd.method).1
  have X0 : Stand p l e ({ frames := 1, cells := 2, slots := 4, locals := 12 } : Room) (s.setVm s.vm) m #[(.ref a1), (.ref a2), (.int (0 : Int32)), (.int (0 : Int32)), .null] below meth c s₁ [] 0 0 := Stand.of_body Bd
  have e0 : s₁.heap = h0 := by rw [← hh, Bd.state]; rfl
  have N0 := Fr.nil n0
  have pre0 : ∀ t, Steps p.tables e below (s₁.setTop (mkF m 0 #[.val (.ref a1), .val (.ref a2), .val (.int (0 : Int32)), .val (.int (0 : Int32)), .val .null, .unset] [])) t → Steps p.tables e below (s₁.setTop (entryFrame m #[(.ref a1), (.ref a2), (.int (0 : Int32)), (.int (0 : Int32)), .null] 6)) t := fun t k => castTop (ef_sti0A m a1 a2) k
  generalize s₁.setTop (entryFrame m #[(.ref a1), (.ref a2), (.int (0 : Int32)), (.int (0 : Int32)), .null] 6) = E0 at pre0 ⊢
  have pre_1 : ∀ t, Sp p e below s₁ (mkF m 1 #[.val (.ref a1), .val (.ref a2), .val (.int (0 : Int32)), .val (.int (0 : Int32)), .val .null, .unset] [(.ref a1)]) t → Steps p.tables e below E0 t := by
    intro t k
    refine pre0 t ?_
    show Sp p e below s₁ (mkF m 0 #[.val (.ref a1), .val (.ref a2), .val (.int (0 : Int32)), .val (.int (0 : Int32)), .val .null, .unset] []) _
    refine XS.aloadN X0.here hx rfl (hb hby d_jdk_42_149_0) rfl rfl ?_
    exact k
  obtain ⟨T2, X2, e2, st2⟩ := initO X0 hx hZ hown (own_w hw 58 rfl) (own_w hw 24 rfl) (own_w hw 25 rfl) e0 (g := (mkF m 1 #[.val (.ref a1), .val (.ref a2), .val (.int (0 : Int32)), .val (.int (0 : Int32)), .val .null, .unset] [(.ref a1)])) rfl (by rw [hml]; rfl) rfl (hb hby d_jdk_42_149_1) (by decide) (W := 0) (by show 2 * 0 + _ ≤ _; exact Nat.le_of_eq rfl) (by decide)
  have pre_3 : ∀ t, Sp p e below T2 (mkF m 4 #[.val (.ref a1), .val (.ref a2), .val (.int (0 : Int32)), .val (.int (0 : Int32)), .val .null, .unset] []) t → Steps p.tables e below E0 t := fun t k => pre_1 t (st2 t k)
  have pre_4 : ∀ t, Sp p e below T2 (mkF m 9 #[.val (.ref a1), .val (.ref a2), .val (.int (0 : Int32)), .val (.int (0 : Int32)), .val .null, .unset] [(.ref a1)]) t → Steps p.tables e below E0 t := by
    intro t k
    refine pre_3 t ?_
    show Sp p e below T2 (mkF m 4 #[.val (.ref a1), .val (.ref a2), .val (.int (0 : Int32)), .val (.int (0 : Int32)), .val .null, .unset] []) _
    refine XS.iloadN X2.here hx rfl (hb hby d_jdk_42_149_4) rfl ?_
    refine XS.ifNo X2.here hx rfl (hb hby d_jdk_42_149_5) rfl (XT.i0_ne_f (by decide)) ?_
    refine XS.aloadN X2.here hx rfl (hb hby d_jdk_42_149_8) rfl rfl ?_
    show Sp p e below T2 (mkF m 9 #[.val (.ref a1), .val (.ref a2), .val (.int (0 : Int32)), .val (.int (0 : Int32)), .val .null, .unset] [(.ref a1)]) _
    exact k
  obtain ⟨aE5, T5, h5, kq5, bE5, kE5, X5, e5, E5, hS5, hk5, hZ5, ho5, xE5, cE5, vE5, AE5, -, -, hI5, hL5, st5⟩ := ldcSVL (vm0 := s.vm) X2 hx hZ hown (own_w hw 59 rfl) (own_sa hw) e2 ((State.WarmedH.refl s).since 0) (Nat.le_trans (Nat.zero_le _) (Nat.le_refl _)) (Fr.nil _) (fun b cl q => by rw [hh]; exact O0.2.2 b cl q) hPV (by simp) hHC hCW (vs := []) (z := (0 : Int32)) ⟨by simp, rfl⟩ (by decide) rfl (g := (mkF m 9 #[.val (.ref a1), .val (.ref a2), .val (.int (0 : Int32)), .val (.int (0 : Int32)), .val .null, .unset] [(.ref a1)])) rfl (hb hby d_jdk_42_149_9) (n := 0) (by decide) (by decide) (by decide) (by decide)
  have O5 : Old Z n0 h5 := O0.ext E5
  have pre_6 : ∀ t, Sp p e below T5 (mkF m 11 #[.val (.ref a1), .val (.ref a2), .val (.int (0 : Int32)), .val (.int (0 : Int32)), .val .null, .unset] [(.ref aE5), (.ref a1)]) t → Steps p.tables e below E0 t := fun t k => pre_4 t (st5 t k)
  have neE : a1 ≠ aE5 := (F1.ext E5).ne vE5 (by simp)
  have neB : bE5 ≠ a1 := Ne.symm (Exa.neArv (E1.ext E5) AE5 (own_w hw 48 rfl))
  obtain ⟨T7, X7, e7, st7⟩ := getF X5 hx hZ5 ho5 (host := "") (Or.inl (own_w hw 65 rfl)) Via.refl e5 vE5 (g := (mkF m 11 #[.val (.ref a1), .val (.ref a2), .val (.int (0 : Int32)), .val (.int (0 : Int32)), .val .null, .unset] [(.ref aE5), (.ref a1)])) rfl rfl (hb hby d_jdk_42_149_11)
  have pre_8 : ∀ t, Sp p e below T7 (mkF m 14 #[.val (.ref a1), .val (.ref a2), .val (.int (0 : Int32)), .val (.int (0 : Int32)), .val .null, .unset] [(.ref bE5), (.ref a1)]) t → Steps p.tables e below E0 t := fun t k => pre_6 t (st7 t k)
  obtain ⟨T9, h9, X9, e9, W9, st9⟩ := putF X7 hx hZ5 ho5 (host := "") (Or.inl (own_w hw 65 rfl)) Via.refl e7 (F1.ext E5) (E1.ext E5) (Or.inr ⟨(own_w hw 61 rfl), rfl, hnm⟩) (own_w hw 48 rfl) (ty := (.array .byte)) (by decide) rfl rfl (g := (mkF m 14 #[.val (.ref a1), .val (.ref a2), .val (.int (0 : Int32)), .val (.int (0 : Int32)), .val .null, .unset] [(.ref bE5), (.ref a1)])) rfl rfl (hb hby d_jdk_42_149_14)
  have Fw9 := (F1.ext E5).same W9
  have N9 := Fr.snoc X9 N0 g1
  have O9 : Old Z n0 h9 := O5.wr W9 g1
  have pre_10 : ∀ t, Sp p e below T9 (mkF m 17 #[.val (.ref a1), .val (.ref a2), .val (.int (0 : Int32)), .val (.int (0 : Int32)), .val .null, .unset] []) t → Steps p.tables e below E0 t := fun t k => pre_8 t (st9 t k)
  have pre_11 : ∀ t, Sp p e below T9 (mkF m 20 #[.val (.ref a1), .val (.ref a2), .val (.int (0 : Int32)), .val (.int (0 : Int32)), .val .null, .unset] [(.ref aE5), (.ref a1)]) t → Steps p.tables e below E0 t := by
    intro t k
    refine pre_10 t ?_
    show Sp p e below T9 (mkF m 17 #[.val (.ref a1), .val (.ref a2), .val (.int (0 : Int32)), .val (.int (0 : Int32)), .val .null, .unset] []) _
    refine XS.aloadN X9.here hx rfl (hb hby d_jdk_42_149_17) rfl rfl ?_
    refine ldcAgain (vm0 := T5.vm) X9 hx hZ5 ho5 (own_w hw 59 rfl) hL5 (g := (mkF m 18 #[.val (.ref a1), .val (.ref a2), .val (.int (0 : Int32)), .val (.int (0 : Int32)), .val .null, .unset] [(.ref a1)])) rfl (hb hby d_jdk_42_149_18) _ ?_
    exact k
  obtain ⟨T12, X12, e12, st12⟩ := getF X9 hx hZ5 ho5 (host := "") (Or.inl (own_w hw 66 rfl)) Via.refl e9 (cE5.other W9 (Or.inl (Ne.symm neE))) (g := (mkF m 20 #[.val (.ref a1), .val (.ref a2), .val (.int (0 : Int32)), .val (.int (0 : Int32)), .val .null, .unset] [(.ref aE5), (.ref a1)])) rfl rfl (hb hby d_jdk_42_149_20)
  have pre_13 : ∀ t, Sp p e below T12 (mkF m 23 #[.val (.ref a1), .val (.ref a2), .val (.int (0 : Int32)), .val (.int (0 : Int32)), .val .null, .unset] [(.int (0 : Int32)), (.ref a1)]) t → Steps p.tables e below E0 t := fun t k => pre_11 t (st12 t k)
  obtain ⟨T14, h14, X14, e14, W14, st14⟩ := putF X12 hx hZ5 ho5 (host := "") (Or.inl (own_w hw 66 rfl)) Via.refl e12 ((F2.ext E5).other W9 (Or.inr (slot_ne (Or.inr (own_w hw 62 rfl)) (Or.inr (own_w hw 61 rfl)) (by decide) (t := .byte) (t' := (.array .byte)) (by decide) (by decide)))) ((E1.ext E5).wr W9) (Or.inr ⟨(own_w hw 62 rfl), rfl, hnm⟩) (own_w hw 48 rfl) (ty := .byte) (by decide) rfl rfl (g := (mkF m 23 #[.val (.ref a1), .val (.ref a2), .val (.int (0 : Int32)), .val (.int (0 : Int32)), .val .null, .unset] [(.int (0 : Int32)), (.ref a1)])) rfl rfl (hb hby d_jdk_42_149_23)
  have Fw14 := ((F2.ext E5).other W9 (Or.inr (slot_ne (Or.inr (own_w hw 62 rfl)) (Or.inr (own_w hw 61 rfl)) (by decide) (t := .byte) (t' := (.array .byte)) (by decide) (by decide)))).same W14
  have N14 := Fr.snoc X14 N9 g1
  have O14 : Old Z n0 h14 := O9.wr W14 g1
  have pre_15 : ∀ t, Sp p e below T14 (mkF m 26 #[.val (.ref a1), .val (.ref a2), .val (.int (0 : Int32)), .val (.int (0 : Int32)), .val .null, .unset] []) t → Steps p.tables e below E0 t := fun t k => pre_13 t (st14 t k)
  obtain ⟨fs, hr, hrun, hended, hEnd⟩ := X14.leaveW hS5 (by rw [e14]; exact (Nat.le_trans hk5 (Nat.le_trans (Nat.le_trans (Nat.le_refl _) (Nat.le_of_eq W9.size.symm)) (Nat.le_of_eq W14.size.symm)))) (v := none) (fun _ => rfl)
  refine ⟨_, _, pre_15 _ ?_, hrun, hended, _, _, rfl, ?_, hEnd.1, hEnd.2.1, hEnd.2.2.1, hEnd.2.2.2.mono (by decide) (by decide)⟩
  · show Sp p e below T14 (mkF m 26 #[.val (.ref a1), .val (.ref a2), .val (.int (0 : Int32)), .val (.int (0 : Int32)), .val .null, .unset] []) _
    exact X14.returnOut hx Bd.returns (hb hby d_jdk_42_149_26) hr
  · show Q_sti0A Z _ _ _ h0 n0 _ T14.vm T14.heap _
    rw [e14]
    exact ⟨rfl, N14, ((((Keep.refl h0 [a1]).ext E5).wr W9 (Or.inl (List.mem_of_getElem? (i := 0) rfl))).wr W14 (Or.inl (List.mem_of_getElem? (i := 0) rfl))), Fw14, aE5, bE5, kE5, (Fw9.other W14 (Or.inr (slot_ne (Or.inr (own_w hw 61 rfl)) (Or.inr (own_w hw 62 rfl)) (by decide) (t := (.array .byte)) (t' := .byte) (by decide) (by decide)))), ((AE5.other W9 neB).other W14 neB), ((xE5.wr W9).wr W14), ((vE5.other W9 (Or.inl (Ne.symm neE))).other W14 (Or.inl (Ne.symm neE))), ((cE5.other W9 (Or.inl (Ne.symm neE))).other W14 (Or.inl (Ne.symm neE))), (Lit.stays hL5 X14.warmed.wide)⟩
theorem pn_str0A : plainName "java/lang/String" = true := by first | (simp [plainName, overriddenIn]; done) | decide +kernel
theorem pd_str0A_0 : parseMethodDescriptor "([CIILjava/lang/Void;)V" = some ⟨[(.array .char), .int, .int, (.object "java/lang/Void")], none⟩ := by decide +kernel
theorem ef_str0A (m : MethodId) (a1 : Addr) (a2 : Addr) : entryFrame m #[(.ref a1), (.ref a2)] 2 = (mkF m 0 #[.val (.ref a1), .val (.ref a2)] []) := by first | (simp [entryFrame, mkF, argsToLocals, Value.category]; done) | rfl
def Q_str0A (Z : State) (a1 : Addr) (a2 : Addr) (u2 : Value) (kC : ClassId) (h0 : Heap) (n0 : Nat) (v : Option Value) (vm : Vm) (h : Heap) (L : List Loc) : Prop := v = none ∧ Fr n0 L ∧ Keep h0 h [a1] ∧ Fld Z h a1 "java/lang/String" "coder" "B" (.int (0 : Int32)) ∧ ∃ aE bE kE, Fld Z h a1 "java/lang/String" "value" "[B" (.ref bE) ∧ Arv Z h bE kE .byte (0 : Int32) [] (.int (0 : Int32)) ∧ Exa Z h aE "java/lang/String" ∧ Fld Z h aE "java/lang/String" "value" "[B" (.ref bE) ∧ Fld Z h aE "java/lang/String" "coder" "B" (.int (0 : Int32)) ∧ Lit (Z.setVm vm) "java/lang/String" 7 aE
set_option maxRecDepth 65536 in
set_option maxHeartbeats 40000000 in
theorem rm_str0A (l : Launch) (Z : State) (a0 : Array Value) (hw : ∀ d ∈ tables_1, d.before a0 Z = true) (ws : List Jvm.Cond) (a1 : Addr) (a2 : Addr) (u2 : Value) (kC : ClassId) (h0 : Heap) (n0 : Nat) (O0 : Old Z n0 h0) (E1 : Exa Z h0 a1 "java/lang/String") (F1 : Fld Z h0 a1 "java/lang/String" "value" "[B" .null) (F2 : Fld Z h0 a1 "java/lang/String" "coder" "B" u2) (g1 : n0 ≤ a1) (hHC : Jvm.Lit.constHeld Z "java/lang/String" 7) (hCW : Jvm.Lit.compactW.before a0 Z = true) (VC : Arv Z h0 a2 kC .char (0 : Int32) [] (.int (0 : Int32))) :
    MetFree l (⟨"java/lang/String", "<init>", "([C)V"⟩ : MethodName) (head1 (Jvm.Cond.code (⟨"java/lang/String", "<init>", "([C)V"⟩ : MethodName) jdk_42_method_3_code 2 none :: ws) ({ frames := 2, cells := 2, slots := 4, locals := 29 } : Room)) (fun a U => a = #[(.ref a1), (.ref a2)] ∧ Z.Warmed39 U.vm ∧ U.heap = h0 ∧ IB Z U.vm []) (fun _ _ _ _ _ => True) (fun _ U o U' => ∃ v L, o = .returned v ∧ Q_str0A Z a1 a2 u2 kC h0 n0 v U'.vm U'.heap L ∧ ReturnedEndW U o U' L ({ frames := 2, cells := 2, slots := 4, locals := 29 } : Room).cells ({ frames := 2, cells := 2, slots := 4, locals := 29 } : Room).slots) := by
  refine MetFree.of_bodySF (plainFor_of_name pn_str0A) hisR ?_
  intro p e s m args below meth c s₁ Bd hml0 hP hK
  obtain ⟨rfl, hZ, hh, hPV⟩ := hP
  have hx := Bd.exec
  have hby := Bd.bytes
  have hml : c.maxLocals = 2 := hml0
  have hown : s.vm.findClass "java/lang/String" = some m.cls := findClass_of_methodNamed Bd.named
  have hnm := (name_of_methodNamed Bd.named Bd.method).1
  have X0 : Stand p l e ({ frames := 2, cells := 2, slots := 4, locals := 29 } : Room) (s.setVm s.vm) m #[(.ref a1), (.ref a2)] below meth c s₁ [] 0 0 := Stand.of_body Bd
  have e0 : s₁.heap = h0 := by rw [← hh, Bd.state]; rfl
  have N0 := Fr.nil n0
  have pre0 : ∀ t, Steps p.tables e below (s₁.setTop (mkF m 0 #[.val (.ref a1), .val (.ref a2)] [])) t → Steps p.tables e below (s₁.setTop (entryFrame m #[(.ref a1), (.ref a2)] 2)) t := fun t k => castTop (ef_str0A m a1 a2) k
  generalize s₁.setTop (entryFrame m #[(.ref a1), (.ref a2)] 2) = E0 at pre0 ⊢
  have pre_2 : ∀ t, Sp p e below s₁ (mkF m 6 #[.val (.ref a1), .val (.ref a2)] [.null, (.int (0 : Int32)), (.int (0 : Int32)), (.ref a2), (.ref a1)]) t → Steps p.tables e below E0 t := by
    intro t k
    refine pre0 t ?_
    show Sp p e below s₁ (mkF m 0 #[.val (.ref a1), .val (.ref a2)] []) _
    refine XS.aloadN X0.here hx rfl (hb hby d_jdk_42_3_0) rfl rfl ?_
    refine XS.aloadN X0.here hx rfl (hb hby d_jdk_42_3_1) rfl rfl ?_
    refine XS.iconst X0.here hx rfl (hb hby d_jdk_42_3_2) ?_
    refine XS.aloadN X0.here hx rfl (hb hby d_jdk_42_3_3) rfl rfl ?_
    show Sp p e below s₁ (mkF m 4 #[.val (.ref a1), .val (.ref a2)] [(.ref a2), (.int (0 : Int32)), (.ref a2), (.ref a1)]) _
    obtain ⟨cl1, Ar1, -, S1, M1, -, -⟩ := id VC
    refine X0.arraylength hx (cell := cl1) (by rw [e0]; exact Ar1.1) (State.isArrayOf_alike hZ.alike Ar1.2.1) (g := (mkF m 4 #[.val (.ref a1), .val (.ref a2)] [(.ref a2), (.int (0 : Int32)), (.ref a2), (.ref a1)])) rfl (rest := [(.int (0 : Int32)), (.ref a2), (.ref a1)]) rfl (hb hby d_jdk_42_3_4) _ ?_
    rw [len_of S1 M1]
    show Sp p e below s₁ (mkF m 5 #[.val (.ref a1), .val (.ref a2)] [(.int (0 : Int32)), (.int (0 : Int32)), (.ref a2), (.ref a1)]) _
    refine XS.aconstNull X0.here hx rfl (hb hby d_jdk_42_3_5) ?_
    exact k
  obtain ⟨_, _, ⟨T3, L3, k3, n3⟩, -, Y3, hs3, hg3, ⟨Lc3, hQ3, l3, y3, z3⟩, st3⟩ := X0.specialBackS hx (y := (⟨"java/lang/String", "<init>", "([CIILjava/lang/Void;)V"⟩ : MethodName)) rfl hown (mvT hZ (own_w hw 54 rfl)) (mvT hZ (own_w hw 55 rfl)) (mvT hZ (own_w hw 57 rfl)) (by decide) (own_backS (W := 0) (rm_sti0A l Z a0 hw [] a1 a2 u2  h0 n0 O0 E1 F1 F2 g1 hHC hCW) hZ (own_w hw 57 rfl) (own_w hw 49 rfl) (by decide) (by decide) (fun _ q => own_IBw hPV q)) (g := (mkF m 6 #[.val (.ref a1), .val (.ref a2)] [.null, (.int (0 : Int32)), (.int (0 : Int32)), (.ref a2), (.ref a1)])) rfl (by rw [hml]; rfl) (Steps.refl _) (a := a1) (argsL := [(.ref a2), (.int (0 : Int32)), (.int (0 : Int32)), .null]) (rest := []) (lenOf pd_str0A_0 rfl) rfl (by show 2 * 0 + _ ≤ _; exact Nat.le_of_eq rfl) (hb hby d_jdk_42_3_6) (fun _ _ => ⟨rfl, e0, (by decide : 0 + 2 ≤ _), (by decide : 0 + 4 ≤ _)⟩)
  dsimp only [Pt.U, Pt.locs, Pt.cells, Pt.slots] at Y3 hs3 hg3 l3 y3 z3 st3 hQ3
  subst l3 y3 z3
  obtain ⟨X3, hS3, hZ3, ho3⟩ := rebS ((State.WarmedH.refl s).since 0) (by rw [e0]; exact (Nat.le_trans (Nat.zero_le _) (Nat.le_refl _))) Y3 hs3 hg3 hZ hown
  obtain ⟨rfl, N3q, K3, Fc3, aE3, bE3, kE3, Fv3, Ab3, xE3, vE3, cE3, hL3⟩ := hQ3
  have N3 := Fr.app N0 N3q
  have O3 : Old Z n0 T3.heap := O0.keep K3 (allS g1 all0)
  have pre_4 : ∀ t, Sp p e below T3 (mkF m 9 #[.val (.ref a1), .val (.ref a2)] []) t → Steps p.tables e below E0 t := fun t k => pre_2 t (st3.trans k)
  obtain ⟨fs, hr, hrun, hended, hEnd⟩ := X3.leaveW hS3 (Nat.le_trans (Nat.le_refl _) (Nat.le_refl _)) (v := none) (fun _ => rfl)
  refine ⟨_, _, pre_4 _ ?_, hrun, hended, _, _, rfl, ?_, hEnd.1, hEnd.2.1, hEnd.2.2.1, hEnd.2.2.2.mono (by decide) (by decide)⟩
  · show Sp p e below T3 (mkF m 9 #[.val (.ref a1), .val (.ref a2)] []) _
    exact X3.returnOut hx Bd.returns (hb hby d_jdk_42_3_9) hr
  · show Q_str0A Z _ _ _ _ h0 n0 _ T3.vm T3.heap _
    exact ⟨rfl, N3, ((Keep.refl h0 [a1]).trans K3 (allS (Or.inl (List.mem_of_getElem? (i := 0) rfl)) all0)), Fc3, aE3, bE3, kE3, Fv3, Ab3, xE3, vE3, cE3, (Lit.stays (hL3 : Lit (s.setVm T3.vm) "java/lang/String" 7 aE3) X3.warmed.wide)⟩
theorem d_method_2_0 : decode method_2_code 0 = .ok (.iload_n 1, 1) := by decide +kernel
theorem d_method_2_1 : decode method_2_code 1 = .ok (.sipush 255, 3) := by decide +kernel
theorem d_method_2_4 : decode method_2_code 4 = .ok (.iand, 1) := by decide +kernel
theorem d_method_2_5 : decode method_2_code 5 = .ok (.i2c, 1) := by decide +kernel
theorem d_method_2_6 : decode method_2_code 6 = .ok (.istore_n 3, 1) := by decide +kernel
theorem d_method_2_7 : decode method_2_code 7 = .ok (.iload_n 1, 1) := by decide +kernel
theorem d_method_2_8 : decode method_2_code 8 = .ok (.bipush 8, 2) := by decide +kernel
theorem d_method_2_10 : decode method_2_code 10 = .ok (.iushr, 1) := by decide +kernel
theorem d_method_2_11 : decode method_2_code 11 = .ok (.sipush 255, 3) := by decide +kernel
theorem d_method_2_14 : decode method_2_code 14 = .ok (.iand, 1) := by decide +kernel
theorem d_method_2_15 : decode method_2_code 15 = .ok (.i2c, 1) := by decide +kernel
theorem d_method_2_16 : decode method_2_code 16 = .ok (.istore 4, 2) := by decide +kernel
theorem d_method_2_18 : decode method_2_code 18 = .ok (.iload_n 1, 1) := by decide +kernel
theorem d_method_2_19 : decode method_2_code 19 = .ok (.bipush 16, 2) := by decide +kernel
theorem d_method_2_21 : decode method_2_code 21 = .ok (.iushr, 1) := by decide +kernel
theorem d_method_2_22 : decode method_2_code 22 = .ok (.sipush 255, 3) := by decide +kernel
theorem d_method_2_25 : decode method_2_code 25 = .ok (.iand, 1) := by decide +kernel
theorem d_method_2_26 : decode method_2_code 26 = .ok (.i2c, 1) := by decide +kernel
theorem d_method_2_27 : decode method_2_code 27 = .ok (.istore 5, 2) := by decide +kernel
theorem d_method_2_29 : decode method_2_code 29 = .ok (.iload_n 2, 1) := by decide +kernel
theorem d_method_2_30 : decode method_2_code 30 = .ok (.sipush 255, 3) := by decide +kernel
theorem d_method_2_33 : decode method_2_code 33 = .ok (.iand, 1) := by decide +kernel
theorem d_method_2_34 : decode method_2_code 34 = .ok (.i2c, 1) := by decide +kernel
theorem d_method_2_35 : decode method_2_code 35 = .ok (.istore 6, 2) := by decide +kernel
theorem d_method_2_37 : decode method_2_code 37 = .ok (.iload_n 0, 1) := by decide +kernel
theorem d_method_2_38 : decode method_2_code 38 = .ok (.bipush 7, 2) := by decide +kernel
theorem d_method_2_40 : decode method_2_code 40 = .ok (.iand, 1) := by decide +kernel
theorem d_method_2_41 : decode method_2_code 41 = .ok (.istore 7, 2) := by decide +kernel
theorem d_method_2_43 : decode method_2_code 43 = .ok (.iload 7, 2) := by decide +kernel
theorem d_method_2_45 : decode method_2_code 45 = .ok (.ifCond .ne 5, 3) := by decide +kernel
theorem d_method_2_48 : decode method_2_code 48 = .ok (.aconst_null, 1) := by decide +kernel
theorem d_method_2_49 : decode method_2_code 49 = .ok (.areturn, 1) := by decide +kernel
theorem d_method_2_50 : decode method_2_code 50 = .ok (.iload 7, 2) := by decide +kernel
theorem d_method_2_52 : decode method_2_code 52 = .ok (.iconst 1, 1) := by decide +kernel
theorem d_method_2_53 : decode method_2_code 53 = .ok (.if_icmp .ne 14, 3) := by decide +kernel
theorem d_method_2_56 : decode method_2_code 56 = .ok (.new 7, 3) := by decide +kernel
theorem d_method_2_59 : decode method_2_code 59 = .ok (.dup, 1) := by decide +kernel
theorem d_method_2_60 : decode method_2_code 60 = .ok (.iconst 0, 1) := by decide +kernel
theorem d_method_2_61 : decode method_2_code 61 = .ok (.newarray .char, 2) := by decide +kernel
theorem d_method_2_63 : decode method_2_code 63 = .ok (.invokespecial 9, 3) := by decide +kernel
theorem d_method_2_66 : decode method_2_code 66 = .ok (.areturn, 1) := by decide +kernel
theorem d_method_2_67 : decode method_2_code 67 = .ok (.iload 7, 2) := by decide +kernel
theorem d_method_2_69 : decode method_2_code 69 = .ok (.iconst 2, 1) := by decide +kernel
theorem d_method_2_70 : decode method_2_code 70 = .ok (.if_icmp .ne 18, 3) := by decide +kernel
theorem d_method_2_73 : decode method_2_code 73 = .ok (.new 7, 3) := by decide +kernel
theorem d_method_2_76 : decode method_2_code 76 = .ok (.dup, 1) := by decide +kernel
theorem d_method_2_77 : decode method_2_code 77 = .ok (.iconst 1, 1) := by decide +kernel
theorem d_method_2_78 : decode method_2_code 78 = .ok (.newarray .char, 2) := by decide +kernel
theorem d_method_2_80 : decode method_2_code 80 = .ok (.dup, 1) := by decide +kernel
theorem d_method_2_81 : decode method_2_code 81 = .ok (.iconst 0, 1) := by decide +kernel
theorem d_method_2_82 : decode method_2_code 82 = .ok (.iload_n 3, 1) := by decide +kernel
theorem d_method_2_83 : decode method_2_code 83 = .ok (.castore, 1) := by decide +kernel
theorem d_method_2_84 : decode method_2_code 84 = .ok (.invokespecial 9, 3) := by decide +kernel
theorem d_method_2_87 : decode method_2_code 87 = .ok (.areturn, 1) := by decide +kernel
theorem d_method_2_88 : decode method_2_code 88 = .ok (.iload 7, 2) := by decide +kernel
theorem d_method_2_90 : decode method_2_code 90 = .ok (.iconst 3, 1) := by decide +kernel
theorem d_method_2_91 : decode method_2_code 91 = .ok (.if_icmp .ne 23, 3) := by decide +kernel
theorem d_method_2_94 : decode method_2_code 94 = .ok (.new 7, 3) := by decide +kernel
theorem d_method_2_97 : decode method_2_code 97 = .ok (.dup, 1) := by decide +kernel
theorem d_method_2_98 : decode method_2_code 98 = .ok (.iconst 2, 1) := by decide +kernel
theorem d_method_2_99 : decode method_2_code 99 = .ok (.newarray .char, 2) := by decide +kernel
theorem d_method_2_101 : decode method_2_code 101 = .ok (.dup, 1) := by decide +kernel
theorem d_method_2_102 : decode method_2_code 102 = .ok (.iconst 0, 1) := by decide +kernel
theorem d_method_2_103 : decode method_2_code 103 = .ok (.iload_n 3, 1) := by decide +kernel
theorem d_method_2_104 : decode method_2_code 104 = .ok (.castore, 1) := by decide +kernel
theorem d_method_2_105 : decode method_2_code 105 = .ok (.dup, 1) := by decide +kernel
theorem d_method_2_106 : decode method_2_code 106 = .ok (.iconst 1, 1) := by decide +kernel
theorem d_method_2_107 : decode method_2_code 107 = .ok (.iload 4, 2) := by decide +kernel
theorem d_method_2_109 : decode method_2_code 109 = .ok (.castore, 1) := by decide +kernel
theorem d_method_2_110 : decode method_2_code 110 = .ok (.invokespecial 9, 3) := by decide +kernel
theorem d_method_2_113 : decode method_2_code 113 = .ok (.areturn, 1) := by decide +kernel
theorem d_method_2_114 : decode method_2_code 114 = .ok (.iload 7, 2) := by decide +kernel
theorem d_method_2_116 : decode method_2_code 116 = .ok (.iconst 4, 1) := by decide +kernel
theorem d_method_2_117 : decode method_2_code 117 = .ok (.if_icmp .ne 28, 3) := by decide +kernel
theorem d_method_2_120 : decode method_2_code 120 = .ok (.new 7, 3) := by decide +kernel
theorem d_method_2_123 : decode method_2_code 123 = .ok (.dup, 1) := by decide +kernel
theorem d_method_2_124 : decode method_2_code 124 = .ok (.iconst 3, 1) := by decide +kernel
theorem d_method_2_125 : decode method_2_code 125 = .ok (.newarray .char, 2) := by decide +kernel
theorem d_method_2_127 : decode method_2_code 127 = .ok (.dup, 1) := by decide +kernel
theorem d_method_2_128 : decode method_2_code 128 = .ok (.iconst 0, 1) := by decide +kernel
theorem d_method_2_129 : decode method_2_code 129 = .ok (.iload_n 3, 1) := by decide +kernel
theorem d_method_2_130 : decode method_2_code 130 = .ok (.castore, 1) := by decide +kernel
theorem d_method_2_131 : decode method_2_code 131 = .ok (.dup, 1) := by decide +kernel
theorem d_method_2_132 : decode method_2_code 132 = .ok (.iconst 1, 1) := by decide +kernel
theorem d_method_2_133 : decode method_2_code 133 = .ok (.iload 4, 2) := by decide +kernel
theorem d_method_2_135 : decode method_2_code 135 = .ok (.castore, 1) := by decide +kernel
theorem d_method_2_136 : decode method_2_code 136 = .ok (.dup, 1) := by decide +kernel
theorem d_method_2_137 : decode method_2_code 137 = .ok (.iconst 2, 1) := by decide +kernel
theorem d_method_2_138 : decode method_2_code 138 = .ok (.iload 5, 2) := by decide +kernel
theorem d_method_2_140 : decode method_2_code 140 = .ok (.castore, 1) := by decide +kernel
theorem d_method_2_141 : decode method_2_code 141 = .ok (.invokespecial 9, 3) := by decide +kernel
theorem d_method_2_144 : decode method_2_code 144 = .ok (.areturn, 1) := by decide +kernel
theorem d_method_2_145 : decode method_2_code 145 = .ok (.new 7, 3) := by decide +kernel
theorem d_method_2_148 : decode method_2_code 148 = .ok (.dup, 1) := by decide +kernel
theorem d_method_2_149 : decode method_2_code 149 = .ok (.iconst 4, 1) := by decide +kernel
theorem d_method_2_150 : decode method_2_code 150 = .ok (.newarray .char, 2) := by decide +kernel
theorem d_method_2_152 : decode method_2_code 152 = .ok (.dup, 1) := by decide +kernel
theorem d_method_2_153 : decode method_2_code 153 = .ok (.iconst 0, 1) := by decide +kernel
theorem d_method_2_154 : decode method_2_code 154 = .ok (.iload_n 3, 1) := by decide +kernel
theorem d_method_2_155 : decode method_2_code 155 = .ok (.castore, 1) := by decide +kernel
theorem d_method_2_156 : decode method_2_code 156 = .ok (.dup, 1) := by decide +kernel
theorem d_method_2_157 : decode method_2_code 157 = .ok (.iconst 1, 1) := by decide +kernel
theorem d_method_2_158 : decode method_2_code 158 = .ok (.iload 4, 2) := by decide +kernel
theorem d_method_2_160 : decode method_2_code 160 = .ok (.castore, 1) := by decide +kernel
theorem d_method_2_161 : decode method_2_code 161 = .ok (.dup, 1) := by decide +kernel
theorem d_method_2_162 : decode method_2_code 162 = .ok (.iconst 2, 1) := by decide +kernel
theorem d_method_2_163 : decode method_2_code 163 = .ok (.iload 5, 2) := by decide +kernel
theorem d_method_2_165 : decode method_2_code 165 = .ok (.castore, 1) := by decide +kernel
theorem d_method_2_166 : decode method_2_code 166 = .ok (.dup, 1) := by decide +kernel
theorem d_method_2_167 : decode method_2_code 167 = .ok (.iconst 3, 1) := by decide +kernel
theorem d_method_2_168 : decode method_2_code 168 = .ok (.iload 6, 2) := by decide +kernel
theorem d_method_2_170 : decode method_2_code 170 = .ok (.castore, 1) := by decide +kernel
theorem d_method_2_171 : decode method_2_code 171 = .ok (.invokespecial 9, 3) := by decide +kernel
theorem d_method_2_174 : decode method_2_code 174 = .ok (.areturn, 1) := by decide +kernel
theorem pn_drawn : plainName "com/example/drover/drover/operator/passes/FoundMissingPinLaw" = true := by first | (simp [plainName, overriddenIn]; done) | decide +kernel
theorem pd_drawn_0 : parseMethodDescriptor "([C)V" = some ⟨[(.array .char)], none⟩ := by decide +kernel
theorem ef_drawn (m : MethodId) (p1 : Int32) (p2 : Int32) (p3 : Int32) : entryFrame m #[(.int p1), (.int p2), (.int p3)] 8 = (mkF m 0 #[.val (.int p1), .val (.int p2), .val (.int p3), .unset, .unset, .unset, .unset, .unset] []) := by first | (simp [entryFrame, mkF, argsToLocals, Value.category]; done) | rfl
def Q_drawn (Z : State) (p1 : Int32) (p2 : Int32) (p3 : Int32) (G1 : Int32) (h0 : Heap) (n0 : Nat) (v : Option Value) (vm : Vm) (h : Heap) (L : List Loc) : Prop := ∃ w, v = some w ∧ (w = .null ∨ ∃ a, w = .ref a ∧ Exa Z h a "java/lang/String") ∧ Fr n0 L ∧ Keep h0 h []
set_option maxRecDepth 65536 in
set_option maxHeartbeats 40000000 in
theorem rm_drawn (l : Launch) (Z : State) (a0 : Array Value) (hw : ∀ d ∈ tables_1, d.before a0 Z = true) (ws : List Jvm.Cond) (p1 : Int32) (p2 : Int32) (p3 : Int32) (G1 : Int32) (h0 : Heap) (n0 : Nat) (O0 : Old Z n0 h0) (SC : Sta Z Z.heap "java/lang/String" "COMPACT_STRINGS" "Z" (.int G1)) (hG : ¬ G1 = (0 : Int32)) (hHC : Jvm.Lit.constHeld Z "java/lang/String" 7) (hCW : Jvm.Lit.compactW.before a0 Z = true) :
    MetFree l (⟨"com/example/drover/drover/operator/passes/FoundMissingPinLaw", "drawn", "(III)Ljava/lang/String;"⟩ : MethodName) (head1 (Jvm.Cond.code (⟨"com/example/drover/drover/operator/passes/FoundMissingPinLaw", "drawn", "(III)Ljava/lang/String;"⟩ : MethodName) method_2_code 8 (some (.object "java/lang/String")) :: ws) ({ frames := 4, cells := 4, slots := 12, locals := 70 } : Room)) (fun a U => a = #[(.int p1), (.int p2), (.int p3)] ∧ Z.Warmed39 U.vm ∧ U.heap = h0 ∧ IB Z U.vm []) (fun _ _ _ _ _ => True) (fun _ U o U' => ∃ v L, o = .returned v ∧ Q_drawn Z p1 p2 p3 G1 h0 n0 v U'.vm U'.heap L ∧ ReturnedEndW U o U' L ({ frames := 4, cells := 4, slots := 12, locals := 70 } : Room).cells ({ frames := 4, cells := 4, slots := 12, locals := 70 } : Room).slots) := by
  refine MetFree.of_bodySF (plainFor_of_name pn_drawn) hisR ?_
  intro p e s m args below meth c s₁ Bd hml0 hP hK
  obtain ⟨rfl, hZ, hh, hPV⟩ := hP
  have hx := Bd.exec
  have hby := Bd.bytes
  have hml : c.maxLocals = 8 := hml0
  have hown : s.vm.findClass "com/example/drover/drover/operator/passes/FoundMissingPinLaw" = some m.cls := findClass_of_methodNamed Bd.named
  have hnm := (name_of_methodNamed Bd.named Bd.method).1
  have X0 : Stand p l e ({ frames := 4, cells := 4, slots := 12, locals := 70 } : Room) (s.setVm s.vm) m #[(.int p1), (.int p2), (.int p3)] below meth c s₁ [] 0 0 := Stand.of_body Bd
  have e0 : s₁.heap = h0 := by rw [← hh, Bd.state]; rfl
  have N0 := Fr.nil n0
  have pre0 : ∀ t, Steps p.tables e below (s₁.setTop (mkF m 0 #[.val (.int p1), .val (.int p2), .val (.int p3), .unset, .unset, .unset, .unset, .unset] [])) t → Steps p.tables e below (s₁.setTop (entryFrame m #[(.int p1), (.int p2), (.int p3)] 8)) t := fun t k => castTop (ef_drawn m p1 p2 p3) k
  generalize s₁.setTop (entryFrame m #[(.int p1), (.int p2), (.int p3)] 8) = E0 at pre0 ⊢
  have pre_1 : ∀ t, Sp p e below s₁ (mkF m 43 #[.val (.int p1), .val (.int p2), .val (.int p3), .val (.int (((p2 &&& (255 : Int32))).toUInt32.toUInt16.toUInt32.toInt32)), .val (.int ((((XT.ushr p2 (8 : Int32)) &&& (255 : Int32))).toUInt32.toUInt16.toUInt32.toInt32)), .val (.int ((((XT.ushr p2 (16 : Int32)) &&& (255 : Int32))).toUInt32.toUInt16.toUInt32.toInt32)), .val (.int (((p3 &&& (255 : Int32))).toUInt32.toUInt16.toUInt32.toInt32)), .val (.int (p1 &&& (7 : Int32)))] []) t → Steps p.tables e below E0 t := by
    intro t k
    refine pre0 t ?_
    show Sp p e below s₁ (mkF m 0 #[.val (.int p1), .val (.int p2), .val (.int p3), .unset, .unset, .unset, .unset, .unset] []) _
    refine XS.iloadN X0.here hx rfl (hb hby d_method_2_0) rfl ?_
    refine XS.sipush X0.here hx rfl (hb hby d_method_2_1) ?_
    refine XS.iand X0.here hx rfl (hb hby d_method_2_4) rfl ?_
    refine XT.i2c X0.here hx rfl (hb hby d_method_2_5) rfl ?_
    show Sp p e below s₁ (mkF m 6 #[.val (.int p1), .val (.int p2), .val (.int p3), .unset, .unset, .unset, .unset, .unset] [(.int (((p2 &&& (255 : Int32))).toUInt32.toUInt16.toUInt32.toInt32))]) _
    refine XS.istoreN X0.here hx rfl (hb hby d_method_2_6) rfl (l' := #[.val (.int p1), .val (.int p2), .val (.int p3), .val (.int (((p2 &&& (255 : Int32))).toUInt32.toUInt16.toUInt32.toInt32)), .unset, .unset, .unset, .unset]) rfl ?_
    refine XS.iloadN X0.here hx rfl (hb hby d_method_2_7) rfl ?_
    refine XS.bipush X0.here hx rfl (hb hby d_method_2_8) ?_
    refine XT.iushr X0.here hx rfl (hb hby d_method_2_10) rfl ?_
    show Sp p e below s₁ (mkF m 11 #[.val (.int p1), .val (.int p2), .val (.int p3), .val (.int (((p2 &&& (255 : Int32))).toUInt32.toUInt16.toUInt32.toInt32)), .unset, .unset, .unset, .unset] [(.int (XT.ushr p2 (8 : Int32)))]) _
    refine XS.sipush X0.here hx rfl (hb hby d_method_2_11) ?_
    refine XS.iand X0.here hx rfl (hb hby d_method_2_14) rfl ?_
    refine XT.i2c X0.here hx rfl (hb hby d_method_2_15) rfl ?_
    refine XS.istore X0.here hx rfl (hb hby d_method_2_16) rfl (l' := #[.val (.int p1), .val (.int p2), .val (.int p3), .val (.int (((p2 &&& (255 : Int32))).toUInt32.toUInt16.toUInt32.toInt32)), .val (.int ((((XT.ushr p2 (8 : Int32)) &&& (255 : Int32))).toUInt32.toUInt16.toUInt32.toInt32)), .unset, .unset, .unset]) rfl ?_
    show Sp p e below s₁ (mkF m 18 #[.val (.int p1), .val (.int p2), .val (.int p3), .val (.int (((p2 &&& (255 : Int32))).toUInt32.toUInt16.toUInt32.toInt32)), .val (.int ((((XT.ushr p2 (8 : Int32)) &&& (255 : Int32))).toUInt32.toUInt16.toUInt32.toInt32)), .unset, .unset, .unset] []) _
    refine XS.iloadN X0.here hx rfl (hb hby d_method_2_18) rfl ?_
    refine XS.bipush X0.here hx rfl (hb hby d_method_2_19) ?_
    refine XT.iushr X0.here hx rfl (hb hby d_method_2_21) rfl ?_
    refine XS.sipush X0.here hx rfl (hb hby d_method_2_22) ?_
    show Sp p e below s₁ (mkF m 25 #[.val (.int p1), .val (.int p2), .val (.int p3), .val (.int (((p2 &&& (255 : Int32))).toUInt32.toUInt16.toUInt32.toInt32)), .val (.int ((((XT.ushr p2 (8 : Int32)) &&& (255 : Int32))).toUInt32.toUInt16.toUInt32.toInt32)), .unset, .unset, .unset] [(.int (255 : Int32)), (.int (XT.ushr p2 (16 : Int32)))]) _
    refine XS.iand X0.here hx rfl (hb hby d_method_2_25) rfl ?_
    refine XT.i2c X0.here hx rfl (hb hby d_method_2_26) rfl ?_
    refine XS.istore X0.here hx rfl (hb hby d_method_2_27) rfl (l' := #[.val (.int p1), .val (.int p2), .val (.int p3), .val (.int (((p2 &&& (255 : Int32))).toUInt32.toUInt16.toUInt32.toInt32)), .val (.int ((((XT.ushr p2 (8 : Int32)) &&& (255 : Int32))).toUInt32.toUInt16.toUInt32.toInt32)), .val (.int ((((XT.ushr p2 (16 : Int32)) &&& (255 : Int32))).toUInt32.toUInt16.toUInt32.toInt32)), .unset, .unset]) rfl ?_
    refine XS.iloadN X0.here hx rfl (hb hby d_method_2_29) rfl ?_
    show Sp p e below s₁ (mkF m 30 #[.val (.int p1), .val (.int p2), .val (.int p3), .val (.int (((p2 &&& (255 : Int32))).toUInt32.toUInt16.toUInt32.toInt32)), .val (.int ((((XT.ushr p2 (8 : Int32)) &&& (255 : Int32))).toUInt32.toUInt16.toUInt32.toInt32)), .val (.int ((((XT.ushr p2 (16 : Int32)) &&& (255 : Int32))).toUInt32.toUInt16.toUInt32.toInt32)), .unset, .unset] [(.int p3)]) _
    refine XS.sipush X0.here hx rfl (hb hby d_method_2_30) ?_
    refine XS.iand X0.here hx rfl (hb hby d_method_2_33) rfl ?_
    refine XT.i2c X0.here hx rfl (hb hby d_method_2_34) rfl ?_
    refine XS.istore X0.here hx rfl (hb hby d_method_2_35) rfl (l' := #[.val (.int p1), .val (.int p2), .val (.int p3), .val (.int (((p2 &&& (255 : Int32))).toUInt32.toUInt16.toUInt32.toInt32)), .val (.int ((((XT.ushr p2 (8 : Int32)) &&& (255 : Int32))).toUInt32.toUInt16.toUInt32.toInt32)), .val (.int ((((XT.ushr p2 (16 : Int32)) &&& (255 : Int32))).toUInt32.toUInt16.toUInt32.toInt32)), .val (.int (((p3 &&& (255 : Int32))).toUInt32.toUInt16.toUInt32.toInt32)), .unset]) rfl ?_
    show Sp p e below s₁ (mkF m 37 #[.val (.int p1), .val (.int p2), .val (.int p3), .val (.int (((p2 &&& (255 : Int32))).toUInt32.toUInt16.toUInt32.toInt32)), .val (.int ((((XT.ushr p2 (8 : Int32)) &&& (255 : Int32))).toUInt32.toUInt16.toUInt32.toInt32)), .val (.int ((((XT.ushr p2 (16 : Int32)) &&& (255 : Int32))).toUInt32.toUInt16.toUInt32.toInt32)), .val (.int (((p3 &&& (255 : Int32))).toUInt32.toUInt16.toUInt32.toInt32)), .unset] []) _
    refine XS.iloadN X0.here hx rfl (hb hby d_method_2_37) rfl ?_
    refine XS.bipush X0.here hx rfl (hb hby d_method_2_38) ?_
    refine XS.iand X0.here hx rfl (hb hby d_method_2_40) rfl ?_
    refine XS.istore X0.here hx rfl (hb hby d_method_2_41) rfl (l' := #[.val (.int p1), .val (.int p2), .val (.int p3), .val (.int (((p2 &&& (255 : Int32))).toUInt32.toUInt16.toUInt32.toInt32)), .val (.int ((((XT.ushr p2 (8 : Int32)) &&& (255 : Int32))).toUInt32.toUInt16.toUInt32.toInt32)), .val (.int ((((XT.ushr p2 (16 : Int32)) &&& (255 : Int32))).toUInt32.toUInt16.toUInt32.toInt32)), .val (.int (((p3 &&& (255 : Int32))).toUInt32.toUInt16.toUInt32.toInt32)), .val (.int (p1 &&& (7 : Int32)))]) rfl ?_
    show Sp p e below s₁ (mkF m 43 #[.val (.int p1), .val (.int p2), .val (.int p3), .val (.int (((p2 &&& (255 : Int32))).toUInt32.toUInt16.toUInt32.toInt32)), .val (.int ((((XT.ushr p2 (8 : Int32)) &&& (255 : Int32))).toUInt32.toUInt16.toUInt32.toInt32)), .val (.int ((((XT.ushr p2 (16 : Int32)) &&& (255 : Int32))).toUInt32.toUInt16.toUInt32.toInt32)), .val (.int (((p3 &&& (255 : Int32))).toUInt32.toUInt16.toUInt32.toInt32)), .val (.int (p1 &&& (7 : Int32)))] []) _
    exact k
  have hcc0 := own_c255 p2
  generalize (p2 &&& (255 : Int32)).toUInt32.toUInt16.toUInt32.toInt32 = c0 at hcc0 pre_1
  have hcc1 := own_c255 (XT.ushr p2 (8 : Int32))
  generalize ((XT.ushr p2 (8 : Int32)) &&& (255 : Int32)).toUInt32.toUInt16.toUInt32.toInt32 = c1 at hcc1 pre_1
  have hcc2 := own_c255 (XT.ushr p2 (16 : Int32))
  generalize ((XT.ushr p2 (16 : Int32)) &&& (255 : Int32)).toUInt32.toUInt16.toUInt32.toInt32 = c2 at hcc2 pre_1
  have hcc3 := own_c255 p3
  generalize (p3 &&& (255 : Int32)).toUInt32.toUInt16.toUInt32.toInt32 = c3 at hcc3 pre_1
  generalize (p1 &&& (7 : Int32)) = nn at pre_1
  have pre_2 : ∀ t, Sp p e below s₁ (mkF m 45 #[.val (.int p1), .val (.int p2), .val (.int p3), .val (.int c0), .val (.int c1), .val (.int c2), .val (.int c3), .val (.int nn)] [(.int nn)]) t → Steps p.tables e below E0 t := by
    intro t k
    refine pre_1 t ?_
    show Sp p e below s₁ (mkF m 43 #[.val (.int p1), .val (.int p2), .val (.int p3), .val (.int c0), .val (.int c1), .val (.int c2), .val (.int c3), .val (.int nn)] []) _
    refine XS.iload X0.here hx rfl (hb hby d_method_2_43) rfl ?_
    exact k
  by_cases hc3 : nn = (0 : Int32)
  · skip
    have pre_4 : ∀ t, Sp p e below s₁ (mkF m 49 #[.val (.int p1), .val (.int p2), .val (.int p3), .val (.int c0), .val (.int c1), .val (.int c2), .val (.int c3), .val (.int nn)] [.null]) t → Steps p.tables e below E0 t := by
      intro t k
      refine pre_2 t ?_
      show Sp p e below s₁ (mkF m 45 #[.val (.int p1), .val (.int p2), .val (.int p3), .val (.int c0), .val (.int c1), .val (.int c2), .val (.int c3), .val (.int nn)] [(.int nn)]) _
      refine XS.ifNo X0.here hx rfl (hb hby d_method_2_45) rfl (XT.i0_ne_f hc3) ?_
      refine XS.aconstNull X0.here hx rfl (hb hby d_method_2_48) ?_
      exact k
    obtain ⟨fs, hr, hrun, hended, hEnd⟩ := X0.leaveW ((State.WarmedH.refl s).since 0) (by rw [e0]; exact (Nat.le_trans (Nat.zero_le _) (Nat.le_refl _))) (v := some .null) (fun h => by rw [Bd.returns] at h; cases h)
    refine ⟨_, _, pre_4 _ ?_, hrun, hended, _, _, rfl, ?_, hEnd.1, hEnd.2.1, hEnd.2.2.1, hEnd.2.2.2.mono (by decide) (by decide)⟩
    · show Sp p e below s₁ (mkF m 49 #[.val (.int p1), .val (.int p2), .val (.int p3), .val (.int c0), .val (.int c1), .val (.int c2), .val (.int c3), .val (.int nn)] [.null]) _
      exact retOut X0 hx (t := (.object "java/lang/String")) Bd.returns rfl (Or.inr (Or.inr (Or.inr (Or.inr ⟨rfl, rfl, rfl⟩)))) (hb hby d_method_2_49) hr
    · show Q_drawn Z _ _ _ _ h0 n0 _ s₁.vm s₁.heap _
      rw [e0]
      exact ⟨.null, rfl, Or.inl rfl, N0, (Keep.refl h0 [])⟩
  · skip
    have pre_5 : ∀ t, Sp p e below s₁ (mkF m 53 #[.val (.int p1), .val (.int p2), .val (.int p3), .val (.int c0), .val (.int c1), .val (.int c2), .val (.int c3), .val (.int nn)] [(.int (1 : Int32)), (.int nn)]) t → Steps p.tables e below E0 t := by
      intro t k
      refine pre_2 t ?_
      show Sp p e below s₁ (mkF m 45 #[.val (.int p1), .val (.int p2), .val (.int p3), .val (.int c0), .val (.int c1), .val (.int c2), .val (.int c3), .val (.int nn)] [(.int nn)]) _
      refine XS.ifYes X0.here hx rfl (pc0 := 45) (pc' := 50) rfl (hb hby d_method_2_45) rfl (XT.i0_ne_t hc3) (by decide) (by decide) ?_
      refine XS.iload X0.here hx rfl (hb hby d_method_2_50) rfl ?_
      refine XS.iconst X0.here hx rfl (hb hby d_method_2_52) ?_
      show Sp p e below s₁ (mkF m 53 #[.val (.int p1), .val (.int p2), .val (.int p3), .val (.int c0), .val (.int c1), .val (.int c2), .val (.int c3), .val (.int nn)] [(.int (1 : Int32)), (.int nn)]) _
      exact k
    by_cases hc6 : nn = (1 : Int32)
    · skip
      have pre_7 : ∀ t, Sp p e below s₁ (mkF m 56 #[.val (.int p1), .val (.int p2), .val (.int p3), .val (.int c0), .val (.int c1), .val (.int c2), .val (.int c3), .val (.int nn)] []) t → Steps p.tables e below E0 t := by
        intro t k
        refine pre_5 t ?_
        show Sp p e below s₁ (mkF m 53 #[.val (.int p1), .val (.int p2), .val (.int p3), .val (.int c0), .val (.int c1), .val (.int c2), .val (.int c3), .val (.int nn)] [(.int (1 : Int32)), (.int nn)]) _
        refine XS.icmpNo X0.here hx rfl (hb hby d_method_2_53) rfl (XT.ii_ne_f hc6) ?_
        exact k
      obtain ⟨T8, h8, X8, e8, E8, A8, D8, -, st8⟩ := newO X0 hx hZ hown (own_w hw 47 rfl) (own_w hw 48 rfl) (own_w hw 49 rfl) e0 (g := (mkF m 56 #[.val (.int p1), .val (.int p2), .val (.int p3), .val (.int c0), .val (.int c1), .val (.int c2), .val (.int c3), .val (.int nn)] [])) rfl (hb hby d_method_2_56) (by decide) (by decide)
      obtain ⟨b8, g8⟩ : ∃ z, z = h0.size := ⟨_, rfl⟩
      rw [← g8] at A8 D8 st8
      have O8 : Old Z n0 h8 := O0.ext E8
      have F9 : Fld Z h8 b8 "java/lang/String" "value" "[B" .null := D8 (Or.inr (own_w hw 61 rfl)) (ty := (.array .byte)) (by decide)
      have F10 : Fld Z h8 b8 "java/lang/String" "coder" "B" (.int (0 : Int32)) := D8 (Or.inr (own_w hw 62 rfl)) (ty := .byte) (by decide)
      have pre_11 : ∀ t, Sp p e below T8 (mkF m 59 #[.val (.int p1), .val (.int p2), .val (.int p3), .val (.int c0), .val (.int c1), .val (.int c2), .val (.int c3), .val (.int nn)] [(.ref b8)]) t → Steps p.tables e below E0 t := fun t k => pre_7 t (st8 t k)
      have pre_12 : ∀ t, Sp p e below T8 (mkF m 61 #[.val (.int p1), .val (.int p2), .val (.int p3), .val (.int c0), .val (.int c1), .val (.int c2), .val (.int c3), .val (.int nn)] [(.int (0 : Int32)), (.ref b8), (.ref b8)]) t → Steps p.tables e below E0 t := by
        intro t k
        refine pre_11 t ?_
        show Sp p e below T8 (mkF m 59 #[.val (.int p1), .val (.int p2), .val (.int p3), .val (.int c0), .val (.int c1), .val (.int c2), .val (.int c3), .val (.int nn)] [(.ref b8)]) _
        refine XS.dup X8.here hx rfl (hb hby d_method_2_59) rfl rfl ?_
        refine XS.iconst X8.here hx rfl (hb hby d_method_2_60) ?_
        exact k
      obtain ⟨T13, h13, cA13, X13, e13, E13, A13, st13⟩ := newP X8 hx hZ (own_w hw 50 rfl) e8 (g := (mkF m 61 #[.val (.int p1), .val (.int p2), .val (.int p3), .val (.int c0), .val (.int c1), .val (.int c2), .val (.int c3), .val (.int nn)] [(.int (0 : Int32)), (.ref b8), (.ref b8)])) rfl (hb hby d_method_2_61) rfl (by decide) (cap := 0) (by decide) (by decide) (by decide) (by decide)
      obtain ⟨b13, g13⟩ : ∃ z, z = h8.size := ⟨_, rfl⟩
      rw [← g13] at A13 st13
      have O13 : Old Z n0 h13 := O8.ext E13
      have V13 : Arv Z h13 b13 cA13 .char (0 : Int32) [] (.int (0 : Int32)) := (Arv.new A13 (by decide)).pad (pad_rep [] _ 0)
      have pre_14 : ∀ t, Sp p e below T13 (mkF m 63 #[.val (.int p1), .val (.int p2), .val (.int p3), .val (.int c0), .val (.int c1), .val (.int c2), .val (.int c3), .val (.int nn)] [(.ref b13), (.ref b8), (.ref b8)]) t → Steps p.tables e below E0 t := fun t k => pre_12 t (st13 t k)
      obtain ⟨_, _, ⟨T15, L15, k15, n15⟩, -, Y15, hs15, hg15, ⟨Lc15, hQ15, l15, y15, z15⟩, st15⟩ := X13.specialBackS hx (y := (⟨"java/lang/String", "<init>", "([C)V"⟩ : MethodName)) rfl hown (mvT hZ (own_w hw 51 rfl)) (mvT hZ (own_w hw 52 rfl)) (mvT hZ (own_w hw 53 rfl)) (by decide) (own_backS (W := 1) (rm_str0A l Z a0 hw [] b8 b13 (.int (0 : Int32))  cA13 h13 n0 O13 (A8.ext E13) (F9.ext E13) (F10.ext E13) (Nat.le_trans (own_le O0) (Nat.le_of_eq g8.symm)) hHC hCW V13) hZ (own_w hw 53 rfl) (own_w hw 49 rfl) (by decide) (by decide) (fun _ q => own_IBw hPV q)) (g := (mkF m 63 #[.val (.int p1), .val (.int p2), .val (.int p3), .val (.int c0), .val (.int c1), .val (.int c2), .val (.int c3), .val (.int nn)] [(.ref b13), (.ref b8), (.ref b8)])) rfl (by rw [hml]; rfl) (Steps.refl _) (a := b8) (argsL := [(.ref b13)]) (rest := [(.ref b8)]) (lenOf pd_drawn_0 rfl) rfl (by show 2 * 0 + _ ≤ _; exact Nat.le_of_eq rfl) (hb hby d_method_2_63) (fun _ _ => ⟨rfl, e13, (by decide : 2 + 2 ≤ _), (by decide : 4 + 4 ≤ _)⟩)
      dsimp only [Pt.U, Pt.locs, Pt.cells, Pt.slots] at Y15 hs15 hg15 l15 y15 z15 st15 hQ15
      subst l15 y15 z15
      obtain ⟨X15, hS15, hZ15, ho15⟩ := rebS ((State.WarmedH.refl s).since 0) (by rw [e13]; exact (Nat.le_trans (Nat.zero_le _) (Nat.le_trans (Nat.le_trans (Nat.le_refl _) E8.1) E13.1))) Y15 hs15 hg15 hZ hown
      obtain ⟨rfl, N15q, K15, Fc15, aE15, bE15, kE15, Fv15, Ab15, xE15, vE15, cE15, hL15⟩ := hQ15
      have N15 := Fr.app N0 N15q
      have O15 : Old Z n0 T15.heap := O13.keep K15 (allS (Nat.le_trans (own_le O0) (Nat.le_of_eq g8.symm)) all0)
      have pre_16 : ∀ t, Sp p e below T15 (mkF m 66 #[.val (.int p1), .val (.int p2), .val (.int p3), .val (.int c0), .val (.int c1), .val (.int c2), .val (.int c3), .val (.int nn)] [(.ref b8)]) t → Steps p.tables e below E0 t := fun t k => pre_14 t (st15.trans k)
      obtain ⟨fs, hr, hrun, hended, hEnd⟩ := X15.leaveW hS15 (Nat.le_trans (Nat.le_refl _) (Nat.le_refl _)) (v := some (.ref b8)) (fun h => by rw [Bd.returns] at h; cases h)
      refine ⟨_, _, pre_16 _ ?_, hrun, hended, _, _, rfl, ?_, hEnd.1, hEnd.2.1, hEnd.2.2.1, hEnd.2.2.2.mono (by decide) (by decide)⟩
      · show Sp p e below T15 (mkF m 66 #[.val (.int p1), .val (.int p2), .val (.int p3), .val (.int c0), .val (.int c1), .val (.int c2), .val (.int c3), .val (.int nn)] [(.ref b8)]) _
        exact retOut X15 hx (t := (.object "java/lang/String")) Bd.returns rfl (Or.inr (Or.inr (Or.inr (Or.inr ⟨rfl, rfl, rfl⟩)))) (hb hby d_method_2_66) hr
      · show Q_drawn Z _ _ _ _ h0 n0 _ T15.vm T15.heap _
        exact ⟨.ref b8, rfl, Or.inr ⟨b8, rfl, ((A8.ext E13).keep K15)⟩, N15, ((((Keep.refl h0 []).ext E8).ext E13).trans K15 (allS (Or.inr (Nat.le_trans (Keep.refl h0 []).1 (Nat.le_of_eq g8.symm))) all0))⟩
    · skip
      have pre_17 : ∀ t, Sp p e below s₁ (mkF m 70 #[.val (.int p1), .val (.int p2), .val (.int p3), .val (.int c0), .val (.int c1), .val (.int c2), .val (.int c3), .val (.int nn)] [(.int (2 : Int32)), (.int nn)]) t → Steps p.tables e below E0 t := by
        intro t k
        refine pre_5 t ?_
        show Sp p e below s₁ (mkF m 53 #[.val (.int p1), .val (.int p2), .val (.int p3), .val (.int c0), .val (.int c1), .val (.int c2), .val (.int c3), .val (.int nn)] [(.int (1 : Int32)), (.int nn)]) _
        refine XS.icmpYes X0.here hx rfl (pc0 := 53) (pc' := 67) rfl (hb hby d_method_2_53) rfl (XT.ii_ne_t hc6) (by decide) (by decide) ?_
        refine XS.iload X0.here hx rfl (hb hby d_method_2_67) rfl ?_
        refine XS.iconst X0.here hx rfl (hb hby d_method_2_69) ?_
        exact k
      by_cases hc18 : nn = (2 : Int32)
      · skip
        have pre_19 : ∀ t, Sp p e below s₁ (mkF m 73 #[.val (.int p1), .val (.int p2), .val (.int p3), .val (.int c0), .val (.int c1), .val (.int c2), .val (.int c3), .val (.int nn)] []) t → Steps p.tables e below E0 t := by
          intro t k
          refine pre_17 t ?_
          show Sp p e below s₁ (mkF m 70 #[.val (.int p1), .val (.int p2), .val (.int p3), .val (.int c0), .val (.int c1), .val (.int c2), .val (.int c3), .val (.int nn)] [(.int (2 : Int32)), (.int nn)]) _
          refine XS.icmpNo X0.here hx rfl (hb hby d_method_2_70) rfl (XT.ii_ne_f hc18) ?_
          show Sp p e below s₁ (mkF m 73 #[.val (.int p1), .val (.int p2), .val (.int p3), .val (.int c0), .val (.int c1), .val (.int c2), .val (.int c3), .val (.int nn)] []) _
          exact k
        obtain ⟨T20, h20, X20, e20, E20, A20, D20, -, st20⟩ := newO X0 hx hZ hown (own_w hw 47 rfl) (own_w hw 48 rfl) (own_w hw 49 rfl) e0 (g := (mkF m 73 #[.val (.int p1), .val (.int p2), .val (.int p3), .val (.int c0), .val (.int c1), .val (.int c2), .val (.int c3), .val (.int nn)] [])) rfl (hb hby d_method_2_73) (by decide) (by decide)
        obtain ⟨b20, g20⟩ : ∃ z, z = h0.size := ⟨_, rfl⟩
        rw [← g20] at A20 D20 st20
        have O20 : Old Z n0 h20 := O0.ext E20
        have F21 : Fld Z h20 b20 "java/lang/String" "value" "[B" .null := D20 (Or.inr (own_w hw 61 rfl)) (ty := (.array .byte)) (by decide)
        have F22 : Fld Z h20 b20 "java/lang/String" "coder" "B" (.int (0 : Int32)) := D20 (Or.inr (own_w hw 62 rfl)) (ty := .byte) (by decide)
        have pre_23 : ∀ t, Sp p e below T20 (mkF m 76 #[.val (.int p1), .val (.int p2), .val (.int p3), .val (.int c0), .val (.int c1), .val (.int c2), .val (.int c3), .val (.int nn)] [(.ref b20)]) t → Steps p.tables e below E0 t := fun t k => pre_19 t (st20 t k)
        have pre_24 : ∀ t, Sp p e below T20 (mkF m 78 #[.val (.int p1), .val (.int p2), .val (.int p3), .val (.int c0), .val (.int c1), .val (.int c2), .val (.int c3), .val (.int nn)] [(.int (1 : Int32)), (.ref b20), (.ref b20)]) t → Steps p.tables e below E0 t := by
          intro t k
          refine pre_23 t ?_
          show Sp p e below T20 (mkF m 76 #[.val (.int p1), .val (.int p2), .val (.int p3), .val (.int c0), .val (.int c1), .val (.int c2), .val (.int c3), .val (.int nn)] [(.ref b20)]) _
          refine XS.dup X20.here hx rfl (hb hby d_method_2_76) rfl rfl ?_
          refine XS.iconst X20.here hx rfl (hb hby d_method_2_77) ?_
          exact k
        obtain ⟨T25, h25, cA25, X25, e25, E25, A25, st25⟩ := newP X20 hx hZ (own_w hw 50 rfl) e20 (g := (mkF m 78 #[.val (.int p1), .val (.int p2), .val (.int p3), .val (.int c0), .val (.int c1), .val (.int c2), .val (.int c3), .val (.int nn)] [(.int (1 : Int32)), (.ref b20), (.ref b20)])) rfl (hb hby d_method_2_78) rfl (by decide) (cap := 1) (by decide) (by decide) (by decide) (by decide)
        obtain ⟨b25, g25⟩ : ∃ z, z = h20.size := ⟨_, rfl⟩
        rw [← g25] at A25 st25
        have O25 : Old Z n0 h25 := O20.ext E25
        have V25 : Arv Z h25 b25 cA25 .char (1 : Int32) [(.int (0 : Int32))] (.int (0 : Int32)) := (Arv.new A25 (by decide)).pad (pad_rep [] _ 1)
        have pre_26 : ∀ t, Sp p e below T25 (mkF m 80 #[.val (.int p1), .val (.int p2), .val (.int p3), .val (.int c0), .val (.int c1), .val (.int c2), .val (.int c3), .val (.int nn)] [(.ref b25), (.ref b20), (.ref b20)]) t → Steps p.tables e below E0 t := fun t k => pre_24 t (st25 t k)
        have pre_27 : ∀ t, Sp p e below T25 (mkF m 83 #[.val (.int p1), .val (.int p2), .val (.int p3), .val (.int c0), .val (.int c1), .val (.int c2), .val (.int c3), .val (.int nn)] [(.int c0), (.int (0 : Int32)), (.ref b25), (.ref b25), (.ref b20), (.ref b20)]) t → Steps p.tables e below E0 t := by
          intro t k
          refine pre_26 t ?_
          show Sp p e below T25 (mkF m 80 #[.val (.int p1), .val (.int p2), .val (.int p3), .val (.int c0), .val (.int c1), .val (.int c2), .val (.int c3), .val (.int nn)] [(.ref b25), (.ref b20), (.ref b20)]) _
          refine XS.dup X25.here hx rfl (hb hby d_method_2_80) rfl rfl ?_
          refine XS.iconst X25.here hx rfl (hb hby d_method_2_81) ?_
          show Sp p e below T25 (mkF m 82 #[.val (.int p1), .val (.int p2), .val (.int p3), .val (.int c0), .val (.int c1), .val (.int c2), .val (.int c3), .val (.int nn)] [(.int (0 : Int32)), (.ref b25), (.ref b25), (.ref b20), (.ref b20)]) _
          refine XS.iloadN X25.here hx rfl (hb hby d_method_2_82) rfl ?_
          exact k
        obtain ⟨cl28, Ar28, q28, S28, M28, H28, G28⟩ := id V25
        obtain ⟨T28, h28, X28, e28, W28, st28⟩ := stC X25 hx hZ e25 Ar28 (j := (0 : Int32)) (inb_of S28 (by decide)) (g := (mkF m 83 #[.val (.int p1), .val (.int p2), .val (.int p3), .val (.int c0), .val (.int c1), .val (.int c2), .val (.int c3), .val (.int nn)] [(.int c0), (.int (0 : Int32)), (.ref b25), (.ref b25), (.ref b20), (.ref b20)])) rfl rfl (hb hby d_method_2_83)
        have N28 := Fr.snoc X28 N0 (Nat.le_trans (own_le O20) (Nat.le_of_eq g25.symm))
        have O28 : Old Z n0 h28 := O25.wr W28 (Nat.le_trans (own_le O20) (Nat.le_of_eq g25.symm))
        rw [hcc0.1] at W28
        have V28 : Arv Z h28 b25 cA25 .char (1 : Int32) [(.int c0)] (.int (0 : Int32)) := Arv.set Ar28 q28 S28 M28 H28 G28 (by rw [← hcc0.1]; exact (fits_nar_char _)) W28 0 rfl (Nat.le_of_ble_eq_true rfl)
        have pre_29 : ∀ t, Sp p e below T28 (mkF m 84 #[.val (.int p1), .val (.int p2), .val (.int p3), .val (.int c0), .val (.int c1), .val (.int c2), .val (.int c3), .val (.int nn)] [(.ref b25), (.ref b20), (.ref b20)]) t → Steps p.tables e below E0 t := fun t k => pre_27 t (st28 t k)
        obtain ⟨_, _, ⟨T30, L30, k30, n30⟩, -, X30, ⟨Lc30, hQ30, l30, y30, z30⟩, st30⟩ := X28.specialBack hx (y := (⟨"java/lang/String", "<init>", "([C)V"⟩ : MethodName)) rfl hown (mvT hZ (own_w hw 51 rfl)) (mvT hZ (own_w hw 52 rfl)) (mvT hZ (own_w hw 53 rfl)) (by decide) (backOf (W := 1) (rm_str1 l Z a0 hw [] b20 b25 .null (.int (0 : Int32)) G1 cA25 c0 h28 n0 O28 ((A20.ext E25).wr W28) ((F21.ext E25).other W28 (Or.inl (Nat.ne_of_lt (Nat.lt_of_lt_of_le A20.lt (Nat.le_of_eq g25.symm))))) ((F22.ext E25).other W28 (Or.inl (Nat.ne_of_lt (Nat.lt_of_lt_of_le A20.lt (Nat.le_of_eq g25.symm))))) (Nat.le_trans (own_le O0) (Nat.le_of_eq g20.symm)) SC hG V28 hcc0.2) hZ (own_w hw 53 rfl) (own_w hw 49 rfl) (by decide) (by decide)) (g := (mkF m 84 #[.val (.int p1), .val (.int p2), .val (.int p3), .val (.int c0), .val (.int c1), .val (.int c2), .val (.int c3), .val (.int nn)] [(.ref b25), (.ref b20), (.ref b20)])) rfl (by rw [hml]; rfl) (Steps.refl _) (a := b20) (argsL := [(.ref b25)]) (rest := [(.ref b20)]) (lenOf pd_drawn_0 rfl) rfl (by show 2 * 0 + _ ≤ _; exact Nat.le_of_eq rfl) (hb hby d_method_2_84) (fun _ _ => ⟨rfl, e28, (by decide : 2 + 1 ≤ _), (by decide : 5 + 1 ≤ _)⟩)
        dsimp only [Pt.U, Pt.locs, Pt.cells, Pt.slots] at X30 l30 y30 z30 st30 hQ30
        subst l30 y30 z30
        obtain ⟨rfl, N30q, K30, Fc30, b30, kB30, sb30, Fv30, Vb30⟩ := hQ30
        have N30 := Fr.app N28 N30q
        have O30 : Old Z n0 T30.heap := O28.keep K30 (allS (Nat.le_trans (own_le O0) (Nat.le_of_eq g20.symm)) all0)
        have pre_31 : ∀ t, Sp p e below T30 (mkF m 87 #[.val (.int p1), .val (.int p2), .val (.int p3), .val (.int c0), .val (.int c1), .val (.int c2), .val (.int c3), .val (.int nn)] [(.ref b20)]) t → Steps p.tables e below E0 t := fun t k => pre_29 t (st30.trans k)
        obtain ⟨fs, hr, hrun, hended, hEnd⟩ := X30.leaveW ((State.WarmedH.refl s).since 0) (Nat.le_trans (Nat.zero_le _) (Nat.le_trans (Nat.le_trans (Nat.le_trans (Nat.le_trans (Nat.le_refl _) E20.1) E25.1) (Nat.le_of_eq W28.size.symm)) K30.1)) (v := some (.ref b20)) (fun h => by rw [Bd.returns] at h; cases h)
        refine ⟨_, _, pre_31 _ ?_, hrun, hended, _, _, rfl, ?_, hEnd.1, hEnd.2.1, hEnd.2.2.1, hEnd.2.2.2.mono (by decide) (by decide)⟩
        · show Sp p e below T30 (mkF m 87 #[.val (.int p1), .val (.int p2), .val (.int p3), .val (.int c0), .val (.int c1), .val (.int c2), .val (.int c3), .val (.int nn)] [(.ref b20)]) _
          exact retOut X30 hx (t := (.object "java/lang/String")) Bd.returns rfl (Or.inr (Or.inr (Or.inr (Or.inr ⟨rfl, rfl, rfl⟩)))) (hb hby d_method_2_87) hr
        · show Q_drawn Z _ _ _ _ h0 n0 _ T30.vm T30.heap _
          exact ⟨.ref b20, rfl, Or.inr ⟨b20, rfl, (((A20.ext E25).wr W28).keep K30)⟩, N30, (((((Keep.refl h0 []).ext E20).ext E25).wr W28 (Or.inr (Nat.le_trans ((Keep.refl h0 []).ext E20).1 (Nat.le_of_eq g25.symm)))).trans K30 (allS (Or.inr (Nat.le_trans (Keep.refl h0 []).1 (Nat.le_of_eq g20.symm))) all0))⟩
      · skip
        have pre_32 : ∀ t, Sp p e below s₁ (mkF m 91 #[.val (.int p1), .val (.int p2), .val (.int p3), .val (.int c0), .val (.int c1), .val (.int c2), .val (.int c3), .val (.int nn)] [(.int (3 : Int32)), (.int nn)]) t → Steps p.tables e below E0 t := by
          intro t k
          refine pre_17 t ?_
          show Sp p e below s₁ (mkF m 70 #[.val (.int p1), .val (.int p2), .val (.int p3), .val (.int c0), .val (.int c1), .val (.int c2), .val (.int c3), .val (.int nn)] [(.int (2 : Int32)), (.int nn)]) _
          refine XS.icmpYes X0.here hx rfl (pc0 := 70) (pc' := 88) rfl (hb hby d_method_2_70) rfl (XT.ii_ne_t hc18) (by decide) (by decide) ?_
          show Sp p e below s₁ (mkF m 88 #[.val (.int p1), .val (.int p2), .val (.int p3), .val (.int c0), .val (.int c1), .val (.int c2), .val (.int c3), .val (.int nn)] []) _
          refine XS.iload X0.here hx rfl (hb hby d_method_2_88) rfl ?_
          refine XS.iconst X0.here hx rfl (hb hby d_method_2_90) ?_
          exact k
        by_cases hc33 : nn = (3 : Int32)
        · skip
          have pre_34 : ∀ t, Sp p e below s₁ (mkF m 94 #[.val (.int p1), .val (.int p2), .val (.int p3), .val (.int c0), .val (.int c1), .val (.int c2), .val (.int c3), .val (.int nn)] []) t → Steps p.tables e below E0 t := by
            intro t k
            refine pre_32 t ?_
            show Sp p e below s₁ (mkF m 91 #[.val (.int p1), .val (.int p2), .val (.int p3), .val (.int c0), .val (.int c1), .val (.int c2), .val (.int c3), .val (.int nn)] [(.int (3 : Int32)), (.int nn)]) _
            refine XS.icmpNo X0.here hx rfl (hb hby d_method_2_91) rfl (XT.ii_ne_f hc33) ?_
            exact k
          obtain ⟨T35, h35, X35, e35, E35, A35, D35, -, st35⟩ := newO X0 hx hZ hown (own_w hw 47 rfl) (own_w hw 48 rfl) (own_w hw 49 rfl) e0 (g := (mkF m 94 #[.val (.int p1), .val (.int p2), .val (.int p3), .val (.int c0), .val (.int c1), .val (.int c2), .val (.int c3), .val (.int nn)] [])) rfl (hb hby d_method_2_94) (by decide) (by decide)
          obtain ⟨b35, g35⟩ : ∃ z, z = h0.size := ⟨_, rfl⟩
          rw [← g35] at A35 D35 st35
          have O35 : Old Z n0 h35 := O0.ext E35
          have F36 : Fld Z h35 b35 "java/lang/String" "value" "[B" .null := D35 (Or.inr (own_w hw 61 rfl)) (ty := (.array .byte)) (by decide)
          have F37 : Fld Z h35 b35 "java/lang/String" "coder" "B" (.int (0 : Int32)) := D35 (Or.inr (own_w hw 62 rfl)) (ty := .byte) (by decide)
          have pre_38 : ∀ t, Sp p e below T35 (mkF m 97 #[.val (.int p1), .val (.int p2), .val (.int p3), .val (.int c0), .val (.int c1), .val (.int c2), .val (.int c3), .val (.int nn)] [(.ref b35)]) t → Steps p.tables e below E0 t := fun t k => pre_34 t (st35 t k)
          have pre_39 : ∀ t, Sp p e below T35 (mkF m 99 #[.val (.int p1), .val (.int p2), .val (.int p3), .val (.int c0), .val (.int c1), .val (.int c2), .val (.int c3), .val (.int nn)] [(.int (2 : Int32)), (.ref b35), (.ref b35)]) t → Steps p.tables e below E0 t := by
            intro t k
            refine pre_38 t ?_
            show Sp p e below T35 (mkF m 97 #[.val (.int p1), .val (.int p2), .val (.int p3), .val (.int c0), .val (.int c1), .val (.int c2), .val (.int c3), .val (.int nn)] [(.ref b35)]) _
            refine XS.dup X35.here hx rfl (hb hby d_method_2_97) rfl rfl ?_
            show Sp p e below T35 (mkF m 98 #[.val (.int p1), .val (.int p2), .val (.int p3), .val (.int c0), .val (.int c1), .val (.int c2), .val (.int c3), .val (.int nn)] [(.ref b35), (.ref b35)]) _
            refine XS.iconst X35.here hx rfl (hb hby d_method_2_98) ?_
            exact k
          obtain ⟨T40, h40, cA40, X40, e40, E40, A40, st40⟩ := newP X35 hx hZ (own_w hw 50 rfl) e35 (g := (mkF m 99 #[.val (.int p1), .val (.int p2), .val (.int p3), .val (.int c0), .val (.int c1), .val (.int c2), .val (.int c3), .val (.int nn)] [(.int (2 : Int32)), (.ref b35), (.ref b35)])) rfl (hb hby d_method_2_99) rfl (by decide) (cap := 2) (by decide) (by decide) (by decide) (by decide)
          obtain ⟨b40, g40⟩ : ∃ z, z = h35.size := ⟨_, rfl⟩
          rw [← g40] at A40 st40
          have O40 : Old Z n0 h40 := O35.ext E40
          have V40 : Arv Z h40 b40 cA40 .char (2 : Int32) [(.int (0 : Int32)), (.int (0 : Int32))] (.int (0 : Int32)) := (Arv.new A40 (by decide)).pad (pad_rep [] _ 2)
          have pre_41 : ∀ t, Sp p e below T40 (mkF m 101 #[.val (.int p1), .val (.int p2), .val (.int p3), .val (.int c0), .val (.int c1), .val (.int c2), .val (.int c3), .val (.int nn)] [(.ref b40), (.ref b35), (.ref b35)]) t → Steps p.tables e below E0 t := fun t k => pre_39 t (st40 t k)
          have pre_42 : ∀ t, Sp p e below T40 (mkF m 104 #[.val (.int p1), .val (.int p2), .val (.int p3), .val (.int c0), .val (.int c1), .val (.int c2), .val (.int c3), .val (.int nn)] [(.int c0), (.int (0 : Int32)), (.ref b40), (.ref b40), (.ref b35), (.ref b35)]) t → Steps p.tables e below E0 t := by
            intro t k
            refine pre_41 t ?_
            show Sp p e below T40 (mkF m 101 #[.val (.int p1), .val (.int p2), .val (.int p3), .val (.int c0), .val (.int c1), .val (.int c2), .val (.int c3), .val (.int nn)] [(.ref b40), (.ref b35), (.ref b35)]) _
            refine XS.dup X40.here hx rfl (hb hby d_method_2_101) rfl rfl ?_
            refine XS.iconst X40.here hx rfl (hb hby d_method_2_102) ?_
            refine XS.iloadN X40.here hx rfl (hb hby d_method_2_103) rfl ?_
            show Sp p e below T40 (mkF m 104 #[.val (.int p1), .val (.int p2), .val (.int p3), .val (.int c0), .val (.int c1), .val (.int c2), .val (.int c3), .val (.int nn)] [(.int c0), (.int (0 : Int32)), (.ref b40), (.ref b40), (.ref b35), (.ref b35)]) _
            exact k
          obtain ⟨cl43, Ar43, q43, S43, M43, H43, G43⟩ := id V40
          obtain ⟨T43, h43, X43, e43, W43, st43⟩ := stC X40 hx hZ e40 Ar43 (j := (0 : Int32)) (inb_of S43 (by decide)) (g := (mkF m 104 #[.val (.int p1), .val (.int p2), .val (.int p3), .val (.int c0), .val (.int c1), .val (.int c2), .val (.int c3), .val (.int nn)] [(.int c0), (.int (0 : Int32)), (.ref b40), (.ref b40), (.ref b35), (.ref b35)])) rfl rfl (hb hby d_method_2_104)
          have N43 := Fr.snoc X43 N0 (Nat.le_trans (own_le O35) (Nat.le_of_eq g40.symm))
          have O43 : Old Z n0 h43 := O40.wr W43 (Nat.le_trans (own_le O35) (Nat.le_of_eq g40.symm))
          rw [hcc0.1] at W43
          have V43 : Arv Z h43 b40 cA40 .char (2 : Int32) [(.int c0), (.int (0 : Int32))] (.int (0 : Int32)) := Arv.set Ar43 q43 S43 M43 H43 G43 (by rw [← hcc0.1]; exact (fits_nar_char _)) W43 0 rfl (Nat.le_of_ble_eq_true rfl)
          have pre_44 : ∀ t, Sp p e below T43 (mkF m 105 #[.val (.int p1), .val (.int p2), .val (.int p3), .val (.int c0), .val (.int c1), .val (.int c2), .val (.int c3), .val (.int nn)] [(.ref b40), (.ref b35), (.ref b35)]) t → Steps p.tables e below E0 t := fun t k => pre_42 t (st43 t k)
          have pre_45 : ∀ t, Sp p e below T43 (mkF m 109 #[.val (.int p1), .val (.int p2), .val (.int p3), .val (.int c0), .val (.int c1), .val (.int c2), .val (.int c3), .val (.int nn)] [(.int c1), (.int (1 : Int32)), (.ref b40), (.ref b40), (.ref b35), (.ref b35)]) t → Steps p.tables e below E0 t := by
            intro t k
            refine pre_44 t ?_
            show Sp p e below T43 (mkF m 105 #[.val (.int p1), .val (.int p2), .val (.int p3), .val (.int c0), .val (.int c1), .val (.int c2), .val (.int c3), .val (.int nn)] [(.ref b40), (.ref b35), (.ref b35)]) _
            refine XS.dup X43.here hx rfl (hb hby d_method_2_105) rfl rfl ?_
            refine XS.iconst X43.here hx rfl (hb hby d_method_2_106) ?_
            refine XS.iload X43.here hx rfl (hb hby d_method_2_107) rfl ?_
            exact k
          obtain ⟨cl46, Ar46, q46, S46, M46, H46, G46⟩ := id V43
          obtain ⟨T46, h46, X46, e46, W46, st46⟩ := stC X43 hx hZ e43 Ar46 (j := (1 : Int32)) (inb_of S46 (by decide)) (g := (mkF m 109 #[.val (.int p1), .val (.int p2), .val (.int p3), .val (.int c0), .val (.int c1), .val (.int c2), .val (.int c3), .val (.int nn)] [(.int c1), (.int (1 : Int32)), (.ref b40), (.ref b40), (.ref b35), (.ref b35)])) rfl rfl (hb hby d_method_2_109)
          have N46 := Fr.snoc X46 N43 (Nat.le_trans (own_le O35) (Nat.le_of_eq g40.symm))
          have O46 : Old Z n0 h46 := O43.wr W46 (Nat.le_trans (own_le O35) (Nat.le_of_eq g40.symm))
          rw [hcc1.1] at W46
          have V46 : Arv Z h46 b40 cA40 .char (2 : Int32) [(.int c0), (.int c1)] (.int (0 : Int32)) := Arv.set Ar46 q46 S46 M46 H46 G46 (by rw [← hcc1.1]; exact (fits_nar_char _)) W46 1 rfl (Nat.le_of_ble_eq_true rfl)
          have pre_47 : ∀ t, Sp p e below T46 (mkF m 110 #[.val (.int p1), .val (.int p2), .val (.int p3), .val (.int c0), .val (.int c1), .val (.int c2), .val (.int c3), .val (.int nn)] [(.ref b40), (.ref b35), (.ref b35)]) t → Steps p.tables e below E0 t := fun t k => pre_45 t (st46 t k)
          obtain ⟨_, _, ⟨T48, L48, k48, n48⟩, -, X48, ⟨Lc48, hQ48, l48, y48, z48⟩, st48⟩ := X46.specialBack hx (y := (⟨"java/lang/String", "<init>", "([C)V"⟩ : MethodName)) rfl hown (mvT hZ (own_w hw 51 rfl)) (mvT hZ (own_w hw 52 rfl)) (mvT hZ (own_w hw 53 rfl)) (by decide) (backOf (W := 1) (rm_str2 l Z a0 hw [] b35 b40 .null (.int (0 : Int32)) G1 cA40 c0 c1 h46 n0 O46 (((A35.ext E40).wr W43).wr W46) (((F36.ext E40).other W43 (Or.inl (Nat.ne_of_lt (Nat.lt_of_lt_of_le A35.lt (Nat.le_of_eq g40.symm))))).other W46 (Or.inl (Nat.ne_of_lt (Nat.lt_of_lt_of_le A35.lt (Nat.le_of_eq g40.symm))))) (((F37.ext E40).other W43 (Or.inl (Nat.ne_of_lt (Nat.lt_of_lt_of_le A35.lt (Nat.le_of_eq g40.symm))))).other W46 (Or.inl (Nat.ne_of_lt (Nat.lt_of_lt_of_le A35.lt (Nat.le_of_eq g40.symm))))) (Nat.le_trans (own_le O0) (Nat.le_of_eq g35.symm)) SC hG V46 hcc0.2 hcc1.2) hZ (own_w hw 53 rfl) (own_w hw 49 rfl) (by decide) (by decide)) (g := (mkF m 110 #[.val (.int p1), .val (.int p2), .val (.int p3), .val (.int c0), .val (.int c1), .val (.int c2), .val (.int c3), .val (.int nn)] [(.ref b40), (.ref b35), (.ref b35)])) rfl (by rw [hml]; rfl) (Steps.refl _) (a := b35) (argsL := [(.ref b40)]) (rest := [(.ref b35)]) (lenOf pd_drawn_0 rfl) rfl (by show 2 * 0 + _ ≤ _; exact Nat.le_of_eq rfl) (hb hby d_method_2_110) (fun _ _ => ⟨rfl, e46, (by decide : 2 + 1 ≤ _), (by decide : 6 + 2 ≤ _)⟩)
          dsimp only [Pt.U, Pt.locs, Pt.cells, Pt.slots] at X48 l48 y48 z48 st48 hQ48
          subst l48 y48 z48
          obtain ⟨rfl, N48q, K48, Fc48, b48, kB48, sb48, Fv48, Vb48⟩ := hQ48
          have N48 := Fr.app N46 N48q
          have O48 : Old Z n0 T48.heap := O46.keep K48 (allS (Nat.le_trans (own_le O0) (Nat.le_of_eq g35.symm)) all0)
          have pre_49 : ∀ t, Sp p e below T48 (mkF m 113 #[.val (.int p1), .val (.int p2), .val (.int p3), .val (.int c0), .val (.int c1), .val (.int c2), .val (.int c3), .val (.int nn)] [(.ref b35)]) t → Steps p.tables e below E0 t := fun t k => pre_47 t (st48.trans k)
          obtain ⟨fs, hr, hrun, hended, hEnd⟩ := X48.leaveW ((State.WarmedH.refl s).since 0) (Nat.le_trans (Nat.zero_le _) (Nat.le_trans (Nat.le_trans (Nat.le_trans (Nat.le_trans (Nat.le_trans (Nat.le_refl _) E35.1) E40.1) (Nat.le_of_eq W43.size.symm)) (Nat.le_of_eq W46.size.symm)) K48.1)) (v := some (.ref b35)) (fun h => by rw [Bd.returns] at h; cases h)
          refine ⟨_, _, pre_49 _ ?_, hrun, hended, _, _, rfl, ?_, hEnd.1, hEnd.2.1, hEnd.2.2.1, hEnd.2.2.2.mono (by decide) (by decide)⟩
          · show Sp p e below T48 (mkF m 113 #[.val (.int p1), .val (.int p2), .val (.int p3), .val (.int c0), .val (.int c1), .val (.int c2), .val (.int c3), .val (.int nn)] [(.ref b35)]) _
            exact retOut X48 hx (t := (.object "java/lang/String")) Bd.returns rfl (Or.inr (Or.inr (Or.inr (Or.inr ⟨rfl, rfl, rfl⟩)))) (hb hby d_method_2_113) hr
          · show Q_drawn Z _ _ _ _ h0 n0 _ T48.vm T48.heap _
            exact ⟨.ref b35, rfl, Or.inr ⟨b35, rfl, ((((A35.ext E40).wr W43).wr W46).keep K48)⟩, N48, ((((((Keep.refl h0 []).ext E35).ext E40).wr W43 (Or.inr (Nat.le_trans ((Keep.refl h0 []).ext E35).1 (Nat.le_of_eq g40.symm)))).wr W46 (Or.inr (Nat.le_trans ((Keep.refl h0 []).ext E35).1 (Nat.le_of_eq g40.symm)))).trans K48 (allS (Or.inr (Nat.le_trans (Keep.refl h0 []).1 (Nat.le_of_eq g35.symm))) all0))⟩
        · skip
          have pre_50 : ∀ t, Sp p e below s₁ (mkF m 117 #[.val (.int p1), .val (.int p2), .val (.int p3), .val (.int c0), .val (.int c1), .val (.int c2), .val (.int c3), .val (.int nn)] [(.int (4 : Int32)), (.int nn)]) t → Steps p.tables e below E0 t := by
            intro t k
            refine pre_32 t ?_
            show Sp p e below s₁ (mkF m 91 #[.val (.int p1), .val (.int p2), .val (.int p3), .val (.int c0), .val (.int c1), .val (.int c2), .val (.int c3), .val (.int nn)] [(.int (3 : Int32)), (.int nn)]) _
            refine XS.icmpYes X0.here hx rfl (pc0 := 91) (pc' := 114) rfl (hb hby d_method_2_91) rfl (XT.ii_ne_t hc33) (by decide) (by decide) ?_
            refine XS.iload X0.here hx rfl (hb hby d_method_2_114) rfl ?_
            show Sp p e below s₁ (mkF m 116 #[.val (.int p1), .val (.int p2), .val (.int p3), .val (.int c0), .val (.int c1), .val (.int c2), .val (.int c3), .val (.int nn)] [(.int nn)]) _
            refine XS.iconst X0.here hx rfl (hb hby d_method_2_116) ?_
            exact k
          by_cases hc51 : nn = (4 : Int32)
          · skip
            have pre_52 : ∀ t, Sp p e below s₁ (mkF m 120 #[.val (.int p1), .val (.int p2), .val (.int p3), .val (.int c0), .val (.int c1), .val (.int c2), .val (.int c3), .val (.int nn)] []) t → Steps p.tables e below E0 t := by
              intro t k
              refine pre_50 t ?_
              show Sp p e below s₁ (mkF m 117 #[.val (.int p1), .val (.int p2), .val (.int p3), .val (.int c0), .val (.int c1), .val (.int c2), .val (.int c3), .val (.int nn)] [(.int (4 : Int32)), (.int nn)]) _
              refine XS.icmpNo X0.here hx rfl (hb hby d_method_2_117) rfl (XT.ii_ne_f hc51) ?_
              exact k
            obtain ⟨T53, h53, X53, e53, E53, A53, D53, -, st53⟩ := newO X0 hx hZ hown (own_w hw 47 rfl) (own_w hw 48 rfl) (own_w hw 49 rfl) e0 (g := (mkF m 120 #[.val (.int p1), .val (.int p2), .val (.int p3), .val (.int c0), .val (.int c1), .val (.int c2), .val (.int c3), .val (.int nn)] [])) rfl (hb hby d_method_2_120) (by decide) (by decide)
            obtain ⟨b53, g53⟩ : ∃ z, z = h0.size := ⟨_, rfl⟩
            rw [← g53] at A53 D53 st53
            have O53 : Old Z n0 h53 := O0.ext E53
            have F54 : Fld Z h53 b53 "java/lang/String" "value" "[B" .null := D53 (Or.inr (own_w hw 61 rfl)) (ty := (.array .byte)) (by decide)
            have F55 : Fld Z h53 b53 "java/lang/String" "coder" "B" (.int (0 : Int32)) := D53 (Or.inr (own_w hw 62 rfl)) (ty := .byte) (by decide)
            have pre_56 : ∀ t, Sp p e below T53 (mkF m 123 #[.val (.int p1), .val (.int p2), .val (.int p3), .val (.int c0), .val (.int c1), .val (.int c2), .val (.int c3), .val (.int nn)] [(.ref b53)]) t → Steps p.tables e below E0 t := fun t k => pre_52 t (st53 t k)
            have pre_57 : ∀ t, Sp p e below T53 (mkF m 125 #[.val (.int p1), .val (.int p2), .val (.int p3), .val (.int c0), .val (.int c1), .val (.int c2), .val (.int c3), .val (.int nn)] [(.int (3 : Int32)), (.ref b53), (.ref b53)]) t → Steps p.tables e below E0 t := by
              intro t k
              refine pre_56 t ?_
              show Sp p e below T53 (mkF m 123 #[.val (.int p1), .val (.int p2), .val (.int p3), .val (.int c0), .val (.int c1), .val (.int c2), .val (.int c3), .val (.int nn)] [(.ref b53)]) _
              refine XS.dup X53.here hx rfl (hb hby d_method_2_123) rfl rfl ?_
              refine XS.iconst X53.here hx rfl (hb hby d_method_2_124) ?_
              show Sp p e below T53 (mkF m 125 #[.val (.int p1), .val (.int p2), .val (.int p3), .val (.int c0), .val (.int c1), .val (.int c2), .val (.int c3), .val (.int nn)] [(.int (3 : Int32)), (.ref b53), (.ref b53)]) _
              exact k
            obtain ⟨T58, h58, cA58, X58, e58, E58, A58, st58⟩ := newP X53 hx hZ (own_w hw 50 rfl) e53 (g := (mkF m 125 #[.val (.int p1), .val (.int p2), .val (.int p3), .val (.int c0), .val (.int c1), .val (.int c2), .val (.int c3), .val (.int nn)] [(.int (3 : Int32)), (.ref b53), (.ref b53)])) rfl (hb hby d_method_2_125) rfl (by decide) (cap := 3) (by decide) (by decide) (by decide) (by decide)
            obtain ⟨b58, g58⟩ : ∃ z, z = h53.size := ⟨_, rfl⟩
            rw [← g58] at A58 st58
            have O58 : Old Z n0 h58 := O53.ext E58
            have V58 : Arv Z h58 b58 cA58 .char (3 : Int32) [(.int (0 : Int32)), (.int (0 : Int32)), (.int (0 : Int32))] (.int (0 : Int32)) := (Arv.new A58 (by decide)).pad (pad_rep [] _ 3)
            have pre_59 : ∀ t, Sp p e below T58 (mkF m 127 #[.val (.int p1), .val (.int p2), .val (.int p3), .val (.int c0), .val (.int c1), .val (.int c2), .val (.int c3), .val (.int nn)] [(.ref b58), (.ref b53), (.ref b53)]) t → Steps p.tables e below E0 t := fun t k => pre_57 t (st58 t k)
            have pre_60 : ∀ t, Sp p e below T58 (mkF m 130 #[.val (.int p1), .val (.int p2), .val (.int p3), .val (.int c0), .val (.int c1), .val (.int c2), .val (.int c3), .val (.int nn)] [(.int c0), (.int (0 : Int32)), (.ref b58), (.ref b58), (.ref b53), (.ref b53)]) t → Steps p.tables e below E0 t := by
              intro t k
              refine pre_59 t ?_
              show Sp p e below T58 (mkF m 127 #[.val (.int p1), .val (.int p2), .val (.int p3), .val (.int c0), .val (.int c1), .val (.int c2), .val (.int c3), .val (.int nn)] [(.ref b58), (.ref b53), (.ref b53)]) _
              refine XS.dup X58.here hx rfl (hb hby d_method_2_127) rfl rfl ?_
              refine XS.iconst X58.here hx rfl (hb hby d_method_2_128) ?_
              refine XS.iloadN X58.here hx rfl (hb hby d_method_2_129) rfl ?_
              exact k
            obtain ⟨cl61, Ar61, q61, S61, M61, H61, G61⟩ := id V58
            obtain ⟨T61, h61, X61, e61, W61, st61⟩ := stC X58 hx hZ e58 Ar61 (j := (0 : Int32)) (inb_of S61 (by decide)) (g := (mkF m 130 #[.val (.int p1), .val (.int p2), .val (.int p3), .val (.int c0), .val (.int c1), .val (.int c2), .val (.int c3), .val (.int nn)] [(.int c0), (.int (0 : Int32)), (.ref b58), (.ref b58), (.ref b53), (.ref b53)])) rfl rfl (hb hby d_method_2_130)
            have N61 := Fr.snoc X61 N0 (Nat.le_trans (own_le O53) (Nat.le_of_eq g58.symm))
            have O61 : Old Z n0 h61 := O58.wr W61 (Nat.le_trans (own_le O53) (Nat.le_of_eq g58.symm))
            rw [hcc0.1] at W61
            have V61 : Arv Z h61 b58 cA58 .char (3 : Int32) [(.int c0), (.int (0 : Int32)), (.int (0 : Int32))] (.int (0 : Int32)) := Arv.set Ar61 q61 S61 M61 H61 G61 (by rw [← hcc0.1]; exact (fits_nar_char _)) W61 0 rfl (Nat.le_of_ble_eq_true rfl)
            have pre_62 : ∀ t, Sp p e below T61 (mkF m 131 #[.val (.int p1), .val (.int p2), .val (.int p3), .val (.int c0), .val (.int c1), .val (.int c2), .val (.int c3), .val (.int nn)] [(.ref b58), (.ref b53), (.ref b53)]) t → Steps p.tables e below E0 t := fun t k => pre_60 t (st61 t k)
            have pre_63 : ∀ t, Sp p e below T61 (mkF m 135 #[.val (.int p1), .val (.int p2), .val (.int p3), .val (.int c0), .val (.int c1), .val (.int c2), .val (.int c3), .val (.int nn)] [(.int c1), (.int (1 : Int32)), (.ref b58), (.ref b58), (.ref b53), (.ref b53)]) t → Steps p.tables e below E0 t := by
              intro t k
              refine pre_62 t ?_
              show Sp p e below T61 (mkF m 131 #[.val (.int p1), .val (.int p2), .val (.int p3), .val (.int c0), .val (.int c1), .val (.int c2), .val (.int c3), .val (.int nn)] [(.ref b58), (.ref b53), (.ref b53)]) _
              refine XS.dup X61.here hx rfl (hb hby d_method_2_131) rfl rfl ?_
              show Sp p e below T61 (mkF m 132 #[.val (.int p1), .val (.int p2), .val (.int p3), .val (.int c0), .val (.int c1), .val (.int c2), .val (.int c3), .val (.int nn)] [(.ref b58), (.ref b58), (.ref b53), (.ref b53)]) _
              refine XS.iconst X61.here hx rfl (hb hby d_method_2_132) ?_
              refine XS.iload X61.here hx rfl (hb hby d_method_2_133) rfl ?_
              exact k
            obtain ⟨cl64, Ar64, q64, S64, M64, H64, G64⟩ := id V61
            obtain ⟨T64, h64, X64, e64, W64, st64⟩ := stC X61 hx hZ e61 Ar64 (j := (1 : Int32)) (inb_of S64 (by decide)) (g := (mkF m 135 #[.val (.int p1), .val (.int p2), .val (.int p3), .val (.int c0), .val (.int c1), .val (.int c2), .val (.int c3), .val (.int nn)] [(.int c1), (.int (1 : Int32)), (.ref b58), (.ref b58), (.ref b53), (.ref b53)])) rfl rfl (hb hby d_method_2_135)
            have N64 := Fr.snoc X64 N61 (Nat.le_trans (own_le O53) (Nat.le_of_eq g58.symm))
            have O64 : Old Z n0 h64 := O61.wr W64 (Nat.le_trans (own_le O53) (Nat.le_of_eq g58.symm))
            rw [hcc1.1] at W64
            have V64 : Arv Z h64 b58 cA58 .char (3 : Int32) [(.int c0), (.int c1), (.int (0 : Int32))] (.int (0 : Int32)) := Arv.set Ar64 q64 S64 M64 H64 G64 (by rw [← hcc1.1]; exact (fits_nar_char _)) W64 1 rfl (Nat.le_of_ble_eq_true rfl)
            have pre_65 : ∀ t, Sp p e below T64 (mkF m 136 #[.val (.int p1), .val (.int p2), .val (.int p3), .val (.int c0), .val (.int c1), .val (.int c2), .val (.int c3), .val (.int nn)] [(.ref b58), (.ref b53), (.ref b53)]) t → Steps p.tables e below E0 t := fun t k => pre_63 t (st64 t k)
            have pre_66 : ∀ t, Sp p e below T64 (mkF m 140 #[.val (.int p1), .val (.int p2), .val (.int p3), .val (.int c0), .val (.int c1), .val (.int c2), .val (.int c3), .val (.int nn)] [(.int c2), (.int (2 : Int32)), (.ref b58), (.ref b58), (.ref b53), (.ref b53)]) t → Steps p.tables e below E0 t := by
              intro t k
              refine pre_65 t ?_
              show Sp p e below T64 (mkF m 136 #[.val (.int p1), .val (.int p2), .val (.int p3), .val (.int c0), .val (.int c1), .val (.int c2), .val (.int c3), .val (.int nn)] [(.ref b58), (.ref b53), (.ref b53)]) _
              refine XS.dup X64.here hx rfl (hb hby d_method_2_136) rfl rfl ?_
              refine XS.iconst X64.here hx rfl (hb hby d_method_2_137) ?_
              show Sp p e below T64 (mkF m 138 #[.val (.int p1), .val (.int p2), .val (.int p3), .val (.int c0), .val (.int c1), .val (.int c2), .val (.int c3), .val (.int nn)] [(.int (2 : Int32)), (.ref b58), (.ref b58), (.ref b53), (.ref b53)]) _
              refine XS.iload X64.here hx rfl (hb hby d_method_2_138) rfl ?_
              exact k
            obtain ⟨cl67, Ar67, q67, S67, M67, H67, G67⟩ := id V64
            obtain ⟨T67, h67, X67, e67, W67, st67⟩ := stC X64 hx hZ e64 Ar67 (j := (2 : Int32)) (inb_of S67 (by decide)) (g := (mkF m 140 #[.val (.int p1), .val (.int p2), .val (.int p3), .val (.int c0), .val (.int c1), .val (.int c2), .val (.int c3), .val (.int nn)] [(.int c2), (.int (2 : Int32)), (.ref b58), (.ref b58), (.ref b53), (.ref b53)])) rfl rfl (hb hby d_method_2_140)
            have N67 := Fr.snoc X67 N64 (Nat.le_trans (own_le O53) (Nat.le_of_eq g58.symm))
            have O67 : Old Z n0 h67 := O64.wr W67 (Nat.le_trans (own_le O53) (Nat.le_of_eq g58.symm))
            rw [hcc2.1] at W67
            have V67 : Arv Z h67 b58 cA58 .char (3 : Int32) [(.int c0), (.int c1), (.int c2)] (.int (0 : Int32)) := Arv.set Ar67 q67 S67 M67 H67 G67 (by rw [← hcc2.1]; exact (fits_nar_char _)) W67 2 rfl (Nat.le_of_ble_eq_true rfl)
            have pre_68 : ∀ t, Sp p e below T67 (mkF m 141 #[.val (.int p1), .val (.int p2), .val (.int p3), .val (.int c0), .val (.int c1), .val (.int c2), .val (.int c3), .val (.int nn)] [(.ref b58), (.ref b53), (.ref b53)]) t → Steps p.tables e below E0 t := fun t k => pre_66 t (st67 t k)
            obtain ⟨_, _, ⟨T69, L69, k69, n69⟩, -, X69, ⟨Lc69, hQ69, l69, y69, z69⟩, st69⟩ := X67.specialBack hx (y := (⟨"java/lang/String", "<init>", "([C)V"⟩ : MethodName)) rfl hown (mvT hZ (own_w hw 51 rfl)) (mvT hZ (own_w hw 52 rfl)) (mvT hZ (own_w hw 53 rfl)) (by decide) (backOf (W := 1) (rm_str3 l Z a0 hw [] b53 b58 .null (.int (0 : Int32)) G1 cA58 c0 c1 c2 h67 n0 O67 ((((A53.ext E58).wr W61).wr W64).wr W67) ((((F54.ext E58).other W61 (Or.inl (Nat.ne_of_lt (Nat.lt_of_lt_of_le A53.lt (Nat.le_of_eq g58.symm))))).other W64 (Or.inl (Nat.ne_of_lt (Nat.lt_of_lt_of_le A53.lt (Nat.le_of_eq g58.symm))))).other W67 (Or.inl (Nat.ne_of_lt (Nat.lt_of_lt_of_le A53.lt (Nat.le_of_eq g58.symm))))) ((((F55.ext E58).other W61 (Or.inl (Nat.ne_of_lt (Nat.lt_of_lt_of_le A53.lt (Nat.le_of_eq g58.symm))))).other W64 (Or.inl (Nat.ne_of_lt (Nat.lt_of_lt_of_le A53.lt (Nat.le_of_eq g58.symm))))).other W67 (Or.inl (Nat.ne_of_lt (Nat.lt_of_lt_of_le A53.lt (Nat.le_of_eq g58.symm))))) (Nat.le_trans (own_le O0) (Nat.le_of_eq g53.symm)) SC hG V67 hcc0.2 hcc1.2 hcc2.2) hZ (own_w hw 53 rfl) (own_w hw 49 rfl) (by decide) (by decide)) (g := (mkF m 141 #[.val (.int p1), .val (.int p2), .val (.int p3), .val (.int c0), .val (.int c1), .val (.int c2), .val (.int c3), .val (.int nn)] [(.ref b58), (.ref b53), (.ref b53)])) rfl (by rw [hml]; rfl) (Steps.refl _) (a := b53) (argsL := [(.ref b58)]) (rest := [(.ref b53)]) (lenOf pd_drawn_0 rfl) rfl (by show 2 * 0 + _ ≤ _; exact Nat.le_of_eq rfl) (hb hby d_method_2_141) (fun _ _ => ⟨rfl, e67, (by decide : 2 + 1 ≤ _), (by decide : 7 + 3 ≤ _)⟩)
            dsimp only [Pt.U, Pt.locs, Pt.cells, Pt.slots] at X69 l69 y69 z69 st69 hQ69
            subst l69 y69 z69
            obtain ⟨rfl, N69q, K69, Fc69, b69, kB69, sb69, Fv69, Vb69⟩ := hQ69
            have N69 := Fr.app N67 N69q
            have O69 : Old Z n0 T69.heap := O67.keep K69 (allS (Nat.le_trans (own_le O0) (Nat.le_of_eq g53.symm)) all0)
            have pre_70 : ∀ t, Sp p e below T69 (mkF m 144 #[.val (.int p1), .val (.int p2), .val (.int p3), .val (.int c0), .val (.int c1), .val (.int c2), .val (.int c3), .val (.int nn)] [(.ref b53)]) t → Steps p.tables e below E0 t := fun t k => pre_68 t (st69.trans k)
            obtain ⟨fs, hr, hrun, hended, hEnd⟩ := X69.leaveW ((State.WarmedH.refl s).since 0) (Nat.le_trans (Nat.zero_le _) (Nat.le_trans (Nat.le_trans (Nat.le_trans (Nat.le_trans (Nat.le_trans (Nat.le_trans (Nat.le_refl _) E53.1) E58.1) (Nat.le_of_eq W61.size.symm)) (Nat.le_of_eq W64.size.symm)) (Nat.le_of_eq W67.size.symm)) K69.1)) (v := some (.ref b53)) (fun h => by rw [Bd.returns] at h; cases h)
            refine ⟨_, _, pre_70 _ ?_, hrun, hended, _, _, rfl, ?_, hEnd.1, hEnd.2.1, hEnd.2.2.1, hEnd.2.2.2.mono (by decide) (by decide)⟩
            · show Sp p e below T69 (mkF m 144 #[.val (.int p1), .val (.int p2), .val (.int p3), .val (.int c0), .val (.int c1), .val (.int c2), .val (.int c3), .val (.int nn)] [(.ref b53)]) _
              exact retOut X69 hx (t := (.object "java/lang/String")) Bd.returns rfl (Or.inr (Or.inr (Or.inr (Or.inr ⟨rfl, rfl, rfl⟩)))) (hb hby d_method_2_144) hr
            · show Q_drawn Z _ _ _ _ h0 n0 _ T69.vm T69.heap _
              exact ⟨.ref b53, rfl, Or.inr ⟨b53, rfl, (((((A53.ext E58).wr W61).wr W64).wr W67).keep K69)⟩, N69, (((((((Keep.refl h0 []).ext E53).ext E58).wr W61 (Or.inr (Nat.le_trans ((Keep.refl h0 []).ext E53).1 (Nat.le_of_eq g58.symm)))).wr W64 (Or.inr (Nat.le_trans ((Keep.refl h0 []).ext E53).1 (Nat.le_of_eq g58.symm)))).wr W67 (Or.inr (Nat.le_trans ((Keep.refl h0 []).ext E53).1 (Nat.le_of_eq g58.symm)))).trans K69 (allS (Or.inr (Nat.le_trans (Keep.refl h0 []).1 (Nat.le_of_eq g53.symm))) all0))⟩
          · skip
            have pre_71 : ∀ t, Sp p e below s₁ (mkF m 145 #[.val (.int p1), .val (.int p2), .val (.int p3), .val (.int c0), .val (.int c1), .val (.int c2), .val (.int c3), .val (.int nn)] []) t → Steps p.tables e below E0 t := by
              intro t k
              refine pre_50 t ?_
              show Sp p e below s₁ (mkF m 117 #[.val (.int p1), .val (.int p2), .val (.int p3), .val (.int c0), .val (.int c1), .val (.int c2), .val (.int c3), .val (.int nn)] [(.int (4 : Int32)), (.int nn)]) _
              refine XS.icmpYes X0.here hx rfl (pc0 := 117) (pc' := 145) rfl (hb hby d_method_2_117) rfl (XT.ii_ne_t hc51) (by decide) (by decide) ?_
              exact k
            obtain ⟨T72, h72, X72, e72, E72, A72, D72, -, st72⟩ := newO X0 hx hZ hown (own_w hw 47 rfl) (own_w hw 48 rfl) (own_w hw 49 rfl) e0 (g := (mkF m 145 #[.val (.int p1), .val (.int p2), .val (.int p3), .val (.int c0), .val (.int c1), .val (.int c2), .val (.int c3), .val (.int nn)] [])) rfl (hb hby d_method_2_145) (by decide) (by decide)
            obtain ⟨b72, g72⟩ : ∃ z, z = h0.size := ⟨_, rfl⟩
            rw [← g72] at A72 D72 st72
            have O72 : Old Z n0 h72 := O0.ext E72
            have F73 : Fld Z h72 b72 "java/lang/String" "value" "[B" .null := D72 (Or.inr (own_w hw 61 rfl)) (ty := (.array .byte)) (by decide)
            have F74 : Fld Z h72 b72 "java/lang/String" "coder" "B" (.int (0 : Int32)) := D72 (Or.inr (own_w hw 62 rfl)) (ty := .byte) (by decide)
            have pre_75 : ∀ t, Sp p e below T72 (mkF m 148 #[.val (.int p1), .val (.int p2), .val (.int p3), .val (.int c0), .val (.int c1), .val (.int c2), .val (.int c3), .val (.int nn)] [(.ref b72)]) t → Steps p.tables e below E0 t := fun t k => pre_71 t (st72 t k)
            have pre_76 : ∀ t, Sp p e below T72 (mkF m 150 #[.val (.int p1), .val (.int p2), .val (.int p3), .val (.int c0), .val (.int c1), .val (.int c2), .val (.int c3), .val (.int nn)] [(.int (4 : Int32)), (.ref b72), (.ref b72)]) t → Steps p.tables e below E0 t := by
              intro t k
              refine pre_75 t ?_
              show Sp p e below T72 (mkF m 148 #[.val (.int p1), .val (.int p2), .val (.int p3), .val (.int c0), .val (.int c1), .val (.int c2), .val (.int c3), .val (.int nn)] [(.ref b72)]) _
              refine XS.dup X72.here hx rfl (hb hby d_method_2_148) rfl rfl ?_
              refine XS.iconst X72.here hx rfl (hb hby d_method_2_149) ?_
              show Sp p e below T72 (mkF m 150 #[.val (.int p1), .val (.int p2), .val (.int p3), .val (.int c0), .val (.int c1), .val (.int c2), .val (.int c3), .val (.int nn)] [(.int (4 : Int32)), (.ref b72), (.ref b72)]) _
              exact k
            obtain ⟨T77, h77, cA77, X77, e77, E77, A77, st77⟩ := newP X72 hx hZ (own_w hw 50 rfl) e72 (g := (mkF m 150 #[.val (.int p1), .val (.int p2), .val (.int p3), .val (.int c0), .val (.int c1), .val (.int c2), .val (.int c3), .val (.int nn)] [(.int (4 : Int32)), (.ref b72), (.ref b72)])) rfl (hb hby d_method_2_150) rfl (by decide) (cap := 4) (by decide) (by decide) (by decide) (by decide)
            obtain ⟨b77, g77⟩ : ∃ z, z = h72.size := ⟨_, rfl⟩
            rw [← g77] at A77 st77
            have O77 : Old Z n0 h77 := O72.ext E77
            have V77 : Arv Z h77 b77 cA77 .char (4 : Int32) [(.int (0 : Int32)), (.int (0 : Int32)), (.int (0 : Int32)), (.int (0 : Int32))] (.int (0 : Int32)) := (Arv.new A77 (by decide)).pad (pad_rep [] _ 4)
            have pre_78 : ∀ t, Sp p e below T77 (mkF m 152 #[.val (.int p1), .val (.int p2), .val (.int p3), .val (.int c0), .val (.int c1), .val (.int c2), .val (.int c3), .val (.int nn)] [(.ref b77), (.ref b72), (.ref b72)]) t → Steps p.tables e below E0 t := fun t k => pre_76 t (st77 t k)
            have pre_79 : ∀ t, Sp p e below T77 (mkF m 155 #[.val (.int p1), .val (.int p2), .val (.int p3), .val (.int c0), .val (.int c1), .val (.int c2), .val (.int c3), .val (.int nn)] [(.int c0), (.int (0 : Int32)), (.ref b77), (.ref b77), (.ref b72), (.ref b72)]) t → Steps p.tables e below E0 t := by
              intro t k
              refine pre_78 t ?_
              show Sp p e below T77 (mkF m 152 #[.val (.int p1), .val (.int p2), .val (.int p3), .val (.int c0), .val (.int c1), .val (.int c2), .val (.int c3), .val (.int nn)] [(.ref b77), (.ref b72), (.ref b72)]) _
              refine XS.dup X77.here hx rfl (hb hby d_method_2_152) rfl rfl ?_
              refine XS.iconst X77.here hx rfl (hb hby d_method_2_153) ?_
              refine XS.iloadN X77.here hx rfl (hb hby d_method_2_154) rfl ?_
              exact k
            obtain ⟨cl80, Ar80, q80, S80, M80, H80, G80⟩ := id V77
            obtain ⟨T80, h80, X80, e80, W80, st80⟩ := stC X77 hx hZ e77 Ar80 (j := (0 : Int32)) (inb_of S80 (by decide)) (g := (mkF m 155 #[.val (.int p1), .val (.int p2), .val (.int p3), .val (.int c0), .val (.int c1), .val (.int c2), .val (.int c3), .val (.int nn)] [(.int c0), (.int (0 : Int32)), (.ref b77), (.ref b77), (.ref b72), (.ref b72)])) rfl rfl (hb hby d_method_2_155)
            have N80 := Fr.snoc X80 N0 (Nat.le_trans (own_le O72) (Nat.le_of_eq g77.symm))
            have O80 : Old Z n0 h80 := O77.wr W80 (Nat.le_trans (own_le O72) (Nat.le_of_eq g77.symm))
            rw [hcc0.1] at W80
            have V80 : Arv Z h80 b77 cA77 .char (4 : Int32) [(.int c0), (.int (0 : Int32)), (.int (0 : Int32)), (.int (0 : Int32))] (.int (0 : Int32)) := Arv.set Ar80 q80 S80 M80 H80 G80 (by rw [← hcc0.1]; exact (fits_nar_char _)) W80 0 rfl (Nat.le_of_ble_eq_true rfl)
            have pre_81 : ∀ t, Sp p e below T80 (mkF m 156 #[.val (.int p1), .val (.int p2), .val (.int p3), .val (.int c0), .val (.int c1), .val (.int c2), .val (.int c3), .val (.int nn)] [(.ref b77), (.ref b72), (.ref b72)]) t → Steps p.tables e below E0 t := fun t k => pre_79 t (st80 t k)
            have pre_82 : ∀ t, Sp p e below T80 (mkF m 160 #[.val (.int p1), .val (.int p2), .val (.int p3), .val (.int c0), .val (.int c1), .val (.int c2), .val (.int c3), .val (.int nn)] [(.int c1), (.int (1 : Int32)), (.ref b77), (.ref b77), (.ref b72), (.ref b72)]) t → Steps p.tables e below E0 t := by
              intro t k
              refine pre_81 t ?_
              show Sp p e below T80 (mkF m 156 #[.val (.int p1), .val (.int p2), .val (.int p3), .val (.int c0), .val (.int c1), .val (.int c2), .val (.int c3), .val (.int nn)] [(.ref b77), (.ref b72), (.ref b72)]) _
              refine XS.dup X80.here hx rfl (hb hby d_method_2_156) rfl rfl ?_
              show Sp p e below T80 (mkF m 157 #[.val (.int p1), .val (.int p2), .val (.int p3), .val (.int c0), .val (.int c1), .val (.int c2), .val (.int c3), .val (.int nn)] [(.ref b77), (.ref b77), (.ref b72), (.ref b72)]) _
              refine XS.iconst X80.here hx rfl (hb hby d_method_2_157) ?_
              refine XS.iload X80.here hx rfl (hb hby d_method_2_158) rfl ?_
              exact k
            obtain ⟨cl83, Ar83, q83, S83, M83, H83, G83⟩ := id V80
            obtain ⟨T83, h83, X83, e83, W83, st83⟩ := stC X80 hx hZ e80 Ar83 (j := (1 : Int32)) (inb_of S83 (by decide)) (g := (mkF m 160 #[.val (.int p1), .val (.int p2), .val (.int p3), .val (.int c0), .val (.int c1), .val (.int c2), .val (.int c3), .val (.int nn)] [(.int c1), (.int (1 : Int32)), (.ref b77), (.ref b77), (.ref b72), (.ref b72)])) rfl rfl (hb hby d_method_2_160)
            have N83 := Fr.snoc X83 N80 (Nat.le_trans (own_le O72) (Nat.le_of_eq g77.symm))
            have O83 : Old Z n0 h83 := O80.wr W83 (Nat.le_trans (own_le O72) (Nat.le_of_eq g77.symm))
            rw [hcc1.1] at W83
            have V83 : Arv Z h83 b77 cA77 .char (4 : Int32) [(.int c0), (.int c1), (.int (0 : Int32)), (.int (0 : Int32))] (.int (0 : Int32)) := Arv.set Ar83 q83 S83 M83 H83 G83 (by rw [← hcc1.1]; exact (fits_nar_char _)) W83 1 rfl (Nat.le_of_ble_eq_true rfl)
            have pre_84 : ∀ t, Sp p e below T83 (mkF m 161 #[.val (.int p1), .val (.int p2), .val (.int p3), .val (.int c0), .val (.int c1), .val (.int c2), .val (.int c3), .val (.int nn)] [(.ref b77), (.ref b72), (.ref b72)]) t → Steps p.tables e below E0 t := fun t k => pre_82 t (st83 t k)
            have pre_85 : ∀ t, Sp p e below T83 (mkF m 165 #[.val (.int p1), .val (.int p2), .val (.int p3), .val (.int c0), .val (.int c1), .val (.int c2), .val (.int c3), .val (.int nn)] [(.int c2), (.int (2 : Int32)), (.ref b77), (.ref b77), (.ref b72), (.ref b72)]) t → Steps p.tables e below E0 t := by
              intro t k
              refine pre_84 t ?_
              show Sp p e below T83 (mkF m 161 #[.val (.int p1), .val (.int p2), .val (.int p3), .val (.int c0), .val (.int c1), .val (.int c2), .val (.int c3), .val (.int nn)] [(.ref b77), (.ref b72), (.ref b72)]) _
              refine XS.dup X83.here hx rfl (hb hby d_method_2_161) rfl rfl ?_
              refine XS.iconst X83.here hx rfl (hb hby d_method_2_162) ?_
              show Sp p e below T83 (mkF m 163 #[.val (.int p1), .val (.int p2), .val (.int p3), .val (.int c0), .val (.int c1), .val (.int c2), .val (.int c3), .val (.int nn)] [(.int (2 : Int32)), (.ref b77), (.ref b77), (.ref b72), (.ref b72)]) _
              refine XS.iload X83.here hx rfl (hb hby d_method_2_163) rfl ?_
              exact k
            obtain ⟨cl86, Ar86, q86, S86, M86, H86, G86⟩ := id V83
            obtain ⟨T86, h86, X86, e86, W86, st86⟩ := stC X83 hx hZ e83 Ar86 (j := (2 : Int32)) (inb_of S86 (by decide)) (g := (mkF m 165 #[.val (.int p1), .val (.int p2), .val (.int p3), .val (.int c0), .val (.int c1), .val (.int c2), .val (.int c3), .val (.int nn)] [(.int c2), (.int (2 : Int32)), (.ref b77), (.ref b77), (.ref b72), (.ref b72)])) rfl rfl (hb hby d_method_2_165)
            have N86 := Fr.snoc X86 N83 (Nat.le_trans (own_le O72) (Nat.le_of_eq g77.symm))
            have O86 : Old Z n0 h86 := O83.wr W86 (Nat.le_trans (own_le O72) (Nat.le_of_eq g77.symm))
            rw [hcc2.1] at W86
            have V86 : Arv Z h86 b77 cA77 .char (4 : Int32) [(.int c0), (.int c1), (.int c2), (.int (0 : Int32))] (.int (0 : Int32)) := Arv.set Ar86 q86 S86 M86 H86 G86 (by rw [← hcc2.1]; exact (fits_nar_char _)) W86 2 rfl (Nat.le_of_ble_eq_true rfl)
            have pre_87 : ∀ t, Sp p e below T86 (mkF m 166 #[.val (.int p1), .val (.int p2), .val (.int p3), .val (.int c0), .val (.int c1), .val (.int c2), .val (.int c3), .val (.int nn)] [(.ref b77), (.ref b72), (.ref b72)]) t → Steps p.tables e below E0 t := fun t k => pre_85 t (st86 t k)
            have pre_88 : ∀ t, Sp p e below T86 (mkF m 170 #[.val (.int p1), .val (.int p2), .val (.int p3), .val (.int c0), .val (.int c1), .val (.int c2), .val (.int c3), .val (.int nn)] [(.int c3), (.int (3 : Int32)), (.ref b77), (.ref b77), (.ref b72), (.ref b72)]) t → Steps p.tables e below E0 t := by
              intro t k
              refine pre_87 t ?_
              show Sp p e below T86 (mkF m 166 #[.val (.int p1), .val (.int p2), .val (.int p3), .val (.int c0), .val (.int c1), .val (.int c2), .val (.int c3), .val (.int nn)] [(.ref b77), (.ref b72), (.ref b72)]) _
              refine XS.dup X86.here hx rfl (hb hby d_method_2_166) rfl rfl ?_
              refine XS.iconst X86.here hx rfl (hb hby d_method_2_167) ?_
              refine XS.iload X86.here hx rfl (hb hby d_method_2_168) rfl ?_
              show Sp p e below T86 (mkF m 170 #[.val (.int p1), .val (.int p2), .val (.int p3), .val (.int c0), .val (.int c1), .val (.int c2), .val (.int c3), .val (.int nn)] [(.int c3), (.int (3 : Int32)), (.ref b77), (.ref b77), (.ref b72), (.ref b72)]) _
              exact k
            obtain ⟨cl89, Ar89, q89, S89, M89, H89, G89⟩ := id V86
            obtain ⟨T89, h89, X89, e89, W89, st89⟩ := stC X86 hx hZ e86 Ar89 (j := (3 : Int32)) (inb_of S89 (by decide)) (g := (mkF m 170 #[.val (.int p1), .val (.int p2), .val (.int p3), .val (.int c0), .val (.int c1), .val (.int c2), .val (.int c3), .val (.int nn)] [(.int c3), (.int (3 : Int32)), (.ref b77), (.ref b77), (.ref b72), (.ref b72)])) rfl rfl (hb hby d_method_2_170)
            have N89 := Fr.snoc X89 N86 (Nat.le_trans (own_le O72) (Nat.le_of_eq g77.symm))
            have O89 : Old Z n0 h89 := O86.wr W89 (Nat.le_trans (own_le O72) (Nat.le_of_eq g77.symm))
            rw [hcc3.1] at W89
            have V89 : Arv Z h89 b77 cA77 .char (4 : Int32) [(.int c0), (.int c1), (.int c2), (.int c3)] (.int (0 : Int32)) := Arv.set Ar89 q89 S89 M89 H89 G89 (by rw [← hcc3.1]; exact (fits_nar_char _)) W89 3 rfl (Nat.le_of_ble_eq_true rfl)
            have pre_90 : ∀ t, Sp p e below T89 (mkF m 171 #[.val (.int p1), .val (.int p2), .val (.int p3), .val (.int c0), .val (.int c1), .val (.int c2), .val (.int c3), .val (.int nn)] [(.ref b77), (.ref b72), (.ref b72)]) t → Steps p.tables e below E0 t := fun t k => pre_88 t (st89 t k)
            obtain ⟨_, _, ⟨T91, L91, k91, n91⟩, -, X91, ⟨Lc91, hQ91, l91, y91, z91⟩, st91⟩ := X89.specialBack hx (y := (⟨"java/lang/String", "<init>", "([C)V"⟩ : MethodName)) rfl hown (mvT hZ (own_w hw 51 rfl)) (mvT hZ (own_w hw 52 rfl)) (mvT hZ (own_w hw 53 rfl)) (by decide) (backOf (W := 1) (rm_str4 l Z a0 hw [] b72 b77 .null (.int (0 : Int32)) G1 cA77 c0 c1 c2 c3 h89 n0 O89 (((((A72.ext E77).wr W80).wr W83).wr W86).wr W89) (((((F73.ext E77).other W80 (Or.inl (Nat.ne_of_lt (Nat.lt_of_lt_of_le A72.lt (Nat.le_of_eq g77.symm))))).other W83 (Or.inl (Nat.ne_of_lt (Nat.lt_of_lt_of_le A72.lt (Nat.le_of_eq g77.symm))))).other W86 (Or.inl (Nat.ne_of_lt (Nat.lt_of_lt_of_le A72.lt (Nat.le_of_eq g77.symm))))).other W89 (Or.inl (Nat.ne_of_lt (Nat.lt_of_lt_of_le A72.lt (Nat.le_of_eq g77.symm))))) (((((F74.ext E77).other W80 (Or.inl (Nat.ne_of_lt (Nat.lt_of_lt_of_le A72.lt (Nat.le_of_eq g77.symm))))).other W83 (Or.inl (Nat.ne_of_lt (Nat.lt_of_lt_of_le A72.lt (Nat.le_of_eq g77.symm))))).other W86 (Or.inl (Nat.ne_of_lt (Nat.lt_of_lt_of_le A72.lt (Nat.le_of_eq g77.symm))))).other W89 (Or.inl (Nat.ne_of_lt (Nat.lt_of_lt_of_le A72.lt (Nat.le_of_eq g77.symm))))) (Nat.le_trans (own_le O0) (Nat.le_of_eq g72.symm)) SC hG V89 hcc0.2 hcc1.2 hcc2.2 hcc3.2) hZ (own_w hw 53 rfl) (own_w hw 49 rfl) (by decide) (by decide)) (g := (mkF m 171 #[.val (.int p1), .val (.int p2), .val (.int p3), .val (.int c0), .val (.int c1), .val (.int c2), .val (.int c3), .val (.int nn)] [(.ref b77), (.ref b72), (.ref b72)])) rfl (by rw [hml]; rfl) (Steps.refl _) (a := b72) (argsL := [(.ref b77)]) (rest := [(.ref b72)]) (lenOf pd_drawn_0 rfl) rfl (by show 2 * 0 + _ ≤ _; exact Nat.le_of_eq rfl) (hb hby d_method_2_171) (fun _ _ => ⟨rfl, e89, (by decide : 2 + 1 ≤ _), (by decide : 8 + 4 ≤ _)⟩)
            dsimp only [Pt.U, Pt.locs, Pt.cells, Pt.slots] at X91 l91 y91 z91 st91 hQ91
            subst l91 y91 z91
            obtain ⟨rfl, N91q, K91, Fc91, b91, kB91, sb91, Fv91, Vb91⟩ := hQ91
            have N91 := Fr.app N89 N91q
            have O91 : Old Z n0 T91.heap := O89.keep K91 (allS (Nat.le_trans (own_le O0) (Nat.le_of_eq g72.symm)) all0)
            have pre_92 : ∀ t, Sp p e below T91 (mkF m 174 #[.val (.int p1), .val (.int p2), .val (.int p3), .val (.int c0), .val (.int c1), .val (.int c2), .val (.int c3), .val (.int nn)] [(.ref b72)]) t → Steps p.tables e below E0 t := fun t k => pre_90 t (st91.trans k)
            obtain ⟨fs, hr, hrun, hended, hEnd⟩ := X91.leaveW ((State.WarmedH.refl s).since 0) (Nat.le_trans (Nat.zero_le _) (Nat.le_trans (Nat.le_trans (Nat.le_trans (Nat.le_trans (Nat.le_trans (Nat.le_trans (Nat.le_trans (Nat.le_refl _) E72.1) E77.1) (Nat.le_of_eq W80.size.symm)) (Nat.le_of_eq W83.size.symm)) (Nat.le_of_eq W86.size.symm)) (Nat.le_of_eq W89.size.symm)) K91.1)) (v := some (.ref b72)) (fun h => by rw [Bd.returns] at h; cases h)
            refine ⟨_, _, pre_92 _ ?_, hrun, hended, _, _, rfl, ?_, hEnd.1, hEnd.2.1, hEnd.2.2.1, hEnd.2.2.2.mono (by decide) (by decide)⟩
            · show Sp p e below T91 (mkF m 174 #[.val (.int p1), .val (.int p2), .val (.int p3), .val (.int c0), .val (.int c1), .val (.int c2), .val (.int c3), .val (.int nn)] [(.ref b72)]) _
              exact retOut X91 hx (t := (.object "java/lang/String")) Bd.returns rfl (Or.inr (Or.inr (Or.inr (Or.inr ⟨rfl, rfl, rfl⟩)))) (hb hby d_method_2_174) hr
            · show Q_drawn Z _ _ _ _ h0 n0 _ T91.vm T91.heap _
              exact ⟨.ref b72, rfl, Or.inr ⟨b72, rfl, ((((((A72.ext E77).wr W80).wr W83).wr W86).wr W89).keep K91)⟩, N91, ((((((((Keep.refl h0 []).ext E72).ext E77).wr W80 (Or.inr (Nat.le_trans ((Keep.refl h0 []).ext E72).1 (Nat.le_of_eq g77.symm)))).wr W83 (Or.inr (Nat.le_trans ((Keep.refl h0 []).ext E72).1 (Nat.le_of_eq g77.symm)))).wr W86 (Or.inr (Nat.le_trans ((Keep.refl h0 []).ext E72).1 (Nat.le_of_eq g77.symm)))).wr W89 (Or.inr (Nat.le_trans ((Keep.refl h0 []).ext E72).1 (Nat.le_of_eq g77.symm)))).trans K91 (allS (Or.inr (Nat.le_trans (Keep.refl h0 []).1 (Nat.le_of_eq g72.symm))) all0))⟩
theorem d_jdk_32_1_0 : decode jdk_32_method_1_code 0 = .ok (.getstatic 1, 3) := by decide +kernel
theorem d_jdk_32_1_3 : decode jdk_32_method_1_code 3 = .ok (.astore_n 0, 1) := by decide +kernel
theorem d_jdk_32_1_4 : decode jdk_32_method_1_code 4 = .ok (.aload_n 0, 1) := by decide +kernel
theorem d_jdk_32_1_5 : decode jdk_32_method_1_code 5 = .ok (.areturn, 1) := by decide +kernel
theorem pn_oe : plainName "java/util/Optional" = true := by first | (simp [plainName, overriddenIn]; done) | decide +kernel
theorem ef_oe (m : MethodId)  : entryFrame m #[] 1 = (mkF m 0 #[.unset] []) := by first | (simp [entryFrame, mkF, argsToLocals, Value.category]; done) | rfl
def Q_oe (Z : State)  (aO : Addr) (h0 : Heap) (n0 : Nat) (v : Option Value) (h : Heap) (L : List Loc) : Prop := v = some (.ref aO) ∧ Fr n0 L ∧ h = h0
set_option maxRecDepth 65536 in
set_option maxHeartbeats 40000000 in
theorem rm_oe (l : Launch) (Z : State) (a0 : Array Value) (hw : ∀ d ∈ tables_1, d.before a0 Z = true) (ws : List Jvm.Cond)  (aO : Addr) (h0 : Heap) (n0 : Nat) (O0 : Old Z n0 h0) (SE : Sta Z Z.heap "java/util/Optional" "EMPTY" "Ljava/util/Optional;" (.ref aO)) :
    MetFree l (⟨"java/util/Optional", "empty", "()Ljava/util/Optional;"⟩ : MethodName) (head1 (Jvm.Cond.code (⟨"java/util/Optional", "empty", "()Ljava/util/Optional;"⟩ : MethodName) jdk_32_method_1_code 1 (some (.object "java/util/Optional")) :: ws) ({ frames := 0, cells := 0, slots := 0, locals := 0 } : Room)) (fun a U => a = #[] ∧ Z.Warmed39 U.vm ∧ U.heap = h0) (fun _ _ _ _ _ => True) (fun _ U o U' => ∃ v L, o = .returned v ∧ Q_oe Z  aO h0 n0 v U'.heap L ∧ FrameEnd U o U' L ({ frames := 0, cells := 0, slots := 0, locals := 0 } : Room).cells ({ frames := 0, cells := 0, slots := 0, locals := 0 } : Room).slots) := by
  refine MetFree.of_bodySF (plainFor_of_name pn_oe) hisR ?_
  intro p e s m args below meth c s₁ Bd hml0 hP hK
  obtain ⟨rfl, hZ, hh⟩ := hP
  have hx := Bd.exec
  have hby := Bd.bytes
  have hml : c.maxLocals = 1 := hml0
  have hown : s.vm.findClass "java/util/Optional" = some m.cls := findClass_of_methodNamed Bd.named
  have hnm := (name_of_methodNamed Bd.named Bd.method).1
  have X0 : Stand p l e ({ frames := 0, cells := 0, slots := 0, locals := 0 } : Room) s m #[] below meth c s₁ [] 0 0 := Stand.of_body Bd
  have e0 : s₁.heap = h0 := by rw [← hh, Bd.state]; rfl
  have N0 := Fr.nil n0
  have pre0 : ∀ t, Steps p.tables e below (s₁.setTop (mkF m 0 #[.unset] [])) t → Steps p.tables e below (s₁.setTop (entryFrame m #[] 1)) t := fun t k => castTop (ef_oe m ) k
  generalize s₁.setTop (entryFrame m #[] 1) = E0 at pre0 ⊢
  obtain ⟨T1, X1, e1, st1⟩ := getS X0 hx hZ hown (host := "") (own_w hw 14 rfl) Via.refl e0 (SE.ext O0.2) (g := (mkF m 0 #[.unset] [])) rfl (hb hby d_jdk_32_1_0)
  have pre_2 : ∀ t, Sp p e below T1 (mkF m 3 #[.unset] [(.ref aO)]) t → Steps p.tables e below E0 t := fun t k => pre0 t (st1 t k)
  have pre_3 : ∀ t, Sp p e below T1 (mkF m 5 #[.val (.ref aO)] [(.ref aO)]) t → Steps p.tables e below E0 t := by
    intro t k
    refine pre_2 t ?_
    show Sp p e below T1 (mkF m 3 #[.unset] [(.ref aO)]) _
    refine XS.astoreN X1.here hx rfl (hb hby d_jdk_32_1_3) rfl rfl (l' := #[.val (.ref aO)]) rfl ?_
    refine XS.aloadN X1.here hx rfl (hb hby d_jdk_32_1_4) rfl rfl ?_
    exact k
  obtain ⟨fs, hr, hrun, hended, hW, hsame⟩ := X1.leave (v := some (.ref aO)) (fun h => by rw [Bd.returns] at h; cases h)
  refine ⟨_, _, pre_3 _ ?_, hrun, hended, _, _, rfl, ?_, ⟨_, rfl⟩, hW, hsame.mono (by decide) (by decide)⟩
  · show Sp p e below T1 (mkF m 5 #[.val (.ref aO)] [(.ref aO)]) _
    exact retOut X1 hx (t := (.object "java/util/Optional")) Bd.returns rfl (Or.inr (Or.inr (Or.inr (Or.inr ⟨rfl, rfl, rfl⟩)))) (hb hby d_jdk_32_1_5) hr
  · show Q_oe Z _ h0 n0 _ T1.heap _
    rw [e1]
    exact ⟨rfl, N0, rfl⟩
theorem d_jdk_30_1_0 : decode jdk_30_method_1_code 0 = .ok (.aload_n 0, 1) := by decide +kernel
theorem d_jdk_30_1_1 : decode jdk_30_method_1_code 1 = .ok (.invokespecial 1, 3) := by decide +kernel
theorem d_jdk_30_1_4 : decode jdk_30_method_1_code 4 = .ok (.return_, 1) := by decide +kernel
theorem pn_rec : plainName "java/lang/Record" = true := by first | (simp [plainName, overriddenIn]; done) | decide +kernel
theorem ef_rec (m : MethodId) (a1 : Addr) : entryFrame m #[(.ref a1)] 1 = (mkF m 0 #[.val (.ref a1)] []) := by first | (simp [entryFrame, mkF, argsToLocals, Value.category]; done) | rfl
def Q_rec (Z : State) (a1 : Addr)  (h0 : Heap) (n0 : Nat) (v : Option Value) (h : Heap) (L : List Loc) : Prop := v = none ∧ Fr n0 L ∧ h = h0
set_option maxRecDepth 65536 in
set_option maxHeartbeats 40000000 in
theorem rm_rec (l : Launch) (Z : State) (a0 : Array Value) (hw : ∀ d ∈ tables_1, d.before a0 Z = true) (ws : List Jvm.Cond) (a1 : Addr)  (h0 : Heap) (n0 : Nat) (O0 : Old Z n0 h0)  :
    MetFree l (⟨"java/lang/Record", "<init>", "()V"⟩ : MethodName) (head1 (Jvm.Cond.code (⟨"java/lang/Record", "<init>", "()V"⟩ : MethodName) jdk_30_method_1_code 1 none :: ws) ({ frames := 1, cells := 0, slots := 0, locals := 12 } : Room)) (fun a U => a = #[(.ref a1)] ∧ Z.Warmed39 U.vm ∧ U.heap = h0) (fun _ _ _ _ _ => True) (fun _ U o U' => ∃ v L, o = .returned v ∧ Q_rec Z a1  h0 n0 v U'.heap L ∧ FrameEnd U o U' L ({ frames := 1, cells := 0, slots := 0, locals := 12 } : Room).cells ({ frames := 1, cells := 0, slots := 0, locals := 12 } : Room).slots) := by
  refine MetFree.of_bodySF (plainFor_of_name pn_rec) hisR ?_
  intro p e s m args below meth c s₁ Bd hml0 hP hK
  obtain ⟨rfl, hZ, hh⟩ := hP
  have hx := Bd.exec
  have hby := Bd.bytes
  have hml : c.maxLocals = 1 := hml0
  have hown : s.vm.findClass "java/lang/Record" = some m.cls := findClass_of_methodNamed Bd.named
  have hnm := (name_of_methodNamed Bd.named Bd.method).1
  have X0 : Stand p l e ({ frames := 1, cells := 0, slots := 0, locals := 12 } : Room) s m #[(.ref a1)] below meth c s₁ [] 0 0 := Stand.of_body Bd
  have e0 : s₁.heap = h0 := by rw [← hh, Bd.state]; rfl
  have N0 := Fr.nil n0
  have pre0 : ∀ t, Steps p.tables e below (s₁.setTop (mkF m 0 #[.val (.ref a1)] [])) t → Steps p.tables e below (s₁.setTop (entryFrame m #[(.ref a1)] 1)) t := fun t k => castTop (ef_rec m a1) k
  generalize s₁.setTop (entryFrame m #[(.ref a1)] 1) = E0 at pre0 ⊢
  have pre_1 : ∀ t, Sp p e below s₁ (mkF m 1 #[.val (.ref a1)] [(.ref a1)]) t → Steps p.tables e below E0 t := by
    intro t k
    refine pre0 t ?_
    show Sp p e below s₁ (mkF m 0 #[.val (.ref a1)] []) _
    refine XS.aloadN X0.here hx rfl (hb hby d_jdk_30_1_0) rfl rfl ?_
    exact k
  obtain ⟨T2, X2, e2, st2⟩ := initO X0 hx hZ hown (own_w hw 23 rfl) (own_w hw 24 rfl) (own_w hw 25 rfl) e0 (g := (mkF m 1 #[.val (.ref a1)] [(.ref a1)])) rfl (by rw [hml]; rfl) rfl (hb hby d_jdk_30_1_1) (by decide) (W := 0) (by show 2 * 0 + _ ≤ _; exact Nat.le_of_eq rfl) (by decide)
  have pre_3 : ∀ t, Sp p e below T2 (mkF m 4 #[.val (.ref a1)] []) t → Steps p.tables e below E0 t := fun t k => pre_1 t (st2 t k)
  obtain ⟨fs, hr, hrun, hended, hW, hsame⟩ := X2.leave (v := none) (fun _ => rfl)
  refine ⟨_, _, pre_3 _ ?_, hrun, hended, _, _, rfl, ?_, ⟨_, rfl⟩, hW, hsame.mono (by decide) (by decide)⟩
  · show Sp p e below T2 (mkF m 4 #[.val (.ref a1)] []) _
    exact X2.returnOut hx Bd.returns (hb hby d_jdk_30_1_4) hr
  · show Q_rec Z _ h0 n0 _ T2.heap _
    rw [e2]
    exact ⟨rfl, N0, rfl⟩
theorem d_prog_43_1_0 : decode prog_43_method_1_code 0 = .ok (.aload_n 0, 1) := by decide +kernel
theorem d_prog_43_1_1 : decode prog_43_method_1_code 1 = .ok (.invokespecial 1, 3) := by decide +kernel
theorem d_prog_43_1_4 : decode prog_43_method_1_code 4 = .ok (.aload_n 0, 1) := by decide +kernel
theorem d_prog_43_1_5 : decode prog_43_method_1_code 5 = .ok (.aload_n 1, 1) := by decide +kernel
theorem d_prog_43_1_6 : decode prog_43_method_1_code 6 = .ok (.putfield 7, 3) := by decide +kernel
theorem d_prog_43_1_9 : decode prog_43_method_1_code 9 = .ok (.aload_n 0, 1) := by decide +kernel
theorem d_prog_43_1_10 : decode prog_43_method_1_code 10 = .ok (.aload_n 2, 1) := by decide +kernel
theorem d_prog_43_1_11 : decode prog_43_method_1_code 11 = .ok (.putfield 13, 3) := by decide +kernel
theorem d_prog_43_1_14 : decode prog_43_method_1_code 14 = .ok (.return_, 1) := by decide +kernel
theorem pn_iniN : plainName "com/example/drover/drover/operator/passes/Found" = true := by first | (simp [plainName, overriddenIn]; done) | decide +kernel
theorem pd_iniN_0 : parseMethodDescriptor "()V" = some ⟨[], none⟩ := by decide +kernel
theorem ef_iniN (m : MethodId) (a1 : Addr) (a2 : Addr) : entryFrame m #[(.ref a1), (.ref a2), .null] 3 = (mkF m 0 #[.val (.ref a1), .val (.ref a2), .val .null] []) := by first | (simp [entryFrame, mkF, argsToLocals, Value.category]; done) | rfl
def Q_iniN (Z : State) (a1 : Addr) (a2 : Addr) (u1 u2 : Value) (h0 : Heap) (n0 : Nat) (v : Option Value) (h : Heap) (L : List Loc) : Prop := v = none ∧ Fr n0 L ∧ Keep h0 h [a1] ∧ Fld Z h a1 "com/example/drover/drover/operator/passes/Found" "value" "Ljava/util/Optional;" (.ref a2) ∧ Fld Z h a1 "com/example/drover/drover/operator/passes/Found" "problem" "Ljava/lang/String;" .null
set_option maxRecDepth 65536 in
set_option maxHeartbeats 40000000 in
theorem rm_iniN (l : Launch) (Z : State) (a0 : Array Value) (hw : ∀ d ∈ tables_1, d.before a0 Z = true) (ws : List Jvm.Cond) (a1 : Addr) (a2 : Addr) (u1 u2 : Value) (h0 : Heap) (n0 : Nat) (O0 : Old Z n0 h0) (E1 : Exa Z h0 a1 "com/example/drover/drover/operator/passes/Found") (F1 : Fld Z h0 a1 "com/example/drover/drover/operator/passes/Found" "value" "Ljava/util/Optional;" u1) (F2 : Fld Z h0 a1 "com/example/drover/drover/operator/passes/Found" "problem" "Ljava/lang/String;" u2) (g1 : n0 ≤ a1) :
    MetFree l (⟨"com/example/drover/drover/operator/passes/Found", "<init>", "(Ljava/util/Optional;Ljava/lang/String;)V"⟩ : MethodName) (head1 (Jvm.Cond.code (⟨"com/example/drover/drover/operator/passes/Found", "<init>", "(Ljava/util/Optional;Ljava/lang/String;)V"⟩ : MethodName) prog_43_method_1_code 3 none :: ws) ({ frames := 2, cells := 0, slots := 0, locals := 24 } : Room)) (fun a U => a = #[(.ref a1), (.ref a2), .null] ∧ Z.Warmed39 U.vm ∧ U.heap = h0) (fun _ _ _ _ _ => True) (fun _ U o U' => ∃ v L, o = .returned v ∧ Q_iniN Z a1 a2 u1 u2 h0 n0 v U'.heap L ∧ FrameEnd U o U' L ({ frames := 2, cells := 0, slots := 0, locals := 24 } : Room).cells ({ frames := 2, cells := 0, slots := 0, locals := 24 } : Room).slots) := by
  refine MetFree.of_bodySF (plainFor_of_name pn_iniN) hisR ?_
  intro p e s m args below meth c s₁ Bd hml0 hP hK
  obtain ⟨rfl, hZ, hh⟩ := hP
  have hx := Bd.exec
  have hby := Bd.bytes
  have hml : c.maxLocals = 3 := hml0
  have hown : s.vm.findClass "com/example/drover/drover/operator/passes/Found" = some m.cls := findClass_of_methodNamed Bd.named
  have hnm := (name_of_methodNamed Bd.named Bd.method).1
  have X0 : Stand p l e ({ frames := 2, cells := 0, slots := 0, locals := 24 } : Room) s m #[(.ref a1), (.ref a2), .null] below meth c s₁ [] 0 0 := Stand.of_body Bd
  have e0 : s₁.heap = h0 := by rw [← hh, Bd.state]; rfl
  have N0 := Fr.nil n0
  have pre0 : ∀ t, Steps p.tables e below (s₁.setTop (mkF m 0 #[.val (.ref a1), .val (.ref a2), .val .null] [])) t → Steps p.tables e below (s₁.setTop (entryFrame m #[(.ref a1), (.ref a2), .null] 3)) t := fun t k => castTop (ef_iniN m a1 a2) k
  generalize s₁.setTop (entryFrame m #[(.ref a1), (.ref a2), .null] 3) = E0 at pre0 ⊢
  have pre_1 : ∀ t, Sp p e below s₁ (mkF m 1 #[.val (.ref a1), .val (.ref a2), .val .null] [(.ref a1)]) t → Steps p.tables e below E0 t := by
    intro t k
    refine pre0 t ?_
    show Sp p e below s₁ (mkF m 0 #[.val (.ref a1), .val (.ref a2), .val .null] []) _
    refine XS.aloadN X0.here hx rfl (hb hby d_prog_43_1_0) rfl rfl ?_
    exact k
  obtain ⟨_, _, ⟨T2, L2, k2, n2⟩, -, X2, ⟨Lc2, hQ2, l2, y2, z2⟩, st2⟩ := X0.specialBack hx (y := (⟨"java/lang/Record", "<init>", "()V"⟩ : MethodName)) rfl hown (mvT hZ (own_w hw 18 rfl)) (mvT hZ (own_w hw 19 rfl)) (mvT hZ (own_w hw 22 rfl)) (by decide) (backOf (W := 0) (rm_rec l Z a0 hw [] a1 h0 n0 O0) hZ (own_w hw 22 rfl) (own_w hw 21 rfl) (by decide) (by decide)) (g := (mkF m 1 #[.val (.ref a1), .val (.ref a2), .val .null] [(.ref a1)])) rfl (by rw [hml]; rfl) (Steps.refl _) (a := a1) (argsL := []) (rest := []) (lenOf pd_iniN_0 rfl) rfl (by show 2 * 0 + _ ≤ _; exact Nat.le_of_eq rfl) (hb hby d_prog_43_1_1) (fun _ _ => ⟨rfl, e0, (by decide : 0 + 0 ≤ _), (by decide : 0 + 0 ≤ _)⟩)
  dsimp only [Pt.U, Pt.locs, Pt.cells, Pt.slots] at X2 l2 y2 z2 st2 hQ2
  subst l2 y2 z2
  obtain ⟨rfl, N2q, e2⟩ := hQ2
  have N2 := Fr.app N0 N2q
  have pre_3 : ∀ t, Sp p e below T2 (mkF m 4 #[.val (.ref a1), .val (.ref a2), .val .null] []) t → Steps p.tables e below E0 t := fun t k => pre_1 t (st2.trans k)
  have pre_4 : ∀ t, Sp p e below T2 (mkF m 6 #[.val (.ref a1), .val (.ref a2), .val .null] [(.ref a2), (.ref a1)]) t → Steps p.tables e below E0 t := by
    intro t k
    refine pre_3 t ?_
    show Sp p e below T2 (mkF m 4 #[.val (.ref a1), .val (.ref a2), .val .null] []) _
    refine XS.aloadN X2.here hx rfl (hb hby d_prog_43_1_4) rfl rfl ?_
    refine XS.aloadN X2.here hx rfl (hb hby d_prog_43_1_5) rfl rfl ?_
    exact k
  obtain ⟨T5, h5, X5, e5, W5, st5⟩ := putF X2 hx hZ hown (host := "") (Or.inl (own_w hw 26 rfl)) Via.refl e2 F1 E1 (Or.inr ⟨(own_w hw 27 rfl), rfl, hnm⟩) (own_w hw 9 rfl) (ty := (.object "java/util/Optional")) (by decide) rfl rfl (g := (mkF m 6 #[.val (.ref a1), .val (.ref a2), .val .null] [(.ref a2), (.ref a1)])) rfl rfl (hb hby d_prog_43_1_6)
  have Fw5 := F1.same W5
  have N5 := Fr.snoc X5 N2 g1
  have O5 : Old Z n0 h5 := O0.wr W5 g1
  have pre_6 : ∀ t, Sp p e below T5 (mkF m 9 #[.val (.ref a1), .val (.ref a2), .val .null] []) t → Steps p.tables e below E0 t := fun t k => pre_4 t (st5 t k)
  have pre_7 : ∀ t, Sp p e below T5 (mkF m 11 #[.val (.ref a1), .val (.ref a2), .val .null] [.null, (.ref a1)]) t → Steps p.tables e below E0 t := by
    intro t k
    refine pre_6 t ?_
    show Sp p e below T5 (mkF m 9 #[.val (.ref a1), .val (.ref a2), .val .null] []) _
    refine XS.aloadN X5.here hx rfl (hb hby d_prog_43_1_9) rfl rfl ?_
    show Sp p e below T5 (mkF m 10 #[.val (.ref a1), .val (.ref a2), .val .null] [(.ref a1)]) _
    refine XS.aloadN X5.here hx rfl (hb hby d_prog_43_1_10) rfl rfl ?_
    exact k
  obtain ⟨T8, h8, X8, e8, W8, st8⟩ := putF X5 hx hZ hown (host := "") (Or.inl (own_w hw 28 rfl)) Via.refl e5 (F2.other W5 (Or.inr (slot_ne (Or.inr (own_w hw 29 rfl)) (Or.inr (own_w hw 27 rfl)) (by decide) (t := (.object "java/lang/String")) (t' := (.object "java/util/Optional")) (by decide) (by decide)))) (E1.wr W5) (Or.inr ⟨(own_w hw 29 rfl), rfl, hnm⟩) (own_w hw 9 rfl) (ty := (.object "java/lang/String")) (by decide) rfl rfl (g := (mkF m 11 #[.val (.ref a1), .val (.ref a2), .val .null] [.null, (.ref a1)])) rfl rfl (hb hby d_prog_43_1_11)
  have Fw8 := (F2.other W5 (Or.inr (slot_ne (Or.inr (own_w hw 29 rfl)) (Or.inr (own_w hw 27 rfl)) (by decide) (t := (.object "java/lang/String")) (t' := (.object "java/util/Optional")) (by decide) (by decide)))).same W8
  have N8 := Fr.snoc X8 N5 g1
  have O8 : Old Z n0 h8 := O5.wr W8 g1
  have pre_9 : ∀ t, Sp p e below T8 (mkF m 14 #[.val (.ref a1), .val (.ref a2), .val .null] []) t → Steps p.tables e below E0 t := fun t k => pre_7 t (st8 t k)
  obtain ⟨fs, hr, hrun, hended, hW, hsame⟩ := X8.leave (v := none) (fun _ => rfl)
  refine ⟨_, _, pre_9 _ ?_, hrun, hended, _, _, rfl, ?_, ⟨_, rfl⟩, hW, hsame.mono (by decide) (by decide)⟩
  · show Sp p e below T8 (mkF m 14 #[.val (.ref a1), .val (.ref a2), .val .null] []) _
    exact X8.returnOut hx Bd.returns (hb hby d_prog_43_1_14) hr
  · show Q_iniN Z _ _ _ _ h0 n0 _ T8.heap _
    rw [e8]
    exact ⟨rfl, N8, (((Keep.refl h0 [a1]).wr W5 (Or.inl (List.mem_of_getElem? (i := 0) rfl))).wr W8 (Or.inl (List.mem_of_getElem? (i := 0) rfl))), (Fw5.other W8 (Or.inr (slot_ne (Or.inr (own_w hw 27 rfl)) (Or.inr (own_w hw 29 rfl)) (by decide) (t := (.object "java/util/Optional")) (t' := (.object "java/lang/String")) (by decide) (by decide)))), Fw8⟩
theorem d_prog_43_3_0 : decode prog_43_method_3_code 0 = .ok (.new 8, 3) := by decide +kernel
theorem d_prog_43_3_3 : decode prog_43_method_3_code 3 = .ok (.dup, 1) := by decide +kernel
theorem d_prog_43_3_4 : decode prog_43_method_3_code 4 = .ok (.invokestatic 26, 3) := by decide +kernel
theorem d_prog_43_3_7 : decode prog_43_method_3_code 7 = .ok (.aload_n 0, 1) := by decide +kernel
theorem d_prog_43_3_8 : decode prog_43_method_3_code 8 = .ok (.invokespecial 23, 3) := by decide +kernel
theorem d_prog_43_3_11 : decode prog_43_method_3_code 11 = .ok (.areturn, 1) := by decide +kernel
theorem pn_misN : plainName "com/example/drover/drover/operator/passes/Found" = true := by first | (simp [plainName, overriddenIn]; done) | decide +kernel
theorem pd_misN_0 : parseMethodDescriptor "()Ljava/util/Optional;" = some ⟨[], some (.object "java/util/Optional")⟩ := by decide +kernel
theorem pd_misN_1 : parseMethodDescriptor "(Ljava/util/Optional;Ljava/lang/String;)V" = some ⟨[(.object "java/util/Optional"), (.object "java/lang/String")], none⟩ := by decide +kernel
theorem ef_misN (m : MethodId)  : entryFrame m #[.null] 1 = (mkF m 0 #[.val .null] []) := by first | (simp [entryFrame, mkF, argsToLocals, Value.category]; done) | rfl
def Q_misN (Z : State)  (aO : Addr) (h0 : Heap) (n0 : Nat) (v : Option Value) (h : Heap) (L : List Loc) : Prop := ∃ b, v = some (.ref b) ∧ Fr n0 L ∧ Keep h0 h [] ∧ h0.size ≤ b ∧ Exa Z h b "com/example/drover/drover/operator/passes/Found" ∧ Fld Z h b "com/example/drover/drover/operator/passes/Found" "value" "Ljava/util/Optional;" (.ref aO) ∧ Fld Z h b "com/example/drover/drover/operator/passes/Found" "problem" "Ljava/lang/String;" .null
set_option maxRecDepth 65536 in
set_option maxHeartbeats 40000000 in
theorem rm_misN (l : Launch) (Z : State) (a0 : Array Value) (hw : ∀ d ∈ tables_1, d.before a0 Z = true) (ws : List Jvm.Cond)  (aO : Addr) (h0 : Heap) (n0 : Nat) (O0 : Old Z n0 h0) (SE : Sta Z Z.heap "java/util/Optional" "EMPTY" "Ljava/util/Optional;" (.ref aO)) :
    MetFree l (⟨"com/example/drover/drover/operator/passes/Found", "missing", "(Ljava/lang/String;)Lcom/example/drover/drover/operator/passes/Found;"⟩ : MethodName) (head1 (Jvm.Cond.code (⟨"com/example/drover/drover/operator/passes/Found", "missing", "(Ljava/lang/String;)Lcom/example/drover/drover/operator/passes/Found;"⟩ : MethodName) prog_43_method_3_code 1 (some (.object "com/example/drover/drover/operator/passes/Found")) :: ws) ({ frames := 3, cells := 1, slots := 2, locals := 40 } : Room)) (fun a U => a = #[.null] ∧ Z.Warmed39 U.vm ∧ U.heap = h0) (fun _ _ _ _ _ => True) (fun _ U o U' => ∃ v L, o = .returned v ∧ Q_misN Z  aO h0 n0 v U'.heap L ∧ FrameEnd U o U' L ({ frames := 3, cells := 1, slots := 2, locals := 40 } : Room).cells ({ frames := 3, cells := 1, slots := 2, locals := 40 } : Room).slots) := by
  refine MetFree.of_bodySF (plainFor_of_name pn_misN) hisR ?_
  intro p e s m args below meth c s₁ Bd hml0 hP hK
  obtain ⟨rfl, hZ, hh⟩ := hP
  have hx := Bd.exec
  have hby := Bd.bytes
  have hml : c.maxLocals = 1 := hml0
  have hown : s.vm.findClass "com/example/drover/drover/operator/passes/Found" = some m.cls := findClass_of_methodNamed Bd.named
  have hnm := (name_of_methodNamed Bd.named Bd.method).1
  have X0 : Stand p l e ({ frames := 3, cells := 1, slots := 2, locals := 40 } : Room) s m #[.null] below meth c s₁ [] 0 0 := Stand.of_body Bd
  have e0 : s₁.heap = h0 := by rw [← hh, Bd.state]; rfl
  have N0 := Fr.nil n0
  have pre0 : ∀ t, Steps p.tables e below (s₁.setTop (mkF m 0 #[.val .null] [])) t → Steps p.tables e below (s₁.setTop (entryFrame m #[.null] 1)) t := fun t k => castTop (ef_misN m ) k
  generalize s₁.setTop (entryFrame m #[.null] 1) = E0 at pre0 ⊢
  obtain ⟨T1, h1, X1, e1, E1, A1, D1, -, st1⟩ := newO X0 hx hZ hown (own_w hw 8 rfl) (own_w hw 9 rfl) (own_w hw 6 rfl) e0 (g := (mkF m 0 #[.val .null] [])) rfl (hb hby d_prog_43_3_0) (by decide) (by decide)
  obtain ⟨b1, g1⟩ : ∃ z, z = h0.size := ⟨_, rfl⟩
  rw [← g1] at A1 D1 st1
  have O1 : Old Z n0 h1 := O0.ext E1
  have F2 : Fld Z h1 b1 "com/example/drover/drover/operator/passes/Found" "value" "Ljava/util/Optional;" .null := D1 (Or.inr (own_w hw 27 rfl)) (ty := (.object "java/util/Optional")) (by decide)
  have F3 : Fld Z h1 b1 "com/example/drover/drover/operator/passes/Found" "problem" "Ljava/lang/String;" .null := D1 (Or.inr (own_w hw 29 rfl)) (ty := (.object "java/lang/String")) (by decide)
  have pre_4 : ∀ t, Sp p e below T1 (mkF m 3 #[.val .null] [(.ref b1)]) t → Steps p.tables e below E0 t := fun t k => pre0 t (st1 t k)
  have pre_5 : ∀ t, Sp p e below T1 (mkF m 4 #[.val .null] [(.ref b1), (.ref b1)]) t → Steps p.tables e below E0 t := by
    intro t k
    refine pre_4 t ?_
    show Sp p e below T1 (mkF m 3 #[.val .null] [(.ref b1)]) _
    refine XS.dup X1.here hx rfl (hb hby d_prog_43_3_3) rfl rfl ?_
    exact k
  obtain ⟨_, _, ⟨T6, L6, k6, n6⟩, -, X6, ⟨Lc6, hQ6, l6, y6, z6⟩, st6⟩ := Jvm.LawKit.callS X1 hx (y := (⟨"java/util/Optional", "empty", "()Ljava/util/Optional;"⟩ : MethodName)) hown (mvT hZ (own_w hw 10 rfl)) (mvT hZ (own_w hw 11 rfl)) (mvT hZ (own_w hw 12 rfl)) (mvT hZ (own_w hw 13 rfl)) (by decide) (backOf (W := 2) (rm_oe l Z a0 hw [] aO h1 n0 O1 SE) hZ (own_w hw 13 rfl) (own_w hw 12 rfl) (by decide) (by decide)) (g := (mkF m 4 #[.val .null] [(.ref b1), (.ref b1)])) rfl (by rw [hml]; rfl) (argsL := []) (rest := [(.ref b1), (.ref b1)]) (lenOf pd_misN_0 rfl) rfl (by show 2 * 0 + _ ≤ _; exact Nat.le_of_eq rfl) (hb hby d_prog_43_3_4) (fun _ _ => ⟨rfl, e1, (by decide : 1 + 0 ≤ _), (by decide : 2 + 0 ≤ _)⟩)
  dsimp only [Pt.U, Pt.locs, Pt.cells, Pt.slots] at X6 l6 y6 z6 st6 hQ6
  subst l6 y6 z6
  obtain ⟨rfl, N6q, e6⟩ := hQ6
  have N6 := Fr.app N0 N6q
  have pre_7 : ∀ t, Sp p e below T6 (mkF m 7 #[.val .null] [(.ref aO), (.ref b1), (.ref b1)]) t → Steps p.tables e below E0 t := fun t k => pre_5 t (st6 t k)
  have pre_8 : ∀ t, Sp p e below T6 (mkF m 8 #[.val .null] [.null, (.ref aO), (.ref b1), (.ref b1)]) t → Steps p.tables e below E0 t := by
    intro t k
    refine pre_7 t ?_
    show Sp p e below T6 (mkF m 7 #[.val .null] [(.ref aO), (.ref b1), (.ref b1)]) _
    refine XS.aloadN X6.here hx rfl (hb hby d_prog_43_3_7) rfl rfl ?_
    exact k
  obtain ⟨_, _, ⟨T9, L9, k9, n9⟩, -, X9, ⟨Lc9, hQ9, l9, y9, z9⟩, st9⟩ := X6.specialBack hx (y := (⟨"com/example/drover/drover/operator/passes/Found", "<init>", "(Ljava/util/Optional;Ljava/lang/String;)V"⟩ : MethodName)) rfl hown (mvT hZ (own_w hw 15 rfl)) (mvT hZ (own_w hw 16 rfl)) (mvT hZ (own_w hw 17 rfl)) (by decide) (backOf (W := 1) (rm_iniN l Z a0 hw [] b1 aO  .null .null h1 n0 O1 A1 F2 F3 (Nat.le_trans (own_le O0) (Nat.le_of_eq g1.symm))) hZ (own_w hw 17 rfl) (own_w hw 6 rfl) (by decide) (by decide)) (g := (mkF m 8 #[.val .null] [.null, (.ref aO), (.ref b1), (.ref b1)])) rfl (by rw [hml]; rfl) (Steps.refl _) (a := b1) (argsL := [(.ref aO), .null]) (rest := [(.ref b1)]) (lenOf pd_misN_1 rfl) rfl (by show 2 * 0 + _ ≤ _; exact Nat.le_of_eq rfl) (hb hby d_prog_43_3_8) (fun _ _ => ⟨rfl, e6, (by decide : 1 + 0 ≤ _), (by decide : 2 + 0 ≤ _)⟩)
  dsimp only [Pt.U, Pt.locs, Pt.cells, Pt.slots] at X9 l9 y9 z9 st9 hQ9
  subst l9 y9 z9
  obtain ⟨rfl, N9q, K9, Fa9, Fb9⟩ := hQ9
  have N9 := Fr.app N6 N9q
  have O9 : Old Z n0 T9.heap := O1.keep K9 (allS (Nat.le_trans (own_le O0) (Nat.le_of_eq g1.symm)) all0)
  have pre_10 : ∀ t, Sp p e below T9 (mkF m 11 #[.val .null] [(.ref b1)]) t → Steps p.tables e below E0 t := fun t k => pre_8 t (st9.trans k)
  obtain ⟨fs, hr, hrun, hended, hW, hsame⟩ := X9.leave (v := some (.ref b1)) (fun h => by rw [Bd.returns] at h; cases h)
  refine ⟨_, _, pre_10 _ ?_, hrun, hended, _, _, rfl, ?_, ⟨_, rfl⟩, hW, hsame.mono (by decide) (by decide)⟩
  · show Sp p e below T9 (mkF m 11 #[.val .null] [(.ref b1)]) _
    exact retOut X9 hx (t := (.object "com/example/drover/drover/operator/passes/Found")) Bd.returns rfl (Or.inr (Or.inr (Or.inr (Or.inr ⟨rfl, rfl, rfl⟩)))) (hb hby d_prog_43_3_11) hr
  · show Q_misN Z _ h0 n0 _ T9.heap _
    exact ⟨b1, rfl, N9, (((Keep.refl h0 []).ext E1).trans K9 (allS (Or.inr (Nat.le_trans (Keep.refl h0 []).1 (Nat.le_of_eq g1.symm))) all0)), (Nat.le_trans (Keep.refl h0 []).1 (Nat.le_of_eq g1.symm)), (A1.keep K9), Fa9, Fb9⟩
theorem d_prog_43_9_0 : decode prog_43_method_9_code 0 = .ok (.aload_n 0, 1) := by decide +kernel
theorem d_prog_43_9_1 : decode prog_43_method_9_code 1 = .ok (.getfield 13, 3) := by decide +kernel
theorem d_prog_43_9_4 : decode prog_43_method_9_code 4 = .ok (.areturn, 1) := by decide +kernel
theorem pn_proN : plainName "com/example/drover/drover/operator/passes/Found" = true := by first | (simp [plainName, overriddenIn]; done) | decide +kernel
theorem ef_proN (m : MethodId) (a1 : Addr) : entryFrame m #[(.ref a1)] 1 = (mkF m 0 #[.val (.ref a1)] []) := by first | (simp [entryFrame, mkF, argsToLocals, Value.category]; done) | rfl
def Q_proN (Z : State) (a1 : Addr)  (h0 : Heap) (n0 : Nat) (v : Option Value) (h : Heap) (L : List Loc) : Prop := v = some .null ∧ Fr n0 L ∧ h = h0
set_option maxRecDepth 65536 in
set_option maxHeartbeats 40000000 in
theorem rm_proN (l : Launch) (Z : State) (a0 : Array Value) (hw : ∀ d ∈ tables_1, d.before a0 Z = true) (ws : List Jvm.Cond) (a1 : Addr)  (h0 : Heap) (n0 : Nat) (O0 : Old Z n0 h0) (F1 : Fld Z h0 a1 "com/example/drover/drover/operator/passes/Found" "problem" "Ljava/lang/String;" .null) :
    MetFree l (⟨"com/example/drover/drover/operator/passes/Found", "problem", "()Ljava/lang/String;"⟩ : MethodName) (head1 (Jvm.Cond.code (⟨"com/example/drover/drover/operator/passes/Found", "problem", "()Ljava/lang/String;"⟩ : MethodName) prog_43_method_9_code 1 (some (.object "java/lang/String")) :: ws) ({ frames := 0, cells := 0, slots := 0, locals := 0 } : Room)) (fun a U => a = #[(.ref a1)] ∧ Z.Warmed39 U.vm ∧ U.heap = h0) (fun _ _ _ _ _ => True) (fun _ U o U' => ∃ v L, o = .returned v ∧ Q_proN Z a1  h0 n0 v U'.heap L ∧ FrameEnd U o U' L ({ frames := 0, cells := 0, slots := 0, locals := 0 } : Room).cells ({ frames := 0, cells := 0, slots := 0, locals := 0 } : Room).slots) := by
  refine MetFree.of_bodySF (plainFor_of_name pn_proN) hisR ?_
  intro p e s m args below meth c s₁ Bd hml0 hP hK
  obtain ⟨rfl, hZ, hh⟩ := hP
  have hx := Bd.exec
  have hby := Bd.bytes
  have hml : c.maxLocals = 1 := hml0
  have hown : s.vm.findClass "com/example/drover/drover/operator/passes/Found" = some m.cls := findClass_of_methodNamed Bd.named
  have hnm := (name_of_methodNamed Bd.named Bd.method).1
  have X0 : Stand p l e ({ frames := 0, cells := 0, slots := 0, locals := 0 } : Room) s m #[(.ref a1)] below meth c s₁ [] 0 0 := Stand.of_body Bd
  have e0 : s₁.heap = h0 := by rw [← hh, Bd.state]; rfl
  have N0 := Fr.nil n0
  have pre0 : ∀ t, Steps p.tables e below (s₁.setTop (mkF m 0 #[.val (.ref a1)] [])) t → Steps p.tables e below (s₁.setTop (entryFrame m #[(.ref a1)] 1)) t := fun t k => castTop (ef_proN m a1) k
  generalize s₁.setTop (entryFrame m #[(.ref a1)] 1) = E0 at pre0 ⊢
  have pre_1 : ∀ t, Sp p e below s₁ (mkF m 1 #[.val (.ref a1)] [(.ref a1)]) t → Steps p.tables e below E0 t := by
    intro t k
    refine pre0 t ?_
    show Sp p e below s₁ (mkF m 0 #[.val (.ref a1)] []) _
    refine XS.aloadN X0.here hx rfl (hb hby d_prog_43_9_0) rfl rfl ?_
    exact k
  obtain ⟨T2, X2, e2, st2⟩ := getF X0 hx hZ hown (host := "") (Or.inl (own_w hw 28 rfl)) Via.refl e0 F1 (g := (mkF m 1 #[.val (.ref a1)] [(.ref a1)])) rfl rfl (hb hby d_prog_43_9_1)
  have pre_3 : ∀ t, Sp p e below T2 (mkF m 4 #[.val (.ref a1)] [.null]) t → Steps p.tables e below E0 t := fun t k => pre_1 t (st2 t k)
  obtain ⟨fs, hr, hrun, hended, hW, hsame⟩ := X2.leave (v := some .null) (fun h => by rw [Bd.returns] at h; cases h)
  refine ⟨_, _, pre_3 _ ?_, hrun, hended, _, _, rfl, ?_, ⟨_, rfl⟩, hW, hsame.mono (by decide) (by decide)⟩
  · show Sp p e below T2 (mkF m 4 #[.val (.ref a1)] [.null]) _
    exact retOut X2 hx (t := (.object "java/lang/String")) Bd.returns rfl (Or.inr (Or.inr (Or.inr (Or.inr ⟨rfl, rfl, rfl⟩)))) (hb hby d_prog_43_9_4) hr
  · show Q_proN Z _ h0 n0 _ T2.heap _
    rw [e2]
    exact ⟨rfl, N0, rfl⟩
theorem pn_iniR : plainName "com/example/drover/drover/operator/passes/Found" = true := by first | (simp [plainName, overriddenIn]; done) | decide +kernel
theorem pd_iniR_0 : parseMethodDescriptor "()V" = some ⟨[], none⟩ := by decide +kernel
theorem ef_iniR (m : MethodId) (a1 : Addr) (a2 : Addr) (a3 : Addr) : entryFrame m #[(.ref a1), (.ref a2), (.ref a3)] 3 = (mkF m 0 #[.val (.ref a1), .val (.ref a2), .val (.ref a3)] []) := by first | (simp [entryFrame, mkF, argsToLocals, Value.category]; done) | rfl
def Q_iniR (Z : State) (a1 : Addr) (a2 : Addr) (a3 : Addr) (u1 u2 : Value) (h0 : Heap) (n0 : Nat) (v : Option Value) (h : Heap) (L : List Loc) : Prop := v = none ∧ Fr n0 L ∧ Keep h0 h [a1] ∧ Fld Z h a1 "com/example/drover/drover/operator/passes/Found" "value" "Ljava/util/Optional;" (.ref a2) ∧ Fld Z h a1 "com/example/drover/drover/operator/passes/Found" "problem" "Ljava/lang/String;" (.ref a3)
set_option maxRecDepth 65536 in
set_option maxHeartbeats 40000000 in
theorem rm_iniR (l : Launch) (Z : State) (a0 : Array Value) (hw : ∀ d ∈ tables_1, d.before a0 Z = true) (ws : List Jvm.Cond) (a1 : Addr) (a2 : Addr) (a3 : Addr) (u1 u2 : Value) (h0 : Heap) (n0 : Nat) (O0 : Old Z n0 h0) (E1 : Exa Z h0 a1 "com/example/drover/drover/operator/passes/Found") (F1 : Fld Z h0 a1 "com/example/drover/drover/operator/passes/Found" "value" "Ljava/util/Optional;" u1) (F2 : Fld Z h0 a1 "com/example/drover/drover/operator/passes/Found" "problem" "Ljava/lang/String;" u2) (g1 : n0 ≤ a1) :
    MetFree l (⟨"com/example/drover/drover/operator/passes/Found", "<init>", "(Ljava/util/Optional;Ljava/lang/String;)V"⟩ : MethodName) (head1 (Jvm.Cond.code (⟨"com/example/drover/drover/operator/passes/Found", "<init>", "(Ljava/util/Optional;Ljava/lang/String;)V"⟩ : MethodName) prog_43_method_1_code 3 none :: ws) ({ frames := 2, cells := 0, slots := 0, locals := 24 } : Room)) (fun a U => a = #[(.ref a1), (.ref a2), (.ref a3)] ∧ Z.Warmed39 U.vm ∧ U.heap = h0) (fun _ _ _ _ _ => True) (fun _ U o U' => ∃ v L, o = .returned v ∧ Q_iniR Z a1 a2 a3 u1 u2 h0 n0 v U'.heap L ∧ FrameEnd U o U' L ({ frames := 2, cells := 0, slots := 0, locals := 24 } : Room).cells ({ frames := 2, cells := 0, slots := 0, locals := 24 } : Room).slots) := by
  refine MetFree.of_bodySF (plainFor_of_name pn_iniR) hisR ?_
  intro p e s m args below meth c s₁ Bd hml0 hP hK
  obtain ⟨rfl, hZ, hh⟩ := hP
  have hx := Bd.exec
  have hby := Bd.bytes
  have hml : c.maxLocals = 3 := hml0
  have hown : s.vm.findClass "com/example/drover/drover/operator/passes/Found" = some m.cls := findClass_of_methodNamed Bd.named
  have hnm := (name_of_methodNamed Bd.named Bd.method).1
  have X0 : Stand p l e ({ frames := 2, cells := 0, slots := 0, locals := 24 } : Room) s m #[(.ref a1), (.ref a2), (.ref a3)] below meth c s₁ [] 0 0 := Stand.of_body Bd
  have e0 : s₁.heap = h0 := by rw [← hh, Bd.state]; rfl
  have N0 := Fr.nil n0
  have pre0 : ∀ t, Steps p.tables e below (s₁.setTop (mkF m 0 #[.val (.ref a1), .val (.ref a2), .val (.ref a3)] [])) t → Steps p.tables e below (s₁.setTop (entryFrame m #[(.ref a1), (.ref a2), (.ref a3)] 3)) t := fun t k => castTop (ef_iniR m a1 a2 a3) k
  generalize s₁.setTop (entryFrame m #[(.ref a1), (.ref a2), (.ref a3)] 3) = E0 at pre0 ⊢
  have pre_1 : ∀ t, Sp p e below s₁ (mkF m 1 #[.val (.ref a1), .val (.ref a2), .val (.ref a3)] [(.ref a1)]) t → Steps p.tables e below E0 t := by
    intro t k
    refine pre0 t ?_
    show Sp p e below s₁ (mkF m 0 #[.val (.ref a1), .val (.ref a2), .val (.ref a3)] []) _
    refine XS.aloadN X0.here hx rfl (hb hby d_prog_43_1_0) rfl rfl ?_
    exact k
  obtain ⟨_, _, ⟨T2, L2, k2, n2⟩, -, X2, ⟨Lc2, hQ2, l2, y2, z2⟩, st2⟩ := X0.specialBack hx (y := (⟨"java/lang/Record", "<init>", "()V"⟩ : MethodName)) rfl hown (mvT hZ (own_w hw 18 rfl)) (mvT hZ (own_w hw 19 rfl)) (mvT hZ (own_w hw 22 rfl)) (by decide) (backOf (W := 0) (rm_rec l Z a0 hw [] a1 h0 n0 O0) hZ (own_w hw 22 rfl) (own_w hw 21 rfl) (by decide) (by decide)) (g := (mkF m 1 #[.val (.ref a1), .val (.ref a2), .val (.ref a3)] [(.ref a1)])) rfl (by rw [hml]; rfl) (Steps.refl _) (a := a1) (argsL := []) (rest := []) (lenOf pd_iniR_0 rfl) rfl (by show 2 * 0 + _ ≤ _; exact Nat.le_of_eq rfl) (hb hby d_prog_43_1_1) (fun _ _ => ⟨rfl, e0, (by decide : 0 + 0 ≤ _), (by decide : 0 + 0 ≤ _)⟩)
  dsimp only [Pt.U, Pt.locs, Pt.cells, Pt.slots] at X2 l2 y2 z2 st2 hQ2
  subst l2 y2 z2
  obtain ⟨rfl, N2q, e2⟩ := hQ2
  have N2 := Fr.app N0 N2q
  have pre_3 : ∀ t, Sp p e below T2 (mkF m 4 #[.val (.ref a1), .val (.ref a2), .val (.ref a3)] []) t → Steps p.tables e below E0 t := fun t k => pre_1 t (st2.trans k)
  have pre_4 : ∀ t, Sp p e below T2 (mkF m 6 #[.val (.ref a1), .val (.ref a2), .val (.ref a3)] [(.ref a2), (.ref a1)]) t → Steps p.tables e below E0 t := by
    intro t k
    refine pre_3 t ?_
    show Sp p e below T2 (mkF m 4 #[.val (.ref a1), .val (.ref a2), .val (.ref a3)] []) _
    refine XS.aloadN X2.here hx rfl (hb hby d_prog_43_1_4) rfl rfl ?_
    refine XS.aloadN X2.here hx rfl (hb hby d_prog_43_1_5) rfl rfl ?_
    exact k
  obtain ⟨T5, h5, X5, e5, W5, st5⟩ := putF X2 hx hZ hown (host := "") (Or.inl (own_w hw 26 rfl)) Via.refl e2 F1 E1 (Or.inr ⟨(own_w hw 27 rfl), rfl, hnm⟩) (own_w hw 9 rfl) (ty := (.object "java/util/Optional")) (by decide) rfl rfl (g := (mkF m 6 #[.val (.ref a1), .val (.ref a2), .val (.ref a3)] [(.ref a2), (.ref a1)])) rfl rfl (hb hby d_prog_43_1_6)
  have Fw5 := F1.same W5
  have N5 := Fr.snoc X5 N2 g1
  have O5 : Old Z n0 h5 := O0.wr W5 g1
  have pre_6 : ∀ t, Sp p e below T5 (mkF m 9 #[.val (.ref a1), .val (.ref a2), .val (.ref a3)] []) t → Steps p.tables e below E0 t := fun t k => pre_4 t (st5 t k)
  have pre_7 : ∀ t, Sp p e below T5 (mkF m 11 #[.val (.ref a1), .val (.ref a2), .val (.ref a3)] [(.ref a3), (.ref a1)]) t → Steps p.tables e below E0 t := by
    intro t k
    refine pre_6 t ?_
    show Sp p e below T5 (mkF m 9 #[.val (.ref a1), .val (.ref a2), .val (.ref a3)] []) _
    refine XS.aloadN X5.here hx rfl (hb hby d_prog_43_1_9) rfl rfl ?_
    show Sp p e below T5 (mkF m 10 #[.val (.ref a1), .val (.ref a2), .val (.ref a3)] [(.ref a1)]) _
    refine XS.aloadN X5.here hx rfl (hb hby d_prog_43_1_10) rfl rfl ?_
    exact k
  obtain ⟨T8, h8, X8, e8, W8, st8⟩ := putF X5 hx hZ hown (host := "") (Or.inl (own_w hw 28 rfl)) Via.refl e5 (F2.other W5 (Or.inr (slot_ne (Or.inr (own_w hw 29 rfl)) (Or.inr (own_w hw 27 rfl)) (by decide) (t := (.object "java/lang/String")) (t' := (.object "java/util/Optional")) (by decide) (by decide)))) (E1.wr W5) (Or.inr ⟨(own_w hw 29 rfl), rfl, hnm⟩) (own_w hw 9 rfl) (ty := (.object "java/lang/String")) (by decide) rfl rfl (g := (mkF m 11 #[.val (.ref a1), .val (.ref a2), .val (.ref a3)] [(.ref a3), (.ref a1)])) rfl rfl (hb hby d_prog_43_1_11)
  have Fw8 := (F2.other W5 (Or.inr (slot_ne (Or.inr (own_w hw 29 rfl)) (Or.inr (own_w hw 27 rfl)) (by decide) (t := (.object "java/lang/String")) (t' := (.object "java/util/Optional")) (by decide) (by decide)))).same W8
  have N8 := Fr.snoc X8 N5 g1
  have O8 : Old Z n0 h8 := O5.wr W8 g1
  have pre_9 : ∀ t, Sp p e below T8 (mkF m 14 #[.val (.ref a1), .val (.ref a2), .val (.ref a3)] []) t → Steps p.tables e below E0 t := fun t k => pre_7 t (st8 t k)
  obtain ⟨fs, hr, hrun, hended, hW, hsame⟩ := X8.leave (v := none) (fun _ => rfl)
  refine ⟨_, _, pre_9 _ ?_, hrun, hended, _, _, rfl, ?_, ⟨_, rfl⟩, hW, hsame.mono (by decide) (by decide)⟩
  · show Sp p e below T8 (mkF m 14 #[.val (.ref a1), .val (.ref a2), .val (.ref a3)] []) _
    exact X8.returnOut hx Bd.returns (hb hby d_prog_43_1_14) hr
  · show Q_iniR Z _ _ _ _ _ h0 n0 _ T8.heap _
    rw [e8]
    exact ⟨rfl, N8, (((Keep.refl h0 [a1]).wr W5 (Or.inl (List.mem_of_getElem? (i := 0) rfl))).wr W8 (Or.inl (List.mem_of_getElem? (i := 0) rfl))), (Fw5.other W8 (Or.inr (slot_ne (Or.inr (own_w hw 27 rfl)) (Or.inr (own_w hw 29 rfl)) (by decide) (t := (.object "java/util/Optional")) (t' := (.object "java/lang/String")) (by decide) (by decide)))), Fw8⟩
theorem pn_misR : plainName "com/example/drover/drover/operator/passes/Found" = true := by first | (simp [plainName, overriddenIn]; done) | decide +kernel
theorem pd_misR_0 : parseMethodDescriptor "()Ljava/util/Optional;" = some ⟨[], some (.object "java/util/Optional")⟩ := by decide +kernel
theorem pd_misR_1 : parseMethodDescriptor "(Ljava/util/Optional;Ljava/lang/String;)V" = some ⟨[(.object "java/util/Optional"), (.object "java/lang/String")], none⟩ := by decide +kernel
theorem ef_misR (m : MethodId) (a1 : Addr) : entryFrame m #[(.ref a1)] 1 = (mkF m 0 #[.val (.ref a1)] []) := by first | (simp [entryFrame, mkF, argsToLocals, Value.category]; done) | rfl
def Q_misR (Z : State) (a1 : Addr) (aO : Addr) (h0 : Heap) (n0 : Nat) (v : Option Value) (h : Heap) (L : List Loc) : Prop := ∃ b, v = some (.ref b) ∧ Fr n0 L ∧ Keep h0 h [] ∧ h0.size ≤ b ∧ Exa Z h b "com/example/drover/drover/operator/passes/Found" ∧ Fld Z h b "com/example/drover/drover/operator/passes/Found" "value" "Ljava/util/Optional;" (.ref aO) ∧ Fld Z h b "com/example/drover/drover/operator/passes/Found" "problem" "Ljava/lang/String;" (.ref a1)
set_option maxRecDepth 65536 in
set_option maxHeartbeats 40000000 in
theorem rm_misR (l : Launch) (Z : State) (a0 : Array Value) (hw : ∀ d ∈ tables_1, d.before a0 Z = true) (ws : List Jvm.Cond) (a1 : Addr) (aO : Addr) (h0 : Heap) (n0 : Nat) (O0 : Old Z n0 h0) (SE : Sta Z Z.heap "java/util/Optional" "EMPTY" "Ljava/util/Optional;" (.ref aO)) :
    MetFree l (⟨"com/example/drover/drover/operator/passes/Found", "missing", "(Ljava/lang/String;)Lcom/example/drover/drover/operator/passes/Found;"⟩ : MethodName) (head1 (Jvm.Cond.code (⟨"com/example/drover/drover/operator/passes/Found", "missing", "(Ljava/lang/String;)Lcom/example/drover/drover/operator/passes/Found;"⟩ : MethodName) prog_43_method_3_code 1 (some (.object "com/example/drover/drover/operator/passes/Found")) :: ws) ({ frames := 3, cells := 1, slots := 2, locals := 40 } : Room)) (fun a U => a = #[(.ref a1)] ∧ Z.Warmed39 U.vm ∧ U.heap = h0) (fun _ _ _ _ _ => True) (fun _ U o U' => ∃ v L, o = .returned v ∧ Q_misR Z a1 aO h0 n0 v U'.heap L ∧ FrameEnd U o U' L ({ frames := 3, cells := 1, slots := 2, locals := 40 } : Room).cells ({ frames := 3, cells := 1, slots := 2, locals := 40 } : Room).slots) := by
  refine MetFree.of_bodySF (plainFor_of_name pn_misR) hisR ?_
  intro p e s m args below meth c s₁ Bd hml0 hP hK
  obtain ⟨rfl, hZ, hh⟩ := hP
  have hx := Bd.exec
  have hby := Bd.bytes
  have hml : c.maxLocals = 1 := hml0
  have hown : s.vm.findClass "com/example/drover/drover/operator/passes/Found" = some m.cls := findClass_of_methodNamed Bd.named
  have hnm := (name_of_methodNamed Bd.named Bd.method).1
  have X0 : Stand p l e ({ frames := 3, cells := 1, slots := 2, locals := 40 } : Room) s m #[(.ref a1)] below meth c s₁ [] 0 0 := Stand.of_body Bd
  have e0 : s₁.heap = h0 := by rw [← hh, Bd.state]; rfl
  have N0 := Fr.nil n0
  have pre0 : ∀ t, Steps p.tables e below (s₁.setTop (mkF m 0 #[.val (.ref a1)] [])) t → Steps p.tables e below (s₁.setTop (entryFrame m #[(.ref a1)] 1)) t := fun t k => castTop (ef_misR m a1) k
  generalize s₁.setTop (entryFrame m #[(.ref a1)] 1) = E0 at pre0 ⊢
  obtain ⟨T1, h1, X1, e1, E1, A1, D1, -, st1⟩ := newO X0 hx hZ hown (own_w hw 8 rfl) (own_w hw 9 rfl) (own_w hw 6 rfl) e0 (g := (mkF m 0 #[.val (.ref a1)] [])) rfl (hb hby d_prog_43_3_0) (by decide) (by decide)
  obtain ⟨b1, g1⟩ : ∃ z, z = h0.size := ⟨_, rfl⟩
  rw [← g1] at A1 D1 st1
  have O1 : Old Z n0 h1 := O0.ext E1
  have F2 : Fld Z h1 b1 "com/example/drover/drover/operator/passes/Found" "value" "Ljava/util/Optional;" .null := D1 (Or.inr (own_w hw 27 rfl)) (ty := (.object "java/util/Optional")) (by decide)
  have F3 : Fld Z h1 b1 "com/example/drover/drover/operator/passes/Found" "problem" "Ljava/lang/String;" .null := D1 (Or.inr (own_w hw 29 rfl)) (ty := (.object "java/lang/String")) (by decide)
  have pre_4 : ∀ t, Sp p e below T1 (mkF m 3 #[.val (.ref a1)] [(.ref b1)]) t → Steps p.tables e below E0 t := fun t k => pre0 t (st1 t k)
  have pre_5 : ∀ t, Sp p e below T1 (mkF m 4 #[.val (.ref a1)] [(.ref b1), (.ref b1)]) t → Steps p.tables e below E0 t := by
    intro t k
    refine pre_4 t ?_
    show Sp p e below T1 (mkF m 3 #[.val (.ref a1)] [(.ref b1)]) _
    refine XS.dup X1.here hx rfl (hb hby d_prog_43_3_3) rfl rfl ?_
    exact k
  obtain ⟨_, _, ⟨T6, L6, k6, n6⟩, -, X6, ⟨Lc6, hQ6, l6, y6, z6⟩, st6⟩ := Jvm.LawKit.callS X1 hx (y := (⟨"java/util/Optional", "empty", "()Ljava/util/Optional;"⟩ : MethodName)) hown (mvT hZ (own_w hw 10 rfl)) (mvT hZ (own_w hw 11 rfl)) (mvT hZ (own_w hw 12 rfl)) (mvT hZ (own_w hw 13 rfl)) (by decide) (backOf (W := 2) (rm_oe l Z a0 hw [] aO h1 n0 O1 SE) hZ (own_w hw 13 rfl) (own_w hw 12 rfl) (by decide) (by decide)) (g := (mkF m 4 #[.val (.ref a1)] [(.ref b1), (.ref b1)])) rfl (by rw [hml]; rfl) (argsL := []) (rest := [(.ref b1), (.ref b1)]) (lenOf pd_misR_0 rfl) rfl (by show 2 * 0 + _ ≤ _; exact Nat.le_of_eq rfl) (hb hby d_prog_43_3_4) (fun _ _ => ⟨rfl, e1, (by decide : 1 + 0 ≤ _), (by decide : 2 + 0 ≤ _)⟩)
  dsimp only [Pt.U, Pt.locs, Pt.cells, Pt.slots] at X6 l6 y6 z6 st6 hQ6
  subst l6 y6 z6
  obtain ⟨rfl, N6q, e6⟩ := hQ6
  have N6 := Fr.app N0 N6q
  have pre_7 : ∀ t, Sp p e below T6 (mkF m 7 #[.val (.ref a1)] [(.ref aO), (.ref b1), (.ref b1)]) t → Steps p.tables e below E0 t := fun t k => pre_5 t (st6 t k)
  have pre_8 : ∀ t, Sp p e below T6 (mkF m 8 #[.val (.ref a1)] [(.ref a1), (.ref aO), (.ref b1), (.ref b1)]) t → Steps p.tables e below E0 t := by
    intro t k
    refine pre_7 t ?_
    show Sp p e below T6 (mkF m 7 #[.val (.ref a1)] [(.ref aO), (.ref b1), (.ref b1)]) _
    refine XS.aloadN X6.here hx rfl (hb hby d_prog_43_3_7) rfl rfl ?_
    exact k
  obtain ⟨_, _, ⟨T9, L9, k9, n9⟩, -, X9, ⟨Lc9, hQ9, l9, y9, z9⟩, st9⟩ := X6.specialBack hx (y := (⟨"com/example/drover/drover/operator/passes/Found", "<init>", "(Ljava/util/Optional;Ljava/lang/String;)V"⟩ : MethodName)) rfl hown (mvT hZ (own_w hw 15 rfl)) (mvT hZ (own_w hw 16 rfl)) (mvT hZ (own_w hw 17 rfl)) (by decide) (backOf (W := 1) (rm_iniR l Z a0 hw [] b1 aO a1 .null .null h1 n0 O1 A1 F2 F3 (Nat.le_trans (own_le O0) (Nat.le_of_eq g1.symm))) hZ (own_w hw 17 rfl) (own_w hw 6 rfl) (by decide) (by decide)) (g := (mkF m 8 #[.val (.ref a1)] [(.ref a1), (.ref aO), (.ref b1), (.ref b1)])) rfl (by rw [hml]; rfl) (Steps.refl _) (a := b1) (argsL := [(.ref aO), (.ref a1)]) (rest := [(.ref b1)]) (lenOf pd_misR_1 rfl) rfl (by show 2 * 0 + _ ≤ _; exact Nat.le_of_eq rfl) (hb hby d_prog_43_3_8) (fun _ _ => ⟨rfl, e6, (by decide : 1 + 0 ≤ _), (by decide : 2 + 0 ≤ _)⟩)
  dsimp only [Pt.U, Pt.locs, Pt.cells, Pt.slots] at X9 l9 y9 z9 st9 hQ9
  subst l9 y9 z9
  obtain ⟨rfl, N9q, K9, Fa9, Fb9⟩ := hQ9
  have N9 := Fr.app N6 N9q
  have O9 : Old Z n0 T9.heap := O1.keep K9 (allS (Nat.le_trans (own_le O0) (Nat.le_of_eq g1.symm)) all0)
  have pre_10 : ∀ t, Sp p e below T9 (mkF m 11 #[.val (.ref a1)] [(.ref b1)]) t → Steps p.tables e below E0 t := fun t k => pre_8 t (st9.trans k)
  obtain ⟨fs, hr, hrun, hended, hW, hsame⟩ := X9.leave (v := some (.ref b1)) (fun h => by rw [Bd.returns] at h; cases h)
  refine ⟨_, _, pre_10 _ ?_, hrun, hended, _, _, rfl, ?_, ⟨_, rfl⟩, hW, hsame.mono (by decide) (by decide)⟩
  · show Sp p e below T9 (mkF m 11 #[.val (.ref a1)] [(.ref b1)]) _
    exact retOut X9 hx (t := (.object "com/example/drover/drover/operator/passes/Found")) Bd.returns rfl (Or.inr (Or.inr (Or.inr (Or.inr ⟨rfl, rfl, rfl⟩)))) (hb hby d_prog_43_3_11) hr
  · show Q_misR Z _ _ h0 n0 _ T9.heap _
    exact ⟨b1, rfl, N9, (((Keep.refl h0 []).ext E1).trans K9 (allS (Or.inr (Nat.le_trans (Keep.refl h0 []).1 (Nat.le_of_eq g1.symm))) all0)), (Nat.le_trans (Keep.refl h0 []).1 (Nat.le_of_eq g1.symm)), (A1.keep K9), Fa9, Fb9⟩
theorem pn_proR : plainName "com/example/drover/drover/operator/passes/Found" = true := by first | (simp [plainName, overriddenIn]; done) | decide +kernel
theorem ef_proR (m : MethodId) (a1 : Addr) : entryFrame m #[(.ref a1)] 1 = (mkF m 0 #[.val (.ref a1)] []) := by first | (simp [entryFrame, mkF, argsToLocals, Value.category]; done) | rfl
def Q_proR (Z : State) (a1 : Addr) (w2 : Addr) (h0 : Heap) (n0 : Nat) (v : Option Value) (h : Heap) (L : List Loc) : Prop := v = some (.ref w2) ∧ Fr n0 L ∧ h = h0
set_option maxRecDepth 65536 in
set_option maxHeartbeats 40000000 in
theorem rm_proR (l : Launch) (Z : State) (a0 : Array Value) (hw : ∀ d ∈ tables_1, d.before a0 Z = true) (ws : List Jvm.Cond) (a1 : Addr) (w2 : Addr) (h0 : Heap) (n0 : Nat) (O0 : Old Z n0 h0) (F1 : Fld Z h0 a1 "com/example/drover/drover/operator/passes/Found" "problem" "Ljava/lang/String;" (.ref w2)) :
    MetFree l (⟨"com/example/drover/drover/operator/passes/Found", "problem", "()Ljava/lang/String;"⟩ : MethodName) (head1 (Jvm.Cond.code (⟨"com/example/drover/drover/operator/passes/Found", "problem", "()Ljava/lang/String;"⟩ : MethodName) prog_43_method_9_code 1 (some (.object "java/lang/String")) :: ws) ({ frames := 0, cells := 0, slots := 0, locals := 0 } : Room)) (fun a U => a = #[(.ref a1)] ∧ Z.Warmed39 U.vm ∧ U.heap = h0) (fun _ _ _ _ _ => True) (fun _ U o U' => ∃ v L, o = .returned v ∧ Q_proR Z a1 w2 h0 n0 v U'.heap L ∧ FrameEnd U o U' L ({ frames := 0, cells := 0, slots := 0, locals := 0 } : Room).cells ({ frames := 0, cells := 0, slots := 0, locals := 0 } : Room).slots) := by
  refine MetFree.of_bodySF (plainFor_of_name pn_proR) hisR ?_
  intro p e s m args below meth c s₁ Bd hml0 hP hK
  obtain ⟨rfl, hZ, hh⟩ := hP
  have hx := Bd.exec
  have hby := Bd.bytes
  have hml : c.maxLocals = 1 := hml0
  have hown : s.vm.findClass "com/example/drover/drover/operator/passes/Found" = some m.cls := findClass_of_methodNamed Bd.named
  have hnm := (name_of_methodNamed Bd.named Bd.method).1
  have X0 : Stand p l e ({ frames := 0, cells := 0, slots := 0, locals := 0 } : Room) s m #[(.ref a1)] below meth c s₁ [] 0 0 := Stand.of_body Bd
  have e0 : s₁.heap = h0 := by rw [← hh, Bd.state]; rfl
  have N0 := Fr.nil n0
  have pre0 : ∀ t, Steps p.tables e below (s₁.setTop (mkF m 0 #[.val (.ref a1)] [])) t → Steps p.tables e below (s₁.setTop (entryFrame m #[(.ref a1)] 1)) t := fun t k => castTop (ef_proR m a1) k
  generalize s₁.setTop (entryFrame m #[(.ref a1)] 1) = E0 at pre0 ⊢
  have pre_1 : ∀ t, Sp p e below s₁ (mkF m 1 #[.val (.ref a1)] [(.ref a1)]) t → Steps p.tables e below E0 t := by
    intro t k
    refine pre0 t ?_
    show Sp p e below s₁ (mkF m 0 #[.val (.ref a1)] []) _
    refine XS.aloadN X0.here hx rfl (hb hby d_prog_43_9_0) rfl rfl ?_
    exact k
  obtain ⟨T2, X2, e2, st2⟩ := getF X0 hx hZ hown (host := "") (Or.inl (own_w hw 28 rfl)) Via.refl e0 F1 (g := (mkF m 1 #[.val (.ref a1)] [(.ref a1)])) rfl rfl (hb hby d_prog_43_9_1)
  have pre_3 : ∀ t, Sp p e below T2 (mkF m 4 #[.val (.ref a1)] [(.ref w2)]) t → Steps p.tables e below E0 t := fun t k => pre_1 t (st2 t k)
  obtain ⟨fs, hr, hrun, hended, hW, hsame⟩ := X2.leave (v := some (.ref w2)) (fun h => by rw [Bd.returns] at h; cases h)
  refine ⟨_, _, pre_3 _ ?_, hrun, hended, _, _, rfl, ?_, ⟨_, rfl⟩, hW, hsame.mono (by decide) (by decide)⟩
  · show Sp p e below T2 (mkF m 4 #[.val (.ref a1)] [(.ref w2)]) _
    exact retOut X2 hx (t := (.object "java/lang/String")) Bd.returns rfl (Or.inr (Or.inr (Or.inr (Or.inr ⟨rfl, rfl, rfl⟩)))) (hb hby d_prog_43_9_4) hr
  · show Q_proR Z _ _ h0 n0 _ T2.heap _
    rw [e2]
    exact ⟨rfl, N0, rfl⟩
theorem d_prog_43_8_0 : decode prog_43_method_8_code 0 = .ok (.aload_n 0, 1) := by decide +kernel
theorem d_prog_43_8_1 : decode prog_43_method_8_code 1 = .ok (.getfield 7, 3) := by decide +kernel
theorem d_prog_43_8_4 : decode prog_43_method_8_code 4 = .ok (.areturn, 1) := by decide +kernel
theorem pn_val : plainName "com/example/drover/drover/operator/passes/Found" = true := by first | (simp [plainName, overriddenIn]; done) | decide +kernel
theorem ef_val (m : MethodId) (a1 : Addr) : entryFrame m #[(.ref a1)] 1 = (mkF m 0 #[.val (.ref a1)] []) := by first | (simp [entryFrame, mkF, argsToLocals, Value.category]; done) | rfl
def Q_val (Z : State) (a1 : Addr) (w2 : Addr) (h0 : Heap) (n0 : Nat) (v : Option Value) (h : Heap) (L : List Loc) : Prop := v = some (.ref w2) ∧ Fr n0 L ∧ h = h0
set_option maxRecDepth 65536 in
set_option maxHeartbeats 40000000 in
theorem rm_val (l : Launch) (Z : State) (a0 : Array Value) (hw : ∀ d ∈ tables_1, d.before a0 Z = true) (ws : List Jvm.Cond) (a1 : Addr) (w2 : Addr) (h0 : Heap) (n0 : Nat) (O0 : Old Z n0 h0) (F1 : Fld Z h0 a1 "com/example/drover/drover/operator/passes/Found" "value" "Ljava/util/Optional;" (.ref w2)) :
    MetFree l (⟨"com/example/drover/drover/operator/passes/Found", "value", "()Ljava/util/Optional;"⟩ : MethodName) (head1 (Jvm.Cond.code (⟨"com/example/drover/drover/operator/passes/Found", "value", "()Ljava/util/Optional;"⟩ : MethodName) prog_43_method_8_code 1 (some (.object "java/util/Optional")) :: ws) ({ frames := 0, cells := 0, slots := 0, locals := 0 } : Room)) (fun a U => a = #[(.ref a1)] ∧ Z.Warmed39 U.vm ∧ U.heap = h0) (fun _ _ _ _ _ => True) (fun _ U o U' => ∃ v L, o = .returned v ∧ Q_val Z a1 w2 h0 n0 v U'.heap L ∧ FrameEnd U o U' L ({ frames := 0, cells := 0, slots := 0, locals := 0 } : Room).cells ({ frames := 0, cells := 0, slots := 0, locals := 0 } : Room).slots) := by
  refine MetFree.of_bodySF (plainFor_of_name pn_val) hisR ?_
  intro p e s m args below meth c s₁ Bd hml0 hP hK
  obtain ⟨rfl, hZ, hh⟩ := hP
  have hx := Bd.exec
  have hby := Bd.bytes
  have hml : c.maxLocals = 1 := hml0
  have hown : s.vm.findClass "com/example/drover/drover/operator/passes/Found" = some m.cls := findClass_of_methodNamed Bd.named
  have hnm := (name_of_methodNamed Bd.named Bd.method).1
  have X0 : Stand p l e ({ frames := 0, cells := 0, slots := 0, locals := 0 } : Room) s m #[(.ref a1)] below meth c s₁ [] 0 0 := Stand.of_body Bd
  have e0 : s₁.heap = h0 := by rw [← hh, Bd.state]; rfl
  have N0 := Fr.nil n0
  have pre0 : ∀ t, Steps p.tables e below (s₁.setTop (mkF m 0 #[.val (.ref a1)] [])) t → Steps p.tables e below (s₁.setTop (entryFrame m #[(.ref a1)] 1)) t := fun t k => castTop (ef_val m a1) k
  generalize s₁.setTop (entryFrame m #[(.ref a1)] 1) = E0 at pre0 ⊢
  have pre_1 : ∀ t, Sp p e below s₁ (mkF m 1 #[.val (.ref a1)] [(.ref a1)]) t → Steps p.tables e below E0 t := by
    intro t k
    refine pre0 t ?_
    show Sp p e below s₁ (mkF m 0 #[.val (.ref a1)] []) _
    refine XS.aloadN X0.here hx rfl (hb hby d_prog_43_8_0) rfl rfl ?_
    exact k
  obtain ⟨T2, X2, e2, st2⟩ := getF X0 hx hZ hown (host := "") (Or.inl (own_w hw 26 rfl)) Via.refl e0 F1 (g := (mkF m 1 #[.val (.ref a1)] [(.ref a1)])) rfl rfl (hb hby d_prog_43_8_1)
  have pre_3 : ∀ t, Sp p e below T2 (mkF m 4 #[.val (.ref a1)] [(.ref w2)]) t → Steps p.tables e below E0 t := fun t k => pre_1 t (st2 t k)
  obtain ⟨fs, hr, hrun, hended, hW, hsame⟩ := X2.leave (v := some (.ref w2)) (fun h => by rw [Bd.returns] at h; cases h)
  refine ⟨_, _, pre_3 _ ?_, hrun, hended, _, _, rfl, ?_, ⟨_, rfl⟩, hW, hsame.mono (by decide) (by decide)⟩
  · show Sp p e below T2 (mkF m 4 #[.val (.ref a1)] [(.ref w2)]) _
    exact retOut X2 hx (t := (.object "java/util/Optional")) Bd.returns rfl (Or.inr (Or.inr (Or.inr (Or.inr ⟨rfl, rfl, rfl⟩)))) (hb hby d_prog_43_8_4) hr
  · show Q_val Z _ _ h0 n0 _ T2.heap _
    rw [e2]
    exact ⟨rfl, N0, rfl⟩
theorem d_jdk_32_6_0 : decode jdk_32_method_6_code 0 = .ok (.aload_n 0, 1) := by decide +kernel
theorem d_jdk_32_6_1 : decode jdk_32_method_6_code 1 = .ok (.getfield 13, 3) := by decide +kernel
theorem d_jdk_32_6_4 : decode jdk_32_method_6_code 4 = .ok (.ifnull 7, 3) := by decide +kernel
theorem d_jdk_32_6_11 : decode jdk_32_method_6_code 11 = .ok (.iconst 0, 1) := by decide +kernel
theorem d_jdk_32_6_12 : decode jdk_32_method_6_code 12 = .ok (.ireturn, 1) := by decide +kernel
theorem pn_isp : plainName "java/util/Optional" = true := by first | (simp [plainName, overriddenIn]; done) | decide +kernel
theorem ef_isp (m : MethodId) (a1 : Addr) : entryFrame m #[(.ref a1)] 1 = (mkF m 0 #[.val (.ref a1)] []) := by first | (simp [entryFrame, mkF, argsToLocals, Value.category]; done) | rfl
def Q_isp (Z : State) (a1 : Addr)  (h0 : Heap) (n0 : Nat) (v : Option Value) (h : Heap) (L : List Loc) : Prop := v = some (.int (0 : Int32)) ∧ Fr n0 L ∧ h = h0
set_option maxRecDepth 65536 in
set_option maxHeartbeats 40000000 in
theorem rm_isp (l : Launch) (Z : State) (a0 : Array Value) (hw : ∀ d ∈ tables_1, d.before a0 Z = true) (ws : List Jvm.Cond) (a1 : Addr)  (h0 : Heap) (n0 : Nat) (O0 : Old Z n0 h0) (F1 : Fld Z h0 a1 "java/util/Optional" "value" "Ljava/lang/Object;" .null) :
    MetFree l (⟨"java/util/Optional", "isPresent", "()Z"⟩ : MethodName) (head1 (Jvm.Cond.code (⟨"java/util/Optional", "isPresent", "()Z"⟩ : MethodName) jdk_32_method_6_code 1 (some .boolean) :: ws) ({ frames := 0, cells := 0, slots := 0, locals := 0 } : Room)) (fun a U => a = #[(.ref a1)] ∧ Z.Warmed39 U.vm ∧ U.heap = h0) (fun _ _ _ _ _ => True) (fun _ U o U' => ∃ v L, o = .returned v ∧ Q_isp Z a1  h0 n0 v U'.heap L ∧ FrameEnd U o U' L ({ frames := 0, cells := 0, slots := 0, locals := 0 } : Room).cells ({ frames := 0, cells := 0, slots := 0, locals := 0 } : Room).slots) := by
  refine MetFree.of_bodySF (plainFor_of_name pn_isp) hisR ?_
  intro p e s m args below meth c s₁ Bd hml0 hP hK
  obtain ⟨rfl, hZ, hh⟩ := hP
  have hx := Bd.exec
  have hby := Bd.bytes
  have hml : c.maxLocals = 1 := hml0
  have hown : s.vm.findClass "java/util/Optional" = some m.cls := findClass_of_methodNamed Bd.named
  have hnm := (name_of_methodNamed Bd.named Bd.method).1
  have X0 : Stand p l e ({ frames := 0, cells := 0, slots := 0, locals := 0 } : Room) s m #[(.ref a1)] below meth c s₁ [] 0 0 := Stand.of_body Bd
  have e0 : s₁.heap = h0 := by rw [← hh, Bd.state]; rfl
  have N0 := Fr.nil n0
  have pre0 : ∀ t, Steps p.tables e below (s₁.setTop (mkF m 0 #[.val (.ref a1)] [])) t → Steps p.tables e below (s₁.setTop (entryFrame m #[(.ref a1)] 1)) t := fun t k => castTop (ef_isp m a1) k
  generalize s₁.setTop (entryFrame m #[(.ref a1)] 1) = E0 at pre0 ⊢
  have pre_1 : ∀ t, Sp p e below s₁ (mkF m 1 #[.val (.ref a1)] [(.ref a1)]) t → Steps p.tables e below E0 t := by
    intro t k
    refine pre0 t ?_
    show Sp p e below s₁ (mkF m 0 #[.val (.ref a1)] []) _
    refine XS.aloadN X0.here hx rfl (hb hby d_jdk_32_6_0) rfl rfl ?_
    exact k
  obtain ⟨T2, X2, e2, st2⟩ := getF X0 hx hZ hown (host := "") (Or.inl (own_w hw 40 rfl)) Via.refl e0 F1 (g := (mkF m 1 #[.val (.ref a1)] [(.ref a1)])) rfl rfl (hb hby d_jdk_32_6_1)
  have pre_3 : ∀ t, Sp p e below T2 (mkF m 4 #[.val (.ref a1)] [.null]) t → Steps p.tables e below E0 t := fun t k => pre_1 t (st2 t k)
  have pre_4 : ∀ t, Sp p e below T2 (mkF m 12 #[.val (.ref a1)] [(.int (0 : Int32))]) t → Steps p.tables e below E0 t := by
    intro t k
    refine pre_3 t ?_
    show Sp p e below T2 (mkF m 4 #[.val (.ref a1)] [.null]) _
    refine XS.ifnullYes X2.here hx rfl (pc0 := 4) (pc' := 11) rfl (hb hby d_jdk_32_6_4) rfl (by decide) (by decide) ?_
    refine XS.iconst X2.here hx rfl (hb hby d_jdk_32_6_11) ?_
    exact k
  obtain ⟨fs, hr, hrun, hended, hW, hsame⟩ := X2.leave (v := some (.int (0 : Int32))) (fun h => by rw [Bd.returns] at h; cases h)
  refine ⟨_, _, pre_4 _ ?_, hrun, hended, _, _, rfl, ?_, ⟨_, rfl⟩, hW, hsame.mono (by decide) (by decide)⟩
  · show Sp p e below T2 (mkF m 12 #[.val (.ref a1)] [(.int (0 : Int32))]) _
    exact retN X2 hx (t := .boolean) Bd.returns (by simp) (hb hby d_jdk_32_6_12) hr
  · show Q_isp Z _ h0 n0 _ T2.heap _
    rw [e2]
    exact ⟨rfl, N0, rfl⟩
theorem d_jdk_42_66_0 : decode jdk_42_method_66_code 0 = .ok (.aload_n 0, 1) := by decide +kernel
theorem d_jdk_42_66_1 : decode jdk_42_method_66_code 1 = .ok (.aload_n 1, 1) := by decide +kernel
theorem d_jdk_42_66_2 : decode jdk_42_method_66_code 2 = .ok (.if_acmp .ne 5, 3) := by decide +kernel
theorem d_jdk_42_66_5 : decode jdk_42_method_66_code 5 = .ok (.iconst 1, 1) := by decide +kernel
theorem d_jdk_42_66_6 : decode jdk_42_method_66_code 6 = .ok (.ireturn, 1) := by decide +kernel
theorem pn_seq : plainName "java/lang/String" = true := by first | (simp [plainName, overriddenIn]; done) | decide +kernel
theorem ef_seq (m : MethodId) (a1 : Addr) : entryFrame m #[(.ref a1), (.ref a1)] 3 = (mkF m 0 #[.val (.ref a1), .val (.ref a1), .unset] []) := by first | (simp [entryFrame, mkF, argsToLocals, Value.category]; done) | rfl
def Q_seq (Z : State) (a1 : Addr)  (h0 : Heap) (n0 : Nat) (v : Option Value) (h : Heap) (L : List Loc) : Prop := v = some (.int (1 : Int32)) ∧ Fr n0 L ∧ h = h0
set_option maxRecDepth 65536 in
set_option maxHeartbeats 40000000 in
theorem rm_seq (l : Launch) (Z : State) (a0 : Array Value) (hw : ∀ d ∈ tables_1, d.before a0 Z = true) (ws : List Jvm.Cond) (a1 : Addr)  (h0 : Heap) (n0 : Nat) (O0 : Old Z n0 h0)  :
    MetFree l (⟨"java/lang/String", "equals", "(Ljava/lang/Object;)Z"⟩ : MethodName) (head1 (Jvm.Cond.code (⟨"java/lang/String", "equals", "(Ljava/lang/Object;)Z"⟩ : MethodName) jdk_42_method_66_code 3 (some .boolean) :: ws) ({ frames := 0, cells := 0, slots := 0, locals := 0 } : Room)) (fun a U => a = #[(.ref a1), (.ref a1)] ∧ Z.Warmed39 U.vm ∧ U.heap = h0) (fun _ _ _ _ _ => True) (fun _ U o U' => ∃ v L, o = .returned v ∧ Q_seq Z a1  h0 n0 v U'.heap L ∧ FrameEnd U o U' L ({ frames := 0, cells := 0, slots := 0, locals := 0 } : Room).cells ({ frames := 0, cells := 0, slots := 0, locals := 0 } : Room).slots) := by
  refine MetFree.of_bodySF (plainFor_of_name pn_seq) hisR ?_
  intro p e s m args below meth c s₁ Bd hml0 hP hK
  obtain ⟨rfl, hZ, hh⟩ := hP
  have hx := Bd.exec
  have hby := Bd.bytes
  have hml : c.maxLocals = 3 := hml0
  have hown : s.vm.findClass "java/lang/String" = some m.cls := findClass_of_methodNamed Bd.named
  have hnm := (name_of_methodNamed Bd.named Bd.method).1
  have X0 : Stand p l e ({ frames := 0, cells := 0, slots := 0, locals := 0 } : Room) s m #[(.ref a1), (.ref a1)] below meth c s₁ [] 0 0 := Stand.of_body Bd
  have e0 : s₁.heap = h0 := by rw [← hh, Bd.state]; rfl
  have N0 := Fr.nil n0
  have pre0 : ∀ t, Steps p.tables e below (s₁.setTop (mkF m 0 #[.val (.ref a1), .val (.ref a1), .unset] [])) t → Steps p.tables e below (s₁.setTop (entryFrame m #[(.ref a1), (.ref a1)] 3)) t := fun t k => castTop (ef_seq m a1) k
  generalize s₁.setTop (entryFrame m #[(.ref a1), (.ref a1)] 3) = E0 at pre0 ⊢
  have pre_1 : ∀ t, Sp p e below s₁ (mkF m 6 #[.val (.ref a1), .val (.ref a1), .unset] [(.int (1 : Int32))]) t → Steps p.tables e below E0 t := by
    intro t k
    refine pre0 t ?_
    show Sp p e below s₁ (mkF m 0 #[.val (.ref a1), .val (.ref a1), .unset] []) _
    refine XS.aloadN X0.here hx rfl (hb hby d_jdk_42_66_0) rfl rfl ?_
    refine XS.aloadN X0.here hx rfl (hb hby d_jdk_42_66_1) rfl rfl ?_
    refine XT.acmpNo X0.here hx rfl (hb hby d_jdk_42_66_2) rfl rfl rfl (XT.aa_ne_f rfl) ?_
    refine XS.iconst X0.here hx rfl (hb hby d_jdk_42_66_5) ?_
    show Sp p e below s₁ (mkF m 6 #[.val (.ref a1), .val (.ref a1), .unset] [(.int (1 : Int32))]) _
    exact k
  obtain ⟨fs, hr, hrun, hended, hW, hsame⟩ := X0.leave (v := some (.int (1 : Int32))) (fun h => by rw [Bd.returns] at h; cases h)
  refine ⟨_, _, pre_1 _ ?_, hrun, hended, _, _, rfl, ?_, ⟨_, rfl⟩, hW, hsame.mono (by decide) (by decide)⟩
  · show Sp p e below s₁ (mkF m 6 #[.val (.ref a1), .val (.ref a1), .unset] [(.int (1 : Int32))]) _
    exact retN X0 hx (t := .boolean) Bd.returns (by simp) (hb hby d_jdk_42_66_6) hr
  · show Q_seq Z _ h0 n0 _ s₁.heap _
    rw [e0]
    exact ⟨rfl, N0, rfl⟩
theorem pn_law : plainName "com/example/drover/drover/operator/passes/FoundMissingPinLaw" = true := by first | (simp [plainName, overriddenIn]; done) | decide +kernel
theorem pd_law_0 : parseMethodDescriptor "(III)Ljava/lang/String;" = some ⟨[.int, .int, .int], some (.object "java/lang/String")⟩ := by decide +kernel
theorem pd_law_1 : parseMethodDescriptor "(Ljava/lang/String;)Lcom/example/drover/drover/operator/passes/Found;" = some ⟨[(.object "java/lang/String")], some (.object "com/example/drover/drover/operator/passes/Found")⟩ := by decide +kernel
theorem pd_law_2 : parseMethodDescriptor "()Ljava/util/Optional;" = some ⟨[], some (.object "java/util/Optional")⟩ := by decide +kernel
theorem pd_law_3 : parseMethodDescriptor "()Z" = some ⟨[], some .boolean⟩ := by decide +kernel
theorem pd_law_4 : parseMethodDescriptor "()Ljava/lang/String;" = some ⟨[], some (.object "java/lang/String")⟩ := by decide +kernel
theorem pd_law_5 : parseMethodDescriptor "(Ljava/lang/Object;)Z" = some ⟨[(.object "java/lang/Object")], some .boolean⟩ := by decide +kernel
theorem ef_law (m : MethodId) (p1 : Int32) (p2 : Int32) (p3 : Int32) : entryFrame m #[(.int p1), (.int p2), (.int p3)] maxLocals = (mkF m 0 #[.val (.int p1), .val (.int p2), .val (.int p3), .unset, .unset, .unset] []) := by first | (simp [entryFrame, mkF, argsToLocals, Value.category, maxLocals]; done) | rfl
def Q_law (Z : State) (p1 : Int32) (p2 : Int32) (p3 : Int32) (G1 : Int32) (aO : Addr) (h0 : Heap) (n0 : Nat) (v : Option Value) (vm : Vm) (h : Heap) (L : List Loc) : Prop := v = some (.int 1) ∧ Fr n0 L
set_option maxRecDepth 65536 in
set_option maxHeartbeats 40000000 in
theorem rm_law (l : Launch) (Z : State) (a0 : Array Value) (hw : ∀ d ∈ tables_1, d.before a0 Z = true) (ws : List Jvm.Cond) (p1 : Int32) (p2 : Int32) (p3 : Int32) (G1 : Int32) (aO : Addr) (h0 : Heap) (n0 : Nat) (O0 : Old Z n0 h0) (SC : Sta Z Z.heap "java/lang/String" "COMPACT_STRINGS" "Z" (.int G1)) (hG : ¬ G1 = (0 : Int32)) (hHC : Jvm.Lit.constHeld Z "java/lang/String" 7) (hCW : Jvm.Lit.compactW.before a0 Z = true) (SE : Sta Z Z.heap "java/util/Optional" "EMPTY" "Ljava/util/Optional;" (.ref aO)) (EO : Exa Z Z.heap aO "java/util/Optional") (FOv : Fld Z Z.heap aO "java/util/Optional" "value" "Ljava/lang/Object;" .null) :
    MetFree l x (head1 (Jvm.Cond.code x code maxLocals ret :: ws) room_1) (fun a U => a = #[(.int p1), (.int p2), (.int p3)] ∧ Z.Warmed39 U.vm ∧ U.heap = h0 ∧ IB Z U.vm []) (fun _ _ _ _ _ => True) (fun _ U o U' => ∃ v L, o = .returned v ∧ Q_law Z p1 p2 p3 G1 aO h0 n0 v U'.vm U'.heap L ∧ ReturnedEndW U o U' L room_1.cells room_1.slots) := by
  refine MetFree.of_bodySF (plainFor_of_name pn_law) hisR ?_
  intro p e s m args below meth c s₁ Bd hml0 hP hK
  obtain ⟨rfl, hZ, hh, hPV⟩ := hP
  have hx := Bd.exec
  have hby := Bd.bytes
  have hml : c.maxLocals = 6 := hml0
  have hown : s.vm.findClass "com/example/drover/drover/operator/passes/FoundMissingPinLaw" = some m.cls := findClass_of_methodNamed Bd.named
  have hnm := (name_of_methodNamed Bd.named Bd.method).1
  have X0 : Stand p l e room_1 (s.setVm s.vm) m #[(.int p1), (.int p2), (.int p3)] below meth c s₁ [] 0 0 := Stand.of_body Bd
  have e0 : s₁.heap = h0 := by rw [← hh, Bd.state]; rfl
  have N0 := Fr.nil n0
  have pre0 : ∀ t, Steps p.tables e below (s₁.setTop (mkF m 0 #[.val (.int p1), .val (.int p2), .val (.int p3), .unset, .unset, .unset] [])) t → Steps p.tables e below (s₁.setTop (entryFrame m #[(.int p1), (.int p2), (.int p3)] maxLocals)) t := fun t k => castTop (ef_law m p1 p2 p3) k
  generalize s₁.setTop (entryFrame m #[(.int p1), (.int p2), (.int p3)] maxLocals) = E0 at pre0 ⊢
  have pre_1 : ∀ t, Sp p e below s₁ (mkF m 3 #[.val (.int p1), .val (.int p2), .val (.int p3), .unset, .unset, .unset] [(.int p3), (.int p2), (.int p1)]) t → Steps p.tables e below E0 t := by
    intro t k
    refine pre0 t ?_
    show Sp p e below s₁ (mkF m 0 #[.val (.int p1), .val (.int p2), .val (.int p3), .unset, .unset, .unset] []) _
    refine XS.iloadN X0.here hx rfl (hb hby at_0) rfl ?_
    refine XS.iloadN X0.here hx rfl (hb hby at_1) rfl ?_
    refine XS.iloadN X0.here hx rfl (hb hby at_2) rfl ?_
    exact k
  obtain ⟨_, _, ⟨T2, L2, k2, n2⟩, -, Y2, hs2, hg2, ⟨Lc2, hQ2, l2, y2, z2⟩, st2⟩ := callSS X0 hx (y := (⟨"com/example/drover/drover/operator/passes/FoundMissingPinLaw", "drawn", "(III)Ljava/lang/String;"⟩ : MethodName)) hown (mvT hZ (own_w hw 0 rfl)) (mvT hZ (own_w hw 1 rfl)) (mvT hZ (own_w hw 2 rfl)) (mvT hZ (own_w hw 3 rfl)) (by decide) (own_backS (W := 0) (rm_drawn l Z a0 hw [] p1 p2 p3 G1 h0 n0 O0 SC hG hHC hCW) hZ (own_w hw 3 rfl) (own_w hw 2 rfl) (by decide) (by decide) (fun _ q => own_IBw hPV q)) (g := (mkF m 3 #[.val (.int p1), .val (.int p2), .val (.int p3), .unset, .unset, .unset] [(.int p3), (.int p2), (.int p1)])) rfl (by rw [hml]; rfl) (argsL := [(.int p1), (.int p2), (.int p3)]) (rest := []) (lenOf pd_law_0 rfl) rfl (by show 2 * 0 + _ ≤ _; exact Nat.le_of_eq rfl) (hb hby at_3) (fun _ _ => ⟨rfl, e0, (by decide : 0 + 4 ≤ _), (by decide : 0 + 12 ≤ _)⟩)
  dsimp only [Pt.U, Pt.locs, Pt.cells, Pt.slots] at Y2 hs2 hg2 l2 y2 z2 st2 hQ2
  subst l2 y2 z2
  obtain ⟨X2, hS2, hZ2, ho2⟩ := rebS ((State.WarmedH.refl s).since 0) (by rw [e0]; exact (Nat.le_trans (Nat.zero_le _) (Nat.le_refl _))) Y2 hs2 hg2 hZ hown
  obtain ⟨w2, rfl, hv2, N2q, K2⟩ := hQ2
  have N2 := Fr.app N0 N2q
  have O2 : Old Z n0 T2.heap := O0.keep K2 all0
  have pre_3 : ∀ t, Sp p e below T2 (mkF m 6 #[.val (.int p1), .val (.int p2), .val (.int p3), .unset, .unset, .unset] [w2]) t → Steps p.tables e below E0 t := fun t k => pre_1 t (st2.trans k)
  rcases hv2 with rfl | ⟨sa, rfl, Esa⟩
  · skip
    have pre_4 : ∀ t, Sp p e below T2 (mkF m 8 #[.val (.int p1), .val (.int p2), .val (.int p3), .val .null, .unset, .unset] [.null]) t → Steps p.tables e below E0 t := by
      intro t k
      refine pre_3 t ?_
      show Sp p e below T2 (mkF m 6 #[.val (.int p1), .val (.int p2), .val (.int p3), .unset, .unset, .unset] [.null]) _
      refine XS.astoreN X2.here hx rfl (hb hby at_6) rfl rfl (l' := #[.val (.int p1), .val (.int p2), .val (.int p3), .val .null, .unset, .unset]) rfl ?_
      show Sp p e below T2 (mkF m 7 #[.val (.int p1), .val (.int p2), .val (.int p3), .val .null, .unset, .unset] []) _
      refine XS.aloadN X2.here hx rfl (hb hby at_7) rfl rfl ?_
      exact k
    obtain ⟨_, _, ⟨T5, L5, k5, n5⟩, -, X5, ⟨Lc5, hQ5, l5, y5, z5⟩, st5⟩ := Jvm.LawKit.callS X2 hx (y := (⟨"com/example/drover/drover/operator/passes/Found", "missing", "(Ljava/lang/String;)Lcom/example/drover/drover/operator/passes/Found;"⟩ : MethodName)) ho2 (mvT hZ2 (own_w hw 4 rfl)) (mvT hZ2 (own_w hw 5 rfl)) (mvT hZ2 (own_w hw 6 rfl)) (mvT hZ2 (own_w hw 7 rfl)) (by decide) (backOf (W := 0) (rm_misN l Z a0 hw []  aO T2.heap n0 O2 SE) hZ2 (own_w hw 7 rfl) (own_w hw 6 rfl) (by decide) (by decide)) (g := (mkF m 8 #[.val (.int p1), .val (.int p2), .val (.int p3), .val .null, .unset, .unset] [.null])) rfl (by rw [hml]; rfl) (argsL := [.null]) (rest := []) (lenOf pd_law_1 rfl) rfl (by show 2 * 0 + _ ≤ _; exact Nat.le_of_eq rfl) (hb hby at_8) (fun _ _ => ⟨rfl, rfl, (by decide : 4 + 1 ≤ _), (by decide : 12 + 2 ≤ _)⟩)
    dsimp only [Pt.U, Pt.locs, Pt.cells, Pt.slots] at X5 l5 y5 z5 st5 hQ5
    subst l5 y5 z5
    obtain ⟨b5, rfl, N5q, K5, sb5, Eb5, Fa5, Fb5⟩ := hQ5
    have N5 := Fr.app N2 N5q
    have O5 : Old Z n0 T5.heap := O2.keep K5 all0
    have pre_6 : ∀ t, Sp p e below T5 (mkF m 11 #[.val (.int p1), .val (.int p2), .val (.int p3), .val .null, .unset, .unset] [(.ref b5)]) t → Steps p.tables e below E0 t := fun t k => pre_4 t (st5 t k)
    have pre_7 : ∀ t, Sp p e below T5 (mkF m 15 #[.val (.int p1), .val (.int p2), .val (.int p3), .val .null, .val (.ref b5), .unset] [(.ref b5)]) t → Steps p.tables e below E0 t := by
      intro t k
      refine pre_6 t ?_
      show Sp p e below T5 (mkF m 11 #[.val (.int p1), .val (.int p2), .val (.int p3), .val .null, .unset, .unset] [(.ref b5)]) _
      refine XS.astore X5.here hx rfl (hb hby at_11) rfl rfl (l' := #[.val (.int p1), .val (.int p2), .val (.int p3), .val .null, .val (.ref b5), .unset]) rfl ?_
      refine XS.aload X5.here hx rfl (hb hby at_13) rfl rfl ?_
      exact k
    obtain ⟨cq8, kq8, qa8, qb8, qc8⟩ := isOf hZ2 rfl Eb5
    obtain ⟨_, _, ⟨T8, L8, k8, n8⟩, -, X8, ⟨Lc8, hQ8, l8, y8, z8⟩, st8⟩ := X5.virtualBack hx (y := (⟨"com/example/drover/drover/operator/passes/Found", "value", "()Ljava/util/Optional;"⟩ : MethodName)) (z := (⟨"com/example/drover/drover/operator/passes/Found", "value", "()Ljava/util/Optional;"⟩ : MethodName)) ho2 (mvT hZ2 (own_w hw 30 rfl)) (mvT hZ2 (own_w hw 31 rfl)) (notFace_of_selects (args := #[]) (mvT hZ2 (own_w hw 33 rfl))) (mvT hZ2 (own_w hw 33 rfl)) (mvT hZ2 (own_w hw 32 rfl)) (by decide) (backOf (W := 0) (rm_val l Z a0 hw [] b5 aO T5.heap n0 O5 Fa5) hZ2 (own_w hw 34 rfl) (own_w hw 6 rfl) (by decide) (by decide)) qa8 qc8 (g := (mkF m 15 #[.val (.int p1), .val (.int p2), .val (.int p3), .val .null, .val (.ref b5), .unset] [(.ref b5)])) rfl (by rw [hml]; rfl) (Steps.refl _) (argsL := []) (rest := []) (lenOf pd_law_2 rfl) rfl (by show 2 * 0 + _ ≤ _; exact Nat.le_of_eq rfl) (hb hby at_15) (fun _ _ => ⟨rfl, rfl, (by decide : 5 + 0 ≤ _), (by decide : 14 + 0 ≤ _)⟩)
    dsimp only [Pt.U, Pt.locs, Pt.cells, Pt.slots] at X8 l8 y8 z8 st8 hQ8
    subst l8 y8 z8
    obtain ⟨rfl, N8q, e8⟩ := hQ8
    have N8 := Fr.app N5 N8q
    have pre_9 : ∀ t, Sp p e below T8 (mkF m 18 #[.val (.int p1), .val (.int p2), .val (.int p3), .val .null, .val (.ref b5), .unset] [(.ref aO)]) t → Steps p.tables e below E0 t := fun t k => pre_7 t (st8.trans k)
    obtain ⟨cq10, kq10, qa10, qb10, qc10⟩ := isOf hZ2 e8 (EO.ext O5.2)
    obtain ⟨_, _, ⟨T10, L10, k10, n10⟩, -, X10, ⟨Lc10, hQ10, l10, y10, z10⟩, st10⟩ := X8.virtualBack hx (y := (⟨"java/util/Optional", "isPresent", "()Z"⟩ : MethodName)) (z := (⟨"java/util/Optional", "isPresent", "()Z"⟩ : MethodName)) ho2 (mvT hZ2 (own_w hw 35 rfl)) (mvT hZ2 (own_w hw 36 rfl)) (notFace_of_selects (args := #[]) (mvT hZ2 (own_w hw 38 rfl))) (mvT hZ2 (own_w hw 38 rfl)) (mvT hZ2 (own_w hw 37 rfl)) (by decide) (backOf (W := 0) (rm_isp l Z a0 hw [] aO T5.heap n0 O5 (FOv.ext O5.2)) hZ2 (own_w hw 39 rfl) (own_w hw 12 rfl) (by decide) (by decide)) qa10 qc10 (g := (mkF m 18 #[.val (.int p1), .val (.int p2), .val (.int p3), .val .null, .val (.ref b5), .unset] [(.ref aO)])) rfl (by rw [hml]; rfl) (Steps.refl _) (argsL := []) (rest := []) (lenOf pd_law_3 rfl) rfl (by show 2 * 0 + _ ≤ _; exact Nat.le_of_eq rfl) (hb hby at_18) (fun _ _ => ⟨rfl, e8, (by decide : 5 + 0 ≤ _), (by decide : 14 + 0 ≤ _)⟩)
    dsimp only [Pt.U, Pt.locs, Pt.cells, Pt.slots] at X10 l10 y10 z10 st10 hQ10
    subst l10 y10 z10
    obtain ⟨rfl, N10q, e10⟩ := hQ10
    have N10 := Fr.app N8 N10q
    have pre_11 : ∀ t, Sp p e below T10 (mkF m 21 #[.val (.int p1), .val (.int p2), .val (.int p3), .val .null, .val (.ref b5), .unset] [(.int (0 : Int32))]) t → Steps p.tables e below E0 t := fun t k => pre_9 t (st10.trans k)
    have pre_12 : ∀ t, Sp p e below T10 (mkF m 28 #[.val (.int p1), .val (.int p2), .val (.int p3), .val .null, .val (.ref b5), .unset] [(.ref b5)]) t → Steps p.tables e below E0 t := by
      intro t k
      refine pre_11 t ?_
      show Sp p e below T10 (mkF m 21 #[.val (.int p1), .val (.int p2), .val (.int p3), .val .null, .val (.ref b5), .unset] [(.int (0 : Int32))]) _
      refine XS.ifYes X10.here hx rfl (pc0 := 21) (pc' := 26) rfl (hb hby at_21) rfl (XT.i0_eq_t (by decide)) (by decide) (by decide) ?_
      show Sp p e below T10 (mkF m 26 #[.val (.int p1), .val (.int p2), .val (.int p3), .val .null, .val (.ref b5), .unset] []) _
      refine XS.aload X10.here hx rfl (hb hby at_26) rfl rfl ?_
      exact k
    obtain ⟨cq13, kq13, qa13, qb13, qc13⟩ := isOf hZ2 e10 Eb5
    obtain ⟨_, _, ⟨T13, L13, k13, n13⟩, -, X13, ⟨Lc13, hQ13, l13, y13, z13⟩, st13⟩ := X10.virtualBack hx (y := (⟨"com/example/drover/drover/operator/passes/Found", "problem", "()Ljava/lang/String;"⟩ : MethodName)) (z := (⟨"com/example/drover/drover/operator/passes/Found", "problem", "()Ljava/lang/String;"⟩ : MethodName)) ho2 (mvT hZ2 (own_w hw 42 rfl)) (mvT hZ2 (own_w hw 43 rfl)) (notFace_of_selects (args := #[]) (mvT hZ2 (own_w hw 45 rfl))) (mvT hZ2 (own_w hw 45 rfl)) (mvT hZ2 (own_w hw 44 rfl)) (by decide) (backOf (W := 0) (rm_proN l Z a0 hw [] b5  T5.heap n0 O5 Fb5) hZ2 (own_w hw 46 rfl) (own_w hw 6 rfl) (by decide) (by decide)) qa13 qc13 (g := (mkF m 28 #[.val (.int p1), .val (.int p2), .val (.int p3), .val .null, .val (.ref b5), .unset] [(.ref b5)])) rfl (by rw [hml]; rfl) (Steps.refl _) (argsL := []) (rest := []) (lenOf pd_law_4 rfl) rfl (by show 2 * 0 + _ ≤ _; exact Nat.le_of_eq rfl) (hb hby at_28) (fun _ _ => ⟨rfl, e10, (by decide : 5 + 0 ≤ _), (by decide : 14 + 0 ≤ _)⟩)
    dsimp only [Pt.U, Pt.locs, Pt.cells, Pt.slots] at X13 l13 y13 z13 st13 hQ13
    subst l13 y13 z13
    obtain ⟨rfl, N13q, e13⟩ := hQ13
    have N13 := Fr.app N10 N13q
    have pre_14 : ∀ t, Sp p e below T13 (mkF m 31 #[.val (.int p1), .val (.int p2), .val (.int p3), .val .null, .val (.ref b5), .unset] [.null]) t → Steps p.tables e below E0 t := fun t k => pre_12 t (st13.trans k)
    have pre_15 : ∀ t, Sp p e below T13 (mkF m 47 #[.val (.int p1), .val (.int p2), .val (.int p3), .val .null, .val (.ref b5), .val .null] [(.int (1 : Int32))]) t → Steps p.tables e below E0 t := by
      intro t k
      refine pre_14 t ?_
      show Sp p e below T13 (mkF m 31 #[.val (.int p1), .val (.int p2), .val (.int p3), .val .null, .val (.ref b5), .unset] [.null]) _
      refine XS.astore X13.here hx rfl (hb hby at_31) rfl rfl (l' := #[.val (.int p1), .val (.int p2), .val (.int p3), .val .null, .val (.ref b5), .val .null]) rfl ?_
      refine XS.aloadN X13.here hx rfl (hb hby at_33) rfl rfl ?_
      refine XT.ifnonnullNo X13.here hx rfl (hb hby at_34) rfl ?_
      show Sp p e below T13 (mkF m 37 #[.val (.int p1), .val (.int p2), .val (.int p3), .val .null, .val (.ref b5), .val .null] []) _
      refine XS.aload X13.here hx rfl (hb hby at_37) rfl rfl ?_
      refine XT.ifnonnullNo X13.here hx rfl (hb hby at_39) rfl ?_
      refine XS.iconst X13.here hx rfl (hb hby at_42) ?_
      refine XS.goto X13.here hx rfl (pc0 := 43) (pc' := 47) rfl (hb hby at_43) (by decide) (by decide) ?_
      show Sp p e below T13 (mkF m 47 #[.val (.int p1), .val (.int p2), .val (.int p3), .val .null, .val (.ref b5), .val .null] [(.int (1 : Int32))]) _
      exact k
    obtain ⟨fs, hr, hrun, hended, hEnd⟩ := X13.leaveW hS2 (by rw [e13]; exact (Nat.le_trans (Nat.le_refl _) (Nat.le_trans (Nat.le_refl _) K5.1))) (v := some (.int (1 : Int32))) (fun h => by rw [Bd.returns] at h; cases h)
    refine ⟨_, _, pre_15 _ ?_, hrun, hended, _, _, rfl, ?_, hEnd.1, hEnd.2.1, hEnd.2.2.1, hEnd.2.2.2.mono (by decide) (by decide)⟩
    · show Sp p e below T13 (mkF m 47 #[.val (.int p1), .val (.int p2), .val (.int p3), .val .null, .val (.ref b5), .val .null] [(.int (1 : Int32))]) _
      exact retN X13 hx (t := .boolean) Bd.returns (by simp) (hb hby at_47) hr
    · show Q_law Z _ _ _ _ _ h0 n0 _ T13.vm T13.heap _
      rw [e13]
      exact ⟨rfl, N13⟩
  · skip
    have pre_16 : ∀ t, Sp p e below T2 (mkF m 8 #[.val (.int p1), .val (.int p2), .val (.int p3), .val (.ref sa), .unset, .unset] [(.ref sa)]) t → Steps p.tables e below E0 t := by
      intro t k
      refine pre_3 t ?_
      show Sp p e below T2 (mkF m 6 #[.val (.int p1), .val (.int p2), .val (.int p3), .unset, .unset, .unset] [(.ref sa)]) _
      refine XS.astoreN X2.here hx rfl (hb hby at_6) rfl rfl (l' := #[.val (.int p1), .val (.int p2), .val (.int p3), .val (.ref sa), .unset, .unset]) rfl ?_
      show Sp p e below T2 (mkF m 7 #[.val (.int p1), .val (.int p2), .val (.int p3), .val (.ref sa), .unset, .unset] []) _
      refine XS.aloadN X2.here hx rfl (hb hby at_7) rfl rfl ?_
      exact k
    obtain ⟨_, _, ⟨T17, L17, k17, n17⟩, -, X17, ⟨Lc17, hQ17, l17, y17, z17⟩, st17⟩ := Jvm.LawKit.callS X2 hx (y := (⟨"com/example/drover/drover/operator/passes/Found", "missing", "(Ljava/lang/String;)Lcom/example/drover/drover/operator/passes/Found;"⟩ : MethodName)) ho2 (mvT hZ2 (own_w hw 4 rfl)) (mvT hZ2 (own_w hw 5 rfl)) (mvT hZ2 (own_w hw 6 rfl)) (mvT hZ2 (own_w hw 7 rfl)) (by decide) (backOf (W := 0) (rm_misR l Z a0 hw [] sa aO T2.heap n0 O2 SE) hZ2 (own_w hw 7 rfl) (own_w hw 6 rfl) (by decide) (by decide)) (g := (mkF m 8 #[.val (.int p1), .val (.int p2), .val (.int p3), .val (.ref sa), .unset, .unset] [(.ref sa)])) rfl (by rw [hml]; rfl) (argsL := [(.ref sa)]) (rest := []) (lenOf pd_law_1 rfl) rfl (by show 2 * 0 + _ ≤ _; exact Nat.le_of_eq rfl) (hb hby at_8) (fun _ _ => ⟨rfl, rfl, (by decide : 4 + 1 ≤ _), (by decide : 12 + 2 ≤ _)⟩)
    dsimp only [Pt.U, Pt.locs, Pt.cells, Pt.slots] at X17 l17 y17 z17 st17 hQ17
    subst l17 y17 z17
    obtain ⟨b17, rfl, N17q, K17, sb17, Eb17, Fa17, Fb17⟩ := hQ17
    have N17 := Fr.app N2 N17q
    have O17 : Old Z n0 T17.heap := O2.keep K17 all0
    have pre_18 : ∀ t, Sp p e below T17 (mkF m 11 #[.val (.int p1), .val (.int p2), .val (.int p3), .val (.ref sa), .unset, .unset] [(.ref b17)]) t → Steps p.tables e below E0 t := fun t k => pre_16 t (st17 t k)
    have pre_19 : ∀ t, Sp p e below T17 (mkF m 15 #[.val (.int p1), .val (.int p2), .val (.int p3), .val (.ref sa), .val (.ref b17), .unset] [(.ref b17)]) t → Steps p.tables e below E0 t := by
      intro t k
      refine pre_18 t ?_
      show Sp p e below T17 (mkF m 11 #[.val (.int p1), .val (.int p2), .val (.int p3), .val (.ref sa), .unset, .unset] [(.ref b17)]) _
      refine XS.astore X17.here hx rfl (hb hby at_11) rfl rfl (l' := #[.val (.int p1), .val (.int p2), .val (.int p3), .val (.ref sa), .val (.ref b17), .unset]) rfl ?_
      refine XS.aload X17.here hx rfl (hb hby at_13) rfl rfl ?_
      exact k
    obtain ⟨cq20, kq20, qa20, qb20, qc20⟩ := isOf hZ2 rfl Eb17
    obtain ⟨_, _, ⟨T20, L20, k20, n20⟩, -, X20, ⟨Lc20, hQ20, l20, y20, z20⟩, st20⟩ := X17.virtualBack hx (y := (⟨"com/example/drover/drover/operator/passes/Found", "value", "()Ljava/util/Optional;"⟩ : MethodName)) (z := (⟨"com/example/drover/drover/operator/passes/Found", "value", "()Ljava/util/Optional;"⟩ : MethodName)) ho2 (mvT hZ2 (own_w hw 30 rfl)) (mvT hZ2 (own_w hw 31 rfl)) (notFace_of_selects (args := #[]) (mvT hZ2 (own_w hw 33 rfl))) (mvT hZ2 (own_w hw 33 rfl)) (mvT hZ2 (own_w hw 32 rfl)) (by decide) (backOf (W := 0) (rm_val l Z a0 hw [] b17 aO T17.heap n0 O17 Fa17) hZ2 (own_w hw 34 rfl) (own_w hw 6 rfl) (by decide) (by decide)) qa20 qc20 (g := (mkF m 15 #[.val (.int p1), .val (.int p2), .val (.int p3), .val (.ref sa), .val (.ref b17), .unset] [(.ref b17)])) rfl (by rw [hml]; rfl) (Steps.refl _) (argsL := []) (rest := []) (lenOf pd_law_2 rfl) rfl (by show 2 * 0 + _ ≤ _; exact Nat.le_of_eq rfl) (hb hby at_15) (fun _ _ => ⟨rfl, rfl, (by decide : 5 + 0 ≤ _), (by decide : 14 + 0 ≤ _)⟩)
    dsimp only [Pt.U, Pt.locs, Pt.cells, Pt.slots] at X20 l20 y20 z20 st20 hQ20
    subst l20 y20 z20
    obtain ⟨rfl, N20q, e20⟩ := hQ20
    have N20 := Fr.app N17 N20q
    have pre_21 : ∀ t, Sp p e below T20 (mkF m 18 #[.val (.int p1), .val (.int p2), .val (.int p3), .val (.ref sa), .val (.ref b17), .unset] [(.ref aO)]) t → Steps p.tables e below E0 t := fun t k => pre_19 t (st20.trans k)
    obtain ⟨cq22, kq22, qa22, qb22, qc22⟩ := isOf hZ2 e20 (EO.ext O17.2)
    obtain ⟨_, _, ⟨T22, L22, k22, n22⟩, -, X22, ⟨Lc22, hQ22, l22, y22, z22⟩, st22⟩ := X20.virtualBack hx (y := (⟨"java/util/Optional", "isPresent", "()Z"⟩ : MethodName)) (z := (⟨"java/util/Optional", "isPresent", "()Z"⟩ : MethodName)) ho2 (mvT hZ2 (own_w hw 35 rfl)) (mvT hZ2 (own_w hw 36 rfl)) (notFace_of_selects (args := #[]) (mvT hZ2 (own_w hw 38 rfl))) (mvT hZ2 (own_w hw 38 rfl)) (mvT hZ2 (own_w hw 37 rfl)) (by decide) (backOf (W := 0) (rm_isp l Z a0 hw [] aO T17.heap n0 O17 (FOv.ext O17.2)) hZ2 (own_w hw 39 rfl) (own_w hw 12 rfl) (by decide) (by decide)) qa22 qc22 (g := (mkF m 18 #[.val (.int p1), .val (.int p2), .val (.int p3), .val (.ref sa), .val (.ref b17), .unset] [(.ref aO)])) rfl (by rw [hml]; rfl) (Steps.refl _) (argsL := []) (rest := []) (lenOf pd_law_3 rfl) rfl (by show 2 * 0 + _ ≤ _; exact Nat.le_of_eq rfl) (hb hby at_18) (fun _ _ => ⟨rfl, e20, (by decide : 5 + 0 ≤ _), (by decide : 14 + 0 ≤ _)⟩)
    dsimp only [Pt.U, Pt.locs, Pt.cells, Pt.slots] at X22 l22 y22 z22 st22 hQ22
    subst l22 y22 z22
    obtain ⟨rfl, N22q, e22⟩ := hQ22
    have N22 := Fr.app N20 N22q
    have pre_23 : ∀ t, Sp p e below T22 (mkF m 21 #[.val (.int p1), .val (.int p2), .val (.int p3), .val (.ref sa), .val (.ref b17), .unset] [(.int (0 : Int32))]) t → Steps p.tables e below E0 t := fun t k => pre_21 t (st22.trans k)
    have pre_24 : ∀ t, Sp p e below T22 (mkF m 28 #[.val (.int p1), .val (.int p2), .val (.int p3), .val (.ref sa), .val (.ref b17), .unset] [(.ref b17)]) t → Steps p.tables e below E0 t := by
      intro t k
      refine pre_23 t ?_
      show Sp p e below T22 (mkF m 21 #[.val (.int p1), .val (.int p2), .val (.int p3), .val (.ref sa), .val (.ref b17), .unset] [(.int (0 : Int32))]) _
      refine XS.ifYes X22.here hx rfl (pc0 := 21) (pc' := 26) rfl (hb hby at_21) rfl (XT.i0_eq_t (by decide)) (by decide) (by decide) ?_
      show Sp p e below T22 (mkF m 26 #[.val (.int p1), .val (.int p2), .val (.int p3), .val (.ref sa), .val (.ref b17), .unset] []) _
      refine XS.aload X22.here hx rfl (hb hby at_26) rfl rfl ?_
      exact k
    obtain ⟨cq25, kq25, qa25, qb25, qc25⟩ := isOf hZ2 e22 Eb17
    obtain ⟨_, _, ⟨T25, L25, k25, n25⟩, -, X25, ⟨Lc25, hQ25, l25, y25, z25⟩, st25⟩ := X22.virtualBack hx (y := (⟨"com/example/drover/drover/operator/passes/Found", "problem", "()Ljava/lang/String;"⟩ : MethodName)) (z := (⟨"com/example/drover/drover/operator/passes/Found", "problem", "()Ljava/lang/String;"⟩ : MethodName)) ho2 (mvT hZ2 (own_w hw 42 rfl)) (mvT hZ2 (own_w hw 43 rfl)) (notFace_of_selects (args := #[]) (mvT hZ2 (own_w hw 45 rfl))) (mvT hZ2 (own_w hw 45 rfl)) (mvT hZ2 (own_w hw 44 rfl)) (by decide) (backOf (W := 0) (rm_proR l Z a0 hw [] b17 sa T17.heap n0 O17 Fb17) hZ2 (own_w hw 46 rfl) (own_w hw 6 rfl) (by decide) (by decide)) qa25 qc25 (g := (mkF m 28 #[.val (.int p1), .val (.int p2), .val (.int p3), .val (.ref sa), .val (.ref b17), .unset] [(.ref b17)])) rfl (by rw [hml]; rfl) (Steps.refl _) (argsL := []) (rest := []) (lenOf pd_law_4 rfl) rfl (by show 2 * 0 + _ ≤ _; exact Nat.le_of_eq rfl) (hb hby at_28) (fun _ _ => ⟨rfl, e22, (by decide : 5 + 0 ≤ _), (by decide : 14 + 0 ≤ _)⟩)
    dsimp only [Pt.U, Pt.locs, Pt.cells, Pt.slots] at X25 l25 y25 z25 st25 hQ25
    subst l25 y25 z25
    obtain ⟨rfl, N25q, e25⟩ := hQ25
    have N25 := Fr.app N22 N25q
    have pre_26 : ∀ t, Sp p e below T25 (mkF m 31 #[.val (.int p1), .val (.int p2), .val (.int p3), .val (.ref sa), .val (.ref b17), .unset] [(.ref sa)]) t → Steps p.tables e below E0 t := fun t k => pre_24 t (st25.trans k)
    have pre_27 : ∀ t, Sp p e below T25 (mkF m 51 #[.val (.int p1), .val (.int p2), .val (.int p3), .val (.ref sa), .val (.ref b17), .val (.ref sa)] [(.ref sa), (.ref sa)]) t → Steps p.tables e below E0 t := by
      intro t k
      refine pre_26 t ?_
      show Sp p e below T25 (mkF m 31 #[.val (.int p1), .val (.int p2), .val (.int p3), .val (.ref sa), .val (.ref b17), .unset] [(.ref sa)]) _
      refine XS.astore X25.here hx rfl (hb hby at_31) rfl rfl (l' := #[.val (.int p1), .val (.int p2), .val (.int p3), .val (.ref sa), .val (.ref b17), .val (.ref sa)]) rfl ?_
      refine XS.aloadN X25.here hx rfl (hb hby at_33) rfl rfl ?_
      refine XT.ifnonnullYes X25.here hx rfl (pc0 := 34) (pc' := 48) rfl (hb hby at_34) rfl (by decide) (by decide) ?_
      show Sp p e below T25 (mkF m 48 #[.val (.int p1), .val (.int p2), .val (.int p3), .val (.ref sa), .val (.ref b17), .val (.ref sa)] []) _
      refine XS.aloadN X25.here hx rfl (hb hby at_48) rfl rfl ?_
      refine XS.aload X25.here hx rfl (hb hby at_49) rfl rfl ?_
      exact k
    obtain ⟨cq28, kq28, qa28, qb28, qc28⟩ := isOf hZ2 e25 (Esa.keep K17)
    obtain ⟨_, _, ⟨T28, L28, k28, n28⟩, -, X28, ⟨Lc28, hQ28, l28, y28, z28⟩, st28⟩ := X25.virtualBack hx (y := (⟨"java/lang/String", "equals", "(Ljava/lang/Object;)Z"⟩ : MethodName)) (z := (⟨"java/lang/String", "equals", "(Ljava/lang/Object;)Z"⟩ : MethodName)) ho2 (mvT hZ2 (own_w hw 67 rfl)) (mvT hZ2 (own_w hw 68 rfl)) (notFace_of_selects (args := #[]) (mvT hZ2 (own_w hw 70 rfl))) (mvT hZ2 (own_w hw 70 rfl)) (mvT hZ2 (own_w hw 69 rfl)) (by decide) (backOf (W := 0) (rm_seq l Z a0 hw [] sa T17.heap n0 O17) hZ2 (own_w hw 71 rfl) (own_w hw 49 rfl) (by decide) (by decide)) qa28 qc28 (g := (mkF m 51 #[.val (.int p1), .val (.int p2), .val (.int p3), .val (.ref sa), .val (.ref b17), .val (.ref sa)] [(.ref sa), (.ref sa)])) rfl (by rw [hml]; rfl) (Steps.refl _) (argsL := [(.ref sa)]) (rest := []) (lenOf pd_law_5 rfl) rfl (by show 2 * 0 + _ ≤ _; exact Nat.le_of_eq rfl) (hb hby at_51) (fun _ _ => ⟨rfl, e25, (by decide : 5 + 0 ≤ _), (by decide : 14 + 0 ≤ _)⟩)
    dsimp only [Pt.U, Pt.locs, Pt.cells, Pt.slots] at X28 l28 y28 z28 st28 hQ28
    subst l28 y28 z28
    obtain ⟨rfl, N28q, e28⟩ := hQ28
    have N28 := Fr.app N25 N28q
    have pre_29 : ∀ t, Sp p e below T28 (mkF m 54 #[.val (.int p1), .val (.int p2), .val (.int p3), .val (.ref sa), .val (.ref b17), .val (.ref sa)] [(.int (1 : Int32))]) t → Steps p.tables e below E0 t := fun t k => pre_27 t (st28.trans k)
    obtain ⟨fs, hr, hrun, hended, hEnd⟩ := X28.leaveW hS2 (by rw [e28]; exact (Nat.le_trans (Nat.le_refl _) (Nat.le_trans (Nat.le_refl _) K17.1))) (v := some (.int (1 : Int32))) (fun h => by rw [Bd.returns] at h; cases h)
    refine ⟨_, _, pre_29 _ ?_, hrun, hended, _, _, rfl, ?_, hEnd.1, hEnd.2.1, hEnd.2.2.1, hEnd.2.2.2.mono (by decide) (by decide)⟩
    · show Sp p e below T28 (mkF m 54 #[.val (.int p1), .val (.int p2), .val (.int p3), .val (.ref sa), .val (.ref b17), .val (.ref sa)] [(.int (1 : Int32))]) _
      exact retN X28 hx (t := .boolean) Bd.returns (by simp) (hb hby at_54) hr
    · show Q_law Z _ _ _ _ _ h0 n0 _ T28.vm T28.heap _
      rw [e28]
      exact ⟨rfl, N28⟩
set_option maxRecDepth 65536 in
set_option maxHeartbeats 40000000 in
theorem comes_1 {Post : Tables → Env → Array Value → State → Outcome → State → Prop} (hpost : ∀ tb e args s v u, (limb_1_1.after args s (.returned v) u = true ∧ limb_1_2.after args s (.returned v) u = true ∧ True) → ReturnedEndW s (.returned v) u (Jvm.fieldLocs frame_1_writes args s ++ Jvm.arrayLocs frame_1_arrays args s ++ Jvm.staticLocs frame_1_statics s) 24 1152 → Post tb e args s (.returned v) u) :
    ArmFor flags0 classFile x code maxLocals ret World_1 tables_1 room_1 Calls_1 rest_1 Pre_1 Post := by
  intro l hfl _ _ p e ha hc hk s m args below hf hA hF happ hP
  obtain ⟨hcalls, hrest, hpre⟩ := hP
  obtain ⟨-, -, -, hnamed, -, -, -, hat⟩ := (Spec.applies_iff hf).mp happ
  obtain ⟨hg, hn⟩ := and_e (Cond.before_iff.mp (show (Jvm.Cond.and given_1 narrow_1).before args s = true from hpre))
  obtain ⟨hg0, hgs⟩ := and_e hg
  obtain ⟨w0, w1, w2, rfl⟩ : ∃ w0 w1 w2 : Value, args = #[w0, w1, w2] := by
    have hs : args.size = 3 := by simpa [Cond.value, given_1] using hg0
    obtain ⟨L⟩ := args
    match L, hs with
    | [w0, w1, w2], _ => exact ⟨w0, w1, w2, rfl⟩
  have hw := fun d (hd : d ∈ tables_1) => atoms_spec (ws := Jvm.Cond.code x code maxLocals ret :: tables_1) hat d (List.mem_cons_of_mem _ hd)
  have hfit : Fit s := fun {y c} hc i hi => by
    obtain ⟨ha, rfl⟩ := Array.getElem?_eq_some_iff.mp hc
    have q := List.all_eq_true.mp ((Array.all_eq_true_iff_forall_mem.mp hF) _ (Array.getElem_mem ha)) i (List.mem_range.mpr hi)
    simpa [Array.getElem?_eq_getElem hi] using q
  obtain ⟨ha0, hgs0⟩ := and_e hgs
  obtain ⟨i0, ei0⟩ := is_v ha0
  obtain rfl : w0 = (.int i0) := Option.some.inj ei0
  obtain ⟨ha1, hgs1⟩ := and_e hgs0
  obtain ⟨i1, ei1⟩ := is_v ha1
  obtain rfl : w1 = (.int i1) := Option.some.inj ei1
  obtain ⟨i2, ei2⟩ := is_v hgs1
  obtain rfl : w2 = (.int i2) := Option.some.inj ei2
  obtain ⟨hsets, hown0⟩ := atoms_of _ (rest_1_c_eq ▸ (show rest_1_c.before _ s = true from hrest))
  obtain ⟨G1, evG⟩ := is_v (Cond.before_iff.mp (hsets _ (List.mem_of_getElem? (i := 5) rfl)))
  have SC := Sta.start evG (Or.inl (hsets _ (List.mem_of_getElem? (i := 4) rfl)))
  have hG : ¬ (G1 = (0 : Int32)) := gotF (Cond.eq_ints evG (Term.int_eval (0))) (not_v (Cond.before_iff.mp (hsets _ (List.mem_of_getElem? (i := 6) rfl))))
  have hHC : Jvm.Lit.constHeld s "java/lang/String" 7 := hcalls.1 ("java/lang/String", 7) (List.mem_of_getElem? (i := 0) rfl)
  have hCW := hsets _ (List.mem_of_getElem? (i := 6) rfl)
  obtain ⟨aO, evO⟩ := exa_v (Cond.before_iff.mp (hsets _ (List.mem_of_getElem? (i := 2) rfl)))
  have SE := Sta.start evO (Or.inl (hsets _ (List.mem_of_getElem? (i := 1) rfl)))
  have EO := Exa.start evO (Cond.before_iff.mp (hsets _ (List.mem_of_getElem? (i := 2) rfl)))
  have FOv := Fld.start ((fld_at evO).symm.trans (null_v (Cond.before_iff.mp (hsets _ (List.mem_of_getElem? (i := 3) rfl)))))
  obtain ⟨n, o, h1, h2, h3, _, L, rfl, ⟨rfl, N⟩, hq⟩ := rm_law l s _ hw tables_1 i0 i1 i2 G1 aO s.heap s.heap.size (Old.start s) SC hG hHC hCW SE EO FOv p e ha hc hk s m _ below hf ((Spec.applies_iff_loose hf).mp happ).1 ⟨rfl, State.Warmed39.refl s, rfl, IB.start⟩ trivial
  refine ⟨n, _, h1, h2, h3, hpost _ _ _ _ _ _ ⟨Cond.after_iff.mpr rfl, Cond.after_iff.mpr (eq_i res_at (Term.int_eval (1)) rfl), trivial⟩ ⟨hq.1, hq.2.1, hq.2.2.1, (hq.2.2.2.sift fun y hy => Or.inr (N y hy)).mono (by decide) (by decide)⟩⟩
theorem main_1_1 : Claimed_1_1 := comes_1 fun _ _ _ _ _ _ h hF => ⟨h.1, hF⟩
theorem main_1_2 : Claimed_1_2 := comes_1 fun _ _ _ _ _ _ h hF => ⟨h.2.1, hF⟩
end Jvm.Pilot.@@N@@
namespace Jvm.Pilot.@@N@@
open Jvm Jvm.ClassFile Sem Op Lib Jvm.Free Jvm.Stand Jvm.Pilot.@@N@@.Jvm.D
/-! MADE BY PROGRAM (witnessworld.py) out of the Statement's table words and the real class files: 22 classes; the members and pool entries that the words name. The judged class is class 1, her method 2. -/
namespace start1
open Jvm.ClassFile
def u (s : String) : CpInfo := .utf8 (stringToUtf16 s)
/-- a pool by its gaps: so many unusable entries, then the entry; so many at the end -/
def gap : Nat → List CpInfo → List CpInfo
  | 0, r => r
  | n + 1, r => .unusable :: gap n r
def poolList (es : List (Nat × CpInfo)) (last : Nat) : List CpInfo := es.foldr (fun e r => gap e.1 (e.2 :: r)) (gap last [])
def pool (es : List (Nat × CpInfo)) (last : Nat) : Array CpInfo := ⟨poolList es last⟩
def fileOf (pool : Array CpInfo) (this : Nat) (attrs : Array Attribute := #[]) (ms : Array MethodInfo := #[]) (fl : Nat := 33) (sup : Nat := 0) (ifs : Array Nat := #[]) (fds : Array FieldInfo := #[]) : ClassFile where
  minorVersion := 0
  majorVersion := 65
  constantPool := pool
  accessFlags := fl
  thisClass := this
  superClass := sup
  interfaces := ifs
  fields := fds
  methods := ms
  attributes := attrs
def plain (name : String) (sup : Option ClassId) : Class where
  name := name
  kind := .ordinary
  loader := none
  accessFlags := 33
  super := sup
  interfaces := #[]
  cf := none
  fields := #[]
  methods := #[]
  instanceTypes := #[]
  staticTypes := #[]
  resolved := #[]
  callSites := []
  init := .initialized
  statics := none
  mirror := none

def pool0 : Array CpInfo := pool [(5, u "<init>"), (0, u "()V"), (1, .class_ 10), (1, u "java/lang/Object")] 113

def k0c0 : Code := { maxStack := 0, maxLocals := 1, code := object_method_1_code, exceptionTable := #[], attributes := #[] }
def k0m0 : Method := { name := "<init>", desc := "()V", sig := { parameters := [], returnType := none }, accessFlags := 1, code := some k0c0 }
/-- java/lang/Object -/
def k0 : Class := { plain "java/lang/Object" none with
  accessFlags := 33
  interfaces := #[]
  cf := some (fileOf pool0 8 #[] #[{ accessFlags := 1, nameIndex := 5, descriptorIndex := 6, attributes := #[] }] 33 0 #[] #[])
  fields := #[]
  methods := #[k0m0]
  instanceTypes := #[]
  staticTypes := #[]
  resolved := Array.replicate 124 none
  statics := none }

def pool1 : Array CpInfo := pool [(2, .class_ 4), (1, u "java/lang/Object"), (0, u "<init>"), (0, u "()V"), (0, .class_ 8), (0, u "java/lang/String"), (0, .methodref 7 10), (0, .nameAndType 5 11), (0, u "([C)V"), (0, .methodref 13 14), (0, .class_ 15), (0, .nameAndType 16 17), (0, u "com/example/drover/drover/operator/passes/FoundMissingPinLaw"), (0, u "drawn"), (0, u "(III)Ljava/lang/String;"), (0, .methodref 19 20), (0, .class_ 21), (0, .nameAndType 22 23), (0, u "com/example/drover/drover/operator/passes/Found"), (0, u "missing"), (0, u "(Ljava/lang/String;)Lcom/example/drover/drover/operator/passes/Found;"), (0, .methodref 19 25), (0, .nameAndType 26 27), (0, u "value"), (0, u "()Ljava/util/Optional;"), (0, .methodref 29 30), (0, .class_ 31), (0, .nameAndType 32 33), (0, u "java/util/Optional"), (0, u "isPresent"), (0, u "()Z"), (0, .methodref 19 35), (0, .nameAndType 36 37), (0, u "problem"), (0, u "()Ljava/lang/String;"), (0, .methodref 7 39), (0, .nameAndType 40 41), (0, u "equals"), (0, u "(Ljava/lang/Object;)Z"), (3, u "law"), (0, u "(III)Z")] 2

def k1m0 : Method := { name := "<init>", desc := "()V", sig := { parameters := [], returnType := none }, accessFlags := 1, code := none }
def k1c1 : Code := { maxStack := 6, maxLocals := 8, code := method_2_code, exceptionTable := #[], attributes := #[] }
def k1m1 : Method := { name := "drawn", desc := "(III)Ljava/lang/String;", sig := { parameters := [.int, .int, .int], returnType := some (.object "java/lang/String") }, accessFlags := 10, code := some k1c1 }
def k1c2 : Code := { maxStack := 3, maxLocals := 6, code := code, exceptionTable := #[], attributes := #[] }
def k1m2 : Method := { name := "law", desc := "(III)Z", sig := { parameters := [.int, .int, .int], returnType := some .boolean }, accessFlags := 9, code := some k1c2 }
/-- com/example/drover/drover/operator/passes/FoundMissingPinLaw -/
def k1 : Class := { plain "com/example/drover/drover/operator/passes/FoundMissingPinLaw" (some 0) with
  accessFlags := 49
  interfaces := #[]
  cf := some (fileOf pool1 13 #[] #[{ accessFlags := 1, nameIndex := 5, descriptorIndex := 6, attributes := #[] }, { accessFlags := 10, nameIndex := 16, descriptorIndex := 17, attributes := #[] }, { accessFlags := 9, nameIndex := 45, descriptorIndex := 46, attributes := #[] }] 49 2 #[] #[])
  fields := #[]
  methods := #[k1m0, k1m1, k1m2]
  instanceTypes := #[]
  staticTypes := #[]
  resolved := Array.replicate 49 none
  statics := none }

def pool2 : Array CpInfo := pool [(1, .methodref 2 3), (0, .class_ 4), (0, .nameAndType 5 6), (0, u "java/lang/Object"), (0, u "<init>"), (0, u "()V"), (0, .class_ 8), (0, u "java/lang/Record")] 13

def k2c0 : Code := { maxStack := 1, maxLocals := 1, code := jdk_30_method_1_code, exceptionTable := #[], attributes := #[] }
def k2m0 : Method := { name := "<init>", desc := "()V", sig := { parameters := [], returnType := none }, accessFlags := 4, code := some k2c0 }
/-- java/lang/Record -/
def k2 : Class := { plain "java/lang/Record" (some 0) with
  accessFlags := 1057
  interfaces := #[]
  cf := some (fileOf pool2 7 #[] #[{ accessFlags := 4, nameIndex := 5, descriptorIndex := 6, attributes := #[] }] 1057 2 #[] #[])
  fields := #[]
  methods := #[k2m0]
  instanceTypes := #[]
  staticTypes := #[]
  resolved := Array.replicate 22 none
  statics := none }

def pool3 : Array CpInfo := pool [(1, .methodref 2 3), (0, .class_ 4), (0, .nameAndType 5 6), (0, u "java/lang/Record"), (0, u "<init>"), (0, u "()V"), (0, .fieldref 8 9), (0, .class_ 10), (0, .nameAndType 11 12), (0, u "com/example/drover/drover/operator/passes/Found"), (0, u "value"), (0, u "Ljava/util/Optional;"), (0, .fieldref 8 14), (0, .nameAndType 15 16), (0, u "problem"), (0, u "Ljava/lang/String;"), (1, .class_ 20), (1, u "java/util/Optional"), (2, .methodref 8 24), (0, .nameAndType 5 25), (0, u "(Ljava/util/Optional;Ljava/lang/String;)V"), (0, .methodref 18 27), (0, .nameAndType 28 29), (0, u "empty"), (0, u "()Ljava/util/Optional;"), (16, u "missing"), (0, u "(Ljava/lang/String;)Lcom/example/drover/drover/operator/passes/Found;"), (25, u "()Ljava/lang/String;")] 25

def k3c0 : Code := { maxStack := 2, maxLocals := 3, code := prog_43_method_1_code, exceptionTable := #[], attributes := #[] }
def k3m0 : Method := { name := "<init>", desc := "(Ljava/util/Optional;Ljava/lang/String;)V", sig := { parameters := [(.object "java/util/Optional"), (.object "java/lang/String")], returnType := none }, accessFlags := 1, code := some k3c0 }
def k3c1 : Code := { maxStack := 4, maxLocals := 1, code := prog_43_method_3_code, exceptionTable := #[], attributes := #[] }
def k3m1 : Method := { name := "missing", desc := "(Ljava/lang/String;)Lcom/example/drover/drover/operator/passes/Found;", sig := { parameters := [(.object "java/lang/String")], returnType := some (.object "com/example/drover/drover/operator/passes/Found") }, accessFlags := 9, code := some k3c1 }
def k3c2 : Code := { maxStack := 1, maxLocals := 1, code := prog_43_method_8_code, exceptionTable := #[], attributes := #[] }
def k3m2 : Method := { name := "value", desc := "()Ljava/util/Optional;", sig := { parameters := [], returnType := some (.object "java/util/Optional") }, accessFlags := 1, code := some k3c2 }
def k3c3 : Code := { maxStack := 1, maxLocals := 1, code := prog_43_method_9_code, exceptionTable := #[], attributes := #[] }
def k3m3 : Method := { name := "problem", desc := "()Ljava/lang/String;", sig := { parameters := [], returnType := some (.object "java/lang/String") }, accessFlags := 1, code := some k3c3 }
/-- com/example/drover/drover/operator/passes/Found -/
def k3 : Class := { plain "com/example/drover/drover/operator/passes/Found" (some 2) with
  accessFlags := 49
  interfaces := #[]
  cf := some (fileOf pool3 8 #[] #[{ accessFlags := 1, nameIndex := 5, descriptorIndex := 25, attributes := #[] }, { accessFlags := 9, nameIndex := 46, descriptorIndex := 47, attributes := #[] }, { accessFlags := 1, nameIndex := 11, descriptorIndex := 29, attributes := #[] }, { accessFlags := 1, nameIndex := 15, descriptorIndex := 73, attributes := #[] }] 49 2 #[] #[{ accessFlags := 18, nameIndex := 11, descriptorIndex := 12, attributes := #[] }, { accessFlags := 18, nameIndex := 15, descriptorIndex := 16, attributes := #[] }])
  fields := #[{ name := "value", type := (.object "java/util/Optional"), accessFlags := 18, slot := 0, constantValue := 0 }, { name := "problem", type := (.object "java/lang/String"), accessFlags := 18, slot := 1, constantValue := 0 }]
  methods := #[k3m0, k3m1, k3m2, k3m3]
  instanceTypes := #[(.object "java/util/Optional"), (.object "java/lang/String")]
  staticTypes := #[]
  resolved := Array.replicate 99 none
  statics := none }

def pool4 : Array CpInfo := pool [(1, .fieldref 2 3), (0, .class_ 4), (0, .nameAndType 5 6), (0, u "java/util/Optional"), (0, u "EMPTY"), (0, u "Ljava/util/Optional;"), (1, .class_ 10), (1, u "java/lang/Object"), (2, .fieldref 2 14), (0, .nameAndType 15 16), (0, u "value"), (0, u "Ljava/lang/Object;"), (29, u "()Z"), (8, u "empty"), (0, u "()Ljava/util/Optional;"), (11, u "isPresent")] 118

def k4c0 : Code := { maxStack := 1, maxLocals := 1, code := jdk_32_method_1_code, exceptionTable := #[], attributes := #[] }
def k4m0 : Method := { name := "empty", desc := "()Ljava/util/Optional;", sig := { parameters := [], returnType := some (.object "java/util/Optional") }, accessFlags := 9, code := some k4c0 }
def k4c1 : Code := { maxStack := 1, maxLocals := 1, code := jdk_32_method_6_code, exceptionTable := #[], attributes := #[] }
def k4m1 : Method := { name := "isPresent", desc := "()Z", sig := { parameters := [], returnType := some .boolean }, accessFlags := 1, code := some k4c1 }
/-- java/util/Optional -/
def k4 : Class := { plain "java/util/Optional" (some 0) with
  accessFlags := 49
  interfaces := #[]
  cf := some (fileOf pool4 2 #[] #[{ accessFlags := 9, nameIndex := 55, descriptorIndex := 56, attributes := #[] }, { accessFlags := 1, nameIndex := 68, descriptorIndex := 46, attributes := #[] }] 49 8 #[] #[{ accessFlags := 26, nameIndex := 5, descriptorIndex := 6, attributes := #[] }, { accessFlags := 18, nameIndex := 15, descriptorIndex := 16, attributes := #[] }])
  fields := #[{ name := "EMPTY", type := (.object "java/util/Optional"), accessFlags := 26, slot := 0, constantValue := 0 }, { name := "value", type := (.object "java/lang/Object"), accessFlags := 18, slot := 0, constantValue := 0 }]
  methods := #[k4m0, k4m1]
  instanceTypes := #[(.object "java/lang/Object")]
  staticTypes := #[(.object "java/util/Optional")]
  resolved := Array.replicate 187 none
  statics := some 0 }

def pool5 : Array CpInfo := pool [(1, .class_ 2), (0, u "java/io/Serializable"), (0, .class_ 4), (0, u "java/lang/Object")] 2

/-- java/io/Serializable -/
def k5 : Class := { plain "java/io/Serializable" (some 0) with
  accessFlags := 1537
  interfaces := #[]
  cf := some (fileOf pool5 1 #[] #[] 1537 3 #[] #[])
  fields := #[]
  methods := #[]
  instanceTypes := #[]
  staticTypes := #[]
  resolved := Array.replicate 7 none
  statics := none }

def pool6 : Array CpInfo := pool [(1, .class_ 2), (0, u "java/lang/Comparable"), (0, .class_ 4), (0, u "java/lang/Object")] 7

/-- java/lang/Comparable -/
def k6 : Class := { plain "java/lang/Comparable" (some 0) with
  accessFlags := 1537
  interfaces := #[]
  cf := some (fileOf pool6 1 #[] #[] 1537 3 #[] #[])
  fields := #[]
  methods := #[]
  instanceTypes := #[]
  staticTypes := #[]
  resolved := Array.replicate 12 none
  statics := none }

def pool7 : Array CpInfo := pool [(2, .class_ 4), (1, u "java/lang/CharSequence"), (42, .class_ 48), (0, u "java/lang/CharSequence$1CodePointIterator"), (10, .class_ 60), (0, u "java/lang/CharSequence$1CharIterator"), (5, .class_ 67), (0, u "java/lang/Object")] 63

/-- java/lang/CharSequence -/
def k7 : Class := { plain "java/lang/CharSequence" (some 0) with
  accessFlags := 1537
  interfaces := #[]
  cf := some (fileOf pool7 2 #[.nestMembers #[47, 59]] #[] 1537 66 #[] #[])
  fields := #[]
  methods := #[]
  instanceTypes := #[]
  staticTypes := #[]
  resolved := Array.replicate 131 none
  statics := none }

def pool8 : Array CpInfo := pool [(1, .class_ 2), (0, u "java/lang/constant/Constable"), (0, .class_ 4), (0, u "java/lang/Object")] 6

/-- java/lang/constant/Constable -/
def k8 : Class := { plain "java/lang/constant/Constable" (some 0) with
  accessFlags := 1537
  interfaces := #[]
  cf := some (fileOf pool8 1 #[] #[] 1537 3 #[] #[])
  fields := #[]
  methods := #[]
  instanceTypes := #[]
  staticTypes := #[]
  resolved := Array.replicate 11 none
  statics := none }

def pool9 : Array CpInfo := pool [(1, .class_ 2), (0, u "java/lang/constant/ConstantDesc"), (0, .class_ 4), (0, u "java/lang/Object")] 32

/-- java/lang/constant/ConstantDesc -/
def k9 : Class := { plain "java/lang/constant/ConstantDesc" (some 0) with
  accessFlags := 1537
  interfaces := #[]
  cf := some (fileOf pool9 1 #[] #[] 1537 3 #[] #[])
  fields := #[]
  methods := #[]
  instanceTypes := #[]
  staticTypes := #[]
  resolved := Array.replicate 37 none
  statics := none }

def pool10 : Array CpInfo := pool [(1, .methodref 2 3), (0, .class_ 4), (0, .nameAndType 5 6), (0, u "java/lang/Object"), (0, u "<init>"), (0, u "()V"), (0, .string 8), (0, u ""), (0, .fieldref 10 11), (0, .class_ 12), (0, .nameAndType 13 14), (0, u "java/lang/String"), (0, u "value"), (0, u "[B"), (0, .fieldref 10 16), (0, .nameAndType 17 18), (0, u "coder"), (0, u "B"), (2, u "hash"), (0, u "I"), (2, u "hashIsZero"), (0, u "Z"), (0, .methodref 10 28), (0, .nameAndType 5 29), (0, u "([CIILjava/lang/Void;)V"), (8, .fieldref 10 39), (0, .nameAndType 40 26), (0, u "COMPACT_STRINGS"), (1, .class_ 44), (1, u "java/lang/StringUTF16"), (0, u "compress"), (1, .methodref 42 48), (0, .nameAndType 49 50), (0, u "coderFromArrayLen"), (0, u "([BI)B"), (126, .methodref 42 178), (0, .nameAndType 45 179), (0, u "([CII)[B"), (363, u "equals"), (29, u "(Ljava/lang/Object;)Z"), (1, .class_ 576), (0, u "java/lang/CharSequence"), (22, u "CASE_INSENSITIVE_ORDER"), (0, u "Ljava/util/Comparator;"), (409, u "([C)V"), (90, u "serialPersistentFields"), (0, u "[Ljava/io/ObjectStreamField;"), (0, .class_ 1104), (0, u "java/lang/String$CaseInsensitiveComparator"), (1, .class_ 1107), (0, u "java/io/Serializable"), (0, .class_ 1109), (0, u "java/lang/Comparable"), (0, .class_ 1111), (0, u "java/lang/constant/Constable"), (0, .class_ 1113), (0, u "java/lang/constant/ConstantDesc"), (2, u "serialVersionUID"), (0, u "J"), (3, u "REPL"), (0, u "C"), (2, u "LATIN1"), (1, u "UTF16")] 323

def k10m0 : Method := { name := "<init>", desc := "()V", sig := { parameters := [], returnType := none }, accessFlags := 1, code := none }
def k10c1 : Code := { maxStack := 5, maxLocals := 2, code := jdk_42_method_3_code, exceptionTable := #[], attributes := #[] }
def k10m1 : Method := { name := "<init>", desc := "([C)V", sig := { parameters := [(.array .char)], returnType := none }, accessFlags := 1, code := some k10c1 }
def k10c2 : Code := { maxStack := 2, maxLocals := 3, code := jdk_42_method_66_code, exceptionTable := #[], attributes := #[] }
def k10m2 : Method := { name := "equals", desc := "(Ljava/lang/Object;)Z", sig := { parameters := [(.object "java/lang/Object")], returnType := some .boolean }, accessFlags := 1, code := some k10c2 }
def k10c3 : Code := { maxStack := 4, maxLocals := 6, code := jdk_42_method_149_code, exceptionTable := #[], attributes := #[] }
def k10m3 : Method := { name := "<init>", desc := "([CIILjava/lang/Void;)V", sig := { parameters := [(.array .char), .int, .int, (.object "java/lang/Void")], returnType := none }, accessFlags := 2, code := some k10c3 }
/-- java/lang/String -/
def k10 : Class := { plain "java/lang/String" (some 0) with
  accessFlags := 49
  interfaces := #[5, 6, 7, 8, 9]
  cf := some (fileOf pool10 10 #[.nestMembers #[1103]] #[{ accessFlags := 1, nameIndex := 5, descriptorIndex := 6, attributes := #[] }, { accessFlags := 1, nameIndex := 5, descriptorIndex := 1010, attributes := #[] }, { accessFlags := 1, nameIndex := 543, descriptorIndex := 573, attributes := #[] }, { accessFlags := 2, nameIndex := 5, descriptorIndex := 29, attributes := #[] }] 49 2 #[1106, 1108, 575, 1110, 1112] #[{ accessFlags := 18, nameIndex := 13, descriptorIndex := 14, attributes := #[] }, { accessFlags := 18, nameIndex := 17, descriptorIndex := 18, attributes := #[] }, { accessFlags := 2, nameIndex := 21, descriptorIndex := 22, attributes := #[] }, { accessFlags := 2, nameIndex := 25, descriptorIndex := 26, attributes := #[] }, { accessFlags := 26, nameIndex := 1116, descriptorIndex := 1117, attributes := #[] }, { accessFlags := 24, nameIndex := 40, descriptorIndex := 26, attributes := #[] }, { accessFlags := 26, nameIndex := 1101, descriptorIndex := 1102, attributes := #[] }, { accessFlags := 26, nameIndex := 1121, descriptorIndex := 1122, attributes := #[] }, { accessFlags := 25, nameIndex := 599, descriptorIndex := 600, attributes := #[] }, { accessFlags := 24, nameIndex := 1125, descriptorIndex := 18, attributes := #[] }, { accessFlags := 24, nameIndex := 1127, descriptorIndex := 18, attributes := #[] }])
  fields := #[{ name := "value", type := (.array .byte), accessFlags := 18, slot := 0, constantValue := 0 }, { name := "coder", type := .byte, accessFlags := 18, slot := 1, constantValue := 0 }, { name := "hash", type := .int, accessFlags := 2, slot := 2, constantValue := 0 }, { name := "hashIsZero", type := .boolean, accessFlags := 2, slot := 3, constantValue := 0 }, { name := "serialVersionUID", type := .long, accessFlags := 26, slot := 0, constantValue := 0 }, { name := "COMPACT_STRINGS", type := .boolean, accessFlags := 24, slot := 1, constantValue := 0 }, { name := "serialPersistentFields", type := (.array (.object "java/io/ObjectStreamField")), accessFlags := 26, slot := 2, constantValue := 0 }, { name := "REPL", type := .char, accessFlags := 26, slot := 3, constantValue := 0 }, { name := "CASE_INSENSITIVE_ORDER", type := (.object "java/util/Comparator"), accessFlags := 25, slot := 4, constantValue := 0 }, { name := "LATIN1", type := .byte, accessFlags := 24, slot := 5, constantValue := 0 }, { name := "UTF16", type := .byte, accessFlags := 24, slot := 6, constantValue := 0 }]
  methods := #[k10m0, k10m1, k10m2, k10m3]
  instanceTypes := #[(.array .byte), .byte, .int, .boolean]
  staticTypes := #[.long, .boolean, (.array (.object "java/io/ObjectStreamField")), .char, (.object "java/util/Comparator"), .byte, .byte]
  resolved := Array.replicate 1451 none
  statics := some 1 }

def pool11 : Array CpInfo := pool [(6, .class_ 8), (1, u "java/lang/Object"), (0, u "<init>"), (0, u "()V"), (1, .class_ 14), (1, u "java/lang/StringUTF16"), (31, u "$assertionsDisabled"), (0, u "Z"), (13, u "HI_BYTE_SHIFT"), (0, u "I"), (2, u "LO_BYTE_SHIFT"), (49, .methodref 12 116), (0, .nameAndType 117 118), (0, u "compress"), (0, u "([CI[BII)I"), (3, u "([CII)[B"), (138, u "coderFromArrayLen"), (0, u "([BI)B"), (106, .class_ 371), (1, u "java/lang/StringUTF16$LinesSpliterator"), (58, u "MAX_LENGTH"), (196, .class_ 628), (0, u "java/lang/StringUTF16$CodePointsSpliterator"), (0, .class_ 630), (0, u "java/lang/StringUTF16$CharsSpliterator")] 4

def k11m0 : Method := { name := "<init>", desc := "()V", sig := { parameters := [], returnType := none }, accessFlags := 0, code := none }
def k11c1 : Code := { maxStack := 2, maxLocals := 2, code := jdk_52_method_15_code, exceptionTable := #[], attributes := #[] }
def k11m1 : Method := { name := "coderFromArrayLen", desc := "([BI)B", sig := { parameters := [(.array .byte), .int], returnType := some .byte }, accessFlags := 8, code := some k11c1 }
def k11c2 : Code := { maxStack := 5, maxLocals := 6, code := jdk_52_method_16_code, exceptionTable := #[], attributes := #[] }
def k11m2 : Method := { name := "compress", desc := "([CII)[B", sig := { parameters := [(.array .char), .int, .int], returnType := some (.array .byte) }, accessFlags := 9, code := some k11c2 }
def k11c3 : Code := { maxStack := 3, maxLocals := 7, code := jdk_52_method_21_code, exceptionTable := #[], attributes := #[] }
def k11m3 : Method := { name := "compress", desc := "([CI[BII)I", sig := { parameters := [(.array .char), .int, (.array .byte), .int, .int], returnType := some .int }, accessFlags := 9, code := some k11c3 }
/-- java/lang/StringUTF16 -/
def k11 : Class := { plain "java/lang/StringUTF16" (some 0) with
  accessFlags := 48
  interfaces := #[]
  cf := some (fileOf pool11 12 #[.nestMembers #[627, 629, 369]] #[{ accessFlags := 0, nameIndex := 9, descriptorIndex := 10, attributes := #[] }, { accessFlags := 8, nameIndex := 261, descriptorIndex := 262, attributes := #[] }, { accessFlags := 9, nameIndex := 117, descriptorIndex := 122, attributes := #[] }, { accessFlags := 9, nameIndex := 117, descriptorIndex := 118, attributes := #[] }] 48 6 #[] #[{ accessFlags := 26, nameIndex := 61, descriptorIndex := 62, attributes := #[] }, { accessFlags := 26, nameIndex := 65, descriptorIndex := 62, attributes := #[] }, { accessFlags := 24, nameIndex := 430, descriptorIndex := 62, attributes := #[] }, { accessFlags := 4120, nameIndex := 46, descriptorIndex := 47, attributes := #[] }])
  fields := #[{ name := "HI_BYTE_SHIFT", type := .int, accessFlags := 26, slot := 0, constantValue := 0 }, { name := "LO_BYTE_SHIFT", type := .int, accessFlags := 26, slot := 1, constantValue := 0 }, { name := "MAX_LENGTH", type := .int, accessFlags := 24, slot := 2, constantValue := 0 }, { name := "$assertionsDisabled", type := .boolean, accessFlags := 4120, slot := 3, constantValue := 0 }]
  methods := #[k11m0, k11m1, k11m2, k11m3]
  instanceTypes := #[]
  staticTypes := #[.int, .int, .int, .boolean]
  resolved := Array.replicate 635 none
  statics := none }

def pool12 : Array CpInfo := pool [(4, .class_ 6), (1, u "java/lang/Object"), (0, u "<init>"), (0, u "()V"), (5, .class_ 16), (1, u "java/lang/StringLatin1"), (104, u "$assertionsDisabled"), (0, u "Z"), (98, .class_ 223), (1, u "java/lang/StringLatin1$LinesSpliterator"), (166, .class_ 391), (0, u "java/lang/StringLatin1$CharsSpliterator")] 3

def k12m0 : Method := { name := "<init>", desc := "()V", sig := { parameters := [], returnType := none }, accessFlags := 0, code := none }
/-- java/lang/StringLatin1 -/
def k12 : Class := { plain "java/lang/StringLatin1" (some 0) with
  accessFlags := 48
  interfaces := #[]
  cf := some (fileOf pool12 14 #[.nestMembers #[390, 221]] #[{ accessFlags := 0, nameIndex := 7, descriptorIndex := 8, attributes := #[] }] 48 4 #[] #[{ accessFlags := 4120, nameIndex := 121, descriptorIndex := 122, attributes := #[] }])
  fields := #[{ name := "$assertionsDisabled", type := .boolean, accessFlags := 4120, slot := 0, constantValue := 0 }]
  methods := #[k12m0]
  instanceTypes := #[]
  staticTypes := #[.boolean]
  resolved := Array.replicate 395 none
  statics := none }

def pool13 : Array CpInfo := pool [(2, .class_ 4), (1, u "java/lang/Object"), (0, u "<init>"), (0, u "()V"), (17, .class_ 26), (1, u "jdk/internal/util/Preconditions"), (28, .class_ 56), (0, u "jdk/internal/util/Preconditions$4"), (57, .class_ 115), (0, u "jdk/internal/util/Preconditions$1"), (7, u "SIOOBE_FORMATTER"), (0, u "Ljava/util/function/BiFunction;"), (0, .class_ 126), (0, u "jdk/internal/util/Preconditions$2"), (3, u "AIOOBE_FORMATTER"), (0, .class_ 132), (0, u "jdk/internal/util/Preconditions$3"), (3, u "IOOBE_FORMATTER")] 57

def k13m0 : Method := { name := "<init>", desc := "()V", sig := { parameters := [], returnType := none }, accessFlags := 1, code := none }
/-- jdk/internal/util/Preconditions -/
def k13 : Class := { plain "jdk/internal/util/Preconditions" (some 0) with
  accessFlags := 33
  interfaces := #[]
  cf := some (fileOf pool13 24 #[.nestMembers #[55, 131, 125, 114]] #[{ accessFlags := 1, nameIndex := 5, descriptorIndex := 6, attributes := #[] }] 33 2 #[] #[{ accessFlags := 25, nameIndex := 123, descriptorIndex := 124, attributes := #[] }, { accessFlags := 25, nameIndex := 130, descriptorIndex := 124, attributes := #[] }, { accessFlags := 25, nameIndex := 136, descriptorIndex := 124, attributes := #[] }])
  fields := #[{ name := "SIOOBE_FORMATTER", type := (.object "java/util/function/BiFunction"), accessFlags := 25, slot := 0, constantValue := 0 }, { name := "AIOOBE_FORMATTER", type := (.object "java/util/function/BiFunction"), accessFlags := 25, slot := 1, constantValue := 0 }, { name := "IOOBE_FORMATTER", type := (.object "java/util/function/BiFunction"), accessFlags := 25, slot := 2, constantValue := 0 }]
  methods := #[k13m0]
  instanceTypes := #[]
  staticTypes := #[(.object "java/util/function/BiFunction"), (.object "java/util/function/BiFunction"), (.object "java/util/function/BiFunction")]
  resolved := Array.replicate 194 none
  statics := some 2 }

def pool14 : Array CpInfo := pool [(9, u "<init>"), (6, .class_ 18), (1, u "java/lang/Object"), (0, u "()V"), (1, .class_ 23), (1, u "jdk/internal/util/ArraysSupport"), (0, u "LOG2_ARRAY_LONG_INDEX_SCALE"), (0, u "I"), (2, u "U"), (0, u "Ljdk/internal/misc/Unsafe;"), (8, u "BIG_ENDIAN"), (0, u "Z"), (8, u "LOG2_BYTE_BIT_SIZE"), (4, u "LOG2_ARRAY_INT_INDEX_SCALE"), (54, u "JLA"), (0, u "Ljdk/internal/access/JavaLangAccess;"), (11, u "LOG2_ARRAY_BOOLEAN_INDEX_SCALE"), (9, u "LOG2_ARRAY_BYTE_INDEX_SCALE"), (5, u "LOG2_ARRAY_CHAR_INDEX_SCALE"), (5, u "LOG2_ARRAY_SHORT_INDEX_SCALE"), (18, u "LOG2_ARRAY_FLOAT_INDEX_SCALE"), (24, u "LOG2_ARRAY_DOUBLE_INDEX_SCALE"), (89, u "T_BOOLEAN"), (2, u "T_CHAR"), (1, u "T_FLOAT"), (1, u "T_DOUBLE"), (1, u "T_BYTE"), (1, u "T_SHORT"), (1, u "T_INT"), (1, u "T_LONG"), (1, u "SOFT_MAX_ARRAY_LENGTH")] 83

def k14m0 : Method := { name := "<init>", desc := "()V", sig := { parameters := [], returnType := none }, accessFlags := 2, code := none }
/-- jdk/internal/util/ArraysSupport -/
def k14 : Class := { plain "jdk/internal/util/ArraysSupport" (some 0) with
  accessFlags := 33
  interfaces := #[]
  cf := some (fileOf pool14 21 #[] #[{ accessFlags := 2, nameIndex := 9, descriptorIndex := 19, attributes := #[] }] 33 16 #[] #[{ accessFlags := 24, nameIndex := 28, descriptorIndex := 29, attributes := #[] }, { accessFlags := 26, nameIndex := 38, descriptorIndex := 39, attributes := #[] }, { accessFlags := 25, nameIndex := 121, descriptorIndex := 25, attributes := #[] }, { accessFlags := 25, nameIndex := 131, descriptorIndex := 25, attributes := #[] }, { accessFlags := 25, nameIndex := 137, descriptorIndex := 25, attributes := #[] }, { accessFlags := 25, nameIndex := 143, descriptorIndex := 25, attributes := #[] }, { accessFlags := 25, nameIndex := 53, descriptorIndex := 25, attributes := #[] }, { accessFlags := 25, nameIndex := 24, descriptorIndex := 25, attributes := #[] }, { accessFlags := 25, nameIndex := 162, descriptorIndex := 25, attributes := #[] }, { accessFlags := 25, nameIndex := 187, descriptorIndex := 25, attributes := #[] }, { accessFlags := 26, nameIndex := 48, descriptorIndex := 25, attributes := #[] }, { accessFlags := 25, nameIndex := 277, descriptorIndex := 25, attributes := #[] }, { accessFlags := 25, nameIndex := 280, descriptorIndex := 25, attributes := #[] }, { accessFlags := 25, nameIndex := 282, descriptorIndex := 25, attributes := #[] }, { accessFlags := 25, nameIndex := 284, descriptorIndex := 25, attributes := #[] }, { accessFlags := 25, nameIndex := 286, descriptorIndex := 25, attributes := #[] }, { accessFlags := 25, nameIndex := 288, descriptorIndex := 25, attributes := #[] }, { accessFlags := 25, nameIndex := 290, descriptorIndex := 25, attributes := #[] }, { accessFlags := 25, nameIndex := 292, descriptorIndex := 25, attributes := #[] }, { accessFlags := 26, nameIndex := 108, descriptorIndex := 109, attributes := #[] }, { accessFlags := 25, nameIndex := 294, descriptorIndex := 25, attributes := #[] }])
  fields := #[{ name := "U", type := (.object "jdk/internal/misc/Unsafe"), accessFlags := 24, slot := 0, constantValue := 0 }, { name := "BIG_ENDIAN", type := .boolean, accessFlags := 26, slot := 1, constantValue := 0 }, { name := "LOG2_ARRAY_BOOLEAN_INDEX_SCALE", type := .int, accessFlags := 25, slot := 2, constantValue := 0 }, { name := "LOG2_ARRAY_BYTE_INDEX_SCALE", type := .int, accessFlags := 25, slot := 3, constantValue := 0 }, { name := "LOG2_ARRAY_CHAR_INDEX_SCALE", type := .int, accessFlags := 25, slot := 4, constantValue := 0 }, { name := "LOG2_ARRAY_SHORT_INDEX_SCALE", type := .int, accessFlags := 25, slot := 5, constantValue := 0 }, { name := "LOG2_ARRAY_INT_INDEX_SCALE", type := .int, accessFlags := 25, slot := 6, constantValue := 0 }, { name := "LOG2_ARRAY_LONG_INDEX_SCALE", type := .int, accessFlags := 25, slot := 7, constantValue := 0 }, { name := "LOG2_ARRAY_FLOAT_INDEX_SCALE", type := .int, accessFlags := 25, slot := 8, constantValue := 0 }, { name := "LOG2_ARRAY_DOUBLE_INDEX_SCALE", type := .int, accessFlags := 25, slot := 9, constantValue := 0 }, { name := "LOG2_BYTE_BIT_SIZE", type := .int, accessFlags := 26, slot := 10, constantValue := 0 }, { name := "T_BOOLEAN", type := .int, accessFlags := 25, slot := 11, constantValue := 0 }, { name := "T_CHAR", type := .int, accessFlags := 25, slot := 12, constantValue := 0 }, { name := "T_FLOAT", type := .int, accessFlags := 25, slot := 13, constantValue := 0 }, { name := "T_DOUBLE", type := .int, accessFlags := 25, slot := 14, constantValue := 0 }, { name := "T_BYTE", type := .int, accessFlags := 25, slot := 15, constantValue := 0 }, { name := "T_SHORT", type := .int, accessFlags := 25, slot := 16, constantValue := 0 }, { name := "T_INT", type := .int, accessFlags := 25, slot := 17, constantValue := 0 }, { name := "T_LONG", type := .int, accessFlags := 25, slot := 18, constantValue := 0 }, { name := "JLA", type := (.object "jdk/internal/access/JavaLangAccess"), accessFlags := 26, slot := 19, constantValue := 0 }, { name := "SOFT_MAX_ARRAY_LENGTH", type := .int, accessFlags := 25, slot := 20, constantValue := 0 }]
  methods := #[k14m0]
  instanceTypes := #[]
  staticTypes := #[(.object "jdk/internal/misc/Unsafe"), .boolean, .int, .int, .int, .int, .int, .int, .int, .int, .int, .int, .int, .int, .int, .int, .int, .int, .int, (.object "jdk/internal/access/JavaLangAccess"), .int]
  resolved := Array.replicate 378 none
  statics := none }

def pool15 : Array CpInfo := pool [(1, u "java/lang/Cloneable"), (0, .class_ 1), (0, u "java/lang/Object"), (0, .class_ 3)] 3

/-- java/lang/Cloneable -/
def k15 : Class := { plain "java/lang/Cloneable" (some 0) with
  accessFlags := 1537
  interfaces := #[]
  cf := some (fileOf pool15 2 #[] #[] 1537 4 #[] #[])
  fields := #[]
  methods := #[]
  instanceTypes := #[]
  staticTypes := #[]
  resolved := Array.replicate 8 none
  statics := none }

/-- the primitive byte -/
def k16 : Class := { plain "byte" none with kind := .primitive 'B', accessFlags := 0x411 }
/-- [B -/
def k17 : Class := { plain "[B" (some 0) with kind := .array 16 .byte, interfaces := #[15, 5], accessFlags := 1041 }

/-- the primitive char -/
def k18 : Class := { plain "char" none with kind := .primitive 'C', accessFlags := 0x411 }
/-- [C -/
def k19 : Class := { plain "[C" (some 0) with kind := .array 18 .char, interfaces := #[15, 5], accessFlags := 1041 }

/-- the primitive int -/
def k20 : Class := { plain "int" none with kind := .primitive 'I', accessFlags := 0x411 }
/-- [I -/
def k21 : Class := { plain "[I" (some 0) with kind := .array 20 .int, interfaces := #[15, 5], accessFlags := 1041 }

def heap : Heap := #[{ cls := 4, slots := #[.ref 3], vm := .statics 4 },
  { cls := 10, slots := #[.long 0, .int 1, .null, .int 0, .null, .int 0, .int 0], vm := .statics 10 },
  { cls := 13, slots := #[.null, .null, .null], vm := .statics 13 },
  { cls := 4, slots := #[.null], vm := .none }]
def classes : Array Class := #[k0, k1, k2, k3, k4, k5, k6, k7, k8, k9, k10, k11, k12, k13, k14, k15, k16, k17, k18, k19, k20, k21]
def interned : List (Array UInt16 × Addr) := []
def slotsUsed : Nat := 12
def theMethod : MethodId := ⟨1, 2⟩
def args0 : Array Value := #[.int 5, .int 6, .int 2]
def aboutOver (below : List Frame) : State where
  vm := { classes := classes, interned := interned.toArray }
  heap := heap
  slotsUsed := slotsUsed
  threads := #[{ frames := .invoking theMethod args0 :: below }]
def below0 : List Frame := [.native { method := ⟨0, 0⟩, args := #[] }]
def about1 : State := aboutOver below0
def p0 : Program := .bare "" "" ""
def e0 : Env := launch0.env 0 0 0
theorem w_frames : about1.frames = Frame.invoking theMethod args0 :: below0 := rfl
set_option maxRecDepth 65536 in
theorem w_args : argsFit about1.vm theMethod args0 = true := by decide +kernel
set_option maxRecDepth 65536 in
theorem w_heap : heapFits about1 = true := by decide +kernel
set_option maxRecDepth 65536 in
theorem w_runnable : about1.curStatus? = some .runnable := by decide +kernel
set_option maxRecDepth 65536 in
theorem w_alone : about1.alone = true := by decide +kernel
set_option maxRecDepth 65536 in
theorem w_named : about1.methodNamed? x = some theMethod := by decide +kernel
set_option maxRecDepth 65536 in
theorem w_hears : about1.hears theMethod below0 = true := by decide +kernel
set_option maxRecDepth 65536 in
theorem w_ripe : about1.ripe theMethod args0 below0 = true := by decide +kernel
theorem w_running : about1.status = .running := rfl
set_option maxRecDepth 65536 in
theorem w_room : about1.hasRoom e0.platform room_1 = true :=
  launch0.hasRoom_least _ room_1 (by decide +kernel) (by decide +kernel) (by decide +kernel) (by decide +kernel) (by decide +kernel) (by decide +kernel)
theorem allAtoms_all (ts : List Jvm.Cond) (a : Array Jvm.Value) (st : Jvm.State) : (allAtoms ts).before a st = ts.all (fun c => c.before a st) := by
  induction ts with
  | nil => rfl
  | cons c t ih =>
    show (Jvm.Cond.and c (allAtoms t)).before a st = _
    rw [Jvm.Cond.before_and, ih, List.all_cons]
def words1 : List Jvm.Cond := Jvm.Cond.code x code maxLocals ret :: tables_1
/-- a 'code' word, met by the world's own term for the bytes: nothing is compared byte by byte -/
theorem code_word {y : MethodName} {bytes : ByteArray} {mx : Nat} {rt : Option FieldType} {a : Array Value} {s : State} {m : MethodId} {meth : Method} {c : Code} (h1 : s.methodNamed? y = some m) (h2 : s.vm.method? m = some meth) (h3 : meth.code = some c) (h4 : c.code = bytes)
    (h5 : (c.maxLocals == mx && c.exceptionTable.isEmpty && decide (c.maxStack ≤ mostOperands) && decide (meth.sig.returnType = rt) && !meth.locks && decide (parseMethodDescriptor y.desc = some meth.sig)) = true) : (Jvm.Cond.code y bytes mx rt).before a s = true := by
  simp only [Bool.and_eq_true, beq_iff_eq, Bool.not_eq_true', decide_eq_true_eq] at h5
  obtain ⟨⟨⟨⟨⟨g1, g2⟩, g3⟩, g4⟩, g5⟩, g6⟩ := h5
  simp [Cond.before, Cond.holds, Cond.value, h1, h2, h3, h4, g1, g2, g3, g4, g5, g6]
def isCode : Jvm.Cond → Bool
  | .code _ _ _ _ => true
  | _ => false
theorem all_split {L : List Jvm.Cond} {P : Jvm.Cond → Bool} (h1 : L.all (fun c => isCode c || P c) = true) (h2 : ∀ c ∈ L.filter isCode, P c = true) : L.all P = true := by
  refine List.all_eq_true.mpr fun c hc => ?_
  have h := List.all_eq_true.mp h1 c hc
  rcases Bool.eq_false_or_eq_true (isCode c) with hi | hi
  · exact h2 c (List.mem_filter.mpr ⟨hc, hi⟩)
  · simpa [hi] using h
set_option maxRecDepth 65536 in
theorem w_c0 : (Jvm.Cond.code x code maxLocals ret).before args0 about1 = true := code_word (m := ⟨1, 2⟩) (meth := k1m2) (c := k1c2) (by decide +kernel) rfl rfl rfl (by decide +kernel)
set_option maxRecDepth 65536 in
theorem w_c1 : (Jvm.Cond.code ({ cls := "com/example/drover/drover/operator/passes/FoundMissingPinLaw", name := "drawn", desc := "(III)Ljava/lang/String;" } : Jvm.MethodName) method_2_code (8 : Nat) (Option.some (Jvm.ClassFile.FieldType.object "java/lang/String"))).before args0 about1 = true := code_word (m := ⟨1, 1⟩) (meth := k1m1) (c := k1c1) (by decide +kernel) rfl rfl rfl (by decide +kernel)
set_option maxRecDepth 65536 in
theorem w_c2 : (Jvm.Cond.code ({ cls := "com/example/drover/drover/operator/passes/Found", name := "missing", desc := "(Ljava/lang/String;)Lcom/example/drover/drover/operator/passes/Found;" } : Jvm.MethodName) prog_43_method_3_code (1 : Nat) (Option.some (Jvm.ClassFile.FieldType.object "com/example/drover/drover/operator/passes/Found"))).before args0 about1 = true := code_word (m := ⟨3, 1⟩) (meth := k3m1) (c := k3c1) (by decide +kernel) rfl rfl rfl (by decide +kernel)
set_option maxRecDepth 65536 in
theorem w_c3 : (Jvm.Cond.code ({ cls := "java/util/Optional", name := "empty", desc := "()Ljava/util/Optional;" } : Jvm.MethodName) jdk_32_method_1_code (1 : Nat) (Option.some (Jvm.ClassFile.FieldType.object "java/util/Optional"))).before args0 about1 = true := code_word (m := ⟨4, 0⟩) (meth := k4m0) (c := k4c0) (by decide +kernel) rfl rfl rfl (by decide +kernel)
set_option maxRecDepth 65536 in
theorem w_c4 : (Jvm.Cond.code ({ cls := "com/example/drover/drover/operator/passes/Found", name := "<init>", desc := "(Ljava/util/Optional;Ljava/lang/String;)V" } : Jvm.MethodName) prog_43_method_1_code (3 : Nat) (Option.none : Option Jvm.ClassFile.FieldType)).before args0 about1 = true := code_word (m := ⟨3, 0⟩) (meth := k3m0) (c := k3c0) (by decide +kernel) rfl rfl rfl (by decide +kernel)
set_option maxRecDepth 65536 in
theorem w_c5 : (Jvm.Cond.code ({ cls := "java/lang/Record", name := "<init>", desc := "()V" } : Jvm.MethodName) jdk_30_method_1_code (1 : Nat) (Option.none : Option Jvm.ClassFile.FieldType)).before args0 about1 = true := code_word (m := ⟨2, 0⟩) (meth := k2m0) (c := k2c0) (by decide +kernel) rfl rfl rfl (by decide +kernel)
set_option maxRecDepth 65536 in
theorem w_c6 : (Jvm.Cond.code ({ cls := "java/lang/Object", name := "<init>", desc := "()V" } : Jvm.MethodName) object_method_1_code (1 : Nat) (Option.none : Option Jvm.ClassFile.FieldType)).before args0 about1 = true := code_word (m := ⟨0, 0⟩) (meth := k0m0) (c := k0c0) (by decide +kernel) rfl rfl rfl (by decide +kernel)
set_option maxRecDepth 65536 in
theorem w_c7 : (Jvm.Cond.code ({ cls := "com/example/drover/drover/operator/passes/Found", name := "value", desc := "()Ljava/util/Optional;" } : Jvm.MethodName) prog_43_method_8_code (1 : Nat) (Option.some (Jvm.ClassFile.FieldType.object "java/util/Optional"))).before args0 about1 = true := code_word (m := ⟨3, 2⟩) (meth := k3m2) (c := k3c2) (by decide +kernel) rfl rfl rfl (by decide +kernel)
set_option maxRecDepth 65536 in
theorem w_c8 : (Jvm.Cond.code ({ cls := "java/util/Optional", name := "isPresent", desc := "()Z" } : Jvm.MethodName) jdk_32_method_6_code (1 : Nat) (Option.some Jvm.ClassFile.FieldType.boolean)).before args0 about1 = true := code_word (m := ⟨4, 1⟩) (meth := k4m1) (c := k4c1) (by decide +kernel) rfl rfl rfl (by decide +kernel)
set_option maxRecDepth 65536 in
theorem w_c9 : (Jvm.Cond.code ({ cls := "com/example/drover/drover/operator/passes/Found", name := "problem", desc := "()Ljava/lang/String;" } : Jvm.MethodName) prog_43_method_9_code (1 : Nat) (Option.some (Jvm.ClassFile.FieldType.object "java/lang/String"))).before args0 about1 = true := code_word (m := ⟨3, 3⟩) (meth := k3m3) (c := k3c3) (by decide +kernel) rfl rfl rfl (by decide +kernel)
set_option maxRecDepth 65536 in
theorem w_c10 : (Jvm.Cond.code ({ cls := "java/lang/String", name := "<init>", desc := "([C)V" } : Jvm.MethodName) jdk_42_method_3_code (2 : Nat) (Option.none : Option Jvm.ClassFile.FieldType)).before args0 about1 = true := code_word (m := ⟨10, 1⟩) (meth := k10m1) (c := k10c1) (by decide +kernel) rfl rfl rfl (by decide +kernel)
set_option maxRecDepth 65536 in
theorem w_c11 : (Jvm.Cond.code ({ cls := "java/lang/String", name := "<init>", desc := "([CIILjava/lang/Void;)V" } : Jvm.MethodName) jdk_42_method_149_code (6 : Nat) (Option.none : Option Jvm.ClassFile.FieldType)).before args0 about1 = true := code_word (m := ⟨10, 3⟩) (meth := k10m3) (c := k10c3) (by decide +kernel) rfl rfl rfl (by decide +kernel)
set_option maxRecDepth 65536 in
theorem w_c12 : (Jvm.Cond.code ({ cls := "java/lang/String", name := "equals", desc := "(Ljava/lang/Object;)Z" } : Jvm.MethodName) jdk_42_method_66_code (3 : Nat) (Option.some Jvm.ClassFile.FieldType.boolean)).before args0 about1 = true := code_word (m := ⟨10, 2⟩) (meth := k10m2) (c := k10c2) (by decide +kernel) rfl rfl rfl (by decide +kernel)
set_option maxRecDepth 65536 in
theorem w_c13 : (Jvm.Cond.code ({ cls := "java/lang/StringUTF16", name := "compress", desc := "([CII)[B" } : Jvm.MethodName) jdk_52_method_16_code (6 : Nat) (Option.some (Jvm.ClassFile.FieldType.array Jvm.ClassFile.FieldType.byte))).before args0 about1 = true := code_word (m := ⟨11, 2⟩) (meth := k11m2) (c := k11c2) (by decide +kernel) rfl rfl rfl (by decide +kernel)
set_option maxRecDepth 65536 in
theorem w_c14 : (Jvm.Cond.code ({ cls := "java/lang/StringUTF16", name := "compress", desc := "([CI[BII)I" } : Jvm.MethodName) jdk_52_method_21_code (7 : Nat) (Option.some Jvm.ClassFile.FieldType.int)).before args0 about1 = true := code_word (m := ⟨11, 3⟩) (meth := k11m3) (c := k11c3) (by decide +kernel) rfl rfl rfl (by decide +kernel)
set_option maxRecDepth 65536 in
theorem w_c15 : (Jvm.Cond.code ({ cls := "java/lang/StringUTF16", name := "coderFromArrayLen", desc := "([BI)B" } : Jvm.MethodName) jdk_52_method_15_code (2 : Nat) (Option.some Jvm.ClassFile.FieldType.byte)).before args0 about1 = true := code_word (m := ⟨11, 1⟩) (meth := k11m1) (c := k11c1) (by decide +kernel) rfl rfl rfl (by decide +kernel)
def codes1 : List Jvm.Cond := [Jvm.Cond.code x code maxLocals ret, Jvm.Cond.code ({ cls := "com/example/drover/drover/operator/passes/FoundMissingPinLaw", name := "drawn", desc := "(III)Ljava/lang/String;" } : Jvm.MethodName) method_2_code (8 : Nat) (Option.some (Jvm.ClassFile.FieldType.object "java/lang/String")), Jvm.Cond.code ({ cls := "com/example/drover/drover/operator/passes/Found", name := "missing", desc := "(Ljava/lang/String;)Lcom/example/drover/drover/operator/passes/Found;" } : Jvm.MethodName) prog_43_method_3_code (1 : Nat) (Option.some (Jvm.ClassFile.FieldType.object "com/example/drover/drover/operator/passes/Found")), Jvm.Cond.code ({ cls := "java/util/Optional", name := "empty", desc := "()Ljava/util/Optional;" } : Jvm.MethodName) jdk_32_method_1_code (1 : Nat) (Option.some (Jvm.ClassFile.FieldType.object "java/util/Optional")), Jvm.Cond.code ({ cls := "com/example/drover/drover/operator/passes/Found", name := "<init>", desc := "(Ljava/util/Optional;Ljava/lang/String;)V" } : Jvm.MethodName) prog_43_method_1_code (3 : Nat) (Option.none : Option Jvm.ClassFile.FieldType), Jvm.Cond.code ({ cls := "java/lang/Record", name := "<init>", desc := "()V" } : Jvm.MethodName) jdk_30_method_1_code (1 : Nat) (Option.none : Option Jvm.ClassFile.FieldType), Jvm.Cond.code ({ cls := "java/lang/Object", name := "<init>", desc := "()V" } : Jvm.MethodName) object_method_1_code (1 : Nat) (Option.none : Option Jvm.ClassFile.FieldType), Jvm.Cond.code ({ cls := "com/example/drover/drover/operator/passes/Found", name := "value", desc := "()Ljava/util/Optional;" } : Jvm.MethodName) prog_43_method_8_code (1 : Nat) (Option.some (Jvm.ClassFile.FieldType.object "java/util/Optional")), Jvm.Cond.code ({ cls := "java/util/Optional", name := "isPresent", desc := "()Z" } : Jvm.MethodName) jdk_32_method_6_code (1 : Nat) (Option.some Jvm.ClassFile.FieldType.boolean), Jvm.Cond.code ({ cls := "com/example/drover/drover/operator/passes/Found", name := "problem", desc := "()Ljava/lang/String;" } : Jvm.MethodName) prog_43_method_9_code (1 : Nat) (Option.some (Jvm.ClassFile.FieldType.object "java/lang/String")), Jvm.Cond.code ({ cls := "java/lang/String", name := "<init>", desc := "([C)V" } : Jvm.MethodName) jdk_42_method_3_code (2 : Nat) (Option.none : Option Jvm.ClassFile.FieldType), Jvm.Cond.code ({ cls := "java/lang/String", name := "<init>", desc := "([CIILjava/lang/Void;)V" } : Jvm.MethodName) jdk_42_method_149_code (6 : Nat) (Option.none : Option Jvm.ClassFile.FieldType), Jvm.Cond.code ({ cls := "java/lang/String", name := "equals", desc := "(Ljava/lang/Object;)Z" } : Jvm.MethodName) jdk_42_method_66_code (3 : Nat) (Option.some Jvm.ClassFile.FieldType.boolean), Jvm.Cond.code ({ cls := "java/lang/StringUTF16", name := "compress", desc := "([CII)[B" } : Jvm.MethodName) jdk_52_method_16_code (6 : Nat) (Option.some (Jvm.ClassFile.FieldType.array Jvm.ClassFile.FieldType.byte)), Jvm.Cond.code ({ cls := "java/lang/StringUTF16", name := "compress", desc := "([CI[BII)I" } : Jvm.MethodName) jdk_52_method_21_code (7 : Nat) (Option.some Jvm.ClassFile.FieldType.int), Jvm.Cond.code ({ cls := "java/lang/StringUTF16", name := "coderFromArrayLen", desc := "([BI)B" } : Jvm.MethodName) jdk_52_method_15_code (2 : Nat) (Option.some Jvm.ClassFile.FieldType.byte)]
set_option maxRecDepth 65536 in
theorem codes_eq : words1.filter isCode = codes1 := rfl
theorem w_codes : ∀ c ∈ words1.filter isCode, c.before args0 about1 = true := by
  rw [codes_eq]
  intro c hc
  simp only [codes1, List.mem_cons, List.not_mem_nil, or_false] at hc
  rcases hc with rfl | rfl | rfl | rfl | rfl | rfl | rfl | rfl | rfl | rfl | rfl | rfl | rfl | rfl | rfl | rfl
  · exact w_c0
  · exact w_c1
  · exact w_c2
  · exact w_c3
  · exact w_c4
  · exact w_c5
  · exact w_c6
  · exact w_c7
  · exact w_c8
  · exact w_c9
  · exact w_c10
  · exact w_c11
  · exact w_c12
  · exact w_c13
  · exact w_c14
  · exact w_c15
set_option maxRecDepth 65536 in
theorem w_t1 : (words1.take 24).all (fun c => isCode c || c.before args0 about1) = true := by decide +kernel
set_option maxRecDepth 65536 in
theorem w_t2 : ((words1.drop 24).take 24).all (fun c => isCode c || c.before args0 about1) = true := by decide +kernel
set_option maxRecDepth 65536 in
theorem w_t3 : (((words1.drop 24).drop 24).take 24).all (fun c => isCode c || c.before args0 about1) = true := by decide +kernel
set_option maxRecDepth 65536 in
theorem w_t4 : (((words1.drop 24).drop 24).drop 24).all (fun c => isCode c || c.before args0 about1) = true := by decide +kernel
theorem w_tables : (allAtoms (Jvm.Cond.code x code maxLocals ret :: tables_1)).before args0 about1 = true := by
  rw [allAtoms_all]
  show words1.all (fun c => c.before args0 about1) = true
  refine all_split ?_ w_codes
  rw [← List.take_append_drop 24 words1, List.all_append, w_t1, ← List.take_append_drop 24 (words1.drop 24), List.all_append, w_t2, ← List.take_append_drop 24 ((words1.drop 24).drop 24), List.all_append, w_t3, w_t4]
  rfl
set_option maxRecDepth 65536 in
theorem w_rest : rest_1_c.before args0 about1 = true := by decide +kernel
set_option maxRecDepth 65536 in
theorem w_case : (Jvm.Cond.and given_1 narrow_1).before args0 about1 = true := by decide +kernel
set_option maxRecDepth 65536 in
theorem w_consts : constsHeld consts_1 about1 := Jvm.Lit.constsHeldB_iff.mp (by decide +kernel)
theorem w_applies : (headSpec (Jvm.Cond.code x code maxLocals ret :: tables_1) room_1).applies x e0.platform about1 = true :=
  (Spec.applies_iff w_frames).mpr ⟨w_running, w_runnable, w_alone, w_named, w_hears, w_ripe, w_room, w_tables⟩
theorem atStart : AtStart classFile x code maxLocals ret World_1 tables_1 room_1 Calls_1 rest_1 Pre_1 launch0 p0 e0 about1 theMethod args0 below0 :=
  ⟨lists_1, trivial, launch0.admits_env _ _ _, launch0.least_env, fairChoices_fair.cas, fairChoices_fair.clock, w_frames, w_args, w_heap, w_applies, ⟨w_consts, trivial⟩, w_rest, w_case⟩
end start1
theorem witness_1 : WitnessClaimed_1 := ⟨start1.p0, start1.e0, start1.about1, start1.theMethod, start1.args0, start1.below0, start1.atStart⟩
end Jvm.Pilot.@@N@@
