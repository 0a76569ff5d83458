import JvmDerived
import JvmDerived.Pilot.@@N@@Statement
import JvmDerived.Pilot.@@N@@Code
set_option linter.unusedVariables false
set_option linter.unusedSimpArgs false
namespace Jvm.RoadKit
open Sem ClassFile Op Lib Jvm.Stand Jvm.Free Jvm.LawKit
section New
variable {p : Program} {l : Launch} {e : Env} {R : Room} {s : State} {m : MethodId} {args : Array Value} {below : List Frame} {meth : Method} {c : Code} {T : State} {locs : List Loc} {cells slots : Nat}
theorem retI (X : Stand p l e R s m args below meth c T locs cells slots) (hx : p.tables.exec = Jvm.exec) {pc : Nat} {Ls : Array Slot} {z : Int32} {rest : List Value} (hret : meth.sig.returnType = some .int) (hd : decode c.code pc = .ok (.ireturn, 1)) {fs : List Frame}
    (hl : ∀ (f : JFrame) (acts : List Action), f.method = m → f.locked = none → f.entered = [] → (doReturn e (T.setTop f) acts (some (.int z))).1 = T.setFrames fs) : Steps p.tables e below (T.setTop (mkF m pc Ls (.int z :: rest))) (T.setFrames fs) := by
  have hm' : T.vm.method? m = some meth := X.method'
  have hn : narrow .int (.int z) = .int z := rfl
  show Steps p.tables e below (T.setTop { method := m, pc := pc, locals := Ls, stack := _ :: rest, locked := none }) _
  jvm_step X.here [X.here.top, hx, hd, hm', hret, hn]
  first | (intro acts; rw [hl _ acts rfl rfl rfl]) | rw [hl _ _ rfl rfl rfl]
  exact Steps.refl _
end New
end Jvm.RoadKit

namespace Jvm.Pilot.@@N@@
open Jvm Jvm.ClassFile Sem Op Lib Jvm.Free Jvm.Stand Jvm.LawKit Jvm.RoadKit Bundle Jvm.Pilot.@@N@@.Jvm.D
theorem own_le {Z : State} {n0 : Nat} {h : Heap} (O : Old Z n0 h) : n0 ≤ h.size := O.1 ▸ O.2.1
theorem own_narb {c : Prop} [Decidable c] : nar .boolean (if c then (1 : Int32) else 0) = if c then (1 : Int32) else 0 := by split <;> rfl
theorem own_narb' {c : Prop} [Decidable c] : nar .boolean (if c then (0 : Int32) else 1) = if c then (0 : Int32) else 1 := by split <;> rfl
theorem own_eqc {t : Term} {k : Int32} {a0 : Array Value} {Z : State} (h : (Jvm.Cond.eq t (.int k)).value a0 Z none Z [] = some true) : t.eval a0 Z none [] Z = some (.int k) := by
  obtain ⟨x, y, e1, e2, k1, -⟩ := cmp_v (Or.inl h)
  obtain rfl : Value.int k = y := Option.some.inj ((Term.int_eval k).symm.trans e2)
  cases x <;> simp [Kin, Value.isRef] at k1
  simp [Jvm.Cond.value, e1, Term.int_eval] at h
  rw [e1, h]

theorem own_nb (x : Int32) : nar .byte (x.toInt8.toInt32) = x.toInt8.toInt32 := by simp [nar]

theorem own_i2c_id (z : Int32) (h0 : 0 ≤ z.toInt) (h1 : z.toInt < 65536) : z.toUInt32.toUInt16.toUInt32.toInt32 = z := by
  apply Int32.toInt_inj.mp
  have := c_i2c z
  omega
theorem own_and255 (x : Int32) : 0 ≤ (x &&& (255 : Int32)).toInt ∧ (x &&& (255 : Int32)).toInt ≤ 255 := by
  have := c_and x (255 : Int32) (by decide)
  have e : (255 : Int32).toInt = 255 := rfl
  omega
theorem own_c255 (x : Int32) : nar .char ((x &&& (255 : Int32)).toUInt32.toUInt16.toUInt32.toInt32) = (x &&& (255 : Int32)).toUInt32.toUInt16.toUInt32.toInt32 ∧ ¬ (255 : Int32) < (x &&& (255 : Int32)).toUInt32.toUInt16.toUInt32.toInt32 := by
  have h := own_and255 x
  have e : (255 : Int32).toInt = 255 := rfl
  rw [own_i2c_id _ h.1 (by omega)]
  refine ⟨own_i2c_id _ h.1 (by omega), ?_⟩
  rw [Int32.lt_iff_toInt_lt]
  omega

theorem own_tri2 (x y : Int32) : (x < y ∧ ¬ y < x ∧ ¬ x = y) ∨ (¬ x < y ∧ y < x ∧ ¬ x = y) ∨ (¬ x < y ∧ ¬ y < x ∧ x = y) := by
  simp only [Int32.lt_iff_toInt_lt, ← Int32.toInt_inj]
  omega
theorem d_cmpa1_0 : decode jdk_52_method_21_code 0 = .ok (.iconst 0, 1) := by decide +kernel
theorem d_cmpa1_1 : decode jdk_52_method_21_code 1 = .ok (.istore 5, 2) := by decide +kernel
theorem d_cmpa1_3 : decode jdk_52_method_21_code 3 = .ok (.iload 5, 2) := by decide +kernel
theorem d_cmpa1_5 : decode jdk_52_method_21_code 5 = .ok (.iload 4, 2) := by decide +kernel
theorem d_cmpa1_7 : decode jdk_52_method_21_code 7 = .ok (.if_icmp .ge 37, 3) := by decide +kernel
theorem d_cmpa1_10 : decode jdk_52_method_21_code 10 = .ok (.aload_n 0, 1) := by decide +kernel
theorem d_cmpa1_11 : decode jdk_52_method_21_code 11 = .ok (.iload_n 1, 1) := by decide +kernel
theorem d_cmpa1_12 : decode jdk_52_method_21_code 12 = .ok (.caload, 1) := by decide +kernel
theorem d_cmpa1_13 : decode jdk_52_method_21_code 13 = .ok (.istore 6, 2) := by decide +kernel
theorem d_cmpa1_15 : decode jdk_52_method_21_code 15 = .ok (.iload 6, 2) := by decide +kernel
theorem d_cmpa1_17 : decode jdk_52_method_21_code 17 = .ok (.sipush 255, 3) := by decide +kernel
theorem d_cmpa1_20 : decode jdk_52_method_21_code 20 = .ok (.if_icmp .le 6, 3) := by decide +kernel
theorem d_cmpa1_26 : decode jdk_52_method_21_code 26 = .ok (.aload_n 2, 1) := by decide +kernel
theorem d_cmpa1_27 : decode jdk_52_method_21_code 27 = .ok (.iload_n 3, 1) := by decide +kernel
theorem d_cmpa1_28 : decode jdk_52_method_21_code 28 = .ok (.iload 6, 2) := by decide +kernel
theorem d_cmpa1_30 : decode jdk_52_method_21_code 30 = .ok (.i2b, 1) := by decide +kernel
theorem d_cmpa1_31 : decode jdk_52_method_21_code 31 = .ok (.bastore, 1) := by decide +kernel
theorem d_cmpa1_32 : decode jdk_52_method_21_code 32 = .ok (.iinc 1 1, 3) := by decide +kernel
theorem d_cmpa1_35 : decode jdk_52_method_21_code 35 = .ok (.iinc 3 1, 3) := by decide +kernel
theorem d_cmpa1_38 : decode jdk_52_method_21_code 38 = .ok (.iinc 5 1, 3) := by decide +kernel
theorem d_cmpa1_41 : decode jdk_52_method_21_code 41 = .ok (.goto (-38), 3) := by decide +kernel
theorem d_cmpa1_44 : decode jdk_52_method_21_code 44 = .ok (.iload 4, 2) := by decide +kernel
theorem d_cmpa1_46 : decode jdk_52_method_21_code 46 = .ok (.ireturn, 1) := by decide +kernel
theorem pn_cmpa1 : plainName "java/lang/StringUTF16" = true := by first | (simp [plainName, overriddenIn]; done) | decide +kernel
theorem ef_cmpa1 (m : MethodId) (a1 : Addr) (a3 : Addr) : entryFrame m #[(.ref a1), (.int (0 : Int32)), (.ref a3), (.int (0 : Int32)), (.int (1 : Int32))] 7 = (mkF m 0 #[.val (.ref a1), .val (.int (0 : Int32)), .val (.ref a3), .val (.int (0 : Int32)), .val (.int (1 : Int32)), .unset, .unset] []) := by first | (simp [entryFrame, mkF, argsToLocals, Value.category]; done) | rfl
def Q_cmpa1 (Z : State) (a1 : Addr) (a3 : Addr) (kC kB : ClassId) (c0 : Int32) (h0 : Heap) (n0 : Nat) (v : Option Value) (h : Heap) (L : List Loc) : Prop := v = some (.int (1 : Int32)) ∧ Fr n0 L ∧ Keep h0 h [a3] ∧ Arv Z h a3 kB .byte (1 : Int32) [(.int (c0).toInt8.toInt32)] (.int (0 : Int32))
set_option maxRecDepth 65536 in
set_option maxHeartbeats 40000000 in
theorem rm_cmpa1 (l : Launch) (Z : State) (a0 : Array Value) (hw : ∀ d ∈ tables_1, d.before a0 Z = true) (ws : List Jvm.Cond) (a1 : Addr) (a3 : Addr) (kC kB : ClassId) (c0 : Int32) (h0 : Heap) (n0 : Nat) (O0 : Old Z n0 h0) (VC : Arv Z h0 a1 kC .char (1 : Int32) [(.int c0)] (.int (0 : Int32))) (VB : Arv Z h0 a3 kB .byte (1 : Int32) [(.int (0 : Int32))] (.int (0 : Int32))) (g3 : n0 ≤ a3) (ne13 : a1 ≠ a3) (hc0 : ¬ (255 : Int32) < c0) :
    MetFree l (⟨"java/lang/StringUTF16", "compress", "([CI[BII)I"⟩ : MethodName) (head1 (Jvm.Cond.code (⟨"java/lang/StringUTF16", "compress", "([CI[BII)I"⟩ : MethodName) jdk_52_method_21_code 7 (some .int) :: ws) ({ frames := 0, cells := 0, slots := 0, locals := 0 } : Room)) (fun a U => a = #[(.ref a1), (.int (0 : Int32)), (.ref a3), (.int (0 : Int32)), (.int (1 : Int32))] ∧ Z.Warmed39 U.vm ∧ U.heap = h0) (fun _ _ _ _ _ => True) (fun _ U o U' => ∃ v L, o = .returned v ∧ Q_cmpa1 Z a1 a3 kC kB c0 h0 n0 v U'.heap L ∧ FrameEnd U o U' L ({ frames := 0, cells := 0, slots := 0, locals := 0 } : Room).cells ({ frames := 0, cells := 0, slots := 0, locals := 0 } : Room).slots) := by
  refine MetFree.of_bodySF (plainFor_of_name pn_cmpa1) hisR ?_
  intro p e s m args below meth c s₁ Bd hml0 hP hK
  obtain ⟨rfl, hZ, hh⟩ := hP
  have hx := Bd.exec
  have hby := Bd.bytes
  have hml : c.maxLocals = 7 := hml0
  have hown : s.vm.findClass "java/lang/StringUTF16" = some m.cls := findClass_of_methodNamed Bd.named
  have hnm := (name_of_methodNamed Bd.named Bd.method).1
  have X0 : Stand p l e ({ frames := 0, cells := 0, slots := 0, locals := 0 } : Room) s m #[(.ref a1), (.int (0 : Int32)), (.ref a3), (.int (0 : Int32)), (.int (1 : Int32))] below meth c s₁ [] 0 0 := Stand.of_body Bd
  have e0 : s₁.heap = h0 := by rw [← hh, Bd.state]; rfl
  have N0 := Fr.nil n0
  have pre0 : ∀ t, Steps p.tables e below (s₁.setTop (mkF m 0 #[.val (.ref a1), .val (.int (0 : Int32)), .val (.ref a3), .val (.int (0 : Int32)), .val (.int (1 : Int32)), .unset, .unset] [])) t → Steps p.tables e below (s₁.setTop (entryFrame m #[(.ref a1), (.int (0 : Int32)), (.ref a3), (.int (0 : Int32)), (.int (1 : Int32))] 7)) t := fun t k => castTop (ef_cmpa1 m a1 a3) k
  have pre_1 : ∀ t, Steps p.tables e below (s₁.setTop (mkF m 12 #[.val (.ref a1), .val (.int (0 : Int32)), .val (.ref a3), .val (.int (0 : Int32)), .val (.int (1 : Int32)), .val (.int (0 : Int32)), .unset] [(.int (0 : Int32)), (.ref a1)])) t → Steps p.tables e below (s₁.setTop (entryFrame m #[(.ref a1), (.int (0 : Int32)), (.ref a3), (.int (0 : Int32)), (.int (1 : Int32))] 7)) t := by
    intro t k
    refine pre0 t ?_
    show Steps p.tables e below (s₁.setTop (mkF m 0 #[.val (.ref a1), .val (.int (0 : Int32)), .val (.ref a3), .val (.int (0 : Int32)), .val (.int (1 : Int32)), .unset, .unset] [])) _
    refine XS.iconst X0.here hx rfl (hb hby d_cmpa1_0) ?_
    show Steps p.tables e below (s₁.setTop (mkF m 1 #[.val (.ref a1), .val (.int (0 : Int32)), .val (.ref a3), .val (.int (0 : Int32)), .val (.int (1 : Int32)), .unset, .unset] [(.int (0 : Int32))])) _
    refine XS.istore X0.here hx rfl (hb hby d_cmpa1_1) rfl (l' := #[.val (.ref a1), .val (.int (0 : Int32)), .val (.ref a3), .val (.int (0 : Int32)), .val (.int (1 : Int32)), .val (.int (0 : Int32)), .unset]) rfl ?_
    show Steps p.tables e below (s₁.setTop (mkF m 3 #[.val (.ref a1), .val (.int (0 : Int32)), .val (.ref a3), .val (.int (0 : Int32)), .val (.int (1 : Int32)), .val (.int (0 : Int32)), .unset] [])) _
    refine XS.iload X0.here hx rfl (hb hby d_cmpa1_3) rfl ?_
    show Steps p.tables e below (s₁.setTop (mkF m 5 #[.val (.ref a1), .val (.int (0 : Int32)), .val (.ref a3), .val (.int (0 : Int32)), .val (.int (1 : Int32)), .val (.int (0 : Int32)), .unset] [(.int (0 : Int32))])) _
    refine XS.iload X0.here hx rfl (hb hby d_cmpa1_5) rfl ?_
    show Steps p.tables e below (s₁.setTop (mkF m 7 #[.val (.ref a1), .val (.int (0 : Int32)), .val (.ref a3), .val (.int (0 : Int32)), .val (.int (1 : Int32)), .val (.int (0 : Int32)), .unset] [(.int (1 : Int32)), (.int (0 : Int32))])) _
    refine XS.icmpNo X0.here hx rfl (hb hby d_cmpa1_7) rfl (XT.ii_ge_f (by decide)) ?_
    show Steps p.tables e below (s₁.setTop (mkF m 10 #[.val (.ref a1), .val (.int (0 : Int32)), .val (.ref a3), .val (.int (0 : Int32)), .val (.int (1 : Int32)), .val (.int (0 : Int32)), .unset] [])) _
    refine XS.aloadN X0.here hx rfl (hb hby d_cmpa1_10) rfl rfl ?_
    show Steps p.tables e below (s₁.setTop (mkF m 11 #[.val (.ref a1), .val (.int (0 : Int32)), .val (.ref a3), .val (.int (0 : Int32)), .val (.int (1 : Int32)), .val (.int (0 : Int32)), .unset] [(.ref a1)])) _
    refine XS.iloadN X0.here hx rfl (hb hby d_cmpa1_11) rfl ?_
    show Steps p.tables e below (s₁.setTop (mkF m 12 #[.val (.ref a1), .val (.int (0 : Int32)), .val (.ref a3), .val (.int (0 : Int32)), .val (.int (1 : Int32)), .val (.int (0 : Int32)), .unset] [(.int (0 : Int32)), (.ref a1)])) _
    exact k
  obtain ⟨cl2, Ar2, -, S2, -, H2, -⟩ := id VC
  have hin2 : ¬ ((0 : Int32) < 0 ∨ cl2.slots.size ≤ ((0 : Int32)).toNatClampNeg) := inb_of S2 (by decide)
  have pre_3 : ∀ t, Steps p.tables e below (s₁.setTop (mkF m 31 #[.val (.ref a1), .val (.int (0 : Int32)), .val (.ref a3), .val (.int (0 : Int32)), .val (.int (1 : Int32)), .val (.int (0 : Int32)), .val (.int c0)] [(.int ((c0).toInt8.toInt32)), (.int (0 : Int32)), (.ref a3)])) t → Steps p.tables e below (s₁.setTop (entryFrame m #[(.ref a1), (.int (0 : Int32)), (.ref a3), (.int (0 : Int32)), (.int (1 : Int32))] 7)) t := by
    intro t k
    refine pre_1 t ?_
    show Steps p.tables e below (s₁.setTop (mkF m 12 #[.val (.ref a1), .val (.int (0 : Int32)), .val (.ref a3), .val (.int (0 : Int32)), .val (.int (1 : Int32)), .val (.int (0 : Int32)), .unset] [(.int (0 : Int32)), (.ref a1)])) _
    refine X0.caload hx (j := (0 : Int32)) (v := (.int c0)) (by rw [e0]; exact Ar2.1) (State.isArrayOf_alike hZ.alike Ar2.2.1) Ar2.2.2 hin2 (H2.at hin2 rfl) (g := (mkF m 12 #[.val (.ref a1), .val (.int (0 : Int32)), .val (.ref a3), .val (.int (0 : Int32)), .val (.int (1 : Int32)), .val (.int (0 : Int32)), .unset] [(.int (0 : Int32)), (.ref a1)])) rfl rfl (hb hby d_cmpa1_12) _ ?_
    show Steps p.tables e below (s₁.setTop (mkF m 13 #[.val (.ref a1), .val (.int (0 : Int32)), .val (.ref a3), .val (.int (0 : Int32)), .val (.int (1 : Int32)), .val (.int (0 : Int32)), .unset] [(.int c0)])) _
    refine XS.istore X0.here hx rfl (hb hby d_cmpa1_13) rfl (l' := #[.val (.ref a1), .val (.int (0 : Int32)), .val (.ref a3), .val (.int (0 : Int32)), .val (.int (1 : Int32)), .val (.int (0 : Int32)), .val (.int c0)]) rfl ?_
    show Steps p.tables e below (s₁.setTop (mkF m 15 #[.val (.ref a1), .val (.int (0 : Int32)), .val (.ref a3), .val (.int (0 : Int32)), .val (.int (1 : Int32)), .val (.int (0 : Int32)), .val (.int c0)] [])) _
    refine XS.iload X0.here hx rfl (hb hby d_cmpa1_15) rfl ?_
    show Steps p.tables e below (s₁.setTop (mkF m 17 #[.val (.ref a1), .val (.int (0 : Int32)), .val (.ref a3), .val (.int (0 : Int32)), .val (.int (1 : Int32)), .val (.int (0 : Int32)), .val (.int c0)] [(.int c0)])) _
    refine XS.sipush X0.here hx rfl (hb hby d_cmpa1_17) ?_
    show Steps p.tables e below (s₁.setTop (mkF m 20 #[.val (.ref a1), .val (.int (0 : Int32)), .val (.ref a3), .val (.int (0 : Int32)), .val (.int (1 : Int32)), .val (.int (0 : Int32)), .val (.int c0)] [(.int (255 : Int32)), (.int c0)])) _
    refine XS.icmpYes X0.here hx rfl (pc0 := 20) (pc' := 26) rfl (hb hby d_cmpa1_20) rfl (XT.ii_le_t hc0) (by decide) (by decide) ?_
    show Steps p.tables e below (s₁.setTop (mkF m 26 #[.val (.ref a1), .val (.int (0 : Int32)), .val (.ref a3), .val (.int (0 : Int32)), .val (.int (1 : Int32)), .val (.int (0 : Int32)), .val (.int c0)] [])) _
    refine XS.aloadN X0.here hx rfl (hb hby d_cmpa1_26) rfl rfl ?_
    show Steps p.tables e below (s₁.setTop (mkF m 27 #[.val (.ref a1), .val (.int (0 : Int32)), .val (.ref a3), .val (.int (0 : Int32)), .val (.int (1 : Int32)), .val (.int (0 : Int32)), .val (.int c0)] [(.ref a3)])) _
    refine XS.iloadN X0.here hx rfl (hb hby d_cmpa1_27) rfl ?_
    show Steps p.tables e below (s₁.setTop (mkF m 28 #[.val (.ref a1), .val (.int (0 : Int32)), .val (.ref a3), .val (.int (0 : Int32)), .val (.int (1 : Int32)), .val (.int (0 : Int32)), .val (.int c0)] [(.int (0 : Int32)), (.ref a3)])) _
    refine XS.iload X0.here hx rfl (hb hby d_cmpa1_28) rfl ?_
    show Steps p.tables e below (s₁.setTop (mkF m 30 #[.val (.ref a1), .val (.int (0 : Int32)), .val (.ref a3), .val (.int (0 : Int32)), .val (.int (1 : Int32)), .val (.int (0 : Int32)), .val (.int c0)] [(.int c0), (.int (0 : Int32)), (.ref a3)])) _
    refine XT.i2b X0.here hx rfl (hb hby d_cmpa1_30) rfl ?_
    show Steps p.tables e below (s₁.setTop (mkF m 31 #[.val (.ref a1), .val (.int (0 : Int32)), .val (.ref a3), .val (.int (0 : Int32)), .val (.int (1 : Int32)), .val (.int (0 : Int32)), .val (.int c0)] [(.int ((c0).toInt8.toInt32)), (.int (0 : Int32)), (.ref a3)])) _
    exact k
  obtain ⟨cl4, Ar4, q4, S4, M4, H4, G4⟩ := id VB
  obtain ⟨T4, h4, X4, e4, W4, st4⟩ := stB X0 hx hZ e0 Ar4 (j := (0 : Int32)) (inb_of S4 (by decide)) (g := (mkF m 31 #[.val (.ref a1), .val (.int (0 : Int32)), .val (.ref a3), .val (.int (0 : Int32)), .val (.int (1 : Int32)), .val (.int (0 : Int32)), .val (.int c0)] [(.int ((c0).toInt8.toInt32)), (.int (0 : Int32)), (.ref a3)])) rfl rfl (hb hby d_cmpa1_31)
  have N4 := Fr.snoc X4 N0 g3
  have O4 : Old Z n0 h4 := O0.wr W4 g3
  rw [(own_nb c0)] at W4
  have V4 : Arv Z h4 a3 kB .byte (1 : Int32) [(.int ((c0).toInt8.toInt32))] (.int (0 : Int32)) := Arv.set Ar4 q4 S4 M4 H4 G4 (by rw [← (own_nb c0)]; exact (fits_nar_byte _)) W4 0 rfl (Nat.le_of_ble_eq_true rfl)
  have pre_5 : ∀ t, Steps p.tables e below (T4.setTop (mkF m 32 #[.val (.ref a1), .val (.int (0 : Int32)), .val (.ref a3), .val (.int (0 : Int32)), .val (.int (1 : Int32)), .val (.int (0 : Int32)), .val (.int c0)] [])) t → Steps p.tables e below (s₁.setTop (entryFrame m #[(.ref a1), (.int (0 : Int32)), (.ref a3), (.int (0 : Int32)), (.int (1 : Int32))] 7)) t := fun t k => pre_3 t (st4 t k)
  have pre_6 : ∀ t, Steps p.tables e below (T4.setTop (mkF m 46 #[.val (.ref a1), .val (.int (1 : Int32)), .val (.ref a3), .val (.int (1 : Int32)), .val (.int (1 : Int32)), .val (.int (1 : Int32)), .val (.int c0)] [(.int (1 : Int32))])) t → Steps p.tables e below (s₁.setTop (entryFrame m #[(.ref a1), (.int (0 : Int32)), (.ref a3), (.int (0 : Int32)), (.int (1 : Int32))] 7)) t := by
    intro t k
    refine pre_5 t ?_
    show Steps p.tables e below (T4.setTop (mkF m 32 #[.val (.ref a1), .val (.int (0 : Int32)), .val (.ref a3), .val (.int (0 : Int32)), .val (.int (1 : Int32)), .val (.int (0 : Int32)), .val (.int c0)] [])) _
    refine XS.iinc X4.here hx rfl (hb hby d_cmpa1_32) rfl (l' := #[.val (.ref a1), .val (.int (1 : Int32)), .val (.ref a3), .val (.int (0 : Int32)), .val (.int (1 : Int32)), .val (.int (0 : Int32)), .val (.int c0)]) rfl ?_
    show Steps p.tables e below (T4.setTop (mkF m 35 #[.val (.ref a1), .val (.int (1 : Int32)), .val (.ref a3), .val (.int (0 : Int32)), .val (.int (1 : Int32)), .val (.int (0 : Int32)), .val (.int c0)] [])) _
    refine XS.iinc X4.here hx rfl (hb hby d_cmpa1_35) rfl (l' := #[.val (.ref a1), .val (.int (1 : Int32)), .val (.ref a3), .val (.int (1 : Int32)), .val (.int (1 : Int32)), .val (.int (0 : Int32)), .val (.int c0)]) rfl ?_
    show Steps p.tables e below (T4.setTop (mkF m 38 #[.val (.ref a1), .val (.int (1 : Int32)), .val (.ref a3), .val (.int (1 : Int32)), .val (.int (1 : Int32)), .val (.int (0 : Int32)), .val (.int c0)] [])) _
    refine XS.iinc X4.here hx rfl (hb hby d_cmpa1_38) rfl (l' := #[.val (.ref a1), .val (.int (1 : Int32)), .val (.ref a3), .val (.int (1 : Int32)), .val (.int (1 : Int32)), .val (.int (1 : Int32)), .val (.int c0)]) rfl ?_
    show Steps p.tables e below (T4.setTop (mkF m 41 #[.val (.ref a1), .val (.int (1 : Int32)), .val (.ref a3), .val (.int (1 : Int32)), .val (.int (1 : Int32)), .val (.int (1 : Int32)), .val (.int c0)] [])) _
    refine XS.goto X4.here hx rfl (pc0 := 41) (pc' := 3) rfl (hb hby d_cmpa1_41) (by decide) (by decide) ?_
    show Steps p.tables e below (T4.setTop (mkF m 3 #[.val (.ref a1), .val (.int (1 : Int32)), .val (.ref a3), .val (.int (1 : Int32)), .val (.int (1 : Int32)), .val (.int (1 : Int32)), .val (.int c0)] [])) _
    refine XS.iload X4.here hx rfl (hb hby d_cmpa1_3) rfl ?_
    show Steps p.tables e below (T4.setTop (mkF m 5 #[.val (.ref a1), .val (.int (1 : Int32)), .val (.ref a3), .val (.int (1 : Int32)), .val (.int (1 : Int32)), .val (.int (1 : Int32)), .val (.int c0)] [(.int (1 : Int32))])) _
    refine XS.iload X4.here hx rfl (hb hby d_cmpa1_5) rfl ?_
    show Steps p.tables e below (T4.setTop (mkF m 7 #[.val (.ref a1), .val (.int (1 : Int32)), .val (.ref a3), .val (.int (1 : Int32)), .val (.int (1 : Int32)), .val (.int (1 : Int32)), .val (.int c0)] [(.int (1 : Int32)), (.int (1 : Int32))])) _
    refine XS.icmpYes X4.here hx rfl (pc0 := 7) (pc' := 44) rfl (hb hby d_cmpa1_7) rfl (XT.ii_ge_t (by decide)) (by decide) (by decide) ?_
    show Steps p.tables e below (T4.setTop (mkF m 44 #[.val (.ref a1), .val (.int (1 : Int32)), .val (.ref a3), .val (.int (1 : Int32)), .val (.int (1 : Int32)), .val (.int (1 : Int32)), .val (.int c0)] [])) _
    refine XS.iload X4.here hx rfl (hb hby d_cmpa1_44) rfl ?_
    show Steps p.tables e below (T4.setTop (mkF m 46 #[.val (.ref a1), .val (.int (1 : Int32)), .val (.ref a3), .val (.int (1 : Int32)), .val (.int (1 : Int32)), .val (.int (1 : Int32)), .val (.int c0)] [(.int (1 : Int32))])) _
    exact k
  obtain ⟨fs, hr, hrun, hended, hW, hsame⟩ := X4.leave (v := some (.int (1 : Int32))) (fun h => by rw [Bd.returns] at h; cases h)
  refine ⟨_, _, pre_6 _ ?_, hrun, hended, _, _, rfl, ?_, ⟨_, rfl⟩, hW, hsame.mono (by decide) (by decide)⟩
  · show Steps p.tables e below (T4.setTop (mkF m 46 #[.val (.ref a1), .val (.int (1 : Int32)), .val (.ref a3), .val (.int (1 : Int32)), .val (.int (1 : Int32)), .val (.int (1 : Int32)), .val (.int c0)] [(.int (1 : Int32))])) _
    exact retI X4 hx Bd.returns (hb hby d_cmpa1_46) hr
  · show Q_cmpa1 Z a1 a3 kC kB c0 h0 n0 _ T4.heap _
    rw [e4]
    exact ⟨rfl, N4, ((Keep.refl h0 [a3]).wr W4 (Or.inl (List.mem_of_getElem? (i := 0) rfl))), V4⟩
theorem d_cmpb1_0 : decode jdk_52_method_16_code 0 = .ok (.iload_n 2, 1) := by decide +kernel
theorem d_cmpb1_1 : decode jdk_52_method_16_code 1 = .ok (.newarray .byte, 2) := by decide +kernel
theorem d_cmpb1_3 : decode jdk_52_method_16_code 3 = .ok (.astore_n 3, 1) := by decide +kernel
theorem d_cmpb1_4 : decode jdk_52_method_16_code 4 = .ok (.aload_n 0, 1) := by decide +kernel
theorem d_cmpb1_5 : decode jdk_52_method_16_code 5 = .ok (.iload_n 1, 1) := by decide +kernel
theorem d_cmpb1_6 : decode jdk_52_method_16_code 6 = .ok (.aload_n 3, 1) := by decide +kernel
theorem d_cmpb1_7 : decode jdk_52_method_16_code 7 = .ok (.iconst 0, 1) := by decide +kernel
theorem d_cmpb1_8 : decode jdk_52_method_16_code 8 = .ok (.iload_n 2, 1) := by decide +kernel
theorem d_cmpb1_9 : decode jdk_52_method_16_code 9 = .ok (.invokestatic 115, 3) := by decide +kernel
theorem d_cmpb1_12 : decode jdk_52_method_16_code 12 = .ok (.istore 4, 2) := by decide +kernel
theorem d_cmpb1_14 : decode jdk_52_method_16_code 14 = .ok (.iload 4, 2) := by decide +kernel
theorem d_cmpb1_16 : decode jdk_52_method_16_code 16 = .ok (.iload_n 2, 1) := by decide +kernel
theorem d_cmpb1_17 : decode jdk_52_method_16_code 17 = .ok (.if_icmp .eq 40, 3) := by decide +kernel
theorem d_cmpb1_57 : decode jdk_52_method_16_code 57 = .ok (.aload_n 3, 1) := by decide +kernel
theorem d_cmpb1_58 : decode jdk_52_method_16_code 58 = .ok (.areturn, 1) := by decide +kernel
theorem pn_cmpb1 : plainName "java/lang/StringUTF16" = true := by first | (simp [plainName, overriddenIn]; done) | decide +kernel
theorem pd_cmpb1_0 : parseMethodDescriptor "([CI[BII)I" = some ⟨[(.array .char), .int, (.array .byte), .int, .int], some .int⟩ := by decide +kernel
theorem ef_cmpb1 (m : MethodId) (a1 : Addr) : entryFrame m #[(.ref a1), (.int (0 : Int32)), (.int (1 : Int32))] 6 = (mkF m 0 #[.val (.ref a1), .val (.int (0 : Int32)), .val (.int (1 : Int32)), .unset, .unset, .unset] []) := by first | (simp [entryFrame, mkF, argsToLocals, Value.category]; done) | rfl
def Q_cmpb1 (Z : State) (a1 : Addr) (kC : ClassId) (c0 : Int32) (h0 : Heap) (n0 : Nat) (v : Option Value) (h : Heap) (L : List Loc) : Prop := ∃ b kB, v = some (.ref b) ∧ Fr n0 L ∧ Keep h0 h [] ∧ h0.size ≤ b ∧ Arv Z h b kB .byte (1 : Int32) [(.int (c0).toInt8.toInt32)] (.int (0 : Int32))
set_option maxRecDepth 65536 in
set_option maxHeartbeats 40000000 in
theorem rm_cmpb1 (l : Launch) (Z : State) (a0 : Array Value) (hw : ∀ d ∈ tables_1, d.before a0 Z = true) (ws : List Jvm.Cond) (a1 : Addr) (kC : ClassId) (c0 : Int32) (h0 : Heap) (n0 : Nat) (O0 : Old Z n0 h0) (VC : Arv Z h0 a1 kC .char (1 : Int32) [(.int c0)] (.int (0 : Int32))) (hc0 : ¬ (255 : Int32) < c0) :
    MetFree l (⟨"java/lang/StringUTF16", "compress", "([CII)[B"⟩ : MethodName) (head1 (Jvm.Cond.code (⟨"java/lang/StringUTF16", "compress", "([CII)[B"⟩ : MethodName) jdk_52_method_16_code 6 (some (.array .byte)) :: ws) ({ frames := 1, cells := 1, slots := 1, locals := 18 } : Room)) (fun a U => a = #[(.ref a1), (.int (0 : Int32)), (.int (1 : Int32))] ∧ Z.Warmed39 U.vm ∧ U.heap = h0) (fun _ _ _ _ _ => True) (fun _ U o U' => ∃ v L, o = .returned v ∧ Q_cmpb1 Z a1 kC c0 h0 n0 v U'.heap L ∧ FrameEnd U o U' L ({ frames := 1, cells := 1, slots := 1, locals := 18 } : Room).cells ({ frames := 1, cells := 1, slots := 1, locals := 18 } : Room).slots) := by
  refine MetFree.of_bodySF (plainFor_of_name pn_cmpb1) hisR ?_
  intro p e s m args below meth c s₁ Bd hml0 hP hK
  obtain ⟨rfl, hZ, hh⟩ := hP
  have hx := Bd.exec
  have hby := Bd.bytes
  have hml : c.maxLocals = 6 := hml0
  have hown : s.vm.findClass "java/lang/StringUTF16" = some m.cls := findClass_of_methodNamed Bd.named
  have hnm := (name_of_methodNamed Bd.named Bd.method).1
  have X0 : Stand p l e ({ frames := 1, cells := 1, slots := 1, locals := 18 } : Room) s m #[(.ref a1), (.int (0 : Int32)), (.int (1 : Int32))] below meth c s₁ [] 0 0 := Stand.of_body Bd
  have e0 : s₁.heap = h0 := by rw [← hh, Bd.state]; rfl
  have N0 := Fr.nil n0
  have pre0 : ∀ t, Steps p.tables e below (s₁.setTop (mkF m 0 #[.val (.ref a1), .val (.int (0 : Int32)), .val (.int (1 : Int32)), .unset, .unset, .unset] [])) t → Steps p.tables e below (s₁.setTop (entryFrame m #[(.ref a1), (.int (0 : Int32)), (.int (1 : Int32))] 6)) t := fun t k => castTop (ef_cmpb1 m a1) k
  have pre_1 : ∀ t, Steps p.tables e below (s₁.setTop (mkF m 1 #[.val (.ref a1), .val (.int (0 : Int32)), .val (.int (1 : Int32)), .unset, .unset, .unset] [(.int (1 : Int32))])) t → Steps p.tables e below (s₁.setTop (entryFrame m #[(.ref a1), (.int (0 : Int32)), (.int (1 : Int32))] 6)) t := by
    intro t k
    refine pre0 t ?_
    show Steps p.tables e below (s₁.setTop (mkF m 0 #[.val (.ref a1), .val (.int (0 : Int32)), .val (.int (1 : Int32)), .unset, .unset, .unset] [])) _
    refine XS.iloadN X0.here hx rfl (hb hby d_cmpb1_0) rfl ?_
    show Steps p.tables e below (s₁.setTop (mkF m 1 #[.val (.ref a1), .val (.int (0 : Int32)), .val (.int (1 : Int32)), .unset, .unset, .unset] [(.int (1 : Int32))])) _
    exact k
  obtain ⟨T2, h2, cA2, X2, e2, E2, A2, st2⟩ := newP X0 hx hZ (hw _ (List.mem_of_getElem? (i := 22) rfl)) e0 (g := (mkF m 1 #[.val (.ref a1), .val (.int (0 : Int32)), .val (.int (1 : Int32)), .unset, .unset, .unset] [(.int (1 : Int32))])) rfl (hb hby d_cmpb1_1) rfl (by decide) (cap := 1) (by decide) (by decide) (by decide) (by decide)
  obtain ⟨b2, g2⟩ : ∃ z, z = h0.size := ⟨_, rfl⟩
  rw [← g2] at A2 st2
  have O2 : Old Z n0 h2 := O0.ext E2
  have V2 : Arv Z h2 b2 cA2 .byte (1 : Int32) [(.int (0 : Int32))] (.int (0 : Int32)) := (Arv.new A2 (by decide)).pad (pad_rep [] _ 1)
  have pre_3 : ∀ t, Steps p.tables e below (T2.setTop (mkF m 3 #[.val (.ref a1), .val (.int (0 : Int32)), .val (.int (1 : Int32)), .unset, .unset, .unset] [(.ref b2)])) t → Steps p.tables e below (s₁.setTop (entryFrame m #[(.ref a1), (.int (0 : Int32)), (.int (1 : Int32))] 6)) t := fun t k => pre_1 t (st2 t k)
  have pre_4 : ∀ t, Steps p.tables e below (T2.setTop (mkF m 9 #[.val (.ref a1), .val (.int (0 : Int32)), .val (.int (1 : Int32)), .val (.ref b2), .unset, .unset] [(.int (1 : Int32)), (.int (0 : Int32)), (.ref b2), (.int (0 : Int32)), (.ref a1)])) t → Steps p.tables e below (s₁.setTop (entryFrame m #[(.ref a1), (.int (0 : Int32)), (.int (1 : Int32))] 6)) t := by
    intro t k
    refine pre_3 t ?_
    show Steps p.tables e below (T2.setTop (mkF m 3 #[.val (.ref a1), .val (.int (0 : Int32)), .val (.int (1 : Int32)), .unset, .unset, .unset] [(.ref b2)])) _
    refine XS.astoreN X2.here hx rfl (hb hby d_cmpb1_3) rfl rfl (l' := #[.val (.ref a1), .val (.int (0 : Int32)), .val (.int (1 : Int32)), .val (.ref b2), .unset, .unset]) rfl ?_
    show Steps p.tables e below (T2.setTop (mkF m 4 #[.val (.ref a1), .val (.int (0 : Int32)), .val (.int (1 : Int32)), .val (.ref b2), .unset, .unset] [])) _
    refine XS.aloadN X2.here hx rfl (hb hby d_cmpb1_4) rfl rfl ?_
    show Steps p.tables e below (T2.setTop (mkF m 5 #[.val (.ref a1), .val (.int (0 : Int32)), .val (.int (1 : Int32)), .val (.ref b2), .unset, .unset] [(.ref a1)])) _
    refine XS.iloadN X2.here hx rfl (hb hby d_cmpb1_5) rfl ?_
    show Steps p.tables e below (T2.setTop (mkF m 6 #[.val (.ref a1), .val (.int (0 : Int32)), .val (.int (1 : Int32)), .val (.ref b2), .unset, .unset] [(.int (0 : Int32)), (.ref a1)])) _
    refine XS.aloadN X2.here hx rfl (hb hby d_cmpb1_6) rfl rfl ?_
    show Steps p.tables e below (T2.setTop (mkF m 7 #[.val (.ref a1), .val (.int (0 : Int32)), .val (.int (1 : Int32)), .val (.ref b2), .unset, .unset] [(.ref b2), (.int (0 : Int32)), (.ref a1)])) _
    refine XS.iconst X2.here hx rfl (hb hby d_cmpb1_7) ?_
    show Steps p.tables e below (T2.setTop (mkF m 8 #[.val (.ref a1), .val (.int (0 : Int32)), .val (.int (1 : Int32)), .val (.ref b2), .unset, .unset] [(.int (0 : Int32)), (.ref b2), (.int (0 : Int32)), (.ref a1)])) _
    refine XS.iloadN X2.here hx rfl (hb hby d_cmpb1_8) rfl ?_
    show Steps p.tables e below (T2.setTop (mkF m 9 #[.val (.ref a1), .val (.int (0 : Int32)), .val (.int (1 : Int32)), .val (.ref b2), .unset, .unset] [(.int (1 : Int32)), (.int (0 : Int32)), (.ref b2), (.int (0 : Int32)), (.ref a1)])) _
    exact k
  obtain ⟨_, _, ⟨T5, L5, k5, n5⟩, -, X5, ⟨Lc5, hQ5, l5, y5, z5⟩, st5⟩ := Jvm.LawKit.callS X2 hx (y := (⟨"java/lang/StringUTF16", "compress", "([CI[BII)I"⟩ : MethodName)) hown (mvT hZ (hw _ (List.mem_of_getElem? (i := 23) rfl))) (mvT hZ (hw _ (List.mem_of_getElem? (i := 24) rfl))) (mvT hZ (hw _ (List.mem_of_getElem? (i := 20) rfl))) (mvT hZ (hw _ (List.mem_of_getElem? (i := 25) rfl))) (by decide) (backOf (W := 0) (rm_cmpa1 l Z a0 hw [] a1 b2 kC cA2 c0 h2 n0 O2 (VC.ext E2) V2 (Nat.le_trans (own_le O0) (Nat.le_of_eq g2.symm)) (Nat.ne_of_lt (Nat.lt_of_lt_of_le VC.lt (Nat.le_of_eq g2.symm))) hc0) hZ (hw _ (List.mem_of_getElem? (i := 25) rfl)) (hw _ (List.mem_of_getElem? (i := 20) rfl)) (by decide) (by decide)) (g := (mkF m 9 #[.val (.ref a1), .val (.int (0 : Int32)), .val (.int (1 : Int32)), .val (.ref b2), .unset, .unset] [(.int (1 : Int32)), (.int (0 : Int32)), (.ref b2), (.int (0 : Int32)), (.ref a1)])) rfl (by rw [hml]; rfl) (argsL := [(.ref a1), (.int (0 : Int32)), (.ref b2), (.int (0 : Int32)), (.int (1 : Int32))]) (rest := []) (lenOf pd_cmpb1_0 rfl) rfl (by show 2 * 0 + _ ≤ _; exact Nat.le_of_eq rfl) (hb hby d_cmpb1_9) (fun _ _ => ⟨rfl, e2, (by decide : 1 + 0 ≤ _), (by decide : 1 + 0 ≤ _)⟩)
  dsimp only [Pt.U, Pt.locs, Pt.cells, Pt.slots] at X5 l5 y5 z5 st5 hQ5
  subst l5 y5 z5
  obtain ⟨rfl, N5q, K5, Vb5⟩ := hQ5
  have N5 := Fr.app N0 N5q
  have O5 : Old Z n0 T5.heap := O2.keep K5 (allS (Nat.le_trans (own_le O0) (Nat.le_of_eq g2.symm)) all0)
  have pre_6 : ∀ t, Steps p.tables e below (T5.setTop (mkF m 12 #[.val (.ref a1), .val (.int (0 : Int32)), .val (.int (1 : Int32)), .val (.ref b2), .unset, .unset] [(.int (1 : Int32))])) t → Steps p.tables e below (s₁.setTop (entryFrame m #[(.ref a1), (.int (0 : Int32)), (.int (1 : Int32))] 6)) t := fun t k => pre_4 t (st5 t k)
  have pre_7 : ∀ t, Steps p.tables e below (T5.setTop (mkF m 58 #[.val (.ref a1), .val (.int (0 : Int32)), .val (.int (1 : Int32)), .val (.ref b2), .val (.int (1 : Int32)), .unset] [(.ref b2)])) t → Steps p.tables e below (s₁.setTop (entryFrame m #[(.ref a1), (.int (0 : Int32)), (.int (1 : Int32))] 6)) t := by
    intro t k
    refine pre_6 t ?_
    show Steps p.tables e below (T5.setTop (mkF m 12 #[.val (.ref a1), .val (.int (0 : Int32)), .val (.int (1 : Int32)), .val (.ref b2), .unset, .unset] [(.int (1 : Int32))])) _
    refine XS.istore X5.here hx rfl (hb hby d_cmpb1_12) rfl (l' := #[.val (.ref a1), .val (.int (0 : Int32)), .val (.int (1 : Int32)), .val (.ref b2), .val (.int (1 : Int32)), .unset]) rfl ?_
    show Steps p.tables e below (T5.setTop (mkF m 14 #[.val (.ref a1), .val (.int (0 : Int32)), .val (.int (1 : Int32)), .val (.ref b2), .val (.int (1 : Int32)), .unset] [])) _
    refine XS.iload X5.here hx rfl (hb hby d_cmpb1_14) rfl ?_
    show Steps p.tables e below (T5.setTop (mkF m 16 #[.val (.ref a1), .val (.int (0 : Int32)), .val (.int (1 : Int32)), .val (.ref b2), .val (.int (1 : Int32)), .unset] [(.int (1 : Int32))])) _
    refine XS.iloadN X5.here hx rfl (hb hby d_cmpb1_16) rfl ?_
    show Steps p.tables e below (T5.setTop (mkF m 17 #[.val (.ref a1), .val (.int (0 : Int32)), .val (.int (1 : Int32)), .val (.ref b2), .val (.int (1 : Int32)), .unset] [(.int (1 : Int32)), (.int (1 : Int32))])) _
    refine XS.icmpYes X5.here hx rfl (pc0 := 17) (pc' := 57) rfl (hb hby d_cmpb1_17) rfl (XT.ii_eq_t (by decide)) (by decide) (by decide) ?_
    show Steps p.tables e below (T5.setTop (mkF m 57 #[.val (.ref a1), .val (.int (0 : Int32)), .val (.int (1 : Int32)), .val (.ref b2), .val (.int (1 : Int32)), .unset] [])) _
    refine XS.aloadN X5.here hx rfl (hb hby d_cmpb1_57) rfl rfl ?_
    show Steps p.tables e below (T5.setTop (mkF m 58 #[.val (.ref a1), .val (.int (0 : Int32)), .val (.int (1 : Int32)), .val (.ref b2), .val (.int (1 : Int32)), .unset] [(.ref b2)])) _
    exact k
  obtain ⟨fs, hr, hrun, hended, hW, hsame⟩ := X5.leave (v := some (.ref b2)) (fun h => by rw [Bd.returns] at h; cases h)
  refine ⟨_, _, pre_7 _ ?_, hrun, hended, _, _, rfl, ?_, ⟨_, rfl⟩, hW, hsame.mono (by decide) (by decide)⟩
  · show Steps p.tables e below (T5.setTop (mkF m 58 #[.val (.ref a1), .val (.int (0 : Int32)), .val (.int (1 : Int32)), .val (.ref b2), .val (.int (1 : Int32)), .unset] [(.ref b2)])) _
    exact retOut X5 hx (t := (.array .byte)) Bd.returns rfl (Or.inr (Or.inr (Or.inr (Or.inr ⟨rfl, rfl, rfl⟩)))) (hb hby d_cmpb1_58) hr
  · show Q_cmpb1 Z a1 kC c0 h0 n0 _ T5.heap _
    exact ⟨b2, cA2, rfl, N5, (((Keep.refl h0 []).ext E2).trans K5 (allS (Or.inr (Nat.le_trans (Keep.refl h0 []).1 (Nat.le_of_eq g2.symm))) all0)), (Nat.le_trans (Keep.refl h0 []).1 (Nat.le_of_eq g2.symm)), Vb5⟩
theorem d_cfa1_0 : decode jdk_52_method_15_code 0 = .ok (.iload_n 1, 1) := by decide +kernel
theorem d_cfa1_1 : decode jdk_52_method_15_code 1 = .ok (.aload_n 0, 1) := by decide +kernel
theorem d_cfa1_2 : decode jdk_52_method_15_code 2 = .ok (.arraylength, 1) := by decide +kernel
theorem d_cfa1_3 : decode jdk_52_method_15_code 3 = .ok (.isub, 1) := by decide +kernel
theorem d_cfa1_4 : decode jdk_52_method_15_code 4 = .ok (.bipush 31, 2) := by decide +kernel
theorem d_cfa1_6 : decode jdk_52_method_15_code 6 = .ok (.iushr, 1) := by decide +kernel
theorem d_cfa1_7 : decode jdk_52_method_15_code 7 = .ok (.i2b, 1) := by decide +kernel
theorem d_cfa1_8 : decode jdk_52_method_15_code 8 = .ok (.ireturn, 1) := by decide +kernel
theorem pn_cfa1 : plainName "java/lang/StringUTF16" = true := by first | (simp [plainName, overriddenIn]; done) | decide +kernel
theorem ef_cfa1 (m : MethodId) (a1 : Addr) : entryFrame m #[(.ref a1), (.int (1 : Int32))] 2 = (mkF m 0 #[.val (.ref a1), .val (.int (1 : Int32))] []) := by first | (simp [entryFrame, mkF, argsToLocals, Value.category]; done) | rfl
def Q_cfa1 (Z : State) (a1 : Addr) (kB : ClassId) (c0 : Int32) (h0 : Heap) (n0 : Nat) (v : Option Value) (h : Heap) (L : List Loc) : Prop := v = some (.int (0 : Int32)) ∧ Fr n0 L ∧ h = h0
set_option maxRecDepth 65536 in
set_option maxHeartbeats 40000000 in
theorem rm_cfa1 (l : Launch) (Z : State) (a0 : Array Value) (hw : ∀ d ∈ tables_1, d.before a0 Z = true) (ws : List Jvm.Cond) (a1 : Addr) (kB : ClassId) (c0 : Int32) (h0 : Heap) (n0 : Nat) (O0 : Old Z n0 h0) (VB : Arv Z h0 a1 kB .byte (1 : Int32) [(.int (c0).toInt8.toInt32)] (.int (0 : Int32))) :
    MetFree l (⟨"java/lang/StringUTF16", "coderFromArrayLen", "([BI)B"⟩ : MethodName) (head1 (Jvm.Cond.code (⟨"java/lang/StringUTF16", "coderFromArrayLen", "([BI)B"⟩ : MethodName) jdk_52_method_15_code 2 (some .byte) :: ws) ({ frames := 0, cells := 0, slots := 0, locals := 0 } : Room)) (fun a U => a = #[(.ref a1), (.int (1 : Int32))] ∧ Z.Warmed39 U.vm ∧ U.heap = h0) (fun _ _ _ _ _ => True) (fun _ U o U' => ∃ v L, o = .returned v ∧ Q_cfa1 Z a1 kB c0 h0 n0 v U'.heap L ∧ FrameEnd U o U' L ({ frames := 0, cells := 0, slots := 0, locals := 0 } : Room).cells ({ frames := 0, cells := 0, slots := 0, locals := 0 } : Room).slots) := by
  refine MetFree.of_bodySF (plainFor_of_name pn_cfa1) hisR ?_
  intro p e s m args below meth c s₁ Bd hml0 hP hK
  obtain ⟨rfl, hZ, hh⟩ := hP
  have hx := Bd.exec
  have hby := Bd.bytes
  have hml : c.maxLocals = 2 := hml0
  have hown : s.vm.findClass "java/lang/StringUTF16" = some m.cls := findClass_of_methodNamed Bd.named
  have hnm := (name_of_methodNamed Bd.named Bd.method).1
  have X0 : Stand p l e ({ frames := 0, cells := 0, slots := 0, locals := 0 } : Room) s m #[(.ref a1), (.int (1 : Int32))] below meth c s₁ [] 0 0 := Stand.of_body Bd
  have e0 : s₁.heap = h0 := by rw [← hh, Bd.state]; rfl
  have N0 := Fr.nil n0
  have pre0 : ∀ t, Steps p.tables e below (s₁.setTop (mkF m 0 #[.val (.ref a1), .val (.int (1 : Int32))] [])) t → Steps p.tables e below (s₁.setTop (entryFrame m #[(.ref a1), (.int (1 : Int32))] 2)) t := fun t k => castTop (ef_cfa1 m a1) k
  have pre_1 : ∀ t, Steps p.tables e below (s₁.setTop (mkF m 2 #[.val (.ref a1), .val (.int (1 : Int32))] [(.ref a1), (.int (1 : Int32))])) t → Steps p.tables e below (s₁.setTop (entryFrame m #[(.ref a1), (.int (1 : Int32))] 2)) t := by
    intro t k
    refine pre0 t ?_
    show Steps p.tables e below (s₁.setTop (mkF m 0 #[.val (.ref a1), .val (.int (1 : Int32))] [])) _
    refine XS.iloadN X0.here hx rfl (hb hby d_cfa1_0) rfl ?_
    show Steps p.tables e below (s₁.setTop (mkF m 1 #[.val (.ref a1), .val (.int (1 : Int32))] [(.int (1 : Int32))])) _
    refine XS.aloadN X0.here hx rfl (hb hby d_cfa1_1) rfl rfl ?_
    show Steps p.tables e below (s₁.setTop (mkF m 2 #[.val (.ref a1), .val (.int (1 : Int32))] [(.ref a1), (.int (1 : Int32))])) _
    exact k
  obtain ⟨cl2, Ar2, -, S2, M2, -, -⟩ := id VB
  have pre_3 : ∀ t, Steps p.tables e below (s₁.setTop (mkF m 8 #[.val (.ref a1), .val (.int (1 : Int32))] [(.int (0 : Int32))])) t → Steps p.tables e below (s₁.setTop (entryFrame m #[(.ref a1), (.int (1 : Int32))] 2)) t := by
    intro t k
    refine pre_1 t ?_
    show Steps p.tables e below (s₁.setTop (mkF m 2 #[.val (.ref a1), .val (.int (1 : Int32))] [(.ref a1), (.int (1 : Int32))])) _
    refine X0.arraylength hx (cell := cl2) (by rw [e0]; exact Ar2.1) (State.isArrayOf_alike hZ.alike Ar2.2.1) (g := (mkF m 2 #[.val (.ref a1), .val (.int (1 : Int32))] [(.ref a1), (.int (1 : Int32))])) rfl (rest := [(.int (1 : Int32))]) rfl (hb hby d_cfa1_2) _ ?_
    rw [len_of S2 M2]
    show Steps p.tables e below (s₁.setTop (mkF m 3 #[.val (.ref a1), .val (.int (1 : Int32))] [(.int (1 : Int32)), (.int (1 : Int32))])) _
    refine XS.isub X0.here hx rfl (hb hby d_cfa1_3) rfl ?_
    show Steps p.tables e below (s₁.setTop (mkF m 4 #[.val (.ref a1), .val (.int (1 : Int32))] [(.int (0 : Int32))])) _
    refine XS.bipush X0.here hx rfl (hb hby d_cfa1_4) ?_
    show Steps p.tables e below (s₁.setTop (mkF m 6 #[.val (.ref a1), .val (.int (1 : Int32))] [(.int (31 : Int32)), (.int (0 : Int32))])) _
    refine XT.iushr X0.here hx rfl (hb hby d_cfa1_6) rfl ?_
    show Steps p.tables e below (s₁.setTop (mkF m 7 #[.val (.ref a1), .val (.int (1 : Int32))] [(.int (0 : Int32))])) _
    refine XT.i2b X0.here hx rfl (hb hby d_cfa1_7) rfl ?_
    show Steps p.tables e below (s₁.setTop (mkF m 8 #[.val (.ref a1), .val (.int (1 : Int32))] [(.int (0 : Int32))])) _
    exact k
  obtain ⟨fs, hr, hrun, hended, hW, hsame⟩ := X0.leave (v := some (.int (0 : Int32))) (fun h => by rw [Bd.returns] at h; cases h)
  refine ⟨_, _, pre_3 _ ?_, hrun, hended, _, _, rfl, ?_, ⟨_, rfl⟩, hW, hsame.mono (by decide) (by decide)⟩
  · show Steps p.tables e below (s₁.setTop (mkF m 8 #[.val (.ref a1), .val (.int (1 : Int32))] [(.int (0 : Int32))])) _
    exact retN X0 hx (t := .byte) Bd.returns (by simp) (hb hby d_cfa1_8) hr
  · show Q_cfa1 Z a1 kB c0 h0 n0 _ s₁.heap _
    rw [e0]
    exact ⟨rfl, N0, rfl⟩
theorem d_sti1_0 : decode jdk_42_method_149_code 0 = .ok (.aload_n 0, 1) := by decide +kernel
theorem d_sti1_1 : decode jdk_42_method_149_code 1 = .ok (.invokespecial 1, 3) := by decide +kernel
theorem d_sti1_4 : decode jdk_42_method_149_code 4 = .ok (.iload_n 3, 1) := by decide +kernel
theorem d_sti1_5 : decode jdk_42_method_149_code 5 = .ok (.ifCond .ne 22, 3) := by decide +kernel
theorem d_sti1_27 : decode jdk_42_method_149_code 27 = .ok (.getstatic 38, 3) := by decide +kernel
theorem d_sti1_30 : decode jdk_42_method_149_code 30 = .ok (.ifCond .eq 28, 3) := by decide +kernel
theorem d_sti1_33 : decode jdk_42_method_149_code 33 = .ok (.aload_n 1, 1) := by decide +kernel
theorem d_sti1_34 : decode jdk_42_method_149_code 34 = .ok (.iload_n 2, 1) := by decide +kernel
theorem d_sti1_35 : decode jdk_42_method_149_code 35 = .ok (.iload_n 3, 1) := by decide +kernel
theorem d_sti1_36 : decode jdk_42_method_149_code 36 = .ok (.invokestatic 177, 3) := by decide +kernel
theorem d_sti1_39 : decode jdk_42_method_149_code 39 = .ok (.astore 5, 2) := by decide +kernel
theorem d_sti1_41 : decode jdk_42_method_149_code 41 = .ok (.aload_n 0, 1) := by decide +kernel
theorem d_sti1_42 : decode jdk_42_method_149_code 42 = .ok (.aload 5, 2) := by decide +kernel
theorem d_sti1_44 : decode jdk_42_method_149_code 44 = .ok (.iload_n 3, 1) := by decide +kernel
theorem d_sti1_45 : decode jdk_42_method_149_code 45 = .ok (.invokestatic 47, 3) := by decide +kernel
theorem d_sti1_48 : decode jdk_42_method_149_code 48 = .ok (.putfield 15, 3) := by decide +kernel
theorem d_sti1_51 : decode jdk_42_method_149_code 51 = .ok (.aload_n 0, 1) := by decide +kernel
theorem d_sti1_52 : decode jdk_42_method_149_code 52 = .ok (.aload 5, 2) := by decide +kernel
theorem d_sti1_54 : decode jdk_42_method_149_code 54 = .ok (.putfield 9, 3) := by decide +kernel
theorem d_sti1_57 : decode jdk_42_method_149_code 57 = .ok (.return_, 1) := by decide +kernel
theorem pn_sti1 : plainName "java/lang/String" = true := by first | (simp [plainName, overriddenIn]; done) | decide +kernel
theorem pd_sti1_0 : parseMethodDescriptor "([CII)[B" = some ⟨[(.array .char), .int, .int], some (.array .byte)⟩ := by decide +kernel
theorem pd_sti1_1 : parseMethodDescriptor "([BI)B" = some ⟨[(.array .byte), .int], some .byte⟩ := by decide +kernel
theorem ef_sti1 (m : MethodId) (a1 : Addr) (a2 : Addr) : entryFrame m #[(.ref a1), (.ref a2), (.int (0 : Int32)), (.int (1 : Int32)), .null] 6 = (mkF m 0 #[.val (.ref a1), .val (.ref a2), .val (.int (0 : Int32)), .val (.int (1 : Int32)), .val .null, .unset] []) := by first | (simp [entryFrame, mkF, argsToLocals, Value.category]; done) | rfl
def Q_sti1 (Z : State) (a1 : Addr) (a2 : Addr) (u1 u2 : Value) (G1 : Int32) (kC : ClassId) (c0 : Int32) (h0 : Heap) (n0 : Nat) (v : Option Value) (h : Heap) (L : List Loc) : Prop := v = none ∧ Fr n0 L ∧ Keep h0 h [a1] ∧ Fld Z h a1 "java/lang/String" "coder" "B" (.int (0 : Int32)) ∧ ∃ b kB, h0.size ≤ b ∧ Fld Z h a1 "java/lang/String" "value" "[B" (.ref b) ∧ Arv Z h b kB .byte (1 : Int32) [(.int (c0).toInt8.toInt32)] (.int (0 : Int32))
set_option maxRecDepth 65536 in
set_option maxHeartbeats 40000000 in
theorem rm_sti1 (l : Launch) (Z : State) (a0 : Array Value) (hw : ∀ d ∈ tables_1, d.before a0 Z = true) (ws : List Jvm.Cond) (a1 : Addr) (a2 : Addr) (u1 u2 : Value) (G1 : Int32) (kC : ClassId) (c0 : Int32) (h0 : Heap) (n0 : Nat) (O0 : Old Z n0 h0) (E1 : Exa Z h0 a1 "java/lang/String") (F1 : Fld Z h0 a1 "java/lang/String" "value" "[B" u1) (F2 : Fld Z h0 a1 "java/lang/String" "coder" "B" u2) (g1 : n0 ≤ a1) (SC : Sta Z Z.heap "java/lang/String" "COMPACT_STRINGS" "Z" (.int G1)) (hG : ¬ G1 = (0 : Int32)) (VC : Arv Z h0 a2 kC .char (1 : Int32) [(.int c0)] (.int (0 : Int32))) (hc0 : ¬ (255 : Int32) < c0) :
    MetFree l (⟨"java/lang/String", "<init>", "([CIILjava/lang/Void;)V"⟩ : MethodName) (head1 (Jvm.Cond.code (⟨"java/lang/String", "<init>", "([CIILjava/lang/Void;)V"⟩ : MethodName) jdk_42_method_149_code 6 none :: ws) ({ frames := 2, cells := 1, slots := 1, locals := 36 } : Room)) (fun a U => a = #[(.ref a1), (.ref a2), (.int (0 : Int32)), (.int (1 : Int32)), .null] ∧ Z.Warmed39 U.vm ∧ U.heap = h0) (fun _ _ _ _ _ => True) (fun _ U o U' => ∃ v L, o = .returned v ∧ Q_sti1 Z a1 a2 u1 u2 G1 kC c0 h0 n0 v U'.heap L ∧ FrameEnd U o U' L ({ frames := 2, cells := 1, slots := 1, locals := 36 } : Room).cells ({ frames := 2, cells := 1, slots := 1, locals := 36 } : Room).slots) := by
  refine MetFree.of_bodySF (plainFor_of_name pn_sti1) hisR ?_
  intro p e s m args below meth c s₁ Bd hml0 hP hK
  obtain ⟨rfl, hZ, hh⟩ := hP
  have hx := Bd.exec
  have hby := Bd.bytes
  have hml : c.maxLocals = 6 := hml0
  have hown : s.vm.findClass "java/lang/String" = some m.cls := findClass_of_methodNamed Bd.named
  have hnm := (name_of_methodNamed Bd.named Bd.method).1
  have X0 : Stand p l e ({ frames := 2, cells := 1, slots := 1, locals := 36 } : Room) s m #[(.ref a1), (.ref a2), (.int (0 : Int32)), (.int (1 : Int32)), .null] below meth c s₁ [] 0 0 := Stand.of_body Bd
  have e0 : s₁.heap = h0 := by rw [← hh, Bd.state]; rfl
  have N0 := Fr.nil n0
  have pre0 : ∀ t, Steps p.tables e below (s₁.setTop (mkF m 0 #[.val (.ref a1), .val (.ref a2), .val (.int (0 : Int32)), .val (.int (1 : Int32)), .val .null, .unset] [])) t → Steps p.tables e below (s₁.setTop (entryFrame m #[(.ref a1), (.ref a2), (.int (0 : Int32)), (.int (1 : Int32)), .null] 6)) t := fun t k => castTop (ef_sti1 m a1 a2) k
  have pre_1 : ∀ t, Steps p.tables e below (s₁.setTop (mkF m 1 #[.val (.ref a1), .val (.ref a2), .val (.int (0 : Int32)), .val (.int (1 : Int32)), .val .null, .unset] [(.ref a1)])) t → Steps p.tables e below (s₁.setTop (entryFrame m #[(.ref a1), (.ref a2), (.int (0 : Int32)), (.int (1 : Int32)), .null] 6)) t := by
    intro t k
    refine pre0 t ?_
    show Steps p.tables e below (s₁.setTop (mkF m 0 #[.val (.ref a1), .val (.ref a2), .val (.int (0 : Int32)), .val (.int (1 : Int32)), .val .null, .unset] [])) _
    refine XS.aloadN X0.here hx rfl (hb hby d_sti1_0) rfl rfl ?_
    show Steps p.tables e below (s₁.setTop (mkF m 1 #[.val (.ref a1), .val (.ref a2), .val (.int (0 : Int32)), .val (.int (1 : Int32)), .val .null, .unset] [(.ref a1)])) _
    exact k
  obtain ⟨T2, X2, e2, st2⟩ := initO X0 hx hZ hown (hw _ (List.mem_of_getElem? (i := 14) rfl)) (hw _ (List.mem_of_getElem? (i := 15) rfl)) (hw _ (List.mem_of_getElem? (i := 16) rfl)) e0 (g := (mkF m 1 #[.val (.ref a1), .val (.ref a2), .val (.int (0 : Int32)), .val (.int (1 : Int32)), .val .null, .unset] [(.ref a1)])) rfl (by rw [hml]; rfl) rfl (hb hby d_sti1_1) (by decide) (W := 0) (by show 2 * 0 + _ ≤ _; exact Nat.le_of_eq rfl) (by decide)
  have pre_3 : ∀ t, Steps p.tables e below (T2.setTop (mkF m 4 #[.val (.ref a1), .val (.ref a2), .val (.int (0 : Int32)), .val (.int (1 : Int32)), .val .null, .unset] [])) t → Steps p.tables e below (s₁.setTop (entryFrame m #[(.ref a1), (.ref a2), (.int (0 : Int32)), (.int (1 : Int32)), .null] 6)) t := fun t k => pre_1 t (st2 t k)
  have pre_4 : ∀ t, Steps p.tables e below (T2.setTop (mkF m 27 #[.val (.ref a1), .val (.ref a2), .val (.int (0 : Int32)), .val (.int (1 : Int32)), .val .null, .unset] [])) t → Steps p.tables e below (s₁.setTop (entryFrame m #[(.ref a1), (.ref a2), (.int (0 : Int32)), (.int (1 : Int32)), .null] 6)) t := by
    intro t k
    refine pre_3 t ?_
    show Steps p.tables e below (T2.setTop (mkF m 4 #[.val (.ref a1), .val (.ref a2), .val (.int (0 : Int32)), .val (.int (1 : Int32)), .val .null, .unset] [])) _
    refine XS.iloadN X2.here hx rfl (hb hby d_sti1_4) rfl ?_
    show Steps p.tables e below (T2.setTop (mkF m 5 #[.val (.ref a1), .val (.ref a2), .val (.int (0 : Int32)), .val (.int (1 : Int32)), .val .null, .unset] [(.int (1 : Int32))])) _
    refine XS.ifYes X2.here hx rfl (pc0 := 5) (pc' := 27) rfl (hb hby d_sti1_5) rfl (XT.i0_ne_t (by decide)) (by decide) (by decide) ?_
    show Steps p.tables e below (T2.setTop (mkF m 27 #[.val (.ref a1), .val (.ref a2), .val (.int (0 : Int32)), .val (.int (1 : Int32)), .val .null, .unset] [])) _
    exact k
  obtain ⟨T5, X5, e5, st5⟩ := getS X2 hx hZ hown (host := "") (hw _ (List.mem_of_getElem? (i := 17) rfl)) Via.refl e2 (SC.ext O0.2) (g := (mkF m 27 #[.val (.ref a1), .val (.ref a2), .val (.int (0 : Int32)), .val (.int (1 : Int32)), .val .null, .unset] [])) rfl (hb hby d_sti1_27)
  have pre_6 : ∀ t, Steps p.tables e below (T5.setTop (mkF m 30 #[.val (.ref a1), .val (.ref a2), .val (.int (0 : Int32)), .val (.int (1 : Int32)), .val .null, .unset] [(.int G1)])) t → Steps p.tables e below (s₁.setTop (entryFrame m #[(.ref a1), (.ref a2), (.int (0 : Int32)), (.int (1 : Int32)), .null] 6)) t := fun t k => pre_4 t (st5 t k)
  have pre_7 : ∀ t, Steps p.tables e below (T5.setTop (mkF m 36 #[.val (.ref a1), .val (.ref a2), .val (.int (0 : Int32)), .val (.int (1 : Int32)), .val .null, .unset] [(.int (1 : Int32)), (.int (0 : Int32)), (.ref a2)])) t → Steps p.tables e below (s₁.setTop (entryFrame m #[(.ref a1), (.ref a2), (.int (0 : Int32)), (.int (1 : Int32)), .null] 6)) t := by
    intro t k
    refine pre_6 t ?_
    show Steps p.tables e below (T5.setTop (mkF m 30 #[.val (.ref a1), .val (.ref a2), .val (.int (0 : Int32)), .val (.int (1 : Int32)), .val .null, .unset] [(.int G1)])) _
    refine XS.ifNo X5.here hx rfl (hb hby d_sti1_30) rfl (XT.i0_eq_f hG) ?_
    show Steps p.tables e below (T5.setTop (mkF m 33 #[.val (.ref a1), .val (.ref a2), .val (.int (0 : Int32)), .val (.int (1 : Int32)), .val .null, .unset] [])) _
    refine XS.aloadN X5.here hx rfl (hb hby d_sti1_33) rfl rfl ?_
    show Steps p.tables e below (T5.setTop (mkF m 34 #[.val (.ref a1), .val (.ref a2), .val (.int (0 : Int32)), .val (.int (1 : Int32)), .val .null, .unset] [(.ref a2)])) _
    refine XS.iloadN X5.here hx rfl (hb hby d_sti1_34) rfl ?_
    show Steps p.tables e below (T5.setTop (mkF m 35 #[.val (.ref a1), .val (.ref a2), .val (.int (0 : Int32)), .val (.int (1 : Int32)), .val .null, .unset] [(.int (0 : Int32)), (.ref a2)])) _
    refine XS.iloadN X5.here hx rfl (hb hby d_sti1_35) rfl ?_
    show Steps p.tables e below (T5.setTop (mkF m 36 #[.val (.ref a1), .val (.ref a2), .val (.int (0 : Int32)), .val (.int (1 : Int32)), .val .null, .unset] [(.int (1 : Int32)), (.int (0 : Int32)), (.ref a2)])) _
    exact k
  obtain ⟨_, _, ⟨T8, L8, k8, n8⟩, -, X8, ⟨Lc8, hQ8, l8, y8, z8⟩, st8⟩ := Jvm.LawKit.callS X5 hx (y := (⟨"java/lang/StringUTF16", "compress", "([CII)[B"⟩ : MethodName)) hown (mvT hZ (hw _ (List.mem_of_getElem? (i := 18) rfl))) (mvT hZ (hw _ (List.mem_of_getElem? (i := 19) rfl))) (mvT hZ (hw _ (List.mem_of_getElem? (i := 20) rfl))) (mvT hZ (hw _ (List.mem_of_getElem? (i := 21) rfl))) (by decide) (backOf (W := 0) (rm_cmpb1 l Z a0 hw [] a2 kC c0 h0 n0 O0 VC hc0) hZ (hw _ (List.mem_of_getElem? (i := 21) rfl)) (hw _ (List.mem_of_getElem? (i := 20) rfl)) (by decide) (by decide)) (g := (mkF m 36 #[.val (.ref a1), .val (.ref a2), .val (.int (0 : Int32)), .val (.int (1 : Int32)), .val .null, .unset] [(.int (1 : Int32)), (.int (0 : Int32)), (.ref a2)])) rfl (by rw [hml]; rfl) (argsL := [(.ref a2), (.int (0 : Int32)), (.int (1 : Int32))]) (rest := []) (lenOf pd_sti1_0 rfl) rfl (by show 2 * 0 + _ ≤ _; exact Nat.le_of_eq rfl) (hb hby d_sti1_36) (fun _ _ => ⟨rfl, e5, (by decide : 0 + 1 ≤ _), (by decide : 0 + 1 ≤ _)⟩)
  dsimp only [Pt.U, Pt.locs, Pt.cells, Pt.slots] at X8 l8 y8 z8 st8 hQ8
  subst l8 y8 z8
  obtain ⟨b8, kB8, rfl, N8q, K8, sb8, Vb8⟩ := hQ8
  have N8 := Fr.app N0 N8q
  have O8 : Old Z n0 T8.heap := O0.keep K8 all0
  have pre_9 : ∀ t, Steps p.tables e below (T8.setTop (mkF m 39 #[.val (.ref a1), .val (.ref a2), .val (.int (0 : Int32)), .val (.int (1 : Int32)), .val .null, .unset] [(.ref b8)])) t → Steps p.tables e below (s₁.setTop (entryFrame m #[(.ref a1), (.ref a2), (.int (0 : Int32)), (.int (1 : Int32)), .null] 6)) t := fun t k => pre_7 t (st8 t k)
  have pre_10 : ∀ t, Steps p.tables e below (T8.setTop (mkF m 45 #[.val (.ref a1), .val (.ref a2), .val (.int (0 : Int32)), .val (.int (1 : Int32)), .val .null, .val (.ref b8)] [(.int (1 : Int32)), (.ref b8), (.ref a1)])) t → Steps p.tables e below (s₁.setTop (entryFrame m #[(.ref a1), (.ref a2), (.int (0 : Int32)), (.int (1 : Int32)), .null] 6)) t := by
    intro t k
    refine pre_9 t ?_
    show Steps p.tables e below (T8.setTop (mkF m 39 #[.val (.ref a1), .val (.ref a2), .val (.int (0 : Int32)), .val (.int (1 : Int32)), .val .null, .unset] [(.ref b8)])) _
    refine XS.astore X8.here hx rfl (hb hby d_sti1_39) rfl rfl (l' := #[.val (.ref a1), .val (.ref a2), .val (.int (0 : Int32)), .val (.int (1 : Int32)), .val .null, .val (.ref b8)]) rfl ?_
    show Steps p.tables e below (T8.setTop (mkF m 41 #[.val (.ref a1), .val (.ref a2), .val (.int (0 : Int32)), .val (.int (1 : Int32)), .val .null, .val (.ref b8)] [])) _
    refine XS.aloadN X8.here hx rfl (hb hby d_sti1_41) rfl rfl ?_
    show Steps p.tables e below (T8.setTop (mkF m 42 #[.val (.ref a1), .val (.ref a2), .val (.int (0 : Int32)), .val (.int (1 : Int32)), .val .null, .val (.ref b8)] [(.ref a1)])) _
    refine XS.aload X8.here hx rfl (hb hby d_sti1_42) rfl rfl ?_
    show Steps p.tables e below (T8.setTop (mkF m 44 #[.val (.ref a1), .val (.ref a2), .val (.int (0 : Int32)), .val (.int (1 : Int32)), .val .null, .val (.ref b8)] [(.ref b8), (.ref a1)])) _
    refine XS.iloadN X8.here hx rfl (hb hby d_sti1_44) rfl ?_
    show Steps p.tables e below (T8.setTop (mkF m 45 #[.val (.ref a1), .val (.ref a2), .val (.int (0 : Int32)), .val (.int (1 : Int32)), .val .null, .val (.ref b8)] [(.int (1 : Int32)), (.ref b8), (.ref a1)])) _
    exact k
  obtain ⟨_, _, ⟨T11, L11, k11, n11⟩, -, X11, ⟨Lc11, hQ11, l11, y11, z11⟩, st11⟩ := Jvm.LawKit.callS X8 hx (y := (⟨"java/lang/StringUTF16", "coderFromArrayLen", "([BI)B"⟩ : MethodName)) hown (mvT hZ (hw _ (List.mem_of_getElem? (i := 26) rfl))) (mvT hZ (hw _ (List.mem_of_getElem? (i := 27) rfl))) (mvT hZ (hw _ (List.mem_of_getElem? (i := 20) rfl))) (mvT hZ (hw _ (List.mem_of_getElem? (i := 28) rfl))) (by decide) (backOf (W := 1) (rm_cfa1 l Z a0 hw [] b8 kB8 c0 T8.heap n0 O8 Vb8) hZ (hw _ (List.mem_of_getElem? (i := 28) rfl)) (hw _ (List.mem_of_getElem? (i := 20) rfl)) (by decide) (by decide)) (g := (mkF m 45 #[.val (.ref a1), .val (.ref a2), .val (.int (0 : Int32)), .val (.int (1 : Int32)), .val .null, .val (.ref b8)] [(.int (1 : Int32)), (.ref b8), (.ref a1)])) rfl (by rw [hml]; rfl) (argsL := [(.ref b8), (.int (1 : Int32))]) (rest := [(.ref a1)]) (lenOf pd_sti1_1 rfl) rfl (by show 2 * 0 + _ ≤ _; exact Nat.le_of_eq rfl) (hb hby d_sti1_45) (fun _ _ => ⟨rfl, rfl, (by decide : 1 + 0 ≤ _), (by decide : 1 + 0 ≤ _)⟩)
  dsimp only [Pt.U, Pt.locs, Pt.cells, Pt.slots] at X11 l11 y11 z11 st11 hQ11
  subst l11 y11 z11
  obtain ⟨rfl, N11q, e11⟩ := hQ11
  have N11 := Fr.app N8 N11q
  have pre_12 : ∀ t, Steps p.tables e below (T11.setTop (mkF m 48 #[.val (.ref a1), .val (.ref a2), .val (.int (0 : Int32)), .val (.int (1 : Int32)), .val .null, .val (.ref b8)] [(.int (0 : Int32)), (.ref a1)])) t → Steps p.tables e below (s₁.setTop (entryFrame m #[(.ref a1), (.ref a2), (.int (0 : Int32)), (.int (1 : Int32)), .null] 6)) t := fun t k => pre_10 t (st11 t k)
  obtain ⟨T13, h13, X13, e13, W13, st13⟩ := putF X11 hx hZ hown (host := "") (Or.inl (hw _ (List.mem_of_getElem? (i := 29) rfl))) Via.refl e11 (F2.keep K8 nin0) (E1.keep K8) (Or.inr ⟨(hw _ (List.mem_of_getElem? (i := 30) rfl)), rfl, hnm⟩) (hw _ (List.mem_of_getElem? (i := 5) rfl)) (ty := .byte) (by decide) rfl rfl (g := (mkF m 48 #[.val (.ref a1), .val (.ref a2), .val (.int (0 : Int32)), .val (.int (1 : Int32)), .val .null, .val (.ref b8)] [(.int (0 : Int32)), (.ref a1)])) rfl rfl (hb hby d_sti1_48)
  have Fw13 := (F2.keep K8 nin0).same W13
  have N13 := Fr.snoc X13 N11 g1
  have O13 : Old Z n0 h13 := O8.wr W13 g1
  have pre_14 : ∀ t, Steps p.tables e below (T13.setTop (mkF m 51 #[.val (.ref a1), .val (.ref a2), .val (.int (0 : Int32)), .val (.int (1 : Int32)), .val .null, .val (.ref b8)] [])) t → Steps p.tables e below (s₁.setTop (entryFrame m #[(.ref a1), (.ref a2), (.int (0 : Int32)), (.int (1 : Int32)), .null] 6)) t := fun t k => pre_12 t (st13 t k)
  have pre_15 : ∀ t, Steps p.tables e below (T13.setTop (mkF m 54 #[.val (.ref a1), .val (.ref a2), .val (.int (0 : Int32)), .val (.int (1 : Int32)), .val .null, .val (.ref b8)] [(.ref b8), (.ref a1)])) t → Steps p.tables e below (s₁.setTop (entryFrame m #[(.ref a1), (.ref a2), (.int (0 : Int32)), (.int (1 : Int32)), .null] 6)) t := by
    intro t k
    refine pre_14 t ?_
    show Steps p.tables e below (T13.setTop (mkF m 51 #[.val (.ref a1), .val (.ref a2), .val (.int (0 : Int32)), .val (.int (1 : Int32)), .val .null, .val (.ref b8)] [])) _
    refine XS.aloadN X13.here hx rfl (hb hby d_sti1_51) rfl rfl ?_
    show Steps p.tables e below (T13.setTop (mkF m 52 #[.val (.ref a1), .val (.ref a2), .val (.int (0 : Int32)), .val (.int (1 : Int32)), .val .null, .val (.ref b8)] [(.ref a1)])) _
    refine XS.aload X13.here hx rfl (hb hby d_sti1_52) rfl rfl ?_
    show Steps p.tables e below (T13.setTop (mkF m 54 #[.val (.ref a1), .val (.ref a2), .val (.int (0 : Int32)), .val (.int (1 : Int32)), .val .null, .val (.ref b8)] [(.ref b8), (.ref a1)])) _
    exact k
  obtain ⟨T16, h16, X16, e16, W16, st16⟩ := putF X13 hx hZ hown (host := "") (Or.inl (hw _ (List.mem_of_getElem? (i := 31) rfl))) Via.refl e13 ((F1.keep K8 nin0).other W13 (Or.inr (slot_ne (Or.inr (hw _ (List.mem_of_getElem? (i := 32) rfl))) (Or.inr (hw _ (List.mem_of_getElem? (i := 30) rfl))) (by decide) (t := (.array .byte)) (t' := .byte) (by decide) (by decide)))) ((E1.keep K8).wr W13) (Or.inr ⟨(hw _ (List.mem_of_getElem? (i := 32) rfl)), rfl, hnm⟩) (hw _ (List.mem_of_getElem? (i := 5) rfl)) (ty := (.array .byte)) (by decide) rfl rfl (g := (mkF m 54 #[.val (.ref a1), .val (.ref a2), .val (.int (0 : Int32)), .val (.int (1 : Int32)), .val .null, .val (.ref b8)] [(.ref b8), (.ref a1)])) rfl rfl (hb hby d_sti1_54)
  have Fw16 := ((F1.keep K8 nin0).other W13 (Or.inr (slot_ne (Or.inr (hw _ (List.mem_of_getElem? (i := 32) rfl))) (Or.inr (hw _ (List.mem_of_getElem? (i := 30) rfl))) (by decide) (t := (.array .byte)) (t' := .byte) (by decide) (by decide)))).same W16
  have N16 := Fr.snoc X16 N13 g1
  have O16 : Old Z n0 h16 := O13.wr W16 g1
  have pre_17 : ∀ t, Steps p.tables e below (T16.setTop (mkF m 57 #[.val (.ref a1), .val (.ref a2), .val (.int (0 : Int32)), .val (.int (1 : Int32)), .val .null, .val (.ref b8)] [])) t → Steps p.tables e below (s₁.setTop (entryFrame m #[(.ref a1), (.ref a2), (.int (0 : Int32)), (.int (1 : Int32)), .null] 6)) t := fun t k => pre_15 t (st16 t k)
  obtain ⟨fs, hr, hrun, hended, hW, hsame⟩ := X16.leave (v := none) (fun _ => rfl)
  refine ⟨_, _, pre_17 _ ?_, hrun, hended, _, _, rfl, ?_, ⟨_, rfl⟩, hW, hsame.mono (by decide) (by decide)⟩
  · show Steps p.tables e below (T16.setTop (mkF m 57 #[.val (.ref a1), .val (.ref a2), .val (.int (0 : Int32)), .val (.int (1 : Int32)), .val .null, .val (.ref b8)] [])) _
    exact X16.returnOut hx Bd.returns (hb hby d_sti1_57) hr
  · show Q_sti1 Z a1 a2 u1 u2 G1 kC c0 h0 n0 _ T16.heap _
    rw [e16]
    exact ⟨rfl, N16, ((((Keep.refl h0 [a1]).trans K8 all0).wr W13 (Or.inl (List.mem_of_getElem? (i := 0) rfl))).wr W16 (Or.inl (List.mem_of_getElem? (i := 0) rfl))), (Fw13.other W16 (Or.inr (slot_ne (Or.inr (hw _ (List.mem_of_getElem? (i := 30) rfl))) (Or.inr (hw _ (List.mem_of_getElem? (i := 32) rfl))) (by decide) (t := .byte) (t' := (.array .byte)) (by decide) (by decide)))), b8, kB8, (Nat.le_trans (Keep.refl h0 [a1]).1 sb8), Fw16, ((Vb8.other W13 (Ne.symm (Nat.ne_of_lt (Nat.lt_of_lt_of_le E1.lt sb8)))).other W16 (Ne.symm (Nat.ne_of_lt (Nat.lt_of_lt_of_le E1.lt sb8))))⟩
theorem d_str1_0 : decode jdk_42_method_3_code 0 = .ok (.aload_n 0, 1) := by decide +kernel
theorem d_str1_1 : decode jdk_42_method_3_code 1 = .ok (.aload_n 1, 1) := by decide +kernel
theorem d_str1_2 : decode jdk_42_method_3_code 2 = .ok (.iconst 0, 1) := by decide +kernel
theorem d_str1_3 : decode jdk_42_method_3_code 3 = .ok (.aload_n 1, 1) := by decide +kernel
theorem d_str1_4 : decode jdk_42_method_3_code 4 = .ok (.arraylength, 1) := by decide +kernel
theorem d_str1_5 : decode jdk_42_method_3_code 5 = .ok (.aconst_null, 1) := by decide +kernel
theorem d_str1_6 : decode jdk_42_method_3_code 6 = .ok (.invokespecial 27, 3) := by decide +kernel
theorem d_str1_9 : decode jdk_42_method_3_code 9 = .ok (.return_, 1) := by decide +kernel
theorem pn_str1 : plainName "java/lang/String" = true := by first | (simp [plainName, overriddenIn]; done) | decide +kernel
theorem pd_str1_0 : parseMethodDescriptor "([CIILjava/lang/Void;)V" = some ⟨[(.array .char), .int, .int, (.object "java/lang/Void")], none⟩ := by decide +kernel
theorem ef_str1 (m : MethodId) (a1 : Addr) (a2 : Addr) : entryFrame m #[(.ref a1), (.ref a2)] 2 = (mkF m 0 #[.val (.ref a1), .val (.ref a2)] []) := by first | (simp [entryFrame, mkF, argsToLocals, Value.category]; done) | rfl
def Q_str1 (Z : State) (a1 : Addr) (a2 : Addr) (u1 u2 : Value) (G1 : Int32) (kC : ClassId) (c0 : Int32) (h0 : Heap) (n0 : Nat) (v : Option Value) (h : Heap) (L : List Loc) : Prop := v = none ∧ Fr n0 L ∧ Keep h0 h [a1] ∧ Fld Z h a1 "java/lang/String" "coder" "B" (.int (0 : Int32)) ∧ ∃ b kB, h0.size ≤ b ∧ Fld Z h a1 "java/lang/String" "value" "[B" (.ref b) ∧ Arv Z h b kB .byte (1 : Int32) [(.int (c0).toInt8.toInt32)] (.int (0 : Int32))
set_option maxRecDepth 65536 in
set_option maxHeartbeats 40000000 in
theorem rm_str1 (l : Launch) (Z : State) (a0 : Array Value) (hw : ∀ d ∈ tables_1, d.before a0 Z = true) (ws : List Jvm.Cond) (a1 : Addr) (a2 : Addr) (u1 u2 : Value) (G1 : Int32) (kC : ClassId) (c0 : Int32) (h0 : Heap) (n0 : Nat) (O0 : Old Z n0 h0) (E1 : Exa Z h0 a1 "java/lang/String") (F1 : Fld Z h0 a1 "java/lang/String" "value" "[B" u1) (F2 : Fld Z h0 a1 "java/lang/String" "coder" "B" u2) (g1 : n0 ≤ a1) (SC : Sta Z Z.heap "java/lang/String" "COMPACT_STRINGS" "Z" (.int G1)) (hG : ¬ G1 = (0 : Int32)) (VC : Arv Z h0 a2 kC .char (1 : Int32) [(.int c0)] (.int (0 : Int32))) (hc0 : ¬ (255 : Int32) < c0) :
    MetFree l (⟨"java/lang/String", "<init>", "([C)V"⟩ : MethodName) (head1 (Jvm.Cond.code (⟨"java/lang/String", "<init>", "([C)V"⟩ : MethodName) jdk_42_method_3_code 2 none :: ws) ({ frames := 3, cells := 1, slots := 1, locals := 53 } : Room)) (fun a U => a = #[(.ref a1), (.ref a2)] ∧ Z.Warmed39 U.vm ∧ U.heap = h0) (fun _ _ _ _ _ => True) (fun _ U o U' => ∃ v L, o = .returned v ∧ Q_str1 Z a1 a2 u1 u2 G1 kC c0 h0 n0 v U'.heap L ∧ FrameEnd U o U' L ({ frames := 3, cells := 1, slots := 1, locals := 53 } : Room).cells ({ frames := 3, cells := 1, slots := 1, locals := 53 } : Room).slots) := by
  refine MetFree.of_bodySF (plainFor_of_name pn_str1) hisR ?_
  intro p e s m args below meth c s₁ Bd hml0 hP hK
  obtain ⟨rfl, hZ, hh⟩ := hP
  have hx := Bd.exec
  have hby := Bd.bytes
  have hml : c.maxLocals = 2 := hml0
  have hown : s.vm.findClass "java/lang/String" = some m.cls := findClass_of_methodNamed Bd.named
  have hnm := (name_of_methodNamed Bd.named Bd.method).1
  have X0 : Stand p l e ({ frames := 3, cells := 1, slots := 1, locals := 53 } : Room) s m #[(.ref a1), (.ref a2)] below meth c s₁ [] 0 0 := Stand.of_body Bd
  have e0 : s₁.heap = h0 := by rw [← hh, Bd.state]; rfl
  have N0 := Fr.nil n0
  have pre0 : ∀ t, Steps p.tables e below (s₁.setTop (mkF m 0 #[.val (.ref a1), .val (.ref a2)] [])) t → Steps p.tables e below (s₁.setTop (entryFrame m #[(.ref a1), (.ref a2)] 2)) t := fun t k => castTop (ef_str1 m a1 a2) k
  have pre_1 : ∀ t, Steps p.tables e below (s₁.setTop (mkF m 4 #[.val (.ref a1), .val (.ref a2)] [(.ref a2), (.int (0 : Int32)), (.ref a2), (.ref a1)])) t → Steps p.tables e below (s₁.setTop (entryFrame m #[(.ref a1), (.ref a2)] 2)) t := by
    intro t k
    refine pre0 t ?_
    show Steps p.tables e below (s₁.setTop (mkF m 0 #[.val (.ref a1), .val (.ref a2)] [])) _
    refine XS.aloadN X0.here hx rfl (hb hby d_str1_0) rfl rfl ?_
    show Steps p.tables e below (s₁.setTop (mkF m 1 #[.val (.ref a1), .val (.ref a2)] [(.ref a1)])) _
    refine XS.aloadN X0.here hx rfl (hb hby d_str1_1) rfl rfl ?_
    show Steps p.tables e below (s₁.setTop (mkF m 2 #[.val (.ref a1), .val (.ref a2)] [(.ref a2), (.ref a1)])) _
    refine XS.iconst X0.here hx rfl (hb hby d_str1_2) ?_
    show Steps p.tables e below (s₁.setTop (mkF m 3 #[.val (.ref a1), .val (.ref a2)] [(.int (0 : Int32)), (.ref a2), (.ref a1)])) _
    refine XS.aloadN X0.here hx rfl (hb hby d_str1_3) rfl rfl ?_
    show Steps p.tables e below (s₁.setTop (mkF m 4 #[.val (.ref a1), .val (.ref a2)] [(.ref a2), (.int (0 : Int32)), (.ref a2), (.ref a1)])) _
    exact k
  obtain ⟨cl2, Ar2, -, S2, M2, -, -⟩ := id VC
  have pre_3 : ∀ t, Steps p.tables e below (s₁.setTop (mkF m 6 #[.val (.ref a1), .val (.ref a2)] [.null, (.int (1 : Int32)), (.int (0 : Int32)), (.ref a2), (.ref a1)])) t → Steps p.tables e below (s₁.setTop (entryFrame m #[(.ref a1), (.ref a2)] 2)) t := by
    intro t k
    refine pre_1 t ?_
    show Steps p.tables e below (s₁.setTop (mkF m 4 #[.val (.ref a1), .val (.ref a2)] [(.ref a2), (.int (0 : Int32)), (.ref a2), (.ref a1)])) _
    refine X0.arraylength hx (cell := cl2) (by rw [e0]; exact Ar2.1) (State.isArrayOf_alike hZ.alike Ar2.2.1) (g := (mkF m 4 #[.val (.ref a1), .val (.ref a2)] [(.ref a2), (.int (0 : Int32)), (.ref a2), (.ref a1)])) rfl (rest := [(.int (0 : Int32)), (.ref a2), (.ref a1)]) rfl (hb hby d_str1_4) _ ?_
    rw [len_of S2 M2]
    show Steps p.tables e below (s₁.setTop (mkF m 5 #[.val (.ref a1), .val (.ref a2)] [(.int (1 : Int32)), (.int (0 : Int32)), (.ref a2), (.ref a1)])) _
    refine XS.aconstNull X0.here hx rfl (hb hby d_str1_5) ?_
    show Steps p.tables e below (s₁.setTop (mkF m 6 #[.val (.ref a1), .val (.ref a2)] [.null, (.int (1 : Int32)), (.int (0 : Int32)), (.ref a2), (.ref a1)])) _
    exact k
  obtain ⟨_, _, ⟨T4, L4, k4, n4⟩, -, X4, ⟨Lc4, hQ4, l4, y4, z4⟩, st4⟩ := X0.specialBack hx (y := (⟨"java/lang/String", "<init>", "([CIILjava/lang/Void;)V"⟩ : MethodName)) rfl hown (mvT hZ (hw _ (List.mem_of_getElem? (i := 10) rfl))) (mvT hZ (hw _ (List.mem_of_getElem? (i := 11) rfl))) (mvT hZ (hw _ (List.mem_of_getElem? (i := 13) rfl))) (by decide) (backOf (W := 0) (rm_sti1 l Z a0 hw [] a1 a2 u1 u2 G1 kC c0 h0 n0 O0 E1 F1 F2 g1 SC hG VC hc0) hZ (hw _ (List.mem_of_getElem? (i := 13) rfl)) (hw _ (List.mem_of_getElem? (i := 6) rfl)) (by decide) (by decide)) (g := (mkF m 6 #[.val (.ref a1), .val (.ref a2)] [.null, (.int (1 : Int32)), (.int (0 : Int32)), (.ref a2), (.ref a1)])) rfl (by rw [hml]; rfl) (Steps.refl _) (a := a1) (argsL := [(.ref a2), (.int (0 : Int32)), (.int (1 : Int32)), .null]) (rest := []) (lenOf pd_str1_0 rfl) rfl (by show 2 * 0 + _ ≤ _; exact Nat.le_of_eq rfl) (hb hby d_str1_6) (fun _ _ => ⟨rfl, e0, (by decide : 0 + 1 ≤ _), (by decide : 0 + 1 ≤ _)⟩)
  dsimp only [Pt.U, Pt.locs, Pt.cells, Pt.slots] at X4 l4 y4 z4 st4 hQ4
  subst l4 y4 z4
  obtain ⟨rfl, N4q, K4, Fc4, b4, kB4, sb4, Fv4, Vb4⟩ := hQ4
  have N4 := Fr.app N0 N4q
  have O4 : Old Z n0 T4.heap := O0.keep K4 (allS g1 all0)
  have pre_5 : ∀ t, Steps p.tables e below (T4.setTop (mkF m 9 #[.val (.ref a1), .val (.ref a2)] [])) t → Steps p.tables e below (s₁.setTop (entryFrame m #[(.ref a1), (.ref a2)] 2)) t := fun t k => pre_3 t (st4.trans k)
  obtain ⟨fs, hr, hrun, hended, hW, hsame⟩ := X4.leave (v := none) (fun _ => rfl)
  refine ⟨_, _, pre_5 _ ?_, hrun, hended, _, _, rfl, ?_, ⟨_, rfl⟩, hW, hsame.mono (by decide) (by decide)⟩
  · show Steps p.tables e below (T4.setTop (mkF m 9 #[.val (.ref a1), .val (.ref a2)] [])) _
    exact X4.returnOut hx Bd.returns (hb hby d_str1_9) hr
  · show Q_str1 Z a1 a2 u1 u2 G1 kC c0 h0 n0 _ T4.heap _
    exact ⟨rfl, N4, ((Keep.refl h0 [a1]).trans K4 (allS (Or.inl (List.mem_of_getElem? (i := 0) rfl)) all0)), Fc4, b4, kB4, sb4, Fv4, Vb4⟩
theorem d_ini_0 : decode prog_26_method_1_code 0 = .ok (.aload_n 0, 1) := by decide +kernel
theorem d_ini_1 : decode prog_26_method_1_code 1 = .ok (.invokespecial 1, 3) := by decide +kernel
theorem d_ini_4 : decode prog_26_method_1_code 4 = .ok (.aload_n 0, 1) := by decide +kernel
theorem d_ini_5 : decode prog_26_method_1_code 5 = .ok (.aload_n 1, 1) := by decide +kernel
theorem d_ini_6 : decode prog_26_method_1_code 6 = .ok (.putfield 7, 3) := by decide +kernel
theorem d_ini_9 : decode prog_26_method_1_code 9 = .ok (.aload_n 0, 1) := by decide +kernel
theorem d_ini_10 : decode prog_26_method_1_code 10 = .ok (.iload_n 2, 1) := by decide +kernel
theorem d_ini_11 : decode prog_26_method_1_code 11 = .ok (.putfield 13, 3) := by decide +kernel
theorem d_ini_14 : decode prog_26_method_1_code 14 = .ok (.aload_n 0, 1) := by decide +kernel
theorem d_ini_15 : decode prog_26_method_1_code 15 = .ok (.aload_n 3, 1) := by decide +kernel
theorem d_ini_16 : decode prog_26_method_1_code 16 = .ok (.putfield 17, 3) := by decide +kernel
theorem d_ini_19 : decode prog_26_method_1_code 19 = .ok (.return_, 1) := by decide +kernel
theorem pn_ini : plainName "com/example/tranche/tranche/Rating" = true := by first | (simp [plainName, overriddenIn]; done) | decide +kernel
theorem ef_ini (m : MethodId) (a1 : Addr) (a2 : Addr) (p3 : Int32) (a4 : Addr) : entryFrame m #[(.ref a1), (.ref a2), (.int p3), (.ref a4)] 4 = (mkF m 0 #[.val (.ref a1), .val (.ref a2), .val (.int p3), .val (.ref a4)] []) := by first | (simp [entryFrame, mkF, argsToLocals, Value.category]; done) | rfl
def Q_ini (Z : State) (a1 : Addr) (a2 : Addr) (p3 : Int32) (a4 : Addr) (u1 u2 u3 : Value) (h0 : Heap) (n0 : Nat) (v : Option Value) (h : Heap) (L : List Loc) : Prop := v = none ∧ Fr n0 L ∧ Keep h0 h [a1] ∧ Fld Z h a1 "com/example/tranche/tranche/Rating" "place" "I" (.int p3)
set_option maxRecDepth 65536 in
set_option maxHeartbeats 40000000 in
theorem rm_ini (l : Launch) (Z : State) (a0 : Array Value) (hw : ∀ d ∈ tables_1, d.before a0 Z = true) (ws : List Jvm.Cond) (a1 : Addr) (a2 : Addr) (p3 : Int32) (a4 : Addr) (u1 u2 u3 : Value) (h0 : Heap) (n0 : Nat) (O0 : Old Z n0 h0) (E1 : Exa Z h0 a1 "com/example/tranche/tranche/Rating") (F1 : Fld Z h0 a1 "com/example/tranche/tranche/Rating" "agency" "Lcom/example/tranche/tranche/RatingAgency;" u1) (F2 : Fld Z h0 a1 "com/example/tranche/tranche/Rating" "place" "I" u2) (F3 : Fld Z h0 a1 "com/example/tranche/tranche/Rating" "text" "Ljava/lang/String;" u3) (g1 : n0 ≤ a1) :
    MetFree l (⟨"com/example/tranche/tranche/Rating", "<init>", "(Lcom/example/tranche/tranche/RatingAgency;ILjava/lang/String;)V"⟩ : MethodName) (head1 (Jvm.Cond.code (⟨"com/example/tranche/tranche/Rating", "<init>", "(Lcom/example/tranche/tranche/RatingAgency;ILjava/lang/String;)V"⟩ : MethodName) prog_26_method_1_code 4 none :: ws) ({ frames := 1, cells := 0, slots := 0, locals := 12 } : Room)) (fun a U => a = #[(.ref a1), (.ref a2), (.int p3), (.ref a4)] ∧ Z.Warmed39 U.vm ∧ U.heap = h0) (fun _ _ _ _ _ => True) (fun _ U o U' => ∃ v L, o = .returned v ∧ Q_ini Z a1 a2 p3 a4 u1 u2 u3 h0 n0 v U'.heap L ∧ FrameEnd U o U' L ({ frames := 1, cells := 0, slots := 0, locals := 12 } : Room).cells ({ frames := 1, cells := 0, slots := 0, locals := 12 } : Room).slots) := by
  refine MetFree.of_bodySF (plainFor_of_name pn_ini) hisR ?_
  intro p e s m args below meth c s₁ Bd hml0 hP hK
  obtain ⟨rfl, hZ, hh⟩ := hP
  have hx := Bd.exec
  have hby := Bd.bytes
  have hml : c.maxLocals = 4 := hml0
  have hown : s.vm.findClass "com/example/tranche/tranche/Rating" = some m.cls := findClass_of_methodNamed Bd.named
  have hnm := (name_of_methodNamed Bd.named Bd.method).1
  have X0 : Stand p l e ({ frames := 1, cells := 0, slots := 0, locals := 12 } : Room) s m #[(.ref a1), (.ref a2), (.int p3), (.ref a4)] below meth c s₁ [] 0 0 := Stand.of_body Bd
  have e0 : s₁.heap = h0 := by rw [← hh, Bd.state]; rfl
  have N0 := Fr.nil n0
  have pre0 : ∀ t, Steps p.tables e below (s₁.setTop (mkF m 0 #[.val (.ref a1), .val (.ref a2), .val (.int p3), .val (.ref a4)] [])) t → Steps p.tables e below (s₁.setTop (entryFrame m #[(.ref a1), (.ref a2), (.int p3), (.ref a4)] 4)) t := fun t k => castTop (ef_ini m a1 a2 p3 a4) k
  have pre_1 : ∀ t, Steps p.tables e below (s₁.setTop (mkF m 1 #[.val (.ref a1), .val (.ref a2), .val (.int p3), .val (.ref a4)] [(.ref a1)])) t → Steps p.tables e below (s₁.setTop (entryFrame m #[(.ref a1), (.ref a2), (.int p3), (.ref a4)] 4)) t := by
    intro t k
    refine pre0 t ?_
    show Steps p.tables e below (s₁.setTop (mkF m 0 #[.val (.ref a1), .val (.ref a2), .val (.int p3), .val (.ref a4)] [])) _
    refine XS.aloadN X0.here hx rfl (hb hby d_ini_0) rfl rfl ?_
    show Steps p.tables e below (s₁.setTop (mkF m 1 #[.val (.ref a1), .val (.ref a2), .val (.int p3), .val (.ref a4)] [(.ref a1)])) _
    exact k
  obtain ⟨T2, X2, e2, st2⟩ := initO X0 hx hZ hown (hw _ (List.mem_of_getElem? (i := 39) rfl)) (hw _ (List.mem_of_getElem? (i := 15) rfl)) (hw _ (List.mem_of_getElem? (i := 16) rfl)) e0 (g := (mkF m 1 #[.val (.ref a1), .val (.ref a2), .val (.int p3), .val (.ref a4)] [(.ref a1)])) rfl (by rw [hml]; rfl) rfl (hb hby d_ini_1) (by decide) (W := 0) (by show 2 * 0 + _ ≤ _; exact Nat.le_of_eq rfl) (by decide)
  have pre_3 : ∀ t, Steps p.tables e below (T2.setTop (mkF m 4 #[.val (.ref a1), .val (.ref a2), .val (.int p3), .val (.ref a4)] [])) t → Steps p.tables e below (s₁.setTop (entryFrame m #[(.ref a1), (.ref a2), (.int p3), (.ref a4)] 4)) t := fun t k => pre_1 t (st2 t k)
  have pre_4 : ∀ t, Steps p.tables e below (T2.setTop (mkF m 6 #[.val (.ref a1), .val (.ref a2), .val (.int p3), .val (.ref a4)] [(.ref a2), (.ref a1)])) t → Steps p.tables e below (s₁.setTop (entryFrame m #[(.ref a1), (.ref a2), (.int p3), (.ref a4)] 4)) t := by
    intro t k
    refine pre_3 t ?_
    show Steps p.tables e below (T2.setTop (mkF m 4 #[.val (.ref a1), .val (.ref a2), .val (.int p3), .val (.ref a4)] [])) _
    refine XS.aloadN X2.here hx rfl (hb hby d_ini_4) rfl rfl ?_
    show Steps p.tables e below (T2.setTop (mkF m 5 #[.val (.ref a1), .val (.ref a2), .val (.int p3), .val (.ref a4)] [(.ref a1)])) _
    refine XS.aloadN X2.here hx rfl (hb hby d_ini_5) rfl rfl ?_
    show Steps p.tables e below (T2.setTop (mkF m 6 #[.val (.ref a1), .val (.ref a2), .val (.int p3), .val (.ref a4)] [(.ref a2), (.ref a1)])) _
    exact k
  obtain ⟨T5, h5, X5, e5, W5, st5⟩ := putF X2 hx hZ hown (host := "") (Or.inl (hw _ (List.mem_of_getElem? (i := 40) rfl))) Via.refl e2 F1 E1 (Or.inr ⟨(hw _ (List.mem_of_getElem? (i := 41) rfl)), rfl, hnm⟩) (hw _ (List.mem_of_getElem? (i := 34) rfl)) (ty := (.object "com/example/tranche/tranche/RatingAgency")) (by decide) rfl rfl (g := (mkF m 6 #[.val (.ref a1), .val (.ref a2), .val (.int p3), .val (.ref a4)] [(.ref a2), (.ref a1)])) rfl rfl (hb hby d_ini_6)
  have Fw5 := F1.same W5
  have N5 := Fr.snoc X5 N0 g1
  have O5 : Old Z n0 h5 := O0.wr W5 g1
  have pre_6 : ∀ t, Steps p.tables e below (T5.setTop (mkF m 9 #[.val (.ref a1), .val (.ref a2), .val (.int p3), .val (.ref a4)] [])) t → Steps p.tables e below (s₁.setTop (entryFrame m #[(.ref a1), (.ref a2), (.int p3), (.ref a4)] 4)) t := fun t k => pre_4 t (st5 t k)
  have pre_7 : ∀ t, Steps p.tables e below (T5.setTop (mkF m 11 #[.val (.ref a1), .val (.ref a2), .val (.int p3), .val (.ref a4)] [(.int p3), (.ref a1)])) t → Steps p.tables e below (s₁.setTop (entryFrame m #[(.ref a1), (.ref a2), (.int p3), (.ref a4)] 4)) t := by
    intro t k
    refine pre_6 t ?_
    show Steps p.tables e below (T5.setTop (mkF m 9 #[.val (.ref a1), .val (.ref a2), .val (.int p3), .val (.ref a4)] [])) _
    refine XS.aloadN X5.here hx rfl (hb hby d_ini_9) rfl rfl ?_
    show Steps p.tables e below (T5.setTop (mkF m 10 #[.val (.ref a1), .val (.ref a2), .val (.int p3), .val (.ref a4)] [(.ref a1)])) _
    refine XS.iloadN X5.here hx rfl (hb hby d_ini_10) rfl ?_
    show Steps p.tables e below (T5.setTop (mkF m 11 #[.val (.ref a1), .val (.ref a2), .val (.int p3), .val (.ref a4)] [(.int p3), (.ref a1)])) _
    exact k
  obtain ⟨T8, h8, X8, e8, W8, st8⟩ := putF X5 hx hZ hown (host := "") (Or.inl (hw _ (List.mem_of_getElem? (i := 42) rfl))) Via.refl e5 (F2.other W5 (Or.inr (slot_ne (Or.inr (hw _ (List.mem_of_getElem? (i := 43) rfl))) (Or.inr (hw _ (List.mem_of_getElem? (i := 41) rfl))) (by decide) (t := .int) (t' := (.object "com/example/tranche/tranche/RatingAgency")) (by decide) (by decide)))) (E1.wr W5) (Or.inr ⟨(hw _ (List.mem_of_getElem? (i := 43) rfl)), rfl, hnm⟩) (hw _ (List.mem_of_getElem? (i := 34) rfl)) (ty := .int) (by decide) rfl rfl (g := (mkF m 11 #[.val (.ref a1), .val (.ref a2), .val (.int p3), .val (.ref a4)] [(.int p3), (.ref a1)])) rfl rfl (hb hby d_ini_11)
  have Fw8 := (F2.other W5 (Or.inr (slot_ne (Or.inr (hw _ (List.mem_of_getElem? (i := 43) rfl))) (Or.inr (hw _ (List.mem_of_getElem? (i := 41) rfl))) (by decide) (t := .int) (t' := (.object "com/example/tranche/tranche/RatingAgency")) (by decide) (by decide)))).same W8
  have N8 := Fr.snoc X8 N5 g1
  have O8 : Old Z n0 h8 := O5.wr W8 g1
  have pre_9 : ∀ t, Steps p.tables e below (T8.setTop (mkF m 14 #[.val (.ref a1), .val (.ref a2), .val (.int p3), .val (.ref a4)] [])) t → Steps p.tables e below (s₁.setTop (entryFrame m #[(.ref a1), (.ref a2), (.int p3), (.ref a4)] 4)) t := fun t k => pre_7 t (st8 t k)
  have pre_10 : ∀ t, Steps p.tables e below (T8.setTop (mkF m 16 #[.val (.ref a1), .val (.ref a2), .val (.int p3), .val (.ref a4)] [(.ref a4), (.ref a1)])) t → Steps p.tables e below (s₁.setTop (entryFrame m #[(.ref a1), (.ref a2), (.int p3), (.ref a4)] 4)) t := by
    intro t k
    refine pre_9 t ?_
    show Steps p.tables e below (T8.setTop (mkF m 14 #[.val (.ref a1), .val (.ref a2), .val (.int p3), .val (.ref a4)] [])) _
    refine XS.aloadN X8.here hx rfl (hb hby d_ini_14) rfl rfl ?_
    show Steps p.tables e below (T8.setTop (mkF m 15 #[.val (.ref a1), .val (.ref a2), .val (.int p3), .val (.ref a4)] [(.ref a1)])) _
    refine XS.aloadN X8.here hx rfl (hb hby d_ini_15) rfl rfl ?_
    show Steps p.tables e below (T8.setTop (mkF m 16 #[.val (.ref a1), .val (.ref a2), .val (.int p3), .val (.ref a4)] [(.ref a4), (.ref a1)])) _
    exact k
  obtain ⟨T11, h11, X11, e11, W11, st11⟩ := putF X8 hx hZ hown (host := "") (Or.inl (hw _ (List.mem_of_getElem? (i := 44) rfl))) Via.refl e8 ((F3.other W5 (Or.inr (slot_ne (Or.inr (hw _ (List.mem_of_getElem? (i := 45) rfl))) (Or.inr (hw _ (List.mem_of_getElem? (i := 41) rfl))) (by decide) (t := (.object "java/lang/String")) (t' := (.object "com/example/tranche/tranche/RatingAgency")) (by decide) (by decide)))).other W8 (Or.inr (slot_ne (Or.inr (hw _ (List.mem_of_getElem? (i := 45) rfl))) (Or.inr (hw _ (List.mem_of_getElem? (i := 43) rfl))) (by decide) (t := (.object "java/lang/String")) (t' := .int) (by decide) (by decide)))) ((E1.wr W5).wr W8) (Or.inr ⟨(hw _ (List.mem_of_getElem? (i := 45) rfl)), rfl, hnm⟩) (hw _ (List.mem_of_getElem? (i := 34) rfl)) (ty := (.object "java/lang/String")) (by decide) rfl rfl (g := (mkF m 16 #[.val (.ref a1), .val (.ref a2), .val (.int p3), .val (.ref a4)] [(.ref a4), (.ref a1)])) rfl rfl (hb hby d_ini_16)
  have Fw11 := ((F3.other W5 (Or.inr (slot_ne (Or.inr (hw _ (List.mem_of_getElem? (i := 45) rfl))) (Or.inr (hw _ (List.mem_of_getElem? (i := 41) rfl))) (by decide) (t := (.object "java/lang/String")) (t' := (.object "com/example/tranche/tranche/RatingAgency")) (by decide) (by decide)))).other W8 (Or.inr (slot_ne (Or.inr (hw _ (List.mem_of_getElem? (i := 45) rfl))) (Or.inr (hw _ (List.mem_of_getElem? (i := 43) rfl))) (by decide) (t := (.object "java/lang/String")) (t' := .int) (by decide) (by decide)))).same W11
  have N11 := Fr.snoc X11 N8 g1
  have O11 : Old Z n0 h11 := O8.wr W11 g1
  have pre_12 : ∀ t, Steps p.tables e below (T11.setTop (mkF m 19 #[.val (.ref a1), .val (.ref a2), .val (.int p3), .val (.ref a4)] [])) t → Steps p.tables e below (s₁.setTop (entryFrame m #[(.ref a1), (.ref a2), (.int p3), (.ref a4)] 4)) t := fun t k => pre_10 t (st11 t k)
  obtain ⟨fs, hr, hrun, hended, hW, hsame⟩ := X11.leave (v := none) (fun _ => rfl)
  refine ⟨_, _, pre_12 _ ?_, hrun, hended, _, _, rfl, ?_, ⟨_, rfl⟩, hW, hsame.mono (by decide) (by decide)⟩
  · show Steps p.tables e below (T11.setTop (mkF m 19 #[.val (.ref a1), .val (.ref a2), .val (.int p3), .val (.ref a4)] [])) _
    exact X11.returnOut hx Bd.returns (hb hby d_ini_19) hr
  · show Q_ini Z a1 a2 p3 a4 u1 u2 u3 h0 n0 _ T11.heap _
    rw [e11]
    exact ⟨rfl, N11, ((((Keep.refl h0 [a1]).wr W5 (Or.inl (List.mem_of_getElem? (i := 0) rfl))).wr W8 (Or.inl (List.mem_of_getElem? (i := 0) rfl))).wr W11 (Or.inl (List.mem_of_getElem? (i := 0) rfl))), (Fw8.other W11 (Or.inr (slot_ne (Or.inr (hw _ (List.mem_of_getElem? (i := 43) rfl))) (Or.inr (hw _ (List.mem_of_getElem? (i := 45) rfl))) (by decide) (t := .int) (t' := (.object "java/lang/String")) (by decide) (by decide))))⟩
theorem d_mb_0 : decode prog_26_method_3_code 0 = .ok (.aload_n 0, 1) := by decide +kernel
theorem d_mb_1 : decode prog_26_method_3_code 1 = .ok (.getfield 13, 3) := by decide +kernel
theorem d_mb_4 : decode prog_26_method_3_code 4 = .ok (.aload_n 1, 1) := by decide +kernel
theorem d_mb_5 : decode prog_26_method_3_code 5 = .ok (.getfield 13, 3) := by decide +kernel
theorem d_mb_8 : decode prog_26_method_3_code 8 = .ok (.if_icmp .gt 7, 3) := by decide +kernel
theorem d_mb_11 : decode prog_26_method_3_code 11 = .ok (.iconst 1, 1) := by decide +kernel
theorem d_mb_12 : decode prog_26_method_3_code 12 = .ok (.goto 4, 3) := by decide +kernel
theorem d_mb_15 : decode prog_26_method_3_code 15 = .ok (.iconst 0, 1) := by decide +kernel
theorem d_mb_16 : decode prog_26_method_3_code 16 = .ok (.ireturn, 1) := by decide +kernel
theorem pn_mb : plainName "com/example/tranche/tranche/Rating" = true := by first | (simp [plainName, overriddenIn]; done) | decide +kernel
theorem ef_mb (m : MethodId) (a1 : Addr) (a2 : Addr) : entryFrame m #[(.ref a1), (.ref a2)] 2 = (mkF m 0 #[.val (.ref a1), .val (.ref a2)] []) := by first | (simp [entryFrame, mkF, argsToLocals, Value.category]; done) | rfl
def Q_mb (Z : State) (a1 : Addr) (a2 : Addr) (w1 w2 : Int32) (h0 : Heap) (n0 : Nat) (v : Option Value) (h : Heap) (L : List Loc) : Prop := v = some (.int (if w2 < w1 then (0 : Int32) else (1 : Int32))) ∧ Fr n0 L ∧ h = h0
set_option maxRecDepth 65536 in
set_option maxHeartbeats 40000000 in
theorem rm_mb (l : Launch) (Z : State) (a0 : Array Value) (hw : ∀ d ∈ tables_1, d.before a0 Z = true) (ws : List Jvm.Cond) (a1 : Addr) (a2 : Addr) (w1 w2 : Int32) (h0 : Heap) (n0 : Nat) (O0 : Old Z n0 h0) (F1 : Fld Z h0 a1 "com/example/tranche/tranche/Rating" "place" "I" (.int w1)) (F2 : Fld Z h0 a2 "com/example/tranche/tranche/Rating" "place" "I" (.int w2)) :
    MetFree l (⟨"com/example/tranche/tranche/Rating", "meetsOrBeats", "(Lcom/example/tranche/tranche/Rating;)Z"⟩ : MethodName) (head1 (Jvm.Cond.code (⟨"com/example/tranche/tranche/Rating", "meetsOrBeats", "(Lcom/example/tranche/tranche/Rating;)Z"⟩ : MethodName) prog_26_method_3_code 2 (some .boolean) :: ws) ({ frames := 0, cells := 0, slots := 0, locals := 0 } : Room)) (fun a U => a = #[(.ref a1), (.ref a2)] ∧ Z.Warmed39 U.vm ∧ U.heap = h0) (fun _ _ _ _ _ => True) (fun _ U o U' => ∃ v L, o = .returned v ∧ Q_mb Z a1 a2 w1 w2 h0 n0 v U'.heap L ∧ FrameEnd U o U' L ({ frames := 0, cells := 0, slots := 0, locals := 0 } : Room).cells ({ frames := 0, cells := 0, slots := 0, locals := 0 } : Room).slots) := by
  refine MetFree.of_bodySF (plainFor_of_name pn_mb) hisR ?_
  intro p e s m args below meth c s₁ Bd hml0 hP hK
  obtain ⟨rfl, hZ, hh⟩ := hP
  have hx := Bd.exec
  have hby := Bd.bytes
  have hml : c.maxLocals = 2 := hml0
  have hown : s.vm.findClass "com/example/tranche/tranche/Rating" = some m.cls := findClass_of_methodNamed Bd.named
  have hnm := (name_of_methodNamed Bd.named Bd.method).1
  have X0 : Stand p l e ({ frames := 0, cells := 0, slots := 0, locals := 0 } : Room) s m #[(.ref a1), (.ref a2)] below meth c s₁ [] 0 0 := Stand.of_body Bd
  have e0 : s₁.heap = h0 := by rw [← hh, Bd.state]; rfl
  have N0 := Fr.nil n0
  have pre0 : ∀ t, Steps p.tables e below (s₁.setTop (mkF m 0 #[.val (.ref a1), .val (.ref a2)] [])) t → Steps p.tables e below (s₁.setTop (entryFrame m #[(.ref a1), (.ref a2)] 2)) t := fun t k => castTop (ef_mb m a1 a2) k
  have pre_1 : ∀ t, Steps p.tables e below (s₁.setTop (mkF m 1 #[.val (.ref a1), .val (.ref a2)] [(.ref a1)])) t → Steps p.tables e below (s₁.setTop (entryFrame m #[(.ref a1), (.ref a2)] 2)) t := by
    intro t k
    refine pre0 t ?_
    show Steps p.tables e below (s₁.setTop (mkF m 0 #[.val (.ref a1), .val (.ref a2)] [])) _
    refine XS.aloadN X0.here hx rfl (hb hby d_mb_0) rfl rfl ?_
    show Steps p.tables e below (s₁.setTop (mkF m 1 #[.val (.ref a1), .val (.ref a2)] [(.ref a1)])) _
    exact k
  obtain ⟨T2, X2, e2, st2⟩ := getF X0 hx hZ hown (host := "") (Or.inl (hw _ (List.mem_of_getElem? (i := 42) rfl))) Via.refl e0 F1 (g := (mkF m 1 #[.val (.ref a1), .val (.ref a2)] [(.ref a1)])) rfl rfl (hb hby d_mb_1)
  have pre_3 : ∀ t, Steps p.tables e below (T2.setTop (mkF m 4 #[.val (.ref a1), .val (.ref a2)] [(.int w1)])) t → Steps p.tables e below (s₁.setTop (entryFrame m #[(.ref a1), (.ref a2)] 2)) t := fun t k => pre_1 t (st2 t k)
  have pre_4 : ∀ t, Steps p.tables e below (T2.setTop (mkF m 5 #[.val (.ref a1), .val (.ref a2)] [(.ref a2), (.int w1)])) t → Steps p.tables e below (s₁.setTop (entryFrame m #[(.ref a1), (.ref a2)] 2)) t := by
    intro t k
    refine pre_3 t ?_
    show Steps p.tables e below (T2.setTop (mkF m 4 #[.val (.ref a1), .val (.ref a2)] [(.int w1)])) _
    refine XS.aloadN X2.here hx rfl (hb hby d_mb_4) rfl rfl ?_
    show Steps p.tables e below (T2.setTop (mkF m 5 #[.val (.ref a1), .val (.ref a2)] [(.ref a2), (.int w1)])) _
    exact k
  obtain ⟨T5, X5, e5, st5⟩ := getF X2 hx hZ hown (host := "") (Or.inl (hw _ (List.mem_of_getElem? (i := 42) rfl))) Via.refl e2 F2 (g := (mkF m 5 #[.val (.ref a1), .val (.ref a2)] [(.ref a2), (.int w1)])) rfl rfl (hb hby d_mb_5)
  have pre_6 : ∀ t, Steps p.tables e below (T5.setTop (mkF m 8 #[.val (.ref a1), .val (.ref a2)] [(.int w2), (.int w1)])) t → Steps p.tables e below (s₁.setTop (entryFrame m #[(.ref a1), (.ref a2)] 2)) t := fun t k => pre_4 t (st5 t k)
  by_cases hc7 : w2 < w1
  · skip
    have pre_8 : ∀ t, Steps p.tables e below (T5.setTop (mkF m 16 #[.val (.ref a1), .val (.ref a2)] [(.int (0 : Int32))])) t → Steps p.tables e below (s₁.setTop (entryFrame m #[(.ref a1), (.ref a2)] 2)) t := by
      intro t k
      refine pre_6 t ?_
      show Steps p.tables e below (T5.setTop (mkF m 8 #[.val (.ref a1), .val (.ref a2)] [(.int w2), (.int w1)])) _
      refine XS.icmpYes X5.here hx rfl (pc0 := 8) (pc' := 15) rfl (hb hby d_mb_8) rfl (XT.ii_gt_t hc7) (by decide) (by decide) ?_
      show Steps p.tables e below (T5.setTop (mkF m 15 #[.val (.ref a1), .val (.ref a2)] [])) _
      refine XS.iconst X5.here hx rfl (hb hby d_mb_15) ?_
      show Steps p.tables e below (T5.setTop (mkF m 16 #[.val (.ref a1), .val (.ref a2)] [(.int (0 : Int32))])) _
      exact k
    obtain ⟨fs, hr, hrun, hended, hW, hsame⟩ := X5.leave (v := some (.int (0 : Int32))) (fun h => by rw [Bd.returns] at h; cases h)
    refine ⟨_, _, pre_8 _ ?_, hrun, hended, _, _, rfl, ?_, ⟨_, rfl⟩, hW, hsame.mono (by decide) (by decide)⟩
    · show Steps p.tables e below (T5.setTop (mkF m 16 #[.val (.ref a1), .val (.ref a2)] [(.int (0 : Int32))])) _
      exact retN X5 hx (t := .boolean) Bd.returns (by simp) (hb hby d_mb_16) hr
    · show Q_mb Z a1 a2 w1 w2 h0 n0 _ T5.heap _
      rw [e5]
      exact ⟨by simp [hc7], N0, rfl⟩
  · skip
    have pre_9 : ∀ t, Steps p.tables e below (T5.setTop (mkF m 16 #[.val (.ref a1), .val (.ref a2)] [(.int (1 : Int32))])) t → Steps p.tables e below (s₁.setTop (entryFrame m #[(.ref a1), (.ref a2)] 2)) t := by
      intro t k
      refine pre_6 t ?_
      show Steps p.tables e below (T5.setTop (mkF m 8 #[.val (.ref a1), .val (.ref a2)] [(.int w2), (.int w1)])) _
      refine XS.icmpNo X5.here hx rfl (hb hby d_mb_8) rfl (XT.ii_gt_f hc7) ?_
      show Steps p.tables e below (T5.setTop (mkF m 11 #[.val (.ref a1), .val (.ref a2)] [])) _
      refine XS.iconst X5.here hx rfl (hb hby d_mb_11) ?_
      show Steps p.tables e below (T5.setTop (mkF m 12 #[.val (.ref a1), .val (.ref a2)] [(.int (1 : Int32))])) _
      refine XS.goto X5.here hx rfl (pc0 := 12) (pc' := 16) rfl (hb hby d_mb_12) (by decide) (by decide) ?_
      show Steps p.tables e below (T5.setTop (mkF m 16 #[.val (.ref a1), .val (.ref a2)] [(.int (1 : Int32))])) _
      exact k
    obtain ⟨fs, hr, hrun, hended, hW, hsame⟩ := X5.leave (v := some (.int (1 : Int32))) (fun h => by rw [Bd.returns] at h; cases h)
    refine ⟨_, _, pre_9 _ ?_, hrun, hended, _, _, rfl, ?_, ⟨_, rfl⟩, hW, hsame.mono (by decide) (by decide)⟩
    · show Steps p.tables e below (T5.setTop (mkF m 16 #[.val (.ref a1), .val (.ref a2)] [(.int (1 : Int32))])) _
      exact retN X5 hx (t := .boolean) Bd.returns (by simp) (hb hby d_mb_16) hr
    · show Q_mb Z a1 a2 w1 w2 h0 n0 _ T5.heap _
      rw [e5]
      exact ⟨by simp [hc7], N0, rfl⟩
theorem pn_law : plainName "com/example/tranche/tranche/RatingMeetsOrBeatsPinLaw" = true := by first | (simp [plainName, overriddenIn]; done) | decide +kernel
theorem pd_law_0 : parseMethodDescriptor "([C)V" = some ⟨[(.array .char)], none⟩ := by decide +kernel
theorem pd_law_1 : parseMethodDescriptor "(Lcom/example/tranche/tranche/RatingAgency;ILjava/lang/String;)V" = some ⟨[(.object "com/example/tranche/tranche/RatingAgency"), .int, (.object "java/lang/String")], none⟩ := by decide +kernel
theorem pd_law_2 : parseMethodDescriptor "(Lcom/example/tranche/tranche/Rating;)Z" = some ⟨[(.object "com/example/tranche/tranche/Rating")], some .boolean⟩ := by decide +kernel
theorem ef_law (m : MethodId) (p1 : Int32) (p2 : Int32) (p3 : Int32) (p4 : Int32) : entryFrame m #[(.int p1), (.int p2), (.int p3), (.int p4)] maxLocals = (mkF m 0 #[.val (.int p1), .val (.int p2), .val (.int p3), .val (.int p4), .unset, .unset, .unset, .unset, .unset, .unset, .unset, .unset, .unset, .unset, .unset, .unset, .unset, .unset] []) := by first | (simp [entryFrame, mkF, argsToLocals, Value.category, maxLocals]; done) | rfl
def Q_law (Z : State) (p1 : Int32) (p2 : Int32) (p3 : Int32) (p4 : Int32) (aMOODYS : Addr) (aSP : Addr) (G1 : Int32) (h0 : Heap) (n0 : Nat) (v : Option Value) (h : Heap) (L : List Loc) : Prop := v = some (.int 1) ∧ Fr n0 L
set_option maxRecDepth 65536 in
set_option maxHeartbeats 40000000 in
theorem rm_law (l : Launch) (Z : State) (a0 : Array Value) (hw : ∀ d ∈ tables_1, d.before a0 Z = true) (ws : List Jvm.Cond) (p1 : Int32) (p2 : Int32) (p3 : Int32) (p4 : Int32) (aMOODYS : Addr) (aSP : Addr) (G1 : Int32) (h0 : Heap) (n0 : Nat) (O0 : Old Z n0 h0) (S_aMOODYS : Sta Z Z.heap "com/example/tranche/tranche/RatingAgency" "MOODYS" "Lcom/example/tranche/tranche/RatingAgency;" (.ref aMOODYS)) (S_aSP : Sta Z Z.heap "com/example/tranche/tranche/RatingAgency" "SP" "Lcom/example/tranche/tranche/RatingAgency;" (.ref aSP)) (SC : Sta Z Z.heap "java/lang/String" "COMPACT_STRINGS" "Z" (.int G1)) (hG : ¬ G1 = (0 : Int32)) :
    MetFree l x (head1 (Jvm.Cond.code x code maxLocals ret :: ws) room_1) (fun a U => a = #[(.int p1), (.int p2), (.int p3), (.int p4)] ∧ Z.Warmed39 U.vm ∧ U.heap = h0) (fun _ _ _ _ _ => True) (fun _ U o U' => ∃ v L, o = .returned v ∧ Q_law Z p1 p2 p3 p4 aMOODYS aSP G1 h0 n0 v U'.heap L ∧ FrameEnd U o U' L room_1.cells room_1.slots) := by
  refine MetFree.of_bodySF (plainFor_of_name pn_law) hisR ?_
  intro p e s m args below meth c s₁ Bd hml0 hP hK
  obtain ⟨rfl, hZ, hh⟩ := hP
  have hx := Bd.exec
  have hby := Bd.bytes
  have hml : c.maxLocals = 18 := hml0
  have hown : s.vm.findClass "com/example/tranche/tranche/RatingMeetsOrBeatsPinLaw" = some m.cls := findClass_of_methodNamed Bd.named
  have hnm := (name_of_methodNamed Bd.named Bd.method).1
  have X0 : Stand p l e room_1 s m #[(.int p1), (.int p2), (.int p3), (.int p4)] below meth c s₁ [] 0 0 := Stand.of_body Bd
  have e0 : s₁.heap = h0 := by rw [← hh, Bd.state]; rfl
  have N0 := Fr.nil n0
  have pre0 : ∀ t, Steps p.tables e below (s₁.setTop (mkF m 0 #[.val (.int p1), .val (.int p2), .val (.int p3), .val (.int p4), .unset, .unset, .unset, .unset, .unset, .unset, .unset, .unset, .unset, .unset, .unset, .unset, .unset, .unset] [])) t → Steps p.tables e below (s₁.setTop (entryFrame m #[(.int p1), (.int p2), (.int p3), (.int p4)] maxLocals)) t := fun t k => castTop (ef_law m p1 p2 p3 p4) k
  have pre_1 : ∀ t, Steps p.tables e below (s₁.setTop (mkF m 3 #[.val (.int p1), .val (.int p2), .val (.int p3), .val (.int p4), .unset, .unset, .unset, .unset, .unset, .unset, .unset, .unset, .unset, .unset, .unset, .unset, .unset, .unset] [(.int (p3 &&& (1 : Int32)))])) t → Steps p.tables e below (s₁.setTop (entryFrame m #[(.int p1), (.int p2), (.int p3), (.int p4)] maxLocals)) t := by
    intro t k
    refine pre0 t ?_
    show Steps p.tables e below (s₁.setTop (mkF m 0 #[.val (.int p1), .val (.int p2), .val (.int p3), .val (.int p4), .unset, .unset, .unset, .unset, .unset, .unset, .unset, .unset, .unset, .unset, .unset, .unset, .unset, .unset] [])) _
    refine XS.iloadN X0.here hx rfl (hb hby at_0) rfl ?_
    show Steps p.tables e below (s₁.setTop (mkF m 1 #[.val (.int p1), .val (.int p2), .val (.int p3), .val (.int p4), .unset, .unset, .unset, .unset, .unset, .unset, .unset, .unset, .unset, .unset, .unset, .unset, .unset, .unset] [(.int p3)])) _
    refine XS.iconst X0.here hx rfl (hb hby at_1) ?_
    show Steps p.tables e below (s₁.setTop (mkF m 2 #[.val (.int p1), .val (.int p2), .val (.int p3), .val (.int p4), .unset, .unset, .unset, .unset, .unset, .unset, .unset, .unset, .unset, .unset, .unset, .unset, .unset, .unset] [(.int (1 : Int32)), (.int p3)])) _
    refine XS.iand X0.here hx rfl (hb hby at_2) rfl ?_
    show Steps p.tables e below (s₁.setTop (mkF m 3 #[.val (.int p1), .val (.int p2), .val (.int p3), .val (.int p4), .unset, .unset, .unset, .unset, .unset, .unset, .unset, .unset, .unset, .unset, .unset, .unset, .unset, .unset] [(.int (p3 &&& (1 : Int32)))])) _
    exact k
  by_cases hc2 : (p3 &&& (1 : Int32)) = (0 : Int32)
  · skip
    have pre_3 : ∀ t, Steps p.tables e below (s₁.setTop (mkF m 12 #[.val (.int p1), .val (.int p2), .val (.int p3), .val (.int p4), .unset, .unset, .unset, .unset, .unset, .unset, .unset, .unset, .unset, .unset, .unset, .unset, .unset, .unset] [])) t → Steps p.tables e below (s₁.setTop (entryFrame m #[(.int p1), (.int p2), (.int p3), (.int p4)] maxLocals)) t := by
      intro t k
      refine pre_1 t ?_
      show Steps p.tables e below (s₁.setTop (mkF m 3 #[.val (.int p1), .val (.int p2), .val (.int p3), .val (.int p4), .unset, .unset, .unset, .unset, .unset, .unset, .unset, .unset, .unset, .unset, .unset, .unset, .unset, .unset] [(.int (p3 &&& (1 : Int32)))])) _
      refine XS.ifYes X0.here hx rfl (pc0 := 3) (pc' := 12) rfl (hb hby at_3) rfl (XT.i0_eq_t hc2) (by decide) (by decide) ?_
      show Steps p.tables e below (s₁.setTop (mkF m 12 #[.val (.int p1), .val (.int p2), .val (.int p3), .val (.int p4), .unset, .unset, .unset, .unset, .unset, .unset, .unset, .unset, .unset, .unset, .unset, .unset, .unset, .unset] [])) _
      exact k
    obtain ⟨T4, X4, e4, st4⟩ := getS X0 hx hZ hown (host := "") (hw _ (List.mem_of_getElem? (i := 0) rfl)) Via.refl e0 (S_aMOODYS.ext O0.2) (g := (mkF m 12 #[.val (.int p1), .val (.int p2), .val (.int p3), .val (.int p4), .unset, .unset, .unset, .unset, .unset, .unset, .unset, .unset, .unset, .unset, .unset, .unset, .unset, .unset] [])) rfl (hb hby at_12)
    have pre_5 : ∀ t, Steps p.tables e below (T4.setTop (mkF m 15 #[.val (.int p1), .val (.int p2), .val (.int p3), .val (.int p4), .unset, .unset, .unset, .unset, .unset, .unset, .unset, .unset, .unset, .unset, .unset, .unset, .unset, .unset] [(.ref aMOODYS)])) t → Steps p.tables e below (s₁.setTop (entryFrame m #[(.int p1), (.int p2), (.int p3), (.int p4)] maxLocals)) t := fun t k => pre_3 t (st4 t k)
    have pre_6 : ∀ t, Steps p.tables e below (T4.setTop (mkF m 26 #[.val (.int p1), .val (.int p2), .val (.int p3), .val (.int p4), .val (.ref aMOODYS), .val (.int ((XT.ushr p3 (1 : Int32)) &&& (3 : Int32))), .unset, .unset, .unset, .unset, .unset, .unset, .unset, .unset, .unset, .unset, .unset, .unset] [(.int ((XT.ushr p3 (1 : Int32)) &&& (3 : Int32)))])) t → Steps p.tables e below (s₁.setTop (entryFrame m #[(.int p1), (.int p2), (.int p3), (.int p4)] maxLocals)) t := by
      intro t k
      refine pre_5 t ?_
      show Steps p.tables e below (T4.setTop (mkF m 15 #[.val (.int p1), .val (.int p2), .val (.int p3), .val (.int p4), .unset, .unset, .unset, .unset, .unset, .unset, .unset, .unset, .unset, .unset, .unset, .unset, .unset, .unset] [(.ref aMOODYS)])) _
      refine XS.astore X4.here hx rfl (hb hby at_15) rfl rfl (l' := #[.val (.int p1), .val (.int p2), .val (.int p3), .val (.int p4), .val (.ref aMOODYS), .unset, .unset, .unset, .unset, .unset, .unset, .unset, .unset, .unset, .unset, .unset, .unset, .unset]) rfl ?_
      show Steps p.tables e below (T4.setTop (mkF m 17 #[.val (.int p1), .val (.int p2), .val (.int p3), .val (.int p4), .val (.ref aMOODYS), .unset, .unset, .unset, .unset, .unset, .unset, .unset, .unset, .unset, .unset, .unset, .unset, .unset] [])) _
      refine XS.iloadN X4.here hx rfl (hb hby at_17) rfl ?_
      show Steps p.tables e below (T4.setTop (mkF m 18 #[.val (.int p1), .val (.int p2), .val (.int p3), .val (.int p4), .val (.ref aMOODYS), .unset, .unset, .unset, .unset, .unset, .unset, .unset, .unset, .unset, .unset, .unset, .unset, .unset] [(.int p3)])) _
      refine XS.iconst X4.here hx rfl (hb hby at_18) ?_
      show Steps p.tables e below (T4.setTop (mkF m 19 #[.val (.int p1), .val (.int p2), .val (.int p3), .val (.int p4), .val (.ref aMOODYS), .unset, .unset, .unset, .unset, .unset, .unset, .unset, .unset, .unset, .unset, .unset, .unset, .unset] [(.int (1 : Int32)), (.int p3)])) _
      refine XT.iushr X4.here hx rfl (hb hby at_19) rfl ?_
      show Steps p.tables e below (T4.setTop (mkF m 20 #[.val (.int p1), .val (.int p2), .val (.int p3), .val (.int p4), .val (.ref aMOODYS), .unset, .unset, .unset, .unset, .unset, .unset, .unset, .unset, .unset, .unset, .unset, .unset, .unset] [(.int (XT.ushr p3 (1 : Int32)))])) _
      refine XS.iconst X4.here hx rfl (hb hby at_20) ?_
      show Steps p.tables e below (T4.setTop (mkF m 21 #[.val (.int p1), .val (.int p2), .val (.int p3), .val (.int p4), .val (.ref aMOODYS), .unset, .unset, .unset, .unset, .unset, .unset, .unset, .unset, .unset, .unset, .unset, .unset, .unset] [(.int (3 : Int32)), (.int (XT.ushr p3 (1 : Int32)))])) _
      refine XS.iand X4.here hx rfl (hb hby at_21) rfl ?_
      show Steps p.tables e below (T4.setTop (mkF m 22 #[.val (.int p1), .val (.int p2), .val (.int p3), .val (.int p4), .val (.ref aMOODYS), .unset, .unset, .unset, .unset, .unset, .unset, .unset, .unset, .unset, .unset, .unset, .unset, .unset] [(.int ((XT.ushr p3 (1 : Int32)) &&& (3 : Int32)))])) _
      refine XS.istore X4.here hx rfl (hb hby at_22) rfl (l' := #[.val (.int p1), .val (.int p2), .val (.int p3), .val (.int p4), .val (.ref aMOODYS), .val (.int ((XT.ushr p3 (1 : Int32)) &&& (3 : Int32))), .unset, .unset, .unset, .unset, .unset, .unset, .unset, .unset, .unset, .unset, .unset, .unset]) rfl ?_
      show Steps p.tables e below (T4.setTop (mkF m 24 #[.val (.int p1), .val (.int p2), .val (.int p3), .val (.int p4), .val (.ref aMOODYS), .val (.int ((XT.ushr p3 (1 : Int32)) &&& (3 : Int32))), .unset, .unset, .unset, .unset, .unset, .unset, .unset, .unset, .unset, .unset, .unset, .unset] [])) _
      refine XS.iload X4.here hx rfl (hb hby at_24) rfl ?_
      show Steps p.tables e below (T4.setTop (mkF m 26 #[.val (.int p1), .val (.int p2), .val (.int p3), .val (.int p4), .val (.ref aMOODYS), .val (.int ((XT.ushr p3 (1 : Int32)) &&& (3 : Int32))), .unset, .unset, .unset, .unset, .unset, .unset, .unset, .unset, .unset, .unset, .unset, .unset] [(.int ((XT.ushr p3 (1 : Int32)) &&& (3 : Int32)))])) _
      exact k
    have pre_10 : ∀ t, Steps p.tables e below (T4.setTop (mkF m 66 #[.val (.int p1), .val (.int p2), .val (.int p3), .val (.int p4), .val (.ref aMOODYS), .val (.int ((XT.ushr p3 (1 : Int32)) &&& (3 : Int32))), .val (.int (if ((XT.ushr p3 (1 : Int32)) &&& (3 : Int32)) = (0 : Int32) then p2 else (if ((XT.ushr p3 (1 : Int32)) &&& (3 : Int32)) = (1 : Int32) then p1 else (if ((XT.ushr p3 (1 : Int32)) &&& (3 : Int32)) = (2 : Int32) then (p1 + (1 : Int32)) else (p1 - (1 : Int32)))))), .unset, .unset, .unset, .unset, .unset, .unset, .unset, .unset, .unset, .unset, .unset] [])) t → Steps p.tables e below (s₁.setTop (entryFrame m #[(.int p1), (.int p2), (.int p3), (.int p4)] maxLocals)) t := by
      intro t k
      refine pre_6 t ?_
      by_cases hm7 : ((XT.ushr p3 (1 : Int32)) &&& (3 : Int32)) = (0 : Int32)
      · skip
        show Steps p.tables e below (T4.setTop (mkF m 26 #[.val (.int p1), .val (.int p2), .val (.int p3), .val (.int p4), .val (.ref aMOODYS), .val (.int ((XT.ushr p3 (1 : Int32)) &&& (3 : Int32))), .unset, .unset, .unset, .unset, .unset, .unset, .unset, .unset, .unset, .unset, .unset, .unset] [(.int ((XT.ushr p3 (1 : Int32)) &&& (3 : Int32)))])) _
        refine XS.ifNo X4.here hx rfl (hb hby at_26) rfl (XT.i0_ne_f hm7) ?_
        show Steps p.tables e below (T4.setTop (mkF m 29 #[.val (.int p1), .val (.int p2), .val (.int p3), .val (.int p4), .val (.ref aMOODYS), .val (.int ((XT.ushr p3 (1 : Int32)) &&& (3 : Int32))), .unset, .unset, .unset, .unset, .unset, .unset, .unset, .unset, .unset, .unset, .unset, .unset] [])) _
        refine XS.iloadN X4.here hx rfl (hb hby at_29) rfl ?_
        show Steps p.tables e below (T4.setTop (mkF m 30 #[.val (.int p1), .val (.int p2), .val (.int p3), .val (.int p4), .val (.ref aMOODYS), .val (.int ((XT.ushr p3 (1 : Int32)) &&& (3 : Int32))), .unset, .unset, .unset, .unset, .unset, .unset, .unset, .unset, .unset, .unset, .unset, .unset] [(.int p2)])) _
        refine XS.istore X4.here hx rfl (hb hby at_30) rfl (l' := #[.val (.int p1), .val (.int p2), .val (.int p3), .val (.int p4), .val (.ref aMOODYS), .val (.int ((XT.ushr p3 (1 : Int32)) &&& (3 : Int32))), .val (.int p2), .unset, .unset, .unset, .unset, .unset, .unset, .unset, .unset, .unset, .unset, .unset]) rfl ?_
        show Steps p.tables e below (T4.setTop (mkF m 32 #[.val (.int p1), .val (.int p2), .val (.int p3), .val (.int p4), .val (.ref aMOODYS), .val (.int ((XT.ushr p3 (1 : Int32)) &&& (3 : Int32))), .val (.int p2), .unset, .unset, .unset, .unset, .unset, .unset, .unset, .unset, .unset, .unset, .unset] [])) _
        refine XS.goto X4.here hx rfl (pc0 := 32) (pc' := 66) rfl (hb hby at_32) (by decide) (by decide) ?_
        show Steps p.tables e below (T4.setTop (mkF m 66 #[.val (.int p1), .val (.int p2), .val (.int p3), .val (.int p4), .val (.ref aMOODYS), .val (.int ((XT.ushr p3 (1 : Int32)) &&& (3 : Int32))), .val (.int p2), .unset, .unset, .unset, .unset, .unset, .unset, .unset, .unset, .unset, .unset, .unset] [])) _
        first | exact k | (simp only [if_pos hm7] at k; exact k)
      · skip
        show Steps p.tables e below (T4.setTop (mkF m 26 #[.val (.int p1), .val (.int p2), .val (.int p3), .val (.int p4), .val (.ref aMOODYS), .val (.int ((XT.ushr p3 (1 : Int32)) &&& (3 : Int32))), .unset, .unset, .unset, .unset, .unset, .unset, .unset, .unset, .unset, .unset, .unset, .unset] [(.int ((XT.ushr p3 (1 : Int32)) &&& (3 : Int32)))])) _
        refine XS.ifYes X4.here hx rfl (pc0 := 26) (pc' := 35) rfl (hb hby at_26) rfl (XT.i0_ne_t hm7) (by decide) (by decide) ?_
        show Steps p.tables e below (T4.setTop (mkF m 35 #[.val (.int p1), .val (.int p2), .val (.int p3), .val (.int p4), .val (.ref aMOODYS), .val (.int ((XT.ushr p3 (1 : Int32)) &&& (3 : Int32))), .unset, .unset, .unset, .unset, .unset, .unset, .unset, .unset, .unset, .unset, .unset, .unset] [])) _
        refine XS.iload X4.here hx rfl (hb hby at_35) rfl ?_
        show Steps p.tables e below (T4.setTop (mkF m 37 #[.val (.int p1), .val (.int p2), .val (.int p3), .val (.int p4), .val (.ref aMOODYS), .val (.int ((XT.ushr p3 (1 : Int32)) &&& (3 : Int32))), .unset, .unset, .unset, .unset, .unset, .unset, .unset, .unset, .unset, .unset, .unset, .unset] [(.int ((XT.ushr p3 (1 : Int32)) &&& (3 : Int32)))])) _
        refine XS.iconst X4.here hx rfl (hb hby at_37) ?_
        show Steps p.tables e below (T4.setTop (mkF m 38 #[.val (.int p1), .val (.int p2), .val (.int p3), .val (.int p4), .val (.ref aMOODYS), .val (.int ((XT.ushr p3 (1 : Int32)) &&& (3 : Int32))), .unset, .unset, .unset, .unset, .unset, .unset, .unset, .unset, .unset, .unset, .unset, .unset] [(.int (1 : Int32)), (.int ((XT.ushr p3 (1 : Int32)) &&& (3 : Int32)))])) _
        by_cases hm8 : ((XT.ushr p3 (1 : Int32)) &&& (3 : Int32)) = (1 : Int32)
        · skip
          show Steps p.tables e below (T4.setTop (mkF m 38 #[.val (.int p1), .val (.int p2), .val (.int p3), .val (.int p4), .val (.ref aMOODYS), .val (.int ((XT.ushr p3 (1 : Int32)) &&& (3 : Int32))), .unset, .unset, .unset, .unset, .unset, .unset, .unset, .unset, .unset, .unset, .unset, .unset] [(.int (1 : Int32)), (.int ((XT.ushr p3 (1 : Int32)) &&& (3 : Int32)))])) _
          refine XS.icmpNo X4.here hx rfl (hb hby at_38) rfl (XT.ii_ne_f hm8) ?_
          show Steps p.tables e below (T4.setTop (mkF m 41 #[.val (.int p1), .val (.int p2), .val (.int p3), .val (.int p4), .val (.ref aMOODYS), .val (.int ((XT.ushr p3 (1 : Int32)) &&& (3 : Int32))), .unset, .unset, .unset, .unset, .unset, .unset, .unset, .unset, .unset, .unset, .unset, .unset] [])) _
          refine XS.iloadN X4.here hx rfl (hb hby at_41) rfl ?_
          show Steps p.tables e below (T4.setTop (mkF m 42 #[.val (.int p1), .val (.int p2), .val (.int p3), .val (.int p4), .val (.ref aMOODYS), .val (.int ((XT.ushr p3 (1 : Int32)) &&& (3 : Int32))), .unset, .unset, .unset, .unset, .unset, .unset, .unset, .unset, .unset, .unset, .unset, .unset] [(.int p1)])) _
          refine XS.istore X4.here hx rfl (hb hby at_42) rfl (l' := #[.val (.int p1), .val (.int p2), .val (.int p3), .val (.int p4), .val (.ref aMOODYS), .val (.int ((XT.ushr p3 (1 : Int32)) &&& (3 : Int32))), .val (.int p1), .unset, .unset, .unset, .unset, .unset, .unset, .unset, .unset, .unset, .unset, .unset]) rfl ?_
          show Steps p.tables e below (T4.setTop (mkF m 44 #[.val (.int p1), .val (.int p2), .val (.int p3), .val (.int p4), .val (.ref aMOODYS), .val (.int ((XT.ushr p3 (1 : Int32)) &&& (3 : Int32))), .val (.int p1), .unset, .unset, .unset, .unset, .unset, .unset, .unset, .unset, .unset, .unset, .unset] [])) _
          refine XS.goto X4.here hx rfl (pc0 := 44) (pc' := 66) rfl (hb hby at_44) (by decide) (by decide) ?_
          show Steps p.tables e below (T4.setTop (mkF m 66 #[.val (.int p1), .val (.int p2), .val (.int p3), .val (.int p4), .val (.ref aMOODYS), .val (.int ((XT.ushr p3 (1 : Int32)) &&& (3 : Int32))), .val (.int p1), .unset, .unset, .unset, .unset, .unset, .unset, .unset, .unset, .unset, .unset, .unset] [])) _
          first | exact k | (simp only [if_neg hm7, if_pos hm8] at k; exact k)
        · skip
          show Steps p.tables e below (T4.setTop (mkF m 38 #[.val (.int p1), .val (.int p2), .val (.int p3), .val (.int p4), .val (.ref aMOODYS), .val (.int ((XT.ushr p3 (1 : Int32)) &&& (3 : Int32))), .unset, .unset, .unset, .unset, .unset, .unset, .unset, .unset, .unset, .unset, .unset, .unset] [(.int (1 : Int32)), (.int ((XT.ushr p3 (1 : Int32)) &&& (3 : Int32)))])) _
          refine XS.icmpYes X4.here hx rfl (pc0 := 38) (pc' := 47) rfl (hb hby at_38) rfl (XT.ii_ne_t hm8) (by decide) (by decide) ?_
          show Steps p.tables e below (T4.setTop (mkF m 47 #[.val (.int p1), .val (.int p2), .val (.int p3), .val (.int p4), .val (.ref aMOODYS), .val (.int ((XT.ushr p3 (1 : Int32)) &&& (3 : Int32))), .unset, .unset, .unset, .unset, .unset, .unset, .unset, .unset, .unset, .unset, .unset, .unset] [])) _
          refine XS.iload X4.here hx rfl (hb hby at_47) rfl ?_
          show Steps p.tables e below (T4.setTop (mkF m 49 #[.val (.int p1), .val (.int p2), .val (.int p3), .val (.int p4), .val (.ref aMOODYS), .val (.int ((XT.ushr p3 (1 : Int32)) &&& (3 : Int32))), .unset, .unset, .unset, .unset, .unset, .unset, .unset, .unset, .unset, .unset, .unset, .unset] [(.int ((XT.ushr p3 (1 : Int32)) &&& (3 : Int32)))])) _
          refine XS.iconst X4.here hx rfl (hb hby at_49) ?_
          show Steps p.tables e below (T4.setTop (mkF m 50 #[.val (.int p1), .val (.int p2), .val (.int p3), .val (.int p4), .val (.ref aMOODYS), .val (.int ((XT.ushr p3 (1 : Int32)) &&& (3 : Int32))), .unset, .unset, .unset, .unset, .unset, .unset, .unset, .unset, .unset, .unset, .unset, .unset] [(.int (2 : Int32)), (.int ((XT.ushr p3 (1 : Int32)) &&& (3 : Int32)))])) _
          by_cases hm9 : ((XT.ushr p3 (1 : Int32)) &&& (3 : Int32)) = (2 : Int32)
          · skip
            show Steps p.tables e below (T4.setTop (mkF m 50 #[.val (.int p1), .val (.int p2), .val (.int p3), .val (.int p4), .val (.ref aMOODYS), .val (.int ((XT.ushr p3 (1 : Int32)) &&& (3 : Int32))), .unset, .unset, .unset, .unset, .unset, .unset, .unset, .unset, .unset, .unset, .unset, .unset] [(.int (2 : Int32)), (.int ((XT.ushr p3 (1 : Int32)) &&& (3 : Int32)))])) _
            refine XS.icmpNo X4.here hx rfl (hb hby at_50) rfl (XT.ii_ne_f hm9) ?_
            show Steps p.tables e below (T4.setTop (mkF m 53 #[.val (.int p1), .val (.int p2), .val (.int p3), .val (.int p4), .val (.ref aMOODYS), .val (.int ((XT.ushr p3 (1 : Int32)) &&& (3 : Int32))), .unset, .unset, .unset, .unset, .unset, .unset, .unset, .unset, .unset, .unset, .unset, .unset] [])) _
            refine XS.iloadN X4.here hx rfl (hb hby at_53) rfl ?_
            show Steps p.tables e below (T4.setTop (mkF m 54 #[.val (.int p1), .val (.int p2), .val (.int p3), .val (.int p4), .val (.ref aMOODYS), .val (.int ((XT.ushr p3 (1 : Int32)) &&& (3 : Int32))), .unset, .unset, .unset, .unset, .unset, .unset, .unset, .unset, .unset, .unset, .unset, .unset] [(.int p1)])) _
            refine XS.iconst X4.here hx rfl (hb hby at_54) ?_
            show Steps p.tables e below (T4.setTop (mkF m 55 #[.val (.int p1), .val (.int p2), .val (.int p3), .val (.int p4), .val (.ref aMOODYS), .val (.int ((XT.ushr p3 (1 : Int32)) &&& (3 : Int32))), .unset, .unset, .unset, .unset, .unset, .unset, .unset, .unset, .unset, .unset, .unset, .unset] [(.int (1 : Int32)), (.int p1)])) _
            refine XS.iadd X4.here hx rfl (hb hby at_55) rfl ?_
            show Steps p.tables e below (T4.setTop (mkF m 56 #[.val (.int p1), .val (.int p2), .val (.int p3), .val (.int p4), .val (.ref aMOODYS), .val (.int ((XT.ushr p3 (1 : Int32)) &&& (3 : Int32))), .unset, .unset, .unset, .unset, .unset, .unset, .unset, .unset, .unset, .unset, .unset, .unset] [(.int (p1 + (1 : Int32)))])) _
            refine XS.istore X4.here hx rfl (hb hby at_56) rfl (l' := #[.val (.int p1), .val (.int p2), .val (.int p3), .val (.int p4), .val (.ref aMOODYS), .val (.int ((XT.ushr p3 (1 : Int32)) &&& (3 : Int32))), .val (.int (p1 + (1 : Int32))), .unset, .unset, .unset, .unset, .unset, .unset, .unset, .unset, .unset, .unset, .unset]) rfl ?_
            show Steps p.tables e below (T4.setTop (mkF m 58 #[.val (.int p1), .val (.int p2), .val (.int p3), .val (.int p4), .val (.ref aMOODYS), .val (.int ((XT.ushr p3 (1 : Int32)) &&& (3 : Int32))), .val (.int (p1 + (1 : Int32))), .unset, .unset, .unset, .unset, .unset, .unset, .unset, .unset, .unset, .unset, .unset] [])) _
            refine XS.goto X4.here hx rfl (pc0 := 58) (pc' := 66) rfl (hb hby at_58) (by decide) (by decide) ?_
            show Steps p.tables e below (T4.setTop (mkF m 66 #[.val (.int p1), .val (.int p2), .val (.int p3), .val (.int p4), .val (.ref aMOODYS), .val (.int ((XT.ushr p3 (1 : Int32)) &&& (3 : Int32))), .val (.int (p1 + (1 : Int32))), .unset, .unset, .unset, .unset, .unset, .unset, .unset, .unset, .unset, .unset, .unset] [])) _
            first | exact k | (simp only [if_neg hm7, if_neg hm8, if_pos hm9] at k; exact k)
          · skip
            show Steps p.tables e below (T4.setTop (mkF m 50 #[.val (.int p1), .val (.int p2), .val (.int p3), .val (.int p4), .val (.ref aMOODYS), .val (.int ((XT.ushr p3 (1 : Int32)) &&& (3 : Int32))), .unset, .unset, .unset, .unset, .unset, .unset, .unset, .unset, .unset, .unset, .unset, .unset] [(.int (2 : Int32)), (.int ((XT.ushr p3 (1 : Int32)) &&& (3 : Int32)))])) _
            refine XS.icmpYes X4.here hx rfl (pc0 := 50) (pc' := 61) rfl (hb hby at_50) rfl (XT.ii_ne_t hm9) (by decide) (by decide) ?_
            show Steps p.tables e below (T4.setTop (mkF m 61 #[.val (.int p1), .val (.int p2), .val (.int p3), .val (.int p4), .val (.ref aMOODYS), .val (.int ((XT.ushr p3 (1 : Int32)) &&& (3 : Int32))), .unset, .unset, .unset, .unset, .unset, .unset, .unset, .unset, .unset, .unset, .unset, .unset] [])) _
            refine XS.iloadN X4.here hx rfl (hb hby at_61) rfl ?_
            show Steps p.tables e below (T4.setTop (mkF m 62 #[.val (.int p1), .val (.int p2), .val (.int p3), .val (.int p4), .val (.ref aMOODYS), .val (.int ((XT.ushr p3 (1 : Int32)) &&& (3 : Int32))), .unset, .unset, .unset, .unset, .unset, .unset, .unset, .unset, .unset, .unset, .unset, .unset] [(.int p1)])) _
            refine XS.iconst X4.here hx rfl (hb hby at_62) ?_
            show Steps p.tables e below (T4.setTop (mkF m 63 #[.val (.int p1), .val (.int p2), .val (.int p3), .val (.int p4), .val (.ref aMOODYS), .val (.int ((XT.ushr p3 (1 : Int32)) &&& (3 : Int32))), .unset, .unset, .unset, .unset, .unset, .unset, .unset, .unset, .unset, .unset, .unset, .unset] [(.int (1 : Int32)), (.int p1)])) _
            refine XS.isub X4.here hx rfl (hb hby at_63) rfl ?_
            show Steps p.tables e below (T4.setTop (mkF m 64 #[.val (.int p1), .val (.int p2), .val (.int p3), .val (.int p4), .val (.ref aMOODYS), .val (.int ((XT.ushr p3 (1 : Int32)) &&& (3 : Int32))), .unset, .unset, .unset, .unset, .unset, .unset, .unset, .unset, .unset, .unset, .unset, .unset] [(.int (p1 - (1 : Int32)))])) _
            refine XS.istore X4.here hx rfl (hb hby at_64) rfl (l' := #[.val (.int p1), .val (.int p2), .val (.int p3), .val (.int p4), .val (.ref aMOODYS), .val (.int ((XT.ushr p3 (1 : Int32)) &&& (3 : Int32))), .val (.int (p1 - (1 : Int32))), .unset, .unset, .unset, .unset, .unset, .unset, .unset, .unset, .unset, .unset, .unset]) rfl ?_
            show Steps p.tables e below (T4.setTop (mkF m 66 #[.val (.int p1), .val (.int p2), .val (.int p3), .val (.int p4), .val (.ref aMOODYS), .val (.int ((XT.ushr p3 (1 : Int32)) &&& (3 : Int32))), .val (.int (p1 - (1 : Int32))), .unset, .unset, .unset, .unset, .unset, .unset, .unset, .unset, .unset, .unset, .unset] [])) _
            first | exact k | (simp only [if_neg hm7, if_neg hm8, if_neg hm9] at k; exact k)
    generalize (if ((XT.ushr p3 (1 : Int32)) &&& (3 : Int32)) = (0 : Int32) then p2 else (if ((XT.ushr p3 (1 : Int32)) &&& (3 : Int32)) = (1 : Int32) then p1 else (if ((XT.ushr p3 (1 : Int32)) &&& (3 : Int32)) = (2 : Int32) then (p1 + (1 : Int32)) else (p1 - (1 : Int32))))) = qq at pre_10
    have pre_11 : ∀ t, Steps p.tables e below (T4.setTop (mkF m 67 #[.val (.int p1), .val (.int p2), .val (.int p3), .val (.int p4), .val (.ref aMOODYS), .val (.int ((XT.ushr p3 (1 : Int32)) &&& (3 : Int32))), .val (.int qq), .unset, .unset, .unset, .unset, .unset, .unset, .unset, .unset, .unset, .unset, .unset] [(.int (1 : Int32))])) t → Steps p.tables e below (s₁.setTop (entryFrame m #[(.int p1), (.int p2), (.int p3), (.int p4)] maxLocals)) t := by
      intro t k
      refine pre_10 t ?_
      show Steps p.tables e below (T4.setTop (mkF m 66 #[.val (.int p1), .val (.int p2), .val (.int p3), .val (.int p4), .val (.ref aMOODYS), .val (.int ((XT.ushr p3 (1 : Int32)) &&& (3 : Int32))), .val (.int qq), .unset, .unset, .unset, .unset, .unset, .unset, .unset, .unset, .unset, .unset, .unset] [])) _
      refine XS.iconst X4.here hx rfl (hb hby at_66) ?_
      show Steps p.tables e below (T4.setTop (mkF m 67 #[.val (.int p1), .val (.int p2), .val (.int p3), .val (.int p4), .val (.ref aMOODYS), .val (.int ((XT.ushr p3 (1 : Int32)) &&& (3 : Int32))), .val (.int qq), .unset, .unset, .unset, .unset, .unset, .unset, .unset, .unset, .unset, .unset, .unset] [(.int (1 : Int32))])) _
      exact k
    obtain ⟨T12, h12, cA12, X12, e12, E12, A12, st12⟩ := newP X4 hx hZ (hw _ (List.mem_of_getElem? (i := 3) rfl)) e4 (g := (mkF m 67 #[.val (.int p1), .val (.int p2), .val (.int p3), .val (.int p4), .val (.ref aMOODYS), .val (.int ((XT.ushr p3 (1 : Int32)) &&& (3 : Int32))), .val (.int qq), .unset, .unset, .unset, .unset, .unset, .unset, .unset, .unset, .unset, .unset, .unset] [(.int (1 : Int32))])) rfl (hb hby at_67) rfl (by decide) (cap := 1) (by decide) (by decide) (by decide) (by decide)
    obtain ⟨b12, g12⟩ : ∃ z, z = h0.size := ⟨_, rfl⟩
    rw [← g12] at A12 st12
    have O12 : Old Z n0 h12 := O0.ext E12
    have V12 : Arv Z h12 b12 cA12 .char (1 : Int32) [(.int (0 : Int32))] (.int (0 : Int32)) := (Arv.new A12 (by decide)).pad (pad_rep [] _ 1)
    have pre_13 : ∀ t, Steps p.tables e below (T12.setTop (mkF m 69 #[.val (.int p1), .val (.int p2), .val (.int p3), .val (.int p4), .val (.ref aMOODYS), .val (.int ((XT.ushr p3 (1 : Int32)) &&& (3 : Int32))), .val (.int qq), .unset, .unset, .unset, .unset, .unset, .unset, .unset, .unset, .unset, .unset, .unset] [(.ref b12)])) t → Steps p.tables e below (s₁.setTop (entryFrame m #[(.int p1), (.int p2), (.int p3), (.int p4)] maxLocals)) t := fun t k => pre_11 t (st12 t k)
    have pre_14 : ∀ t, Steps p.tables e below (T12.setTop (mkF m 77 #[.val (.int p1), .val (.int p2), .val (.int p3), .val (.int p4), .val (.ref aMOODYS), .val (.int ((XT.ushr p3 (1 : Int32)) &&& (3 : Int32))), .val (.int qq), .unset, .unset, .unset, .unset, .unset, .unset, .unset, .unset, .unset, .unset, .unset] [(.int (((p4 &&& (255 : Int32))).toUInt32.toUInt16.toUInt32.toInt32)), (.int (0 : Int32)), (.ref b12), (.ref b12)])) t → Steps p.tables e below (s₁.setTop (entryFrame m #[(.int p1), (.int p2), (.int p3), (.int p4)] maxLocals)) t := by
      intro t k
      refine pre_13 t ?_
      show Steps p.tables e below (T12.setTop (mkF m 69 #[.val (.int p1), .val (.int p2), .val (.int p3), .val (.int p4), .val (.ref aMOODYS), .val (.int ((XT.ushr p3 (1 : Int32)) &&& (3 : Int32))), .val (.int qq), .unset, .unset, .unset, .unset, .unset, .unset, .unset, .unset, .unset, .unset, .unset] [(.ref b12)])) _
      refine XS.dup X12.here hx rfl (hb hby at_69) rfl rfl ?_
      show Steps p.tables e below (T12.setTop (mkF m 70 #[.val (.int p1), .val (.int p2), .val (.int p3), .val (.int p4), .val (.ref aMOODYS), .val (.int ((XT.ushr p3 (1 : Int32)) &&& (3 : Int32))), .val (.int qq), .unset, .unset, .unset, .unset, .unset, .unset, .unset, .unset, .unset, .unset, .unset] [(.ref b12), (.ref b12)])) _
      refine XS.iconst X12.here hx rfl (hb hby at_70) ?_
      show Steps p.tables e below (T12.setTop (mkF m 71 #[.val (.int p1), .val (.int p2), .val (.int p3), .val (.int p4), .val (.ref aMOODYS), .val (.int ((XT.ushr p3 (1 : Int32)) &&& (3 : Int32))), .val (.int qq), .unset, .unset, .unset, .unset, .unset, .unset, .unset, .unset, .unset, .unset, .unset] [(.int (0 : Int32)), (.ref b12), (.ref b12)])) _
      refine XS.iloadN X12.here hx rfl (hb hby at_71) rfl ?_
      show Steps p.tables e below (T12.setTop (mkF m 72 #[.val (.int p1), .val (.int p2), .val (.int p3), .val (.int p4), .val (.ref aMOODYS), .val (.int ((XT.ushr p3 (1 : Int32)) &&& (3 : Int32))), .val (.int qq), .unset, .unset, .unset, .unset, .unset, .unset, .unset, .unset, .unset, .unset, .unset] [(.int p4), (.int (0 : Int32)), (.ref b12), (.ref b12)])) _
      refine XS.sipush X12.here hx rfl (hb hby at_72) ?_
      show Steps p.tables e below (T12.setTop (mkF m 75 #[.val (.int p1), .val (.int p2), .val (.int p3), .val (.int p4), .val (.ref aMOODYS), .val (.int ((XT.ushr p3 (1 : Int32)) &&& (3 : Int32))), .val (.int qq), .unset, .unset, .unset, .unset, .unset, .unset, .unset, .unset, .unset, .unset, .unset] [(.int (255 : Int32)), (.int p4), (.int (0 : Int32)), (.ref b12), (.ref b12)])) _
      refine XS.iand X12.here hx rfl (hb hby at_75) rfl ?_
      show Steps p.tables e below (T12.setTop (mkF m 76 #[.val (.int p1), .val (.int p2), .val (.int p3), .val (.int p4), .val (.ref aMOODYS), .val (.int ((XT.ushr p3 (1 : Int32)) &&& (3 : Int32))), .val (.int qq), .unset, .unset, .unset, .unset, .unset, .unset, .unset, .unset, .unset, .unset, .unset] [(.int (p4 &&& (255 : Int32))), (.int (0 : Int32)), (.ref b12), (.ref b12)])) _
      refine XT.i2c X12.here hx rfl (hb hby at_76) rfl ?_
      show Steps p.tables e below (T12.setTop (mkF m 77 #[.val (.int p1), .val (.int p2), .val (.int p3), .val (.int p4), .val (.ref aMOODYS), .val (.int ((XT.ushr p3 (1 : Int32)) &&& (3 : Int32))), .val (.int qq), .unset, .unset, .unset, .unset, .unset, .unset, .unset, .unset, .unset, .unset, .unset] [(.int (((p4 &&& (255 : Int32))).toUInt32.toUInt16.toUInt32.toInt32)), (.int (0 : Int32)), (.ref b12), (.ref b12)])) _
      exact k
    have hcc := own_c255 p4
    generalize (p4 &&& (255 : Int32)).toUInt32.toUInt16.toUInt32.toInt32 = cc at hcc pre_14
    obtain ⟨cl15, Ar15, q15, S15, M15, H15, G15⟩ := id V12
    obtain ⟨T15, h15, X15, e15, W15, st15⟩ := stC X12 hx hZ e12 Ar15 (j := (0 : Int32)) (inb_of S15 (by decide)) (g := (mkF m 77 #[.val (.int p1), .val (.int p2), .val (.int p3), .val (.int p4), .val (.ref aMOODYS), .val (.int ((XT.ushr p3 (1 : Int32)) &&& (3 : Int32))), .val (.int qq), .unset, .unset, .unset, .unset, .unset, .unset, .unset, .unset, .unset, .unset, .unset] [(.int cc), (.int (0 : Int32)), (.ref b12), (.ref b12)])) rfl rfl (hb hby at_77)
    have N15 := Fr.snoc X15 N0 (Nat.le_trans (own_le O0) (Nat.le_of_eq g12.symm))
    have O15 : Old Z n0 h15 := O12.wr W15 (Nat.le_trans (own_le O0) (Nat.le_of_eq g12.symm))
    rw [hcc.1] at W15
    have V15 : Arv Z h15 b12 cA12 .char (1 : Int32) [(.int cc)] (.int (0 : Int32)) := Arv.set Ar15 q15 S15 M15 H15 G15 (by rw [← hcc.1]; exact (fits_nar_char _)) W15 0 rfl (Nat.le_of_ble_eq_true rfl)
    have pre_16 : ∀ t, Steps p.tables e below (T15.setTop (mkF m 78 #[.val (.int p1), .val (.int p2), .val (.int p3), .val (.int p4), .val (.ref aMOODYS), .val (.int ((XT.ushr p3 (1 : Int32)) &&& (3 : Int32))), .val (.int qq), .unset, .unset, .unset, .unset, .unset, .unset, .unset, .unset, .unset, .unset, .unset] [(.ref b12)])) t → Steps p.tables e below (s₁.setTop (entryFrame m #[(.int p1), (.int p2), (.int p3), (.int p4)] maxLocals)) t := fun t k => pre_14 t (st15 t k)
    have pre_17 : ∀ t, Steps p.tables e below (T15.setTop (mkF m 80 #[.val (.int p1), .val (.int p2), .val (.int p3), .val (.int p4), .val (.ref aMOODYS), .val (.int ((XT.ushr p3 (1 : Int32)) &&& (3 : Int32))), .val (.int qq), .val (.ref b12), .unset, .unset, .unset, .unset, .unset, .unset, .unset, .unset, .unset, .unset] [])) t → Steps p.tables e below (s₁.setTop (entryFrame m #[(.int p1), (.int p2), (.int p3), (.int p4)] maxLocals)) t := by
      intro t k
      refine pre_16 t ?_
      show Steps p.tables e below (T15.setTop (mkF m 78 #[.val (.int p1), .val (.int p2), .val (.int p3), .val (.int p4), .val (.ref aMOODYS), .val (.int ((XT.ushr p3 (1 : Int32)) &&& (3 : Int32))), .val (.int qq), .unset, .unset, .unset, .unset, .unset, .unset, .unset, .unset, .unset, .unset, .unset] [(.ref b12)])) _
      refine XS.astore X15.here hx rfl (hb hby at_78) rfl rfl (l' := #[.val (.int p1), .val (.int p2), .val (.int p3), .val (.int p4), .val (.ref aMOODYS), .val (.int ((XT.ushr p3 (1 : Int32)) &&& (3 : Int32))), .val (.int qq), .val (.ref b12), .unset, .unset, .unset, .unset, .unset, .unset, .unset, .unset, .unset, .unset]) rfl ?_
      show Steps p.tables e below (T15.setTop (mkF m 80 #[.val (.int p1), .val (.int p2), .val (.int p3), .val (.int p4), .val (.ref aMOODYS), .val (.int ((XT.ushr p3 (1 : Int32)) &&& (3 : Int32))), .val (.int qq), .val (.ref b12), .unset, .unset, .unset, .unset, .unset, .unset, .unset, .unset, .unset, .unset] [])) _
      exact k
    obtain ⟨T18, h18, X18, e18, E18, A18, D18, -, st18⟩ := newO X15 hx hZ hown (hw _ (List.mem_of_getElem? (i := 4) rfl)) (hw _ (List.mem_of_getElem? (i := 5) rfl)) (hw _ (List.mem_of_getElem? (i := 6) rfl)) e15 (g := (mkF m 80 #[.val (.int p1), .val (.int p2), .val (.int p3), .val (.int p4), .val (.ref aMOODYS), .val (.int ((XT.ushr p3 (1 : Int32)) &&& (3 : Int32))), .val (.int qq), .val (.ref b12), .unset, .unset, .unset, .unset, .unset, .unset, .unset, .unset, .unset, .unset] [])) rfl (hb hby at_80) (by decide) (by decide)
    obtain ⟨b18, g18⟩ : ∃ z, z = h15.size := ⟨_, rfl⟩
    rw [← g18] at A18 D18 st18
    have O18 : Old Z n0 h18 := O15.ext E18
    have F19 : Fld Z h18 b18 "java/lang/String" "coder" "B" (.int (0 : Int32)) := D18 (Or.inr (hw _ (List.mem_of_getElem? (i := 30) rfl))) (ty := .byte) (by decide)
    have F20 : Fld Z h18 b18 "java/lang/String" "value" "[B" .null := D18 (Or.inr (hw _ (List.mem_of_getElem? (i := 32) rfl))) (ty := (.array .byte)) (by decide)
    have pre_21 : ∀ t, Steps p.tables e below (T18.setTop (mkF m 83 #[.val (.int p1), .val (.int p2), .val (.int p3), .val (.int p4), .val (.ref aMOODYS), .val (.int ((XT.ushr p3 (1 : Int32)) &&& (3 : Int32))), .val (.int qq), .val (.ref b12), .unset, .unset, .unset, .unset, .unset, .unset, .unset, .unset, .unset, .unset] [(.ref b18)])) t → Steps p.tables e below (s₁.setTop (entryFrame m #[(.int p1), (.int p2), (.int p3), (.int p4)] maxLocals)) t := fun t k => pre_17 t (st18 t k)
    have pre_22 : ∀ t, Steps p.tables e below (T18.setTop (mkF m 86 #[.val (.int p1), .val (.int p2), .val (.int p3), .val (.int p4), .val (.ref aMOODYS), .val (.int ((XT.ushr p3 (1 : Int32)) &&& (3 : Int32))), .val (.int qq), .val (.ref b12), .unset, .unset, .unset, .unset, .unset, .unset, .unset, .unset, .unset, .unset] [(.ref b12), (.ref b18), (.ref b18)])) t → Steps p.tables e below (s₁.setTop (entryFrame m #[(.int p1), (.int p2), (.int p3), (.int p4)] maxLocals)) t := by
      intro t k
      refine pre_21 t ?_
      show Steps p.tables e below (T18.setTop (mkF m 83 #[.val (.int p1), .val (.int p2), .val (.int p3), .val (.int p4), .val (.ref aMOODYS), .val (.int ((XT.ushr p3 (1 : Int32)) &&& (3 : Int32))), .val (.int qq), .val (.ref b12), .unset, .unset, .unset, .unset, .unset, .unset, .unset, .unset, .unset, .unset] [(.ref b18)])) _
      refine XS.dup X18.here hx rfl (hb hby at_83) rfl rfl ?_
      show Steps p.tables e below (T18.setTop (mkF m 84 #[.val (.int p1), .val (.int p2), .val (.int p3), .val (.int p4), .val (.ref aMOODYS), .val (.int ((XT.ushr p3 (1 : Int32)) &&& (3 : Int32))), .val (.int qq), .val (.ref b12), .unset, .unset, .unset, .unset, .unset, .unset, .unset, .unset, .unset, .unset] [(.ref b18), (.ref b18)])) _
      refine XS.aload X18.here hx rfl (hb hby at_84) rfl rfl ?_
      show Steps p.tables e below (T18.setTop (mkF m 86 #[.val (.int p1), .val (.int p2), .val (.int p3), .val (.int p4), .val (.ref aMOODYS), .val (.int ((XT.ushr p3 (1 : Int32)) &&& (3 : Int32))), .val (.int qq), .val (.ref b12), .unset, .unset, .unset, .unset, .unset, .unset, .unset, .unset, .unset, .unset] [(.ref b12), (.ref b18), (.ref b18)])) _
      exact k
    obtain ⟨_, _, ⟨T23, L23, k23, n23⟩, -, X23, ⟨Lc23, hQ23, l23, y23, z23⟩, st23⟩ := X18.specialBack hx (y := (⟨"java/lang/String", "<init>", "([C)V"⟩ : MethodName)) rfl hown (mvT hZ (hw _ (List.mem_of_getElem? (i := 7) rfl))) (mvT hZ (hw _ (List.mem_of_getElem? (i := 8) rfl))) (mvT hZ (hw _ (List.mem_of_getElem? (i := 9) rfl))) (by decide) (backOf (W := 1) (rm_str1 l Z a0 hw [] b18 b12 .null (.int (0 : Int32)) G1 cA12 cc h18 n0 O18 A18 F20 F19 (Nat.le_trans (own_le O15) (Nat.le_of_eq g18.symm)) SC hG (V15.ext E18) hcc.2) hZ (hw _ (List.mem_of_getElem? (i := 9) rfl)) (hw _ (List.mem_of_getElem? (i := 6) rfl)) (by decide) (by decide)) (g := (mkF m 86 #[.val (.int p1), .val (.int p2), .val (.int p3), .val (.int p4), .val (.ref aMOODYS), .val (.int ((XT.ushr p3 (1 : Int32)) &&& (3 : Int32))), .val (.int qq), .val (.ref b12), .unset, .unset, .unset, .unset, .unset, .unset, .unset, .unset, .unset, .unset] [(.ref b12), (.ref b18), (.ref b18)])) rfl (by rw [hml]; rfl) (Steps.refl _) (a := b18) (argsL := [(.ref b12)]) (rest := [(.ref b18)]) (lenOf pd_law_0 rfl) rfl (by show 2 * 0 + _ ≤ _; exact Nat.le_of_eq rfl) (hb hby at_86) (fun _ _ => ⟨rfl, e18, (by decide : 2 + 1 ≤ _), (by decide : 5 + 1 ≤ _)⟩)
    dsimp only [Pt.U, Pt.locs, Pt.cells, Pt.slots] at X23 l23 y23 z23 st23 hQ23
    subst l23 y23 z23
    obtain ⟨rfl, N23q, K23, Fc23, b23, kB23, sb23, Fv23, Vb23⟩ := hQ23
    have N23 := Fr.app N15 N23q
    have O23 : Old Z n0 T23.heap := O18.keep K23 (allS (Nat.le_trans (own_le O15) (Nat.le_of_eq g18.symm)) all0)
    have pre_24 : ∀ t, Steps p.tables e below (T23.setTop (mkF m 89 #[.val (.int p1), .val (.int p2), .val (.int p3), .val (.int p4), .val (.ref aMOODYS), .val (.int ((XT.ushr p3 (1 : Int32)) &&& (3 : Int32))), .val (.int qq), .val (.ref b12), .unset, .unset, .unset, .unset, .unset, .unset, .unset, .unset, .unset, .unset] [(.ref b18)])) t → Steps p.tables e below (s₁.setTop (entryFrame m #[(.int p1), (.int p2), (.int p3), (.int p4)] maxLocals)) t := fun t k => pre_22 t (st23.trans k)
    have pre_25 : ∀ t, Steps p.tables e below (T23.setTop (mkF m 91 #[.val (.int p1), .val (.int p2), .val (.int p3), .val (.int p4), .val (.ref aMOODYS), .val (.int ((XT.ushr p3 (1 : Int32)) &&& (3 : Int32))), .val (.int qq), .val (.ref b12), .val (.ref b18), .unset, .unset, .unset, .unset, .unset, .unset, .unset, .unset, .unset] [])) t → Steps p.tables e below (s₁.setTop (entryFrame m #[(.int p1), (.int p2), (.int p3), (.int p4)] maxLocals)) t := by
      intro t k
      refine pre_24 t ?_
      show Steps p.tables e below (T23.setTop (mkF m 89 #[.val (.int p1), .val (.int p2), .val (.int p3), .val (.int p4), .val (.ref aMOODYS), .val (.int ((XT.ushr p3 (1 : Int32)) &&& (3 : Int32))), .val (.int qq), .val (.ref b12), .unset, .unset, .unset, .unset, .unset, .unset, .unset, .unset, .unset, .unset] [(.ref b18)])) _
      refine XS.astore X23.here hx rfl (hb hby at_89) rfl rfl (l' := #[.val (.int p1), .val (.int p2), .val (.int p3), .val (.int p4), .val (.ref aMOODYS), .val (.int ((XT.ushr p3 (1 : Int32)) &&& (3 : Int32))), .val (.int qq), .val (.ref b12), .val (.ref b18), .unset, .unset, .unset, .unset, .unset, .unset, .unset, .unset, .unset]) rfl ?_
      show Steps p.tables e below (T23.setTop (mkF m 91 #[.val (.int p1), .val (.int p2), .val (.int p3), .val (.int p4), .val (.ref aMOODYS), .val (.int ((XT.ushr p3 (1 : Int32)) &&& (3 : Int32))), .val (.int qq), .val (.ref b12), .val (.ref b18), .unset, .unset, .unset, .unset, .unset, .unset, .unset, .unset, .unset] [])) _
      exact k
    obtain ⟨T26, h26, X26, e26, E26, A26, D26, -, st26⟩ := newO X23 hx hZ hown (hw _ (List.mem_of_getElem? (i := 33) rfl)) (hw _ (List.mem_of_getElem? (i := 34) rfl)) (hw _ (List.mem_of_getElem? (i := 35) rfl)) rfl (g := (mkF m 91 #[.val (.int p1), .val (.int p2), .val (.int p3), .val (.int p4), .val (.ref aMOODYS), .val (.int ((XT.ushr p3 (1 : Int32)) &&& (3 : Int32))), .val (.int qq), .val (.ref b12), .val (.ref b18), .unset, .unset, .unset, .unset, .unset, .unset, .unset, .unset, .unset] [])) rfl (hb hby at_91) (by decide) (by decide)
    obtain ⟨b26, g26⟩ : ∃ z, z = T23.heap.size := ⟨_, rfl⟩
    rw [← g26] at A26 D26 st26
    have O26 : Old Z n0 h26 := O23.ext E26
    have F27 : Fld Z h26 b26 "com/example/tranche/tranche/Rating" "agency" "Lcom/example/tranche/tranche/RatingAgency;" .null := D26 (Or.inr (hw _ (List.mem_of_getElem? (i := 41) rfl))) (ty := (.object "com/example/tranche/tranche/RatingAgency")) (by decide)
    have F28 : Fld Z h26 b26 "com/example/tranche/tranche/Rating" "place" "I" (.int (0 : Int32)) := D26 (Or.inr (hw _ (List.mem_of_getElem? (i := 43) rfl))) (ty := .int) (by decide)
    have F29 : Fld Z h26 b26 "com/example/tranche/tranche/Rating" "text" "Ljava/lang/String;" .null := D26 (Or.inr (hw _ (List.mem_of_getElem? (i := 45) rfl))) (ty := (.object "java/lang/String")) (by decide)
    have pre_30 : ∀ t, Steps p.tables e below (T26.setTop (mkF m 94 #[.val (.int p1), .val (.int p2), .val (.int p3), .val (.int p4), .val (.ref aMOODYS), .val (.int ((XT.ushr p3 (1 : Int32)) &&& (3 : Int32))), .val (.int qq), .val (.ref b12), .val (.ref b18), .unset, .unset, .unset, .unset, .unset, .unset, .unset, .unset, .unset] [(.ref b26)])) t → Steps p.tables e below (s₁.setTop (entryFrame m #[(.int p1), (.int p2), (.int p3), (.int p4)] maxLocals)) t := fun t k => pre_25 t (st26 t k)
    have pre_31 : ∀ t, Steps p.tables e below (T26.setTop (mkF m 100 #[.val (.int p1), .val (.int p2), .val (.int p3), .val (.int p4), .val (.ref aMOODYS), .val (.int ((XT.ushr p3 (1 : Int32)) &&& (3 : Int32))), .val (.int qq), .val (.ref b12), .val (.ref b18), .unset, .unset, .unset, .unset, .unset, .unset, .unset, .unset, .unset] [(.ref b18), (.int p1), (.ref aMOODYS), (.ref b26), (.ref b26)])) t → Steps p.tables e below (s₁.setTop (entryFrame m #[(.int p1), (.int p2), (.int p3), (.int p4)] maxLocals)) t := by
      intro t k
      refine pre_30 t ?_
      show Steps p.tables e below (T26.setTop (mkF m 94 #[.val (.int p1), .val (.int p2), .val (.int p3), .val (.int p4), .val (.ref aMOODYS), .val (.int ((XT.ushr p3 (1 : Int32)) &&& (3 : Int32))), .val (.int qq), .val (.ref b12), .val (.ref b18), .unset, .unset, .unset, .unset, .unset, .unset, .unset, .unset, .unset] [(.ref b26)])) _
      refine XS.dup X26.here hx rfl (hb hby at_94) rfl rfl ?_
      show Steps p.tables e below (T26.setTop (mkF m 95 #[.val (.int p1), .val (.int p2), .val (.int p3), .val (.int p4), .val (.ref aMOODYS), .val (.int ((XT.ushr p3 (1 : Int32)) &&& (3 : Int32))), .val (.int qq), .val (.ref b12), .val (.ref b18), .unset, .unset, .unset, .unset, .unset, .unset, .unset, .unset, .unset] [(.ref b26), (.ref b26)])) _
      refine XS.aload X26.here hx rfl (hb hby at_95) rfl rfl ?_
      show Steps p.tables e below (T26.setTop (mkF m 97 #[.val (.int p1), .val (.int p2), .val (.int p3), .val (.int p4), .val (.ref aMOODYS), .val (.int ((XT.ushr p3 (1 : Int32)) &&& (3 : Int32))), .val (.int qq), .val (.ref b12), .val (.ref b18), .unset, .unset, .unset, .unset, .unset, .unset, .unset, .unset, .unset] [(.ref aMOODYS), (.ref b26), (.ref b26)])) _
      refine XS.iloadN X26.here hx rfl (hb hby at_97) rfl ?_
      show Steps p.tables e below (T26.setTop (mkF m 98 #[.val (.int p1), .val (.int p2), .val (.int p3), .val (.int p4), .val (.ref aMOODYS), .val (.int ((XT.ushr p3 (1 : Int32)) &&& (3 : Int32))), .val (.int qq), .val (.ref b12), .val (.ref b18), .unset, .unset, .unset, .unset, .unset, .unset, .unset, .unset, .unset] [(.int p1), (.ref aMOODYS), (.ref b26), (.ref b26)])) _
      refine XS.aload X26.here hx rfl (hb hby at_98) rfl rfl ?_
      show Steps p.tables e below (T26.setTop (mkF m 100 #[.val (.int p1), .val (.int p2), .val (.int p3), .val (.int p4), .val (.ref aMOODYS), .val (.int ((XT.ushr p3 (1 : Int32)) &&& (3 : Int32))), .val (.int qq), .val (.ref b12), .val (.ref b18), .unset, .unset, .unset, .unset, .unset, .unset, .unset, .unset, .unset] [(.ref b18), (.int p1), (.ref aMOODYS), (.ref b26), (.ref b26)])) _
      exact k
    obtain ⟨_, _, ⟨T32, L32, k32, n32⟩, -, X32, ⟨Lc32, hQ32, l32, y32, z32⟩, st32⟩ := X26.specialBack hx (y := (⟨"com/example/tranche/tranche/Rating", "<init>", "(Lcom/example/tranche/tranche/RatingAgency;ILjava/lang/String;)V"⟩ : MethodName)) rfl hown (mvT hZ (hw _ (List.mem_of_getElem? (i := 36) rfl))) (mvT hZ (hw _ (List.mem_of_getElem? (i := 37) rfl))) (mvT hZ (hw _ (List.mem_of_getElem? (i := 38) rfl))) (by decide) (backOf (W := 1) (rm_ini l Z a0 hw [] b26 aMOODYS p1 b18 .null (.int (0 : Int32)) .null h26 n0 O26 A26 F27 F28 F29 (Nat.le_trans (own_le O23) (Nat.le_of_eq g26.symm))) hZ (hw _ (List.mem_of_getElem? (i := 38) rfl)) (hw _ (List.mem_of_getElem? (i := 35) rfl)) (by decide) (by decide)) (g := (mkF m 100 #[.val (.int p1), .val (.int p2), .val (.int p3), .val (.int p4), .val (.ref aMOODYS), .val (.int ((XT.ushr p3 (1 : Int32)) &&& (3 : Int32))), .val (.int qq), .val (.ref b12), .val (.ref b18), .unset, .unset, .unset, .unset, .unset, .unset, .unset, .unset, .unset] [(.ref b18), (.int p1), (.ref aMOODYS), (.ref b26), (.ref b26)])) rfl (by rw [hml]; rfl) (Steps.refl _) (a := b26) (argsL := [(.ref aMOODYS), (.int p1), (.ref b18)]) (rest := [(.ref b26)]) (lenOf pd_law_1 rfl) rfl (by show 2 * 0 + _ ≤ _; exact Nat.le_of_eq rfl) (hb hby at_100) (fun _ _ => ⟨rfl, e26, (by decide : 4 + 0 ≤ _), (by decide : 9 + 0 ≤ _)⟩)
    dsimp only [Pt.U, Pt.locs, Pt.cells, Pt.slots] at X32 l32 y32 z32 st32 hQ32
    subst l32 y32 z32
    obtain ⟨rfl, N32q, K32, Fp32⟩ := hQ32
    have N32 := Fr.app N23 N32q
    have O32 : Old Z n0 T32.heap := O26.keep K32 (allS (Nat.le_trans (own_le O23) (Nat.le_of_eq g26.symm)) all0)
    have pre_33 : ∀ t, Steps p.tables e below (T32.setTop (mkF m 103 #[.val (.int p1), .val (.int p2), .val (.int p3), .val (.int p4), .val (.ref aMOODYS), .val (.int ((XT.ushr p3 (1 : Int32)) &&& (3 : Int32))), .val (.int qq), .val (.ref b12), .val (.ref b18), .unset, .unset, .unset, .unset, .unset, .unset, .unset, .unset, .unset] [(.ref b26)])) t → Steps p.tables e below (s₁.setTop (entryFrame m #[(.int p1), (.int p2), (.int p3), (.int p4)] maxLocals)) t := fun t k => pre_31 t (st32.trans k)
    have pre_34 : ∀ t, Steps p.tables e below (T32.setTop (mkF m 105 #[.val (.int p1), .val (.int p2), .val (.int p3), .val (.int p4), .val (.ref aMOODYS), .val (.int ((XT.ushr p3 (1 : Int32)) &&& (3 : Int32))), .val (.int qq), .val (.ref b12), .val (.ref b18), .val (.ref b26), .unset, .unset, .unset, .unset, .unset, .unset, .unset, .unset] [])) t → Steps p.tables e below (s₁.setTop (entryFrame m #[(.int p1), (.int p2), (.int p3), (.int p4)] maxLocals)) t := by
      intro t k
      refine pre_33 t ?_
      show Steps p.tables e below (T32.setTop (mkF m 103 #[.val (.int p1), .val (.int p2), .val (.int p3), .val (.int p4), .val (.ref aMOODYS), .val (.int ((XT.ushr p3 (1 : Int32)) &&& (3 : Int32))), .val (.int qq), .val (.ref b12), .val (.ref b18), .unset, .unset, .unset, .unset, .unset, .unset, .unset, .unset, .unset] [(.ref b26)])) _
      refine XS.astore X32.here hx rfl (hb hby at_103) rfl rfl (l' := #[.val (.int p1), .val (.int p2), .val (.int p3), .val (.int p4), .val (.ref aMOODYS), .val (.int ((XT.ushr p3 (1 : Int32)) &&& (3 : Int32))), .val (.int qq), .val (.ref b12), .val (.ref b18), .val (.ref b26), .unset, .unset, .unset, .unset, .unset, .unset, .unset, .unset]) rfl ?_
      show Steps p.tables e below (T32.setTop (mkF m 105 #[.val (.int p1), .val (.int p2), .val (.int p3), .val (.int p4), .val (.ref aMOODYS), .val (.int ((XT.ushr p3 (1 : Int32)) &&& (3 : Int32))), .val (.int qq), .val (.ref b12), .val (.ref b18), .val (.ref b26), .unset, .unset, .unset, .unset, .unset, .unset, .unset, .unset] [])) _
      exact k
    obtain ⟨T35, h35, X35, e35, E35, A35, D35, -, st35⟩ := newO X32 hx hZ hown (hw _ (List.mem_of_getElem? (i := 33) rfl)) (hw _ (List.mem_of_getElem? (i := 34) rfl)) (hw _ (List.mem_of_getElem? (i := 35) rfl)) rfl (g := (mkF m 105 #[.val (.int p1), .val (.int p2), .val (.int p3), .val (.int p4), .val (.ref aMOODYS), .val (.int ((XT.ushr p3 (1 : Int32)) &&& (3 : Int32))), .val (.int qq), .val (.ref b12), .val (.ref b18), .val (.ref b26), .unset, .unset, .unset, .unset, .unset, .unset, .unset, .unset] [])) rfl (hb hby at_105) (by decide) (by decide)
    obtain ⟨b35, g35⟩ : ∃ z, z = T32.heap.size := ⟨_, rfl⟩
    rw [← g35] at A35 D35 st35
    have O35 : Old Z n0 h35 := O32.ext E35
    have F36 : Fld Z h35 b35 "com/example/tranche/tranche/Rating" "agency" "Lcom/example/tranche/tranche/RatingAgency;" .null := D35 (Or.inr (hw _ (List.mem_of_getElem? (i := 41) rfl))) (ty := (.object "com/example/tranche/tranche/RatingAgency")) (by decide)
    have F37 : Fld Z h35 b35 "com/example/tranche/tranche/Rating" "place" "I" (.int (0 : Int32)) := D35 (Or.inr (hw _ (List.mem_of_getElem? (i := 43) rfl))) (ty := .int) (by decide)
    have F38 : Fld Z h35 b35 "com/example/tranche/tranche/Rating" "text" "Ljava/lang/String;" .null := D35 (Or.inr (hw _ (List.mem_of_getElem? (i := 45) rfl))) (ty := (.object "java/lang/String")) (by decide)
    have pre_39 : ∀ t, Steps p.tables e below (T35.setTop (mkF m 108 #[.val (.int p1), .val (.int p2), .val (.int p3), .val (.int p4), .val (.ref aMOODYS), .val (.int ((XT.ushr p3 (1 : Int32)) &&& (3 : Int32))), .val (.int qq), .val (.ref b12), .val (.ref b18), .val (.ref b26), .unset, .unset, .unset, .unset, .unset, .unset, .unset, .unset] [(.ref b35)])) t → Steps p.tables e below (s₁.setTop (entryFrame m #[(.int p1), (.int p2), (.int p3), (.int p4)] maxLocals)) t := fun t k => pre_34 t (st35 t k)
    have pre_40 : ∀ t, Steps p.tables e below (T35.setTop (mkF m 115 #[.val (.int p1), .val (.int p2), .val (.int p3), .val (.int p4), .val (.ref aMOODYS), .val (.int ((XT.ushr p3 (1 : Int32)) &&& (3 : Int32))), .val (.int qq), .val (.ref b12), .val (.ref b18), .val (.ref b26), .unset, .unset, .unset, .unset, .unset, .unset, .unset, .unset] [(.ref b18), (.int qq), (.ref aMOODYS), (.ref b35), (.ref b35)])) t → Steps p.tables e below (s₁.setTop (entryFrame m #[(.int p1), (.int p2), (.int p3), (.int p4)] maxLocals)) t := by
      intro t k
      refine pre_39 t ?_
      show Steps p.tables e below (T35.setTop (mkF m 108 #[.val (.int p1), .val (.int p2), .val (.int p3), .val (.int p4), .val (.ref aMOODYS), .val (.int ((XT.ushr p3 (1 : Int32)) &&& (3 : Int32))), .val (.int qq), .val (.ref b12), .val (.ref b18), .val (.ref b26), .unset, .unset, .unset, .unset, .unset, .unset, .unset, .unset] [(.ref b35)])) _
      refine XS.dup X35.here hx rfl (hb hby at_108) rfl rfl ?_
      show Steps p.tables e below (T35.setTop (mkF m 109 #[.val (.int p1), .val (.int p2), .val (.int p3), .val (.int p4), .val (.ref aMOODYS), .val (.int ((XT.ushr p3 (1 : Int32)) &&& (3 : Int32))), .val (.int qq), .val (.ref b12), .val (.ref b18), .val (.ref b26), .unset, .unset, .unset, .unset, .unset, .unset, .unset, .unset] [(.ref b35), (.ref b35)])) _
      refine XS.aload X35.here hx rfl (hb hby at_109) rfl rfl ?_
      show Steps p.tables e below (T35.setTop (mkF m 111 #[.val (.int p1), .val (.int p2), .val (.int p3), .val (.int p4), .val (.ref aMOODYS), .val (.int ((XT.ushr p3 (1 : Int32)) &&& (3 : Int32))), .val (.int qq), .val (.ref b12), .val (.ref b18), .val (.ref b26), .unset, .unset, .unset, .unset, .unset, .unset, .unset, .unset] [(.ref aMOODYS), (.ref b35), (.ref b35)])) _
      refine XS.iload X35.here hx rfl (hb hby at_111) rfl ?_
      show Steps p.tables e below (T35.setTop (mkF m 113 #[.val (.int p1), .val (.int p2), .val (.int p3), .val (.int p4), .val (.ref aMOODYS), .val (.int ((XT.ushr p3 (1 : Int32)) &&& (3 : Int32))), .val (.int qq), .val (.ref b12), .val (.ref b18), .val (.ref b26), .unset, .unset, .unset, .unset, .unset, .unset, .unset, .unset] [(.int qq), (.ref aMOODYS), (.ref b35), (.ref b35)])) _
      refine XS.aload X35.here hx rfl (hb hby at_113) rfl rfl ?_
      show Steps p.tables e below (T35.setTop (mkF m 115 #[.val (.int p1), .val (.int p2), .val (.int p3), .val (.int p4), .val (.ref aMOODYS), .val (.int ((XT.ushr p3 (1 : Int32)) &&& (3 : Int32))), .val (.int qq), .val (.ref b12), .val (.ref b18), .val (.ref b26), .unset, .unset, .unset, .unset, .unset, .unset, .unset, .unset] [(.ref b18), (.int qq), (.ref aMOODYS), (.ref b35), (.ref b35)])) _
      exact k
    obtain ⟨_, _, ⟨T41, L41, k41, n41⟩, -, X41, ⟨Lc41, hQ41, l41, y41, z41⟩, st41⟩ := X35.specialBack hx (y := (⟨"com/example/tranche/tranche/Rating", "<init>", "(Lcom/example/tranche/tranche/RatingAgency;ILjava/lang/String;)V"⟩ : MethodName)) rfl hown (mvT hZ (hw _ (List.mem_of_getElem? (i := 36) rfl))) (mvT hZ (hw _ (List.mem_of_getElem? (i := 37) rfl))) (mvT hZ (hw _ (List.mem_of_getElem? (i := 38) rfl))) (by decide) (backOf (W := 1) (rm_ini l Z a0 hw [] b35 aMOODYS qq b18 .null (.int (0 : Int32)) .null h35 n0 O35 A35 F36 F37 F38 (Nat.le_trans (own_le O32) (Nat.le_of_eq g35.symm))) hZ (hw _ (List.mem_of_getElem? (i := 38) rfl)) (hw _ (List.mem_of_getElem? (i := 35) rfl)) (by decide) (by decide)) (g := (mkF m 115 #[.val (.int p1), .val (.int p2), .val (.int p3), .val (.int p4), .val (.ref aMOODYS), .val (.int ((XT.ushr p3 (1 : Int32)) &&& (3 : Int32))), .val (.int qq), .val (.ref b12), .val (.ref b18), .val (.ref b26), .unset, .unset, .unset, .unset, .unset, .unset, .unset, .unset] [(.ref b18), (.int qq), (.ref aMOODYS), (.ref b35), (.ref b35)])) rfl (by rw [hml]; rfl) (Steps.refl _) (a := b35) (argsL := [(.ref aMOODYS), (.int qq), (.ref b18)]) (rest := [(.ref b35)]) (lenOf pd_law_1 rfl) rfl (by show 2 * 0 + _ ≤ _; exact Nat.le_of_eq rfl) (hb hby at_115) (fun _ _ => ⟨rfl, e35, (by decide : 5 + 0 ≤ _), (by decide : 12 + 0 ≤ _)⟩)
    dsimp only [Pt.U, Pt.locs, Pt.cells, Pt.slots] at X41 l41 y41 z41 st41 hQ41
    subst l41 y41 z41
    obtain ⟨rfl, N41q, K41, Fp41⟩ := hQ41
    have N41 := Fr.app N32 N41q
    have O41 : Old Z n0 T41.heap := O35.keep K41 (allS (Nat.le_trans (own_le O32) (Nat.le_of_eq g35.symm)) all0)
    have pre_42 : ∀ t, Steps p.tables e below (T41.setTop (mkF m 118 #[.val (.int p1), .val (.int p2), .val (.int p3), .val (.int p4), .val (.ref aMOODYS), .val (.int ((XT.ushr p3 (1 : Int32)) &&& (3 : Int32))), .val (.int qq), .val (.ref b12), .val (.ref b18), .val (.ref b26), .unset, .unset, .unset, .unset, .unset, .unset, .unset, .unset] [(.ref b35)])) t → Steps p.tables e below (s₁.setTop (entryFrame m #[(.int p1), (.int p2), (.int p3), (.int p4)] maxLocals)) t := fun t k => pre_40 t (st41.trans k)
    have pre_43 : ∀ t, Steps p.tables e below (T41.setTop (mkF m 120 #[.val (.int p1), .val (.int p2), .val (.int p3), .val (.int p4), .val (.ref aMOODYS), .val (.int ((XT.ushr p3 (1 : Int32)) &&& (3 : Int32))), .val (.int qq), .val (.ref b12), .val (.ref b18), .val (.ref b26), .val (.ref b35), .unset, .unset, .unset, .unset, .unset, .unset, .unset] [])) t → Steps p.tables e below (s₁.setTop (entryFrame m #[(.int p1), (.int p2), (.int p3), (.int p4)] maxLocals)) t := by
      intro t k
      refine pre_42 t ?_
      show Steps p.tables e below (T41.setTop (mkF m 118 #[.val (.int p1), .val (.int p2), .val (.int p3), .val (.int p4), .val (.ref aMOODYS), .val (.int ((XT.ushr p3 (1 : Int32)) &&& (3 : Int32))), .val (.int qq), .val (.ref b12), .val (.ref b18), .val (.ref b26), .unset, .unset, .unset, .unset, .unset, .unset, .unset, .unset] [(.ref b35)])) _
      refine XS.astore X41.here hx rfl (hb hby at_118) rfl rfl (l' := #[.val (.int p1), .val (.int p2), .val (.int p3), .val (.int p4), .val (.ref aMOODYS), .val (.int ((XT.ushr p3 (1 : Int32)) &&& (3 : Int32))), .val (.int qq), .val (.ref b12), .val (.ref b18), .val (.ref b26), .val (.ref b35), .unset, .unset, .unset, .unset, .unset, .unset, .unset]) rfl ?_
      show Steps p.tables e below (T41.setTop (mkF m 120 #[.val (.int p1), .val (.int p2), .val (.int p3), .val (.int p4), .val (.ref aMOODYS), .val (.int ((XT.ushr p3 (1 : Int32)) &&& (3 : Int32))), .val (.int qq), .val (.ref b12), .val (.ref b18), .val (.ref b26), .val (.ref b35), .unset, .unset, .unset, .unset, .unset, .unset, .unset] [])) _
      exact k
    obtain ⟨T44, h44, X44, e44, E44, A44, D44, -, st44⟩ := newO X41 hx hZ hown (hw _ (List.mem_of_getElem? (i := 33) rfl)) (hw _ (List.mem_of_getElem? (i := 34) rfl)) (hw _ (List.mem_of_getElem? (i := 35) rfl)) rfl (g := (mkF m 120 #[.val (.int p1), .val (.int p2), .val (.int p3), .val (.int p4), .val (.ref aMOODYS), .val (.int ((XT.ushr p3 (1 : Int32)) &&& (3 : Int32))), .val (.int qq), .val (.ref b12), .val (.ref b18), .val (.ref b26), .val (.ref b35), .unset, .unset, .unset, .unset, .unset, .unset, .unset] [])) rfl (hb hby at_120) (by decide) (by decide)
    obtain ⟨b44, g44⟩ : ∃ z, z = T41.heap.size := ⟨_, rfl⟩
    rw [← g44] at A44 D44 st44
    have O44 : Old Z n0 h44 := O41.ext E44
    have F45 : Fld Z h44 b44 "com/example/tranche/tranche/Rating" "agency" "Lcom/example/tranche/tranche/RatingAgency;" .null := D44 (Or.inr (hw _ (List.mem_of_getElem? (i := 41) rfl))) (ty := (.object "com/example/tranche/tranche/RatingAgency")) (by decide)
    have F46 : Fld Z h44 b44 "com/example/tranche/tranche/Rating" "place" "I" (.int (0 : Int32)) := D44 (Or.inr (hw _ (List.mem_of_getElem? (i := 43) rfl))) (ty := .int) (by decide)
    have F47 : Fld Z h44 b44 "com/example/tranche/tranche/Rating" "text" "Ljava/lang/String;" .null := D44 (Or.inr (hw _ (List.mem_of_getElem? (i := 45) rfl))) (ty := (.object "java/lang/String")) (by decide)
    have pre_48 : ∀ t, Steps p.tables e below (T44.setTop (mkF m 123 #[.val (.int p1), .val (.int p2), .val (.int p3), .val (.int p4), .val (.ref aMOODYS), .val (.int ((XT.ushr p3 (1 : Int32)) &&& (3 : Int32))), .val (.int qq), .val (.ref b12), .val (.ref b18), .val (.ref b26), .val (.ref b35), .unset, .unset, .unset, .unset, .unset, .unset, .unset] [(.ref b44)])) t → Steps p.tables e below (s₁.setTop (entryFrame m #[(.int p1), (.int p2), (.int p3), (.int p4)] maxLocals)) t := fun t k => pre_43 t (st44 t k)
    have pre_49 : ∀ t, Steps p.tables e below (T44.setTop (mkF m 129 #[.val (.int p1), .val (.int p2), .val (.int p3), .val (.int p4), .val (.ref aMOODYS), .val (.int ((XT.ushr p3 (1 : Int32)) &&& (3 : Int32))), .val (.int qq), .val (.ref b12), .val (.ref b18), .val (.ref b26), .val (.ref b35), .unset, .unset, .unset, .unset, .unset, .unset, .unset] [(.ref b18), (.int p1), (.ref aMOODYS), (.ref b44), (.ref b44)])) t → Steps p.tables e below (s₁.setTop (entryFrame m #[(.int p1), (.int p2), (.int p3), (.int p4)] maxLocals)) t := by
      intro t k
      refine pre_48 t ?_
      show Steps p.tables e below (T44.setTop (mkF m 123 #[.val (.int p1), .val (.int p2), .val (.int p3), .val (.int p4), .val (.ref aMOODYS), .val (.int ((XT.ushr p3 (1 : Int32)) &&& (3 : Int32))), .val (.int qq), .val (.ref b12), .val (.ref b18), .val (.ref b26), .val (.ref b35), .unset, .unset, .unset, .unset, .unset, .unset, .unset] [(.ref b44)])) _
      refine XS.dup X44.here hx rfl (hb hby at_123) rfl rfl ?_
      show Steps p.tables e below (T44.setTop (mkF m 124 #[.val (.int p1), .val (.int p2), .val (.int p3), .val (.int p4), .val (.ref aMOODYS), .val (.int ((XT.ushr p3 (1 : Int32)) &&& (3 : Int32))), .val (.int qq), .val (.ref b12), .val (.ref b18), .val (.ref b26), .val (.ref b35), .unset, .unset, .unset, .unset, .unset, .unset, .unset] [(.ref b44), (.ref b44)])) _
      refine XS.aload X44.here hx rfl (hb hby at_124) rfl rfl ?_
      show Steps p.tables e below (T44.setTop (mkF m 126 #[.val (.int p1), .val (.int p2), .val (.int p3), .val (.int p4), .val (.ref aMOODYS), .val (.int ((XT.ushr p3 (1 : Int32)) &&& (3 : Int32))), .val (.int qq), .val (.ref b12), .val (.ref b18), .val (.ref b26), .val (.ref b35), .unset, .unset, .unset, .unset, .unset, .unset, .unset] [(.ref aMOODYS), (.ref b44), (.ref b44)])) _
      refine XS.iloadN X44.here hx rfl (hb hby at_126) rfl ?_
      show Steps p.tables e below (T44.setTop (mkF m 127 #[.val (.int p1), .val (.int p2), .val (.int p3), .val (.int p4), .val (.ref aMOODYS), .val (.int ((XT.ushr p3 (1 : Int32)) &&& (3 : Int32))), .val (.int qq), .val (.ref b12), .val (.ref b18), .val (.ref b26), .val (.ref b35), .unset, .unset, .unset, .unset, .unset, .unset, .unset] [(.int p1), (.ref aMOODYS), (.ref b44), (.ref b44)])) _
      refine XS.aload X44.here hx rfl (hb hby at_127) rfl rfl ?_
      show Steps p.tables e below (T44.setTop (mkF m 129 #[.val (.int p1), .val (.int p2), .val (.int p3), .val (.int p4), .val (.ref aMOODYS), .val (.int ((XT.ushr p3 (1 : Int32)) &&& (3 : Int32))), .val (.int qq), .val (.ref b12), .val (.ref b18), .val (.ref b26), .val (.ref b35), .unset, .unset, .unset, .unset, .unset, .unset, .unset] [(.ref b18), (.int p1), (.ref aMOODYS), (.ref b44), (.ref b44)])) _
      exact k
    obtain ⟨_, _, ⟨T50, L50, k50, n50⟩, -, X50, ⟨Lc50, hQ50, l50, y50, z50⟩, st50⟩ := X44.specialBack hx (y := (⟨"com/example/tranche/tranche/Rating", "<init>", "(Lcom/example/tranche/tranche/RatingAgency;ILjava/lang/String;)V"⟩ : MethodName)) rfl hown (mvT hZ (hw _ (List.mem_of_getElem? (i := 36) rfl))) (mvT hZ (hw _ (List.mem_of_getElem? (i := 37) rfl))) (mvT hZ (hw _ (List.mem_of_getElem? (i := 38) rfl))) (by decide) (backOf (W := 1) (rm_ini l Z a0 hw [] b44 aMOODYS p1 b18 .null (.int (0 : Int32)) .null h44 n0 O44 A44 F45 F46 F47 (Nat.le_trans (own_le O41) (Nat.le_of_eq g44.symm))) hZ (hw _ (List.mem_of_getElem? (i := 38) rfl)) (hw _ (List.mem_of_getElem? (i := 35) rfl)) (by decide) (by decide)) (g := (mkF m 129 #[.val (.int p1), .val (.int p2), .val (.int p3), .val (.int p4), .val (.ref aMOODYS), .val (.int ((XT.ushr p3 (1 : Int32)) &&& (3 : Int32))), .val (.int qq), .val (.ref b12), .val (.ref b18), .val (.ref b26), .val (.ref b35), .unset, .unset, .unset, .unset, .unset, .unset, .unset] [(.ref b18), (.int p1), (.ref aMOODYS), (.ref b44), (.ref b44)])) rfl (by rw [hml]; rfl) (Steps.refl _) (a := b44) (argsL := [(.ref aMOODYS), (.int p1), (.ref b18)]) (rest := [(.ref b44)]) (lenOf pd_law_1 rfl) rfl (by show 2 * 0 + _ ≤ _; exact Nat.le_of_eq rfl) (hb hby at_129) (fun _ _ => ⟨rfl, e44, (by decide : 6 + 0 ≤ _), (by decide : 15 + 0 ≤ _)⟩)
    dsimp only [Pt.U, Pt.locs, Pt.cells, Pt.slots] at X50 l50 y50 z50 st50 hQ50
    subst l50 y50 z50
    obtain ⟨rfl, N50q, K50, Fp50⟩ := hQ50
    have N50 := Fr.app N41 N50q
    have O50 : Old Z n0 T50.heap := O44.keep K50 (allS (Nat.le_trans (own_le O41) (Nat.le_of_eq g44.symm)) all0)
    have pre_51 : ∀ t, Steps p.tables e below (T50.setTop (mkF m 132 #[.val (.int p1), .val (.int p2), .val (.int p3), .val (.int p4), .val (.ref aMOODYS), .val (.int ((XT.ushr p3 (1 : Int32)) &&& (3 : Int32))), .val (.int qq), .val (.ref b12), .val (.ref b18), .val (.ref b26), .val (.ref b35), .unset, .unset, .unset, .unset, .unset, .unset, .unset] [(.ref b44)])) t → Steps p.tables e below (s₁.setTop (entryFrame m #[(.int p1), (.int p2), (.int p3), (.int p4)] maxLocals)) t := fun t k => pre_49 t (st50.trans k)
    have pre_52 : ∀ t, Steps p.tables e below (T50.setTop (mkF m 138 #[.val (.int p1), .val (.int p2), .val (.int p3), .val (.int p4), .val (.ref aMOODYS), .val (.int ((XT.ushr p3 (1 : Int32)) &&& (3 : Int32))), .val (.int qq), .val (.ref b12), .val (.ref b18), .val (.ref b26), .val (.ref b35), .val (.ref b44), .unset, .unset, .unset, .unset, .unset, .unset] [(.ref b35), (.ref b26)])) t → Steps p.tables e below (s₁.setTop (entryFrame m #[(.int p1), (.int p2), (.int p3), (.int p4)] maxLocals)) t := by
      intro t k
      refine pre_51 t ?_
      show Steps p.tables e below (T50.setTop (mkF m 132 #[.val (.int p1), .val (.int p2), .val (.int p3), .val (.int p4), .val (.ref aMOODYS), .val (.int ((XT.ushr p3 (1 : Int32)) &&& (3 : Int32))), .val (.int qq), .val (.ref b12), .val (.ref b18), .val (.ref b26), .val (.ref b35), .unset, .unset, .unset, .unset, .unset, .unset, .unset] [(.ref b44)])) _
      refine XS.astore X50.here hx rfl (hb hby at_132) rfl rfl (l' := #[.val (.int p1), .val (.int p2), .val (.int p3), .val (.int p4), .val (.ref aMOODYS), .val (.int ((XT.ushr p3 (1 : Int32)) &&& (3 : Int32))), .val (.int qq), .val (.ref b12), .val (.ref b18), .val (.ref b26), .val (.ref b35), .val (.ref b44), .unset, .unset, .unset, .unset, .unset, .unset]) rfl ?_
      show Steps p.tables e below (T50.setTop (mkF m 134 #[.val (.int p1), .val (.int p2), .val (.int p3), .val (.int p4), .val (.ref aMOODYS), .val (.int ((XT.ushr p3 (1 : Int32)) &&& (3 : Int32))), .val (.int qq), .val (.ref b12), .val (.ref b18), .val (.ref b26), .val (.ref b35), .val (.ref b44), .unset, .unset, .unset, .unset, .unset, .unset] [])) _
      refine XS.aload X50.here hx rfl (hb hby at_134) rfl rfl ?_
      show Steps p.tables e below (T50.setTop (mkF m 136 #[.val (.int p1), .val (.int p2), .val (.int p3), .val (.int p4), .val (.ref aMOODYS), .val (.int ((XT.ushr p3 (1 : Int32)) &&& (3 : Int32))), .val (.int qq), .val (.ref b12), .val (.ref b18), .val (.ref b26), .val (.ref b35), .val (.ref b44), .unset, .unset, .unset, .unset, .unset, .unset] [(.ref b26)])) _
      refine XS.aload X50.here hx rfl (hb hby at_136) rfl rfl ?_
      show Steps p.tables e below (T50.setTop (mkF m 138 #[.val (.int p1), .val (.int p2), .val (.int p3), .val (.int p4), .val (.ref aMOODYS), .val (.int ((XT.ushr p3 (1 : Int32)) &&& (3 : Int32))), .val (.int qq), .val (.ref b12), .val (.ref b18), .val (.ref b26), .val (.ref b35), .val (.ref b44), .unset, .unset, .unset, .unset, .unset, .unset] [(.ref b35), (.ref b26)])) _
      exact k
    obtain ⟨cq53, kq53, qa53, qb53, qc53⟩ := isOf hZ rfl (((((A26.keep K32).ext E35).keep K41).ext E44).keep K50)
    obtain ⟨_, _, ⟨T53, L53, k53, n53⟩, -, X53, ⟨Lc53, hQ53, l53, y53, z53⟩, st53⟩ := X50.virtualBack hx (y := (⟨"com/example/tranche/tranche/Rating", "meetsOrBeats", "(Lcom/example/tranche/tranche/Rating;)Z"⟩ : MethodName)) (z := (⟨"com/example/tranche/tranche/Rating", "meetsOrBeats", "(Lcom/example/tranche/tranche/Rating;)Z"⟩ : MethodName)) hown (mvT hZ (hw _ (List.mem_of_getElem? (i := 46) rfl))) (mvT hZ (hw _ (List.mem_of_getElem? (i := 47) rfl))) (notFace_of_selects (args := #[]) (mvT hZ (hw _ (List.mem_of_getElem? (i := 49) rfl)))) (mvT hZ (hw _ (List.mem_of_getElem? (i := 49) rfl))) (mvT hZ (hw _ (List.mem_of_getElem? (i := 48) rfl))) (by decide) (backOf (W := 0) (rm_mb l Z a0 hw [] b26 b35 p1 qq T50.heap n0 O50 ((((Fp32.ext E35).keep K41 (ninS (Nat.ne_of_lt (Nat.lt_of_lt_of_le (A26.keep K32).lt (Nat.le_of_eq g35.symm))) nin0)).ext E44).keep K50 (ninS (Nat.ne_of_lt (Nat.lt_of_lt_of_le (((A26.keep K32).ext E35).keep K41).lt (Nat.le_of_eq g44.symm))) nin0)) ((Fp41.ext E44).keep K50 (ninS (Nat.ne_of_lt (Nat.lt_of_lt_of_le (A35.keep K41).lt (Nat.le_of_eq g44.symm))) nin0))) hZ (hw _ (List.mem_of_getElem? (i := 50) rfl)) (hw _ (List.mem_of_getElem? (i := 35) rfl)) (by decide) (by decide)) qa53 qc53 (g := (mkF m 138 #[.val (.int p1), .val (.int p2), .val (.int p3), .val (.int p4), .val (.ref aMOODYS), .val (.int ((XT.ushr p3 (1 : Int32)) &&& (3 : Int32))), .val (.int qq), .val (.ref b12), .val (.ref b18), .val (.ref b26), .val (.ref b35), .val (.ref b44), .unset, .unset, .unset, .unset, .unset, .unset] [(.ref b35), (.ref b26)])) rfl (by rw [hml]; rfl) (Steps.refl _) (argsL := [(.ref b35)]) (rest := []) (lenOf pd_law_2 rfl) rfl (by show 2 * 0 + _ ≤ _; exact Nat.le_of_eq rfl) (hb hby at_138) (fun _ _ => ⟨rfl, rfl, (by decide : 6 + 0 ≤ _), (by decide : 15 + 0 ≤ _)⟩)
    dsimp only [Pt.U, Pt.locs, Pt.cells, Pt.slots] at X53 l53 y53 z53 st53 hQ53
    subst l53 y53 z53
    obtain ⟨rfl, N53q, e53⟩ := hQ53
    have N53 := Fr.app N50 N53q
    have pre_54 : ∀ t, Steps p.tables e below (T53.setTop (mkF m 141 #[.val (.int p1), .val (.int p2), .val (.int p3), .val (.int p4), .val (.ref aMOODYS), .val (.int ((XT.ushr p3 (1 : Int32)) &&& (3 : Int32))), .val (.int qq), .val (.ref b12), .val (.ref b18), .val (.ref b26), .val (.ref b35), .val (.ref b44), .unset, .unset, .unset, .unset, .unset, .unset] [(.int (if qq < p1 then (0 : Int32) else (1 : Int32)))])) t → Steps p.tables e below (s₁.setTop (entryFrame m #[(.int p1), (.int p2), (.int p3), (.int p4)] maxLocals)) t := fun t k => pre_52 t (st53.trans k)
    have pre_55 : ∀ t, Steps p.tables e below (T53.setTop (mkF m 147 #[.val (.int p1), .val (.int p2), .val (.int p3), .val (.int p4), .val (.ref aMOODYS), .val (.int ((XT.ushr p3 (1 : Int32)) &&& (3 : Int32))), .val (.int qq), .val (.ref b12), .val (.ref b18), .val (.ref b26), .val (.ref b35), .val (.ref b44), .val (.int (if qq < p1 then (0 : Int32) else (1 : Int32))), .unset, .unset, .unset, .unset, .unset] [(.ref b26), (.ref b35)])) t → Steps p.tables e below (s₁.setTop (entryFrame m #[(.int p1), (.int p2), (.int p3), (.int p4)] maxLocals)) t := by
      intro t k
      refine pre_54 t ?_
      show Steps p.tables e below (T53.setTop (mkF m 141 #[.val (.int p1), .val (.int p2), .val (.int p3), .val (.int p4), .val (.ref aMOODYS), .val (.int ((XT.ushr p3 (1 : Int32)) &&& (3 : Int32))), .val (.int qq), .val (.ref b12), .val (.ref b18), .val (.ref b26), .val (.ref b35), .val (.ref b44), .unset, .unset, .unset, .unset, .unset, .unset] [(.int (if qq < p1 then (0 : Int32) else (1 : Int32)))])) _
      refine XS.istore X53.here hx rfl (hb hby at_141) rfl (l' := #[.val (.int p1), .val (.int p2), .val (.int p3), .val (.int p4), .val (.ref aMOODYS), .val (.int ((XT.ushr p3 (1 : Int32)) &&& (3 : Int32))), .val (.int qq), .val (.ref b12), .val (.ref b18), .val (.ref b26), .val (.ref b35), .val (.ref b44), .val (.int (if qq < p1 then (0 : Int32) else (1 : Int32))), .unset, .unset, .unset, .unset, .unset]) rfl ?_
      show Steps p.tables e below (T53.setTop (mkF m 143 #[.val (.int p1), .val (.int p2), .val (.int p3), .val (.int p4), .val (.ref aMOODYS), .val (.int ((XT.ushr p3 (1 : Int32)) &&& (3 : Int32))), .val (.int qq), .val (.ref b12), .val (.ref b18), .val (.ref b26), .val (.ref b35), .val (.ref b44), .val (.int (if qq < p1 then (0 : Int32) else (1 : Int32))), .unset, .unset, .unset, .unset, .unset] [])) _
      refine XS.aload X53.here hx rfl (hb hby at_143) rfl rfl ?_
      show Steps p.tables e below (T53.setTop (mkF m 145 #[.val (.int p1), .val (.int p2), .val (.int p3), .val (.int p4), .val (.ref aMOODYS), .val (.int ((XT.ushr p3 (1 : Int32)) &&& (3 : Int32))), .val (.int qq), .val (.ref b12), .val (.ref b18), .val (.ref b26), .val (.ref b35), .val (.ref b44), .val (.int (if qq < p1 then (0 : Int32) else (1 : Int32))), .unset, .unset, .unset, .unset, .unset] [(.ref b35)])) _
      refine XS.aload X53.here hx rfl (hb hby at_145) rfl rfl ?_
      show Steps p.tables e below (T53.setTop (mkF m 147 #[.val (.int p1), .val (.int p2), .val (.int p3), .val (.int p4), .val (.ref aMOODYS), .val (.int ((XT.ushr p3 (1 : Int32)) &&& (3 : Int32))), .val (.int qq), .val (.ref b12), .val (.ref b18), .val (.ref b26), .val (.ref b35), .val (.ref b44), .val (.int (if qq < p1 then (0 : Int32) else (1 : Int32))), .unset, .unset, .unset, .unset, .unset] [(.ref b26), (.ref b35)])) _
      exact k
    obtain ⟨cq56, kq56, qa56, qb56, qc56⟩ := isOf hZ e53 (((A35.keep K41).ext E44).keep K50)
    obtain ⟨_, _, ⟨T56, L56, k56, n56⟩, -, X56, ⟨Lc56, hQ56, l56, y56, z56⟩, st56⟩ := X53.virtualBack hx (y := (⟨"com/example/tranche/tranche/Rating", "meetsOrBeats", "(Lcom/example/tranche/tranche/Rating;)Z"⟩ : MethodName)) (z := (⟨"com/example/tranche/tranche/Rating", "meetsOrBeats", "(Lcom/example/tranche/tranche/Rating;)Z"⟩ : MethodName)) hown (mvT hZ (hw _ (List.mem_of_getElem? (i := 46) rfl))) (mvT hZ (hw _ (List.mem_of_getElem? (i := 47) rfl))) (notFace_of_selects (args := #[]) (mvT hZ (hw _ (List.mem_of_getElem? (i := 49) rfl)))) (mvT hZ (hw _ (List.mem_of_getElem? (i := 49) rfl))) (mvT hZ (hw _ (List.mem_of_getElem? (i := 48) rfl))) (by decide) (backOf (W := 0) (rm_mb l Z a0 hw [] b35 b26 qq p1 T50.heap n0 O50 ((Fp41.ext E44).keep K50 (ninS (Nat.ne_of_lt (Nat.lt_of_lt_of_le (A35.keep K41).lt (Nat.le_of_eq g44.symm))) nin0)) ((((Fp32.ext E35).keep K41 (ninS (Nat.ne_of_lt (Nat.lt_of_lt_of_le (A26.keep K32).lt (Nat.le_of_eq g35.symm))) nin0)).ext E44).keep K50 (ninS (Nat.ne_of_lt (Nat.lt_of_lt_of_le (((A26.keep K32).ext E35).keep K41).lt (Nat.le_of_eq g44.symm))) nin0))) hZ (hw _ (List.mem_of_getElem? (i := 50) rfl)) (hw _ (List.mem_of_getElem? (i := 35) rfl)) (by decide) (by decide)) qa56 qc56 (g := (mkF m 147 #[.val (.int p1), .val (.int p2), .val (.int p3), .val (.int p4), .val (.ref aMOODYS), .val (.int ((XT.ushr p3 (1 : Int32)) &&& (3 : Int32))), .val (.int qq), .val (.ref b12), .val (.ref b18), .val (.ref b26), .val (.ref b35), .val (.ref b44), .val (.int (if qq < p1 then (0 : Int32) else (1 : Int32))), .unset, .unset, .unset, .unset, .unset] [(.ref b26), (.ref b35)])) rfl (by rw [hml]; rfl) (Steps.refl _) (argsL := [(.ref b26)]) (rest := []) (lenOf pd_law_2 rfl) rfl (by show 2 * 0 + _ ≤ _; exact Nat.le_of_eq rfl) (hb hby at_147) (fun _ _ => ⟨rfl, e53, (by decide : 6 + 0 ≤ _), (by decide : 15 + 0 ≤ _)⟩)
    dsimp only [Pt.U, Pt.locs, Pt.cells, Pt.slots] at X56 l56 y56 z56 st56 hQ56
    subst l56 y56 z56
    obtain ⟨rfl, N56q, e56⟩ := hQ56
    have N56 := Fr.app N53 N56q
    have pre_57 : ∀ t, Steps p.tables e below (T56.setTop (mkF m 150 #[.val (.int p1), .val (.int p2), .val (.int p3), .val (.int p4), .val (.ref aMOODYS), .val (.int ((XT.ushr p3 (1 : Int32)) &&& (3 : Int32))), .val (.int qq), .val (.ref b12), .val (.ref b18), .val (.ref b26), .val (.ref b35), .val (.ref b44), .val (.int (if qq < p1 then (0 : Int32) else (1 : Int32))), .unset, .unset, .unset, .unset, .unset] [(.int (if p1 < qq then (0 : Int32) else (1 : Int32)))])) t → Steps p.tables e below (s₁.setTop (entryFrame m #[(.int p1), (.int p2), (.int p3), (.int p4)] maxLocals)) t := fun t k => pre_55 t (st56.trans k)
    have pre_58 : ∀ t, Steps p.tables e below (T56.setTop (mkF m 156 #[.val (.int p1), .val (.int p2), .val (.int p3), .val (.int p4), .val (.ref aMOODYS), .val (.int ((XT.ushr p3 (1 : Int32)) &&& (3 : Int32))), .val (.int qq), .val (.ref b12), .val (.ref b18), .val (.ref b26), .val (.ref b35), .val (.ref b44), .val (.int (if qq < p1 then (0 : Int32) else (1 : Int32))), .val (.int (if p1 < qq then (0 : Int32) else (1 : Int32))), .unset, .unset, .unset, .unset] [(.ref b44), (.ref b26)])) t → Steps p.tables e below (s₁.setTop (entryFrame m #[(.int p1), (.int p2), (.int p3), (.int p4)] maxLocals)) t := by
      intro t k
      refine pre_57 t ?_
      show Steps p.tables e below (T56.setTop (mkF m 150 #[.val (.int p1), .val (.int p2), .val (.int p3), .val (.int p4), .val (.ref aMOODYS), .val (.int ((XT.ushr p3 (1 : Int32)) &&& (3 : Int32))), .val (.int qq), .val (.ref b12), .val (.ref b18), .val (.ref b26), .val (.ref b35), .val (.ref b44), .val (.int (if qq < p1 then (0 : Int32) else (1 : Int32))), .unset, .unset, .unset, .unset, .unset] [(.int (if p1 < qq then (0 : Int32) else (1 : Int32)))])) _
      refine XS.istore X56.here hx rfl (hb hby at_150) rfl (l' := #[.val (.int p1), .val (.int p2), .val (.int p3), .val (.int p4), .val (.ref aMOODYS), .val (.int ((XT.ushr p3 (1 : Int32)) &&& (3 : Int32))), .val (.int qq), .val (.ref b12), .val (.ref b18), .val (.ref b26), .val (.ref b35), .val (.ref b44), .val (.int (if qq < p1 then (0 : Int32) else (1 : Int32))), .val (.int (if p1 < qq then (0 : Int32) else (1 : Int32))), .unset, .unset, .unset, .unset]) rfl ?_
      show Steps p.tables e below (T56.setTop (mkF m 152 #[.val (.int p1), .val (.int p2), .val (.int p3), .val (.int p4), .val (.ref aMOODYS), .val (.int ((XT.ushr p3 (1 : Int32)) &&& (3 : Int32))), .val (.int qq), .val (.ref b12), .val (.ref b18), .val (.ref b26), .val (.ref b35), .val (.ref b44), .val (.int (if qq < p1 then (0 : Int32) else (1 : Int32))), .val (.int (if p1 < qq then (0 : Int32) else (1 : Int32))), .unset, .unset, .unset, .unset] [])) _
      refine XS.aload X56.here hx rfl (hb hby at_152) rfl rfl ?_
      show Steps p.tables e below (T56.setTop (mkF m 154 #[.val (.int p1), .val (.int p2), .val (.int p3), .val (.int p4), .val (.ref aMOODYS), .val (.int ((XT.ushr p3 (1 : Int32)) &&& (3 : Int32))), .val (.int qq), .val (.ref b12), .val (.ref b18), .val (.ref b26), .val (.ref b35), .val (.ref b44), .val (.int (if qq < p1 then (0 : Int32) else (1 : Int32))), .val (.int (if p1 < qq then (0 : Int32) else (1 : Int32))), .unset, .unset, .unset, .unset] [(.ref b26)])) _
      refine XS.aload X56.here hx rfl (hb hby at_154) rfl rfl ?_
      show Steps p.tables e below (T56.setTop (mkF m 156 #[.val (.int p1), .val (.int p2), .val (.int p3), .val (.int p4), .val (.ref aMOODYS), .val (.int ((XT.ushr p3 (1 : Int32)) &&& (3 : Int32))), .val (.int qq), .val (.ref b12), .val (.ref b18), .val (.ref b26), .val (.ref b35), .val (.ref b44), .val (.int (if qq < p1 then (0 : Int32) else (1 : Int32))), .val (.int (if p1 < qq then (0 : Int32) else (1 : Int32))), .unset, .unset, .unset, .unset] [(.ref b44), (.ref b26)])) _
      exact k
    obtain ⟨cq59, kq59, qa59, qb59, qc59⟩ := isOf hZ e56 (((((A26.keep K32).ext E35).keep K41).ext E44).keep K50)
    obtain ⟨_, _, ⟨T59, L59, k59, n59⟩, -, X59, ⟨Lc59, hQ59, l59, y59, z59⟩, st59⟩ := X56.virtualBack hx (y := (⟨"com/example/tranche/tranche/Rating", "meetsOrBeats", "(Lcom/example/tranche/tranche/Rating;)Z"⟩ : MethodName)) (z := (⟨"com/example/tranche/tranche/Rating", "meetsOrBeats", "(Lcom/example/tranche/tranche/Rating;)Z"⟩ : MethodName)) hown (mvT hZ (hw _ (List.mem_of_getElem? (i := 46) rfl))) (mvT hZ (hw _ (List.mem_of_getElem? (i := 47) rfl))) (notFace_of_selects (args := #[]) (mvT hZ (hw _ (List.mem_of_getElem? (i := 49) rfl)))) (mvT hZ (hw _ (List.mem_of_getElem? (i := 49) rfl))) (mvT hZ (hw _ (List.mem_of_getElem? (i := 48) rfl))) (by decide) (backOf (W := 0) (rm_mb l Z a0 hw [] b26 b44 p1 p1 T50.heap n0 O50 ((((Fp32.ext E35).keep K41 (ninS (Nat.ne_of_lt (Nat.lt_of_lt_of_le (A26.keep K32).lt (Nat.le_of_eq g35.symm))) nin0)).ext E44).keep K50 (ninS (Nat.ne_of_lt (Nat.lt_of_lt_of_le (((A26.keep K32).ext E35).keep K41).lt (Nat.le_of_eq g44.symm))) nin0)) Fp50) hZ (hw _ (List.mem_of_getElem? (i := 50) rfl)) (hw _ (List.mem_of_getElem? (i := 35) rfl)) (by decide) (by decide)) qa59 qc59 (g := (mkF m 156 #[.val (.int p1), .val (.int p2), .val (.int p3), .val (.int p4), .val (.ref aMOODYS), .val (.int ((XT.ushr p3 (1 : Int32)) &&& (3 : Int32))), .val (.int qq), .val (.ref b12), .val (.ref b18), .val (.ref b26), .val (.ref b35), .val (.ref b44), .val (.int (if qq < p1 then (0 : Int32) else (1 : Int32))), .val (.int (if p1 < qq then (0 : Int32) else (1 : Int32))), .unset, .unset, .unset, .unset] [(.ref b44), (.ref b26)])) rfl (by rw [hml]; rfl) (Steps.refl _) (argsL := [(.ref b44)]) (rest := []) (lenOf pd_law_2 rfl) rfl (by show 2 * 0 + _ ≤ _; exact Nat.le_of_eq rfl) (hb hby at_156) (fun _ _ => ⟨rfl, e56, (by decide : 6 + 0 ≤ _), (by decide : 15 + 0 ≤ _)⟩)
    dsimp only [Pt.U, Pt.locs, Pt.cells, Pt.slots] at X59 l59 y59 z59 st59 hQ59
    subst l59 y59 z59
    obtain ⟨rfl, N59q, e59⟩ := hQ59
    have N59 := Fr.app N56 N59q
    have pre_60 : ∀ t, Steps p.tables e below (T59.setTop (mkF m 159 #[.val (.int p1), .val (.int p2), .val (.int p3), .val (.int p4), .val (.ref aMOODYS), .val (.int ((XT.ushr p3 (1 : Int32)) &&& (3 : Int32))), .val (.int qq), .val (.ref b12), .val (.ref b18), .val (.ref b26), .val (.ref b35), .val (.ref b44), .val (.int (if qq < p1 then (0 : Int32) else (1 : Int32))), .val (.int (if p1 < qq then (0 : Int32) else (1 : Int32))), .unset, .unset, .unset, .unset] [(.int (if p1 < p1 then (0 : Int32) else (1 : Int32)))])) t → Steps p.tables e below (s₁.setTop (entryFrame m #[(.int p1), (.int p2), (.int p3), (.int p4)] maxLocals)) t := fun t k => pre_58 t (st59.trans k)
    have pre_61 : ∀ t, Steps p.tables e below (T59.setTop (mkF m 161 #[.val (.int p1), .val (.int p2), .val (.int p3), .val (.int p4), .val (.ref aMOODYS), .val (.int ((XT.ushr p3 (1 : Int32)) &&& (3 : Int32))), .val (.int qq), .val (.ref b12), .val (.ref b18), .val (.ref b26), .val (.ref b35), .val (.ref b44), .val (.int (if qq < p1 then (0 : Int32) else (1 : Int32))), .val (.int (if p1 < qq then (0 : Int32) else (1 : Int32))), .val (.int (if p1 < p1 then (0 : Int32) else (1 : Int32))), .unset, .unset, .unset] [])) t → Steps p.tables e below (s₁.setTop (entryFrame m #[(.int p1), (.int p2), (.int p3), (.int p4)] maxLocals)) t := by
      intro t k
      refine pre_60 t ?_
      show Steps p.tables e below (T59.setTop (mkF m 159 #[.val (.int p1), .val (.int p2), .val (.int p3), .val (.int p4), .val (.ref aMOODYS), .val (.int ((XT.ushr p3 (1 : Int32)) &&& (3 : Int32))), .val (.int qq), .val (.ref b12), .val (.ref b18), .val (.ref b26), .val (.ref b35), .val (.ref b44), .val (.int (if qq < p1 then (0 : Int32) else (1 : Int32))), .val (.int (if p1 < qq then (0 : Int32) else (1 : Int32))), .unset, .unset, .unset, .unset] [(.int (if p1 < p1 then (0 : Int32) else (1 : Int32)))])) _
      refine XS.istore X59.here hx rfl (hb hby at_159) rfl (l' := #[.val (.int p1), .val (.int p2), .val (.int p3), .val (.int p4), .val (.ref aMOODYS), .val (.int ((XT.ushr p3 (1 : Int32)) &&& (3 : Int32))), .val (.int qq), .val (.ref b12), .val (.ref b18), .val (.ref b26), .val (.ref b35), .val (.ref b44), .val (.int (if qq < p1 then (0 : Int32) else (1 : Int32))), .val (.int (if p1 < qq then (0 : Int32) else (1 : Int32))), .val (.int (if p1 < p1 then (0 : Int32) else (1 : Int32))), .unset, .unset, .unset]) rfl ?_
      show Steps p.tables e below (T59.setTop (mkF m 161 #[.val (.int p1), .val (.int p2), .val (.int p3), .val (.int p4), .val (.ref aMOODYS), .val (.int ((XT.ushr p3 (1 : Int32)) &&& (3 : Int32))), .val (.int qq), .val (.ref b12), .val (.ref b18), .val (.ref b26), .val (.ref b35), .val (.ref b44), .val (.int (if qq < p1 then (0 : Int32) else (1 : Int32))), .val (.int (if p1 < qq then (0 : Int32) else (1 : Int32))), .val (.int (if p1 < p1 then (0 : Int32) else (1 : Int32))), .unset, .unset, .unset] [])) _
      exact k
    rcases own_tri2 p1 qq with ⟨t1, t2, t3⟩ | ⟨t1, t2, t3⟩ | ⟨t1, t2, t3⟩
    · skip
      have pre_62 : ∀ t, Steps p.tables e below (T59.setTop (mkF m 264 #[.val (.int p1), .val (.int p2), .val (.int p3), .val (.int p4), .val (.ref aMOODYS), .val (.int ((XT.ushr p3 (1 : Int32)) &&& (3 : Int32))), .val (.int qq), .val (.ref b12), .val (.ref b18), .val (.ref b26), .val (.ref b35), .val (.ref b44), .val (.int (if qq < p1 then (0 : Int32) else (1 : Int32))), .val (.int (if p1 < qq then (0 : Int32) else (1 : Int32))), .val (.int (if p1 < p1 then (0 : Int32) else (1 : Int32))), .val (.int (0 : Int32)), .val (.int (1 : Int32)), .val (.int (0 : Int32))] [(.int (1 : Int32))])) t → Steps p.tables e below (s₁.setTop (entryFrame m #[(.int p1), (.int p2), (.int p3), (.int p4)] maxLocals)) t := by
        intro t k
        refine pre_61 t ?_
        show Steps p.tables e below (T59.setTop (mkF m 161 #[.val (.int p1), .val (.int p2), .val (.int p3), .val (.int p4), .val (.ref aMOODYS), .val (.int ((XT.ushr p3 (1 : Int32)) &&& (3 : Int32))), .val (.int qq), .val (.ref b12), .val (.ref b18), .val (.ref b26), .val (.ref b35), .val (.ref b44), .val (.int (if qq < p1 then (0 : Int32) else (1 : Int32))), .val (.int (if p1 < qq then (0 : Int32) else (1 : Int32))), .val (.int (if p1 < p1 then (0 : Int32) else (1 : Int32))), .unset, .unset, .unset] [])) _
        refine XS.iloadN X59.here hx rfl (hb hby at_161) rfl ?_
        show Steps p.tables e below (T59.setTop (mkF m 162 #[.val (.int p1), .val (.int p2), .val (.int p3), .val (.int p4), .val (.ref aMOODYS), .val (.int ((XT.ushr p3 (1 : Int32)) &&& (3 : Int32))), .val (.int qq), .val (.ref b12), .val (.ref b18), .val (.ref b26), .val (.ref b35), .val (.ref b44), .val (.int (if qq < p1 then (0 : Int32) else (1 : Int32))), .val (.int (if p1 < qq then (0 : Int32) else (1 : Int32))), .val (.int (if p1 < p1 then (0 : Int32) else (1 : Int32))), .unset, .unset, .unset] [(.int p1)])) _
        refine XS.iload X59.here hx rfl (hb hby at_162) rfl ?_
        show Steps p.tables e below (T59.setTop (mkF m 164 #[.val (.int p1), .val (.int p2), .val (.int p3), .val (.int p4), .val (.ref aMOODYS), .val (.int ((XT.ushr p3 (1 : Int32)) &&& (3 : Int32))), .val (.int qq), .val (.ref b12), .val (.ref b18), .val (.ref b26), .val (.ref b35), .val (.ref b44), .val (.int (if qq < p1 then (0 : Int32) else (1 : Int32))), .val (.int (if p1 < qq then (0 : Int32) else (1 : Int32))), .val (.int (if p1 < p1 then (0 : Int32) else (1 : Int32))), .unset, .unset, .unset] [(.int qq), (.int p1)])) _
        refine XS.icmpYes X59.here hx rfl (pc0 := 164) (pc' := 171) rfl (hb hby at_164) rfl (XT.ii_ne_t t3) (by decide) (by decide) ?_
        show Steps p.tables e below (T59.setTop (mkF m 171 #[.val (.int p1), .val (.int p2), .val (.int p3), .val (.int p4), .val (.ref aMOODYS), .val (.int ((XT.ushr p3 (1 : Int32)) &&& (3 : Int32))), .val (.int qq), .val (.ref b12), .val (.ref b18), .val (.ref b26), .val (.ref b35), .val (.ref b44), .val (.int (if qq < p1 then (0 : Int32) else (1 : Int32))), .val (.int (if p1 < qq then (0 : Int32) else (1 : Int32))), .val (.int (if p1 < p1 then (0 : Int32) else (1 : Int32))), .unset, .unset, .unset] [])) _
        refine XS.iconst X59.here hx rfl (hb hby at_171) ?_
        show Steps p.tables e below (T59.setTop (mkF m 172 #[.val (.int p1), .val (.int p2), .val (.int p3), .val (.int p4), .val (.ref aMOODYS), .val (.int ((XT.ushr p3 (1 : Int32)) &&& (3 : Int32))), .val (.int qq), .val (.ref b12), .val (.ref b18), .val (.ref b26), .val (.ref b35), .val (.ref b44), .val (.int (if qq < p1 then (0 : Int32) else (1 : Int32))), .val (.int (if p1 < qq then (0 : Int32) else (1 : Int32))), .val (.int (if p1 < p1 then (0 : Int32) else (1 : Int32))), .unset, .unset, .unset] [(.int (0 : Int32))])) _
        refine XS.istore X59.here hx rfl (hb hby at_172) rfl (l' := #[.val (.int p1), .val (.int p2), .val (.int p3), .val (.int p4), .val (.ref aMOODYS), .val (.int ((XT.ushr p3 (1 : Int32)) &&& (3 : Int32))), .val (.int qq), .val (.ref b12), .val (.ref b18), .val (.ref b26), .val (.ref b35), .val (.ref b44), .val (.int (if qq < p1 then (0 : Int32) else (1 : Int32))), .val (.int (if p1 < qq then (0 : Int32) else (1 : Int32))), .val (.int (if p1 < p1 then (0 : Int32) else (1 : Int32))), .val (.int (0 : Int32)), .unset, .unset]) rfl ?_
        show Steps p.tables e below (T59.setTop (mkF m 174 #[.val (.int p1), .val (.int p2), .val (.int p3), .val (.int p4), .val (.ref aMOODYS), .val (.int ((XT.ushr p3 (1 : Int32)) &&& (3 : Int32))), .val (.int qq), .val (.ref b12), .val (.ref b18), .val (.ref b26), .val (.ref b35), .val (.ref b44), .val (.int (if qq < p1 then (0 : Int32) else (1 : Int32))), .val (.int (if p1 < qq then (0 : Int32) else (1 : Int32))), .val (.int (if p1 < p1 then (0 : Int32) else (1 : Int32))), .val (.int (0 : Int32)), .unset, .unset] [])) _
        refine XS.iloadN X59.here hx rfl (hb hby at_174) rfl ?_
        show Steps p.tables e below (T59.setTop (mkF m 175 #[.val (.int p1), .val (.int p2), .val (.int p3), .val (.int p4), .val (.ref aMOODYS), .val (.int ((XT.ushr p3 (1 : Int32)) &&& (3 : Int32))), .val (.int qq), .val (.ref b12), .val (.ref b18), .val (.ref b26), .val (.ref b35), .val (.ref b44), .val (.int (if qq < p1 then (0 : Int32) else (1 : Int32))), .val (.int (if p1 < qq then (0 : Int32) else (1 : Int32))), .val (.int (if p1 < p1 then (0 : Int32) else (1 : Int32))), .val (.int (0 : Int32)), .unset, .unset] [(.int p1)])) _
        refine XS.iload X59.here hx rfl (hb hby at_175) rfl ?_
        show Steps p.tables e below (T59.setTop (mkF m 177 #[.val (.int p1), .val (.int p2), .val (.int p3), .val (.int p4), .val (.ref aMOODYS), .val (.int ((XT.ushr p3 (1 : Int32)) &&& (3 : Int32))), .val (.int qq), .val (.ref b12), .val (.ref b18), .val (.ref b26), .val (.ref b35), .val (.ref b44), .val (.int (if qq < p1 then (0 : Int32) else (1 : Int32))), .val (.int (if p1 < qq then (0 : Int32) else (1 : Int32))), .val (.int (if p1 < p1 then (0 : Int32) else (1 : Int32))), .val (.int (0 : Int32)), .unset, .unset] [(.int qq), (.int p1)])) _
        refine XS.icmpYes X59.here hx rfl (pc0 := 177) (pc' := 185) rfl (hb hby at_177) rfl (XT.ii_lt_t t1) (by decide) (by decide) ?_
        show Steps p.tables e below (T59.setTop (mkF m 185 #[.val (.int p1), .val (.int p2), .val (.int p3), .val (.int p4), .val (.ref aMOODYS), .val (.int ((XT.ushr p3 (1 : Int32)) &&& (3 : Int32))), .val (.int qq), .val (.ref b12), .val (.ref b18), .val (.ref b26), .val (.ref b35), .val (.ref b44), .val (.int (if qq < p1 then (0 : Int32) else (1 : Int32))), .val (.int (if p1 < qq then (0 : Int32) else (1 : Int32))), .val (.int (if p1 < p1 then (0 : Int32) else (1 : Int32))), .val (.int (0 : Int32)), .unset, .unset] [])) _
        refine XS.iconst X59.here hx rfl (hb hby at_185) ?_
        show Steps p.tables e below (T59.setTop (mkF m 186 #[.val (.int p1), .val (.int p2), .val (.int p3), .val (.int p4), .val (.ref aMOODYS), .val (.int ((XT.ushr p3 (1 : Int32)) &&& (3 : Int32))), .val (.int qq), .val (.ref b12), .val (.ref b18), .val (.ref b26), .val (.ref b35), .val (.ref b44), .val (.int (if qq < p1 then (0 : Int32) else (1 : Int32))), .val (.int (if p1 < qq then (0 : Int32) else (1 : Int32))), .val (.int (if p1 < p1 then (0 : Int32) else (1 : Int32))), .val (.int (0 : Int32)), .unset, .unset] [(.int (1 : Int32))])) _
        refine XS.goto X59.here hx rfl (pc0 := 186) (pc' := 190) rfl (hb hby at_186) (by decide) (by decide) ?_
        show Steps p.tables e below (T59.setTop (mkF m 190 #[.val (.int p1), .val (.int p2), .val (.int p3), .val (.int p4), .val (.ref aMOODYS), .val (.int ((XT.ushr p3 (1 : Int32)) &&& (3 : Int32))), .val (.int qq), .val (.ref b12), .val (.ref b18), .val (.ref b26), .val (.ref b35), .val (.ref b44), .val (.int (if qq < p1 then (0 : Int32) else (1 : Int32))), .val (.int (if p1 < qq then (0 : Int32) else (1 : Int32))), .val (.int (if p1 < p1 then (0 : Int32) else (1 : Int32))), .val (.int (0 : Int32)), .unset, .unset] [(.int (1 : Int32))])) _
        refine XS.istore X59.here hx rfl (hb hby at_190) rfl (l' := #[.val (.int p1), .val (.int p2), .val (.int p3), .val (.int p4), .val (.ref aMOODYS), .val (.int ((XT.ushr p3 (1 : Int32)) &&& (3 : Int32))), .val (.int qq), .val (.ref b12), .val (.ref b18), .val (.ref b26), .val (.ref b35), .val (.ref b44), .val (.int (if qq < p1 then (0 : Int32) else (1 : Int32))), .val (.int (if p1 < qq then (0 : Int32) else (1 : Int32))), .val (.int (if p1 < p1 then (0 : Int32) else (1 : Int32))), .val (.int (0 : Int32)), .val (.int (1 : Int32)), .unset]) rfl ?_
        show Steps p.tables e below (T59.setTop (mkF m 192 #[.val (.int p1), .val (.int p2), .val (.int p3), .val (.int p4), .val (.ref aMOODYS), .val (.int ((XT.ushr p3 (1 : Int32)) &&& (3 : Int32))), .val (.int qq), .val (.ref b12), .val (.ref b18), .val (.ref b26), .val (.ref b35), .val (.ref b44), .val (.int (if qq < p1 then (0 : Int32) else (1 : Int32))), .val (.int (if p1 < qq then (0 : Int32) else (1 : Int32))), .val (.int (if p1 < p1 then (0 : Int32) else (1 : Int32))), .val (.int (0 : Int32)), .val (.int (1 : Int32)), .unset] [])) _
        refine XS.iload X59.here hx rfl (hb hby at_192) rfl ?_
        show Steps p.tables e below (T59.setTop (mkF m 194 #[.val (.int p1), .val (.int p2), .val (.int p3), .val (.int p4), .val (.ref aMOODYS), .val (.int ((XT.ushr p3 (1 : Int32)) &&& (3 : Int32))), .val (.int qq), .val (.ref b12), .val (.ref b18), .val (.ref b26), .val (.ref b35), .val (.ref b44), .val (.int (if qq < p1 then (0 : Int32) else (1 : Int32))), .val (.int (if p1 < qq then (0 : Int32) else (1 : Int32))), .val (.int (if p1 < p1 then (0 : Int32) else (1 : Int32))), .val (.int (0 : Int32)), .val (.int (1 : Int32)), .unset] [(.int qq)])) _
        refine XS.iloadN X59.here hx rfl (hb hby at_194) rfl ?_
        show Steps p.tables e below (T59.setTop (mkF m 195 #[.val (.int p1), .val (.int p2), .val (.int p3), .val (.int p4), .val (.ref aMOODYS), .val (.int ((XT.ushr p3 (1 : Int32)) &&& (3 : Int32))), .val (.int qq), .val (.ref b12), .val (.ref b18), .val (.ref b26), .val (.ref b35), .val (.ref b44), .val (.int (if qq < p1 then (0 : Int32) else (1 : Int32))), .val (.int (if p1 < qq then (0 : Int32) else (1 : Int32))), .val (.int (if p1 < p1 then (0 : Int32) else (1 : Int32))), .val (.int (0 : Int32)), .val (.int (1 : Int32)), .unset] [(.int p1), (.int qq)])) _
        refine XS.icmpNo X59.here hx rfl (hb hby at_195) rfl (XT.ii_lt_f t2) ?_
        show Steps p.tables e below (T59.setTop (mkF m 198 #[.val (.int p1), .val (.int p2), .val (.int p3), .val (.int p4), .val (.ref aMOODYS), .val (.int ((XT.ushr p3 (1 : Int32)) &&& (3 : Int32))), .val (.int qq), .val (.ref b12), .val (.ref b18), .val (.ref b26), .val (.ref b35), .val (.ref b44), .val (.int (if qq < p1 then (0 : Int32) else (1 : Int32))), .val (.int (if p1 < qq then (0 : Int32) else (1 : Int32))), .val (.int (if p1 < p1 then (0 : Int32) else (1 : Int32))), .val (.int (0 : Int32)), .val (.int (1 : Int32)), .unset] [])) _
        refine XS.iload X59.here hx rfl (hb hby at_198) rfl ?_
        show Steps p.tables e below (T59.setTop (mkF m 200 #[.val (.int p1), .val (.int p2), .val (.int p3), .val (.int p4), .val (.ref aMOODYS), .val (.int ((XT.ushr p3 (1 : Int32)) &&& (3 : Int32))), .val (.int qq), .val (.ref b12), .val (.ref b18), .val (.ref b26), .val (.ref b35), .val (.ref b44), .val (.int (if qq < p1 then (0 : Int32) else (1 : Int32))), .val (.int (if p1 < qq then (0 : Int32) else (1 : Int32))), .val (.int (if p1 < p1 then (0 : Int32) else (1 : Int32))), .val (.int (0 : Int32)), .val (.int (1 : Int32)), .unset] [(.int (0 : Int32))])) _
        refine XS.ifYes X59.here hx rfl (pc0 := 200) (pc' := 207) rfl (hb hby at_200) rfl (XT.i0_eq_t (by decide)) (by decide) (by decide) ?_
        show Steps p.tables e below (T59.setTop (mkF m 207 #[.val (.int p1), .val (.int p2), .val (.int p3), .val (.int p4), .val (.ref aMOODYS), .val (.int ((XT.ushr p3 (1 : Int32)) &&& (3 : Int32))), .val (.int qq), .val (.ref b12), .val (.ref b18), .val (.ref b26), .val (.ref b35), .val (.ref b44), .val (.int (if qq < p1 then (0 : Int32) else (1 : Int32))), .val (.int (if p1 < qq then (0 : Int32) else (1 : Int32))), .val (.int (if p1 < p1 then (0 : Int32) else (1 : Int32))), .val (.int (0 : Int32)), .val (.int (1 : Int32)), .unset] [])) _
        refine XS.iconst X59.here hx rfl (hb hby at_207) ?_
        show Steps p.tables e below (T59.setTop (mkF m 208 #[.val (.int p1), .val (.int p2), .val (.int p3), .val (.int p4), .val (.ref aMOODYS), .val (.int ((XT.ushr p3 (1 : Int32)) &&& (3 : Int32))), .val (.int qq), .val (.ref b12), .val (.ref b18), .val (.ref b26), .val (.ref b35), .val (.ref b44), .val (.int (if qq < p1 then (0 : Int32) else (1 : Int32))), .val (.int (if p1 < qq then (0 : Int32) else (1 : Int32))), .val (.int (if p1 < p1 then (0 : Int32) else (1 : Int32))), .val (.int (0 : Int32)), .val (.int (1 : Int32)), .unset] [(.int (0 : Int32))])) _
        refine XS.istore X59.here hx rfl (hb hby at_208) rfl (l' := #[.val (.int p1), .val (.int p2), .val (.int p3), .val (.int p4), .val (.ref aMOODYS), .val (.int ((XT.ushr p3 (1 : Int32)) &&& (3 : Int32))), .val (.int qq), .val (.ref b12), .val (.ref b18), .val (.ref b26), .val (.ref b35), .val (.ref b44), .val (.int (if qq < p1 then (0 : Int32) else (1 : Int32))), .val (.int (if p1 < qq then (0 : Int32) else (1 : Int32))), .val (.int (if p1 < p1 then (0 : Int32) else (1 : Int32))), .val (.int (0 : Int32)), .val (.int (1 : Int32)), .val (.int (0 : Int32))]) rfl ?_
        show Steps p.tables e below (T59.setTop (mkF m 210 #[.val (.int p1), .val (.int p2), .val (.int p3), .val (.int p4), .val (.ref aMOODYS), .val (.int ((XT.ushr p3 (1 : Int32)) &&& (3 : Int32))), .val (.int qq), .val (.ref b12), .val (.ref b18), .val (.ref b26), .val (.ref b35), .val (.ref b44), .val (.int (if qq < p1 then (0 : Int32) else (1 : Int32))), .val (.int (if p1 < qq then (0 : Int32) else (1 : Int32))), .val (.int (if p1 < p1 then (0 : Int32) else (1 : Int32))), .val (.int (0 : Int32)), .val (.int (1 : Int32)), .val (.int (0 : Int32))] [])) _
        refine XS.iload X59.here hx rfl (hb hby at_210) rfl ?_
        show Steps p.tables e below (T59.setTop (mkF m 212 #[.val (.int p1), .val (.int p2), .val (.int p3), .val (.int p4), .val (.ref aMOODYS), .val (.int ((XT.ushr p3 (1 : Int32)) &&& (3 : Int32))), .val (.int qq), .val (.ref b12), .val (.ref b18), .val (.ref b26), .val (.ref b35), .val (.ref b44), .val (.int (if qq < p1 then (0 : Int32) else (1 : Int32))), .val (.int (if p1 < qq then (0 : Int32) else (1 : Int32))), .val (.int (if p1 < p1 then (0 : Int32) else (1 : Int32))), .val (.int (0 : Int32)), .val (.int (1 : Int32)), .val (.int (0 : Int32))] [(.int (if qq < p1 then (0 : Int32) else (1 : Int32)))])) _
        refine XS.iload X59.here hx rfl (hb hby at_212) rfl ?_
        show Steps p.tables e below (T59.setTop (mkF m 214 #[.val (.int p1), .val (.int p2), .val (.int p3), .val (.int p4), .val (.ref aMOODYS), .val (.int ((XT.ushr p3 (1 : Int32)) &&& (3 : Int32))), .val (.int qq), .val (.ref b12), .val (.ref b18), .val (.ref b26), .val (.ref b35), .val (.ref b44), .val (.int (if qq < p1 then (0 : Int32) else (1 : Int32))), .val (.int (if p1 < qq then (0 : Int32) else (1 : Int32))), .val (.int (if p1 < p1 then (0 : Int32) else (1 : Int32))), .val (.int (0 : Int32)), .val (.int (1 : Int32)), .val (.int (0 : Int32))] [(.int (1 : Int32)), (.int (if qq < p1 then (0 : Int32) else (1 : Int32)))])) _
        refine XS.icmpNo X59.here hx rfl (hb hby at_214) rfl (XT.ii_ne_f (by simp only [if_neg t2] <;> decide)) ?_
        show Steps p.tables e below (T59.setTop (mkF m 217 #[.val (.int p1), .val (.int p2), .val (.int p3), .val (.int p4), .val (.ref aMOODYS), .val (.int ((XT.ushr p3 (1 : Int32)) &&& (3 : Int32))), .val (.int qq), .val (.ref b12), .val (.ref b18), .val (.ref b26), .val (.ref b35), .val (.ref b44), .val (.int (if qq < p1 then (0 : Int32) else (1 : Int32))), .val (.int (if p1 < qq then (0 : Int32) else (1 : Int32))), .val (.int (if p1 < p1 then (0 : Int32) else (1 : Int32))), .val (.int (0 : Int32)), .val (.int (1 : Int32)), .val (.int (0 : Int32))] [])) _
        refine XS.iload X59.here hx rfl (hb hby at_217) rfl ?_
        show Steps p.tables e below (T59.setTop (mkF m 219 #[.val (.int p1), .val (.int p2), .val (.int p3), .val (.int p4), .val (.ref aMOODYS), .val (.int ((XT.ushr p3 (1 : Int32)) &&& (3 : Int32))), .val (.int qq), .val (.ref b12), .val (.ref b18), .val (.ref b26), .val (.ref b35), .val (.ref b44), .val (.int (if qq < p1 then (0 : Int32) else (1 : Int32))), .val (.int (if p1 < qq then (0 : Int32) else (1 : Int32))), .val (.int (if p1 < p1 then (0 : Int32) else (1 : Int32))), .val (.int (0 : Int32)), .val (.int (1 : Int32)), .val (.int (0 : Int32))] [(.int (if p1 < qq then (0 : Int32) else (1 : Int32)))])) _
        refine XS.iload X59.here hx rfl (hb hby at_219) rfl ?_
        show Steps p.tables e below (T59.setTop (mkF m 221 #[.val (.int p1), .val (.int p2), .val (.int p3), .val (.int p4), .val (.ref aMOODYS), .val (.int ((XT.ushr p3 (1 : Int32)) &&& (3 : Int32))), .val (.int qq), .val (.ref b12), .val (.ref b18), .val (.ref b26), .val (.ref b35), .val (.ref b44), .val (.int (if qq < p1 then (0 : Int32) else (1 : Int32))), .val (.int (if p1 < qq then (0 : Int32) else (1 : Int32))), .val (.int (if p1 < p1 then (0 : Int32) else (1 : Int32))), .val (.int (0 : Int32)), .val (.int (1 : Int32)), .val (.int (0 : Int32))] [(.int (0 : Int32)), (.int (if p1 < qq then (0 : Int32) else (1 : Int32)))])) _
        refine XS.icmpNo X59.here hx rfl (hb hby at_221) rfl (XT.ii_ne_f (by simp only [if_pos t1] <;> decide)) ?_
        show Steps p.tables e below (T59.setTop (mkF m 224 #[.val (.int p1), .val (.int p2), .val (.int p3), .val (.int p4), .val (.ref aMOODYS), .val (.int ((XT.ushr p3 (1 : Int32)) &&& (3 : Int32))), .val (.int qq), .val (.ref b12), .val (.ref b18), .val (.ref b26), .val (.ref b35), .val (.ref b44), .val (.int (if qq < p1 then (0 : Int32) else (1 : Int32))), .val (.int (if p1 < qq then (0 : Int32) else (1 : Int32))), .val (.int (if p1 < p1 then (0 : Int32) else (1 : Int32))), .val (.int (0 : Int32)), .val (.int (1 : Int32)), .val (.int (0 : Int32))] [])) _
        refine XS.iload X59.here hx rfl (hb hby at_224) rfl ?_
        show Steps p.tables e below (T59.setTop (mkF m 226 #[.val (.int p1), .val (.int p2), .val (.int p3), .val (.int p4), .val (.ref aMOODYS), .val (.int ((XT.ushr p3 (1 : Int32)) &&& (3 : Int32))), .val (.int qq), .val (.ref b12), .val (.ref b18), .val (.ref b26), .val (.ref b35), .val (.ref b44), .val (.int (if qq < p1 then (0 : Int32) else (1 : Int32))), .val (.int (if p1 < qq then (0 : Int32) else (1 : Int32))), .val (.int (if p1 < p1 then (0 : Int32) else (1 : Int32))), .val (.int (0 : Int32)), .val (.int (1 : Int32)), .val (.int (0 : Int32))] [(.int (if p1 < p1 then (0 : Int32) else (1 : Int32)))])) _
        refine XS.ifNo X59.here hx rfl (hb hby at_226) rfl (XT.i0_eq_f (by simp only [if_neg (Int32.lt_irrefl : ¬ p1 < p1)] <;> decide)) ?_
        show Steps p.tables e below (T59.setTop (mkF m 229 #[.val (.int p1), .val (.int p2), .val (.int p3), .val (.int p4), .val (.ref aMOODYS), .val (.int ((XT.ushr p3 (1 : Int32)) &&& (3 : Int32))), .val (.int qq), .val (.ref b12), .val (.ref b18), .val (.ref b26), .val (.ref b35), .val (.ref b44), .val (.int (if qq < p1 then (0 : Int32) else (1 : Int32))), .val (.int (if p1 < qq then (0 : Int32) else (1 : Int32))), .val (.int (if p1 < p1 then (0 : Int32) else (1 : Int32))), .val (.int (0 : Int32)), .val (.int (1 : Int32)), .val (.int (0 : Int32))] [])) _
        refine XS.iload X59.here hx rfl (hb hby at_229) rfl ?_
        show Steps p.tables e below (T59.setTop (mkF m 231 #[.val (.int p1), .val (.int p2), .val (.int p3), .val (.int p4), .val (.ref aMOODYS), .val (.int ((XT.ushr p3 (1 : Int32)) &&& (3 : Int32))), .val (.int qq), .val (.ref b12), .val (.ref b18), .val (.ref b26), .val (.ref b35), .val (.ref b44), .val (.int (if qq < p1 then (0 : Int32) else (1 : Int32))), .val (.int (if p1 < qq then (0 : Int32) else (1 : Int32))), .val (.int (if p1 < p1 then (0 : Int32) else (1 : Int32))), .val (.int (0 : Int32)), .val (.int (1 : Int32)), .val (.int (0 : Int32))] [(.int (if qq < p1 then (0 : Int32) else (1 : Int32)))])) _
        refine XS.ifYes X59.here hx rfl (pc0 := 231) (pc' := 239) rfl (hb hby at_231) rfl (XT.i0_ne_t (by simp only [if_neg t2] <;> decide)) (by decide) (by decide) ?_
        show Steps p.tables e below (T59.setTop (mkF m 239 #[.val (.int p1), .val (.int p2), .val (.int p3), .val (.int p4), .val (.ref aMOODYS), .val (.int ((XT.ushr p3 (1 : Int32)) &&& (3 : Int32))), .val (.int qq), .val (.ref b12), .val (.ref b18), .val (.ref b26), .val (.ref b35), .val (.ref b44), .val (.int (if qq < p1 then (0 : Int32) else (1 : Int32))), .val (.int (if p1 < qq then (0 : Int32) else (1 : Int32))), .val (.int (if p1 < p1 then (0 : Int32) else (1 : Int32))), .val (.int (0 : Int32)), .val (.int (1 : Int32)), .val (.int (0 : Int32))] [])) _
        refine XS.iload X59.here hx rfl (hb hby at_239) rfl ?_
        show Steps p.tables e below (T59.setTop (mkF m 241 #[.val (.int p1), .val (.int p2), .val (.int p3), .val (.int p4), .val (.ref aMOODYS), .val (.int ((XT.ushr p3 (1 : Int32)) &&& (3 : Int32))), .val (.int qq), .val (.ref b12), .val (.ref b18), .val (.ref b26), .val (.ref b35), .val (.ref b44), .val (.int (if qq < p1 then (0 : Int32) else (1 : Int32))), .val (.int (if p1 < qq then (0 : Int32) else (1 : Int32))), .val (.int (if p1 < p1 then (0 : Int32) else (1 : Int32))), .val (.int (0 : Int32)), .val (.int (1 : Int32)), .val (.int (0 : Int32))] [(.int (if qq < p1 then (0 : Int32) else (1 : Int32)))])) _
        refine XS.ifNo X59.here hx rfl (hb hby at_241) rfl (XT.i0_eq_f (by simp only [if_neg t2] <;> decide)) ?_
        show Steps p.tables e below (T59.setTop (mkF m 244 #[.val (.int p1), .val (.int p2), .val (.int p3), .val (.int p4), .val (.ref aMOODYS), .val (.int ((XT.ushr p3 (1 : Int32)) &&& (3 : Int32))), .val (.int qq), .val (.ref b12), .val (.ref b18), .val (.ref b26), .val (.ref b35), .val (.ref b44), .val (.int (if qq < p1 then (0 : Int32) else (1 : Int32))), .val (.int (if p1 < qq then (0 : Int32) else (1 : Int32))), .val (.int (if p1 < p1 then (0 : Int32) else (1 : Int32))), .val (.int (0 : Int32)), .val (.int (1 : Int32)), .val (.int (0 : Int32))] [])) _
        refine XS.iload X59.here hx rfl (hb hby at_244) rfl ?_
        show Steps p.tables e below (T59.setTop (mkF m 246 #[.val (.int p1), .val (.int p2), .val (.int p3), .val (.int p4), .val (.ref aMOODYS), .val (.int ((XT.ushr p3 (1 : Int32)) &&& (3 : Int32))), .val (.int qq), .val (.ref b12), .val (.ref b18), .val (.ref b26), .val (.ref b35), .val (.ref b44), .val (.int (if qq < p1 then (0 : Int32) else (1 : Int32))), .val (.int (if p1 < qq then (0 : Int32) else (1 : Int32))), .val (.int (if p1 < p1 then (0 : Int32) else (1 : Int32))), .val (.int (0 : Int32)), .val (.int (1 : Int32)), .val (.int (0 : Int32))] [(.int (if p1 < qq then (0 : Int32) else (1 : Int32)))])) _
        refine XS.ifYes X59.here hx rfl (pc0 := 246) (pc' := 253) rfl (hb hby at_246) rfl (XT.i0_eq_t (by simp only [if_pos t1] <;> decide)) (by decide) (by decide) ?_
        show Steps p.tables e below (T59.setTop (mkF m 253 #[.val (.int p1), .val (.int p2), .val (.int p3), .val (.int p4), .val (.ref aMOODYS), .val (.int ((XT.ushr p3 (1 : Int32)) &&& (3 : Int32))), .val (.int qq), .val (.ref b12), .val (.ref b18), .val (.ref b26), .val (.ref b35), .val (.ref b44), .val (.int (if qq < p1 then (0 : Int32) else (1 : Int32))), .val (.int (if p1 < qq then (0 : Int32) else (1 : Int32))), .val (.int (if p1 < p1 then (0 : Int32) else (1 : Int32))), .val (.int (0 : Int32)), .val (.int (1 : Int32)), .val (.int (0 : Int32))] [])) _
        refine XS.iconst X59.here hx rfl (hb hby at_253) ?_
        show Steps p.tables e below (T59.setTop (mkF m 254 #[.val (.int p1), .val (.int p2), .val (.int p3), .val (.int p4), .val (.ref aMOODYS), .val (.int ((XT.ushr p3 (1 : Int32)) &&& (3 : Int32))), .val (.int qq), .val (.ref b12), .val (.ref b18), .val (.ref b26), .val (.ref b35), .val (.ref b44), .val (.int (if qq < p1 then (0 : Int32) else (1 : Int32))), .val (.int (if p1 < qq then (0 : Int32) else (1 : Int32))), .val (.int (if p1 < p1 then (0 : Int32) else (1 : Int32))), .val (.int (0 : Int32)), .val (.int (1 : Int32)), .val (.int (0 : Int32))] [(.int (0 : Int32))])) _
        refine XS.iload X59.here hx rfl (hb hby at_254) rfl ?_
        show Steps p.tables e below (T59.setTop (mkF m 256 #[.val (.int p1), .val (.int p2), .val (.int p3), .val (.int p4), .val (.ref aMOODYS), .val (.int ((XT.ushr p3 (1 : Int32)) &&& (3 : Int32))), .val (.int qq), .val (.ref b12), .val (.ref b18), .val (.ref b26), .val (.ref b35), .val (.ref b44), .val (.int (if qq < p1 then (0 : Int32) else (1 : Int32))), .val (.int (if p1 < qq then (0 : Int32) else (1 : Int32))), .val (.int (if p1 < p1 then (0 : Int32) else (1 : Int32))), .val (.int (0 : Int32)), .val (.int (1 : Int32)), .val (.int (0 : Int32))] [(.int (0 : Int32)), (.int (0 : Int32))])) _
        refine XS.icmpNo X59.here hx rfl (hb hby at_256) rfl (XT.ii_ne_f (by decide)) ?_
        show Steps p.tables e below (T59.setTop (mkF m 259 #[.val (.int p1), .val (.int p2), .val (.int p3), .val (.int p4), .val (.ref aMOODYS), .val (.int ((XT.ushr p3 (1 : Int32)) &&& (3 : Int32))), .val (.int qq), .val (.ref b12), .val (.ref b18), .val (.ref b26), .val (.ref b35), .val (.ref b44), .val (.int (if qq < p1 then (0 : Int32) else (1 : Int32))), .val (.int (if p1 < qq then (0 : Int32) else (1 : Int32))), .val (.int (if p1 < p1 then (0 : Int32) else (1 : Int32))), .val (.int (0 : Int32)), .val (.int (1 : Int32)), .val (.int (0 : Int32))] [])) _
        refine XS.iconst X59.here hx rfl (hb hby at_259) ?_
        show Steps p.tables e below (T59.setTop (mkF m 260 #[.val (.int p1), .val (.int p2), .val (.int p3), .val (.int p4), .val (.ref aMOODYS), .val (.int ((XT.ushr p3 (1 : Int32)) &&& (3 : Int32))), .val (.int qq), .val (.ref b12), .val (.ref b18), .val (.ref b26), .val (.ref b35), .val (.ref b44), .val (.int (if qq < p1 then (0 : Int32) else (1 : Int32))), .val (.int (if p1 < qq then (0 : Int32) else (1 : Int32))), .val (.int (if p1 < p1 then (0 : Int32) else (1 : Int32))), .val (.int (0 : Int32)), .val (.int (1 : Int32)), .val (.int (0 : Int32))] [(.int (1 : Int32))])) _
        refine XS.goto X59.here hx rfl (pc0 := 260) (pc' := 264) rfl (hb hby at_260) (by decide) (by decide) ?_
        show Steps p.tables e below (T59.setTop (mkF m 264 #[.val (.int p1), .val (.int p2), .val (.int p3), .val (.int p4), .val (.ref aMOODYS), .val (.int ((XT.ushr p3 (1 : Int32)) &&& (3 : Int32))), .val (.int qq), .val (.ref b12), .val (.ref b18), .val (.ref b26), .val (.ref b35), .val (.ref b44), .val (.int (if qq < p1 then (0 : Int32) else (1 : Int32))), .val (.int (if p1 < qq then (0 : Int32) else (1 : Int32))), .val (.int (if p1 < p1 then (0 : Int32) else (1 : Int32))), .val (.int (0 : Int32)), .val (.int (1 : Int32)), .val (.int (0 : Int32))] [(.int (1 : Int32))])) _
        exact k
      obtain ⟨fs, hr, hrun, hended, hW, hsame⟩ := X59.leave (v := some (.int (1 : Int32))) (fun h => by rw [Bd.returns] at h; cases h)
      refine ⟨_, _, pre_62 _ ?_, hrun, hended, _, _, rfl, ?_, ⟨_, rfl⟩, hW, hsame.mono (by decide) (by decide)⟩
      · show Steps p.tables e below (T59.setTop (mkF m 264 #[.val (.int p1), .val (.int p2), .val (.int p3), .val (.int p4), .val (.ref aMOODYS), .val (.int ((XT.ushr p3 (1 : Int32)) &&& (3 : Int32))), .val (.int qq), .val (.ref b12), .val (.ref b18), .val (.ref b26), .val (.ref b35), .val (.ref b44), .val (.int (if qq < p1 then (0 : Int32) else (1 : Int32))), .val (.int (if p1 < qq then (0 : Int32) else (1 : Int32))), .val (.int (if p1 < p1 then (0 : Int32) else (1 : Int32))), .val (.int (0 : Int32)), .val (.int (1 : Int32)), .val (.int (0 : Int32))] [(.int (1 : Int32))])) _
        exact retN X59 hx (t := .boolean) Bd.returns (by simp) (hb hby at_264) hr
      · show Q_law Z p1 p2 p3 p4 aMOODYS aSP G1 h0 n0 _ T59.heap _
        rw [e59]
        exact ⟨rfl, N59⟩
    · skip
      have pre_63 : ∀ t, Steps p.tables e below (T59.setTop (mkF m 264 #[.val (.int p1), .val (.int p2), .val (.int p3), .val (.int p4), .val (.ref aMOODYS), .val (.int ((XT.ushr p3 (1 : Int32)) &&& (3 : Int32))), .val (.int qq), .val (.ref b12), .val (.ref b18), .val (.ref b26), .val (.ref b35), .val (.ref b44), .val (.int (if qq < p1 then (0 : Int32) else (1 : Int32))), .val (.int (if p1 < qq then (0 : Int32) else (1 : Int32))), .val (.int (if p1 < p1 then (0 : Int32) else (1 : Int32))), .val (.int (0 : Int32)), .val (.int (0 : Int32)), .val (.int (1 : Int32))] [(.int (1 : Int32))])) t → Steps p.tables e below (s₁.setTop (entryFrame m #[(.int p1), (.int p2), (.int p3), (.int p4)] maxLocals)) t := by
        intro t k
        refine pre_61 t ?_
        show Steps p.tables e below (T59.setTop (mkF m 161 #[.val (.int p1), .val (.int p2), .val (.int p3), .val (.int p4), .val (.ref aMOODYS), .val (.int ((XT.ushr p3 (1 : Int32)) &&& (3 : Int32))), .val (.int qq), .val (.ref b12), .val (.ref b18), .val (.ref b26), .val (.ref b35), .val (.ref b44), .val (.int (if qq < p1 then (0 : Int32) else (1 : Int32))), .val (.int (if p1 < qq then (0 : Int32) else (1 : Int32))), .val (.int (if p1 < p1 then (0 : Int32) else (1 : Int32))), .unset, .unset, .unset] [])) _
        refine XS.iloadN X59.here hx rfl (hb hby at_161) rfl ?_
        show Steps p.tables e below (T59.setTop (mkF m 162 #[.val (.int p1), .val (.int p2), .val (.int p3), .val (.int p4), .val (.ref aMOODYS), .val (.int ((XT.ushr p3 (1 : Int32)) &&& (3 : Int32))), .val (.int qq), .val (.ref b12), .val (.ref b18), .val (.ref b26), .val (.ref b35), .val (.ref b44), .val (.int (if qq < p1 then (0 : Int32) else (1 : Int32))), .val (.int (if p1 < qq then (0 : Int32) else (1 : Int32))), .val (.int (if p1 < p1 then (0 : Int32) else (1 : Int32))), .unset, .unset, .unset] [(.int p1)])) _
        refine XS.iload X59.here hx rfl (hb hby at_162) rfl ?_
        show Steps p.tables e below (T59.setTop (mkF m 164 #[.val (.int p1), .val (.int p2), .val (.int p3), .val (.int p4), .val (.ref aMOODYS), .val (.int ((XT.ushr p3 (1 : Int32)) &&& (3 : Int32))), .val (.int qq), .val (.ref b12), .val (.ref b18), .val (.ref b26), .val (.ref b35), .val (.ref b44), .val (.int (if qq < p1 then (0 : Int32) else (1 : Int32))), .val (.int (if p1 < qq then (0 : Int32) else (1 : Int32))), .val (.int (if p1 < p1 then (0 : Int32) else (1 : Int32))), .unset, .unset, .unset] [(.int qq), (.int p1)])) _
        refine XS.icmpYes X59.here hx rfl (pc0 := 164) (pc' := 171) rfl (hb hby at_164) rfl (XT.ii_ne_t t3) (by decide) (by decide) ?_
        show Steps p.tables e below (T59.setTop (mkF m 171 #[.val (.int p1), .val (.int p2), .val (.int p3), .val (.int p4), .val (.ref aMOODYS), .val (.int ((XT.ushr p3 (1 : Int32)) &&& (3 : Int32))), .val (.int qq), .val (.ref b12), .val (.ref b18), .val (.ref b26), .val (.ref b35), .val (.ref b44), .val (.int (if qq < p1 then (0 : Int32) else (1 : Int32))), .val (.int (if p1 < qq then (0 : Int32) else (1 : Int32))), .val (.int (if p1 < p1 then (0 : Int32) else (1 : Int32))), .unset, .unset, .unset] [])) _
        refine XS.iconst X59.here hx rfl (hb hby at_171) ?_
        show Steps p.tables e below (T59.setTop (mkF m 172 #[.val (.int p1), .val (.int p2), .val (.int p3), .val (.int p4), .val (.ref aMOODYS), .val (.int ((XT.ushr p3 (1 : Int32)) &&& (3 : Int32))), .val (.int qq), .val (.ref b12), .val (.ref b18), .val (.ref b26), .val (.ref b35), .val (.ref b44), .val (.int (if qq < p1 then (0 : Int32) else (1 : Int32))), .val (.int (if p1 < qq then (0 : Int32) else (1 : Int32))), .val (.int (if p1 < p1 then (0 : Int32) else (1 : Int32))), .unset, .unset, .unset] [(.int (0 : Int32))])) _
        refine XS.istore X59.here hx rfl (hb hby at_172) rfl (l' := #[.val (.int p1), .val (.int p2), .val (.int p3), .val (.int p4), .val (.ref aMOODYS), .val (.int ((XT.ushr p3 (1 : Int32)) &&& (3 : Int32))), .val (.int qq), .val (.ref b12), .val (.ref b18), .val (.ref b26), .val (.ref b35), .val (.ref b44), .val (.int (if qq < p1 then (0 : Int32) else (1 : Int32))), .val (.int (if p1 < qq then (0 : Int32) else (1 : Int32))), .val (.int (if p1 < p1 then (0 : Int32) else (1 : Int32))), .val (.int (0 : Int32)), .unset, .unset]) rfl ?_
        show Steps p.tables e below (T59.setTop (mkF m 174 #[.val (.int p1), .val (.int p2), .val (.int p3), .val (.int p4), .val (.ref aMOODYS), .val (.int ((XT.ushr p3 (1 : Int32)) &&& (3 : Int32))), .val (.int qq), .val (.ref b12), .val (.ref b18), .val (.ref b26), .val (.ref b35), .val (.ref b44), .val (.int (if qq < p1 then (0 : Int32) else (1 : Int32))), .val (.int (if p1 < qq then (0 : Int32) else (1 : Int32))), .val (.int (if p1 < p1 then (0 : Int32) else (1 : Int32))), .val (.int (0 : Int32)), .unset, .unset] [])) _
        refine XS.iloadN X59.here hx rfl (hb hby at_174) rfl ?_
        show Steps p.tables e below (T59.setTop (mkF m 175 #[.val (.int p1), .val (.int p2), .val (.int p3), .val (.int p4), .val (.ref aMOODYS), .val (.int ((XT.ushr p3 (1 : Int32)) &&& (3 : Int32))), .val (.int qq), .val (.ref b12), .val (.ref b18), .val (.ref b26), .val (.ref b35), .val (.ref b44), .val (.int (if qq < p1 then (0 : Int32) else (1 : Int32))), .val (.int (if p1 < qq then (0 : Int32) else (1 : Int32))), .val (.int (if p1 < p1 then (0 : Int32) else (1 : Int32))), .val (.int (0 : Int32)), .unset, .unset] [(.int p1)])) _
        refine XS.iload X59.here hx rfl (hb hby at_175) rfl ?_
        show Steps p.tables e below (T59.setTop (mkF m 177 #[.val (.int p1), .val (.int p2), .val (.int p3), .val (.int p4), .val (.ref aMOODYS), .val (.int ((XT.ushr p3 (1 : Int32)) &&& (3 : Int32))), .val (.int qq), .val (.ref b12), .val (.ref b18), .val (.ref b26), .val (.ref b35), .val (.ref b44), .val (.int (if qq < p1 then (0 : Int32) else (1 : Int32))), .val (.int (if p1 < qq then (0 : Int32) else (1 : Int32))), .val (.int (if p1 < p1 then (0 : Int32) else (1 : Int32))), .val (.int (0 : Int32)), .unset, .unset] [(.int qq), (.int p1)])) _
        refine XS.icmpNo X59.here hx rfl (hb hby at_177) rfl (XT.ii_lt_f t1) ?_
        show Steps p.tables e below (T59.setTop (mkF m 180 #[.val (.int p1), .val (.int p2), .val (.int p3), .val (.int p4), .val (.ref aMOODYS), .val (.int ((XT.ushr p3 (1 : Int32)) &&& (3 : Int32))), .val (.int qq), .val (.ref b12), .val (.ref b18), .val (.ref b26), .val (.ref b35), .val (.ref b44), .val (.int (if qq < p1 then (0 : Int32) else (1 : Int32))), .val (.int (if p1 < qq then (0 : Int32) else (1 : Int32))), .val (.int (if p1 < p1 then (0 : Int32) else (1 : Int32))), .val (.int (0 : Int32)), .unset, .unset] [])) _
        refine XS.iload X59.here hx rfl (hb hby at_180) rfl ?_
        show Steps p.tables e below (T59.setTop (mkF m 182 #[.val (.int p1), .val (.int p2), .val (.int p3), .val (.int p4), .val (.ref aMOODYS), .val (.int ((XT.ushr p3 (1 : Int32)) &&& (3 : Int32))), .val (.int qq), .val (.ref b12), .val (.ref b18), .val (.ref b26), .val (.ref b35), .val (.ref b44), .val (.int (if qq < p1 then (0 : Int32) else (1 : Int32))), .val (.int (if p1 < qq then (0 : Int32) else (1 : Int32))), .val (.int (if p1 < p1 then (0 : Int32) else (1 : Int32))), .val (.int (0 : Int32)), .unset, .unset] [(.int (0 : Int32))])) _
        refine XS.ifYes X59.here hx rfl (pc0 := 182) (pc' := 189) rfl (hb hby at_182) rfl (XT.i0_eq_t (by decide)) (by decide) (by decide) ?_
        show Steps p.tables e below (T59.setTop (mkF m 189 #[.val (.int p1), .val (.int p2), .val (.int p3), .val (.int p4), .val (.ref aMOODYS), .val (.int ((XT.ushr p3 (1 : Int32)) &&& (3 : Int32))), .val (.int qq), .val (.ref b12), .val (.ref b18), .val (.ref b26), .val (.ref b35), .val (.ref b44), .val (.int (if qq < p1 then (0 : Int32) else (1 : Int32))), .val (.int (if p1 < qq then (0 : Int32) else (1 : Int32))), .val (.int (if p1 < p1 then (0 : Int32) else (1 : Int32))), .val (.int (0 : Int32)), .unset, .unset] [])) _
        refine XS.iconst X59.here hx rfl (hb hby at_189) ?_
        show Steps p.tables e below (T59.setTop (mkF m 190 #[.val (.int p1), .val (.int p2), .val (.int p3), .val (.int p4), .val (.ref aMOODYS), .val (.int ((XT.ushr p3 (1 : Int32)) &&& (3 : Int32))), .val (.int qq), .val (.ref b12), .val (.ref b18), .val (.ref b26), .val (.ref b35), .val (.ref b44), .val (.int (if qq < p1 then (0 : Int32) else (1 : Int32))), .val (.int (if p1 < qq then (0 : Int32) else (1 : Int32))), .val (.int (if p1 < p1 then (0 : Int32) else (1 : Int32))), .val (.int (0 : Int32)), .unset, .unset] [(.int (0 : Int32))])) _
        refine XS.istore X59.here hx rfl (hb hby at_190) rfl (l' := #[.val (.int p1), .val (.int p2), .val (.int p3), .val (.int p4), .val (.ref aMOODYS), .val (.int ((XT.ushr p3 (1 : Int32)) &&& (3 : Int32))), .val (.int qq), .val (.ref b12), .val (.ref b18), .val (.ref b26), .val (.ref b35), .val (.ref b44), .val (.int (if qq < p1 then (0 : Int32) else (1 : Int32))), .val (.int (if p1 < qq then (0 : Int32) else (1 : Int32))), .val (.int (if p1 < p1 then (0 : Int32) else (1 : Int32))), .val (.int (0 : Int32)), .val (.int (0 : Int32)), .unset]) rfl ?_
        show Steps p.tables e below (T59.setTop (mkF m 192 #[.val (.int p1), .val (.int p2), .val (.int p3), .val (.int p4), .val (.ref aMOODYS), .val (.int ((XT.ushr p3 (1 : Int32)) &&& (3 : Int32))), .val (.int qq), .val (.ref b12), .val (.ref b18), .val (.ref b26), .val (.ref b35), .val (.ref b44), .val (.int (if qq < p1 then (0 : Int32) else (1 : Int32))), .val (.int (if p1 < qq then (0 : Int32) else (1 : Int32))), .val (.int (if p1 < p1 then (0 : Int32) else (1 : Int32))), .val (.int (0 : Int32)), .val (.int (0 : Int32)), .unset] [])) _
        refine XS.iload X59.here hx rfl (hb hby at_192) rfl ?_
        show Steps p.tables e below (T59.setTop (mkF m 194 #[.val (.int p1), .val (.int p2), .val (.int p3), .val (.int p4), .val (.ref aMOODYS), .val (.int ((XT.ushr p3 (1 : Int32)) &&& (3 : Int32))), .val (.int qq), .val (.ref b12), .val (.ref b18), .val (.ref b26), .val (.ref b35), .val (.ref b44), .val (.int (if qq < p1 then (0 : Int32) else (1 : Int32))), .val (.int (if p1 < qq then (0 : Int32) else (1 : Int32))), .val (.int (if p1 < p1 then (0 : Int32) else (1 : Int32))), .val (.int (0 : Int32)), .val (.int (0 : Int32)), .unset] [(.int qq)])) _
        refine XS.iloadN X59.here hx rfl (hb hby at_194) rfl ?_
        show Steps p.tables e below (T59.setTop (mkF m 195 #[.val (.int p1), .val (.int p2), .val (.int p3), .val (.int p4), .val (.ref aMOODYS), .val (.int ((XT.ushr p3 (1 : Int32)) &&& (3 : Int32))), .val (.int qq), .val (.ref b12), .val (.ref b18), .val (.ref b26), .val (.ref b35), .val (.ref b44), .val (.int (if qq < p1 then (0 : Int32) else (1 : Int32))), .val (.int (if p1 < qq then (0 : Int32) else (1 : Int32))), .val (.int (if p1 < p1 then (0 : Int32) else (1 : Int32))), .val (.int (0 : Int32)), .val (.int (0 : Int32)), .unset] [(.int p1), (.int qq)])) _
        refine XS.icmpYes X59.here hx rfl (pc0 := 195) (pc' := 203) rfl (hb hby at_195) rfl (XT.ii_lt_t t2) (by decide) (by decide) ?_
        show Steps p.tables e below (T59.setTop (mkF m 203 #[.val (.int p1), .val (.int p2), .val (.int p3), .val (.int p4), .val (.ref aMOODYS), .val (.int ((XT.ushr p3 (1 : Int32)) &&& (3 : Int32))), .val (.int qq), .val (.ref b12), .val (.ref b18), .val (.ref b26), .val (.ref b35), .val (.ref b44), .val (.int (if qq < p1 then (0 : Int32) else (1 : Int32))), .val (.int (if p1 < qq then (0 : Int32) else (1 : Int32))), .val (.int (if p1 < p1 then (0 : Int32) else (1 : Int32))), .val (.int (0 : Int32)), .val (.int (0 : Int32)), .unset] [])) _
        refine XS.iconst X59.here hx rfl (hb hby at_203) ?_
        show Steps p.tables e below (T59.setTop (mkF m 204 #[.val (.int p1), .val (.int p2), .val (.int p3), .val (.int p4), .val (.ref aMOODYS), .val (.int ((XT.ushr p3 (1 : Int32)) &&& (3 : Int32))), .val (.int qq), .val (.ref b12), .val (.ref b18), .val (.ref b26), .val (.ref b35), .val (.ref b44), .val (.int (if qq < p1 then (0 : Int32) else (1 : Int32))), .val (.int (if p1 < qq then (0 : Int32) else (1 : Int32))), .val (.int (if p1 < p1 then (0 : Int32) else (1 : Int32))), .val (.int (0 : Int32)), .val (.int (0 : Int32)), .unset] [(.int (1 : Int32))])) _
        refine XS.goto X59.here hx rfl (pc0 := 204) (pc' := 208) rfl (hb hby at_204) (by decide) (by decide) ?_
        show Steps p.tables e below (T59.setTop (mkF m 208 #[.val (.int p1), .val (.int p2), .val (.int p3), .val (.int p4), .val (.ref aMOODYS), .val (.int ((XT.ushr p3 (1 : Int32)) &&& (3 : Int32))), .val (.int qq), .val (.ref b12), .val (.ref b18), .val (.ref b26), .val (.ref b35), .val (.ref b44), .val (.int (if qq < p1 then (0 : Int32) else (1 : Int32))), .val (.int (if p1 < qq then (0 : Int32) else (1 : Int32))), .val (.int (if p1 < p1 then (0 : Int32) else (1 : Int32))), .val (.int (0 : Int32)), .val (.int (0 : Int32)), .unset] [(.int (1 : Int32))])) _
        refine XS.istore X59.here hx rfl (hb hby at_208) rfl (l' := #[.val (.int p1), .val (.int p2), .val (.int p3), .val (.int p4), .val (.ref aMOODYS), .val (.int ((XT.ushr p3 (1 : Int32)) &&& (3 : Int32))), .val (.int qq), .val (.ref b12), .val (.ref b18), .val (.ref b26), .val (.ref b35), .val (.ref b44), .val (.int (if qq < p1 then (0 : Int32) else (1 : Int32))), .val (.int (if p1 < qq then (0 : Int32) else (1 : Int32))), .val (.int (if p1 < p1 then (0 : Int32) else (1 : Int32))), .val (.int (0 : Int32)), .val (.int (0 : Int32)), .val (.int (1 : Int32))]) rfl ?_
        show Steps p.tables e below (T59.setTop (mkF m 210 #[.val (.int p1), .val (.int p2), .val (.int p3), .val (.int p4), .val (.ref aMOODYS), .val (.int ((XT.ushr p3 (1 : Int32)) &&& (3 : Int32))), .val (.int qq), .val (.ref b12), .val (.ref b18), .val (.ref b26), .val (.ref b35), .val (.ref b44), .val (.int (if qq < p1 then (0 : Int32) else (1 : Int32))), .val (.int (if p1 < qq then (0 : Int32) else (1 : Int32))), .val (.int (if p1 < p1 then (0 : Int32) else (1 : Int32))), .val (.int (0 : Int32)), .val (.int (0 : Int32)), .val (.int (1 : Int32))] [])) _
        refine XS.iload X59.here hx rfl (hb hby at_210) rfl ?_
        show Steps p.tables e below (T59.setTop (mkF m 212 #[.val (.int p1), .val (.int p2), .val (.int p3), .val (.int p4), .val (.ref aMOODYS), .val (.int ((XT.ushr p3 (1 : Int32)) &&& (3 : Int32))), .val (.int qq), .val (.ref b12), .val (.ref b18), .val (.ref b26), .val (.ref b35), .val (.ref b44), .val (.int (if qq < p1 then (0 : Int32) else (1 : Int32))), .val (.int (if p1 < qq then (0 : Int32) else (1 : Int32))), .val (.int (if p1 < p1 then (0 : Int32) else (1 : Int32))), .val (.int (0 : Int32)), .val (.int (0 : Int32)), .val (.int (1 : Int32))] [(.int (if qq < p1 then (0 : Int32) else (1 : Int32)))])) _
        refine XS.iload X59.here hx rfl (hb hby at_212) rfl ?_
        show Steps p.tables e below (T59.setTop (mkF m 214 #[.val (.int p1), .val (.int p2), .val (.int p3), .val (.int p4), .val (.ref aMOODYS), .val (.int ((XT.ushr p3 (1 : Int32)) &&& (3 : Int32))), .val (.int qq), .val (.ref b12), .val (.ref b18), .val (.ref b26), .val (.ref b35), .val (.ref b44), .val (.int (if qq < p1 then (0 : Int32) else (1 : Int32))), .val (.int (if p1 < qq then (0 : Int32) else (1 : Int32))), .val (.int (if p1 < p1 then (0 : Int32) else (1 : Int32))), .val (.int (0 : Int32)), .val (.int (0 : Int32)), .val (.int (1 : Int32))] [(.int (0 : Int32)), (.int (if qq < p1 then (0 : Int32) else (1 : Int32)))])) _
        refine XS.icmpNo X59.here hx rfl (hb hby at_214) rfl (XT.ii_ne_f (by simp only [if_pos t2] <;> decide)) ?_
        show Steps p.tables e below (T59.setTop (mkF m 217 #[.val (.int p1), .val (.int p2), .val (.int p3), .val (.int p4), .val (.ref aMOODYS), .val (.int ((XT.ushr p3 (1 : Int32)) &&& (3 : Int32))), .val (.int qq), .val (.ref b12), .val (.ref b18), .val (.ref b26), .val (.ref b35), .val (.ref b44), .val (.int (if qq < p1 then (0 : Int32) else (1 : Int32))), .val (.int (if p1 < qq then (0 : Int32) else (1 : Int32))), .val (.int (if p1 < p1 then (0 : Int32) else (1 : Int32))), .val (.int (0 : Int32)), .val (.int (0 : Int32)), .val (.int (1 : Int32))] [])) _
        refine XS.iload X59.here hx rfl (hb hby at_217) rfl ?_
        show Steps p.tables e below (T59.setTop (mkF m 219 #[.val (.int p1), .val (.int p2), .val (.int p3), .val (.int p4), .val (.ref aMOODYS), .val (.int ((XT.ushr p3 (1 : Int32)) &&& (3 : Int32))), .val (.int qq), .val (.ref b12), .val (.ref b18), .val (.ref b26), .val (.ref b35), .val (.ref b44), .val (.int (if qq < p1 then (0 : Int32) else (1 : Int32))), .val (.int (if p1 < qq then (0 : Int32) else (1 : Int32))), .val (.int (if p1 < p1 then (0 : Int32) else (1 : Int32))), .val (.int (0 : Int32)), .val (.int (0 : Int32)), .val (.int (1 : Int32))] [(.int (if p1 < qq then (0 : Int32) else (1 : Int32)))])) _
        refine XS.iload X59.here hx rfl (hb hby at_219) rfl ?_
        show Steps p.tables e below (T59.setTop (mkF m 221 #[.val (.int p1), .val (.int p2), .val (.int p3), .val (.int p4), .val (.ref aMOODYS), .val (.int ((XT.ushr p3 (1 : Int32)) &&& (3 : Int32))), .val (.int qq), .val (.ref b12), .val (.ref b18), .val (.ref b26), .val (.ref b35), .val (.ref b44), .val (.int (if qq < p1 then (0 : Int32) else (1 : Int32))), .val (.int (if p1 < qq then (0 : Int32) else (1 : Int32))), .val (.int (if p1 < p1 then (0 : Int32) else (1 : Int32))), .val (.int (0 : Int32)), .val (.int (0 : Int32)), .val (.int (1 : Int32))] [(.int (1 : Int32)), (.int (if p1 < qq then (0 : Int32) else (1 : Int32)))])) _
        refine XS.icmpNo X59.here hx rfl (hb hby at_221) rfl (XT.ii_ne_f (by simp only [if_neg t1] <;> decide)) ?_
        show Steps p.tables e below (T59.setTop (mkF m 224 #[.val (.int p1), .val (.int p2), .val (.int p3), .val (.int p4), .val (.ref aMOODYS), .val (.int ((XT.ushr p3 (1 : Int32)) &&& (3 : Int32))), .val (.int qq), .val (.ref b12), .val (.ref b18), .val (.ref b26), .val (.ref b35), .val (.ref b44), .val (.int (if qq < p1 then (0 : Int32) else (1 : Int32))), .val (.int (if p1 < qq then (0 : Int32) else (1 : Int32))), .val (.int (if p1 < p1 then (0 : Int32) else (1 : Int32))), .val (.int (0 : Int32)), .val (.int (0 : Int32)), .val (.int (1 : Int32))] [])) _
        refine XS.iload X59.here hx rfl (hb hby at_224) rfl ?_
        show Steps p.tables e below (T59.setTop (mkF m 226 #[.val (.int p1), .val (.int p2), .val (.int p3), .val (.int p4), .val (.ref aMOODYS), .val (.int ((XT.ushr p3 (1 : Int32)) &&& (3 : Int32))), .val (.int qq), .val (.ref b12), .val (.ref b18), .val (.ref b26), .val (.ref b35), .val (.ref b44), .val (.int (if qq < p1 then (0 : Int32) else (1 : Int32))), .val (.int (if p1 < qq then (0 : Int32) else (1 : Int32))), .val (.int (if p1 < p1 then (0 : Int32) else (1 : Int32))), .val (.int (0 : Int32)), .val (.int (0 : Int32)), .val (.int (1 : Int32))] [(.int (if p1 < p1 then (0 : Int32) else (1 : Int32)))])) _
        refine XS.ifNo X59.here hx rfl (hb hby at_226) rfl (XT.i0_eq_f (by simp only [if_neg (Int32.lt_irrefl : ¬ p1 < p1)] <;> decide)) ?_
        show Steps p.tables e below (T59.setTop (mkF m 229 #[.val (.int p1), .val (.int p2), .val (.int p3), .val (.int p4), .val (.ref aMOODYS), .val (.int ((XT.ushr p3 (1 : Int32)) &&& (3 : Int32))), .val (.int qq), .val (.ref b12), .val (.ref b18), .val (.ref b26), .val (.ref b35), .val (.ref b44), .val (.int (if qq < p1 then (0 : Int32) else (1 : Int32))), .val (.int (if p1 < qq then (0 : Int32) else (1 : Int32))), .val (.int (if p1 < p1 then (0 : Int32) else (1 : Int32))), .val (.int (0 : Int32)), .val (.int (0 : Int32)), .val (.int (1 : Int32))] [])) _
        refine XS.iload X59.here hx rfl (hb hby at_229) rfl ?_
        show Steps p.tables e below (T59.setTop (mkF m 231 #[.val (.int p1), .val (.int p2), .val (.int p3), .val (.int p4), .val (.ref aMOODYS), .val (.int ((XT.ushr p3 (1 : Int32)) &&& (3 : Int32))), .val (.int qq), .val (.ref b12), .val (.ref b18), .val (.ref b26), .val (.ref b35), .val (.ref b44), .val (.int (if qq < p1 then (0 : Int32) else (1 : Int32))), .val (.int (if p1 < qq then (0 : Int32) else (1 : Int32))), .val (.int (if p1 < p1 then (0 : Int32) else (1 : Int32))), .val (.int (0 : Int32)), .val (.int (0 : Int32)), .val (.int (1 : Int32))] [(.int (if qq < p1 then (0 : Int32) else (1 : Int32)))])) _
        refine XS.ifNo X59.here hx rfl (hb hby at_231) rfl (XT.i0_ne_f (by simp only [if_pos t2] <;> decide)) ?_
        show Steps p.tables e below (T59.setTop (mkF m 234 #[.val (.int p1), .val (.int p2), .val (.int p3), .val (.int p4), .val (.ref aMOODYS), .val (.int ((XT.ushr p3 (1 : Int32)) &&& (3 : Int32))), .val (.int qq), .val (.ref b12), .val (.ref b18), .val (.ref b26), .val (.ref b35), .val (.ref b44), .val (.int (if qq < p1 then (0 : Int32) else (1 : Int32))), .val (.int (if p1 < qq then (0 : Int32) else (1 : Int32))), .val (.int (if p1 < p1 then (0 : Int32) else (1 : Int32))), .val (.int (0 : Int32)), .val (.int (0 : Int32)), .val (.int (1 : Int32))] [])) _
        refine XS.iload X59.here hx rfl (hb hby at_234) rfl ?_
        show Steps p.tables e below (T59.setTop (mkF m 236 #[.val (.int p1), .val (.int p2), .val (.int p3), .val (.int p4), .val (.ref aMOODYS), .val (.int ((XT.ushr p3 (1 : Int32)) &&& (3 : Int32))), .val (.int qq), .val (.ref b12), .val (.ref b18), .val (.ref b26), .val (.ref b35), .val (.ref b44), .val (.int (if qq < p1 then (0 : Int32) else (1 : Int32))), .val (.int (if p1 < qq then (0 : Int32) else (1 : Int32))), .val (.int (if p1 < p1 then (0 : Int32) else (1 : Int32))), .val (.int (0 : Int32)), .val (.int (0 : Int32)), .val (.int (1 : Int32))] [(.int (if p1 < qq then (0 : Int32) else (1 : Int32)))])) _
        refine XS.ifNo X59.here hx rfl (hb hby at_236) rfl (XT.i0_eq_f (by simp only [if_neg t1] <;> decide)) ?_
        show Steps p.tables e below (T59.setTop (mkF m 239 #[.val (.int p1), .val (.int p2), .val (.int p3), .val (.int p4), .val (.ref aMOODYS), .val (.int ((XT.ushr p3 (1 : Int32)) &&& (3 : Int32))), .val (.int qq), .val (.ref b12), .val (.ref b18), .val (.ref b26), .val (.ref b35), .val (.ref b44), .val (.int (if qq < p1 then (0 : Int32) else (1 : Int32))), .val (.int (if p1 < qq then (0 : Int32) else (1 : Int32))), .val (.int (if p1 < p1 then (0 : Int32) else (1 : Int32))), .val (.int (0 : Int32)), .val (.int (0 : Int32)), .val (.int (1 : Int32))] [])) _
        refine XS.iload X59.here hx rfl (hb hby at_239) rfl ?_
        show Steps p.tables e below (T59.setTop (mkF m 241 #[.val (.int p1), .val (.int p2), .val (.int p3), .val (.int p4), .val (.ref aMOODYS), .val (.int ((XT.ushr p3 (1 : Int32)) &&& (3 : Int32))), .val (.int qq), .val (.ref b12), .val (.ref b18), .val (.ref b26), .val (.ref b35), .val (.ref b44), .val (.int (if qq < p1 then (0 : Int32) else (1 : Int32))), .val (.int (if p1 < qq then (0 : Int32) else (1 : Int32))), .val (.int (if p1 < p1 then (0 : Int32) else (1 : Int32))), .val (.int (0 : Int32)), .val (.int (0 : Int32)), .val (.int (1 : Int32))] [(.int (if qq < p1 then (0 : Int32) else (1 : Int32)))])) _
        refine XS.ifYes X59.here hx rfl (pc0 := 241) (pc' := 253) rfl (hb hby at_241) rfl (XT.i0_eq_t (by simp only [if_pos t2] <;> decide)) (by decide) (by decide) ?_
        show Steps p.tables e below (T59.setTop (mkF m 253 #[.val (.int p1), .val (.int p2), .val (.int p3), .val (.int p4), .val (.ref aMOODYS), .val (.int ((XT.ushr p3 (1 : Int32)) &&& (3 : Int32))), .val (.int qq), .val (.ref b12), .val (.ref b18), .val (.ref b26), .val (.ref b35), .val (.ref b44), .val (.int (if qq < p1 then (0 : Int32) else (1 : Int32))), .val (.int (if p1 < qq then (0 : Int32) else (1 : Int32))), .val (.int (if p1 < p1 then (0 : Int32) else (1 : Int32))), .val (.int (0 : Int32)), .val (.int (0 : Int32)), .val (.int (1 : Int32))] [])) _
        refine XS.iconst X59.here hx rfl (hb hby at_253) ?_
        show Steps p.tables e below (T59.setTop (mkF m 254 #[.val (.int p1), .val (.int p2), .val (.int p3), .val (.int p4), .val (.ref aMOODYS), .val (.int ((XT.ushr p3 (1 : Int32)) &&& (3 : Int32))), .val (.int qq), .val (.ref b12), .val (.ref b18), .val (.ref b26), .val (.ref b35), .val (.ref b44), .val (.int (if qq < p1 then (0 : Int32) else (1 : Int32))), .val (.int (if p1 < qq then (0 : Int32) else (1 : Int32))), .val (.int (if p1 < p1 then (0 : Int32) else (1 : Int32))), .val (.int (0 : Int32)), .val (.int (0 : Int32)), .val (.int (1 : Int32))] [(.int (0 : Int32))])) _
        refine XS.iload X59.here hx rfl (hb hby at_254) rfl ?_
        show Steps p.tables e below (T59.setTop (mkF m 256 #[.val (.int p1), .val (.int p2), .val (.int p3), .val (.int p4), .val (.ref aMOODYS), .val (.int ((XT.ushr p3 (1 : Int32)) &&& (3 : Int32))), .val (.int qq), .val (.ref b12), .val (.ref b18), .val (.ref b26), .val (.ref b35), .val (.ref b44), .val (.int (if qq < p1 then (0 : Int32) else (1 : Int32))), .val (.int (if p1 < qq then (0 : Int32) else (1 : Int32))), .val (.int (if p1 < p1 then (0 : Int32) else (1 : Int32))), .val (.int (0 : Int32)), .val (.int (0 : Int32)), .val (.int (1 : Int32))] [(.int (0 : Int32)), (.int (0 : Int32))])) _
        refine XS.icmpNo X59.here hx rfl (hb hby at_256) rfl (XT.ii_ne_f (by decide)) ?_
        show Steps p.tables e below (T59.setTop (mkF m 259 #[.val (.int p1), .val (.int p2), .val (.int p3), .val (.int p4), .val (.ref aMOODYS), .val (.int ((XT.ushr p3 (1 : Int32)) &&& (3 : Int32))), .val (.int qq), .val (.ref b12), .val (.ref b18), .val (.ref b26), .val (.ref b35), .val (.ref b44), .val (.int (if qq < p1 then (0 : Int32) else (1 : Int32))), .val (.int (if p1 < qq then (0 : Int32) else (1 : Int32))), .val (.int (if p1 < p1 then (0 : Int32) else (1 : Int32))), .val (.int (0 : Int32)), .val (.int (0 : Int32)), .val (.int (1 : Int32))] [])) _
        refine XS.iconst X59.here hx rfl (hb hby at_259) ?_
        show Steps p.tables e below (T59.setTop (mkF m 260 #[.val (.int p1), .val (.int p2), .val (.int p3), .val (.int p4), .val (.ref aMOODYS), .val (.int ((XT.ushr p3 (1 : Int32)) &&& (3 : Int32))), .val (.int qq), .val (.ref b12), .val (.ref b18), .val (.ref b26), .val (.ref b35), .val (.ref b44), .val (.int (if qq < p1 then (0 : Int32) else (1 : Int32))), .val (.int (if p1 < qq then (0 : Int32) else (1 : Int32))), .val (.int (if p1 < p1 then (0 : Int32) else (1 : Int32))), .val (.int (0 : Int32)), .val (.int (0 : Int32)), .val (.int (1 : Int32))] [(.int (1 : Int32))])) _
        refine XS.goto X59.here hx rfl (pc0 := 260) (pc' := 264) rfl (hb hby at_260) (by decide) (by decide) ?_
        show Steps p.tables e below (T59.setTop (mkF m 264 #[.val (.int p1), .val (.int p2), .val (.int p3), .val (.int p4), .val (.ref aMOODYS), .val (.int ((XT.ushr p3 (1 : Int32)) &&& (3 : Int32))), .val (.int qq), .val (.ref b12), .val (.ref b18), .val (.ref b26), .val (.ref b35), .val (.ref b44), .val (.int (if qq < p1 then (0 : Int32) else (1 : Int32))), .val (.int (if p1 < qq then (0 : Int32) else (1 : Int32))), .val (.int (if p1 < p1 then (0 : Int32) else (1 : Int32))), .val (.int (0 : Int32)), .val (.int (0 : Int32)), .val (.int (1 : Int32))] [(.int (1 : Int32))])) _
        exact k
      obtain ⟨fs, hr, hrun, hended, hW, hsame⟩ := X59.leave (v := some (.int (1 : Int32))) (fun h => by rw [Bd.returns] at h; cases h)
      refine ⟨_, _, pre_63 _ ?_, hrun, hended, _, _, rfl, ?_, ⟨_, rfl⟩, hW, hsame.mono (by decide) (by decide)⟩
      · show Steps p.tables e below (T59.setTop (mkF m 264 #[.val (.int p1), .val (.int p2), .val (.int p3), .val (.int p4), .val (.ref aMOODYS), .val (.int ((XT.ushr p3 (1 : Int32)) &&& (3 : Int32))), .val (.int qq), .val (.ref b12), .val (.ref b18), .val (.ref b26), .val (.ref b35), .val (.ref b44), .val (.int (if qq < p1 then (0 : Int32) else (1 : Int32))), .val (.int (if p1 < qq then (0 : Int32) else (1 : Int32))), .val (.int (if p1 < p1 then (0 : Int32) else (1 : Int32))), .val (.int (0 : Int32)), .val (.int (0 : Int32)), .val (.int (1 : Int32))] [(.int (1 : Int32))])) _
        exact retN X59 hx (t := .boolean) Bd.returns (by simp) (hb hby at_264) hr
      · show Q_law Z p1 p2 p3 p4 aMOODYS aSP G1 h0 n0 _ T59.heap _
        rw [e59]
        exact ⟨rfl, N59⟩
    · skip
      have pre_64 : ∀ t, Steps p.tables e below (T59.setTop (mkF m 264 #[.val (.int p1), .val (.int p2), .val (.int p3), .val (.int p4), .val (.ref aMOODYS), .val (.int ((XT.ushr p3 (1 : Int32)) &&& (3 : Int32))), .val (.int qq), .val (.ref b12), .val (.ref b18), .val (.ref b26), .val (.ref b35), .val (.ref b44), .val (.int (if qq < p1 then (0 : Int32) else (1 : Int32))), .val (.int (if p1 < qq then (0 : Int32) else (1 : Int32))), .val (.int (if p1 < p1 then (0 : Int32) else (1 : Int32))), .val (.int (1 : Int32)), .val (.int (1 : Int32)), .val (.int (1 : Int32))] [(.int (1 : Int32))])) t → Steps p.tables e below (s₁.setTop (entryFrame m #[(.int p1), (.int p2), (.int p3), (.int p4)] maxLocals)) t := by
        intro t k
        refine pre_61 t ?_
        show Steps p.tables e below (T59.setTop (mkF m 161 #[.val (.int p1), .val (.int p2), .val (.int p3), .val (.int p4), .val (.ref aMOODYS), .val (.int ((XT.ushr p3 (1 : Int32)) &&& (3 : Int32))), .val (.int qq), .val (.ref b12), .val (.ref b18), .val (.ref b26), .val (.ref b35), .val (.ref b44), .val (.int (if qq < p1 then (0 : Int32) else (1 : Int32))), .val (.int (if p1 < qq then (0 : Int32) else (1 : Int32))), .val (.int (if p1 < p1 then (0 : Int32) else (1 : Int32))), .unset, .unset, .unset] [])) _
        refine XS.iloadN X59.here hx rfl (hb hby at_161) rfl ?_
        show Steps p.tables e below (T59.setTop (mkF m 162 #[.val (.int p1), .val (.int p2), .val (.int p3), .val (.int p4), .val (.ref aMOODYS), .val (.int ((XT.ushr p3 (1 : Int32)) &&& (3 : Int32))), .val (.int qq), .val (.ref b12), .val (.ref b18), .val (.ref b26), .val (.ref b35), .val (.ref b44), .val (.int (if qq < p1 then (0 : Int32) else (1 : Int32))), .val (.int (if p1 < qq then (0 : Int32) else (1 : Int32))), .val (.int (if p1 < p1 then (0 : Int32) else (1 : Int32))), .unset, .unset, .unset] [(.int p1)])) _
        refine XS.iload X59.here hx rfl (hb hby at_162) rfl ?_
        show Steps p.tables e below (T59.setTop (mkF m 164 #[.val (.int p1), .val (.int p2), .val (.int p3), .val (.int p4), .val (.ref aMOODYS), .val (.int ((XT.ushr p3 (1 : Int32)) &&& (3 : Int32))), .val (.int qq), .val (.ref b12), .val (.ref b18), .val (.ref b26), .val (.ref b35), .val (.ref b44), .val (.int (if qq < p1 then (0 : Int32) else (1 : Int32))), .val (.int (if p1 < qq then (0 : Int32) else (1 : Int32))), .val (.int (if p1 < p1 then (0 : Int32) else (1 : Int32))), .unset, .unset, .unset] [(.int qq), (.int p1)])) _
        refine XS.icmpNo X59.here hx rfl (hb hby at_164) rfl (XT.ii_ne_f t3) ?_
        show Steps p.tables e below (T59.setTop (mkF m 167 #[.val (.int p1), .val (.int p2), .val (.int p3), .val (.int p4), .val (.ref aMOODYS), .val (.int ((XT.ushr p3 (1 : Int32)) &&& (3 : Int32))), .val (.int qq), .val (.ref b12), .val (.ref b18), .val (.ref b26), .val (.ref b35), .val (.ref b44), .val (.int (if qq < p1 then (0 : Int32) else (1 : Int32))), .val (.int (if p1 < qq then (0 : Int32) else (1 : Int32))), .val (.int (if p1 < p1 then (0 : Int32) else (1 : Int32))), .unset, .unset, .unset] [])) _
        refine XS.iconst X59.here hx rfl (hb hby at_167) ?_
        show Steps p.tables e below (T59.setTop (mkF m 168 #[.val (.int p1), .val (.int p2), .val (.int p3), .val (.int p4), .val (.ref aMOODYS), .val (.int ((XT.ushr p3 (1 : Int32)) &&& (3 : Int32))), .val (.int qq), .val (.ref b12), .val (.ref b18), .val (.ref b26), .val (.ref b35), .val (.ref b44), .val (.int (if qq < p1 then (0 : Int32) else (1 : Int32))), .val (.int (if p1 < qq then (0 : Int32) else (1 : Int32))), .val (.int (if p1 < p1 then (0 : Int32) else (1 : Int32))), .unset, .unset, .unset] [(.int (1 : Int32))])) _
        refine XS.goto X59.here hx rfl (pc0 := 168) (pc' := 172) rfl (hb hby at_168) (by decide) (by decide) ?_
        show Steps p.tables e below (T59.setTop (mkF m 172 #[.val (.int p1), .val (.int p2), .val (.int p3), .val (.int p4), .val (.ref aMOODYS), .val (.int ((XT.ushr p3 (1 : Int32)) &&& (3 : Int32))), .val (.int qq), .val (.ref b12), .val (.ref b18), .val (.ref b26), .val (.ref b35), .val (.ref b44), .val (.int (if qq < p1 then (0 : Int32) else (1 : Int32))), .val (.int (if p1 < qq then (0 : Int32) else (1 : Int32))), .val (.int (if p1 < p1 then (0 : Int32) else (1 : Int32))), .unset, .unset, .unset] [(.int (1 : Int32))])) _
        refine XS.istore X59.here hx rfl (hb hby at_172) rfl (l' := #[.val (.int p1), .val (.int p2), .val (.int p3), .val (.int p4), .val (.ref aMOODYS), .val (.int ((XT.ushr p3 (1 : Int32)) &&& (3 : Int32))), .val (.int qq), .val (.ref b12), .val (.ref b18), .val (.ref b26), .val (.ref b35), .val (.ref b44), .val (.int (if qq < p1 then (0 : Int32) else (1 : Int32))), .val (.int (if p1 < qq then (0 : Int32) else (1 : Int32))), .val (.int (if p1 < p1 then (0 : Int32) else (1 : Int32))), .val (.int (1 : Int32)), .unset, .unset]) rfl ?_
        show Steps p.tables e below (T59.setTop (mkF m 174 #[.val (.int p1), .val (.int p2), .val (.int p3), .val (.int p4), .val (.ref aMOODYS), .val (.int ((XT.ushr p3 (1 : Int32)) &&& (3 : Int32))), .val (.int qq), .val (.ref b12), .val (.ref b18), .val (.ref b26), .val (.ref b35), .val (.ref b44), .val (.int (if qq < p1 then (0 : Int32) else (1 : Int32))), .val (.int (if p1 < qq then (0 : Int32) else (1 : Int32))), .val (.int (if p1 < p1 then (0 : Int32) else (1 : Int32))), .val (.int (1 : Int32)), .unset, .unset] [])) _
        refine XS.iloadN X59.here hx rfl (hb hby at_174) rfl ?_
        show Steps p.tables e below (T59.setTop (mkF m 175 #[.val (.int p1), .val (.int p2), .val (.int p3), .val (.int p4), .val (.ref aMOODYS), .val (.int ((XT.ushr p3 (1 : Int32)) &&& (3 : Int32))), .val (.int qq), .val (.ref b12), .val (.ref b18), .val (.ref b26), .val (.ref b35), .val (.ref b44), .val (.int (if qq < p1 then (0 : Int32) else (1 : Int32))), .val (.int (if p1 < qq then (0 : Int32) else (1 : Int32))), .val (.int (if p1 < p1 then (0 : Int32) else (1 : Int32))), .val (.int (1 : Int32)), .unset, .unset] [(.int p1)])) _
        refine XS.iload X59.here hx rfl (hb hby at_175) rfl ?_
        show Steps p.tables e below (T59.setTop (mkF m 177 #[.val (.int p1), .val (.int p2), .val (.int p3), .val (.int p4), .val (.ref aMOODYS), .val (.int ((XT.ushr p3 (1 : Int32)) &&& (3 : Int32))), .val (.int qq), .val (.ref b12), .val (.ref b18), .val (.ref b26), .val (.ref b35), .val (.ref b44), .val (.int (if qq < p1 then (0 : Int32) else (1 : Int32))), .val (.int (if p1 < qq then (0 : Int32) else (1 : Int32))), .val (.int (if p1 < p1 then (0 : Int32) else (1 : Int32))), .val (.int (1 : Int32)), .unset, .unset] [(.int qq), (.int p1)])) _
        refine XS.icmpNo X59.here hx rfl (hb hby at_177) rfl (XT.ii_lt_f t1) ?_
        show Steps p.tables e below (T59.setTop (mkF m 180 #[.val (.int p1), .val (.int p2), .val (.int p3), .val (.int p4), .val (.ref aMOODYS), .val (.int ((XT.ushr p3 (1 : Int32)) &&& (3 : Int32))), .val (.int qq), .val (.ref b12), .val (.ref b18), .val (.ref b26), .val (.ref b35), .val (.ref b44), .val (.int (if qq < p1 then (0 : Int32) else (1 : Int32))), .val (.int (if p1 < qq then (0 : Int32) else (1 : Int32))), .val (.int (if p1 < p1 then (0 : Int32) else (1 : Int32))), .val (.int (1 : Int32)), .unset, .unset] [])) _
        refine XS.iload X59.here hx rfl (hb hby at_180) rfl ?_
        show Steps p.tables e below (T59.setTop (mkF m 182 #[.val (.int p1), .val (.int p2), .val (.int p3), .val (.int p4), .val (.ref aMOODYS), .val (.int ((XT.ushr p3 (1 : Int32)) &&& (3 : Int32))), .val (.int qq), .val (.ref b12), .val (.ref b18), .val (.ref b26), .val (.ref b35), .val (.ref b44), .val (.int (if qq < p1 then (0 : Int32) else (1 : Int32))), .val (.int (if p1 < qq then (0 : Int32) else (1 : Int32))), .val (.int (if p1 < p1 then (0 : Int32) else (1 : Int32))), .val (.int (1 : Int32)), .unset, .unset] [(.int (1 : Int32))])) _
        refine XS.ifNo X59.here hx rfl (hb hby at_182) rfl (XT.i0_eq_f (by decide)) ?_
        show Steps p.tables e below (T59.setTop (mkF m 185 #[.val (.int p1), .val (.int p2), .val (.int p3), .val (.int p4), .val (.ref aMOODYS), .val (.int ((XT.ushr p3 (1 : Int32)) &&& (3 : Int32))), .val (.int qq), .val (.ref b12), .val (.ref b18), .val (.ref b26), .val (.ref b35), .val (.ref b44), .val (.int (if qq < p1 then (0 : Int32) else (1 : Int32))), .val (.int (if p1 < qq then (0 : Int32) else (1 : Int32))), .val (.int (if p1 < p1 then (0 : Int32) else (1 : Int32))), .val (.int (1 : Int32)), .unset, .unset] [])) _
        refine XS.iconst X59.here hx rfl (hb hby at_185) ?_
        show Steps p.tables e below (T59.setTop (mkF m 186 #[.val (.int p1), .val (.int p2), .val (.int p3), .val (.int p4), .val (.ref aMOODYS), .val (.int ((XT.ushr p3 (1 : Int32)) &&& (3 : Int32))), .val (.int qq), .val (.ref b12), .val (.ref b18), .val (.ref b26), .val (.ref b35), .val (.ref b44), .val (.int (if qq < p1 then (0 : Int32) else (1 : Int32))), .val (.int (if p1 < qq then (0 : Int32) else (1 : Int32))), .val (.int (if p1 < p1 then (0 : Int32) else (1 : Int32))), .val (.int (1 : Int32)), .unset, .unset] [(.int (1 : Int32))])) _
        refine XS.goto X59.here hx rfl (pc0 := 186) (pc' := 190) rfl (hb hby at_186) (by decide) (by decide) ?_
        show Steps p.tables e below (T59.setTop (mkF m 190 #[.val (.int p1), .val (.int p2), .val (.int p3), .val (.int p4), .val (.ref aMOODYS), .val (.int ((XT.ushr p3 (1 : Int32)) &&& (3 : Int32))), .val (.int qq), .val (.ref b12), .val (.ref b18), .val (.ref b26), .val (.ref b35), .val (.ref b44), .val (.int (if qq < p1 then (0 : Int32) else (1 : Int32))), .val (.int (if p1 < qq then (0 : Int32) else (1 : Int32))), .val (.int (if p1 < p1 then (0 : Int32) else (1 : Int32))), .val (.int (1 : Int32)), .unset, .unset] [(.int (1 : Int32))])) _
        refine XS.istore X59.here hx rfl (hb hby at_190) rfl (l' := #[.val (.int p1), .val (.int p2), .val (.int p3), .val (.int p4), .val (.ref aMOODYS), .val (.int ((XT.ushr p3 (1 : Int32)) &&& (3 : Int32))), .val (.int qq), .val (.ref b12), .val (.ref b18), .val (.ref b26), .val (.ref b35), .val (.ref b44), .val (.int (if qq < p1 then (0 : Int32) else (1 : Int32))), .val (.int (if p1 < qq then (0 : Int32) else (1 : Int32))), .val (.int (if p1 < p1 then (0 : Int32) else (1 : Int32))), .val (.int (1 : Int32)), .val (.int (1 : Int32)), .unset]) rfl ?_
        show Steps p.tables e below (T59.setTop (mkF m 192 #[.val (.int p1), .val (.int p2), .val (.int p3), .val (.int p4), .val (.ref aMOODYS), .val (.int ((XT.ushr p3 (1 : Int32)) &&& (3 : Int32))), .val (.int qq), .val (.ref b12), .val (.ref b18), .val (.ref b26), .val (.ref b35), .val (.ref b44), .val (.int (if qq < p1 then (0 : Int32) else (1 : Int32))), .val (.int (if p1 < qq then (0 : Int32) else (1 : Int32))), .val (.int (if p1 < p1 then (0 : Int32) else (1 : Int32))), .val (.int (1 : Int32)), .val (.int (1 : Int32)), .unset] [])) _
        refine XS.iload X59.here hx rfl (hb hby at_192) rfl ?_
        show Steps p.tables e below (T59.setTop (mkF m 194 #[.val (.int p1), .val (.int p2), .val (.int p3), .val (.int p4), .val (.ref aMOODYS), .val (.int ((XT.ushr p3 (1 : Int32)) &&& (3 : Int32))), .val (.int qq), .val (.ref b12), .val (.ref b18), .val (.ref b26), .val (.ref b35), .val (.ref b44), .val (.int (if qq < p1 then (0 : Int32) else (1 : Int32))), .val (.int (if p1 < qq then (0 : Int32) else (1 : Int32))), .val (.int (if p1 < p1 then (0 : Int32) else (1 : Int32))), .val (.int (1 : Int32)), .val (.int (1 : Int32)), .unset] [(.int qq)])) _
        refine XS.iloadN X59.here hx rfl (hb hby at_194) rfl ?_
        show Steps p.tables e below (T59.setTop (mkF m 195 #[.val (.int p1), .val (.int p2), .val (.int p3), .val (.int p4), .val (.ref aMOODYS), .val (.int ((XT.ushr p3 (1 : Int32)) &&& (3 : Int32))), .val (.int qq), .val (.ref b12), .val (.ref b18), .val (.ref b26), .val (.ref b35), .val (.ref b44), .val (.int (if qq < p1 then (0 : Int32) else (1 : Int32))), .val (.int (if p1 < qq then (0 : Int32) else (1 : Int32))), .val (.int (if p1 < p1 then (0 : Int32) else (1 : Int32))), .val (.int (1 : Int32)), .val (.int (1 : Int32)), .unset] [(.int p1), (.int qq)])) _
        refine XS.icmpNo X59.here hx rfl (hb hby at_195) rfl (XT.ii_lt_f t2) ?_
        show Steps p.tables e below (T59.setTop (mkF m 198 #[.val (.int p1), .val (.int p2), .val (.int p3), .val (.int p4), .val (.ref aMOODYS), .val (.int ((XT.ushr p3 (1 : Int32)) &&& (3 : Int32))), .val (.int qq), .val (.ref b12), .val (.ref b18), .val (.ref b26), .val (.ref b35), .val (.ref b44), .val (.int (if qq < p1 then (0 : Int32) else (1 : Int32))), .val (.int (if p1 < qq then (0 : Int32) else (1 : Int32))), .val (.int (if p1 < p1 then (0 : Int32) else (1 : Int32))), .val (.int (1 : Int32)), .val (.int (1 : Int32)), .unset] [])) _
        refine XS.iload X59.here hx rfl (hb hby at_198) rfl ?_
        show Steps p.tables e below (T59.setTop (mkF m 200 #[.val (.int p1), .val (.int p2), .val (.int p3), .val (.int p4), .val (.ref aMOODYS), .val (.int ((XT.ushr p3 (1 : Int32)) &&& (3 : Int32))), .val (.int qq), .val (.ref b12), .val (.ref b18), .val (.ref b26), .val (.ref b35), .val (.ref b44), .val (.int (if qq < p1 then (0 : Int32) else (1 : Int32))), .val (.int (if p1 < qq then (0 : Int32) else (1 : Int32))), .val (.int (if p1 < p1 then (0 : Int32) else (1 : Int32))), .val (.int (1 : Int32)), .val (.int (1 : Int32)), .unset] [(.int (1 : Int32))])) _
        refine XS.ifNo X59.here hx rfl (hb hby at_200) rfl (XT.i0_eq_f (by decide)) ?_
        show Steps p.tables e below (T59.setTop (mkF m 203 #[.val (.int p1), .val (.int p2), .val (.int p3), .val (.int p4), .val (.ref aMOODYS), .val (.int ((XT.ushr p3 (1 : Int32)) &&& (3 : Int32))), .val (.int qq), .val (.ref b12), .val (.ref b18), .val (.ref b26), .val (.ref b35), .val (.ref b44), .val (.int (if qq < p1 then (0 : Int32) else (1 : Int32))), .val (.int (if p1 < qq then (0 : Int32) else (1 : Int32))), .val (.int (if p1 < p1 then (0 : Int32) else (1 : Int32))), .val (.int (1 : Int32)), .val (.int (1 : Int32)), .unset] [])) _
        refine XS.iconst X59.here hx rfl (hb hby at_203) ?_
        show Steps p.tables e below (T59.setTop (mkF m 204 #[.val (.int p1), .val (.int p2), .val (.int p3), .val (.int p4), .val (.ref aMOODYS), .val (.int ((XT.ushr p3 (1 : Int32)) &&& (3 : Int32))), .val (.int qq), .val (.ref b12), .val (.ref b18), .val (.ref b26), .val (.ref b35), .val (.ref b44), .val (.int (if qq < p1 then (0 : Int32) else (1 : Int32))), .val (.int (if p1 < qq then (0 : Int32) else (1 : Int32))), .val (.int (if p1 < p1 then (0 : Int32) else (1 : Int32))), .val (.int (1 : Int32)), .val (.int (1 : Int32)), .unset] [(.int (1 : Int32))])) _
        refine XS.goto X59.here hx rfl (pc0 := 204) (pc' := 208) rfl (hb hby at_204) (by decide) (by decide) ?_
        show Steps p.tables e below (T59.setTop (mkF m 208 #[.val (.int p1), .val (.int p2), .val (.int p3), .val (.int p4), .val (.ref aMOODYS), .val (.int ((XT.ushr p3 (1 : Int32)) &&& (3 : Int32))), .val (.int qq), .val (.ref b12), .val (.ref b18), .val (.ref b26), .val (.ref b35), .val (.ref b44), .val (.int (if qq < p1 then (0 : Int32) else (1 : Int32))), .val (.int (if p1 < qq then (0 : Int32) else (1 : Int32))), .val (.int (if p1 < p1 then (0 : Int32) else (1 : Int32))), .val (.int (1 : Int32)), .val (.int (1 : Int32)), .unset] [(.int (1 : Int32))])) _
        refine XS.istore X59.here hx rfl (hb hby at_208) rfl (l' := #[.val (.int p1), .val (.int p2), .val (.int p3), .val (.int p4), .val (.ref aMOODYS), .val (.int ((XT.ushr p3 (1 : Int32)) &&& (3 : Int32))), .val (.int qq), .val (.ref b12), .val (.ref b18), .val (.ref b26), .val (.ref b35), .val (.ref b44), .val (.int (if qq < p1 then (0 : Int32) else (1 : Int32))), .val (.int (if p1 < qq then (0 : Int32) else (1 : Int32))), .val (.int (if p1 < p1 then (0 : Int32) else (1 : Int32))), .val (.int (1 : Int32)), .val (.int (1 : Int32)), .val (.int (1 : Int32))]) rfl ?_
        show Steps p.tables e below (T59.setTop (mkF m 210 #[.val (.int p1), .val (.int p2), .val (.int p3), .val (.int p4), .val (.ref aMOODYS), .val (.int ((XT.ushr p3 (1 : Int32)) &&& (3 : Int32))), .val (.int qq), .val (.ref b12), .val (.ref b18), .val (.ref b26), .val (.ref b35), .val (.ref b44), .val (.int (if qq < p1 then (0 : Int32) else (1 : Int32))), .val (.int (if p1 < qq then (0 : Int32) else (1 : Int32))), .val (.int (if p1 < p1 then (0 : Int32) else (1 : Int32))), .val (.int (1 : Int32)), .val (.int (1 : Int32)), .val (.int (1 : Int32))] [])) _
        refine XS.iload X59.here hx rfl (hb hby at_210) rfl ?_
        show Steps p.tables e below (T59.setTop (mkF m 212 #[.val (.int p1), .val (.int p2), .val (.int p3), .val (.int p4), .val (.ref aMOODYS), .val (.int ((XT.ushr p3 (1 : Int32)) &&& (3 : Int32))), .val (.int qq), .val (.ref b12), .val (.ref b18), .val (.ref b26), .val (.ref b35), .val (.ref b44), .val (.int (if qq < p1 then (0 : Int32) else (1 : Int32))), .val (.int (if p1 < qq then (0 : Int32) else (1 : Int32))), .val (.int (if p1 < p1 then (0 : Int32) else (1 : Int32))), .val (.int (1 : Int32)), .val (.int (1 : Int32)), .val (.int (1 : Int32))] [(.int (if qq < p1 then (0 : Int32) else (1 : Int32)))])) _
        refine XS.iload X59.here hx rfl (hb hby at_212) rfl ?_
        show Steps p.tables e below (T59.setTop (mkF m 214 #[.val (.int p1), .val (.int p2), .val (.int p3), .val (.int p4), .val (.ref aMOODYS), .val (.int ((XT.ushr p3 (1 : Int32)) &&& (3 : Int32))), .val (.int qq), .val (.ref b12), .val (.ref b18), .val (.ref b26), .val (.ref b35), .val (.ref b44), .val (.int (if qq < p1 then (0 : Int32) else (1 : Int32))), .val (.int (if p1 < qq then (0 : Int32) else (1 : Int32))), .val (.int (if p1 < p1 then (0 : Int32) else (1 : Int32))), .val (.int (1 : Int32)), .val (.int (1 : Int32)), .val (.int (1 : Int32))] [(.int (1 : Int32)), (.int (if qq < p1 then (0 : Int32) else (1 : Int32)))])) _
        refine XS.icmpNo X59.here hx rfl (hb hby at_214) rfl (XT.ii_ne_f (by simp only [if_neg t2] <;> decide)) ?_
        show Steps p.tables e below (T59.setTop (mkF m 217 #[.val (.int p1), .val (.int p2), .val (.int p3), .val (.int p4), .val (.ref aMOODYS), .val (.int ((XT.ushr p3 (1 : Int32)) &&& (3 : Int32))), .val (.int qq), .val (.ref b12), .val (.ref b18), .val (.ref b26), .val (.ref b35), .val (.ref b44), .val (.int (if qq < p1 then (0 : Int32) else (1 : Int32))), .val (.int (if p1 < qq then (0 : Int32) else (1 : Int32))), .val (.int (if p1 < p1 then (0 : Int32) else (1 : Int32))), .val (.int (1 : Int32)), .val (.int (1 : Int32)), .val (.int (1 : Int32))] [])) _
        refine XS.iload X59.here hx rfl (hb hby at_217) rfl ?_
        show Steps p.tables e below (T59.setTop (mkF m 219 #[.val (.int p1), .val (.int p2), .val (.int p3), .val (.int p4), .val (.ref aMOODYS), .val (.int ((XT.ushr p3 (1 : Int32)) &&& (3 : Int32))), .val (.int qq), .val (.ref b12), .val (.ref b18), .val (.ref b26), .val (.ref b35), .val (.ref b44), .val (.int (if qq < p1 then (0 : Int32) else (1 : Int32))), .val (.int (if p1 < qq then (0 : Int32) else (1 : Int32))), .val (.int (if p1 < p1 then (0 : Int32) else (1 : Int32))), .val (.int (1 : Int32)), .val (.int (1 : Int32)), .val (.int (1 : Int32))] [(.int (if p1 < qq then (0 : Int32) else (1 : Int32)))])) _
        refine XS.iload X59.here hx rfl (hb hby at_219) rfl ?_
        show Steps p.tables e below (T59.setTop (mkF m 221 #[.val (.int p1), .val (.int p2), .val (.int p3), .val (.int p4), .val (.ref aMOODYS), .val (.int ((XT.ushr p3 (1 : Int32)) &&& (3 : Int32))), .val (.int qq), .val (.ref b12), .val (.ref b18), .val (.ref b26), .val (.ref b35), .val (.ref b44), .val (.int (if qq < p1 then (0 : Int32) else (1 : Int32))), .val (.int (if p1 < qq then (0 : Int32) else (1 : Int32))), .val (.int (if p1 < p1 then (0 : Int32) else (1 : Int32))), .val (.int (1 : Int32)), .val (.int (1 : Int32)), .val (.int (1 : Int32))] [(.int (1 : Int32)), (.int (if p1 < qq then (0 : Int32) else (1 : Int32)))])) _
        refine XS.icmpNo X59.here hx rfl (hb hby at_221) rfl (XT.ii_ne_f (by simp only [if_neg t1] <;> decide)) ?_
        show Steps p.tables e below (T59.setTop (mkF m 224 #[.val (.int p1), .val (.int p2), .val (.int p3), .val (.int p4), .val (.ref aMOODYS), .val (.int ((XT.ushr p3 (1 : Int32)) &&& (3 : Int32))), .val (.int qq), .val (.ref b12), .val (.ref b18), .val (.ref b26), .val (.ref b35), .val (.ref b44), .val (.int (if qq < p1 then (0 : Int32) else (1 : Int32))), .val (.int (if p1 < qq then (0 : Int32) else (1 : Int32))), .val (.int (if p1 < p1 then (0 : Int32) else (1 : Int32))), .val (.int (1 : Int32)), .val (.int (1 : Int32)), .val (.int (1 : Int32))] [])) _
        refine XS.iload X59.here hx rfl (hb hby at_224) rfl ?_
        show Steps p.tables e below (T59.setTop (mkF m 226 #[.val (.int p1), .val (.int p2), .val (.int p3), .val (.int p4), .val (.ref aMOODYS), .val (.int ((XT.ushr p3 (1 : Int32)) &&& (3 : Int32))), .val (.int qq), .val (.ref b12), .val (.ref b18), .val (.ref b26), .val (.ref b35), .val (.ref b44), .val (.int (if qq < p1 then (0 : Int32) else (1 : Int32))), .val (.int (if p1 < qq then (0 : Int32) else (1 : Int32))), .val (.int (if p1 < p1 then (0 : Int32) else (1 : Int32))), .val (.int (1 : Int32)), .val (.int (1 : Int32)), .val (.int (1 : Int32))] [(.int (if p1 < p1 then (0 : Int32) else (1 : Int32)))])) _
        refine XS.ifNo X59.here hx rfl (hb hby at_226) rfl (XT.i0_eq_f (by simp only [if_neg (Int32.lt_irrefl : ¬ p1 < p1)] <;> decide)) ?_
        show Steps p.tables e below (T59.setTop (mkF m 229 #[.val (.int p1), .val (.int p2), .val (.int p3), .val (.int p4), .val (.ref aMOODYS), .val (.int ((XT.ushr p3 (1 : Int32)) &&& (3 : Int32))), .val (.int qq), .val (.ref b12), .val (.ref b18), .val (.ref b26), .val (.ref b35), .val (.ref b44), .val (.int (if qq < p1 then (0 : Int32) else (1 : Int32))), .val (.int (if p1 < qq then (0 : Int32) else (1 : Int32))), .val (.int (if p1 < p1 then (0 : Int32) else (1 : Int32))), .val (.int (1 : Int32)), .val (.int (1 : Int32)), .val (.int (1 : Int32))] [])) _
        refine XS.iload X59.here hx rfl (hb hby at_229) rfl ?_
        show Steps p.tables e below (T59.setTop (mkF m 231 #[.val (.int p1), .val (.int p2), .val (.int p3), .val (.int p4), .val (.ref aMOODYS), .val (.int ((XT.ushr p3 (1 : Int32)) &&& (3 : Int32))), .val (.int qq), .val (.ref b12), .val (.ref b18), .val (.ref b26), .val (.ref b35), .val (.ref b44), .val (.int (if qq < p1 then (0 : Int32) else (1 : Int32))), .val (.int (if p1 < qq then (0 : Int32) else (1 : Int32))), .val (.int (if p1 < p1 then (0 : Int32) else (1 : Int32))), .val (.int (1 : Int32)), .val (.int (1 : Int32)), .val (.int (1 : Int32))] [(.int (if qq < p1 then (0 : Int32) else (1 : Int32)))])) _
        refine XS.ifYes X59.here hx rfl (pc0 := 231) (pc' := 239) rfl (hb hby at_231) rfl (XT.i0_ne_t (by simp only [if_neg t2] <;> decide)) (by decide) (by decide) ?_
        show Steps p.tables e below (T59.setTop (mkF m 239 #[.val (.int p1), .val (.int p2), .val (.int p3), .val (.int p4), .val (.ref aMOODYS), .val (.int ((XT.ushr p3 (1 : Int32)) &&& (3 : Int32))), .val (.int qq), .val (.ref b12), .val (.ref b18), .val (.ref b26), .val (.ref b35), .val (.ref b44), .val (.int (if qq < p1 then (0 : Int32) else (1 : Int32))), .val (.int (if p1 < qq then (0 : Int32) else (1 : Int32))), .val (.int (if p1 < p1 then (0 : Int32) else (1 : Int32))), .val (.int (1 : Int32)), .val (.int (1 : Int32)), .val (.int (1 : Int32))] [])) _
        refine XS.iload X59.here hx rfl (hb hby at_239) rfl ?_
        show Steps p.tables e below (T59.setTop (mkF m 241 #[.val (.int p1), .val (.int p2), .val (.int p3), .val (.int p4), .val (.ref aMOODYS), .val (.int ((XT.ushr p3 (1 : Int32)) &&& (3 : Int32))), .val (.int qq), .val (.ref b12), .val (.ref b18), .val (.ref b26), .val (.ref b35), .val (.ref b44), .val (.int (if qq < p1 then (0 : Int32) else (1 : Int32))), .val (.int (if p1 < qq then (0 : Int32) else (1 : Int32))), .val (.int (if p1 < p1 then (0 : Int32) else (1 : Int32))), .val (.int (1 : Int32)), .val (.int (1 : Int32)), .val (.int (1 : Int32))] [(.int (if qq < p1 then (0 : Int32) else (1 : Int32)))])) _
        refine XS.ifNo X59.here hx rfl (hb hby at_241) rfl (XT.i0_eq_f (by simp only [if_neg t2] <;> decide)) ?_
        show Steps p.tables e below (T59.setTop (mkF m 244 #[.val (.int p1), .val (.int p2), .val (.int p3), .val (.int p4), .val (.ref aMOODYS), .val (.int ((XT.ushr p3 (1 : Int32)) &&& (3 : Int32))), .val (.int qq), .val (.ref b12), .val (.ref b18), .val (.ref b26), .val (.ref b35), .val (.ref b44), .val (.int (if qq < p1 then (0 : Int32) else (1 : Int32))), .val (.int (if p1 < qq then (0 : Int32) else (1 : Int32))), .val (.int (if p1 < p1 then (0 : Int32) else (1 : Int32))), .val (.int (1 : Int32)), .val (.int (1 : Int32)), .val (.int (1 : Int32))] [])) _
        refine XS.iload X59.here hx rfl (hb hby at_244) rfl ?_
        show Steps p.tables e below (T59.setTop (mkF m 246 #[.val (.int p1), .val (.int p2), .val (.int p3), .val (.int p4), .val (.ref aMOODYS), .val (.int ((XT.ushr p3 (1 : Int32)) &&& (3 : Int32))), .val (.int qq), .val (.ref b12), .val (.ref b18), .val (.ref b26), .val (.ref b35), .val (.ref b44), .val (.int (if qq < p1 then (0 : Int32) else (1 : Int32))), .val (.int (if p1 < qq then (0 : Int32) else (1 : Int32))), .val (.int (if p1 < p1 then (0 : Int32) else (1 : Int32))), .val (.int (1 : Int32)), .val (.int (1 : Int32)), .val (.int (1 : Int32))] [(.int (if p1 < qq then (0 : Int32) else (1 : Int32)))])) _
        refine XS.ifNo X59.here hx rfl (hb hby at_246) rfl (XT.i0_eq_f (by simp only [if_neg t1] <;> decide)) ?_
        show Steps p.tables e below (T59.setTop (mkF m 249 #[.val (.int p1), .val (.int p2), .val (.int p3), .val (.int p4), .val (.ref aMOODYS), .val (.int ((XT.ushr p3 (1 : Int32)) &&& (3 : Int32))), .val (.int qq), .val (.ref b12), .val (.ref b18), .val (.ref b26), .val (.ref b35), .val (.ref b44), .val (.int (if qq < p1 then (0 : Int32) else (1 : Int32))), .val (.int (if p1 < qq then (0 : Int32) else (1 : Int32))), .val (.int (if p1 < p1 then (0 : Int32) else (1 : Int32))), .val (.int (1 : Int32)), .val (.int (1 : Int32)), .val (.int (1 : Int32))] [])) _
        refine XS.iconst X59.here hx rfl (hb hby at_249) ?_
        show Steps p.tables e below (T59.setTop (mkF m 250 #[.val (.int p1), .val (.int p2), .val (.int p3), .val (.int p4), .val (.ref aMOODYS), .val (.int ((XT.ushr p3 (1 : Int32)) &&& (3 : Int32))), .val (.int qq), .val (.ref b12), .val (.ref b18), .val (.ref b26), .val (.ref b35), .val (.ref b44), .val (.int (if qq < p1 then (0 : Int32) else (1 : Int32))), .val (.int (if p1 < qq then (0 : Int32) else (1 : Int32))), .val (.int (if p1 < p1 then (0 : Int32) else (1 : Int32))), .val (.int (1 : Int32)), .val (.int (1 : Int32)), .val (.int (1 : Int32))] [(.int (1 : Int32))])) _
        refine XS.goto X59.here hx rfl (pc0 := 250) (pc' := 254) rfl (hb hby at_250) (by decide) (by decide) ?_
        show Steps p.tables e below (T59.setTop (mkF m 254 #[.val (.int p1), .val (.int p2), .val (.int p3), .val (.int p4), .val (.ref aMOODYS), .val (.int ((XT.ushr p3 (1 : Int32)) &&& (3 : Int32))), .val (.int qq), .val (.ref b12), .val (.ref b18), .val (.ref b26), .val (.ref b35), .val (.ref b44), .val (.int (if qq < p1 then (0 : Int32) else (1 : Int32))), .val (.int (if p1 < qq then (0 : Int32) else (1 : Int32))), .val (.int (if p1 < p1 then (0 : Int32) else (1 : Int32))), .val (.int (1 : Int32)), .val (.int (1 : Int32)), .val (.int (1 : Int32))] [(.int (1 : Int32))])) _
        refine XS.iload X59.here hx rfl (hb hby at_254) rfl ?_
        show Steps p.tables e below (T59.setTop (mkF m 256 #[.val (.int p1), .val (.int p2), .val (.int p3), .val (.int p4), .val (.ref aMOODYS), .val (.int ((XT.ushr p3 (1 : Int32)) &&& (3 : Int32))), .val (.int qq), .val (.ref b12), .val (.ref b18), .val (.ref b26), .val (.ref b35), .val (.ref b44), .val (.int (if qq < p1 then (0 : Int32) else (1 : Int32))), .val (.int (if p1 < qq then (0 : Int32) else (1 : Int32))), .val (.int (if p1 < p1 then (0 : Int32) else (1 : Int32))), .val (.int (1 : Int32)), .val (.int (1 : Int32)), .val (.int (1 : Int32))] [(.int (1 : Int32)), (.int (1 : Int32))])) _
        refine XS.icmpNo X59.here hx rfl (hb hby at_256) rfl (XT.ii_ne_f (by decide)) ?_
        show Steps p.tables e below (T59.setTop (mkF m 259 #[.val (.int p1), .val (.int p2), .val (.int p3), .val (.int p4), .val (.ref aMOODYS), .val (.int ((XT.ushr p3 (1 : Int32)) &&& (3 : Int32))), .val (.int qq), .val (.ref b12), .val (.ref b18), .val (.ref b26), .val (.ref b35), .val (.ref b44), .val (.int (if qq < p1 then (0 : Int32) else (1 : Int32))), .val (.int (if p1 < qq then (0 : Int32) else (1 : Int32))), .val (.int (if p1 < p1 then (0 : Int32) else (1 : Int32))), .val (.int (1 : Int32)), .val (.int (1 : Int32)), .val (.int (1 : Int32))] [])) _
        refine XS.iconst X59.here hx rfl (hb hby at_259) ?_
        show Steps p.tables e below (T59.setTop (mkF m 260 #[.val (.int p1), .val (.int p2), .val (.int p3), .val (.int p4), .val (.ref aMOODYS), .val (.int ((XT.ushr p3 (1 : Int32)) &&& (3 : Int32))), .val (.int qq), .val (.ref b12), .val (.ref b18), .val (.ref b26), .val (.ref b35), .val (.ref b44), .val (.int (if qq < p1 then (0 : Int32) else (1 : Int32))), .val (.int (if p1 < qq then (0 : Int32) else (1 : Int32))), .val (.int (if p1 < p1 then (0 : Int32) else (1 : Int32))), .val (.int (1 : Int32)), .val (.int (1 : Int32)), .val (.int (1 : Int32))] [(.int (1 : Int32))])) _
        refine XS.goto X59.here hx rfl (pc0 := 260) (pc' := 264) rfl (hb hby at_260) (by decide) (by decide) ?_
        show Steps p.tables e below (T59.setTop (mkF m 264 #[.val (.int p1), .val (.int p2), .val (.int p3), .val (.int p4), .val (.ref aMOODYS), .val (.int ((XT.ushr p3 (1 : Int32)) &&& (3 : Int32))), .val (.int qq), .val (.ref b12), .val (.ref b18), .val (.ref b26), .val (.ref b35), .val (.ref b44), .val (.int (if qq < p1 then (0 : Int32) else (1 : Int32))), .val (.int (if p1 < qq then (0 : Int32) else (1 : Int32))), .val (.int (if p1 < p1 then (0 : Int32) else (1 : Int32))), .val (.int (1 : Int32)), .val (.int (1 : Int32)), .val (.int (1 : Int32))] [(.int (1 : Int32))])) _
        exact k
      obtain ⟨fs, hr, hrun, hended, hW, hsame⟩ := X59.leave (v := some (.int (1 : Int32))) (fun h => by rw [Bd.returns] at h; cases h)
      refine ⟨_, _, pre_64 _ ?_, hrun, hended, _, _, rfl, ?_, ⟨_, rfl⟩, hW, hsame.mono (by decide) (by decide)⟩
      · show Steps p.tables e below (T59.setTop (mkF m 264 #[.val (.int p1), .val (.int p2), .val (.int p3), .val (.int p4), .val (.ref aMOODYS), .val (.int ((XT.ushr p3 (1 : Int32)) &&& (3 : Int32))), .val (.int qq), .val (.ref b12), .val (.ref b18), .val (.ref b26), .val (.ref b35), .val (.ref b44), .val (.int (if qq < p1 then (0 : Int32) else (1 : Int32))), .val (.int (if p1 < qq then (0 : Int32) else (1 : Int32))), .val (.int (if p1 < p1 then (0 : Int32) else (1 : Int32))), .val (.int (1 : Int32)), .val (.int (1 : Int32)), .val (.int (1 : Int32))] [(.int (1 : Int32))])) _
        exact retN X59 hx (t := .boolean) Bd.returns (by simp) (hb hby at_264) hr
      · show Q_law Z p1 p2 p3 p4 aMOODYS aSP G1 h0 n0 _ T59.heap _
        rw [e59]
        exact ⟨rfl, N59⟩
  · skip
    have pre_65 : ∀ t, Steps p.tables e below (s₁.setTop (mkF m 6 #[.val (.int p1), .val (.int p2), .val (.int p3), .val (.int p4), .unset, .unset, .unset, .unset, .unset, .unset, .unset, .unset, .unset, .unset, .unset, .unset, .unset, .unset] [])) t → Steps p.tables e below (s₁.setTop (entryFrame m #[(.int p1), (.int p2), (.int p3), (.int p4)] maxLocals)) t := by
      intro t k
      refine pre_1 t ?_
      show Steps p.tables e below (s₁.setTop (mkF m 3 #[.val (.int p1), .val (.int p2), .val (.int p3), .val (.int p4), .unset, .unset, .unset, .unset, .unset, .unset, .unset, .unset, .unset, .unset, .unset, .unset, .unset, .unset] [(.int (p3 &&& (1 : Int32)))])) _
      refine XS.ifNo X0.here hx rfl (hb hby at_3) rfl (XT.i0_eq_f hc2) ?_
      show Steps p.tables e below (s₁.setTop (mkF m 6 #[.val (.int p1), .val (.int p2), .val (.int p3), .val (.int p4), .unset, .unset, .unset, .unset, .unset, .unset, .unset, .unset, .unset, .unset, .unset, .unset, .unset, .unset] [])) _
      exact k
    obtain ⟨T66, X66, e66, st66⟩ := getS X0 hx hZ hown (host := "") (hw _ (List.mem_of_getElem? (i := 51) rfl)) Via.refl e0 (S_aSP.ext O0.2) (g := (mkF m 6 #[.val (.int p1), .val (.int p2), .val (.int p3), .val (.int p4), .unset, .unset, .unset, .unset, .unset, .unset, .unset, .unset, .unset, .unset, .unset, .unset, .unset, .unset] [])) rfl (hb hby at_6)
    have pre_67 : ∀ t, Steps p.tables e below (T66.setTop (mkF m 9 #[.val (.int p1), .val (.int p2), .val (.int p3), .val (.int p4), .unset, .unset, .unset, .unset, .unset, .unset, .unset, .unset, .unset, .unset, .unset, .unset, .unset, .unset] [(.ref aSP)])) t → Steps p.tables e below (s₁.setTop (entryFrame m #[(.int p1), (.int p2), (.int p3), (.int p4)] maxLocals)) t := fun t k => pre_65 t (st66 t k)
    have pre_68 : ∀ t, Steps p.tables e below (T66.setTop (mkF m 26 #[.val (.int p1), .val (.int p2), .val (.int p3), .val (.int p4), .val (.ref aSP), .val (.int ((XT.ushr p3 (1 : Int32)) &&& (3 : Int32))), .unset, .unset, .unset, .unset, .unset, .unset, .unset, .unset, .unset, .unset, .unset, .unset] [(.int ((XT.ushr p3 (1 : Int32)) &&& (3 : Int32)))])) t → Steps p.tables e below (s₁.setTop (entryFrame m #[(.int p1), (.int p2), (.int p3), (.int p4)] maxLocals)) t := by
      intro t k
      refine pre_67 t ?_
      show Steps p.tables e below (T66.setTop (mkF m 9 #[.val (.int p1), .val (.int p2), .val (.int p3), .val (.int p4), .unset, .unset, .unset, .unset, .unset, .unset, .unset, .unset, .unset, .unset, .unset, .unset, .unset, .unset] [(.ref aSP)])) _
      refine XS.goto X66.here hx rfl (pc0 := 9) (pc' := 15) rfl (hb hby at_9) (by decide) (by decide) ?_
      show Steps p.tables e below (T66.setTop (mkF m 15 #[.val (.int p1), .val (.int p2), .val (.int p3), .val (.int p4), .unset, .unset, .unset, .unset, .unset, .unset, .unset, .unset, .unset, .unset, .unset, .unset, .unset, .unset] [(.ref aSP)])) _
      refine XS.astore X66.here hx rfl (hb hby at_15) rfl rfl (l' := #[.val (.int p1), .val (.int p2), .val (.int p3), .val (.int p4), .val (.ref aSP), .unset, .unset, .unset, .unset, .unset, .unset, .unset, .unset, .unset, .unset, .unset, .unset, .unset]) rfl ?_
      show Steps p.tables e below (T66.setTop (mkF m 17 #[.val (.int p1), .val (.int p2), .val (.int p3), .val (.int p4), .val (.ref aSP), .unset, .unset, .unset, .unset, .unset, .unset, .unset, .unset, .unset, .unset, .unset, .unset, .unset] [])) _
      refine XS.iloadN X66.here hx rfl (hb hby at_17) rfl ?_
      show Steps p.tables e below (T66.setTop (mkF m 18 #[.val (.int p1), .val (.int p2), .val (.int p3), .val (.int p4), .val (.ref aSP), .unset, .unset, .unset, .unset, .unset, .unset, .unset, .unset, .unset, .unset, .unset, .unset, .unset] [(.int p3)])) _
      refine XS.iconst X66.here hx rfl (hb hby at_18) ?_
      show Steps p.tables e below (T66.setTop (mkF m 19 #[.val (.int p1), .val (.int p2), .val (.int p3), .val (.int p4), .val (.ref aSP), .unset, .unset, .unset, .unset, .unset, .unset, .unset, .unset, .unset, .unset, .unset, .unset, .unset] [(.int (1 : Int32)), (.int p3)])) _
      refine XT.iushr X66.here hx rfl (hb hby at_19) rfl ?_
      show Steps p.tables e below (T66.setTop (mkF m 20 #[.val (.int p1), .val (.int p2), .val (.int p3), .val (.int p4), .val (.ref aSP), .unset, .unset, .unset, .unset, .unset, .unset, .unset, .unset, .unset, .unset, .unset, .unset, .unset] [(.int (XT.ushr p3 (1 : Int32)))])) _
      refine XS.iconst X66.here hx rfl (hb hby at_20) ?_
      show Steps p.tables e below (T66.setTop (mkF m 21 #[.val (.int p1), .val (.int p2), .val (.int p3), .val (.int p4), .val (.ref aSP), .unset, .unset, .unset, .unset, .unset, .unset, .unset, .unset, .unset, .unset, .unset, .unset, .unset] [(.int (3 : Int32)), (.int (XT.ushr p3 (1 : Int32)))])) _
      refine XS.iand X66.here hx rfl (hb hby at_21) rfl ?_
      show Steps p.tables e below (T66.setTop (mkF m 22 #[.val (.int p1), .val (.int p2), .val (.int p3), .val (.int p4), .val (.ref aSP), .unset, .unset, .unset, .unset, .unset, .unset, .unset, .unset, .unset, .unset, .unset, .unset, .unset] [(.int ((XT.ushr p3 (1 : Int32)) &&& (3 : Int32)))])) _
      refine XS.istore X66.here hx rfl (hb hby at_22) rfl (l' := #[.val (.int p1), .val (.int p2), .val (.int p3), .val (.int p4), .val (.ref aSP), .val (.int ((XT.ushr p3 (1 : Int32)) &&& (3 : Int32))), .unset, .unset, .unset, .unset, .unset, .unset, .unset, .unset, .unset, .unset, .unset, .unset]) rfl ?_
      show Steps p.tables e below (T66.setTop (mkF m 24 #[.val (.int p1), .val (.int p2), .val (.int p3), .val (.int p4), .val (.ref aSP), .val (.int ((XT.ushr p3 (1 : Int32)) &&& (3 : Int32))), .unset, .unset, .unset, .unset, .unset, .unset, .unset, .unset, .unset, .unset, .unset, .unset] [])) _
      refine XS.iload X66.here hx rfl (hb hby at_24) rfl ?_
      show Steps p.tables e below (T66.setTop (mkF m 26 #[.val (.int p1), .val (.int p2), .val (.int p3), .val (.int p4), .val (.ref aSP), .val (.int ((XT.ushr p3 (1 : Int32)) &&& (3 : Int32))), .unset, .unset, .unset, .unset, .unset, .unset, .unset, .unset, .unset, .unset, .unset, .unset] [(.int ((XT.ushr p3 (1 : Int32)) &&& (3 : Int32)))])) _
      exact k
    have pre_72 : ∀ t, Steps p.tables e below (T66.setTop (mkF m 66 #[.val (.int p1), .val (.int p2), .val (.int p3), .val (.int p4), .val (.ref aSP), .val (.int ((XT.ushr p3 (1 : Int32)) &&& (3 : Int32))), .val (.int (if ((XT.ushr p3 (1 : Int32)) &&& (3 : Int32)) = (0 : Int32) then p2 else (if ((XT.ushr p3 (1 : Int32)) &&& (3 : Int32)) = (1 : Int32) then p1 else (if ((XT.ushr p3 (1 : Int32)) &&& (3 : Int32)) = (2 : Int32) then (p1 + (1 : Int32)) else (p1 - (1 : Int32)))))), .unset, .unset, .unset, .unset, .unset, .unset, .unset, .unset, .unset, .unset, .unset] [])) t → Steps p.tables e below (s₁.setTop (entryFrame m #[(.int p1), (.int p2), (.int p3), (.int p4)] maxLocals)) t := by
      intro t k
      refine pre_68 t ?_
      by_cases hm69 : ((XT.ushr p3 (1 : Int32)) &&& (3 : Int32)) = (0 : Int32)
      · skip
        show Steps p.tables e below (T66.setTop (mkF m 26 #[.val (.int p1), .val (.int p2), .val (.int p3), .val (.int p4), .val (.ref aSP), .val (.int ((XT.ushr p3 (1 : Int32)) &&& (3 : Int32))), .unset, .unset, .unset, .unset, .unset, .unset, .unset, .unset, .unset, .unset, .unset, .unset] [(.int ((XT.ushr p3 (1 : Int32)) &&& (3 : Int32)))])) _
        refine XS.ifNo X66.here hx rfl (hb hby at_26) rfl (XT.i0_ne_f hm69) ?_
        show Steps p.tables e below (T66.setTop (mkF m 29 #[.val (.int p1), .val (.int p2), .val (.int p3), .val (.int p4), .val (.ref aSP), .val (.int ((XT.ushr p3 (1 : Int32)) &&& (3 : Int32))), .unset, .unset, .unset, .unset, .unset, .unset, .unset, .unset, .unset, .unset, .unset, .unset] [])) _
        refine XS.iloadN X66.here hx rfl (hb hby at_29) rfl ?_
        show Steps p.tables e below (T66.setTop (mkF m 30 #[.val (.int p1), .val (.int p2), .val (.int p3), .val (.int p4), .val (.ref aSP), .val (.int ((XT.ushr p3 (1 : Int32)) &&& (3 : Int32))), .unset, .unset, .unset, .unset, .unset, .unset, .unset, .unset, .unset, .unset, .unset, .unset] [(.int p2)])) _
        refine XS.istore X66.here hx rfl (hb hby at_30) rfl (l' := #[.val (.int p1), .val (.int p2), .val (.int p3), .val (.int p4), .val (.ref aSP), .val (.int ((XT.ushr p3 (1 : Int32)) &&& (3 : Int32))), .val (.int p2), .unset, .unset, .unset, .unset, .unset, .unset, .unset, .unset, .unset, .unset, .unset]) rfl ?_
        show Steps p.tables e below (T66.setTop (mkF m 32 #[.val (.int p1), .val (.int p2), .val (.int p3), .val (.int p4), .val (.ref aSP), .val (.int ((XT.ushr p3 (1 : Int32)) &&& (3 : Int32))), .val (.int p2), .unset, .unset, .unset, .unset, .unset, .unset, .unset, .unset, .unset, .unset, .unset] [])) _
        refine XS.goto X66.here hx rfl (pc0 := 32) (pc' := 66) rfl (hb hby at_32) (by decide) (by decide) ?_
        show Steps p.tables e below (T66.setTop (mkF m 66 #[.val (.int p1), .val (.int p2), .val (.int p3), .val (.int p4), .val (.ref aSP), .val (.int ((XT.ushr p3 (1 : Int32)) &&& (3 : Int32))), .val (.int p2), .unset, .unset, .unset, .unset, .unset, .unset, .unset, .unset, .unset, .unset, .unset] [])) _
        first | exact k | (simp only [if_pos hm69] at k; exact k)
      · skip
        show Steps p.tables e below (T66.setTop (mkF m 26 #[.val (.int p1), .val (.int p2), .val (.int p3), .val (.int p4), .val (.ref aSP), .val (.int ((XT.ushr p3 (1 : Int32)) &&& (3 : Int32))), .unset, .unset, .unset, .unset, .unset, .unset, .unset, .unset, .unset, .unset, .unset, .unset] [(.int ((XT.ushr p3 (1 : Int32)) &&& (3 : Int32)))])) _
        refine XS.ifYes X66.here hx rfl (pc0 := 26) (pc' := 35) rfl (hb hby at_26) rfl (XT.i0_ne_t hm69) (by decide) (by decide) ?_
        show Steps p.tables e below (T66.setTop (mkF m 35 #[.val (.int p1), .val (.int p2), .val (.int p3), .val (.int p4), .val (.ref aSP), .val (.int ((XT.ushr p3 (1 : Int32)) &&& (3 : Int32))), .unset, .unset, .unset, .unset, .unset, .unset, .unset, .unset, .unset, .unset, .unset, .unset] [])) _
        refine XS.iload X66.here hx rfl (hb hby at_35) rfl ?_
        show Steps p.tables e below (T66.setTop (mkF m 37 #[.val (.int p1), .val (.int p2), .val (.int p3), .val (.int p4), .val (.ref aSP), .val (.int ((XT.ushr p3 (1 : Int32)) &&& (3 : Int32))), .unset, .unset, .unset, .unset, .unset, .unset, .unset, .unset, .unset, .unset, .unset, .unset] [(.int ((XT.ushr p3 (1 : Int32)) &&& (3 : Int32)))])) _
        refine XS.iconst X66.here hx rfl (hb hby at_37) ?_
        show Steps p.tables e below (T66.setTop (mkF m 38 #[.val (.int p1), .val (.int p2), .val (.int p3), .val (.int p4), .val (.ref aSP), .val (.int ((XT.ushr p3 (1 : Int32)) &&& (3 : Int32))), .unset, .unset, .unset, .unset, .unset, .unset, .unset, .unset, .unset, .unset, .unset, .unset] [(.int (1 : Int32)), (.int ((XT.ushr p3 (1 : Int32)) &&& (3 : Int32)))])) _
        by_cases hm70 : ((XT.ushr p3 (1 : Int32)) &&& (3 : Int32)) = (1 : Int32)
        · skip
          show Steps p.tables e below (T66.setTop (mkF m 38 #[.val (.int p1), .val (.int p2), .val (.int p3), .val (.int p4), .val (.ref aSP), .val (.int ((XT.ushr p3 (1 : Int32)) &&& (3 : Int32))), .unset, .unset, .unset, .unset, .unset, .unset, .unset, .unset, .unset, .unset, .unset, .unset] [(.int (1 : Int32)), (.int ((XT.ushr p3 (1 : Int32)) &&& (3 : Int32)))])) _
          refine XS.icmpNo X66.here hx rfl (hb hby at_38) rfl (XT.ii_ne_f hm70) ?_
          show Steps p.tables e below (T66.setTop (mkF m 41 #[.val (.int p1), .val (.int p2), .val (.int p3), .val (.int p4), .val (.ref aSP), .val (.int ((XT.ushr p3 (1 : Int32)) &&& (3 : Int32))), .unset, .unset, .unset, .unset, .unset, .unset, .unset, .unset, .unset, .unset, .unset, .unset] [])) _
          refine XS.iloadN X66.here hx rfl (hb hby at_41) rfl ?_
          show Steps p.tables e below (T66.setTop (mkF m 42 #[.val (.int p1), .val (.int p2), .val (.int p3), .val (.int p4), .val (.ref aSP), .val (.int ((XT.ushr p3 (1 : Int32)) &&& (3 : Int32))), .unset, .unset, .unset, .unset, .unset, .unset, .unset, .unset, .unset, .unset, .unset, .unset] [(.int p1)])) _
          refine XS.istore X66.here hx rfl (hb hby at_42) rfl (l' := #[.val (.int p1), .val (.int p2), .val (.int p3), .val (.int p4), .val (.ref aSP), .val (.int ((XT.ushr p3 (1 : Int32)) &&& (3 : Int32))), .val (.int p1), .unset, .unset, .unset, .unset, .unset, .unset, .unset, .unset, .unset, .unset, .unset]) rfl ?_
          show Steps p.tables e below (T66.setTop (mkF m 44 #[.val (.int p1), .val (.int p2), .val (.int p3), .val (.int p4), .val (.ref aSP), .val (.int ((XT.ushr p3 (1 : Int32)) &&& (3 : Int32))), .val (.int p1), .unset, .unset, .unset, .unset, .unset, .unset, .unset, .unset, .unset, .unset, .unset] [])) _
          refine XS.goto X66.here hx rfl (pc0 := 44) (pc' := 66) rfl (hb hby at_44) (by decide) (by decide) ?_
          show Steps p.tables e below (T66.setTop (mkF m 66 #[.val (.int p1), .val (.int p2), .val (.int p3), .val (.int p4), .val (.ref aSP), .val (.int ((XT.ushr p3 (1 : Int32)) &&& (3 : Int32))), .val (.int p1), .unset, .unset, .unset, .unset, .unset, .unset, .unset, .unset, .unset, .unset, .unset] [])) _
          first | exact k | (simp only [if_neg hm69, if_pos hm70] at k; exact k)
        · skip
          show Steps p.tables e below (T66.setTop (mkF m 38 #[.val (.int p1), .val (.int p2), .val (.int p3), .val (.int p4), .val (.ref aSP), .val (.int ((XT.ushr p3 (1 : Int32)) &&& (3 : Int32))), .unset, .unset, .unset, .unset, .unset, .unset, .unset, .unset, .unset, .unset, .unset, .unset] [(.int (1 : Int32)), (.int ((XT.ushr p3 (1 : Int32)) &&& (3 : Int32)))])) _
          refine XS.icmpYes X66.here hx rfl (pc0 := 38) (pc' := 47) rfl (hb hby at_38) rfl (XT.ii_ne_t hm70) (by decide) (by decide) ?_
          show Steps p.tables e below (T66.setTop (mkF m 47 #[.val (.int p1), .val (.int p2), .val (.int p3), .val (.int p4), .val (.ref aSP), .val (.int ((XT.ushr p3 (1 : Int32)) &&& (3 : Int32))), .unset, .unset, .unset, .unset, .unset, .unset, .unset, .unset, .unset, .unset, .unset, .unset] [])) _
          refine XS.iload X66.here hx rfl (hb hby at_47) rfl ?_
          show Steps p.tables e below (T66.setTop (mkF m 49 #[.val (.int p1), .val (.int p2), .val (.int p3), .val (.int p4), .val (.ref aSP), .val (.int ((XT.ushr p3 (1 : Int32)) &&& (3 : Int32))), .unset, .unset, .unset, .unset, .unset, .unset, .unset, .unset, .unset, .unset, .unset, .unset] [(.int ((XT.ushr p3 (1 : Int32)) &&& (3 : Int32)))])) _
          refine XS.iconst X66.here hx rfl (hb hby at_49) ?_
          show Steps p.tables e below (T66.setTop (mkF m 50 #[.val (.int p1), .val (.int p2), .val (.int p3), .val (.int p4), .val (.ref aSP), .val (.int ((XT.ushr p3 (1 : Int32)) &&& (3 : Int32))), .unset, .unset, .unset, .unset, .unset, .unset, .unset, .unset, .unset, .unset, .unset, .unset] [(.int (2 : Int32)), (.int ((XT.ushr p3 (1 : Int32)) &&& (3 : Int32)))])) _
          by_cases hm71 : ((XT.ushr p3 (1 : Int32)) &&& (3 : Int32)) = (2 : Int32)
          · skip
            show Steps p.tables e below (T66.setTop (mkF m 50 #[.val (.int p1), .val (.int p2), .val (.int p3), .val (.int p4), .val (.ref aSP), .val (.int ((XT.ushr p3 (1 : Int32)) &&& (3 : Int32))), .unset, .unset, .unset, .unset, .unset, .unset, .unset, .unset, .unset, .unset, .unset, .unset] [(.int (2 : Int32)), (.int ((XT.ushr p3 (1 : Int32)) &&& (3 : Int32)))])) _
            refine XS.icmpNo X66.here hx rfl (hb hby at_50) rfl (XT.ii_ne_f hm71) ?_
            show Steps p.tables e below (T66.setTop (mkF m 53 #[.val (.int p1), .val (.int p2), .val (.int p3), .val (.int p4), .val (.ref aSP), .val (.int ((XT.ushr p3 (1 : Int32)) &&& (3 : Int32))), .unset, .unset, .unset, .unset, .unset, .unset, .unset, .unset, .unset, .unset, .unset, .unset] [])) _
            refine XS.iloadN X66.here hx rfl (hb hby at_53) rfl ?_
            show Steps p.tables e below (T66.setTop (mkF m 54 #[.val (.int p1), .val (.int p2), .val (.int p3), .val (.int p4), .val (.ref aSP), .val (.int ((XT.ushr p3 (1 : Int32)) &&& (3 : Int32))), .unset, .unset, .unset, .unset, .unset, .unset, .unset, .unset, .unset, .unset, .unset, .unset] [(.int p1)])) _
            refine XS.iconst X66.here hx rfl (hb hby at_54) ?_
            show Steps p.tables e below (T66.setTop (mkF m 55 #[.val (.int p1), .val (.int p2), .val (.int p3), .val (.int p4), .val (.ref aSP), .val (.int ((XT.ushr p3 (1 : Int32)) &&& (3 : Int32))), .unset, .unset, .unset, .unset, .unset, .unset, .unset, .unset, .unset, .unset, .unset, .unset] [(.int (1 : Int32)), (.int p1)])) _
            refine XS.iadd X66.here hx rfl (hb hby at_55) rfl ?_
            show Steps p.tables e below (T66.setTop (mkF m 56 #[.val (.int p1), .val (.int p2), .val (.int p3), .val (.int p4), .val (.ref aSP), .val (.int ((XT.ushr p3 (1 : Int32)) &&& (3 : Int32))), .unset, .unset, .unset, .unset, .unset, .unset, .unset, .unset, .unset, .unset, .unset, .unset] [(.int (p1 + (1 : Int32)))])) _
            refine XS.istore X66.here hx rfl (hb hby at_56) rfl (l' := #[.val (.int p1), .val (.int p2), .val (.int p3), .val (.int p4), .val (.ref aSP), .val (.int ((XT.ushr p3 (1 : Int32)) &&& (3 : Int32))), .val (.int (p1 + (1 : Int32))), .unset, .unset, .unset, .unset, .unset, .unset, .unset, .unset, .unset, .unset, .unset]) rfl ?_
            show Steps p.tables e below (T66.setTop (mkF m 58 #[.val (.int p1), .val (.int p2), .val (.int p3), .val (.int p4), .val (.ref aSP), .val (.int ((XT.ushr p3 (1 : Int32)) &&& (3 : Int32))), .val (.int (p1 + (1 : Int32))), .unset, .unset, .unset, .unset, .unset, .unset, .unset, .unset, .unset, .unset, .unset] [])) _
            refine XS.goto X66.here hx rfl (pc0 := 58) (pc' := 66) rfl (hb hby at_58) (by decide) (by decide) ?_
            show Steps p.tables e below (T66.setTop (mkF m 66 #[.val (.int p1), .val (.int p2), .val (.int p3), .val (.int p4), .val (.ref aSP), .val (.int ((XT.ushr p3 (1 : Int32)) &&& (3 : Int32))), .val (.int (p1 + (1 : Int32))), .unset, .unset, .unset, .unset, .unset, .unset, .unset, .unset, .unset, .unset, .unset] [])) _
            first | exact k | (simp only [if_neg hm69, if_neg hm70, if_pos hm71] at k; exact k)
          · skip
            show Steps p.tables e below (T66.setTop (mkF m 50 #[.val (.int p1), .val (.int p2), .val (.int p3), .val (.int p4), .val (.ref aSP), .val (.int ((XT.ushr p3 (1 : Int32)) &&& (3 : Int32))), .unset, .unset, .unset, .unset, .unset, .unset, .unset, .unset, .unset, .unset, .unset, .unset] [(.int (2 : Int32)), (.int ((XT.ushr p3 (1 : Int32)) &&& (3 : Int32)))])) _
            refine XS.icmpYes X66.here hx rfl (pc0 := 50) (pc' := 61) rfl (hb hby at_50) rfl (XT.ii_ne_t hm71) (by decide) (by decide) ?_
            show Steps p.tables e below (T66.setTop (mkF m 61 #[.val (.int p1), .val (.int p2), .val (.int p3), .val (.int p4), .val (.ref aSP), .val (.int ((XT.ushr p3 (1 : Int32)) &&& (3 : Int32))), .unset, .unset, .unset, .unset, .unset, .unset, .unset, .unset, .unset, .unset, .unset, .unset] [])) _
            refine XS.iloadN X66.here hx rfl (hb hby at_61) rfl ?_
            show Steps p.tables e below (T66.setTop (mkF m 62 #[.val (.int p1), .val (.int p2), .val (.int p3), .val (.int p4), .val (.ref aSP), .val (.int ((XT.ushr p3 (1 : Int32)) &&& (3 : Int32))), .unset, .unset, .unset, .unset, .unset, .unset, .unset, .unset, .unset, .unset, .unset, .unset] [(.int p1)])) _
            refine XS.iconst X66.here hx rfl (hb hby at_62) ?_
            show Steps p.tables e below (T66.setTop (mkF m 63 #[.val (.int p1), .val (.int p2), .val (.int p3), .val (.int p4), .val (.ref aSP), .val (.int ((XT.ushr p3 (1 : Int32)) &&& (3 : Int32))), .unset, .unset, .unset, .unset, .unset, .unset, .unset, .unset, .unset, .unset, .unset, .unset] [(.int (1 : Int32)), (.int p1)])) _
            refine XS.isub X66.here hx rfl (hb hby at_63) rfl ?_
            show Steps p.tables e below (T66.setTop (mkF m 64 #[.val (.int p1), .val (.int p2), .val (.int p3), .val (.int p4), .val (.ref aSP), .val (.int ((XT.ushr p3 (1 : Int32)) &&& (3 : Int32))), .unset, .unset, .unset, .unset, .unset, .unset, .unset, .unset, .unset, .unset, .unset, .unset] [(.int (p1 - (1 : Int32)))])) _
            refine XS.istore X66.here hx rfl (hb hby at_64) rfl (l' := #[.val (.int p1), .val (.int p2), .val (.int p3), .val (.int p4), .val (.ref aSP), .val (.int ((XT.ushr p3 (1 : Int32)) &&& (3 : Int32))), .val (.int (p1 - (1 : Int32))), .unset, .unset, .unset, .unset, .unset, .unset, .unset, .unset, .unset, .unset, .unset]) rfl ?_
            show Steps p.tables e below (T66.setTop (mkF m 66 #[.val (.int p1), .val (.int p2), .val (.int p3), .val (.int p4), .val (.ref aSP), .val (.int ((XT.ushr p3 (1 : Int32)) &&& (3 : Int32))), .val (.int (p1 - (1 : Int32))), .unset, .unset, .unset, .unset, .unset, .unset, .unset, .unset, .unset, .unset, .unset] [])) _
            first | exact k | (simp only [if_neg hm69, if_neg hm70, if_neg hm71] at k; exact k)
    generalize (if ((XT.ushr p3 (1 : Int32)) &&& (3 : Int32)) = (0 : Int32) then p2 else (if ((XT.ushr p3 (1 : Int32)) &&& (3 : Int32)) = (1 : Int32) then p1 else (if ((XT.ushr p3 (1 : Int32)) &&& (3 : Int32)) = (2 : Int32) then (p1 + (1 : Int32)) else (p1 - (1 : Int32))))) = qq at pre_72
    have pre_73 : ∀ t, Steps p.tables e below (T66.setTop (mkF m 67 #[.val (.int p1), .val (.int p2), .val (.int p3), .val (.int p4), .val (.ref aSP), .val (.int ((XT.ushr p3 (1 : Int32)) &&& (3 : Int32))), .val (.int qq), .unset, .unset, .unset, .unset, .unset, .unset, .unset, .unset, .unset, .unset, .unset] [(.int (1 : Int32))])) t → Steps p.tables e below (s₁.setTop (entryFrame m #[(.int p1), (.int p2), (.int p3), (.int p4)] maxLocals)) t := by
      intro t k
      refine pre_72 t ?_
      show Steps p.tables e below (T66.setTop (mkF m 66 #[.val (.int p1), .val (.int p2), .val (.int p3), .val (.int p4), .val (.ref aSP), .val (.int ((XT.ushr p3 (1 : Int32)) &&& (3 : Int32))), .val (.int qq), .unset, .unset, .unset, .unset, .unset, .unset, .unset, .unset, .unset, .unset, .unset] [])) _
      refine XS.iconst X66.here hx rfl (hb hby at_66) ?_
      show Steps p.tables e below (T66.setTop (mkF m 67 #[.val (.int p1), .val (.int p2), .val (.int p3), .val (.int p4), .val (.ref aSP), .val (.int ((XT.ushr p3 (1 : Int32)) &&& (3 : Int32))), .val (.int qq), .unset, .unset, .unset, .unset, .unset, .unset, .unset, .unset, .unset, .unset, .unset] [(.int (1 : Int32))])) _
      exact k
    obtain ⟨T74, h74, cA74, X74, e74, E74, A74, st74⟩ := newP X66 hx hZ (hw _ (List.mem_of_getElem? (i := 3) rfl)) e66 (g := (mkF m 67 #[.val (.int p1), .val (.int p2), .val (.int p3), .val (.int p4), .val (.ref aSP), .val (.int ((XT.ushr p3 (1 : Int32)) &&& (3 : Int32))), .val (.int qq), .unset, .unset, .unset, .unset, .unset, .unset, .unset, .unset, .unset, .unset, .unset] [(.int (1 : Int32))])) rfl (hb hby at_67) rfl (by decide) (cap := 1) (by decide) (by decide) (by decide) (by decide)
    obtain ⟨b74, g74⟩ : ∃ z, z = h0.size := ⟨_, rfl⟩
    rw [← g74] at A74 st74
    have O74 : Old Z n0 h74 := O0.ext E74
    have V74 : Arv Z h74 b74 cA74 .char (1 : Int32) [(.int (0 : Int32))] (.int (0 : Int32)) := (Arv.new A74 (by decide)).pad (pad_rep [] _ 1)
    have pre_75 : ∀ t, Steps p.tables e below (T74.setTop (mkF m 69 #[.val (.int p1), .val (.int p2), .val (.int p3), .val (.int p4), .val (.ref aSP), .val (.int ((XT.ushr p3 (1 : Int32)) &&& (3 : Int32))), .val (.int qq), .unset, .unset, .unset, .unset, .unset, .unset, .unset, .unset, .unset, .unset, .unset] [(.ref b74)])) t → Steps p.tables e below (s₁.setTop (entryFrame m #[(.int p1), (.int p2), (.int p3), (.int p4)] maxLocals)) t := fun t k => pre_73 t (st74 t k)
    have pre_76 : ∀ t, Steps p.tables e below (T74.setTop (mkF m 77 #[.val (.int p1), .val (.int p2), .val (.int p3), .val (.int p4), .val (.ref aSP), .val (.int ((XT.ushr p3 (1 : Int32)) &&& (3 : Int32))), .val (.int qq), .unset, .unset, .unset, .unset, .unset, .unset, .unset, .unset, .unset, .unset, .unset] [(.int (((p4 &&& (255 : Int32))).toUInt32.toUInt16.toUInt32.toInt32)), (.int (0 : Int32)), (.ref b74), (.ref b74)])) t → Steps p.tables e below (s₁.setTop (entryFrame m #[(.int p1), (.int p2), (.int p3), (.int p4)] maxLocals)) t := by
      intro t k
      refine pre_75 t ?_
      show Steps p.tables e below (T74.setTop (mkF m 69 #[.val (.int p1), .val (.int p2), .val (.int p3), .val (.int p4), .val (.ref aSP), .val (.int ((XT.ushr p3 (1 : Int32)) &&& (3 : Int32))), .val (.int qq), .unset, .unset, .unset, .unset, .unset, .unset, .unset, .unset, .unset, .unset, .unset] [(.ref b74)])) _
      refine XS.dup X74.here hx rfl (hb hby at_69) rfl rfl ?_
      show Steps p.tables e below (T74.setTop (mkF m 70 #[.val (.int p1), .val (.int p2), .val (.int p3), .val (.int p4), .val (.ref aSP), .val (.int ((XT.ushr p3 (1 : Int32)) &&& (3 : Int32))), .val (.int qq), .unset, .unset, .unset, .unset, .unset, .unset, .unset, .unset, .unset, .unset, .unset] [(.ref b74), (.ref b74)])) _
      refine XS.iconst X74.here hx rfl (hb hby at_70) ?_
      show Steps p.tables e below (T74.setTop (mkF m 71 #[.val (.int p1), .val (.int p2), .val (.int p3), .val (.int p4), .val (.ref aSP), .val (.int ((XT.ushr p3 (1 : Int32)) &&& (3 : Int32))), .val (.int qq), .unset, .unset, .unset, .unset, .unset, .unset, .unset, .unset, .unset, .unset, .unset] [(.int (0 : Int32)), (.ref b74), (.ref b74)])) _
      refine XS.iloadN X74.here hx rfl (hb hby at_71) rfl ?_
      show Steps p.tables e below (T74.setTop (mkF m 72 #[.val (.int p1), .val (.int p2), .val (.int p3), .val (.int p4), .val (.ref aSP), .val (.int ((XT.ushr p3 (1 : Int32)) &&& (3 : Int32))), .val (.int qq), .unset, .unset, .unset, .unset, .unset, .unset, .unset, .unset, .unset, .unset, .unset] [(.int p4), (.int (0 : Int32)), (.ref b74), (.ref b74)])) _
      refine XS.sipush X74.here hx rfl (hb hby at_72) ?_
      show Steps p.tables e below (T74.setTop (mkF m 75 #[.val (.int p1), .val (.int p2), .val (.int p3), .val (.int p4), .val (.ref aSP), .val (.int ((XT.ushr p3 (1 : Int32)) &&& (3 : Int32))), .val (.int qq), .unset, .unset, .unset, .unset, .unset, .unset, .unset, .unset, .unset, .unset, .unset] [(.int (255 : Int32)), (.int p4), (.int (0 : Int32)), (.ref b74), (.ref b74)])) _
      refine XS.iand X74.here hx rfl (hb hby at_75) rfl ?_
      show Steps p.tables e below (T74.setTop (mkF m 76 #[.val (.int p1), .val (.int p2), .val (.int p3), .val (.int p4), .val (.ref aSP), .val (.int ((XT.ushr p3 (1 : Int32)) &&& (3 : Int32))), .val (.int qq), .unset, .unset, .unset, .unset, .unset, .unset, .unset, .unset, .unset, .unset, .unset] [(.int (p4 &&& (255 : Int32))), (.int (0 : Int32)), (.ref b74), (.ref b74)])) _
      refine XT.i2c X74.here hx rfl (hb hby at_76) rfl ?_
      show Steps p.tables e below (T74.setTop (mkF m 77 #[.val (.int p1), .val (.int p2), .val (.int p3), .val (.int p4), .val (.ref aSP), .val (.int ((XT.ushr p3 (1 : Int32)) &&& (3 : Int32))), .val (.int qq), .unset, .unset, .unset, .unset, .unset, .unset, .unset, .unset, .unset, .unset, .unset] [(.int (((p4 &&& (255 : Int32))).toUInt32.toUInt16.toUInt32.toInt32)), (.int (0 : Int32)), (.ref b74), (.ref b74)])) _
      exact k
    have hcc := own_c255 p4
    generalize (p4 &&& (255 : Int32)).toUInt32.toUInt16.toUInt32.toInt32 = cc at hcc pre_76
    obtain ⟨cl77, Ar77, q77, S77, M77, H77, G77⟩ := id V74
    obtain ⟨T77, h77, X77, e77, W77, st77⟩ := stC X74 hx hZ e74 Ar77 (j := (0 : Int32)) (inb_of S77 (by decide)) (g := (mkF m 77 #[.val (.int p1), .val (.int p2), .val (.int p3), .val (.int p4), .val (.ref aSP), .val (.int ((XT.ushr p3 (1 : Int32)) &&& (3 : Int32))), .val (.int qq), .unset, .unset, .unset, .unset, .unset, .unset, .unset, .unset, .unset, .unset, .unset] [(.int cc), (.int (0 : Int32)), (.ref b74), (.ref b74)])) rfl rfl (hb hby at_77)
    have N77 := Fr.snoc X77 N0 (Nat.le_trans (own_le O0) (Nat.le_of_eq g74.symm))
    have O77 : Old Z n0 h77 := O74.wr W77 (Nat.le_trans (own_le O0) (Nat.le_of_eq g74.symm))
    rw [hcc.1] at W77
    have V77 : Arv Z h77 b74 cA74 .char (1 : Int32) [(.int cc)] (.int (0 : Int32)) := Arv.set Ar77 q77 S77 M77 H77 G77 (by rw [← hcc.1]; exact (fits_nar_char _)) W77 0 rfl (Nat.le_of_ble_eq_true rfl)
    have pre_78 : ∀ t, Steps p.tables e below (T77.setTop (mkF m 78 #[.val (.int p1), .val (.int p2), .val (.int p3), .val (.int p4), .val (.ref aSP), .val (.int ((XT.ushr p3 (1 : Int32)) &&& (3 : Int32))), .val (.int qq), .unset, .unset, .unset, .unset, .unset, .unset, .unset, .unset, .unset, .unset, .unset] [(.ref b74)])) t → Steps p.tables e below (s₁.setTop (entryFrame m #[(.int p1), (.int p2), (.int p3), (.int p4)] maxLocals)) t := fun t k => pre_76 t (st77 t k)
    have pre_79 : ∀ t, Steps p.tables e below (T77.setTop (mkF m 80 #[.val (.int p1), .val (.int p2), .val (.int p3), .val (.int p4), .val (.ref aSP), .val (.int ((XT.ushr p3 (1 : Int32)) &&& (3 : Int32))), .val (.int qq), .val (.ref b74), .unset, .unset, .unset, .unset, .unset, .unset, .unset, .unset, .unset, .unset] [])) t → Steps p.tables e below (s₁.setTop (entryFrame m #[(.int p1), (.int p2), (.int p3), (.int p4)] maxLocals)) t := by
      intro t k
      refine pre_78 t ?_
      show Steps p.tables e below (T77.setTop (mkF m 78 #[.val (.int p1), .val (.int p2), .val (.int p3), .val (.int p4), .val (.ref aSP), .val (.int ((XT.ushr p3 (1 : Int32)) &&& (3 : Int32))), .val (.int qq), .unset, .unset, .unset, .unset, .unset, .unset, .unset, .unset, .unset, .unset, .unset] [(.ref b74)])) _
      refine XS.astore X77.here hx rfl (hb hby at_78) rfl rfl (l' := #[.val (.int p1), .val (.int p2), .val (.int p3), .val (.int p4), .val (.ref aSP), .val (.int ((XT.ushr p3 (1 : Int32)) &&& (3 : Int32))), .val (.int qq), .val (.ref b74), .unset, .unset, .unset, .unset, .unset, .unset, .unset, .unset, .unset, .unset]) rfl ?_
      show Steps p.tables e below (T77.setTop (mkF m 80 #[.val (.int p1), .val (.int p2), .val (.int p3), .val (.int p4), .val (.ref aSP), .val (.int ((XT.ushr p3 (1 : Int32)) &&& (3 : Int32))), .val (.int qq), .val (.ref b74), .unset, .unset, .unset, .unset, .unset, .unset, .unset, .unset, .unset, .unset] [])) _
      exact k
    obtain ⟨T80, h80, X80, e80, E80, A80, D80, -, st80⟩ := newO X77 hx hZ hown (hw _ (List.mem_of_getElem? (i := 4) rfl)) (hw _ (List.mem_of_getElem? (i := 5) rfl)) (hw _ (List.mem_of_getElem? (i := 6) rfl)) e77 (g := (mkF m 80 #[.val (.int p1), .val (.int p2), .val (.int p3), .val (.int p4), .val (.ref aSP), .val (.int ((XT.ushr p3 (1 : Int32)) &&& (3 : Int32))), .val (.int qq), .val (.ref b74), .unset, .unset, .unset, .unset, .unset, .unset, .unset, .unset, .unset, .unset] [])) rfl (hb hby at_80) (by decide) (by decide)
    obtain ⟨b80, g80⟩ : ∃ z, z = h77.size := ⟨_, rfl⟩
    rw [← g80] at A80 D80 st80
    have O80 : Old Z n0 h80 := O77.ext E80
    have F81 : Fld Z h80 b80 "java/lang/String" "coder" "B" (.int (0 : Int32)) := D80 (Or.inr (hw _ (List.mem_of_getElem? (i := 30) rfl))) (ty := .byte) (by decide)
    have F82 : Fld Z h80 b80 "java/lang/String" "value" "[B" .null := D80 (Or.inr (hw _ (List.mem_of_getElem? (i := 32) rfl))) (ty := (.array .byte)) (by decide)
    have pre_83 : ∀ t, Steps p.tables e below (T80.setTop (mkF m 83 #[.val (.int p1), .val (.int p2), .val (.int p3), .val (.int p4), .val (.ref aSP), .val (.int ((XT.ushr p3 (1 : Int32)) &&& (3 : Int32))), .val (.int qq), .val (.ref b74), .unset, .unset, .unset, .unset, .unset, .unset, .unset, .unset, .unset, .unset] [(.ref b80)])) t → Steps p.tables e below (s₁.setTop (entryFrame m #[(.int p1), (.int p2), (.int p3), (.int p4)] maxLocals)) t := fun t k => pre_79 t (st80 t k)
    have pre_84 : ∀ t, Steps p.tables e below (T80.setTop (mkF m 86 #[.val (.int p1), .val (.int p2), .val (.int p3), .val (.int p4), .val (.ref aSP), .val (.int ((XT.ushr p3 (1 : Int32)) &&& (3 : Int32))), .val (.int qq), .val (.ref b74), .unset, .unset, .unset, .unset, .unset, .unset, .unset, .unset, .unset, .unset] [(.ref b74), (.ref b80), (.ref b80)])) t → Steps p.tables e below (s₁.setTop (entryFrame m #[(.int p1), (.int p2), (.int p3), (.int p4)] maxLocals)) t := by
      intro t k
      refine pre_83 t ?_
      show Steps p.tables e below (T80.setTop (mkF m 83 #[.val (.int p1), .val (.int p2), .val (.int p3), .val (.int p4), .val (.ref aSP), .val (.int ((XT.ushr p3 (1 : Int32)) &&& (3 : Int32))), .val (.int qq), .val (.ref b74), .unset, .unset, .unset, .unset, .unset, .unset, .unset, .unset, .unset, .unset] [(.ref b80)])) _
      refine XS.dup X80.here hx rfl (hb hby at_83) rfl rfl ?_
      show Steps p.tables e below (T80.setTop (mkF m 84 #[.val (.int p1), .val (.int p2), .val (.int p3), .val (.int p4), .val (.ref aSP), .val (.int ((XT.ushr p3 (1 : Int32)) &&& (3 : Int32))), .val (.int qq), .val (.ref b74), .unset, .unset, .unset, .unset, .unset, .unset, .unset, .unset, .unset, .unset] [(.ref b80), (.ref b80)])) _
      refine XS.aload X80.here hx rfl (hb hby at_84) rfl rfl ?_
      show Steps p.tables e below (T80.setTop (mkF m 86 #[.val (.int p1), .val (.int p2), .val (.int p3), .val (.int p4), .val (.ref aSP), .val (.int ((XT.ushr p3 (1 : Int32)) &&& (3 : Int32))), .val (.int qq), .val (.ref b74), .unset, .unset, .unset, .unset, .unset, .unset, .unset, .unset, .unset, .unset] [(.ref b74), (.ref b80), (.ref b80)])) _
      exact k
    obtain ⟨_, _, ⟨T85, L85, k85, n85⟩, -, X85, ⟨Lc85, hQ85, l85, y85, z85⟩, st85⟩ := X80.specialBack hx (y := (⟨"java/lang/String", "<init>", "([C)V"⟩ : MethodName)) rfl hown (mvT hZ (hw _ (List.mem_of_getElem? (i := 7) rfl))) (mvT hZ (hw _ (List.mem_of_getElem? (i := 8) rfl))) (mvT hZ (hw _ (List.mem_of_getElem? (i := 9) rfl))) (by decide) (backOf (W := 1) (rm_str1 l Z a0 hw [] b80 b74 .null (.int (0 : Int32)) G1 cA74 cc h80 n0 O80 A80 F82 F81 (Nat.le_trans (own_le O77) (Nat.le_of_eq g80.symm)) SC hG (V77.ext E80) hcc.2) hZ (hw _ (List.mem_of_getElem? (i := 9) rfl)) (hw _ (List.mem_of_getElem? (i := 6) rfl)) (by decide) (by decide)) (g := (mkF m 86 #[.val (.int p1), .val (.int p2), .val (.int p3), .val (.int p4), .val (.ref aSP), .val (.int ((XT.ushr p3 (1 : Int32)) &&& (3 : Int32))), .val (.int qq), .val (.ref b74), .unset, .unset, .unset, .unset, .unset, .unset, .unset, .unset, .unset, .unset] [(.ref b74), (.ref b80), (.ref b80)])) rfl (by rw [hml]; rfl) (Steps.refl _) (a := b80) (argsL := [(.ref b74)]) (rest := [(.ref b80)]) (lenOf pd_law_0 rfl) rfl (by show 2 * 0 + _ ≤ _; exact Nat.le_of_eq rfl) (hb hby at_86) (fun _ _ => ⟨rfl, e80, (by decide : 2 + 1 ≤ _), (by decide : 5 + 1 ≤ _)⟩)
    dsimp only [Pt.U, Pt.locs, Pt.cells, Pt.slots] at X85 l85 y85 z85 st85 hQ85
    subst l85 y85 z85
    obtain ⟨rfl, N85q, K85, Fc85, b85, kB85, sb85, Fv85, Vb85⟩ := hQ85
    have N85 := Fr.app N77 N85q
    have O85 : Old Z n0 T85.heap := O80.keep K85 (allS (Nat.le_trans (own_le O77) (Nat.le_of_eq g80.symm)) all0)
    have pre_86 : ∀ t, Steps p.tables e below (T85.setTop (mkF m 89 #[.val (.int p1), .val (.int p2), .val (.int p3), .val (.int p4), .val (.ref aSP), .val (.int ((XT.ushr p3 (1 : Int32)) &&& (3 : Int32))), .val (.int qq), .val (.ref b74), .unset, .unset, .unset, .unset, .unset, .unset, .unset, .unset, .unset, .unset] [(.ref b80)])) t → Steps p.tables e below (s₁.setTop (entryFrame m #[(.int p1), (.int p2), (.int p3), (.int p4)] maxLocals)) t := fun t k => pre_84 t (st85.trans k)
    have pre_87 : ∀ t, Steps p.tables e below (T85.setTop (mkF m 91 #[.val (.int p1), .val (.int p2), .val (.int p3), .val (.int p4), .val (.ref aSP), .val (.int ((XT.ushr p3 (1 : Int32)) &&& (3 : Int32))), .val (.int qq), .val (.ref b74), .val (.ref b80), .unset, .unset, .unset, .unset, .unset, .unset, .unset, .unset, .unset] [])) t → Steps p.tables e below (s₁.setTop (entryFrame m #[(.int p1), (.int p2), (.int p3), (.int p4)] maxLocals)) t := by
      intro t k
      refine pre_86 t ?_
      show Steps p.tables e below (T85.setTop (mkF m 89 #[.val (.int p1), .val (.int p2), .val (.int p3), .val (.int p4), .val (.ref aSP), .val (.int ((XT.ushr p3 (1 : Int32)) &&& (3 : Int32))), .val (.int qq), .val (.ref b74), .unset, .unset, .unset, .unset, .unset, .unset, .unset, .unset, .unset, .unset] [(.ref b80)])) _
      refine XS.astore X85.here hx rfl (hb hby at_89) rfl rfl (l' := #[.val (.int p1), .val (.int p2), .val (.int p3), .val (.int p4), .val (.ref aSP), .val (.int ((XT.ushr p3 (1 : Int32)) &&& (3 : Int32))), .val (.int qq), .val (.ref b74), .val (.ref b80), .unset, .unset, .unset, .unset, .unset, .unset, .unset, .unset, .unset]) rfl ?_
      show Steps p.tables e below (T85.setTop (mkF m 91 #[.val (.int p1), .val (.int p2), .val (.int p3), .val (.int p4), .val (.ref aSP), .val (.int ((XT.ushr p3 (1 : Int32)) &&& (3 : Int32))), .val (.int qq), .val (.ref b74), .val (.ref b80), .unset, .unset, .unset, .unset, .unset, .unset, .unset, .unset, .unset] [])) _
      exact k
    obtain ⟨T88, h88, X88, e88, E88, A88, D88, -, st88⟩ := newO X85 hx hZ hown (hw _ (List.mem_of_getElem? (i := 33) rfl)) (hw _ (List.mem_of_getElem? (i := 34) rfl)) (hw _ (List.mem_of_getElem? (i := 35) rfl)) rfl (g := (mkF m 91 #[.val (.int p1), .val (.int p2), .val (.int p3), .val (.int p4), .val (.ref aSP), .val (.int ((XT.ushr p3 (1 : Int32)) &&& (3 : Int32))), .val (.int qq), .val (.ref b74), .val (.ref b80), .unset, .unset, .unset, .unset, .unset, .unset, .unset, .unset, .unset] [])) rfl (hb hby at_91) (by decide) (by decide)
    obtain ⟨b88, g88⟩ : ∃ z, z = T85.heap.size := ⟨_, rfl⟩
    rw [← g88] at A88 D88 st88
    have O88 : Old Z n0 h88 := O85.ext E88
    have F89 : Fld Z h88 b88 "com/example/tranche/tranche/Rating" "agency" "Lcom/example/tranche/tranche/RatingAgency;" .null := D88 (Or.inr (hw _ (List.mem_of_getElem? (i := 41) rfl))) (ty := (.object "com/example/tranche/tranche/RatingAgency")) (by decide)
    have F90 : Fld Z h88 b88 "com/example/tranche/tranche/Rating" "place" "I" (.int (0 : Int32)) := D88 (Or.inr (hw _ (List.mem_of_getElem? (i := 43) rfl))) (ty := .int) (by decide)
    have F91 : Fld Z h88 b88 "com/example/tranche/tranche/Rating" "text" "Ljava/lang/String;" .null := D88 (Or.inr (hw _ (List.mem_of_getElem? (i := 45) rfl))) (ty := (.object "java/lang/String")) (by decide)
    have pre_92 : ∀ t, Steps p.tables e below (T88.setTop (mkF m 94 #[.val (.int p1), .val (.int p2), .val (.int p3), .val (.int p4), .val (.ref aSP), .val (.int ((XT.ushr p3 (1 : Int32)) &&& (3 : Int32))), .val (.int qq), .val (.ref b74), .val (.ref b80), .unset, .unset, .unset, .unset, .unset, .unset, .unset, .unset, .unset] [(.ref b88)])) t → Steps p.tables e below (s₁.setTop (entryFrame m #[(.int p1), (.int p2), (.int p3), (.int p4)] maxLocals)) t := fun t k => pre_87 t (st88 t k)
    have pre_93 : ∀ t, Steps p.tables e below (T88.setTop (mkF m 100 #[.val (.int p1), .val (.int p2), .val (.int p3), .val (.int p4), .val (.ref aSP), .val (.int ((XT.ushr p3 (1 : Int32)) &&& (3 : Int32))), .val (.int qq), .val (.ref b74), .val (.ref b80), .unset, .unset, .unset, .unset, .unset, .unset, .unset, .unset, .unset] [(.ref b80), (.int p1), (.ref aSP), (.ref b88), (.ref b88)])) t → Steps p.tables e below (s₁.setTop (entryFrame m #[(.int p1), (.int p2), (.int p3), (.int p4)] maxLocals)) t := by
      intro t k
      refine pre_92 t ?_
      show Steps p.tables e below (T88.setTop (mkF m 94 #[.val (.int p1), .val (.int p2), .val (.int p3), .val (.int p4), .val (.ref aSP), .val (.int ((XT.ushr p3 (1 : Int32)) &&& (3 : Int32))), .val (.int qq), .val (.ref b74), .val (.ref b80), .unset, .unset, .unset, .unset, .unset, .unset, .unset, .unset, .unset] [(.ref b88)])) _
      refine XS.dup X88.here hx rfl (hb hby at_94) rfl rfl ?_
      show Steps p.tables e below (T88.setTop (mkF m 95 #[.val (.int p1), .val (.int p2), .val (.int p3), .val (.int p4), .val (.ref aSP), .val (.int ((XT.ushr p3 (1 : Int32)) &&& (3 : Int32))), .val (.int qq), .val (.ref b74), .val (.ref b80), .unset, .unset, .unset, .unset, .unset, .unset, .unset, .unset, .unset] [(.ref b88), (.ref b88)])) _
      refine XS.aload X88.here hx rfl (hb hby at_95) rfl rfl ?_
      show Steps p.tables e below (T88.setTop (mkF m 97 #[.val (.int p1), .val (.int p2), .val (.int p3), .val (.int p4), .val (.ref aSP), .val (.int ((XT.ushr p3 (1 : Int32)) &&& (3 : Int32))), .val (.int qq), .val (.ref b74), .val (.ref b80), .unset, .unset, .unset, .unset, .unset, .unset, .unset, .unset, .unset] [(.ref aSP), (.ref b88), (.ref b88)])) _
      refine XS.iloadN X88.here hx rfl (hb hby at_97) rfl ?_
      show Steps p.tables e below (T88.setTop (mkF m 98 #[.val (.int p1), .val (.int p2), .val (.int p3), .val (.int p4), .val (.ref aSP), .val (.int ((XT.ushr p3 (1 : Int32)) &&& (3 : Int32))), .val (.int qq), .val (.ref b74), .val (.ref b80), .unset, .unset, .unset, .unset, .unset, .unset, .unset, .unset, .unset] [(.int p1), (.ref aSP), (.ref b88), (.ref b88)])) _
      refine XS.aload X88.here hx rfl (hb hby at_98) rfl rfl ?_
      show Steps p.tables e below (T88.setTop (mkF m 100 #[.val (.int p1), .val (.int p2), .val (.int p3), .val (.int p4), .val (.ref aSP), .val (.int ((XT.ushr p3 (1 : Int32)) &&& (3 : Int32))), .val (.int qq), .val (.ref b74), .val (.ref b80), .unset, .unset, .unset, .unset, .unset, .unset, .unset, .unset, .unset] [(.ref b80), (.int p1), (.ref aSP), (.ref b88), (.ref b88)])) _
      exact k
    obtain ⟨_, _, ⟨T94, L94, k94, n94⟩, -, X94, ⟨Lc94, hQ94, l94, y94, z94⟩, st94⟩ := X88.specialBack hx (y := (⟨"com/example/tranche/tranche/Rating", "<init>", "(Lcom/example/tranche/tranche/RatingAgency;ILjava/lang/String;)V"⟩ : MethodName)) rfl hown (mvT hZ (hw _ (List.mem_of_getElem? (i := 36) rfl))) (mvT hZ (hw _ (List.mem_of_getElem? (i := 37) rfl))) (mvT hZ (hw _ (List.mem_of_getElem? (i := 38) rfl))) (by decide) (backOf (W := 1) (rm_ini l Z a0 hw [] b88 aSP p1 b80 .null (.int (0 : Int32)) .null h88 n0 O88 A88 F89 F90 F91 (Nat.le_trans (own_le O85) (Nat.le_of_eq g88.symm))) hZ (hw _ (List.mem_of_getElem? (i := 38) rfl)) (hw _ (List.mem_of_getElem? (i := 35) rfl)) (by decide) (by decide)) (g := (mkF m 100 #[.val (.int p1), .val (.int p2), .val (.int p3), .val (.int p4), .val (.ref aSP), .val (.int ((XT.ushr p3 (1 : Int32)) &&& (3 : Int32))), .val (.int qq), .val (.ref b74), .val (.ref b80), .unset, .unset, .unset, .unset, .unset, .unset, .unset, .unset, .unset] [(.ref b80), (.int p1), (.ref aSP), (.ref b88), (.ref b88)])) rfl (by rw [hml]; rfl) (Steps.refl _) (a := b88) (argsL := [(.ref aSP), (.int p1), (.ref b80)]) (rest := [(.ref b88)]) (lenOf pd_law_1 rfl) rfl (by show 2 * 0 + _ ≤ _; exact Nat.le_of_eq rfl) (hb hby at_100) (fun _ _ => ⟨rfl, e88, (by decide : 4 + 0 ≤ _), (by decide : 9 + 0 ≤ _)⟩)
    dsimp only [Pt.U, Pt.locs, Pt.cells, Pt.slots] at X94 l94 y94 z94 st94 hQ94
    subst l94 y94 z94
    obtain ⟨rfl, N94q, K94, Fp94⟩ := hQ94
    have N94 := Fr.app N85 N94q
    have O94 : Old Z n0 T94.heap := O88.keep K94 (allS (Nat.le_trans (own_le O85) (Nat.le_of_eq g88.symm)) all0)
    have pre_95 : ∀ t, Steps p.tables e below (T94.setTop (mkF m 103 #[.val (.int p1), .val (.int p2), .val (.int p3), .val (.int p4), .val (.ref aSP), .val (.int ((XT.ushr p3 (1 : Int32)) &&& (3 : Int32))), .val (.int qq), .val (.ref b74), .val (.ref b80), .unset, .unset, .unset, .unset, .unset, .unset, .unset, .unset, .unset] [(.ref b88)])) t → Steps p.tables e below (s₁.setTop (entryFrame m #[(.int p1), (.int p2), (.int p3), (.int p4)] maxLocals)) t := fun t k => pre_93 t (st94.trans k)
    have pre_96 : ∀ t, Steps p.tables e below (T94.setTop (mkF m 105 #[.val (.int p1), .val (.int p2), .val (.int p3), .val (.int p4), .val (.ref aSP), .val (.int ((XT.ushr p3 (1 : Int32)) &&& (3 : Int32))), .val (.int qq), .val (.ref b74), .val (.ref b80), .val (.ref b88), .unset, .unset, .unset, .unset, .unset, .unset, .unset, .unset] [])) t → Steps p.tables e below (s₁.setTop (entryFrame m #[(.int p1), (.int p2), (.int p3), (.int p4)] maxLocals)) t := by
      intro t k
      refine pre_95 t ?_
      show Steps p.tables e below (T94.setTop (mkF m 103 #[.val (.int p1), .val (.int p2), .val (.int p3), .val (.int p4), .val (.ref aSP), .val (.int ((XT.ushr p3 (1 : Int32)) &&& (3 : Int32))), .val (.int qq), .val (.ref b74), .val (.ref b80), .unset, .unset, .unset, .unset, .unset, .unset, .unset, .unset, .unset] [(.ref b88)])) _
      refine XS.astore X94.here hx rfl (hb hby at_103) rfl rfl (l' := #[.val (.int p1), .val (.int p2), .val (.int p3), .val (.int p4), .val (.ref aSP), .val (.int ((XT.ushr p3 (1 : Int32)) &&& (3 : Int32))), .val (.int qq), .val (.ref b74), .val (.ref b80), .val (.ref b88), .unset, .unset, .unset, .unset, .unset, .unset, .unset, .unset]) rfl ?_
      show Steps p.tables e below (T94.setTop (mkF m 105 #[.val (.int p1), .val (.int p2), .val (.int p3), .val (.int p4), .val (.ref aSP), .val (.int ((XT.ushr p3 (1 : Int32)) &&& (3 : Int32))), .val (.int qq), .val (.ref b74), .val (.ref b80), .val (.ref b88), .unset, .unset, .unset, .unset, .unset, .unset, .unset, .unset] [])) _
      exact k
    obtain ⟨T97, h97, X97, e97, E97, A97, D97, -, st97⟩ := newO X94 hx hZ hown (hw _ (List.mem_of_getElem? (i := 33) rfl)) (hw _ (List.mem_of_getElem? (i := 34) rfl)) (hw _ (List.mem_of_getElem? (i := 35) rfl)) rfl (g := (mkF m 105 #[.val (.int p1), .val (.int p2), .val (.int p3), .val (.int p4), .val (.ref aSP), .val (.int ((XT.ushr p3 (1 : Int32)) &&& (3 : Int32))), .val (.int qq), .val (.ref b74), .val (.ref b80), .val (.ref b88), .unset, .unset, .unset, .unset, .unset, .unset, .unset, .unset] [])) rfl (hb hby at_105) (by decide) (by decide)
    obtain ⟨b97, g97⟩ : ∃ z, z = T94.heap.size := ⟨_, rfl⟩
    rw [← g97] at A97 D97 st97
    have O97 : Old Z n0 h97 := O94.ext E97
    have F98 : Fld Z h97 b97 "com/example/tranche/tranche/Rating" "agency" "Lcom/example/tranche/tranche/RatingAgency;" .null := D97 (Or.inr (hw _ (List.mem_of_getElem? (i := 41) rfl))) (ty := (.object "com/example/tranche/tranche/RatingAgency")) (by decide)
    have F99 : Fld Z h97 b97 "com/example/tranche/tranche/Rating" "place" "I" (.int (0 : Int32)) := D97 (Or.inr (hw _ (List.mem_of_getElem? (i := 43) rfl))) (ty := .int) (by decide)
    have F100 : Fld Z h97 b97 "com/example/tranche/tranche/Rating" "text" "Ljava/lang/String;" .null := D97 (Or.inr (hw _ (List.mem_of_getElem? (i := 45) rfl))) (ty := (.object "java/lang/String")) (by decide)
    have pre_101 : ∀ t, Steps p.tables e below (T97.setTop (mkF m 108 #[.val (.int p1), .val (.int p2), .val (.int p3), .val (.int p4), .val (.ref aSP), .val (.int ((XT.ushr p3 (1 : Int32)) &&& (3 : Int32))), .val (.int qq), .val (.ref b74), .val (.ref b80), .val (.ref b88), .unset, .unset, .unset, .unset, .unset, .unset, .unset, .unset] [(.ref b97)])) t → Steps p.tables e below (s₁.setTop (entryFrame m #[(.int p1), (.int p2), (.int p3), (.int p4)] maxLocals)) t := fun t k => pre_96 t (st97 t k)
    have pre_102 : ∀ t, Steps p.tables e below (T97.setTop (mkF m 115 #[.val (.int p1), .val (.int p2), .val (.int p3), .val (.int p4), .val (.ref aSP), .val (.int ((XT.ushr p3 (1 : Int32)) &&& (3 : Int32))), .val (.int qq), .val (.ref b74), .val (.ref b80), .val (.ref b88), .unset, .unset, .unset, .unset, .unset, .unset, .unset, .unset] [(.ref b80), (.int qq), (.ref aSP), (.ref b97), (.ref b97)])) t → Steps p.tables e below (s₁.setTop (entryFrame m #[(.int p1), (.int p2), (.int p3), (.int p4)] maxLocals)) t := by
      intro t k
      refine pre_101 t ?_
      show Steps p.tables e below (T97.setTop (mkF m 108 #[.val (.int p1), .val (.int p2), .val (.int p3), .val (.int p4), .val (.ref aSP), .val (.int ((XT.ushr p3 (1 : Int32)) &&& (3 : Int32))), .val (.int qq), .val (.ref b74), .val (.ref b80), .val (.ref b88), .unset, .unset, .unset, .unset, .unset, .unset, .unset, .unset] [(.ref b97)])) _
      refine XS.dup X97.here hx rfl (hb hby at_108) rfl rfl ?_
      show Steps p.tables e below (T97.setTop (mkF m 109 #[.val (.int p1), .val (.int p2), .val (.int p3), .val (.int p4), .val (.ref aSP), .val (.int ((XT.ushr p3 (1 : Int32)) &&& (3 : Int32))), .val (.int qq), .val (.ref b74), .val (.ref b80), .val (.ref b88), .unset, .unset, .unset, .unset, .unset, .unset, .unset, .unset] [(.ref b97), (.ref b97)])) _
      refine XS.aload X97.here hx rfl (hb hby at_109) rfl rfl ?_
      show Steps p.tables e below (T97.setTop (mkF m 111 #[.val (.int p1), .val (.int p2), .val (.int p3), .val (.int p4), .val (.ref aSP), .val (.int ((XT.ushr p3 (1 : Int32)) &&& (3 : Int32))), .val (.int qq), .val (.ref b74), .val (.ref b80), .val (.ref b88), .unset, .unset, .unset, .unset, .unset, .unset, .unset, .unset] [(.ref aSP), (.ref b97), (.ref b97)])) _
      refine XS.iload X97.here hx rfl (hb hby at_111) rfl ?_
      show Steps p.tables e below (T97.setTop (mkF m 113 #[.val (.int p1), .val (.int p2), .val (.int p3), .val (.int p4), .val (.ref aSP), .val (.int ((XT.ushr p3 (1 : Int32)) &&& (3 : Int32))), .val (.int qq), .val (.ref b74), .val (.ref b80), .val (.ref b88), .unset, .unset, .unset, .unset, .unset, .unset, .unset, .unset] [(.int qq), (.ref aSP), (.ref b97), (.ref b97)])) _
      refine XS.aload X97.here hx rfl (hb hby at_113) rfl rfl ?_
      show Steps p.tables e below (T97.setTop (mkF m 115 #[.val (.int p1), .val (.int p2), .val (.int p3), .val (.int p4), .val (.ref aSP), .val (.int ((XT.ushr p3 (1 : Int32)) &&& (3 : Int32))), .val (.int qq), .val (.ref b74), .val (.ref b80), .val (.ref b88), .unset, .unset, .unset, .unset, .unset, .unset, .unset, .unset] [(.ref b80), (.int qq), (.ref aSP), (.ref b97), (.ref b97)])) _
      exact k
    obtain ⟨_, _, ⟨T103, L103, k103, n103⟩, -, X103, ⟨Lc103, hQ103, l103, y103, z103⟩, st103⟩ := X97.specialBack hx (y := (⟨"com/example/tranche/tranche/Rating", "<init>", "(Lcom/example/tranche/tranche/RatingAgency;ILjava/lang/String;)V"⟩ : MethodName)) rfl hown (mvT hZ (hw _ (List.mem_of_getElem? (i := 36) rfl))) (mvT hZ (hw _ (List.mem_of_getElem? (i := 37) rfl))) (mvT hZ (hw _ (List.mem_of_getElem? (i := 38) rfl))) (by decide) (backOf (W := 1) (rm_ini l Z a0 hw [] b97 aSP qq b80 .null (.int (0 : Int32)) .null h97 n0 O97 A97 F98 F99 F100 (Nat.le_trans (own_le O94) (Nat.le_of_eq g97.symm))) hZ (hw _ (List.mem_of_getElem? (i := 38) rfl)) (hw _ (List.mem_of_getElem? (i := 35) rfl)) (by decide) (by decide)) (g := (mkF m 115 #[.val (.int p1), .val (.int p2), .val (.int p3), .val (.int p4), .val (.ref aSP), .val (.int ((XT.ushr p3 (1 : Int32)) &&& (3 : Int32))), .val (.int qq), .val (.ref b74), .val (.ref b80), .val (.ref b88), .unset, .unset, .unset, .unset, .unset, .unset, .unset, .unset] [(.ref b80), (.int qq), (.ref aSP), (.ref b97), (.ref b97)])) rfl (by rw [hml]; rfl) (Steps.refl _) (a := b97) (argsL := [(.ref aSP), (.int qq), (.ref b80)]) (rest := [(.ref b97)]) (lenOf pd_law_1 rfl) rfl (by show 2 * 0 + _ ≤ _; exact Nat.le_of_eq rfl) (hb hby at_115) (fun _ _ => ⟨rfl, e97, (by decide : 5 + 0 ≤ _), (by decide : 12 + 0 ≤ _)⟩)
    dsimp only [Pt.U, Pt.locs, Pt.cells, Pt.slots] at X103 l103 y103 z103 st103 hQ103
    subst l103 y103 z103
    obtain ⟨rfl, N103q, K103, Fp103⟩ := hQ103
    have N103 := Fr.app N94 N103q
    have O103 : Old Z n0 T103.heap := O97.keep K103 (allS (Nat.le_trans (own_le O94) (Nat.le_of_eq g97.symm)) all0)
    have pre_104 : ∀ t, Steps p.tables e below (T103.setTop (mkF m 118 #[.val (.int p1), .val (.int p2), .val (.int p3), .val (.int p4), .val (.ref aSP), .val (.int ((XT.ushr p3 (1 : Int32)) &&& (3 : Int32))), .val (.int qq), .val (.ref b74), .val (.ref b80), .val (.ref b88), .unset, .unset, .unset, .unset, .unset, .unset, .unset, .unset] [(.ref b97)])) t → Steps p.tables e below (s₁.setTop (entryFrame m #[(.int p1), (.int p2), (.int p3), (.int p4)] maxLocals)) t := fun t k => pre_102 t (st103.trans k)
    have pre_105 : ∀ t, Steps p.tables e below (T103.setTop (mkF m 120 #[.val (.int p1), .val (.int p2), .val (.int p3), .val (.int p4), .val (.ref aSP), .val (.int ((XT.ushr p3 (1 : Int32)) &&& (3 : Int32))), .val (.int qq), .val (.ref b74), .val (.ref b80), .val (.ref b88), .val (.ref b97), .unset, .unset, .unset, .unset, .unset, .unset, .unset] [])) t → Steps p.tables e below (s₁.setTop (entryFrame m #[(.int p1), (.int p2), (.int p3), (.int p4)] maxLocals)) t := by
      intro t k
      refine pre_104 t ?_
      show Steps p.tables e below (T103.setTop (mkF m 118 #[.val (.int p1), .val (.int p2), .val (.int p3), .val (.int p4), .val (.ref aSP), .val (.int ((XT.ushr p3 (1 : Int32)) &&& (3 : Int32))), .val (.int qq), .val (.ref b74), .val (.ref b80), .val (.ref b88), .unset, .unset, .unset, .unset, .unset, .unset, .unset, .unset] [(.ref b97)])) _
      refine XS.astore X103.here hx rfl (hb hby at_118) rfl rfl (l' := #[.val (.int p1), .val (.int p2), .val (.int p3), .val (.int p4), .val (.ref aSP), .val (.int ((XT.ushr p3 (1 : Int32)) &&& (3 : Int32))), .val (.int qq), .val (.ref b74), .val (.ref b80), .val (.ref b88), .val (.ref b97), .unset, .unset, .unset, .unset, .unset, .unset, .unset]) rfl ?_
      show Steps p.tables e below (T103.setTop (mkF m 120 #[.val (.int p1), .val (.int p2), .val (.int p3), .val (.int p4), .val (.ref aSP), .val (.int ((XT.ushr p3 (1 : Int32)) &&& (3 : Int32))), .val (.int qq), .val (.ref b74), .val (.ref b80), .val (.ref b88), .val (.ref b97), .unset, .unset, .unset, .unset, .unset, .unset, .unset] [])) _
      exact k
    obtain ⟨T106, h106, X106, e106, E106, A106, D106, -, st106⟩ := newO X103 hx hZ hown (hw _ (List.mem_of_getElem? (i := 33) rfl)) (hw _ (List.mem_of_getElem? (i := 34) rfl)) (hw _ (List.mem_of_getElem? (i := 35) rfl)) rfl (g := (mkF m 120 #[.val (.int p1), .val (.int p2), .val (.int p3), .val (.int p4), .val (.ref aSP), .val (.int ((XT.ushr p3 (1 : Int32)) &&& (3 : Int32))), .val (.int qq), .val (.ref b74), .val (.ref b80), .val (.ref b88), .val (.ref b97), .unset, .unset, .unset, .unset, .unset, .unset, .unset] [])) rfl (hb hby at_120) (by decide) (by decide)
    obtain ⟨b106, g106⟩ : ∃ z, z = T103.heap.size := ⟨_, rfl⟩
    rw [← g106] at A106 D106 st106
    have O106 : Old Z n0 h106 := O103.ext E106
    have F107 : Fld Z h106 b106 "com/example/tranche/tranche/Rating" "agency" "Lcom/example/tranche/tranche/RatingAgency;" .null := D106 (Or.inr (hw _ (List.mem_of_getElem? (i := 41) rfl))) (ty := (.object "com/example/tranche/tranche/RatingAgency")) (by decide)
    have F108 : Fld Z h106 b106 "com/example/tranche/tranche/Rating" "place" "I" (.int (0 : Int32)) := D106 (Or.inr (hw _ (List.mem_of_getElem? (i := 43) rfl))) (ty := .int) (by decide)
    have F109 : Fld Z h106 b106 "com/example/tranche/tranche/Rating" "text" "Ljava/lang/String;" .null := D106 (Or.inr (hw _ (List.mem_of_getElem? (i := 45) rfl))) (ty := (.object "java/lang/String")) (by decide)
    have pre_110 : ∀ t, Steps p.tables e below (T106.setTop (mkF m 123 #[.val (.int p1), .val (.int p2), .val (.int p3), .val (.int p4), .val (.ref aSP), .val (.int ((XT.ushr p3 (1 : Int32)) &&& (3 : Int32))), .val (.int qq), .val (.ref b74), .val (.ref b80), .val (.ref b88), .val (.ref b97), .unset, .unset, .unset, .unset, .unset, .unset, .unset] [(.ref b106)])) t → Steps p.tables e below (s₁.setTop (entryFrame m #[(.int p1), (.int p2), (.int p3), (.int p4)] maxLocals)) t := fun t k => pre_105 t (st106 t k)
    have pre_111 : ∀ t, Steps p.tables e below (T106.setTop (mkF m 129 #[.val (.int p1), .val (.int p2), .val (.int p3), .val (.int p4), .val (.ref aSP), .val (.int ((XT.ushr p3 (1 : Int32)) &&& (3 : Int32))), .val (.int qq), .val (.ref b74), .val (.ref b80), .val (.ref b88), .val (.ref b97), .unset, .unset, .unset, .unset, .unset, .unset, .unset] [(.ref b80), (.int p1), (.ref aSP), (.ref b106), (.ref b106)])) t → Steps p.tables e below (s₁.setTop (entryFrame m #[(.int p1), (.int p2), (.int p3), (.int p4)] maxLocals)) t := by
      intro t k
      refine pre_110 t ?_
      show Steps p.tables e below (T106.setTop (mkF m 123 #[.val (.int p1), .val (.int p2), .val (.int p3), .val (.int p4), .val (.ref aSP), .val (.int ((XT.ushr p3 (1 : Int32)) &&& (3 : Int32))), .val (.int qq), .val (.ref b74), .val (.ref b80), .val (.ref b88), .val (.ref b97), .unset, .unset, .unset, .unset, .unset, .unset, .unset] [(.ref b106)])) _
      refine XS.dup X106.here hx rfl (hb hby at_123) rfl rfl ?_
      show Steps p.tables e below (T106.setTop (mkF m 124 #[.val (.int p1), .val (.int p2), .val (.int p3), .val (.int p4), .val (.ref aSP), .val (.int ((XT.ushr p3 (1 : Int32)) &&& (3 : Int32))), .val (.int qq), .val (.ref b74), .val (.ref b80), .val (.ref b88), .val (.ref b97), .unset, .unset, .unset, .unset, .unset, .unset, .unset] [(.ref b106), (.ref b106)])) _
      refine XS.aload X106.here hx rfl (hb hby at_124) rfl rfl ?_
      show Steps p.tables e below (T106.setTop (mkF m 126 #[.val (.int p1), .val (.int p2), .val (.int p3), .val (.int p4), .val (.ref aSP), .val (.int ((XT.ushr p3 (1 : Int32)) &&& (3 : Int32))), .val (.int qq), .val (.ref b74), .val (.ref b80), .val (.ref b88), .val (.ref b97), .unset, .unset, .unset, .unset, .unset, .unset, .unset] [(.ref aSP), (.ref b106), (.ref b106)])) _
      refine XS.iloadN X106.here hx rfl (hb hby at_126) rfl ?_
      show Steps p.tables e below (T106.setTop (mkF m 127 #[.val (.int p1), .val (.int p2), .val (.int p3), .val (.int p4), .val (.ref aSP), .val (.int ((XT.ushr p3 (1 : Int32)) &&& (3 : Int32))), .val (.int qq), .val (.ref b74), .val (.ref b80), .val (.ref b88), .val (.ref b97), .unset, .unset, .unset, .unset, .unset, .unset, .unset] [(.int p1), (.ref aSP), (.ref b106), (.ref b106)])) _
      refine XS.aload X106.here hx rfl (hb hby at_127) rfl rfl ?_
      show Steps p.tables e below (T106.setTop (mkF m 129 #[.val (.int p1), .val (.int p2), .val (.int p3), .val (.int p4), .val (.ref aSP), .val (.int ((XT.ushr p3 (1 : Int32)) &&& (3 : Int32))), .val (.int qq), .val (.ref b74), .val (.ref b80), .val (.ref b88), .val (.ref b97), .unset, .unset, .unset, .unset, .unset, .unset, .unset] [(.ref b80), (.int p1), (.ref aSP), (.ref b106), (.ref b106)])) _
      exact k
    obtain ⟨_, _, ⟨T112, L112, k112, n112⟩, -, X112, ⟨Lc112, hQ112, l112, y112, z112⟩, st112⟩ := X106.specialBack hx (y := (⟨"com/example/tranche/tranche/Rating", "<init>", "(Lcom/example/tranche/tranche/RatingAgency;ILjava/lang/String;)V"⟩ : MethodName)) rfl hown (mvT hZ (hw _ (List.mem_of_getElem? (i := 36) rfl))) (mvT hZ (hw _ (List.mem_of_getElem? (i := 37) rfl))) (mvT hZ (hw _ (List.mem_of_getElem? (i := 38) rfl))) (by decide) (backOf (W := 1) (rm_ini l Z a0 hw [] b106 aSP p1 b80 .null (.int (0 : Int32)) .null h106 n0 O106 A106 F107 F108 F109 (Nat.le_trans (own_le O103) (Nat.le_of_eq g106.symm))) hZ (hw _ (List.mem_of_getElem? (i := 38) rfl)) (hw _ (List.mem_of_getElem? (i := 35) rfl)) (by decide) (by decide)) (g := (mkF m 129 #[.val (.int p1), .val (.int p2), .val (.int p3), .val (.int p4), .val (.ref aSP), .val (.int ((XT.ushr p3 (1 : Int32)) &&& (3 : Int32))), .val (.int qq), .val (.ref b74), .val (.ref b80), .val (.ref b88), .val (.ref b97), .unset, .unset, .unset, .unset, .unset, .unset, .unset] [(.ref b80), (.int p1), (.ref aSP), (.ref b106), (.ref b106)])) rfl (by rw [hml]; rfl) (Steps.refl _) (a := b106) (argsL := [(.ref aSP), (.int p1), (.ref b80)]) (rest := [(.ref b106)]) (lenOf pd_law_1 rfl) rfl (by show 2 * 0 + _ ≤ _; exact Nat.le_of_eq rfl) (hb hby at_129) (fun _ _ => ⟨rfl, e106, (by decide : 6 + 0 ≤ _), (by decide : 15 + 0 ≤ _)⟩)
    dsimp only [Pt.U, Pt.locs, Pt.cells, Pt.slots] at X112 l112 y112 z112 st112 hQ112
    subst l112 y112 z112
    obtain ⟨rfl, N112q, K112, Fp112⟩ := hQ112
    have N112 := Fr.app N103 N112q
    have O112 : Old Z n0 T112.heap := O106.keep K112 (allS (Nat.le_trans (own_le O103) (Nat.le_of_eq g106.symm)) all0)
    have pre_113 : ∀ t, Steps p.tables e below (T112.setTop (mkF m 132 #[.val (.int p1), .val (.int p2), .val (.int p3), .val (.int p4), .val (.ref aSP), .val (.int ((XT.ushr p3 (1 : Int32)) &&& (3 : Int32))), .val (.int qq), .val (.ref b74), .val (.ref b80), .val (.ref b88), .val (.ref b97), .unset, .unset, .unset, .unset, .unset, .unset, .unset] [(.ref b106)])) t → Steps p.tables e below (s₁.setTop (entryFrame m #[(.int p1), (.int p2), (.int p3), (.int p4)] maxLocals)) t := fun t k => pre_111 t (st112.trans k)
    have pre_114 : ∀ t, Steps p.tables e below (T112.setTop (mkF m 138 #[.val (.int p1), .val (.int p2), .val (.int p3), .val (.int p4), .val (.ref aSP), .val (.int ((XT.ushr p3 (1 : Int32)) &&& (3 : Int32))), .val (.int qq), .val (.ref b74), .val (.ref b80), .val (.ref b88), .val (.ref b97), .val (.ref b106), .unset, .unset, .unset, .unset, .unset, .unset] [(.ref b97), (.ref b88)])) t → Steps p.tables e below (s₁.setTop (entryFrame m #[(.int p1), (.int p2), (.int p3), (.int p4)] maxLocals)) t := by
      intro t k
      refine pre_113 t ?_
      show Steps p.tables e below (T112.setTop (mkF m 132 #[.val (.int p1), .val (.int p2), .val (.int p3), .val (.int p4), .val (.ref aSP), .val (.int ((XT.ushr p3 (1 : Int32)) &&& (3 : Int32))), .val (.int qq), .val (.ref b74), .val (.ref b80), .val (.ref b88), .val (.ref b97), .unset, .unset, .unset, .unset, .unset, .unset, .unset] [(.ref b106)])) _
      refine XS.astore X112.here hx rfl (hb hby at_132) rfl rfl (l' := #[.val (.int p1), .val (.int p2), .val (.int p3), .val (.int p4), .val (.ref aSP), .val (.int ((XT.ushr p3 (1 : Int32)) &&& (3 : Int32))), .val (.int qq), .val (.ref b74), .val (.ref b80), .val (.ref b88), .val (.ref b97), .val (.ref b106), .unset, .unset, .unset, .unset, .unset, .unset]) rfl ?_
      show Steps p.tables e below (T112.setTop (mkF m 134 #[.val (.int p1), .val (.int p2), .val (.int p3), .val (.int p4), .val (.ref aSP), .val (.int ((XT.ushr p3 (1 : Int32)) &&& (3 : Int32))), .val (.int qq), .val (.ref b74), .val (.ref b80), .val (.ref b88), .val (.ref b97), .val (.ref b106), .unset, .unset, .unset, .unset, .unset, .unset] [])) _
      refine XS.aload X112.here hx rfl (hb hby at_134) rfl rfl ?_
      show Steps p.tables e below (T112.setTop (mkF m 136 #[.val (.int p1), .val (.int p2), .val (.int p3), .val (.int p4), .val (.ref aSP), .val (.int ((XT.ushr p3 (1 : Int32)) &&& (3 : Int32))), .val (.int qq), .val (.ref b74), .val (.ref b80), .val (.ref b88), .val (.ref b97), .val (.ref b106), .unset, .unset, .unset, .unset, .unset, .unset] [(.ref b88)])) _
      refine XS.aload X112.here hx rfl (hb hby at_136) rfl rfl ?_
      show Steps p.tables e below (T112.setTop (mkF m 138 #[.val (.int p1), .val (.int p2), .val (.int p3), .val (.int p4), .val (.ref aSP), .val (.int ((XT.ushr p3 (1 : Int32)) &&& (3 : Int32))), .val (.int qq), .val (.ref b74), .val (.ref b80), .val (.ref b88), .val (.ref b97), .val (.ref b106), .unset, .unset, .unset, .unset, .unset, .unset] [(.ref b97), (.ref b88)])) _
      exact k
    obtain ⟨cq115, kq115, qa115, qb115, qc115⟩ := isOf hZ rfl (((((A88.keep K94).ext E97).keep K103).ext E106).keep K112)
    obtain ⟨_, _, ⟨T115, L115, k115, n115⟩, -, X115, ⟨Lc115, hQ115, l115, y115, z115⟩, st115⟩ := X112.virtualBack hx (y := (⟨"com/example/tranche/tranche/Rating", "meetsOrBeats", "(Lcom/example/tranche/tranche/Rating;)Z"⟩ : MethodName)) (z := (⟨"com/example/tranche/tranche/Rating", "meetsOrBeats", "(Lcom/example/tranche/tranche/Rating;)Z"⟩ : MethodName)) hown (mvT hZ (hw _ (List.mem_of_getElem? (i := 46) rfl))) (mvT hZ (hw _ (List.mem_of_getElem? (i := 47) rfl))) (notFace_of_selects (args := #[]) (mvT hZ (hw _ (List.mem_of_getElem? (i := 49) rfl)))) (mvT hZ (hw _ (List.mem_of_getElem? (i := 49) rfl))) (mvT hZ (hw _ (List.mem_of_getElem? (i := 48) rfl))) (by decide) (backOf (W := 0) (rm_mb l Z a0 hw [] b88 b97 p1 qq T112.heap n0 O112 ((((Fp94.ext E97).keep K103 (ninS (Nat.ne_of_lt (Nat.lt_of_lt_of_le (A88.keep K94).lt (Nat.le_of_eq g97.symm))) nin0)).ext E106).keep K112 (ninS (Nat.ne_of_lt (Nat.lt_of_lt_of_le (((A88.keep K94).ext E97).keep K103).lt (Nat.le_of_eq g106.symm))) nin0)) ((Fp103.ext E106).keep K112 (ninS (Nat.ne_of_lt (Nat.lt_of_lt_of_le (A97.keep K103).lt (Nat.le_of_eq g106.symm))) nin0))) hZ (hw _ (List.mem_of_getElem? (i := 50) rfl)) (hw _ (List.mem_of_getElem? (i := 35) rfl)) (by decide) (by decide)) qa115 qc115 (g := (mkF m 138 #[.val (.int p1), .val (.int p2), .val (.int p3), .val (.int p4), .val (.ref aSP), .val (.int ((XT.ushr p3 (1 : Int32)) &&& (3 : Int32))), .val (.int qq), .val (.ref b74), .val (.ref b80), .val (.ref b88), .val (.ref b97), .val (.ref b106), .unset, .unset, .unset, .unset, .unset, .unset] [(.ref b97), (.ref b88)])) rfl (by rw [hml]; rfl) (Steps.refl _) (argsL := [(.ref b97)]) (rest := []) (lenOf pd_law_2 rfl) rfl (by show 2 * 0 + _ ≤ _; exact Nat.le_of_eq rfl) (hb hby at_138) (fun _ _ => ⟨rfl, rfl, (by decide : 6 + 0 ≤ _), (by decide : 15 + 0 ≤ _)⟩)
    dsimp only [Pt.U, Pt.locs, Pt.cells, Pt.slots] at X115 l115 y115 z115 st115 hQ115
    subst l115 y115 z115
    obtain ⟨rfl, N115q, e115⟩ := hQ115
    have N115 := Fr.app N112 N115q
    have pre_116 : ∀ t, Steps p.tables e below (T115.setTop (mkF m 141 #[.val (.int p1), .val (.int p2), .val (.int p3), .val (.int p4), .val (.ref aSP), .val (.int ((XT.ushr p3 (1 : Int32)) &&& (3 : Int32))), .val (.int qq), .val (.ref b74), .val (.ref b80), .val (.ref b88), .val (.ref b97), .val (.ref b106), .unset, .unset, .unset, .unset, .unset, .unset] [(.int (if qq < p1 then (0 : Int32) else (1 : Int32)))])) t → Steps p.tables e below (s₁.setTop (entryFrame m #[(.int p1), (.int p2), (.int p3), (.int p4)] maxLocals)) t := fun t k => pre_114 t (st115.trans k)
    have pre_117 : ∀ t, Steps p.tables e below (T115.setTop (mkF m 147 #[.val (.int p1), .val (.int p2), .val (.int p3), .val (.int p4), .val (.ref aSP), .val (.int ((XT.ushr p3 (1 : Int32)) &&& (3 : Int32))), .val (.int qq), .val (.ref b74), .val (.ref b80), .val (.ref b88), .val (.ref b97), .val (.ref b106), .val (.int (if qq < p1 then (0 : Int32) else (1 : Int32))), .unset, .unset, .unset, .unset, .unset] [(.ref b88), (.ref b97)])) t → Steps p.tables e below (s₁.setTop (entryFrame m #[(.int p1), (.int p2), (.int p3), (.int p4)] maxLocals)) t := by
      intro t k
      refine pre_116 t ?_
      show Steps p.tables e below (T115.setTop (mkF m 141 #[.val (.int p1), .val (.int p2), .val (.int p3), .val (.int p4), .val (.ref aSP), .val (.int ((XT.ushr p3 (1 : Int32)) &&& (3 : Int32))), .val (.int qq), .val (.ref b74), .val (.ref b80), .val (.ref b88), .val (.ref b97), .val (.ref b106), .unset, .unset, .unset, .unset, .unset, .unset] [(.int (if qq < p1 then (0 : Int32) else (1 : Int32)))])) _
      refine XS.istore X115.here hx rfl (hb hby at_141) rfl (l' := #[.val (.int p1), .val (.int p2), .val (.int p3), .val (.int p4), .val (.ref aSP), .val (.int ((XT.ushr p3 (1 : Int32)) &&& (3 : Int32))), .val (.int qq), .val (.ref b74), .val (.ref b80), .val (.ref b88), .val (.ref b97), .val (.ref b106), .val (.int (if qq < p1 then (0 : Int32) else (1 : Int32))), .unset, .unset, .unset, .unset, .unset]) rfl ?_
      show Steps p.tables e below (T115.setTop (mkF m 143 #[.val (.int p1), .val (.int p2), .val (.int p3), .val (.int p4), .val (.ref aSP), .val (.int ((XT.ushr p3 (1 : Int32)) &&& (3 : Int32))), .val (.int qq), .val (.ref b74), .val (.ref b80), .val (.ref b88), .val (.ref b97), .val (.ref b106), .val (.int (if qq < p1 then (0 : Int32) else (1 : Int32))), .unset, .unset, .unset, .unset, .unset] [])) _
      refine XS.aload X115.here hx rfl (hb hby at_143) rfl rfl ?_
      show Steps p.tables e below (T115.setTop (mkF m 145 #[.val (.int p1), .val (.int p2), .val (.int p3), .val (.int p4), .val (.ref aSP), .val (.int ((XT.ushr p3 (1 : Int32)) &&& (3 : Int32))), .val (.int qq), .val (.ref b74), .val (.ref b80), .val (.ref b88), .val (.ref b97), .val (.ref b106), .val (.int (if qq < p1 then (0 : Int32) else (1 : Int32))), .unset, .unset, .unset, .unset, .unset] [(.ref b97)])) _
      refine XS.aload X115.here hx rfl (hb hby at_145) rfl rfl ?_
      show Steps p.tables e below (T115.setTop (mkF m 147 #[.val (.int p1), .val (.int p2), .val (.int p3), .val (.int p4), .val (.ref aSP), .val (.int ((XT.ushr p3 (1 : Int32)) &&& (3 : Int32))), .val (.int qq), .val (.ref b74), .val (.ref b80), .val (.ref b88), .val (.ref b97), .val (.ref b106), .val (.int (if qq < p1 then (0 : Int32) else (1 : Int32))), .unset, .unset, .unset, .unset, .unset] [(.ref b88), (.ref b97)])) _
      exact k
    obtain ⟨cq118, kq118, qa118, qb118, qc118⟩ := isOf hZ e115 (((A97.keep K103).ext E106).keep K112)
    obtain ⟨_, _, ⟨T118, L118, k118, n118⟩, -, X118, ⟨Lc118, hQ118, l118, y118, z118⟩, st118⟩ := X115.virtualBack hx (y := (⟨"com/example/tranche/tranche/Rating", "meetsOrBeats", "(Lcom/example/tranche/tranche/Rating;)Z"⟩ : MethodName)) (z := (⟨"com/example/tranche/tranche/Rating", "meetsOrBeats", "(Lcom/example/tranche/tranche/Rating;)Z"⟩ : MethodName)) hown (mvT hZ (hw _ (List.mem_of_getElem? (i := 46) rfl))) (mvT hZ (hw _ (List.mem_of_getElem? (i := 47) rfl))) (notFace_of_selects (args := #[]) (mvT hZ (hw _ (List.mem_of_getElem? (i := 49) rfl)))) (mvT hZ (hw _ (List.mem_of_getElem? (i := 49) rfl))) (mvT hZ (hw _ (List.mem_of_getElem? (i := 48) rfl))) (by decide) (backOf (W := 0) (rm_mb l Z a0 hw [] b97 b88 qq p1 T112.heap n0 O112 ((Fp103.ext E106).keep K112 (ninS (Nat.ne_of_lt (Nat.lt_of_lt_of_le (A97.keep K103).lt (Nat.le_of_eq g106.symm))) nin0)) ((((Fp94.ext E97).keep K103 (ninS (Nat.ne_of_lt (Nat.lt_of_lt_of_le (A88.keep K94).lt (Nat.le_of_eq g97.symm))) nin0)).ext E106).keep K112 (ninS (Nat.ne_of_lt (Nat.lt_of_lt_of_le (((A88.keep K94).ext E97).keep K103).lt (Nat.le_of_eq g106.symm))) nin0))) hZ (hw _ (List.mem_of_getElem? (i := 50) rfl)) (hw _ (List.mem_of_getElem? (i := 35) rfl)) (by decide) (by decide)) qa118 qc118 (g := (mkF m 147 #[.val (.int p1), .val (.int p2), .val (.int p3), .val (.int p4), .val (.ref aSP), .val (.int ((XT.ushr p3 (1 : Int32)) &&& (3 : Int32))), .val (.int qq), .val (.ref b74), .val (.ref b80), .val (.ref b88), .val (.ref b97), .val (.ref b106), .val (.int (if qq < p1 then (0 : Int32) else (1 : Int32))), .unset, .unset, .unset, .unset, .unset] [(.ref b88), (.ref b97)])) rfl (by rw [hml]; rfl) (Steps.refl _) (argsL := [(.ref b88)]) (rest := []) (lenOf pd_law_2 rfl) rfl (by show 2 * 0 + _ ≤ _; exact Nat.le_of_eq rfl) (hb hby at_147) (fun _ _ => ⟨rfl, e115, (by decide : 6 + 0 ≤ _), (by decide : 15 + 0 ≤ _)⟩)
    dsimp only [Pt.U, Pt.locs, Pt.cells, Pt.slots] at X118 l118 y118 z118 st118 hQ118
    subst l118 y118 z118
    obtain ⟨rfl, N118q, e118⟩ := hQ118
    have N118 := Fr.app N115 N118q
    have pre_119 : ∀ t, Steps p.tables e below (T118.setTop (mkF m 150 #[.val (.int p1), .val (.int p2), .val (.int p3), .val (.int p4), .val (.ref aSP), .val (.int ((XT.ushr p3 (1 : Int32)) &&& (3 : Int32))), .val (.int qq), .val (.ref b74), .val (.ref b80), .val (.ref b88), .val (.ref b97), .val (.ref b106), .val (.int (if qq < p1 then (0 : Int32) else (1 : Int32))), .unset, .unset, .unset, .unset, .unset] [(.int (if p1 < qq then (0 : Int32) else (1 : Int32)))])) t → Steps p.tables e below (s₁.setTop (entryFrame m #[(.int p1), (.int p2), (.int p3), (.int p4)] maxLocals)) t := fun t k => pre_117 t (st118.trans k)
    have pre_120 : ∀ t, Steps p.tables e below (T118.setTop (mkF m 156 #[.val (.int p1), .val (.int p2), .val (.int p3), .val (.int p4), .val (.ref aSP), .val (.int ((XT.ushr p3 (1 : Int32)) &&& (3 : Int32))), .val (.int qq), .val (.ref b74), .val (.ref b80), .val (.ref b88), .val (.ref b97), .val (.ref b106), .val (.int (if qq < p1 then (0 : Int32) else (1 : Int32))), .val (.int (if p1 < qq then (0 : Int32) else (1 : Int32))), .unset, .unset, .unset, .unset] [(.ref b106), (.ref b88)])) t → Steps p.tables e below (s₁.setTop (entryFrame m #[(.int p1), (.int p2), (.int p3), (.int p4)] maxLocals)) t := by
      intro t k
      refine pre_119 t ?_
      show Steps p.tables e below (T118.setTop (mkF m 150 #[.val (.int p1), .val (.int p2), .val (.int p3), .val (.int p4), .val (.ref aSP), .val (.int ((XT.ushr p3 (1 : Int32)) &&& (3 : Int32))), .val (.int qq), .val (.ref b74), .val (.ref b80), .val (.ref b88), .val (.ref b97), .val (.ref b106), .val (.int (if qq < p1 then (0 : Int32) else (1 : Int32))), .unset, .unset, .unset, .unset, .unset] [(.int (if p1 < qq then (0 : Int32) else (1 : Int32)))])) _
      refine XS.istore X118.here hx rfl (hb hby at_150) rfl (l' := #[.val (.int p1), .val (.int p2), .val (.int p3), .val (.int p4), .val (.ref aSP), .val (.int ((XT.ushr p3 (1 : Int32)) &&& (3 : Int32))), .val (.int qq), .val (.ref b74), .val (.ref b80), .val (.ref b88), .val (.ref b97), .val (.ref b106), .val (.int (if qq < p1 then (0 : Int32) else (1 : Int32))), .val (.int (if p1 < qq then (0 : Int32) else (1 : Int32))), .unset, .unset, .unset, .unset]) rfl ?_
      show Steps p.tables e below (T118.setTop (mkF m 152 #[.val (.int p1), .val (.int p2), .val (.int p3), .val (.int p4), .val (.ref aSP), .val (.int ((XT.ushr p3 (1 : Int32)) &&& (3 : Int32))), .val (.int qq), .val (.ref b74), .val (.ref b80), .val (.ref b88), .val (.ref b97), .val (.ref b106), .val (.int (if qq < p1 then (0 : Int32) else (1 : Int32))), .val (.int (if p1 < qq then (0 : Int32) else (1 : Int32))), .unset, .unset, .unset, .unset] [])) _
      refine XS.aload X118.here hx rfl (hb hby at_152) rfl rfl ?_
      show Steps p.tables e below (T118.setTop (mkF m 154 #[.val (.int p1), .val (.int p2), .val (.int p3), .val (.int p4), .val (.ref aSP), .val (.int ((XT.ushr p3 (1 : Int32)) &&& (3 : Int32))), .val (.int qq), .val (.ref b74), .val (.ref b80), .val (.ref b88), .val (.ref b97), .val (.ref b106), .val (.int (if qq < p1 then (0 : Int32) else (1 : Int32))), .val (.int (if p1 < qq then (0 : Int32) else (1 : Int32))), .unset, .unset, .unset, .unset] [(.ref b88)])) _
      refine XS.aload X118.here hx rfl (hb hby at_154) rfl rfl ?_
      show Steps p.tables e below (T118.setTop (mkF m 156 #[.val (.int p1), .val (.int p2), .val (.int p3), .val (.int p4), .val (.ref aSP), .val (.int ((XT.ushr p3 (1 : Int32)) &&& (3 : Int32))), .val (.int qq), .val (.ref b74), .val (.ref b80), .val (.ref b88), .val (.ref b97), .val (.ref b106), .val (.int (if qq < p1 then (0 : Int32) else (1 : Int32))), .val (.int (if p1 < qq then (0 : Int32) else (1 : Int32))), .unset, .unset, .unset, .unset] [(.ref b106), (.ref b88)])) _
      exact k
    obtain ⟨cq121, kq121, qa121, qb121, qc121⟩ := isOf hZ e118 (((((A88.keep K94).ext E97).keep K103).ext E106).keep K112)
    obtain ⟨_, _, ⟨T121, L121, k121, n121⟩, -, X121, ⟨Lc121, hQ121, l121, y121, z121⟩, st121⟩ := X118.virtualBack hx (y := (⟨"com/example/tranche/tranche/Rating", "meetsOrBeats", "(Lcom/example/tranche/tranche/Rating;)Z"⟩ : MethodName)) (z := (⟨"com/example/tranche/tranche/Rating", "meetsOrBeats", "(Lcom/example/tranche/tranche/Rating;)Z"⟩ : MethodName)) hown (mvT hZ (hw _ (List.mem_of_getElem? (i := 46) rfl))) (mvT hZ (hw _ (List.mem_of_getElem? (i := 47) rfl))) (notFace_of_selects (args := #[]) (mvT hZ (hw _ (List.mem_of_getElem? (i := 49) rfl)))) (mvT hZ (hw _ (List.mem_of_getElem? (i := 49) rfl))) (mvT hZ (hw _ (List.mem_of_getElem? (i := 48) rfl))) (by decide) (backOf (W := 0) (rm_mb l Z a0 hw [] b88 b106 p1 p1 T112.heap n0 O112 ((((Fp94.ext E97).keep K103 (ninS (Nat.ne_of_lt (Nat.lt_of_lt_of_le (A88.keep K94).lt (Nat.le_of_eq g97.symm))) nin0)).ext E106).keep K112 (ninS (Nat.ne_of_lt (Nat.lt_of_lt_of_le (((A88.keep K94).ext E97).keep K103).lt (Nat.le_of_eq g106.symm))) nin0)) Fp112) hZ (hw _ (List.mem_of_getElem? (i := 50) rfl)) (hw _ (List.mem_of_getElem? (i := 35) rfl)) (by decide) (by decide)) qa121 qc121 (g := (mkF m 156 #[.val (.int p1), .val (.int p2), .val (.int p3), .val (.int p4), .val (.ref aSP), .val (.int ((XT.ushr p3 (1 : Int32)) &&& (3 : Int32))), .val (.int qq), .val (.ref b74), .val (.ref b80), .val (.ref b88), .val (.ref b97), .val (.ref b106), .val (.int (if qq < p1 then (0 : Int32) else (1 : Int32))), .val (.int (if p1 < qq then (0 : Int32) else (1 : Int32))), .unset, .unset, .unset, .unset] [(.ref b106), (.ref b88)])) rfl (by rw [hml]; rfl) (Steps.refl _) (argsL := [(.ref b106)]) (rest := []) (lenOf pd_law_2 rfl) rfl (by show 2 * 0 + _ ≤ _; exact Nat.le_of_eq rfl) (hb hby at_156) (fun _ _ => ⟨rfl, e118, (by decide : 6 + 0 ≤ _), (by decide : 15 + 0 ≤ _)⟩)
    dsimp only [Pt.U, Pt.locs, Pt.cells, Pt.slots] at X121 l121 y121 z121 st121 hQ121
    subst l121 y121 z121
    obtain ⟨rfl, N121q, e121⟩ := hQ121
    have N121 := Fr.app N118 N121q
    have pre_122 : ∀ t, Steps p.tables e below (T121.setTop (mkF m 159 #[.val (.int p1), .val (.int p2), .val (.int p3), .val (.int p4), .val (.ref aSP), .val (.int ((XT.ushr p3 (1 : Int32)) &&& (3 : Int32))), .val (.int qq), .val (.ref b74), .val (.ref b80), .val (.ref b88), .val (.ref b97), .val (.ref b106), .val (.int (if qq < p1 then (0 : Int32) else (1 : Int32))), .val (.int (if p1 < qq then (0 : Int32) else (1 : Int32))), .unset, .unset, .unset, .unset] [(.int (if p1 < p1 then (0 : Int32) else (1 : Int32)))])) t → Steps p.tables e below (s₁.setTop (entryFrame m #[(.int p1), (.int p2), (.int p3), (.int p4)] maxLocals)) t := fun t k => pre_120 t (st121.trans k)
    have pre_123 : ∀ t, Steps p.tables e below (T121.setTop (mkF m 161 #[.val (.int p1), .val (.int p2), .val (.int p3), .val (.int p4), .val (.ref aSP), .val (.int ((XT.ushr p3 (1 : Int32)) &&& (3 : Int32))), .val (.int qq), .val (.ref b74), .val (.ref b80), .val (.ref b88), .val (.ref b97), .val (.ref b106), .val (.int (if qq < p1 then (0 : Int32) else (1 : Int32))), .val (.int (if p1 < qq then (0 : Int32) else (1 : Int32))), .val (.int (if p1 < p1 then (0 : Int32) else (1 : Int32))), .unset, .unset, .unset] [])) t → Steps p.tables e below (s₁.setTop (entryFrame m #[(.int p1), (.int p2), (.int p3), (.int p4)] maxLocals)) t := by
      intro t k
      refine pre_122 t ?_
      show Steps p.tables e below (T121.setTop (mkF m 159 #[.val (.int p1), .val (.int p2), .val (.int p3), .val (.int p4), .val (.ref aSP), .val (.int ((XT.ushr p3 (1 : Int32)) &&& (3 : Int32))), .val (.int qq), .val (.ref b74), .val (.ref b80), .val (.ref b88), .val (.ref b97), .val (.ref b106), .val (.int (if qq < p1 then (0 : Int32) else (1 : Int32))), .val (.int (if p1 < qq then (0 : Int32) else (1 : Int32))), .unset, .unset, .unset, .unset] [(.int (if p1 < p1 then (0 : Int32) else (1 : Int32)))])) _
      refine XS.istore X121.here hx rfl (hb hby at_159) rfl (l' := #[.val (.int p1), .val (.int p2), .val (.int p3), .val (.int p4), .val (.ref aSP), .val (.int ((XT.ushr p3 (1 : Int32)) &&& (3 : Int32))), .val (.int qq), .val (.ref b74), .val (.ref b80), .val (.ref b88), .val (.ref b97), .val (.ref b106), .val (.int (if qq < p1 then (0 : Int32) else (1 : Int32))), .val (.int (if p1 < qq then (0 : Int32) else (1 : Int32))), .val (.int (if p1 < p1 then (0 : Int32) else (1 : Int32))), .unset, .unset, .unset]) rfl ?_
      show Steps p.tables e below (T121.setTop (mkF m 161 #[.val (.int p1), .val (.int p2), .val (.int p3), .val (.int p4), .val (.ref aSP), .val (.int ((XT.ushr p3 (1 : Int32)) &&& (3 : Int32))), .val (.int qq), .val (.ref b74), .val (.ref b80), .val (.ref b88), .val (.ref b97), .val (.ref b106), .val (.int (if qq < p1 then (0 : Int32) else (1 : Int32))), .val (.int (if p1 < qq then (0 : Int32) else (1 : Int32))), .val (.int (if p1 < p1 then (0 : Int32) else (1 : Int32))), .unset, .unset, .unset] [])) _
      exact k
    rcases own_tri2 p1 qq with ⟨t1, t2, t3⟩ | ⟨t1, t2, t3⟩ | ⟨t1, t2, t3⟩
    · skip
      have pre_124 : ∀ t, Steps p.tables e below (T121.setTop (mkF m 264 #[.val (.int p1), .val (.int p2), .val (.int p3), .val (.int p4), .val (.ref aSP), .val (.int ((XT.ushr p3 (1 : Int32)) &&& (3 : Int32))), .val (.int qq), .val (.ref b74), .val (.ref b80), .val (.ref b88), .val (.ref b97), .val (.ref b106), .val (.int (if qq < p1 then (0 : Int32) else (1 : Int32))), .val (.int (if p1 < qq then (0 : Int32) else (1 : Int32))), .val (.int (if p1 < p1 then (0 : Int32) else (1 : Int32))), .val (.int (0 : Int32)), .val (.int (1 : Int32)), .val (.int (0 : Int32))] [(.int (1 : Int32))])) t → Steps p.tables e below (s₁.setTop (entryFrame m #[(.int p1), (.int p2), (.int p3), (.int p4)] maxLocals)) t := by
        intro t k
        refine pre_123 t ?_
        show Steps p.tables e below (T121.setTop (mkF m 161 #[.val (.int p1), .val (.int p2), .val (.int p3), .val (.int p4), .val (.ref aSP), .val (.int ((XT.ushr p3 (1 : Int32)) &&& (3 : Int32))), .val (.int qq), .val (.ref b74), .val (.ref b80), .val (.ref b88), .val (.ref b97), .val (.ref b106), .val (.int (if qq < p1 then (0 : Int32) else (1 : Int32))), .val (.int (if p1 < qq then (0 : Int32) else (1 : Int32))), .val (.int (if p1 < p1 then (0 : Int32) else (1 : Int32))), .unset, .unset, .unset] [])) _
        refine XS.iloadN X121.here hx rfl (hb hby at_161) rfl ?_
        show Steps p.tables e below (T121.setTop (mkF m 162 #[.val (.int p1), .val (.int p2), .val (.int p3), .val (.int p4), .val (.ref aSP), .val (.int ((XT.ushr p3 (1 : Int32)) &&& (3 : Int32))), .val (.int qq), .val (.ref b74), .val (.ref b80), .val (.ref b88), .val (.ref b97), .val (.ref b106), .val (.int (if qq < p1 then (0 : Int32) else (1 : Int32))), .val (.int (if p1 < qq then (0 : Int32) else (1 : Int32))), .val (.int (if p1 < p1 then (0 : Int32) else (1 : Int32))), .unset, .unset, .unset] [(.int p1)])) _
        refine XS.iload X121.here hx rfl (hb hby at_162) rfl ?_
        show Steps p.tables e below (T121.setTop (mkF m 164 #[.val (.int p1), .val (.int p2), .val (.int p3), .val (.int p4), .val (.ref aSP), .val (.int ((XT.ushr p3 (1 : Int32)) &&& (3 : Int32))), .val (.int qq), .val (.ref b74), .val (.ref b80), .val (.ref b88), .val (.ref b97), .val (.ref b106), .val (.int (if qq < p1 then (0 : Int32) else (1 : Int32))), .val (.int (if p1 < qq then (0 : Int32) else (1 : Int32))), .val (.int (if p1 < p1 then (0 : Int32) else (1 : Int32))), .unset, .unset, .unset] [(.int qq), (.int p1)])) _
        refine XS.icmpYes X121.here hx rfl (pc0 := 164) (pc' := 171) rfl (hb hby at_164) rfl (XT.ii_ne_t t3) (by decide) (by decide) ?_
        show Steps p.tables e below (T121.setTop (mkF m 171 #[.val (.int p1), .val (.int p2), .val (.int p3), .val (.int p4), .val (.ref aSP), .val (.int ((XT.ushr p3 (1 : Int32)) &&& (3 : Int32))), .val (.int qq), .val (.ref b74), .val (.ref b80), .val (.ref b88), .val (.ref b97), .val (.ref b106), .val (.int (if qq < p1 then (0 : Int32) else (1 : Int32))), .val (.int (if p1 < qq then (0 : Int32) else (1 : Int32))), .val (.int (if p1 < p1 then (0 : Int32) else (1 : Int32))), .unset, .unset, .unset] [])) _
        refine XS.iconst X121.here hx rfl (hb hby at_171) ?_
        show Steps p.tables e below (T121.setTop (mkF m 172 #[.val (.int p1), .val (.int p2), .val (.int p3), .val (.int p4), .val (.ref aSP), .val (.int ((XT.ushr p3 (1 : Int32)) &&& (3 : Int32))), .val (.int qq), .val (.ref b74), .val (.ref b80), .val (.ref b88), .val (.ref b97), .val (.ref b106), .val (.int (if qq < p1 then (0 : Int32) else (1 : Int32))), .val (.int (if p1 < qq then (0 : Int32) else (1 : Int32))), .val (.int (if p1 < p1 then (0 : Int32) else (1 : Int32))), .unset, .unset, .unset] [(.int (0 : Int32))])) _
        refine XS.istore X121.here hx rfl (hb hby at_172) rfl (l' := #[.val (.int p1), .val (.int p2), .val (.int p3), .val (.int p4), .val (.ref aSP), .val (.int ((XT.ushr p3 (1 : Int32)) &&& (3 : Int32))), .val (.int qq), .val (.ref b74), .val (.ref b80), .val (.ref b88), .val (.ref b97), .val (.ref b106), .val (.int (if qq < p1 then (0 : Int32) else (1 : Int32))), .val (.int (if p1 < qq then (0 : Int32) else (1 : Int32))), .val (.int (if p1 < p1 then (0 : Int32) else (1 : Int32))), .val (.int (0 : Int32)), .unset, .unset]) rfl ?_
        show Steps p.tables e below (T121.setTop (mkF m 174 #[.val (.int p1), .val (.int p2), .val (.int p3), .val (.int p4), .val (.ref aSP), .val (.int ((XT.ushr p3 (1 : Int32)) &&& (3 : Int32))), .val (.int qq), .val (.ref b74), .val (.ref b80), .val (.ref b88), .val (.ref b97), .val (.ref b106), .val (.int (if qq < p1 then (0 : Int32) else (1 : Int32))), .val (.int (if p1 < qq then (0 : Int32) else (1 : Int32))), .val (.int (if p1 < p1 then (0 : Int32) else (1 : Int32))), .val (.int (0 : Int32)), .unset, .unset] [])) _
        refine XS.iloadN X121.here hx rfl (hb hby at_174) rfl ?_
        show Steps p.tables e below (T121.setTop (mkF m 175 #[.val (.int p1), .val (.int p2), .val (.int p3), .val (.int p4), .val (.ref aSP), .val (.int ((XT.ushr p3 (1 : Int32)) &&& (3 : Int32))), .val (.int qq), .val (.ref b74), .val (.ref b80), .val (.ref b88), .val (.ref b97), .val (.ref b106), .val (.int (if qq < p1 then (0 : Int32) else (1 : Int32))), .val (.int (if p1 < qq then (0 : Int32) else (1 : Int32))), .val (.int (if p1 < p1 then (0 : Int32) else (1 : Int32))), .val (.int (0 : Int32)), .unset, .unset] [(.int p1)])) _
        refine XS.iload X121.here hx rfl (hb hby at_175) rfl ?_
        show Steps p.tables e below (T121.setTop (mkF m 177 #[.val (.int p1), .val (.int p2), .val (.int p3), .val (.int p4), .val (.ref aSP), .val (.int ((XT.ushr p3 (1 : Int32)) &&& (3 : Int32))), .val (.int qq), .val (.ref b74), .val (.ref b80), .val (.ref b88), .val (.ref b97), .val (.ref b106), .val (.int (if qq < p1 then (0 : Int32) else (1 : Int32))), .val (.int (if p1 < qq then (0 : Int32) else (1 : Int32))), .val (.int (if p1 < p1 then (0 : Int32) else (1 : Int32))), .val (.int (0 : Int32)), .unset, .unset] [(.int qq), (.int p1)])) _
        refine XS.icmpYes X121.here hx rfl (pc0 := 177) (pc' := 185) rfl (hb hby at_177) rfl (XT.ii_lt_t t1) (by decide) (by decide) ?_
        show Steps p.tables e below (T121.setTop (mkF m 185 #[.val (.int p1), .val (.int p2), .val (.int p3), .val (.int p4), .val (.ref aSP), .val (.int ((XT.ushr p3 (1 : Int32)) &&& (3 : Int32))), .val (.int qq), .val (.ref b74), .val (.ref b80), .val (.ref b88), .val (.ref b97), .val (.ref b106), .val (.int (if qq < p1 then (0 : Int32) else (1 : Int32))), .val (.int (if p1 < qq then (0 : Int32) else (1 : Int32))), .val (.int (if p1 < p1 then (0 : Int32) else (1 : Int32))), .val (.int (0 : Int32)), .unset, .unset] [])) _
        refine XS.iconst X121.here hx rfl (hb hby at_185) ?_
        show Steps p.tables e below (T121.setTop (mkF m 186 #[.val (.int p1), .val (.int p2), .val (.int p3), .val (.int p4), .val (.ref aSP), .val (.int ((XT.ushr p3 (1 : Int32)) &&& (3 : Int32))), .val (.int qq), .val (.ref b74), .val (.ref b80), .val (.ref b88), .val (.ref b97), .val (.ref b106), .val (.int (if qq < p1 then (0 : Int32) else (1 : Int32))), .val (.int (if p1 < qq then (0 : Int32) else (1 : Int32))), .val (.int (if p1 < p1 then (0 : Int32) else (1 : Int32))), .val (.int (0 : Int32)), .unset, .unset] [(.int (1 : Int32))])) _
        refine XS.goto X121.here hx rfl (pc0 := 186) (pc' := 190) rfl (hb hby at_186) (by decide) (by decide) ?_
        show Steps p.tables e below (T121.setTop (mkF m 190 #[.val (.int p1), .val (.int p2), .val (.int p3), .val (.int p4), .val (.ref aSP), .val (.int ((XT.ushr p3 (1 : Int32)) &&& (3 : Int32))), .val (.int qq), .val (.ref b74), .val (.ref b80), .val (.ref b88), .val (.ref b97), .val (.ref b106), .val (.int (if qq < p1 then (0 : Int32) else (1 : Int32))), .val (.int (if p1 < qq then (0 : Int32) else (1 : Int32))), .val (.int (if p1 < p1 then (0 : Int32) else (1 : Int32))), .val (.int (0 : Int32)), .unset, .unset] [(.int (1 : Int32))])) _
        refine XS.istore X121.here hx rfl (hb hby at_190) rfl (l' := #[.val (.int p1), .val (.int p2), .val (.int p3), .val (.int p4), .val (.ref aSP), .val (.int ((XT.ushr p3 (1 : Int32)) &&& (3 : Int32))), .val (.int qq), .val (.ref b74), .val (.ref b80), .val (.ref b88), .val (.ref b97), .val (.ref b106), .val (.int (if qq < p1 then (0 : Int32) else (1 : Int32))), .val (.int (if p1 < qq then (0 : Int32) else (1 : Int32))), .val (.int (if p1 < p1 then (0 : Int32) else (1 : Int32))), .val (.int (0 : Int32)), .val (.int (1 : Int32)), .unset]) rfl ?_
        show Steps p.tables e below (T121.setTop (mkF m 192 #[.val (.int p1), .val (.int p2), .val (.int p3), .val (.int p4), .val (.ref aSP), .val (.int ((XT.ushr p3 (1 : Int32)) &&& (3 : Int32))), .val (.int qq), .val (.ref b74), .val (.ref b80), .val (.ref b88), .val (.ref b97), .val (.ref b106), .val (.int (if qq < p1 then (0 : Int32) else (1 : Int32))), .val (.int (if p1 < qq then (0 : Int32) else (1 : Int32))), .val (.int (if p1 < p1 then (0 : Int32) else (1 : Int32))), .val (.int (0 : Int32)), .val (.int (1 : Int32)), .unset] [])) _
        refine XS.iload X121.here hx rfl (hb hby at_192) rfl ?_
        show Steps p.tables e below (T121.setTop (mkF m 194 #[.val (.int p1), .val (.int p2), .val (.int p3), .val (.int p4), .val (.ref aSP), .val (.int ((XT.ushr p3 (1 : Int32)) &&& (3 : Int32))), .val (.int qq), .val (.ref b74), .val (.ref b80), .val (.ref b88), .val (.ref b97), .val (.ref b106), .val (.int (if qq < p1 then (0 : Int32) else (1 : Int32))), .val (.int (if p1 < qq then (0 : Int32) else (1 : Int32))), .val (.int (if p1 < p1 then (0 : Int32) else (1 : Int32))), .val (.int (0 : Int32)), .val (.int (1 : Int32)), .unset] [(.int qq)])) _
        refine XS.iloadN X121.here hx rfl (hb hby at_194) rfl ?_
        show Steps p.tables e below (T121.setTop (mkF m 195 #[.val (.int p1), .val (.int p2), .val (.int p3), .val (.int p4), .val (.ref aSP), .val (.int ((XT.ushr p3 (1 : Int32)) &&& (3 : Int32))), .val (.int qq), .val (.ref b74), .val (.ref b80), .val (.ref b88), .val (.ref b97), .val (.ref b106), .val (.int (if qq < p1 then (0 : Int32) else (1 : Int32))), .val (.int (if p1 < qq then (0 : Int32) else (1 : Int32))), .val (.int (if p1 < p1 then (0 : Int32) else (1 : Int32))), .val (.int (0 : Int32)), .val (.int (1 : Int32)), .unset] [(.int p1), (.int qq)])) _
        refine XS.icmpNo X121.here hx rfl (hb hby at_195) rfl (XT.ii_lt_f t2) ?_
        show Steps p.tables e below (T121.setTop (mkF m 198 #[.val (.int p1), .val (.int p2), .val (.int p3), .val (.int p4), .val (.ref aSP), .val (.int ((XT.ushr p3 (1 : Int32)) &&& (3 : Int32))), .val (.int qq), .val (.ref b74), .val (.ref b80), .val (.ref b88), .val (.ref b97), .val (.ref b106), .val (.int (if qq < p1 then (0 : Int32) else (1 : Int32))), .val (.int (if p1 < qq then (0 : Int32) else (1 : Int32))), .val (.int (if p1 < p1 then (0 : Int32) else (1 : Int32))), .val (.int (0 : Int32)), .val (.int (1 : Int32)), .unset] [])) _
        refine XS.iload X121.here hx rfl (hb hby at_198) rfl ?_
        show Steps p.tables e below (T121.setTop (mkF m 200 #[.val (.int p1), .val (.int p2), .val (.int p3), .val (.int p4), .val (.ref aSP), .val (.int ((XT.ushr p3 (1 : Int32)) &&& (3 : Int32))), .val (.int qq), .val (.ref b74), .val (.ref b80), .val (.ref b88), .val (.ref b97), .val (.ref b106), .val (.int (if qq < p1 then (0 : Int32) else (1 : Int32))), .val (.int (if p1 < qq then (0 : Int32) else (1 : Int32))), .val (.int (if p1 < p1 then (0 : Int32) else (1 : Int32))), .val (.int (0 : Int32)), .val (.int (1 : Int32)), .unset] [(.int (0 : Int32))])) _
        refine XS.ifYes X121.here hx rfl (pc0 := 200) (pc' := 207) rfl (hb hby at_200) rfl (XT.i0_eq_t (by decide)) (by decide) (by decide) ?_
        show Steps p.tables e below (T121.setTop (mkF m 207 #[.val (.int p1), .val (.int p2), .val (.int p3), .val (.int p4), .val (.ref aSP), .val (.int ((XT.ushr p3 (1 : Int32)) &&& (3 : Int32))), .val (.int qq), .val (.ref b74), .val (.ref b80), .val (.ref b88), .val (.ref b97), .val (.ref b106), .val (.int (if qq < p1 then (0 : Int32) else (1 : Int32))), .val (.int (if p1 < qq then (0 : Int32) else (1 : Int32))), .val (.int (if p1 < p1 then (0 : Int32) else (1 : Int32))), .val (.int (0 : Int32)), .val (.int (1 : Int32)), .unset] [])) _
        refine XS.iconst X121.here hx rfl (hb hby at_207) ?_
        show Steps p.tables e below (T121.setTop (mkF m 208 #[.val (.int p1), .val (.int p2), .val (.int p3), .val (.int p4), .val (.ref aSP), .val (.int ((XT.ushr p3 (1 : Int32)) &&& (3 : Int32))), .val (.int qq), .val (.ref b74), .val (.ref b80), .val (.ref b88), .val (.ref b97), .val (.ref b106), .val (.int (if qq < p1 then (0 : Int32) else (1 : Int32))), .val (.int (if p1 < qq then (0 : Int32) else (1 : Int32))), .val (.int (if p1 < p1 then (0 : Int32) else (1 : Int32))), .val (.int (0 : Int32)), .val (.int (1 : Int32)), .unset] [(.int (0 : Int32))])) _
        refine XS.istore X121.here hx rfl (hb hby at_208) rfl (l' := #[.val (.int p1), .val (.int p2), .val (.int p3), .val (.int p4), .val (.ref aSP), .val (.int ((XT.ushr p3 (1 : Int32)) &&& (3 : Int32))), .val (.int qq), .val (.ref b74), .val (.ref b80), .val (.ref b88), .val (.ref b97), .val (.ref b106), .val (.int (if qq < p1 then (0 : Int32) else (1 : Int32))), .val (.int (if p1 < qq then (0 : Int32) else (1 : Int32))), .val (.int (if p1 < p1 then (0 : Int32) else (1 : Int32))), .val (.int (0 : Int32)), .val (.int (1 : Int32)), .val (.int (0 : Int32))]) rfl ?_
        show Steps p.tables e below (T121.setTop (mkF m 210 #[.val (.int p1), .val (.int p2), .val (.int p3), .val (.int p4), .val (.ref aSP), .val (.int ((XT.ushr p3 (1 : Int32)) &&& (3 : Int32))), .val (.int qq), .val (.ref b74), .val (.ref b80), .val (.ref b88), .val (.ref b97), .val (.ref b106), .val (.int (if qq < p1 then (0 : Int32) else (1 : Int32))), .val (.int (if p1 < qq then (0 : Int32) else (1 : Int32))), .val (.int (if p1 < p1 then (0 : Int32) else (1 : Int32))), .val (.int (0 : Int32)), .val (.int (1 : Int32)), .val (.int (0 : Int32))] [])) _
        refine XS.iload X121.here hx rfl (hb hby at_210) rfl ?_
        show Steps p.tables e below (T121.setTop (mkF m 212 #[.val (.int p1), .val (.int p2), .val (.int p3), .val (.int p4), .val (.ref aSP), .val (.int ((XT.ushr p3 (1 : Int32)) &&& (3 : Int32))), .val (.int qq), .val (.ref b74), .val (.ref b80), .val (.ref b88), .val (.ref b97), .val (.ref b106), .val (.int (if qq < p1 then (0 : Int32) else (1 : Int32))), .val (.int (if p1 < qq then (0 : Int32) else (1 : Int32))), .val (.int (if p1 < p1 then (0 : Int32) else (1 : Int32))), .val (.int (0 : Int32)), .val (.int (1 : Int32)), .val (.int (0 : Int32))] [(.int (if qq < p1 then (0 : Int32) else (1 : Int32)))])) _
        refine XS.iload X121.here hx rfl (hb hby at_212) rfl ?_
        show Steps p.tables e below (T121.setTop (mkF m 214 #[.val (.int p1), .val (.int p2), .val (.int p3), .val (.int p4), .val (.ref aSP), .val (.int ((XT.ushr p3 (1 : Int32)) &&& (3 : Int32))), .val (.int qq), .val (.ref b74), .val (.ref b80), .val (.ref b88), .val (.ref b97), .val (.ref b106), .val (.int (if qq < p1 then (0 : Int32) else (1 : Int32))), .val (.int (if p1 < qq then (0 : Int32) else (1 : Int32))), .val (.int (if p1 < p1 then (0 : Int32) else (1 : Int32))), .val (.int (0 : Int32)), .val (.int (1 : Int32)), .val (.int (0 : Int32))] [(.int (1 : Int32)), (.int (if qq < p1 then (0 : Int32) else (1 : Int32)))])) _
        refine XS.icmpNo X121.here hx rfl (hb hby at_214) rfl (XT.ii_ne_f (by simp only [if_neg t2] <;> decide)) ?_
        show Steps p.tables e below (T121.setTop (mkF m 217 #[.val (.int p1), .val (.int p2), .val (.int p3), .val (.int p4), .val (.ref aSP), .val (.int ((XT.ushr p3 (1 : Int32)) &&& (3 : Int32))), .val (.int qq), .val (.ref b74), .val (.ref b80), .val (.ref b88), .val (.ref b97), .val (.ref b106), .val (.int (if qq < p1 then (0 : Int32) else (1 : Int32))), .val (.int (if p1 < qq then (0 : Int32) else (1 : Int32))), .val (.int (if p1 < p1 then (0 : Int32) else (1 : Int32))), .val (.int (0 : Int32)), .val (.int (1 : Int32)), .val (.int (0 : Int32))] [])) _
        refine XS.iload X121.here hx rfl (hb hby at_217) rfl ?_
        show Steps p.tables e below (T121.setTop (mkF m 219 #[.val (.int p1), .val (.int p2), .val (.int p3), .val (.int p4), .val (.ref aSP), .val (.int ((XT.ushr p3 (1 : Int32)) &&& (3 : Int32))), .val (.int qq), .val (.ref b74), .val (.ref b80), .val (.ref b88), .val (.ref b97), .val (.ref b106), .val (.int (if qq < p1 then (0 : Int32) else (1 : Int32))), .val (.int (if p1 < qq then (0 : Int32) else (1 : Int32))), .val (.int (if p1 < p1 then (0 : Int32) else (1 : Int32))), .val (.int (0 : Int32)), .val (.int (1 : Int32)), .val (.int (0 : Int32))] [(.int (if p1 < qq then (0 : Int32) else (1 : Int32)))])) _
        refine XS.iload X121.here hx rfl (hb hby at_219) rfl ?_
        show Steps p.tables e below (T121.setTop (mkF m 221 #[.val (.int p1), .val (.int p2), .val (.int p3), .val (.int p4), .val (.ref aSP), .val (.int ((XT.ushr p3 (1 : Int32)) &&& (3 : Int32))), .val (.int qq), .val (.ref b74), .val (.ref b80), .val (.ref b88), .val (.ref b97), .val (.ref b106), .val (.int (if qq < p1 then (0 : Int32) else (1 : Int32))), .val (.int (if p1 < qq then (0 : Int32) else (1 : Int32))), .val (.int (if p1 < p1 then (0 : Int32) else (1 : Int32))), .val (.int (0 : Int32)), .val (.int (1 : Int32)), .val (.int (0 : Int32))] [(.int (0 : Int32)), (.int (if p1 < qq then (0 : Int32) else (1 : Int32)))])) _
        refine XS.icmpNo X121.here hx rfl (hb hby at_221) rfl (XT.ii_ne_f (by simp only [if_pos t1] <;> decide)) ?_
        show Steps p.tables e below (T121.setTop (mkF m 224 #[.val (.int p1), .val (.int p2), .val (.int p3), .val (.int p4), .val (.ref aSP), .val (.int ((XT.ushr p3 (1 : Int32)) &&& (3 : Int32))), .val (.int qq), .val (.ref b74), .val (.ref b80), .val (.ref b88), .val (.ref b97), .val (.ref b106), .val (.int (if qq < p1 then (0 : Int32) else (1 : Int32))), .val (.int (if p1 < qq then (0 : Int32) else (1 : Int32))), .val (.int (if p1 < p1 then (0 : Int32) else (1 : Int32))), .val (.int (0 : Int32)), .val (.int (1 : Int32)), .val (.int (0 : Int32))] [])) _
        refine XS.iload X121.here hx rfl (hb hby at_224) rfl ?_
        show Steps p.tables e below (T121.setTop (mkF m 226 #[.val (.int p1), .val (.int p2), .val (.int p3), .val (.int p4), .val (.ref aSP), .val (.int ((XT.ushr p3 (1 : Int32)) &&& (3 : Int32))), .val (.int qq), .val (.ref b74), .val (.ref b80), .val (.ref b88), .val (.ref b97), .val (.ref b106), .val (.int (if qq < p1 then (0 : Int32) else (1 : Int32))), .val (.int (if p1 < qq then (0 : Int32) else (1 : Int32))), .val (.int (if p1 < p1 then (0 : Int32) else (1 : Int32))), .val (.int (0 : Int32)), .val (.int (1 : Int32)), .val (.int (0 : Int32))] [(.int (if p1 < p1 then (0 : Int32) else (1 : Int32)))])) _
        refine XS.ifNo X121.here hx rfl (hb hby at_226) rfl (XT.i0_eq_f (by simp only [if_neg (Int32.lt_irrefl : ¬ p1 < p1)] <;> decide)) ?_
        show Steps p.tables e below (T121.setTop (mkF m 229 #[.val (.int p1), .val (.int p2), .val (.int p3), .val (.int p4), .val (.ref aSP), .val (.int ((XT.ushr p3 (1 : Int32)) &&& (3 : Int32))), .val (.int qq), .val (.ref b74), .val (.ref b80), .val (.ref b88), .val (.ref b97), .val (.ref b106), .val (.int (if qq < p1 then (0 : Int32) else (1 : Int32))), .val (.int (if p1 < qq then (0 : Int32) else (1 : Int32))), .val (.int (if p1 < p1 then (0 : Int32) else (1 : Int32))), .val (.int (0 : Int32)), .val (.int (1 : Int32)), .val (.int (0 : Int32))] [])) _
        refine XS.iload X121.here hx rfl (hb hby at_229) rfl ?_
        show Steps p.tables e below (T121.setTop (mkF m 231 #[.val (.int p1), .val (.int p2), .val (.int p3), .val (.int p4), .val (.ref aSP), .val (.int ((XT.ushr p3 (1 : Int32)) &&& (3 : Int32))), .val (.int qq), .val (.ref b74), .val (.ref b80), .val (.ref b88), .val (.ref b97), .val (.ref b106), .val (.int (if qq < p1 then (0 : Int32) else (1 : Int32))), .val (.int (if p1 < qq then (0 : Int32) else (1 : Int32))), .val (.int (if p1 < p1 then (0 : Int32) else (1 : Int32))), .val (.int (0 : Int32)), .val (.int (1 : Int32)), .val (.int (0 : Int32))] [(.int (if qq < p1 then (0 : Int32) else (1 : Int32)))])) _
        refine XS.ifYes X121.here hx rfl (pc0 := 231) (pc' := 239) rfl (hb hby at_231) rfl (XT.i0_ne_t (by simp only [if_neg t2] <;> decide)) (by decide) (by decide) ?_
        show Steps p.tables e below (T121.setTop (mkF m 239 #[.val (.int p1), .val (.int p2), .val (.int p3), .val (.int p4), .val (.ref aSP), .val (.int ((XT.ushr p3 (1 : Int32)) &&& (3 : Int32))), .val (.int qq), .val (.ref b74), .val (.ref b80), .val (.ref b88), .val (.ref b97), .val (.ref b106), .val (.int (if qq < p1 then (0 : Int32) else (1 : Int32))), .val (.int (if p1 < qq then (0 : Int32) else (1 : Int32))), .val (.int (if p1 < p1 then (0 : Int32) else (1 : Int32))), .val (.int (0 : Int32)), .val (.int (1 : Int32)), .val (.int (0 : Int32))] [])) _
        refine XS.iload X121.here hx rfl (hb hby at_239) rfl ?_
        show Steps p.tables e below (T121.setTop (mkF m 241 #[.val (.int p1), .val (.int p2), .val (.int p3), .val (.int p4), .val (.ref aSP), .val (.int ((XT.ushr p3 (1 : Int32)) &&& (3 : Int32))), .val (.int qq), .val (.ref b74), .val (.ref b80), .val (.ref b88), .val (.ref b97), .val (.ref b106), .val (.int (if qq < p1 then (0 : Int32) else (1 : Int32))), .val (.int (if p1 < qq then (0 : Int32) else (1 : Int32))), .val (.int (if p1 < p1 then (0 : Int32) else (1 : Int32))), .val (.int (0 : Int32)), .val (.int (1 : Int32)), .val (.int (0 : Int32))] [(.int (if qq < p1 then (0 : Int32) else (1 : Int32)))])) _
        refine XS.ifNo X121.here hx rfl (hb hby at_241) rfl (XT.i0_eq_f (by simp only [if_neg t2] <;> decide)) ?_
        show Steps p.tables e below (T121.setTop (mkF m 244 #[.val (.int p1), .val (.int p2), .val (.int p3), .val (.int p4), .val (.ref aSP), .val (.int ((XT.ushr p3 (1 : Int32)) &&& (3 : Int32))), .val (.int qq), .val (.ref b74), .val (.ref b80), .val (.ref b88), .val (.ref b97), .val (.ref b106), .val (.int (if qq < p1 then (0 : Int32) else (1 : Int32))), .val (.int (if p1 < qq then (0 : Int32) else (1 : Int32))), .val (.int (if p1 < p1 then (0 : Int32) else (1 : Int32))), .val (.int (0 : Int32)), .val (.int (1 : Int32)), .val (.int (0 : Int32))] [])) _
        refine XS.iload X121.here hx rfl (hb hby at_244) rfl ?_
        show Steps p.tables e below (T121.setTop (mkF m 246 #[.val (.int p1), .val (.int p2), .val (.int p3), .val (.int p4), .val (.ref aSP), .val (.int ((XT.ushr p3 (1 : Int32)) &&& (3 : Int32))), .val (.int qq), .val (.ref b74), .val (.ref b80), .val (.ref b88), .val (.ref b97), .val (.ref b106), .val (.int (if qq < p1 then (0 : Int32) else (1 : Int32))), .val (.int (if p1 < qq then (0 : Int32) else (1 : Int32))), .val (.int (if p1 < p1 then (0 : Int32) else (1 : Int32))), .val (.int (0 : Int32)), .val (.int (1 : Int32)), .val (.int (0 : Int32))] [(.int (if p1 < qq then (0 : Int32) else (1 : Int32)))])) _
        refine XS.ifYes X121.here hx rfl (pc0 := 246) (pc' := 253) rfl (hb hby at_246) rfl (XT.i0_eq_t (by simp only [if_pos t1] <;> decide)) (by decide) (by decide) ?_
        show Steps p.tables e below (T121.setTop (mkF m 253 #[.val (.int p1), .val (.int p2), .val (.int p3), .val (.int p4), .val (.ref aSP), .val (.int ((XT.ushr p3 (1 : Int32)) &&& (3 : Int32))), .val (.int qq), .val (.ref b74), .val (.ref b80), .val (.ref b88), .val (.ref b97), .val (.ref b106), .val (.int (if qq < p1 then (0 : Int32) else (1 : Int32))), .val (.int (if p1 < qq then (0 : Int32) else (1 : Int32))), .val (.int (if p1 < p1 then (0 : Int32) else (1 : Int32))), .val (.int (0 : Int32)), .val (.int (1 : Int32)), .val (.int (0 : Int32))] [])) _
        refine XS.iconst X121.here hx rfl (hb hby at_253) ?_
        show Steps p.tables e below (T121.setTop (mkF m 254 #[.val (.int p1), .val (.int p2), .val (.int p3), .val (.int p4), .val (.ref aSP), .val (.int ((XT.ushr p3 (1 : Int32)) &&& (3 : Int32))), .val (.int qq), .val (.ref b74), .val (.ref b80), .val (.ref b88), .val (.ref b97), .val (.ref b106), .val (.int (if qq < p1 then (0 : Int32) else (1 : Int32))), .val (.int (if p1 < qq then (0 : Int32) else (1 : Int32))), .val (.int (if p1 < p1 then (0 : Int32) else (1 : Int32))), .val (.int (0 : Int32)), .val (.int (1 : Int32)), .val (.int (0 : Int32))] [(.int (0 : Int32))])) _
        refine XS.iload X121.here hx rfl (hb hby at_254) rfl ?_
        show Steps p.tables e below (T121.setTop (mkF m 256 #[.val (.int p1), .val (.int p2), .val (.int p3), .val (.int p4), .val (.ref aSP), .val (.int ((XT.ushr p3 (1 : Int32)) &&& (3 : Int32))), .val (.int qq), .val (.ref b74), .val (.ref b80), .val (.ref b88), .val (.ref b97), .val (.ref b106), .val (.int (if qq < p1 then (0 : Int32) else (1 : Int32))), .val (.int (if p1 < qq then (0 : Int32) else (1 : Int32))), .val (.int (if p1 < p1 then (0 : Int32) else (1 : Int32))), .val (.int (0 : Int32)), .val (.int (1 : Int32)), .val (.int (0 : Int32))] [(.int (0 : Int32)), (.int (0 : Int32))])) _
        refine XS.icmpNo X121.here hx rfl (hb hby at_256) rfl (XT.ii_ne_f (by decide)) ?_
        show Steps p.tables e below (T121.setTop (mkF m 259 #[.val (.int p1), .val (.int p2), .val (.int p3), .val (.int p4), .val (.ref aSP), .val (.int ((XT.ushr p3 (1 : Int32)) &&& (3 : Int32))), .val (.int qq), .val (.ref b74), .val (.ref b80), .val (.ref b88), .val (.ref b97), .val (.ref b106), .val (.int (if qq < p1 then (0 : Int32) else (1 : Int32))), .val (.int (if p1 < qq then (0 : Int32) else (1 : Int32))), .val (.int (if p1 < p1 then (0 : Int32) else (1 : Int32))), .val (.int (0 : Int32)), .val (.int (1 : Int32)), .val (.int (0 : Int32))] [])) _
        refine XS.iconst X121.here hx rfl (hb hby at_259) ?_
        show Steps p.tables e below (T121.setTop (mkF m 260 #[.val (.int p1), .val (.int p2), .val (.int p3), .val (.int p4), .val (.ref aSP), .val (.int ((XT.ushr p3 (1 : Int32)) &&& (3 : Int32))), .val (.int qq), .val (.ref b74), .val (.ref b80), .val (.ref b88), .val (.ref b97), .val (.ref b106), .val (.int (if qq < p1 then (0 : Int32) else (1 : Int32))), .val (.int (if p1 < qq then (0 : Int32) else (1 : Int32))), .val (.int (if p1 < p1 then (0 : Int32) else (1 : Int32))), .val (.int (0 : Int32)), .val (.int (1 : Int32)), .val (.int (0 : Int32))] [(.int (1 : Int32))])) _
        refine XS.goto X121.here hx rfl (pc0 := 260) (pc' := 264) rfl (hb hby at_260) (by decide) (by decide) ?_
        show Steps p.tables e below (T121.setTop (mkF m 264 #[.val (.int p1), .val (.int p2), .val (.int p3), .val (.int p4), .val (.ref aSP), .val (.int ((XT.ushr p3 (1 : Int32)) &&& (3 : Int32))), .val (.int qq), .val (.ref b74), .val (.ref b80), .val (.ref b88), .val (.ref b97), .val (.ref b106), .val (.int (if qq < p1 then (0 : Int32) else (1 : Int32))), .val (.int (if p1 < qq then (0 : Int32) else (1 : Int32))), .val (.int (if p1 < p1 then (0 : Int32) else (1 : Int32))), .val (.int (0 : Int32)), .val (.int (1 : Int32)), .val (.int (0 : Int32))] [(.int (1 : Int32))])) _
        exact k
      obtain ⟨fs, hr, hrun, hended, hW, hsame⟩ := X121.leave (v := some (.int (1 : Int32))) (fun h => by rw [Bd.returns] at h; cases h)
      refine ⟨_, _, pre_124 _ ?_, hrun, hended, _, _, rfl, ?_, ⟨_, rfl⟩, hW, hsame.mono (by decide) (by decide)⟩
      · show Steps p.tables e below (T121.setTop (mkF m 264 #[.val (.int p1), .val (.int p2), .val (.int p3), .val (.int p4), .val (.ref aSP), .val (.int ((XT.ushr p3 (1 : Int32)) &&& (3 : Int32))), .val (.int qq), .val (.ref b74), .val (.ref b80), .val (.ref b88), .val (.ref b97), .val (.ref b106), .val (.int (if qq < p1 then (0 : Int32) else (1 : Int32))), .val (.int (if p1 < qq then (0 : Int32) else (1 : Int32))), .val (.int (if p1 < p1 then (0 : Int32) else (1 : Int32))), .val (.int (0 : Int32)), .val (.int (1 : Int32)), .val (.int (0 : Int32))] [(.int (1 : Int32))])) _
        exact retN X121 hx (t := .boolean) Bd.returns (by simp) (hb hby at_264) hr
      · show Q_law Z p1 p2 p3 p4 aMOODYS aSP G1 h0 n0 _ T121.heap _
        rw [e121]
        exact ⟨rfl, N121⟩
    · skip
      have pre_125 : ∀ t, Steps p.tables e below (T121.setTop (mkF m 264 #[.val (.int p1), .val (.int p2), .val (.int p3), .val (.int p4), .val (.ref aSP), .val (.int ((XT.ushr p3 (1 : Int32)) &&& (3 : Int32))), .val (.int qq), .val (.ref b74), .val (.ref b80), .val (.ref b88), .val (.ref b97), .val (.ref b106), .val (.int (if qq < p1 then (0 : Int32) else (1 : Int32))), .val (.int (if p1 < qq then (0 : Int32) else (1 : Int32))), .val (.int (if p1 < p1 then (0 : Int32) else (1 : Int32))), .val (.int (0 : Int32)), .val (.int (0 : Int32)), .val (.int (1 : Int32))] [(.int (1 : Int32))])) t → Steps p.tables e below (s₁.setTop (entryFrame m #[(.int p1), (.int p2), (.int p3), (.int p4)] maxLocals)) t := by
        intro t k
        refine pre_123 t ?_
        show Steps p.tables e below (T121.setTop (mkF m 161 #[.val (.int p1), .val (.int p2), .val (.int p3), .val (.int p4), .val (.ref aSP), .val (.int ((XT.ushr p3 (1 : Int32)) &&& (3 : Int32))), .val (.int qq), .val (.ref b74), .val (.ref b80), .val (.ref b88), .val (.ref b97), .val (.ref b106), .val (.int (if qq < p1 then (0 : Int32) else (1 : Int32))), .val (.int (if p1 < qq then (0 : Int32) else (1 : Int32))), .val (.int (if p1 < p1 then (0 : Int32) else (1 : Int32))), .unset, .unset, .unset] [])) _
        refine XS.iloadN X121.here hx rfl (hb hby at_161) rfl ?_
        show Steps p.tables e below (T121.setTop (mkF m 162 #[.val (.int p1), .val (.int p2), .val (.int p3), .val (.int p4), .val (.ref aSP), .val (.int ((XT.ushr p3 (1 : Int32)) &&& (3 : Int32))), .val (.int qq), .val (.ref b74), .val (.ref b80), .val (.ref b88), .val (.ref b97), .val (.ref b106), .val (.int (if qq < p1 then (0 : Int32) else (1 : Int32))), .val (.int (if p1 < qq then (0 : Int32) else (1 : Int32))), .val (.int (if p1 < p1 then (0 : Int32) else (1 : Int32))), .unset, .unset, .unset] [(.int p1)])) _
        refine XS.iload X121.here hx rfl (hb hby at_162) rfl ?_
        show Steps p.tables e below (T121.setTop (mkF m 164 #[.val (.int p1), .val (.int p2), .val (.int p3), .val (.int p4), .val (.ref aSP), .val (.int ((XT.ushr p3 (1 : Int32)) &&& (3 : Int32))), .val (.int qq), .val (.ref b74), .val (.ref b80), .val (.ref b88), .val (.ref b97), .val (.ref b106), .val (.int (if qq < p1 then (0 : Int32) else (1 : Int32))), .val (.int (if p1 < qq then (0 : Int32) else (1 : Int32))), .val (.int (if p1 < p1 then (0 : Int32) else (1 : Int32))), .unset, .unset, .unset] [(.int qq), (.int p1)])) _
        refine XS.icmpYes X121.here hx rfl (pc0 := 164) (pc' := 171) rfl (hb hby at_164) rfl (XT.ii_ne_t t3) (by decide) (by decide) ?_
        show Steps p.tables e below (T121.setTop (mkF m 171 #[.val (.int p1), .val (.int p2), .val (.int p3), .val (.int p4), .val (.ref aSP), .val (.int ((XT.ushr p3 (1 : Int32)) &&& (3 : Int32))), .val (.int qq), .val (.ref b74), .val (.ref b80), .val (.ref b88), .val (.ref b97), .val (.ref b106), .val (.int (if qq < p1 then (0 : Int32) else (1 : Int32))), .val (.int (if p1 < qq then (0 : Int32) else (1 : Int32))), .val (.int (if p1 < p1 then (0 : Int32) else (1 : Int32))), .unset, .unset, .unset] [])) _
        refine XS.iconst X121.here hx rfl (hb hby at_171) ?_
        show Steps p.tables e below (T121.setTop (mkF m 172 #[.val (.int p1), .val (.int p2), .val (.int p3), .val (.int p4), .val (.ref aSP), .val (.int ((XT.ushr p3 (1 : Int32)) &&& (3 : Int32))), .val (.int qq), .val (.ref b74), .val (.ref b80), .val (.ref b88), .val (.ref b97), .val (.ref b106), .val (.int (if qq < p1 then (0 : Int32) else (1 : Int32))), .val (.int (if p1 < qq then (0 : Int32) else (1 : Int32))), .val (.int (if p1 < p1 then (0 : Int32) else (1 : Int32))), .unset, .unset, .unset] [(.int (0 : Int32))])) _
        refine XS.istore X121.here hx rfl (hb hby at_172) rfl (l' := #[.val (.int p1), .val (.int p2), .val (.int p3), .val (.int p4), .val (.ref aSP), .val (.int ((XT.ushr p3 (1 : Int32)) &&& (3 : Int32))), .val (.int qq), .val (.ref b74), .val (.ref b80), .val (.ref b88), .val (.ref b97), .val (.ref b106), .val (.int (if qq < p1 then (0 : Int32) else (1 : Int32))), .val (.int (if p1 < qq then (0 : Int32) else (1 : Int32))), .val (.int (if p1 < p1 then (0 : Int32) else (1 : Int32))), .val (.int (0 : Int32)), .unset, .unset]) rfl ?_
        show Steps p.tables e below (T121.setTop (mkF m 174 #[.val (.int p1), .val (.int p2), .val (.int p3), .val (.int p4), .val (.ref aSP), .val (.int ((XT.ushr p3 (1 : Int32)) &&& (3 : Int32))), .val (.int qq), .val (.ref b74), .val (.ref b80), .val (.ref b88), .val (.ref b97), .val (.ref b106), .val (.int (if qq < p1 then (0 : Int32) else (1 : Int32))), .val (.int (if p1 < qq then (0 : Int32) else (1 : Int32))), .val (.int (if p1 < p1 then (0 : Int32) else (1 : Int32))), .val (.int (0 : Int32)), .unset, .unset] [])) _
        refine XS.iloadN X121.here hx rfl (hb hby at_174) rfl ?_
        show Steps p.tables e below (T121.setTop (mkF m 175 #[.val (.int p1), .val (.int p2), .val (.int p3), .val (.int p4), .val (.ref aSP), .val (.int ((XT.ushr p3 (1 : Int32)) &&& (3 : Int32))), .val (.int qq), .val (.ref b74), .val (.ref b80), .val (.ref b88), .val (.ref b97), .val (.ref b106), .val (.int (if qq < p1 then (0 : Int32) else (1 : Int32))), .val (.int (if p1 < qq then (0 : Int32) else (1 : Int32))), .val (.int (if p1 < p1 then (0 : Int32) else (1 : Int32))), .val (.int (0 : Int32)), .unset, .unset] [(.int p1)])) _
        refine XS.iload X121.here hx rfl (hb hby at_175) rfl ?_
        show Steps p.tables e below (T121.setTop (mkF m 177 #[.val (.int p1), .val (.int p2), .val (.int p3), .val (.int p4), .val (.ref aSP), .val (.int ((XT.ushr p3 (1 : Int32)) &&& (3 : Int32))), .val (.int qq), .val (.ref b74), .val (.ref b80), .val (.ref b88), .val (.ref b97), .val (.ref b106), .val (.int (if qq < p1 then (0 : Int32) else (1 : Int32))), .val (.int (if p1 < qq then (0 : Int32) else (1 : Int32))), .val (.int (if p1 < p1 then (0 : Int32) else (1 : Int32))), .val (.int (0 : Int32)), .unset, .unset] [(.int qq), (.int p1)])) _
        refine XS.icmpNo X121.here hx rfl (hb hby at_177) rfl (XT.ii_lt_f t1) ?_
        show Steps p.tables e below (T121.setTop (mkF m 180 #[.val (.int p1), .val (.int p2), .val (.int p3), .val (.int p4), .val (.ref aSP), .val (.int ((XT.ushr p3 (1 : Int32)) &&& (3 : Int32))), .val (.int qq), .val (.ref b74), .val (.ref b80), .val (.ref b88), .val (.ref b97), .val (.ref b106), .val (.int (if qq < p1 then (0 : Int32) else (1 : Int32))), .val (.int (if p1 < qq then (0 : Int32) else (1 : Int32))), .val (.int (if p1 < p1 then (0 : Int32) else (1 : Int32))), .val (.int (0 : Int32)), .unset, .unset] [])) _
        refine XS.iload X121.here hx rfl (hb hby at_180) rfl ?_
        show Steps p.tables e below (T121.setTop (mkF m 182 #[.val (.int p1), .val (.int p2), .val (.int p3), .val (.int p4), .val (.ref aSP), .val (.int ((XT.ushr p3 (1 : Int32)) &&& (3 : Int32))), .val (.int qq), .val (.ref b74), .val (.ref b80), .val (.ref b88), .val (.ref b97), .val (.ref b106), .val (.int (if qq < p1 then (0 : Int32) else (1 : Int32))), .val (.int (if p1 < qq then (0 : Int32) else (1 : Int32))), .val (.int (if p1 < p1 then (0 : Int32) else (1 : Int32))), .val (.int (0 : Int32)), .unset, .unset] [(.int (0 : Int32))])) _
        refine XS.ifYes X121.here hx rfl (pc0 := 182) (pc' := 189) rfl (hb hby at_182) rfl (XT.i0_eq_t (by decide)) (by decide) (by decide) ?_
        show Steps p.tables e below (T121.setTop (mkF m 189 #[.val (.int p1), .val (.int p2), .val (.int p3), .val (.int p4), .val (.ref aSP), .val (.int ((XT.ushr p3 (1 : Int32)) &&& (3 : Int32))), .val (.int qq), .val (.ref b74), .val (.ref b80), .val (.ref b88), .val (.ref b97), .val (.ref b106), .val (.int (if qq < p1 then (0 : Int32) else (1 : Int32))), .val (.int (if p1 < qq then (0 : Int32) else (1 : Int32))), .val (.int (if p1 < p1 then (0 : Int32) else (1 : Int32))), .val (.int (0 : Int32)), .unset, .unset] [])) _
        refine XS.iconst X121.here hx rfl (hb hby at_189) ?_
        show Steps p.tables e below (T121.setTop (mkF m 190 #[.val (.int p1), .val (.int p2), .val (.int p3), .val (.int p4), .val (.ref aSP), .val (.int ((XT.ushr p3 (1 : Int32)) &&& (3 : Int32))), .val (.int qq), .val (.ref b74), .val (.ref b80), .val (.ref b88), .val (.ref b97), .val (.ref b106), .val (.int (if qq < p1 then (0 : Int32) else (1 : Int32))), .val (.int (if p1 < qq then (0 : Int32) else (1 : Int32))), .val (.int (if p1 < p1 then (0 : Int32) else (1 : Int32))), .val (.int (0 : Int32)), .unset, .unset] [(.int (0 : Int32))])) _
        refine XS.istore X121.here hx rfl (hb hby at_190) rfl (l' := #[.val (.int p1), .val (.int p2), .val (.int p3), .val (.int p4), .val (.ref aSP), .val (.int ((XT.ushr p3 (1 : Int32)) &&& (3 : Int32))), .val (.int qq), .val (.ref b74), .val (.ref b80), .val (.ref b88), .val (.ref b97), .val (.ref b106), .val (.int (if qq < p1 then (0 : Int32) else (1 : Int32))), .val (.int (if p1 < qq then (0 : Int32) else (1 : Int32))), .val (.int (if p1 < p1 then (0 : Int32) else (1 : Int32))), .val (.int (0 : Int32)), .val (.int (0 : Int32)), .unset]) rfl ?_
        show Steps p.tables e below (T121.setTop (mkF m 192 #[.val (.int p1), .val (.int p2), .val (.int p3), .val (.int p4), .val (.ref aSP), .val (.int ((XT.ushr p3 (1 : Int32)) &&& (3 : Int32))), .val (.int qq), .val (.ref b74), .val (.ref b80), .val (.ref b88), .val (.ref b97), .val (.ref b106), .val (.int (if qq < p1 then (0 : Int32) else (1 : Int32))), .val (.int (if p1 < qq then (0 : Int32) else (1 : Int32))), .val (.int (if p1 < p1 then (0 : Int32) else (1 : Int32))), .val (.int (0 : Int32)), .val (.int (0 : Int32)), .unset] [])) _
        refine XS.iload X121.here hx rfl (hb hby at_192) rfl ?_
        show Steps p.tables e below (T121.setTop (mkF m 194 #[.val (.int p1), .val (.int p2), .val (.int p3), .val (.int p4), .val (.ref aSP), .val (.int ((XT.ushr p3 (1 : Int32)) &&& (3 : Int32))), .val (.int qq), .val (.ref b74), .val (.ref b80), .val (.ref b88), .val (.ref b97), .val (.ref b106), .val (.int (if qq < p1 then (0 : Int32) else (1 : Int32))), .val (.int (if p1 < qq then (0 : Int32) else (1 : Int32))), .val (.int (if p1 < p1 then (0 : Int32) else (1 : Int32))), .val (.int (0 : Int32)), .val (.int (0 : Int32)), .unset] [(.int qq)])) _
        refine XS.iloadN X121.here hx rfl (hb hby at_194) rfl ?_
        show Steps p.tables e below (T121.setTop (mkF m 195 #[.val (.int p1), .val (.int p2), .val (.int p3), .val (.int p4), .val (.ref aSP), .val (.int ((XT.ushr p3 (1 : Int32)) &&& (3 : Int32))), .val (.int qq), .val (.ref b74), .val (.ref b80), .val (.ref b88), .val (.ref b97), .val (.ref b106), .val (.int (if qq < p1 then (0 : Int32) else (1 : Int32))), .val (.int (if p1 < qq then (0 : Int32) else (1 : Int32))), .val (.int (if p1 < p1 then (0 : Int32) else (1 : Int32))), .val (.int (0 : Int32)), .val (.int (0 : Int32)), .unset] [(.int p1), (.int qq)])) _
        refine XS.icmpYes X121.here hx rfl (pc0 := 195) (pc' := 203) rfl (hb hby at_195) rfl (XT.ii_lt_t t2) (by decide) (by decide) ?_
        show Steps p.tables e below (T121.setTop (mkF m 203 #[.val (.int p1), .val (.int p2), .val (.int p3), .val (.int p4), .val (.ref aSP), .val (.int ((XT.ushr p3 (1 : Int32)) &&& (3 : Int32))), .val (.int qq), .val (.ref b74), .val (.ref b80), .val (.ref b88), .val (.ref b97), .val (.ref b106), .val (.int (if qq < p1 then (0 : Int32) else (1 : Int32))), .val (.int (if p1 < qq then (0 : Int32) else (1 : Int32))), .val (.int (if p1 < p1 then (0 : Int32) else (1 : Int32))), .val (.int (0 : Int32)), .val (.int (0 : Int32)), .unset] [])) _
        refine XS.iconst X121.here hx rfl (hb hby at_203) ?_
        show Steps p.tables e below (T121.setTop (mkF m 204 #[.val (.int p1), .val (.int p2), .val (.int p3), .val (.int p4), .val (.ref aSP), .val (.int ((XT.ushr p3 (1 : Int32)) &&& (3 : Int32))), .val (.int qq), .val (.ref b74), .val (.ref b80), .val (.ref b88), .val (.ref b97), .val (.ref b106), .val (.int (if qq < p1 then (0 : Int32) else (1 : Int32))), .val (.int (if p1 < qq then (0 : Int32) else (1 : Int32))), .val (.int (if p1 < p1 then (0 : Int32) else (1 : Int32))), .val (.int (0 : Int32)), .val (.int (0 : Int32)), .unset] [(.int (1 : Int32))])) _
        refine XS.goto X121.here hx rfl (pc0 := 204) (pc' := 208) rfl (hb hby at_204) (by decide) (by decide) ?_
        show Steps p.tables e below (T121.setTop (mkF m 208 #[.val (.int p1), .val (.int p2), .val (.int p3), .val (.int p4), .val (.ref aSP), .val (.int ((XT.ushr p3 (1 : Int32)) &&& (3 : Int32))), .val (.int qq), .val (.ref b74), .val (.ref b80), .val (.ref b88), .val (.ref b97), .val (.ref b106), .val (.int (if qq < p1 then (0 : Int32) else (1 : Int32))), .val (.int (if p1 < qq then (0 : Int32) else (1 : Int32))), .val (.int (if p1 < p1 then (0 : Int32) else (1 : Int32))), .val (.int (0 : Int32)), .val (.int (0 : Int32)), .unset] [(.int (1 : Int32))])) _
        refine XS.istore X121.here hx rfl (hb hby at_208) rfl (l' := #[.val (.int p1), .val (.int p2), .val (.int p3), .val (.int p4), .val (.ref aSP), .val (.int ((XT.ushr p3 (1 : Int32)) &&& (3 : Int32))), .val (.int qq), .val (.ref b74), .val (.ref b80), .val (.ref b88), .val (.ref b97), .val (.ref b106), .val (.int (if qq < p1 then (0 : Int32) else (1 : Int32))), .val (.int (if p1 < qq then (0 : Int32) else (1 : Int32))), .val (.int (if p1 < p1 then (0 : Int32) else (1 : Int32))), .val (.int (0 : Int32)), .val (.int (0 : Int32)), .val (.int (1 : Int32))]) rfl ?_
        show Steps p.tables e below (T121.setTop (mkF m 210 #[.val (.int p1), .val (.int p2), .val (.int p3), .val (.int p4), .val (.ref aSP), .val (.int ((XT.ushr p3 (1 : Int32)) &&& (3 : Int32))), .val (.int qq), .val (.ref b74), .val (.ref b80), .val (.ref b88), .val (.ref b97), .val (.ref b106), .val (.int (if qq < p1 then (0 : Int32) else (1 : Int32))), .val (.int (if p1 < qq then (0 : Int32) else (1 : Int32))), .val (.int (if p1 < p1 then (0 : Int32) else (1 : Int32))), .val (.int (0 : Int32)), .val (.int (0 : Int32)), .val (.int (1 : Int32))] [])) _
        refine XS.iload X121.here hx rfl (hb hby at_210) rfl ?_
        show Steps p.tables e below (T121.setTop (mkF m 212 #[.val (.int p1), .val (.int p2), .val (.int p3), .val (.int p4), .val (.ref aSP), .val (.int ((XT.ushr p3 (1 : Int32)) &&& (3 : Int32))), .val (.int qq), .val (.ref b74), .val (.ref b80), .val (.ref b88), .val (.ref b97), .val (.ref b106), .val (.int (if qq < p1 then (0 : Int32) else (1 : Int32))), .val (.int (if p1 < qq then (0 : Int32) else (1 : Int32))), .val (.int (if p1 < p1 then (0 : Int32) else (1 : Int32))), .val (.int (0 : Int32)), .val (.int (0 : Int32)), .val (.int (1 : Int32))] [(.int (if qq < p1 then (0 : Int32) else (1 : Int32)))])) _
        refine XS.iload X121.here hx rfl (hb hby at_212) rfl ?_
        show Steps p.tables e below (T121.setTop (mkF m 214 #[.val (.int p1), .val (.int p2), .val (.int p3), .val (.int p4), .val (.ref aSP), .val (.int ((XT.ushr p3 (1 : Int32)) &&& (3 : Int32))), .val (.int qq), .val (.ref b74), .val (.ref b80), .val (.ref b88), .val (.ref b97), .val (.ref b106), .val (.int (if qq < p1 then (0 : Int32) else (1 : Int32))), .val (.int (if p1 < qq then (0 : Int32) else (1 : Int32))), .val (.int (if p1 < p1 then (0 : Int32) else (1 : Int32))), .val (.int (0 : Int32)), .val (.int (0 : Int32)), .val (.int (1 : Int32))] [(.int (0 : Int32)), (.int (if qq < p1 then (0 : Int32) else (1 : Int32)))])) _
        refine XS.icmpNo X121.here hx rfl (hb hby at_214) rfl (XT.ii_ne_f (by simp only [if_pos t2] <;> decide)) ?_
        show Steps p.tables e below (T121.setTop (mkF m 217 #[.val (.int p1), .val (.int p2), .val (.int p3), .val (.int p4), .val (.ref aSP), .val (.int ((XT.ushr p3 (1 : Int32)) &&& (3 : Int32))), .val (.int qq), .val (.ref b74), .val (.ref b80), .val (.ref b88), .val (.ref b97), .val (.ref b106), .val (.int (if qq < p1 then (0 : Int32) else (1 : Int32))), .val (.int (if p1 < qq then (0 : Int32) else (1 : Int32))), .val (.int (if p1 < p1 then (0 : Int32) else (1 : Int32))), .val (.int (0 : Int32)), .val (.int (0 : Int32)), .val (.int (1 : Int32))] [])) _
        refine XS.iload X121.here hx rfl (hb hby at_217) rfl ?_
        show Steps p.tables e below (T121.setTop (mkF m 219 #[.val (.int p1), .val (.int p2), .val (.int p3), .val (.int p4), .val (.ref aSP), .val (.int ((XT.ushr p3 (1 : Int32)) &&& (3 : Int32))), .val (.int qq), .val (.ref b74), .val (.ref b80), .val (.ref b88), .val (.ref b97), .val (.ref b106), .val (.int (if qq < p1 then (0 : Int32) else (1 : Int32))), .val (.int (if p1 < qq then (0 : Int32) else (1 : Int32))), .val (.int (if p1 < p1 then (0 : Int32) else (1 : Int32))), .val (.int (0 : Int32)), .val (.int (0 : Int32)), .val (.int (1 : Int32))] [(.int (if p1 < qq then (0 : Int32) else (1 : Int32)))])) _
        refine XS.iload X121.here hx rfl (hb hby at_219) rfl ?_
        show Steps p.tables e below (T121.setTop (mkF m 221 #[.val (.int p1), .val (.int p2), .val (.int p3), .val (.int p4), .val (.ref aSP), .val (.int ((XT.ushr p3 (1 : Int32)) &&& (3 : Int32))), .val (.int qq), .val (.ref b74), .val (.ref b80), .val (.ref b88), .val (.ref b97), .val (.ref b106), .val (.int (if qq < p1 then (0 : Int32) else (1 : Int32))), .val (.int (if p1 < qq then (0 : Int32) else (1 : Int32))), .val (.int (if p1 < p1 then (0 : Int32) else (1 : Int32))), .val (.int (0 : Int32)), .val (.int (0 : Int32)), .val (.int (1 : Int32))] [(.int (1 : Int32)), (.int (if p1 < qq then (0 : Int32) else (1 : Int32)))])) _
        refine XS.icmpNo X121.here hx rfl (hb hby at_221) rfl (XT.ii_ne_f (by simp only [if_neg t1] <;> decide)) ?_
        show Steps p.tables e below (T121.setTop (mkF m 224 #[.val (.int p1), .val (.int p2), .val (.int p3), .val (.int p4), .val (.ref aSP), .val (.int ((XT.ushr p3 (1 : Int32)) &&& (3 : Int32))), .val (.int qq), .val (.ref b74), .val (.ref b80), .val (.ref b88), .val (.ref b97), .val (.ref b106), .val (.int (if qq < p1 then (0 : Int32) else (1 : Int32))), .val (.int (if p1 < qq then (0 : Int32) else (1 : Int32))), .val (.int (if p1 < p1 then (0 : Int32) else (1 : Int32))), .val (.int (0 : Int32)), .val (.int (0 : Int32)), .val (.int (1 : Int32))] [])) _
        refine XS.iload X121.here hx rfl (hb hby at_224) rfl ?_
        show Steps p.tables e below (T121.setTop (mkF m 226 #[.val (.int p1), .val (.int p2), .val (.int p3), .val (.int p4), .val (.ref aSP), .val (.int ((XT.ushr p3 (1 : Int32)) &&& (3 : Int32))), .val (.int qq), .val (.ref b74), .val (.ref b80), .val (.ref b88), .val (.ref b97), .val (.ref b106), .val (.int (if qq < p1 then (0 : Int32) else (1 : Int32))), .val (.int (if p1 < qq then (0 : Int32) else (1 : Int32))), .val (.int (if p1 < p1 then (0 : Int32) else (1 : Int32))), .val (.int (0 : Int32)), .val (.int (0 : Int32)), .val (.int (1 : Int32))] [(.int (if p1 < p1 then (0 : Int32) else (1 : Int32)))])) _
        refine XS.ifNo X121.here hx rfl (hb hby at_226) rfl (XT.i0_eq_f (by simp only [if_neg (Int32.lt_irrefl : ¬ p1 < p1)] <;> decide)) ?_
        show Steps p.tables e below (T121.setTop (mkF m 229 #[.val (.int p1), .val (.int p2), .val (.int p3), .val (.int p4), .val (.ref aSP), .val (.int ((XT.ushr p3 (1 : Int32)) &&& (3 : Int32))), .val (.int qq), .val (.ref b74), .val (.ref b80), .val (.ref b88), .val (.ref b97), .val (.ref b106), .val (.int (if qq < p1 then (0 : Int32) else (1 : Int32))), .val (.int (if p1 < qq then (0 : Int32) else (1 : Int32))), .val (.int (if p1 < p1 then (0 : Int32) else (1 : Int32))), .val (.int (0 : Int32)), .val (.int (0 : Int32)), .val (.int (1 : Int32))] [])) _
        refine XS.iload X121.here hx rfl (hb hby at_229) rfl ?_
        show Steps p.tables e below (T121.setTop (mkF m 231 #[.val (.int p1), .val (.int p2), .val (.int p3), .val (.int p4), .val (.ref aSP), .val (.int ((XT.ushr p3 (1 : Int32)) &&& (3 : Int32))), .val (.int qq), .val (.ref b74), .val (.ref b80), .val (.ref b88), .val (.ref b97), .val (.ref b106), .val (.int (if qq < p1 then (0 : Int32) else (1 : Int32))), .val (.int (if p1 < qq then (0 : Int32) else (1 : Int32))), .val (.int (if p1 < p1 then (0 : Int32) else (1 : Int32))), .val (.int (0 : Int32)), .val (.int (0 : Int32)), .val (.int (1 : Int32))] [(.int (if qq < p1 then (0 : Int32) else (1 : Int32)))])) _
        refine XS.ifNo X121.here hx rfl (hb hby at_231) rfl (XT.i0_ne_f (by simp only [if_pos t2] <;> decide)) ?_
        show Steps p.tables e below (T121.setTop (mkF m 234 #[.val (.int p1), .val (.int p2), .val (.int p3), .val (.int p4), .val (.ref aSP), .val (.int ((XT.ushr p3 (1 : Int32)) &&& (3 : Int32))), .val (.int qq), .val (.ref b74), .val (.ref b80), .val (.ref b88), .val (.ref b97), .val (.ref b106), .val (.int (if qq < p1 then (0 : Int32) else (1 : Int32))), .val (.int (if p1 < qq then (0 : Int32) else (1 : Int32))), .val (.int (if p1 < p1 then (0 : Int32) else (1 : Int32))), .val (.int (0 : Int32)), .val (.int (0 : Int32)), .val (.int (1 : Int32))] [])) _
        refine XS.iload X121.here hx rfl (hb hby at_234) rfl ?_
        show Steps p.tables e below (T121.setTop (mkF m 236 #[.val (.int p1), .val (.int p2), .val (.int p3), .val (.int p4), .val (.ref aSP), .val (.int ((XT.ushr p3 (1 : Int32)) &&& (3 : Int32))), .val (.int qq), .val (.ref b74), .val (.ref b80), .val (.ref b88), .val (.ref b97), .val (.ref b106), .val (.int (if qq < p1 then (0 : Int32) else (1 : Int32))), .val (.int (if p1 < qq then (0 : Int32) else (1 : Int32))), .val (.int (if p1 < p1 then (0 : Int32) else (1 : Int32))), .val (.int (0 : Int32)), .val (.int (0 : Int32)), .val (.int (1 : Int32))] [(.int (if p1 < qq then (0 : Int32) else (1 : Int32)))])) _
        refine XS.ifNo X121.here hx rfl (hb hby at_236) rfl (XT.i0_eq_f (by simp only [if_neg t1] <;> decide)) ?_
        show Steps p.tables e below (T121.setTop (mkF m 239 #[.val (.int p1), .val (.int p2), .val (.int p3), .val (.int p4), .val (.ref aSP), .val (.int ((XT.ushr p3 (1 : Int32)) &&& (3 : Int32))), .val (.int qq), .val (.ref b74), .val (.ref b80), .val (.ref b88), .val (.ref b97), .val (.ref b106), .val (.int (if qq < p1 then (0 : Int32) else (1 : Int32))), .val (.int (if p1 < qq then (0 : Int32) else (1 : Int32))), .val (.int (if p1 < p1 then (0 : Int32) else (1 : Int32))), .val (.int (0 : Int32)), .val (.int (0 : Int32)), .val (.int (1 : Int32))] [])) _
        refine XS.iload X121.here hx rfl (hb hby at_239) rfl ?_
        show Steps p.tables e below (T121.setTop (mkF m 241 #[.val (.int p1), .val (.int p2), .val (.int p3), .val (.int p4), .val (.ref aSP), .val (.int ((XT.ushr p3 (1 : Int32)) &&& (3 : Int32))), .val (.int qq), .val (.ref b74), .val (.ref b80), .val (.ref b88), .val (.ref b97), .val (.ref b106), .val (.int (if qq < p1 then (0 : Int32) else (1 : Int32))), .val (.int (if p1 < qq then (0 : Int32) else (1 : Int32))), .val (.int (if p1 < p1 then (0 : Int32) else (1 : Int32))), .val (.int (0 : Int32)), .val (.int (0 : Int32)), .val (.int (1 : Int32))] [(.int (if qq < p1 then (0 : Int32) else (1 : Int32)))])) _
        refine XS.ifYes X121.here hx rfl (pc0 := 241) (pc' := 253) rfl (hb hby at_241) rfl (XT.i0_eq_t (by simp only [if_pos t2] <;> decide)) (by decide) (by decide) ?_
        show Steps p.tables e below (T121.setTop (mkF m 253 #[.val (.int p1), .val (.int p2), .val (.int p3), .val (.int p4), .val (.ref aSP), .val (.int ((XT.ushr p3 (1 : Int32)) &&& (3 : Int32))), .val (.int qq), .val (.ref b74), .val (.ref b80), .val (.ref b88), .val (.ref b97), .val (.ref b106), .val (.int (if qq < p1 then (0 : Int32) else (1 : Int32))), .val (.int (if p1 < qq then (0 : Int32) else (1 : Int32))), .val (.int (if p1 < p1 then (0 : Int32) else (1 : Int32))), .val (.int (0 : Int32)), .val (.int (0 : Int32)), .val (.int (1 : Int32))] [])) _
        refine XS.iconst X121.here hx rfl (hb hby at_253) ?_
        show Steps p.tables e below (T121.setTop (mkF m 254 #[.val (.int p1), .val (.int p2), .val (.int p3), .val (.int p4), .val (.ref aSP), .val (.int ((XT.ushr p3 (1 : Int32)) &&& (3 : Int32))), .val (.int qq), .val (.ref b74), .val (.ref b80), .val (.ref b88), .val (.ref b97), .val (.ref b106), .val (.int (if qq < p1 then (0 : Int32) else (1 : Int32))), .val (.int (if p1 < qq then (0 : Int32) else (1 : Int32))), .val (.int (if p1 < p1 then (0 : Int32) else (1 : Int32))), .val (.int (0 : Int32)), .val (.int (0 : Int32)), .val (.int (1 : Int32))] [(.int (0 : Int32))])) _
        refine XS.iload X121.here hx rfl (hb hby at_254) rfl ?_
        show Steps p.tables e below (T121.setTop (mkF m 256 #[.val (.int p1), .val (.int p2), .val (.int p3), .val (.int p4), .val (.ref aSP), .val (.int ((XT.ushr p3 (1 : Int32)) &&& (3 : Int32))), .val (.int qq), .val (.ref b74), .val (.ref b80), .val (.ref b88), .val (.ref b97), .val (.ref b106), .val (.int (if qq < p1 then (0 : Int32) else (1 : Int32))), .val (.int (if p1 < qq then (0 : Int32) else (1 : Int32))), .val (.int (if p1 < p1 then (0 : Int32) else (1 : Int32))), .val (.int (0 : Int32)), .val (.int (0 : Int32)), .val (.int (1 : Int32))] [(.int (0 : Int32)), (.int (0 : Int32))])) _
        refine XS.icmpNo X121.here hx rfl (hb hby at_256) rfl (XT.ii_ne_f (by decide)) ?_
        show Steps p.tables e below (T121.setTop (mkF m 259 #[.val (.int p1), .val (.int p2), .val (.int p3), .val (.int p4), .val (.ref aSP), .val (.int ((XT.ushr p3 (1 : Int32)) &&& (3 : Int32))), .val (.int qq), .val (.ref b74), .val (.ref b80), .val (.ref b88), .val (.ref b97), .val (.ref b106), .val (.int (if qq < p1 then (0 : Int32) else (1 : Int32))), .val (.int (if p1 < qq then (0 : Int32) else (1 : Int32))), .val (.int (if p1 < p1 then (0 : Int32) else (1 : Int32))), .val (.int (0 : Int32)), .val (.int (0 : Int32)), .val (.int (1 : Int32))] [])) _
        refine XS.iconst X121.here hx rfl (hb hby at_259) ?_
        show Steps p.tables e below (T121.setTop (mkF m 260 #[.val (.int p1), .val (.int p2), .val (.int p3), .val (.int p4), .val (.ref aSP), .val (.int ((XT.ushr p3 (1 : Int32)) &&& (3 : Int32))), .val (.int qq), .val (.ref b74), .val (.ref b80), .val (.ref b88), .val (.ref b97), .val (.ref b106), .val (.int (if qq < p1 then (0 : Int32) else (1 : Int32))), .val (.int (if p1 < qq then (0 : Int32) else (1 : Int32))), .val (.int (if p1 < p1 then (0 : Int32) else (1 : Int32))), .val (.int (0 : Int32)), .val (.int (0 : Int32)), .val (.int (1 : Int32))] [(.int (1 : Int32))])) _
        refine XS.goto X121.here hx rfl (pc0 := 260) (pc' := 264) rfl (hb hby at_260) (by decide) (by decide) ?_
        show Steps p.tables e below (T121.setTop (mkF m 264 #[.val (.int p1), .val (.int p2), .val (.int p3), .val (.int p4), .val (.ref aSP), .val (.int ((XT.ushr p3 (1 : Int32)) &&& (3 : Int32))), .val (.int qq), .val (.ref b74), .val (.ref b80), .val (.ref b88), .val (.ref b97), .val (.ref b106), .val (.int (if qq < p1 then (0 : Int32) else (1 : Int32))), .val (.int (if p1 < qq then (0 : Int32) else (1 : Int32))), .val (.int (if p1 < p1 then (0 : Int32) else (1 : Int32))), .val (.int (0 : Int32)), .val (.int (0 : Int32)), .val (.int (1 : Int32))] [(.int (1 : Int32))])) _
        exact k
      obtain ⟨fs, hr, hrun, hended, hW, hsame⟩ := X121.leave (v := some (.int (1 : Int32))) (fun h => by rw [Bd.returns] at h; cases h)
      refine ⟨_, _, pre_125 _ ?_, hrun, hended, _, _, rfl, ?_, ⟨_, rfl⟩, hW, hsame.mono (by decide) (by decide)⟩
      · show Steps p.tables e below (T121.setTop (mkF m 264 #[.val (.int p1), .val (.int p2), .val (.int p3), .val (.int p4), .val (.ref aSP), .val (.int ((XT.ushr p3 (1 : Int32)) &&& (3 : Int32))), .val (.int qq), .val (.ref b74), .val (.ref b80), .val (.ref b88), .val (.ref b97), .val (.ref b106), .val (.int (if qq < p1 then (0 : Int32) else (1 : Int32))), .val (.int (if p1 < qq then (0 : Int32) else (1 : Int32))), .val (.int (if p1 < p1 then (0 : Int32) else (1 : Int32))), .val (.int (0 : Int32)), .val (.int (0 : Int32)), .val (.int (1 : Int32))] [(.int (1 : Int32))])) _
        exact retN X121 hx (t := .boolean) Bd.returns (by simp) (hb hby at_264) hr
      · show Q_law Z p1 p2 p3 p4 aMOODYS aSP G1 h0 n0 _ T121.heap _
        rw [e121]
        exact ⟨rfl, N121⟩
    · skip
      have pre_126 : ∀ t, Steps p.tables e below (T121.setTop (mkF m 264 #[.val (.int p1), .val (.int p2), .val (.int p3), .val (.int p4), .val (.ref aSP), .val (.int ((XT.ushr p3 (1 : Int32)) &&& (3 : Int32))), .val (.int qq), .val (.ref b74), .val (.ref b80), .val (.ref b88), .val (.ref b97), .val (.ref b106), .val (.int (if qq < p1 then (0 : Int32) else (1 : Int32))), .val (.int (if p1 < qq then (0 : Int32) else (1 : Int32))), .val (.int (if p1 < p1 then (0 : Int32) else (1 : Int32))), .val (.int (1 : Int32)), .val (.int (1 : Int32)), .val (.int (1 : Int32))] [(.int (1 : Int32))])) t → Steps p.tables e below (s₁.setTop (entryFrame m #[(.int p1), (.int p2), (.int p3), (.int p4)] maxLocals)) t := by
        intro t k
        refine pre_123 t ?_
        show Steps p.tables e below (T121.setTop (mkF m 161 #[.val (.int p1), .val (.int p2), .val (.int p3), .val (.int p4), .val (.ref aSP), .val (.int ((XT.ushr p3 (1 : Int32)) &&& (3 : Int32))), .val (.int qq), .val (.ref b74), .val (.ref b80), .val (.ref b88), .val (.ref b97), .val (.ref b106), .val (.int (if qq < p1 then (0 : Int32) else (1 : Int32))), .val (.int (if p1 < qq then (0 : Int32) else (1 : Int32))), .val (.int (if p1 < p1 then (0 : Int32) else (1 : Int32))), .unset, .unset, .unset] [])) _
        refine XS.iloadN X121.here hx rfl (hb hby at_161) rfl ?_
        show Steps p.tables e below (T121.setTop (mkF m 162 #[.val (.int p1), .val (.int p2), .val (.int p3), .val (.int p4), .val (.ref aSP), .val (.int ((XT.ushr p3 (1 : Int32)) &&& (3 : Int32))), .val (.int qq), .val (.ref b74), .val (.ref b80), .val (.ref b88), .val (.ref b97), .val (.ref b106), .val (.int (if qq < p1 then (0 : Int32) else (1 : Int32))), .val (.int (if p1 < qq then (0 : Int32) else (1 : Int32))), .val (.int (if p1 < p1 then (0 : Int32) else (1 : Int32))), .unset, .unset, .unset] [(.int p1)])) _
        refine XS.iload X121.here hx rfl (hb hby at_162) rfl ?_
        show Steps p.tables e below (T121.setTop (mkF m 164 #[.val (.int p1), .val (.int p2), .val (.int p3), .val (.int p4), .val (.ref aSP), .val (.int ((XT.ushr p3 (1 : Int32)) &&& (3 : Int32))), .val (.int qq), .val (.ref b74), .val (.ref b80), .val (.ref b88), .val (.ref b97), .val (.ref b106), .val (.int (if qq < p1 then (0 : Int32) else (1 : Int32))), .val (.int (if p1 < qq then (0 : Int32) else (1 : Int32))), .val (.int (if p1 < p1 then (0 : Int32) else (1 : Int32))), .unset, .unset, .unset] [(.int qq), (.int p1)])) _
        refine XS.icmpNo X121.here hx rfl (hb hby at_164) rfl (XT.ii_ne_f t3) ?_
        show Steps p.tables e below (T121.setTop (mkF m 167 #[.val (.int p1), .val (.int p2), .val (.int p3), .val (.int p4), .val (.ref aSP), .val (.int ((XT.ushr p3 (1 : Int32)) &&& (3 : Int32))), .val (.int qq), .val (.ref b74), .val (.ref b80), .val (.ref b88), .val (.ref b97), .val (.ref b106), .val (.int (if qq < p1 then (0 : Int32) else (1 : Int32))), .val (.int (if p1 < qq then (0 : Int32) else (1 : Int32))), .val (.int (if p1 < p1 then (0 : Int32) else (1 : Int32))), .unset, .unset, .unset] [])) _
        refine XS.iconst X121.here hx rfl (hb hby at_167) ?_
        show Steps p.tables e below (T121.setTop (mkF m 168 #[.val (.int p1), .val (.int p2), .val (.int p3), .val (.int p4), .val (.ref aSP), .val (.int ((XT.ushr p3 (1 : Int32)) &&& (3 : Int32))), .val (.int qq), .val (.ref b74), .val (.ref b80), .val (.ref b88), .val (.ref b97), .val (.ref b106), .val (.int (if qq < p1 then (0 : Int32) else (1 : Int32))), .val (.int (if p1 < qq then (0 : Int32) else (1 : Int32))), .val (.int (if p1 < p1 then (0 : Int32) else (1 : Int32))), .unset, .unset, .unset] [(.int (1 : Int32))])) _
        refine XS.goto X121.here hx rfl (pc0 := 168) (pc' := 172) rfl (hb hby at_168) (by decide) (by decide) ?_
        show Steps p.tables e below (T121.setTop (mkF m 172 #[.val (.int p1), .val (.int p2), .val (.int p3), .val (.int p4), .val (.ref aSP), .val (.int ((XT.ushr p3 (1 : Int32)) &&& (3 : Int32))), .val (.int qq), .val (.ref b74), .val (.ref b80), .val (.ref b88), .val (.ref b97), .val (.ref b106), .val (.int (if qq < p1 then (0 : Int32) else (1 : Int32))), .val (.int (if p1 < qq then (0 : Int32) else (1 : Int32))), .val (.int (if p1 < p1 then (0 : Int32) else (1 : Int32))), .unset, .unset, .unset] [(.int (1 : Int32))])) _
        refine XS.istore X121.here hx rfl (hb hby at_172) rfl (l' := #[.val (.int p1), .val (.int p2), .val (.int p3), .val (.int p4), .val (.ref aSP), .val (.int ((XT.ushr p3 (1 : Int32)) &&& (3 : Int32))), .val (.int qq), .val (.ref b74), .val (.ref b80), .val (.ref b88), .val (.ref b97), .val (.ref b106), .val (.int (if qq < p1 then (0 : Int32) else (1 : Int32))), .val (.int (if p1 < qq then (0 : Int32) else (1 : Int32))), .val (.int (if p1 < p1 then (0 : Int32) else (1 : Int32))), .val (.int (1 : Int32)), .unset, .unset]) rfl ?_
        show Steps p.tables e below (T121.setTop (mkF m 174 #[.val (.int p1), .val (.int p2), .val (.int p3), .val (.int p4), .val (.ref aSP), .val (.int ((XT.ushr p3 (1 : Int32)) &&& (3 : Int32))), .val (.int qq), .val (.ref b74), .val (.ref b80), .val (.ref b88), .val (.ref b97), .val (.ref b106), .val (.int (if qq < p1 then (0 : Int32) else (1 : Int32))), .val (.int (if p1 < qq then (0 : Int32) else (1 : Int32))), .val (.int (if p1 < p1 then (0 : Int32) else (1 : Int32))), .val (.int (1 : Int32)), .unset, .unset] [])) _
        refine XS.iloadN X121.here hx rfl (hb hby at_174) rfl ?_
        show Steps p.tables e below (T121.setTop (mkF m 175 #[.val (.int p1), .val (.int p2), .val (.int p3), .val (.int p4), .val (.ref aSP), .val (.int ((XT.ushr p3 (1 : Int32)) &&& (3 : Int32))), .val (.int qq), .val (.ref b74), .val (.ref b80), .val (.ref b88), .val (.ref b97), .val (.ref b106), .val (.int (if qq < p1 then (0 : Int32) else (1 : Int32))), .val (.int (if p1 < qq then (0 : Int32) else (1 : Int32))), .val (.int (if p1 < p1 then (0 : Int32) else (1 : Int32))), .val (.int (1 : Int32)), .unset, .unset] [(.int p1)])) _
        refine XS.iload X121.here hx rfl (hb hby at_175) rfl ?_
        show Steps p.tables e below (T121.setTop (mkF m 177 #[.val (.int p1), .val (.int p2), .val (.int p3), .val (.int p4), .val (.ref aSP), .val (.int ((XT.ushr p3 (1 : Int32)) &&& (3 : Int32))), .val (.int qq), .val (.ref b74), .val (.ref b80), .val (.ref b88), .val (.ref b97), .val (.ref b106), .val (.int (if qq < p1 then (0 : Int32) else (1 : Int32))), .val (.int (if p1 < qq then (0 : Int32) else (1 : Int32))), .val (.int (if p1 < p1 then (0 : Int32) else (1 : Int32))), .val (.int (1 : Int32)), .unset, .unset] [(.int qq), (.int p1)])) _
        refine XS.icmpNo X121.here hx rfl (hb hby at_177) rfl (XT.ii_lt_f t1) ?_
        show Steps p.tables e below (T121.setTop (mkF m 180 #[.val (.int p1), .val (.int p2), .val (.int p3), .val (.int p4), .val (.ref aSP), .val (.int ((XT.ushr p3 (1 : Int32)) &&& (3 : Int32))), .val (.int qq), .val (.ref b74), .val (.ref b80), .val (.ref b88), .val (.ref b97), .val (.ref b106), .val (.int (if qq < p1 then (0 : Int32) else (1 : Int32))), .val (.int (if p1 < qq then (0 : Int32) else (1 : Int32))), .val (.int (if p1 < p1 then (0 : Int32) else (1 : Int32))), .val (.int (1 : Int32)), .unset, .unset] [])) _
        refine XS.iload X121.here hx rfl (hb hby at_180) rfl ?_
        show Steps p.tables e below (T121.setTop (mkF m 182 #[.val (.int p1), .val (.int p2), .val (.int p3), .val (.int p4), .val (.ref aSP), .val (.int ((XT.ushr p3 (1 : Int32)) &&& (3 : Int32))), .val (.int qq), .val (.ref b74), .val (.ref b80), .val (.ref b88), .val (.ref b97), .val (.ref b106), .val (.int (if qq < p1 then (0 : Int32) else (1 : Int32))), .val (.int (if p1 < qq then (0 : Int32) else (1 : Int32))), .val (.int (if p1 < p1 then (0 : Int32) else (1 : Int32))), .val (.int (1 : Int32)), .unset, .unset] [(.int (1 : Int32))])) _
        refine XS.ifNo X121.here hx rfl (hb hby at_182) rfl (XT.i0_eq_f (by decide)) ?_
        show Steps p.tables e below (T121.setTop (mkF m 185 #[.val (.int p1), .val (.int p2), .val (.int p3), .val (.int p4), .val (.ref aSP), .val (.int ((XT.ushr p3 (1 : Int32)) &&& (3 : Int32))), .val (.int qq), .val (.ref b74), .val (.ref b80), .val (.ref b88), .val (.ref b97), .val (.ref b106), .val (.int (if qq < p1 then (0 : Int32) else (1 : Int32))), .val (.int (if p1 < qq then (0 : Int32) else (1 : Int32))), .val (.int (if p1 < p1 then (0 : Int32) else (1 : Int32))), .val (.int (1 : Int32)), .unset, .unset] [])) _
        refine XS.iconst X121.here hx rfl (hb hby at_185) ?_
        show Steps p.tables e below (T121.setTop (mkF m 186 #[.val (.int p1), .val (.int p2), .val (.int p3), .val (.int p4), .val (.ref aSP), .val (.int ((XT.ushr p3 (1 : Int32)) &&& (3 : Int32))), .val (.int qq), .val (.ref b74), .val (.ref b80), .val (.ref b88), .val (.ref b97), .val (.ref b106), .val (.int (if qq < p1 then (0 : Int32) else (1 : Int32))), .val (.int (if p1 < qq then (0 : Int32) else (1 : Int32))), .val (.int (if p1 < p1 then (0 : Int32) else (1 : Int32))), .val (.int (1 : Int32)), .unset, .unset] [(.int (1 : Int32))])) _
        refine XS.goto X121.here hx rfl (pc0 := 186) (pc' := 190) rfl (hb hby at_186) (by decide) (by decide) ?_
        show Steps p.tables e below (T121.setTop (mkF m 190 #[.val (.int p1), .val (.int p2), .val (.int p3), .val (.int p4), .val (.ref aSP), .val (.int ((XT.ushr p3 (1 : Int32)) &&& (3 : Int32))), .val (.int qq), .val (.ref b74), .val (.ref b80), .val (.ref b88), .val (.ref b97), .val (.ref b106), .val (.int (if qq < p1 then (0 : Int32) else (1 : Int32))), .val (.int (if p1 < qq then (0 : Int32) else (1 : Int32))), .val (.int (if p1 < p1 then (0 : Int32) else (1 : Int32))), .val (.int (1 : Int32)), .unset, .unset] [(.int (1 : Int32))])) _
        refine XS.istore X121.here hx rfl (hb hby at_190) rfl (l' := #[.val (.int p1), .val (.int p2), .val (.int p3), .val (.int p4), .val (.ref aSP), .val (.int ((XT.ushr p3 (1 : Int32)) &&& (3 : Int32))), .val (.int qq), .val (.ref b74), .val (.ref b80), .val (.ref b88), .val (.ref b97), .val (.ref b106), .val (.int (if qq < p1 then (0 : Int32) else (1 : Int32))), .val (.int (if p1 < qq then (0 : Int32) else (1 : Int32))), .val (.int (if p1 < p1 then (0 : Int32) else (1 : Int32))), .val (.int (1 : Int32)), .val (.int (1 : Int32)), .unset]) rfl ?_
        show Steps p.tables e below (T121.setTop (mkF m 192 #[.val (.int p1), .val (.int p2), .val (.int p3), .val (.int p4), .val (.ref aSP), .val (.int ((XT.ushr p3 (1 : Int32)) &&& (3 : Int32))), .val (.int qq), .val (.ref b74), .val (.ref b80), .val (.ref b88), .val (.ref b97), .val (.ref b106), .val (.int (if qq < p1 then (0 : Int32) else (1 : Int32))), .val (.int (if p1 < qq then (0 : Int32) else (1 : Int32))), .val (.int (if p1 < p1 then (0 : Int32) else (1 : Int32))), .val (.int (1 : Int32)), .val (.int (1 : Int32)), .unset] [])) _
        refine XS.iload X121.here hx rfl (hb hby at_192) rfl ?_
        show Steps p.tables e below (T121.setTop (mkF m 194 #[.val (.int p1), .val (.int p2), .val (.int p3), .val (.int p4), .val (.ref aSP), .val (.int ((XT.ushr p3 (1 : Int32)) &&& (3 : Int32))), .val (.int qq), .val (.ref b74), .val (.ref b80), .val (.ref b88), .val (.ref b97), .val (.ref b106), .val (.int (if qq < p1 then (0 : Int32) else (1 : Int32))), .val (.int (if p1 < qq then (0 : Int32) else (1 : Int32))), .val (.int (if p1 < p1 then (0 : Int32) else (1 : Int32))), .val (.int (1 : Int32)), .val (.int (1 : Int32)), .unset] [(.int qq)])) _
        refine XS.iloadN X121.here hx rfl (hb hby at_194) rfl ?_
        show Steps p.tables e below (T121.setTop (mkF m 195 #[.val (.int p1), .val (.int p2), .val (.int p3), .val (.int p4), .val (.ref aSP), .val (.int ((XT.ushr p3 (1 : Int32)) &&& (3 : Int32))), .val (.int qq), .val (.ref b74), .val (.ref b80), .val (.ref b88), .val (.ref b97), .val (.ref b106), .val (.int (if qq < p1 then (0 : Int32) else (1 : Int32))), .val (.int (if p1 < qq then (0 : Int32) else (1 : Int32))), .val (.int (if p1 < p1 then (0 : Int32) else (1 : Int32))), .val (.int (1 : Int32)), .val (.int (1 : Int32)), .unset] [(.int p1), (.int qq)])) _
        refine XS.icmpNo X121.here hx rfl (hb hby at_195) rfl (XT.ii_lt_f t2) ?_
        show Steps p.tables e below (T121.setTop (mkF m 198 #[.val (.int p1), .val (.int p2), .val (.int p3), .val (.int p4), .val (.ref aSP), .val (.int ((XT.ushr p3 (1 : Int32)) &&& (3 : Int32))), .val (.int qq), .val (.ref b74), .val (.ref b80), .val (.ref b88), .val (.ref b97), .val (.ref b106), .val (.int (if qq < p1 then (0 : Int32) else (1 : Int32))), .val (.int (if p1 < qq then (0 : Int32) else (1 : Int32))), .val (.int (if p1 < p1 then (0 : Int32) else (1 : Int32))), .val (.int (1 : Int32)), .val (.int (1 : Int32)), .unset] [])) _
        refine XS.iload X121.here hx rfl (hb hby at_198) rfl ?_
        show Steps p.tables e below (T121.setTop (mkF m 200 #[.val (.int p1), .val (.int p2), .val (.int p3), .val (.int p4), .val (.ref aSP), .val (.int ((XT.ushr p3 (1 : Int32)) &&& (3 : Int32))), .val (.int qq), .val (.ref b74), .val (.ref b80), .val (.ref b88), .val (.ref b97), .val (.ref b106), .val (.int (if qq < p1 then (0 : Int32) else (1 : Int32))), .val (.int (if p1 < qq then (0 : Int32) else (1 : Int32))), .val (.int (if p1 < p1 then (0 : Int32) else (1 : Int32))), .val (.int (1 : Int32)), .val (.int (1 : Int32)), .unset] [(.int (1 : Int32))])) _
        refine XS.ifNo X121.here hx rfl (hb hby at_200) rfl (XT.i0_eq_f (by decide)) ?_
        show Steps p.tables e below (T121.setTop (mkF m 203 #[.val (.int p1), .val (.int p2), .val (.int p3), .val (.int p4), .val (.ref aSP), .val (.int ((XT.ushr p3 (1 : Int32)) &&& (3 : Int32))), .val (.int qq), .val (.ref b74), .val (.ref b80), .val (.ref b88), .val (.ref b97), .val (.ref b106), .val (.int (if qq < p1 then (0 : Int32) else (1 : Int32))), .val (.int (if p1 < qq then (0 : Int32) else (1 : Int32))), .val (.int (if p1 < p1 then (0 : Int32) else (1 : Int32))), .val (.int (1 : Int32)), .val (.int (1 : Int32)), .unset] [])) _
        refine XS.iconst X121.here hx rfl (hb hby at_203) ?_
        show Steps p.tables e below (T121.setTop (mkF m 204 #[.val (.int p1), .val (.int p2), .val (.int p3), .val (.int p4), .val (.ref aSP), .val (.int ((XT.ushr p3 (1 : Int32)) &&& (3 : Int32))), .val (.int qq), .val (.ref b74), .val (.ref b80), .val (.ref b88), .val (.ref b97), .val (.ref b106), .val (.int (if qq < p1 then (0 : Int32) else (1 : Int32))), .val (.int (if p1 < qq then (0 : Int32) else (1 : Int32))), .val (.int (if p1 < p1 then (0 : Int32) else (1 : Int32))), .val (.int (1 : Int32)), .val (.int (1 : Int32)), .unset] [(.int (1 : Int32))])) _
        refine XS.goto X121.here hx rfl (pc0 := 204) (pc' := 208) rfl (hb hby at_204) (by decide) (by decide) ?_
        show Steps p.tables e below (T121.setTop (mkF m 208 #[.val (.int p1), .val (.int p2), .val (.int p3), .val (.int p4), .val (.ref aSP), .val (.int ((XT.ushr p3 (1 : Int32)) &&& (3 : Int32))), .val (.int qq), .val (.ref b74), .val (.ref b80), .val (.ref b88), .val (.ref b97), .val (.ref b106), .val (.int (if qq < p1 then (0 : Int32) else (1 : Int32))), .val (.int (if p1 < qq then (0 : Int32) else (1 : Int32))), .val (.int (if p1 < p1 then (0 : Int32) else (1 : Int32))), .val (.int (1 : Int32)), .val (.int (1 : Int32)), .unset] [(.int (1 : Int32))])) _
        refine XS.istore X121.here hx rfl (hb hby at_208) rfl (l' := #[.val (.int p1), .val (.int p2), .val (.int p3), .val (.int p4), .val (.ref aSP), .val (.int ((XT.ushr p3 (1 : Int32)) &&& (3 : Int32))), .val (.int qq), .val (.ref b74), .val (.ref b80), .val (.ref b88), .val (.ref b97), .val (.ref b106), .val (.int (if qq < p1 then (0 : Int32) else (1 : Int32))), .val (.int (if p1 < qq then (0 : Int32) else (1 : Int32))), .val (.int (if p1 < p1 then (0 : Int32) else (1 : Int32))), .val (.int (1 : Int32)), .val (.int (1 : Int32)), .val (.int (1 : Int32))]) rfl ?_
        show Steps p.tables e below (T121.setTop (mkF m 210 #[.val (.int p1), .val (.int p2), .val (.int p3), .val (.int p4), .val (.ref aSP), .val (.int ((XT.ushr p3 (1 : Int32)) &&& (3 : Int32))), .val (.int qq), .val (.ref b74), .val (.ref b80), .val (.ref b88), .val (.ref b97), .val (.ref b106), .val (.int (if qq < p1 then (0 : Int32) else (1 : Int32))), .val (.int (if p1 < qq then (0 : Int32) else (1 : Int32))), .val (.int (if p1 < p1 then (0 : Int32) else (1 : Int32))), .val (.int (1 : Int32)), .val (.int (1 : Int32)), .val (.int (1 : Int32))] [])) _
        refine XS.iload X121.here hx rfl (hb hby at_210) rfl ?_
        show Steps p.tables e below (T121.setTop (mkF m 212 #[.val (.int p1), .val (.int p2), .val (.int p3), .val (.int p4), .val (.ref aSP), .val (.int ((XT.ushr p3 (1 : Int32)) &&& (3 : Int32))), .val (.int qq), .val (.ref b74), .val (.ref b80), .val (.ref b88), .val (.ref b97), .val (.ref b106), .val (.int (if qq < p1 then (0 : Int32) else (1 : Int32))), .val (.int (if p1 < qq then (0 : Int32) else (1 : Int32))), .val (.int (if p1 < p1 then (0 : Int32) else (1 : Int32))), .val (.int (1 : Int32)), .val (.int (1 : Int32)), .val (.int (1 : Int32))] [(.int (if qq < p1 then (0 : Int32) else (1 : Int32)))])) _
        refine XS.iload X121.here hx rfl (hb hby at_212) rfl ?_
        show Steps p.tables e below (T121.setTop (mkF m 214 #[.val (.int p1), .val (.int p2), .val (.int p3), .val (.int p4), .val (.ref aSP), .val (.int ((XT.ushr p3 (1 : Int32)) &&& (3 : Int32))), .val (.int qq), .val (.ref b74), .val (.ref b80), .val (.ref b88), .val (.ref b97), .val (.ref b106), .val (.int (if qq < p1 then (0 : Int32) else (1 : Int32))), .val (.int (if p1 < qq then (0 : Int32) else (1 : Int32))), .val (.int (if p1 < p1 then (0 : Int32) else (1 : Int32))), .val (.int (1 : Int32)), .val (.int (1 : Int32)), .val (.int (1 : Int32))] [(.int (1 : Int32)), (.int (if qq < p1 then (0 : Int32) else (1 : Int32)))])) _
        refine XS.icmpNo X121.here hx rfl (hb hby at_214) rfl (XT.ii_ne_f (by simp only [if_neg t2] <;> decide)) ?_
        show Steps p.tables e below (T121.setTop (mkF m 217 #[.val (.int p1), .val (.int p2), .val (.int p3), .val (.int p4), .val (.ref aSP), .val (.int ((XT.ushr p3 (1 : Int32)) &&& (3 : Int32))), .val (.int qq), .val (.ref b74), .val (.ref b80), .val (.ref b88), .val (.ref b97), .val (.ref b106), .val (.int (if qq < p1 then (0 : Int32) else (1 : Int32))), .val (.int (if p1 < qq then (0 : Int32) else (1 : Int32))), .val (.int (if p1 < p1 then (0 : Int32) else (1 : Int32))), .val (.int (1 : Int32)), .val (.int (1 : Int32)), .val (.int (1 : Int32))] [])) _
        refine XS.iload X121.here hx rfl (hb hby at_217) rfl ?_
        show Steps p.tables e below (T121.setTop (mkF m 219 #[.val (.int p1), .val (.int p2), .val (.int p3), .val (.int p4), .val (.ref aSP), .val (.int ((XT.ushr p3 (1 : Int32)) &&& (3 : Int32))), .val (.int qq), .val (.ref b74), .val (.ref b80), .val (.ref b88), .val (.ref b97), .val (.ref b106), .val (.int (if qq < p1 then (0 : Int32) else (1 : Int32))), .val (.int (if p1 < qq then (0 : Int32) else (1 : Int32))), .val (.int (if p1 < p1 then (0 : Int32) else (1 : Int32))), .val (.int (1 : Int32)), .val (.int (1 : Int32)), .val (.int (1 : Int32))] [(.int (if p1 < qq then (0 : Int32) else (1 : Int32)))])) _
        refine XS.iload X121.here hx rfl (hb hby at_219) rfl ?_
        show Steps p.tables e below (T121.setTop (mkF m 221 #[.val (.int p1), .val (.int p2), .val (.int p3), .val (.int p4), .val (.ref aSP), .val (.int ((XT.ushr p3 (1 : Int32)) &&& (3 : Int32))), .val (.int qq), .val (.ref b74), .val (.ref b80), .val (.ref b88), .val (.ref b97), .val (.ref b106), .val (.int (if qq < p1 then (0 : Int32) else (1 : Int32))), .val (.int (if p1 < qq then (0 : Int32) else (1 : Int32))), .val (.int (if p1 < p1 then (0 : Int32) else (1 : Int32))), .val (.int (1 : Int32)), .val (.int (1 : Int32)), .val (.int (1 : Int32))] [(.int (1 : Int32)), (.int (if p1 < qq then (0 : Int32) else (1 : Int32)))])) _
        refine XS.icmpNo X121.here hx rfl (hb hby at_221) rfl (XT.ii_ne_f (by simp only [if_neg t1] <;> decide)) ?_
        show Steps p.tables e below (T121.setTop (mkF m 224 #[.val (.int p1), .val (.int p2), .val (.int p3), .val (.int p4), .val (.ref aSP), .val (.int ((XT.ushr p3 (1 : Int32)) &&& (3 : Int32))), .val (.int qq), .val (.ref b74), .val (.ref b80), .val (.ref b88), .val (.ref b97), .val (.ref b106), .val (.int (if qq < p1 then (0 : Int32) else (1 : Int32))), .val (.int (if p1 < qq then (0 : Int32) else (1 : Int32))), .val (.int (if p1 < p1 then (0 : Int32) else (1 : Int32))), .val (.int (1 : Int32)), .val (.int (1 : Int32)), .val (.int (1 : Int32))] [])) _
        refine XS.iload X121.here hx rfl (hb hby at_224) rfl ?_
        show Steps p.tables e below (T121.setTop (mkF m 226 #[.val (.int p1), .val (.int p2), .val (.int p3), .val (.int p4), .val (.ref aSP), .val (.int ((XT.ushr p3 (1 : Int32)) &&& (3 : Int32))), .val (.int qq), .val (.ref b74), .val (.ref b80), .val (.ref b88), .val (.ref b97), .val (.ref b106), .val (.int (if qq < p1 then (0 : Int32) else (1 : Int32))), .val (.int (if p1 < qq then (0 : Int32) else (1 : Int32))), .val (.int (if p1 < p1 then (0 : Int32) else (1 : Int32))), .val (.int (1 : Int32)), .val (.int (1 : Int32)), .val (.int (1 : Int32))] [(.int (if p1 < p1 then (0 : Int32) else (1 : Int32)))])) _
        refine XS.ifNo X121.here hx rfl (hb hby at_226) rfl (XT.i0_eq_f (by simp only [if_neg (Int32.lt_irrefl : ¬ p1 < p1)] <;> decide)) ?_
        show Steps p.tables e below (T121.setTop (mkF m 229 #[.val (.int p1), .val (.int p2), .val (.int p3), .val (.int p4), .val (.ref aSP), .val (.int ((XT.ushr p3 (1 : Int32)) &&& (3 : Int32))), .val (.int qq), .val (.ref b74), .val (.ref b80), .val (.ref b88), .val (.ref b97), .val (.ref b106), .val (.int (if qq < p1 then (0 : Int32) else (1 : Int32))), .val (.int (if p1 < qq then (0 : Int32) else (1 : Int32))), .val (.int (if p1 < p1 then (0 : Int32) else (1 : Int32))), .val (.int (1 : Int32)), .val (.int (1 : Int32)), .val (.int (1 : Int32))] [])) _
        refine XS.iload X121.here hx rfl (hb hby at_229) rfl ?_
        show Steps p.tables e below (T121.setTop (mkF m 231 #[.val (.int p1), .val (.int p2), .val (.int p3), .val (.int p4), .val (.ref aSP), .val (.int ((XT.ushr p3 (1 : Int32)) &&& (3 : Int32))), .val (.int qq), .val (.ref b74), .val (.ref b80), .val (.ref b88), .val (.ref b97), .val (.ref b106), .val (.int (if qq < p1 then (0 : Int32) else (1 : Int32))), .val (.int (if p1 < qq then (0 : Int32) else (1 : Int32))), .val (.int (if p1 < p1 then (0 : Int32) else (1 : Int32))), .val (.int (1 : Int32)), .val (.int (1 : Int32)), .val (.int (1 : Int32))] [(.int (if qq < p1 then (0 : Int32) else (1 : Int32)))])) _
        refine XS.ifYes X121.here hx rfl (pc0 := 231) (pc' := 239) rfl (hb hby at_231) rfl (XT.i0_ne_t (by simp only [if_neg t2] <;> decide)) (by decide) (by decide) ?_
        show Steps p.tables e below (T121.setTop (mkF m 239 #[.val (.int p1), .val (.int p2), .val (.int p3), .val (.int p4), .val (.ref aSP), .val (.int ((XT.ushr p3 (1 : Int32)) &&& (3 : Int32))), .val (.int qq), .val (.ref b74), .val (.ref b80), .val (.ref b88), .val (.ref b97), .val (.ref b106), .val (.int (if qq < p1 then (0 : Int32) else (1 : Int32))), .val (.int (if p1 < qq then (0 : Int32) else (1 : Int32))), .val (.int (if p1 < p1 then (0 : Int32) else (1 : Int32))), .val (.int (1 : Int32)), .val (.int (1 : Int32)), .val (.int (1 : Int32))] [])) _
        refine XS.iload X121.here hx rfl (hb hby at_239) rfl ?_
        show Steps p.tables e below (T121.setTop (mkF m 241 #[.val (.int p1), .val (.int p2), .val (.int p3), .val (.int p4), .val (.ref aSP), .val (.int ((XT.ushr p3 (1 : Int32)) &&& (3 : Int32))), .val (.int qq), .val (.ref b74), .val (.ref b80), .val (.ref b88), .val (.ref b97), .val (.ref b106), .val (.int (if qq < p1 then (0 : Int32) else (1 : Int32))), .val (.int (if p1 < qq then (0 : Int32) else (1 : Int32))), .val (.int (if p1 < p1 then (0 : Int32) else (1 : Int32))), .val (.int (1 : Int32)), .val (.int (1 : Int32)), .val (.int (1 : Int32))] [(.int (if qq < p1 then (0 : Int32) else (1 : Int32)))])) _
        refine XS.ifNo X121.here hx rfl (hb hby at_241) rfl (XT.i0_eq_f (by simp only [if_neg t2] <;> decide)) ?_
        show Steps p.tables e below (T121.setTop (mkF m 244 #[.val (.int p1), .val (.int p2), .val (.int p3), .val (.int p4), .val (.ref aSP), .val (.int ((XT.ushr p3 (1 : Int32)) &&& (3 : Int32))), .val (.int qq), .val (.ref b74), .val (.ref b80), .val (.ref b88), .val (.ref b97), .val (.ref b106), .val (.int (if qq < p1 then (0 : Int32) else (1 : Int32))), .val (.int (if p1 < qq then (0 : Int32) else (1 : Int32))), .val (.int (if p1 < p1 then (0 : Int32) else (1 : Int32))), .val (.int (1 : Int32)), .val (.int (1 : Int32)), .val (.int (1 : Int32))] [])) _
        refine XS.iload X121.here hx rfl (hb hby at_244) rfl ?_
        show Steps p.tables e below (T121.setTop (mkF m 246 #[.val (.int p1), .val (.int p2), .val (.int p3), .val (.int p4), .val (.ref aSP), .val (.int ((XT.ushr p3 (1 : Int32)) &&& (3 : Int32))), .val (.int qq), .val (.ref b74), .val (.ref b80), .val (.ref b88), .val (.ref b97), .val (.ref b106), .val (.int (if qq < p1 then (0 : Int32) else (1 : Int32))), .val (.int (if p1 < qq then (0 : Int32) else (1 : Int32))), .val (.int (if p1 < p1 then (0 : Int32) else (1 : Int32))), .val (.int (1 : Int32)), .val (.int (1 : Int32)), .val (.int (1 : Int32))] [(.int (if p1 < qq then (0 : Int32) else (1 : Int32)))])) _
        refine XS.ifNo X121.here hx rfl (hb hby at_246) rfl (XT.i0_eq_f (by simp only [if_neg t1] <;> decide)) ?_
        show Steps p.tables e below (T121.setTop (mkF m 249 #[.val (.int p1), .val (.int p2), .val (.int p3), .val (.int p4), .val (.ref aSP), .val (.int ((XT.ushr p3 (1 : Int32)) &&& (3 : Int32))), .val (.int qq), .val (.ref b74), .val (.ref b80), .val (.ref b88), .val (.ref b97), .val (.ref b106), .val (.int (if qq < p1 then (0 : Int32) else (1 : Int32))), .val (.int (if p1 < qq then (0 : Int32) else (1 : Int32))), .val (.int (if p1 < p1 then (0 : Int32) else (1 : Int32))), .val (.int (1 : Int32)), .val (.int (1 : Int32)), .val (.int (1 : Int32))] [])) _
        refine XS.iconst X121.here hx rfl (hb hby at_249) ?_
        show Steps p.tables e below (T121.setTop (mkF m 250 #[.val (.int p1), .val (.int p2), .val (.int p3), .val (.int p4), .val (.ref aSP), .val (.int ((XT.ushr p3 (1 : Int32)) &&& (3 : Int32))), .val (.int qq), .val (.ref b74), .val (.ref b80), .val (.ref b88), .val (.ref b97), .val (.ref b106), .val (.int (if qq < p1 then (0 : Int32) else (1 : Int32))), .val (.int (if p1 < qq then (0 : Int32) else (1 : Int32))), .val (.int (if p1 < p1 then (0 : Int32) else (1 : Int32))), .val (.int (1 : Int32)), .val (.int (1 : Int32)), .val (.int (1 : Int32))] [(.int (1 : Int32))])) _
        refine XS.goto X121.here hx rfl (pc0 := 250) (pc' := 254) rfl (hb hby at_250) (by decide) (by decide) ?_
        show Steps p.tables e below (T121.setTop (mkF m 254 #[.val (.int p1), .val (.int p2), .val (.int p3), .val (.int p4), .val (.ref aSP), .val (.int ((XT.ushr p3 (1 : Int32)) &&& (3 : Int32))), .val (.int qq), .val (.ref b74), .val (.ref b80), .val (.ref b88), .val (.ref b97), .val (.ref b106), .val (.int (if qq < p1 then (0 : Int32) else (1 : Int32))), .val (.int (if p1 < qq then (0 : Int32) else (1 : Int32))), .val (.int (if p1 < p1 then (0 : Int32) else (1 : Int32))), .val (.int (1 : Int32)), .val (.int (1 : Int32)), .val (.int (1 : Int32))] [(.int (1 : Int32))])) _
        refine XS.iload X121.here hx rfl (hb hby at_254) rfl ?_
        show Steps p.tables e below (T121.setTop (mkF m 256 #[.val (.int p1), .val (.int p2), .val (.int p3), .val (.int p4), .val (.ref aSP), .val (.int ((XT.ushr p3 (1 : Int32)) &&& (3 : Int32))), .val (.int qq), .val (.ref b74), .val (.ref b80), .val (.ref b88), .val (.ref b97), .val (.ref b106), .val (.int (if qq < p1 then (0 : Int32) else (1 : Int32))), .val (.int (if p1 < qq then (0 : Int32) else (1 : Int32))), .val (.int (if p1 < p1 then (0 : Int32) else (1 : Int32))), .val (.int (1 : Int32)), .val (.int (1 : Int32)), .val (.int (1 : Int32))] [(.int (1 : Int32)), (.int (1 : Int32))])) _
        refine XS.icmpNo X121.here hx rfl (hb hby at_256) rfl (XT.ii_ne_f (by decide)) ?_
        show Steps p.tables e below (T121.setTop (mkF m 259 #[.val (.int p1), .val (.int p2), .val (.int p3), .val (.int p4), .val (.ref aSP), .val (.int ((XT.ushr p3 (1 : Int32)) &&& (3 : Int32))), .val (.int qq), .val (.ref b74), .val (.ref b80), .val (.ref b88), .val (.ref b97), .val (.ref b106), .val (.int (if qq < p1 then (0 : Int32) else (1 : Int32))), .val (.int (if p1 < qq then (0 : Int32) else (1 : Int32))), .val (.int (if p1 < p1 then (0 : Int32) else (1 : Int32))), .val (.int (1 : Int32)), .val (.int (1 : Int32)), .val (.int (1 : Int32))] [])) _
        refine XS.iconst X121.here hx rfl (hb hby at_259) ?_
        show Steps p.tables e below (T121.setTop (mkF m 260 #[.val (.int p1), .val (.int p2), .val (.int p3), .val (.int p4), .val (.ref aSP), .val (.int ((XT.ushr p3 (1 : Int32)) &&& (3 : Int32))), .val (.int qq), .val (.ref b74), .val (.ref b80), .val (.ref b88), .val (.ref b97), .val (.ref b106), .val (.int (if qq < p1 then (0 : Int32) else (1 : Int32))), .val (.int (if p1 < qq then (0 : Int32) else (1 : Int32))), .val (.int (if p1 < p1 then (0 : Int32) else (1 : Int32))), .val (.int (1 : Int32)), .val (.int (1 : Int32)), .val (.int (1 : Int32))] [(.int (1 : Int32))])) _
        refine XS.goto X121.here hx rfl (pc0 := 260) (pc' := 264) rfl (hb hby at_260) (by decide) (by decide) ?_
        show Steps p.tables e below (T121.setTop (mkF m 264 #[.val (.int p1), .val (.int p2), .val (.int p3), .val (.int p4), .val (.ref aSP), .val (.int ((XT.ushr p3 (1 : Int32)) &&& (3 : Int32))), .val (.int qq), .val (.ref b74), .val (.ref b80), .val (.ref b88), .val (.ref b97), .val (.ref b106), .val (.int (if qq < p1 then (0 : Int32) else (1 : Int32))), .val (.int (if p1 < qq then (0 : Int32) else (1 : Int32))), .val (.int (if p1 < p1 then (0 : Int32) else (1 : Int32))), .val (.int (1 : Int32)), .val (.int (1 : Int32)), .val (.int (1 : Int32))] [(.int (1 : Int32))])) _
        exact k
      obtain ⟨fs, hr, hrun, hended, hW, hsame⟩ := X121.leave (v := some (.int (1 : Int32))) (fun h => by rw [Bd.returns] at h; cases h)
      refine ⟨_, _, pre_126 _ ?_, hrun, hended, _, _, rfl, ?_, ⟨_, rfl⟩, hW, hsame.mono (by decide) (by decide)⟩
      · show Steps p.tables e below (T121.setTop (mkF m 264 #[.val (.int p1), .val (.int p2), .val (.int p3), .val (.int p4), .val (.ref aSP), .val (.int ((XT.ushr p3 (1 : Int32)) &&& (3 : Int32))), .val (.int qq), .val (.ref b74), .val (.ref b80), .val (.ref b88), .val (.ref b97), .val (.ref b106), .val (.int (if qq < p1 then (0 : Int32) else (1 : Int32))), .val (.int (if p1 < qq then (0 : Int32) else (1 : Int32))), .val (.int (if p1 < p1 then (0 : Int32) else (1 : Int32))), .val (.int (1 : Int32)), .val (.int (1 : Int32)), .val (.int (1 : Int32))] [(.int (1 : Int32))])) _
        exact retN X121 hx (t := .boolean) Bd.returns (by simp) (hb hby at_264) hr
      · show Q_law Z p1 p2 p3 p4 aMOODYS aSP G1 h0 n0 _ T121.heap _
        rw [e121]
        exact ⟨rfl, N121⟩
set_option maxRecDepth 65536 in
set_option maxHeartbeats 40000000 in
theorem comes_1 {Post : Tables → Env → Array Value → State → Outcome → State → Prop} (hpost : ∀ tb e args s v u, (limb_1_1.after args s (.returned v) u = true ∧ limb_1_2.after args s (.returned v) u = true ∧ True) → FrameEnd s (.returned v) u (Jvm.fieldLocs frame_1_writes args s ++ Jvm.arrayLocs frame_1_arrays args s ++ Jvm.staticLocs frame_1_statics s) 24 128 → Post tb e args s (.returned v) u) :
    ArmFor flags0 classFile x code maxLocals ret World_1 tables_1 room_1 Calls_1 rest_1 Pre_1 Post := by
  intro l hfl _ _ p e ha hc hk s m args below hf hA hF happ hP
  obtain ⟨hcalls, hrest, hpre⟩ := hP
  obtain ⟨-, -, -, hnamed, -, -, -, hat⟩ := (Spec.applies_iff hf).mp happ
  obtain ⟨hg, hn⟩ := and_e (Cond.before_iff.mp (show (Jvm.Cond.and given_1 narrow_1).before args s = true from hpre))
  obtain ⟨hg0, hgs⟩ := and_e hg
  obtain ⟨w0, w1, w2, w3, rfl⟩ : ∃ w0 w1 w2 w3 : Value, args = #[w0, w1, w2, w3] := by
    have hs : args.size = 4 := by simpa [Cond.value, given_1] using hg0
    obtain ⟨L⟩ := args
    match L, hs with
    | [w0, w1, w2, w3], _ => exact ⟨w0, w1, w2, w3, rfl⟩
  have hw := fun d (hd : d ∈ tables_1) => atoms_spec (ws := Jvm.Cond.code x code maxLocals ret :: tables_1) hat d (List.mem_cons_of_mem _ hd)
  have hfit : Fit s := fun {y c} hc i hi => by
    obtain ⟨ha, rfl⟩ := Array.getElem?_eq_some_iff.mp hc
    have q := List.all_eq_true.mp ((Array.all_eq_true_iff_forall_mem.mp hF) _ (Array.getElem_mem ha)) i (List.mem_range.mpr hi)
    simpa [Array.getElem?_eq_getElem hi] using q
  obtain ⟨ha0, hgs0⟩ := and_e hgs
  obtain ⟨i0, ei0⟩ := is_v ha0
  obtain rfl : w0 = (.int i0) := Option.some.inj ei0
  obtain ⟨ha1, hgs1⟩ := and_e hgs0
  obtain ⟨i1, ei1⟩ := is_v ha1
  obtain rfl : w1 = (.int i1) := Option.some.inj ei1
  obtain ⟨ha2, hgs2⟩ := and_e hgs1
  obtain ⟨i2, ei2⟩ := is_v ha2
  obtain rfl : w2 = (.int i2) := Option.some.inj ei2
  obtain ⟨i3, ei3⟩ := is_v hgs2
  obtain rfl : w3 = (.int i3) := Option.some.inj ei3
  obtain ⟨hsets, hown0⟩ := atoms_of _ (rest_1_c_eq ▸ (show rest_1_c.before _ s = true from hrest))
  obtain ⟨hn0, hr0⟩ := and_e hn
  have hn1 := hr0
  obtain ⟨aMOODYS, evaMOODYS⟩ := exa_v hn0
  have S_aMOODYS := Sta.start evaMOODYS (Or.inr ⟨(hw _ (List.mem_of_getElem? (i := 1) rfl)), (hw _ (List.mem_of_getElem? (i := 2) rfl))⟩)
  have E_aMOODYS := Exa.start evaMOODYS hn0
  obtain ⟨aSP, evaSP⟩ := exa_v hn1
  have S_aSP := Sta.start evaSP (Or.inr ⟨(hw _ (List.mem_of_getElem? (i := 1) rfl)), (hw _ (List.mem_of_getElem? (i := 52) rfl))⟩)
  have E_aSP := Exa.start evaSP hn1
  obtain ⟨G1, evG⟩ := is_v (Cond.before_iff.mp (hsets _ (List.mem_of_getElem? (i := 1) rfl)))
  have SC := Sta.start evG (Or.inl (hsets _ (List.mem_of_getElem? (i := 0) rfl)))
  have hG : ¬ (G1 = (0 : Int32)) := gotF (Cond.eq_ints evG (Term.int_eval (0))) (not_v (Cond.before_iff.mp (hsets _ (List.mem_of_getElem? (i := 2) rfl))))
  obtain ⟨n, o, h1, h2, h3, _, L, rfl, ⟨rfl, N⟩, hq⟩ := rm_law l s _ hw tables_1 i0 i1 i2 i3 aMOODYS aSP G1 s.heap s.heap.size (Old.start s) S_aMOODYS S_aSP SC hG p e ha hc hk s m _ below hf ((Spec.applies_iff_loose hf).mp happ).1 ⟨rfl, State.Warmed39.refl s, rfl⟩ trivial
  refine ⟨n, _, h1, h2, h3, hpost _ _ _ _ _ _ ⟨Cond.after_iff.mpr rfl, Cond.after_iff.mpr (eq_i res_at (Term.int_eval (1)) rfl), trivial⟩ ⟨hq.1, hq.2.1, (hq.2.2.sift fun y hy => Or.inr (N y hy)).mono (by decide) (by decide)⟩⟩
theorem main_1_1 : Claimed_1_1 := comes_1 fun _ _ _ _ _ _ h hF => ⟨h.1, hF⟩
theorem main_1_2 : Claimed_1_2 := comes_1 fun _ _ _ _ _ _ h hF => ⟨h.2.1, hF⟩
end Jvm.Pilot.@@N@@
namespace Jvm.Pilot.@@N@@
open Jvm Jvm.ClassFile Sem Op Lib Jvm.Free Jvm.Stand Jvm.Pilot.@@N@@.Jvm.D
/-! MADE BY PROGRAM (witnessworld.py) out of the Statement's table words and the real class files: 22 classes; the members and pool entries that the words name. The judged class is class 1, her method 1. -/
namespace start1
open Jvm.ClassFile
def u (s : String) : CpInfo := .utf8 (stringToUtf16 s)
/-- a pool by its gaps: so many unusable entries, then the entry; so many at the end -/
def gap : Nat → List CpInfo → List CpInfo
  | 0, r => r
  | n + 1, r => .unusable :: gap n r
def poolList (es : List (Nat × CpInfo)) (last : Nat) : List CpInfo := es.foldr (fun e r => gap e.1 (e.2 :: r)) (gap last [])
def pool (es : List (Nat × CpInfo)) (last : Nat) : Array CpInfo := ⟨poolList es last⟩
def fileOf (pool : Array CpInfo) (this : Nat) (attrs : Array Attribute := #[]) (ms : Array MethodInfo := #[]) (fl : Nat := 33) (sup : Nat := 0) (ifs : Array Nat := #[]) (fds : Array FieldInfo := #[]) : ClassFile where
  minorVersion := 0
  majorVersion := 65
  constantPool := pool
  accessFlags := fl
  thisClass := this
  superClass := sup
  interfaces := ifs
  fields := fds
  methods := ms
  attributes := attrs
def plain (name : String) (sup : Option ClassId) : Class where
  name := name
  kind := .ordinary
  loader := none
  accessFlags := 33
  super := sup
  interfaces := #[]
  cf := none
  fields := #[]
  methods := #[]
  instanceTypes := #[]
  staticTypes := #[]
  resolved := #[]
  callSites := []
  init := .initialized
  statics := none
  mirror := none

def pool0 : Array CpInfo := pool [(5, u "<init>"), (0, u "()V"), (1, .class_ 10), (1, u "java/lang/Object")] 113

def k0c0 : Code := { maxStack := 0, maxLocals := 1, code := object_method_1_code, exceptionTable := #[], attributes := #[] }
def k0m0 : Method := { name := "<init>", desc := "()V", sig := { parameters := [], returnType := none }, accessFlags := 1, code := some k0c0 }
/-- java/lang/Object -/
def k0 : Class := { plain "java/lang/Object" none with
  accessFlags := 33
  interfaces := #[]
  cf := some (fileOf pool0 8 #[] #[{ accessFlags := 1, nameIndex := 5, descriptorIndex := 6, attributes := #[] }] 33 0 #[] #[])
  fields := #[]
  methods := #[k0m0]
  instanceTypes := #[]
  staticTypes := #[]
  resolved := Array.replicate 124 none
  statics := none }

def pool1 : Array CpInfo := pool [(2, .class_ 4), (1, u "java/lang/Object"), (0, u "<init>"), (0, u "()V"), (0, .fieldref 8 9), (0, .class_ 10), (0, .nameAndType 11 12), (0, u "com/example/tranche/tranche/RatingAgency"), (0, u "SP"), (0, u "Lcom/example/tranche/tranche/RatingAgency;"), (0, .fieldref 8 14), (0, .nameAndType 15 12), (0, u "MOODYS"), (0, .class_ 17), (0, u "java/lang/String"), (0, .methodref 16 19), (0, .nameAndType 5 20), (0, u "([C)V"), (0, .class_ 22), (0, u "com/example/tranche/tranche/Rating"), (0, .methodref 21 24), (0, .nameAndType 5 25), (0, u "(Lcom/example/tranche/tranche/RatingAgency;ILjava/lang/String;)V"), (0, .methodref 21 27), (0, .nameAndType 28 29), (0, u "meetsOrBeats"), (0, u "(Lcom/example/tranche/tranche/Rating;)Z"), (0, .class_ 31), (0, u "com/example/tranche/tranche/RatingMeetsOrBeatsPinLaw"), (2, u "law"), (0, u "(IIII)Z")] 5

def k1m0 : Method := { name := "<init>", desc := "()V", sig := { parameters := [], returnType := none }, accessFlags := 2, code := none }
def k1c1 : Code := { maxStack := 5, maxLocals := 18, code := code, exceptionTable := #[], attributes := #[] }
def k1m1 : Method := { name := "law", desc := "(IIII)Z", sig := { parameters := [.int, .int, .int, .int], returnType := some .boolean }, accessFlags := 9, code := some k1c1 }
/-- com/example/tranche/tranche/RatingMeetsOrBeatsPinLaw -/
def k1 : Class := { plain "com/example/tranche/tranche/RatingMeetsOrBeatsPinLaw" (some 0) with
  accessFlags := 49
  interfaces := #[]
  cf := some (fileOf pool1 30 #[] #[{ accessFlags := 2, nameIndex := 5, descriptorIndex := 6, attributes := #[] }, { accessFlags := 9, nameIndex := 34, descriptorIndex := 35, attributes := #[] }] 49 2 #[] #[])
  fields := #[]
  methods := #[k1m0, k1m1]
  instanceTypes := #[]
  staticTypes := #[]
  resolved := Array.replicate 41 none
  statics := none }

def pool2 : Array CpInfo := pool [(1, .class_ 2), (0, u "java/lang/constant/Constable"), (0, .class_ 4), (0, u "java/lang/Object")] 6

/-- java/lang/constant/Constable -/
def k2 : Class := { plain "java/lang/constant/Constable" (some 0) with
  accessFlags := 1537
  interfaces := #[]
  cf := some (fileOf pool2 1 #[] #[] 1537 3 #[] #[])
  fields := #[]
  methods := #[]
  instanceTypes := #[]
  staticTypes := #[]
  resolved := Array.replicate 11 none
  statics := none }

def pool3 : Array CpInfo := pool [(1, .class_ 2), (0, u "java/lang/Comparable"), (0, .class_ 4), (0, u "java/lang/Object")] 7

/-- java/lang/Comparable -/
def k3 : Class := { plain "java/lang/Comparable" (some 0) with
  accessFlags := 1537
  interfaces := #[]
  cf := some (fileOf pool3 1 #[] #[] 1537 3 #[] #[])
  fields := #[]
  methods := #[]
  instanceTypes := #[]
  staticTypes := #[]
  resolved := Array.replicate 12 none
  statics := none }

def pool4 : Array CpInfo := pool [(1, .class_ 2), (0, u "java/io/Serializable"), (0, .class_ 4), (0, u "java/lang/Object")] 2

/-- java/io/Serializable -/
def k4 : Class := { plain "java/io/Serializable" (some 0) with
  accessFlags := 1537
  interfaces := #[]
  cf := some (fileOf pool4 1 #[] #[] 1537 3 #[] #[])
  fields := #[]
  methods := #[]
  instanceTypes := #[]
  staticTypes := #[]
  resolved := Array.replicate 7 none
  statics := none }

def pool5 : Array CpInfo := pool [(2, .class_ 4), (1, u "java/lang/Enum"), (0, u "name"), (0, u "Ljava/lang/String;"), (2, u "ordinal"), (0, u "I"), (1, .class_ 14), (1, u "java/lang/Object"), (4, u "hash"), (86, .class_ 108), (1, u "java/lang/Enum$EnumDesc"), (2, .class_ 112), (0, u "java/lang/constant/Constable"), (0, .class_ 114), (0, u "java/lang/Comparable"), (0, .class_ 116), (0, u "java/io/Serializable")] 87

/-- java/lang/Enum -/
def k5 : Class := { plain "java/lang/Enum" (some 0) with
  accessFlags := 1057
  interfaces := #[2, 3, 4]
  cf := some (fileOf pool5 2 #[.nestMembers #[106]] #[] 1057 12 #[111, 113, 115] #[{ accessFlags := 18, nameIndex := 5, descriptorIndex := 6, attributes := #[] }, { accessFlags := 18, nameIndex := 9, descriptorIndex := 10, attributes := #[] }, { accessFlags := 2, nameIndex := 19, descriptorIndex := 10, attributes := #[] }])
  fields := #[{ name := "name", type := (.object "java/lang/String"), accessFlags := 18, slot := 0, constantValue := 0 }, { name := "ordinal", type := .int, accessFlags := 18, slot := 1, constantValue := 0 }, { name := "hash", type := .int, accessFlags := 2, slot := 2, constantValue := 0 }]
  methods := #[]
  instanceTypes := #[(.object "java/lang/String"), .int, .int]
  staticTypes := #[]
  resolved := Array.replicate 204 none
  statics := none }

def pool6 : Array CpInfo := pool [(1, .class_ 2), (0, u "com/example/tranche/tranche/RatingAgency"), (2, u "SP"), (0, u "Lcom/example/tranche/tranche/RatingAgency;"), (2, u "MOODYS"), (2, u "$VALUES"), (0, u "[Lcom/example/tranche/tranche/RatingAgency;"), (6, .class_ 22), (1, u "java/lang/Enum"), (8, u "name"), (0, u "Ljava/lang/String;"), (41, u "scale"), (0, u "Ljava/util/List;")] 153

/-- com/example/tranche/tranche/RatingAgency -/
def k6 : Class := { plain "com/example/tranche/tranche/RatingAgency" (some 5) with
  accessFlags := 16432
  interfaces := #[]
  cf := some (fileOf pool6 1 #[] #[] 16432 20 #[] #[{ accessFlags := 16409, nameIndex := 5, descriptorIndex := 6, attributes := #[] }, { accessFlags := 16409, nameIndex := 9, descriptorIndex := 6, attributes := #[] }, { accessFlags := 18, nameIndex := 31, descriptorIndex := 32, attributes := #[] }, { accessFlags := 18, nameIndex := 74, descriptorIndex := 75, attributes := #[] }, { accessFlags := 4122, nameIndex := 12, descriptorIndex := 13, attributes := #[] }])
  fields := #[{ name := "SP", type := (.object "com/example/tranche/tranche/RatingAgency"), accessFlags := 16409, slot := 0, constantValue := 0 }, { name := "MOODYS", type := (.object "com/example/tranche/tranche/RatingAgency"), accessFlags := 16409, slot := 1, constantValue := 0 }, { name := "name", type := (.object "java/lang/String"), accessFlags := 18, slot := 3, constantValue := 0 }, { name := "scale", type := (.object "java/util/List"), accessFlags := 18, slot := 4, constantValue := 0 }, { name := "$VALUES", type := (.array (.object "com/example/tranche/tranche/RatingAgency")), accessFlags := 4122, slot := 2, constantValue := 0 }]
  methods := #[]
  instanceTypes := #[(.object "java/lang/String"), .int, .int, (.object "java/lang/String"), (.object "java/util/List")]
  staticTypes := #[(.object "com/example/tranche/tranche/RatingAgency"), (.object "com/example/tranche/tranche/RatingAgency"), (.array (.object "com/example/tranche/tranche/RatingAgency"))]
  resolved := Array.replicate 229 none
  statics := some 0 }

def pool7 : Array CpInfo := pool [(2, .class_ 4), (1, u "java/lang/CharSequence"), (42, .class_ 48), (0, u "java/lang/CharSequence$1CodePointIterator"), (10, .class_ 60), (0, u "java/lang/CharSequence$1CharIterator"), (5, .class_ 67), (0, u "java/lang/Object")] 63

/-- java/lang/CharSequence -/
def k7 : Class := { plain "java/lang/CharSequence" (some 0) with
  accessFlags := 1537
  interfaces := #[]
  cf := some (fileOf pool7 2 #[.nestMembers #[47, 59]] #[] 1537 66 #[] #[])
  fields := #[]
  methods := #[]
  instanceTypes := #[]
  staticTypes := #[]
  resolved := Array.replicate 131 none
  statics := none }

def pool8 : Array CpInfo := pool [(1, .class_ 2), (0, u "java/lang/constant/ConstantDesc"), (0, .class_ 4), (0, u "java/lang/Object")] 32

/-- java/lang/constant/ConstantDesc -/
def k8 : Class := { plain "java/lang/constant/ConstantDesc" (some 0) with
  accessFlags := 1537
  interfaces := #[]
  cf := some (fileOf pool8 1 #[] #[] 1537 3 #[] #[])
  fields := #[]
  methods := #[]
  instanceTypes := #[]
  staticTypes := #[]
  resolved := Array.replicate 37 none
  statics := none }

def pool9 : Array CpInfo := pool [(1, .methodref 2 3), (0, .class_ 4), (0, .nameAndType 5 6), (0, u "java/lang/Object"), (0, u "<init>"), (0, u "()V"), (2, .fieldref 10 11), (0, .class_ 12), (0, .nameAndType 13 14), (0, u "java/lang/String"), (0, u "value"), (0, u "[B"), (0, .fieldref 10 16), (0, .nameAndType 17 18), (0, u "coder"), (0, u "B"), (2, u "hash"), (0, u "I"), (2, u "hashIsZero"), (0, u "Z"), (0, .methodref 10 28), (0, .nameAndType 5 29), (0, u "([CIILjava/lang/Void;)V"), (8, .fieldref 10 39), (0, .nameAndType 40 26), (0, u "COMPACT_STRINGS"), (1, .class_ 44), (1, u "java/lang/StringUTF16"), (0, u "compress"), (1, .methodref 42 48), (0, .nameAndType 49 50), (0, u "coderFromArrayLen"), (0, u "([BI)B"), (126, .methodref 42 178), (0, .nameAndType 45 179), (0, u "([CII)[B"), (395, .class_ 576), (0, u "java/lang/CharSequence"), (22, u "CASE_INSENSITIVE_ORDER"), (0, u "Ljava/util/Comparator;"), (409, u "([C)V"), (90, u "serialPersistentFields"), (0, u "[Ljava/io/ObjectStreamField;"), (0, .class_ 1104), (0, u "java/lang/String$CaseInsensitiveComparator"), (1, .class_ 1107), (0, u "java/io/Serializable"), (0, .class_ 1109), (0, u "java/lang/Comparable"), (0, .class_ 1111), (0, u "java/lang/constant/Constable"), (0, .class_ 1113), (0, u "java/lang/constant/ConstantDesc"), (2, u "serialVersionUID"), (0, u "J"), (3, u "REPL"), (0, u "C"), (2, u "LATIN1"), (1, u "UTF16")] 323

def k9m0 : Method := { name := "<init>", desc := "()V", sig := { parameters := [], returnType := none }, accessFlags := 1, code := none }
def k9c1 : Code := { maxStack := 5, maxLocals := 2, code := jdk_42_method_3_code, exceptionTable := #[], attributes := #[] }
def k9m1 : Method := { name := "<init>", desc := "([C)V", sig := { parameters := [(.array .char)], returnType := none }, accessFlags := 1, code := some k9c1 }
def k9c2 : Code := { maxStack := 4, maxLocals := 6, code := jdk_42_method_149_code, exceptionTable := #[], attributes := #[] }
def k9m2 : Method := { name := "<init>", desc := "([CIILjava/lang/Void;)V", sig := { parameters := [(.array .char), .int, .int, (.object "java/lang/Void")], returnType := none }, accessFlags := 2, code := some k9c2 }
/-- java/lang/String -/
def k9 : Class := { plain "java/lang/String" (some 0) with
  accessFlags := 49
  interfaces := #[4, 3, 7, 2, 8]
  cf := some (fileOf pool9 10 #[.nestMembers #[1103]] #[{ accessFlags := 1, nameIndex := 5, descriptorIndex := 6, attributes := #[] }, { accessFlags := 1, nameIndex := 5, descriptorIndex := 1010, attributes := #[] }, { accessFlags := 2, nameIndex := 5, descriptorIndex := 29, attributes := #[] }] 49 2 #[1106, 1108, 575, 1110, 1112] #[{ accessFlags := 18, nameIndex := 13, descriptorIndex := 14, attributes := #[] }, { accessFlags := 18, nameIndex := 17, descriptorIndex := 18, attributes := #[] }, { accessFlags := 2, nameIndex := 21, descriptorIndex := 22, attributes := #[] }, { accessFlags := 2, nameIndex := 25, descriptorIndex := 26, attributes := #[] }, { accessFlags := 26, nameIndex := 1116, descriptorIndex := 1117, attributes := #[] }, { accessFlags := 24, nameIndex := 40, descriptorIndex := 26, attributes := #[] }, { accessFlags := 26, nameIndex := 1101, descriptorIndex := 1102, attributes := #[] }, { accessFlags := 26, nameIndex := 1121, descriptorIndex := 1122, attributes := #[] }, { accessFlags := 25, nameIndex := 599, descriptorIndex := 600, attributes := #[] }, { accessFlags := 24, nameIndex := 1125, descriptorIndex := 18, attributes := #[] }, { accessFlags := 24, nameIndex := 1127, descriptorIndex := 18, attributes := #[] }])
  fields := #[{ name := "value", type := (.array .byte), accessFlags := 18, slot := 0, constantValue := 0 }, { name := "coder", type := .byte, accessFlags := 18, slot := 1, constantValue := 0 }, { name := "hash", type := .int, accessFlags := 2, slot := 2, constantValue := 0 }, { name := "hashIsZero", type := .boolean, accessFlags := 2, slot := 3, constantValue := 0 }, { name := "serialVersionUID", type := .long, accessFlags := 26, slot := 0, constantValue := 0 }, { name := "COMPACT_STRINGS", type := .boolean, accessFlags := 24, slot := 1, constantValue := 0 }, { name := "serialPersistentFields", type := (.array (.object "java/io/ObjectStreamField")), accessFlags := 26, slot := 2, constantValue := 0 }, { name := "REPL", type := .char, accessFlags := 26, slot := 3, constantValue := 0 }, { name := "CASE_INSENSITIVE_ORDER", type := (.object "java/util/Comparator"), accessFlags := 25, slot := 4, constantValue := 0 }, { name := "LATIN1", type := .byte, accessFlags := 24, slot := 5, constantValue := 0 }, { name := "UTF16", type := .byte, accessFlags := 24, slot := 6, constantValue := 0 }]
  methods := #[k9m0, k9m1, k9m2]
  instanceTypes := #[(.array .byte), .byte, .int, .boolean]
  staticTypes := #[.long, .boolean, (.array (.object "java/io/ObjectStreamField")), .char, (.object "java/util/Comparator"), .byte, .byte]
  resolved := Array.replicate 1451 none
  statics := some 1 }

def pool10 : Array CpInfo := pool [(6, .class_ 8), (1, u "java/lang/Object"), (0, u "<init>"), (0, u "()V"), (1, .class_ 14), (1, u "java/lang/StringUTF16"), (31, u "$assertionsDisabled"), (0, u "Z"), (13, u "HI_BYTE_SHIFT"), (0, u "I"), (2, u "LO_BYTE_SHIFT"), (49, .methodref 12 116), (0, .nameAndType 117 118), (0, u "compress"), (0, u "([CI[BII)I"), (3, u "([CII)[B"), (138, u "coderFromArrayLen"), (0, u "([BI)B"), (106, .class_ 371), (1, u "java/lang/StringUTF16$LinesSpliterator"), (58, u "MAX_LENGTH"), (196, .class_ 628), (0, u "java/lang/StringUTF16$CodePointsSpliterator"), (0, .class_ 630), (0, u "java/lang/StringUTF16$CharsSpliterator")] 4

def k10m0 : Method := { name := "<init>", desc := "()V", sig := { parameters := [], returnType := none }, accessFlags := 0, code := none }
def k10c1 : Code := { maxStack := 2, maxLocals := 2, code := jdk_52_method_15_code, exceptionTable := #[], attributes := #[] }
def k10m1 : Method := { name := "coderFromArrayLen", desc := "([BI)B", sig := { parameters := [(.array .byte), .int], returnType := some .byte }, accessFlags := 8, code := some k10c1 }
def k10c2 : Code := { maxStack := 5, maxLocals := 6, code := jdk_52_method_16_code, exceptionTable := #[], attributes := #[] }
def k10m2 : Method := { name := "compress", desc := "([CII)[B", sig := { parameters := [(.array .char), .int, .int], returnType := some (.array .byte) }, accessFlags := 9, code := some k10c2 }
def k10c3 : Code := { maxStack := 3, maxLocals := 7, code := jdk_52_method_21_code, exceptionTable := #[], attributes := #[] }
def k10m3 : Method := { name := "compress", desc := "([CI[BII)I", sig := { parameters := [(.array .char), .int, (.array .byte), .int, .int], returnType := some .int }, accessFlags := 9, code := some k10c3 }
/-- java/lang/StringUTF16 -/
def k10 : Class := { plain "java/lang/StringUTF16" (some 0) with
  accessFlags := 48
  interfaces := #[]
  cf := some (fileOf pool10 12 #[.nestMembers #[627, 629, 369]] #[{ accessFlags := 0, nameIndex := 9, descriptorIndex := 10, attributes := #[] }, { accessFlags := 8, nameIndex := 261, descriptorIndex := 262, attributes := #[] }, { accessFlags := 9, nameIndex := 117, descriptorIndex := 122, attributes := #[] }, { accessFlags := 9, nameIndex := 117, descriptorIndex := 118, attributes := #[] }] 48 6 #[] #[{ accessFlags := 26, nameIndex := 61, descriptorIndex := 62, attributes := #[] }, { accessFlags := 26, nameIndex := 65, descriptorIndex := 62, attributes := #[] }, { accessFlags := 24, nameIndex := 430, descriptorIndex := 62, attributes := #[] }, { accessFlags := 4120, nameIndex := 46, descriptorIndex := 47, attributes := #[] }])
  fields := #[{ name := "HI_BYTE_SHIFT", type := .int, accessFlags := 26, slot := 0, constantValue := 0 }, { name := "LO_BYTE_SHIFT", type := .int, accessFlags := 26, slot := 1, constantValue := 0 }, { name := "MAX_LENGTH", type := .int, accessFlags := 24, slot := 2, constantValue := 0 }, { name := "$assertionsDisabled", type := .boolean, accessFlags := 4120, slot := 3, constantValue := 0 }]
  methods := #[k10m0, k10m1, k10m2, k10m3]
  instanceTypes := #[]
  staticTypes := #[.int, .int, .int, .boolean]
  resolved := Array.replicate 635 none
  statics := none }

def pool11 : Array CpInfo := pool [(1, .methodref 2 3), (0, .class_ 4), (0, .nameAndType 5 6), (0, u "java/lang/Object"), (0, u "<init>"), (0, u "()V"), (0, .fieldref 8 9), (0, .class_ 10), (0, .nameAndType 11 12), (0, u "com/example/tranche/tranche/Rating"), (0, u "agency"), (0, u "Lcom/example/tranche/tranche/RatingAgency;"), (0, .fieldref 8 14), (0, .nameAndType 15 16), (0, u "place"), (0, u "I"), (0, .fieldref 8 18), (0, .nameAndType 19 20), (0, u "text"), (0, u "Ljava/lang/String;"), (0, u "(Lcom/example/tranche/tranche/RatingAgency;ILjava/lang/String;)V"), (3, u "meetsOrBeats"), (0, u "(Lcom/example/tranche/tranche/Rating;)Z")] 5

def k11c0 : Code := { maxStack := 2, maxLocals := 4, code := prog_26_method_1_code, exceptionTable := #[], attributes := #[] }
def k11m0 : Method := { name := "<init>", desc := "(Lcom/example/tranche/tranche/RatingAgency;ILjava/lang/String;)V", sig := { parameters := [(.object "com/example/tranche/tranche/RatingAgency"), .int, (.object "java/lang/String")], returnType := none }, accessFlags := 0, code := some k11c0 }
def k11c1 : Code := { maxStack := 2, maxLocals := 2, code := prog_26_method_3_code, exceptionTable := #[], attributes := #[] }
def k11m1 : Method := { name := "meetsOrBeats", desc := "(Lcom/example/tranche/tranche/Rating;)Z", sig := { parameters := [(.object "com/example/tranche/tranche/Rating")], returnType := some .boolean }, accessFlags := 0, code := some k11c1 }
/-- com/example/tranche/tranche/Rating -/
def k11 : Class := { plain "com/example/tranche/tranche/Rating" (some 0) with
  accessFlags := 48
  interfaces := #[]
  cf := some (fileOf pool11 8 #[] #[{ accessFlags := 0, nameIndex := 5, descriptorIndex := 21, attributes := #[] }, { accessFlags := 0, nameIndex := 25, descriptorIndex := 26, attributes := #[] }] 48 2 #[] #[{ accessFlags := 18, nameIndex := 11, descriptorIndex := 12, attributes := #[] }, { accessFlags := 18, nameIndex := 15, descriptorIndex := 16, attributes := #[] }, { accessFlags := 18, nameIndex := 19, descriptorIndex := 20, attributes := #[] }])
  fields := #[{ name := "agency", type := (.object "com/example/tranche/tranche/RatingAgency"), accessFlags := 18, slot := 0, constantValue := 0 }, { name := "place", type := .int, accessFlags := 18, slot := 1, constantValue := 0 }, { name := "text", type := (.object "java/lang/String"), accessFlags := 18, slot := 2, constantValue := 0 }]
  methods := #[k11m0, k11m1]
  instanceTypes := #[(.object "com/example/tranche/tranche/RatingAgency"), .int, (.object "java/lang/String")]
  staticTypes := #[]
  resolved := Array.replicate 32 none
  statics := none }

def pool12 : Array CpInfo := pool [(4, .class_ 6), (1, u "java/lang/Object"), (0, u "<init>"), (0, u "()V"), (5, .class_ 16), (1, u "java/lang/StringLatin1"), (104, u "$assertionsDisabled"), (0, u "Z"), (98, .class_ 223), (1, u "java/lang/StringLatin1$LinesSpliterator"), (166, .class_ 391), (0, u "java/lang/StringLatin1$CharsSpliterator")] 3

def k12m0 : Method := { name := "<init>", desc := "()V", sig := { parameters := [], returnType := none }, accessFlags := 0, code := none }
/-- java/lang/StringLatin1 -/
def k12 : Class := { plain "java/lang/StringLatin1" (some 0) with
  accessFlags := 48
  interfaces := #[]
  cf := some (fileOf pool12 14 #[.nestMembers #[390, 221]] #[{ accessFlags := 0, nameIndex := 7, descriptorIndex := 8, attributes := #[] }] 48 4 #[] #[{ accessFlags := 4120, nameIndex := 121, descriptorIndex := 122, attributes := #[] }])
  fields := #[{ name := "$assertionsDisabled", type := .boolean, accessFlags := 4120, slot := 0, constantValue := 0 }]
  methods := #[k12m0]
  instanceTypes := #[]
  staticTypes := #[.boolean]
  resolved := Array.replicate 395 none
  statics := none }

def pool13 : Array CpInfo := pool [(2, .class_ 4), (1, u "java/lang/Object"), (0, u "<init>"), (0, u "()V"), (17, .class_ 26), (1, u "jdk/internal/util/Preconditions"), (28, .class_ 56), (0, u "jdk/internal/util/Preconditions$4"), (57, .class_ 115), (0, u "jdk/internal/util/Preconditions$1"), (7, u "SIOOBE_FORMATTER"), (0, u "Ljava/util/function/BiFunction;"), (0, .class_ 126), (0, u "jdk/internal/util/Preconditions$2"), (3, u "AIOOBE_FORMATTER"), (0, .class_ 132), (0, u "jdk/internal/util/Preconditions$3"), (3, u "IOOBE_FORMATTER")] 57

def k13m0 : Method := { name := "<init>", desc := "()V", sig := { parameters := [], returnType := none }, accessFlags := 1, code := none }
/-- jdk/internal/util/Preconditions -/
def k13 : Class := { plain "jdk/internal/util/Preconditions" (some 0) with
  accessFlags := 33
  interfaces := #[]
  cf := some (fileOf pool13 24 #[.nestMembers #[55, 131, 125, 114]] #[{ accessFlags := 1, nameIndex := 5, descriptorIndex := 6, attributes := #[] }] 33 2 #[] #[{ accessFlags := 25, nameIndex := 123, descriptorIndex := 124, attributes := #[] }, { accessFlags := 25, nameIndex := 130, descriptorIndex := 124, attributes := #[] }, { accessFlags := 25, nameIndex := 136, descriptorIndex := 124, attributes := #[] }])
  fields := #[{ name := "SIOOBE_FORMATTER", type := (.object "java/util/function/BiFunction"), accessFlags := 25, slot := 0, constantValue := 0 }, { name := "AIOOBE_FORMATTER", type := (.object "java/util/function/BiFunction"), accessFlags := 25, slot := 1, constantValue := 0 }, { name := "IOOBE_FORMATTER", type := (.object "java/util/function/BiFunction"), accessFlags := 25, slot := 2, constantValue := 0 }]
  methods := #[k13m0]
  instanceTypes := #[]
  staticTypes := #[(.object "java/util/function/BiFunction"), (.object "java/util/function/BiFunction"), (.object "java/util/function/BiFunction")]
  resolved := Array.replicate 194 none
  statics := some 2 }

def pool14 : Array CpInfo := pool [(9, u "<init>"), (6, .class_ 18), (1, u "java/lang/Object"), (0, u "()V"), (1, .class_ 23), (1, u "jdk/internal/util/ArraysSupport"), (0, u "LOG2_ARRAY_LONG_INDEX_SCALE"), (0, u "I"), (2, u "U"), (0, u "Ljdk/internal/misc/Unsafe;"), (8, u "BIG_ENDIAN"), (0, u "Z"), (8, u "LOG2_BYTE_BIT_SIZE"), (4, u "LOG2_ARRAY_INT_INDEX_SCALE"), (54, u "JLA"), (0, u "Ljdk/internal/access/JavaLangAccess;"), (11, u "LOG2_ARRAY_BOOLEAN_INDEX_SCALE"), (9, u "LOG2_ARRAY_BYTE_INDEX_SCALE"), (5, u "LOG2_ARRAY_CHAR_INDEX_SCALE"), (5, u "LOG2_ARRAY_SHORT_INDEX_SCALE"), (18, u "LOG2_ARRAY_FLOAT_INDEX_SCALE"), (24, u "LOG2_ARRAY_DOUBLE_INDEX_SCALE"), (89, u "T_BOOLEAN"), (2, u "T_CHAR"), (1, u "T_FLOAT"), (1, u "T_DOUBLE"), (1, u "T_BYTE"), (1, u "T_SHORT"), (1, u "T_INT"), (1, u "T_LONG"), (1, u "SOFT_MAX_ARRAY_LENGTH")] 83

def k14m0 : Method := { name := "<init>", desc := "()V", sig := { parameters := [], returnType := none }, accessFlags := 2, code := none }
/-- jdk/internal/util/ArraysSupport -/
def k14 : Class := { plain "jdk/internal/util/ArraysSupport" (some 0) with
  accessFlags := 33
  interfaces := #[]
  cf := some (fileOf pool14 21 #[] #[{ accessFlags := 2, nameIndex := 9, descriptorIndex := 19, attributes := #[] }] 33 16 #[] #[{ accessFlags := 24, nameIndex := 28, descriptorIndex := 29, attributes := #[] }, { accessFlags := 26, nameIndex := 38, descriptorIndex := 39, attributes := #[] }, { accessFlags := 25, nameIndex := 121, descriptorIndex := 25, attributes := #[] }, { accessFlags := 25, nameIndex := 131, descriptorIndex := 25, attributes := #[] }, { accessFlags := 25, nameIndex := 137, descriptorIndex := 25, attributes := #[] }, { accessFlags := 25, nameIndex := 143, descriptorIndex := 25, attributes := #[] }, { accessFlags := 25, nameIndex := 53, descriptorIndex := 25, attributes := #[] }, { accessFlags := 25, nameIndex := 24, descriptorIndex := 25, attributes := #[] }, { accessFlags := 25, nameIndex := 162, descriptorIndex := 25, attributes := #[] }, { accessFlags := 25, nameIndex := 187, descriptorIndex := 25, attributes := #[] }, { accessFlags := 26, nameIndex := 48, descriptorIndex := 25, attributes := #[] }, { accessFlags := 25, nameIndex := 277, descriptorIndex := 25, attributes := #[] }, { accessFlags := 25, nameIndex := 280, descriptorIndex := 25, attributes := #[] }, { accessFlags := 25, nameIndex := 282, descriptorIndex := 25, attributes := #[] }, { accessFlags := 25, nameIndex := 284, descriptorIndex := 25, attributes := #[] }, { accessFlags := 25, nameIndex := 286, descriptorIndex := 25, attributes := #[] }, { accessFlags := 25, nameIndex := 288, descriptorIndex := 25, attributes := #[] }, { accessFlags := 25, nameIndex := 290, descriptorIndex := 25, attributes := #[] }, { accessFlags := 25, nameIndex := 292, descriptorIndex := 25, attributes := #[] }, { accessFlags := 26, nameIndex := 108, descriptorIndex := 109, attributes := #[] }, { accessFlags := 25, nameIndex := 294, descriptorIndex := 25, attributes := #[] }])
  fields := #[{ name := "U", type := (.object "jdk/internal/misc/Unsafe"), accessFlags := 24, slot := 0, constantValue := 0 }, { name := "BIG_ENDIAN", type := .boolean, accessFlags := 26, slot := 1, constantValue := 0 }, { name := "LOG2_ARRAY_BOOLEAN_INDEX_SCALE", type := .int, accessFlags := 25, slot := 2, constantValue := 0 }, { name := "LOG2_ARRAY_BYTE_INDEX_SCALE", type := .int, accessFlags := 25, slot := 3, constantValue := 0 }, { name := "LOG2_ARRAY_CHAR_INDEX_SCALE", type := .int, accessFlags := 25, slot := 4, constantValue := 0 }, { name := "LOG2_ARRAY_SHORT_INDEX_SCALE", type := .int, accessFlags := 25, slot := 5, constantValue := 0 }, { name := "LOG2_ARRAY_INT_INDEX_SCALE", type := .int, accessFlags := 25, slot := 6, constantValue := 0 }, { name := "LOG2_ARRAY_LONG_INDEX_SCALE", type := .int, accessFlags := 25, slot := 7, constantValue := 0 }, { name := "LOG2_ARRAY_FLOAT_INDEX_SCALE", type := .int, accessFlags := 25, slot := 8, constantValue := 0 }, { name := "LOG2_ARRAY_DOUBLE_INDEX_SCALE", type := .int, accessFlags := 25, slot := 9, constantValue := 0 }, { name := "LOG2_BYTE_BIT_SIZE", type := .int, accessFlags := 26, slot := 10, constantValue := 0 }, { name := "T_BOOLEAN", type := .int, accessFlags := 25, slot := 11, constantValue := 0 }, { name := "T_CHAR", type := .int, accessFlags := 25, slot := 12, constantValue := 0 }, { name := "T_FLOAT", type := .int, accessFlags := 25, slot := 13, constantValue := 0 }, { name := "T_DOUBLE", type := .int, accessFlags := 25, slot := 14, constantValue := 0 }, { name := "T_BYTE", type := .int, accessFlags := 25, slot := 15, constantValue := 0 }, { name := "T_SHORT", type := .int, accessFlags := 25, slot := 16, constantValue := 0 }, { name := "T_INT", type := .int, accessFlags := 25, slot := 17, constantValue := 0 }, { name := "T_LONG", type := .int, accessFlags := 25, slot := 18, constantValue := 0 }, { name := "JLA", type := (.object "jdk/internal/access/JavaLangAccess"), accessFlags := 26, slot := 19, constantValue := 0 }, { name := "SOFT_MAX_ARRAY_LENGTH", type := .int, accessFlags := 25, slot := 20, constantValue := 0 }]
  methods := #[k14m0]
  instanceTypes := #[]
  staticTypes := #[(.object "jdk/internal/misc/Unsafe"), .boolean, .int, .int, .int, .int, .int, .int, .int, .int, .int, .int, .int, .int, .int, .int, .int, .int, .int, (.object "jdk/internal/access/JavaLangAccess"), .int]
  resolved := Array.replicate 378 none
  statics := none }

def pool15 : Array CpInfo := pool [(1, u "java/lang/Cloneable"), (0, .class_ 1), (0, u "java/lang/Object"), (0, .class_ 3)] 3

/-- java/lang/Cloneable -/
def k15 : Class := { plain "java/lang/Cloneable" (some 0) with
  accessFlags := 1537
  interfaces := #[]
  cf := some (fileOf pool15 2 #[] #[] 1537 4 #[] #[])
  fields := #[]
  methods := #[]
  instanceTypes := #[]
  staticTypes := #[]
  resolved := Array.replicate 8 none
  statics := none }

/-- the primitive byte -/
def k16 : Class := { plain "byte" none with kind := .primitive 'B', accessFlags := 0x411 }
/-- [B -/
def k17 : Class := { plain "[B" (some 0) with kind := .array 16 .byte, interfaces := #[15, 4], accessFlags := 1041 }

/-- the primitive char -/
def k18 : Class := { plain "char" none with kind := .primitive 'C', accessFlags := 0x411 }
/-- [C -/
def k19 : Class := { plain "[C" (some 0) with kind := .array 18 .char, interfaces := #[15, 4], accessFlags := 1041 }

/-- the primitive int -/
def k20 : Class := { plain "int" none with kind := .primitive 'I', accessFlags := 0x411 }
/-- [I -/
def k21 : Class := { plain "[I" (some 0) with kind := .array 20 .int, interfaces := #[15, 4], accessFlags := 1041 }

def heap : Heap := #[{ cls := 6, slots := #[.ref 3, .ref 3, .null], vm := .statics 6 },
  { cls := 9, slots := #[.long 0, .int 1, .null, .int 0, .null, .int 0, .int 0], vm := .statics 9 },
  { cls := 13, slots := #[.null, .null, .null], vm := .statics 13 },
  { cls := 6, slots := #[.null, .int 0, .int 0, .null, .null], vm := .none }]
def classes : Array Class := #[k0, k1, k2, k3, k4, k5, k6, k7, k8, k9, k10, k11, k12, k13, k14, k15, k16, k17, k18, k19, k20, k21]
def interned : List (Array UInt16 × Addr) := []
def slotsUsed : Nat := 18
def theMethod : MethodId := ⟨1, 1⟩
def args0 : Array Value := #[.int 5, .int 6, .int 2, .int 65]
def aboutOver (below : List Frame) : State where
  vm := { classes := classes, interned := interned.toArray }
  heap := heap
  slotsUsed := slotsUsed
  threads := #[{ frames := .invoking theMethod args0 :: below }]
def below0 : List Frame := [.native { method := ⟨0, 0⟩, args := #[] }]
def about1 : State := aboutOver below0
def p0 : Program := .bare "" "" ""
def e0 : Env := launch0.env 0 0 0
theorem w_frames : about1.frames = Frame.invoking theMethod args0 :: below0 := rfl
set_option maxRecDepth 65536 in
theorem w_args : argsFit about1.vm theMethod args0 = true := by decide +kernel
set_option maxRecDepth 65536 in
theorem w_heap : heapFits about1 = true := by decide +kernel
set_option maxRecDepth 65536 in
theorem w_runnable : about1.curStatus? = some .runnable := by decide +kernel
set_option maxRecDepth 65536 in
theorem w_alone : about1.alone = true := by decide +kernel
set_option maxRecDepth 65536 in
theorem w_named : about1.methodNamed? x = some theMethod := by decide +kernel
set_option maxRecDepth 65536 in
theorem w_hears : about1.hears theMethod below0 = true := by decide +kernel
set_option maxRecDepth 65536 in
theorem w_ripe : about1.ripe theMethod args0 below0 = true := by decide +kernel
theorem w_running : about1.status = .running := rfl
set_option maxRecDepth 65536 in
theorem w_room : about1.hasRoom e0.platform room_1 = true :=
  launch0.hasRoom_least _ room_1 (by decide +kernel) (by decide +kernel) (by decide +kernel) (by decide +kernel) (by decide +kernel) (by decide +kernel)
theorem allAtoms_all (ts : List Jvm.Cond) (a : Array Jvm.Value) (st : Jvm.State) : (allAtoms ts).before a st = ts.all (fun c => c.before a st) := by
  induction ts with
  | nil => rfl
  | cons c t ih =>
    show (Jvm.Cond.and c (allAtoms t)).before a st = _
    rw [Jvm.Cond.before_and, ih, List.all_cons]
def words1 : List Jvm.Cond := Jvm.Cond.code x code maxLocals ret :: tables_1
/-- a 'code' word, met by the world's own term for the bytes: nothing is compared byte by byte -/
theorem code_word {y : MethodName} {bytes : ByteArray} {mx : Nat} {rt : Option FieldType} {a : Array Value} {s : State} {m : MethodId} {meth : Method} {c : Code} (h1 : s.methodNamed? y = some m) (h2 : s.vm.method? m = some meth) (h3 : meth.code = some c) (h4 : c.code = bytes)
    (h5 : (c.maxLocals == mx && c.exceptionTable.isEmpty && decide (c.maxStack ≤ mostOperands) && decide (meth.sig.returnType = rt) && !meth.locks && decide (parseMethodDescriptor y.desc = some meth.sig)) = true) : (Jvm.Cond.code y bytes mx rt).before a s = true := by
  simp only [Bool.and_eq_true, beq_iff_eq, Bool.not_eq_true', decide_eq_true_eq] at h5
  obtain ⟨⟨⟨⟨⟨g1, g2⟩, g3⟩, g4⟩, g5⟩, g6⟩ := h5
  simp [Cond.before, Cond.holds, Cond.value, h1, h2, h3, h4, g1, g2, g3, g4, g5, g6]
def isCode : Jvm.Cond → Bool
  | .code _ _ _ _ => true
  | _ => false
theorem all_split {L : List Jvm.Cond} {P : Jvm.Cond → Bool} (h1 : L.all (fun c => isCode c || P c) = true) (h2 : ∀ c ∈ L.filter isCode, P c = true) : L.all P = true := by
  refine List.all_eq_true.mpr fun c hc => ?_
  have h := List.all_eq_true.mp h1 c hc
  rcases Bool.eq_false_or_eq_true (isCode c) with hi | hi
  · exact h2 c (List.mem_filter.mpr ⟨hc, hi⟩)
  · simpa [hi] using h
set_option maxRecDepth 65536 in
theorem w_c0 : (Jvm.Cond.code x code maxLocals ret).before args0 about1 = true := code_word (m := ⟨1, 1⟩) (meth := k1m1) (c := k1c1) (by decide +kernel) rfl rfl rfl (by decide +kernel)
set_option maxRecDepth 65536 in
theorem w_c1 : (Jvm.Cond.code ({ cls := "java/lang/String", name := "<init>", desc := "([C)V" } : Jvm.MethodName) jdk_42_method_3_code (2 : Nat) (Option.none : Option Jvm.ClassFile.FieldType)).before args0 about1 = true := code_word (m := ⟨9, 1⟩) (meth := k9m1) (c := k9c1) (by decide +kernel) rfl rfl rfl (by decide +kernel)
set_option maxRecDepth 65536 in
theorem w_c2 : (Jvm.Cond.code ({ cls := "java/lang/String", name := "<init>", desc := "([CIILjava/lang/Void;)V" } : Jvm.MethodName) jdk_42_method_149_code (6 : Nat) (Option.none : Option Jvm.ClassFile.FieldType)).before args0 about1 = true := code_word (m := ⟨9, 2⟩) (meth := k9m2) (c := k9c2) (by decide +kernel) rfl rfl rfl (by decide +kernel)
set_option maxRecDepth 65536 in
theorem w_c3 : (Jvm.Cond.code ({ cls := "java/lang/Object", name := "<init>", desc := "()V" } : Jvm.MethodName) object_method_1_code (1 : Nat) (Option.none : Option Jvm.ClassFile.FieldType)).before args0 about1 = true := code_word (m := ⟨0, 0⟩) (meth := k0m0) (c := k0c0) (by decide +kernel) rfl rfl rfl (by decide +kernel)
set_option maxRecDepth 65536 in
theorem w_c4 : (Jvm.Cond.code ({ cls := "java/lang/StringUTF16", name := "compress", desc := "([CII)[B" } : Jvm.MethodName) jdk_52_method_16_code (6 : Nat) (Option.some (Jvm.ClassFile.FieldType.array Jvm.ClassFile.FieldType.byte))).before args0 about1 = true := code_word (m := ⟨10, 2⟩) (meth := k10m2) (c := k10c2) (by decide +kernel) rfl rfl rfl (by decide +kernel)
set_option maxRecDepth 65536 in
theorem w_c5 : (Jvm.Cond.code ({ cls := "java/lang/StringUTF16", name := "compress", desc := "([CI[BII)I" } : Jvm.MethodName) jdk_52_method_21_code (7 : Nat) (Option.some Jvm.ClassFile.FieldType.int)).before args0 about1 = true := code_word (m := ⟨10, 3⟩) (meth := k10m3) (c := k10c3) (by decide +kernel) rfl rfl rfl (by decide +kernel)
set_option maxRecDepth 65536 in
theorem w_c6 : (Jvm.Cond.code ({ cls := "java/lang/StringUTF16", name := "coderFromArrayLen", desc := "([BI)B" } : Jvm.MethodName) jdk_52_method_15_code (2 : Nat) (Option.some Jvm.ClassFile.FieldType.byte)).before args0 about1 = true := code_word (m := ⟨10, 1⟩) (meth := k10m1) (c := k10c1) (by decide +kernel) rfl rfl rfl (by decide +kernel)
set_option maxRecDepth 65536 in
theorem w_c7 : (Jvm.Cond.code ({ cls := "com/example/tranche/tranche/Rating", name := "<init>", desc := "(Lcom/example/tranche/tranche/RatingAgency;ILjava/lang/String;)V" } : Jvm.MethodName) prog_26_method_1_code (4 : Nat) (Option.none : Option Jvm.ClassFile.FieldType)).before args0 about1 = true := code_word (m := ⟨11, 0⟩) (meth := k11m0) (c := k11c0) (by decide +kernel) rfl rfl rfl (by decide +kernel)
set_option maxRecDepth 65536 in
theorem w_c8 : (Jvm.Cond.code ({ cls := "com/example/tranche/tranche/Rating", name := "meetsOrBeats", desc := "(Lcom/example/tranche/tranche/Rating;)Z" } : Jvm.MethodName) prog_26_method_3_code (2 : Nat) (Option.some Jvm.ClassFile.FieldType.boolean)).before args0 about1 = true := code_word (m := ⟨11, 1⟩) (meth := k11m1) (c := k11c1) (by decide +kernel) rfl rfl rfl (by decide +kernel)
def codes1 : List Jvm.Cond := [Jvm.Cond.code x code maxLocals ret, Jvm.Cond.code ({ cls := "java/lang/String", name := "<init>", desc := "([C)V" } : Jvm.MethodName) jdk_42_method_3_code (2 : Nat) (Option.none : Option Jvm.ClassFile.FieldType), Jvm.Cond.code ({ cls := "java/lang/String", name := "<init>", desc := "([CIILjava/lang/Void;)V" } : Jvm.MethodName) jdk_42_method_149_code (6 : Nat) (Option.none : Option Jvm.ClassFile.FieldType), Jvm.Cond.code ({ cls := "java/lang/Object", name := "<init>", desc := "()V" } : Jvm.MethodName) object_method_1_code (1 : Nat) (Option.none : Option Jvm.ClassFile.FieldType), Jvm.Cond.code ({ cls := "java/lang/StringUTF16", name := "compress", desc := "([CII)[B" } : Jvm.MethodName) jdk_52_method_16_code (6 : Nat) (Option.some (Jvm.ClassFile.FieldType.array Jvm.ClassFile.FieldType.byte)), Jvm.Cond.code ({ cls := "java/lang/StringUTF16", name := "compress", desc := "([CI[BII)I" } : Jvm.MethodName) jdk_52_method_21_code (7 : Nat) (Option.some Jvm.ClassFile.FieldType.int), Jvm.Cond.code ({ cls := "java/lang/StringUTF16", name := "coderFromArrayLen", desc := "([BI)B" } : Jvm.MethodName) jdk_52_method_15_code (2 : Nat) (Option.some Jvm.ClassFile.FieldType.byte), Jvm.Cond.code ({ cls := "com/example/tranche/tranche/Rating", name := "<init>", desc := "(Lcom/example/tranche/tranche/RatingAgency;ILjava/lang/String;)V" } : Jvm.MethodName) prog_26_method_1_code (4 : Nat) (Option.none : Option Jvm.ClassFile.FieldType), Jvm.Cond.code ({ cls := "com/example/tranche/tranche/Rating", name := "meetsOrBeats", desc := "(Lcom/example/tranche/tranche/Rating;)Z" } : Jvm.MethodName) prog_26_method_3_code (2 : Nat) (Option.some Jvm.ClassFile.FieldType.boolean)]
set_option maxRecDepth 65536 in
theorem codes_eq : words1.filter isCode = codes1 := rfl
theorem w_codes : ∀ c ∈ words1.filter isCode, c.before args0 about1 = true := by
  rw [codes_eq]
  intro c hc
  simp only [codes1, List.mem_cons, List.not_mem_nil, or_false] at hc
  rcases hc with rfl | rfl | rfl | rfl | rfl | rfl | rfl | rfl | rfl
  · exact w_c0
  · exact w_c1
  · exact w_c2
  · exact w_c3
  · exact w_c4
  · exact w_c5
  · exact w_c6
  · exact w_c7
  · exact w_c8
set_option maxRecDepth 65536 in
theorem w_t1 : (words1.take 24).all (fun c => isCode c || c.before args0 about1) = true := by decide +kernel
set_option maxRecDepth 65536 in
theorem w_t2 : ((words1.drop 24).take 24).all (fun c => isCode c || c.before args0 about1) = true := by decide +kernel
set_option maxRecDepth 65536 in
theorem w_t3 : ((words1.drop 24).drop 24).all (fun c => isCode c || c.before args0 about1) = true := by decide +kernel
theorem w_tables : (allAtoms (Jvm.Cond.code x code maxLocals ret :: tables_1)).before args0 about1 = true := by
  rw [allAtoms_all]
  show words1.all (fun c => c.before args0 about1) = true
  refine all_split ?_ w_codes
  rw [← List.take_append_drop 24 words1, List.all_append, w_t1, ← List.take_append_drop 24 (words1.drop 24), List.all_append, w_t2, w_t3]
  rfl
set_option maxRecDepth 65536 in
theorem w_rest : rest_1_c.before args0 about1 = true := by decide +kernel
set_option maxRecDepth 65536 in
theorem w_case : (Jvm.Cond.and given_1 narrow_1).before args0 about1 = true := by decide +kernel
theorem w_applies : (headSpec (Jvm.Cond.code x code maxLocals ret :: tables_1) room_1).applies x e0.platform about1 = true :=
  (Spec.applies_iff w_frames).mpr ⟨w_running, w_runnable, w_alone, w_named, w_hears, w_ripe, w_room, w_tables⟩
theorem atStart : AtStart classFile x code maxLocals ret World_1 tables_1 room_1 Calls_1 rest_1 Pre_1 launch0 p0 e0 about1 theMethod args0 below0 :=
  ⟨lists_1, trivial, launch0.admits_env _ _ _, launch0.least_env, fairChoices_fair.cas, fairChoices_fair.clock, w_frames, w_args, w_heap, w_applies, trivial, w_rest, w_case⟩
end start1
theorem witness_1 : WitnessClaimed_1 := ⟨start1.p0, start1.e0, start1.about1, start1.theMethod, start1.args0, start1.below0, start1.atStart⟩
end Jvm.Pilot.@@N@@
