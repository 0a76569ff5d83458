import JvmDerived
import JvmDerived.Pilot.@@N@@Statement
import JvmDerived.Pilot.@@N@@Code
set_option linter.unusedVariables false
set_option linter.unusedSimpArgs false
namespace Jvm.RoadKit
open Sem ClassFile Op Lib Jvm.Stand Jvm.Free Jvm.LawKit
section New
variable {p : Program} {l : Launch} {e : Env} {R : Room} {s : State} {m : MethodId} {args : Array Value} {below : List Frame} {meth : Method} {c : Code} {T : State} {locs : List Loc} {cells slots : Nat}
theorem retI (X : Stand p l e R s m args below meth c T locs cells slots) (hx : p.tables.exec = Jvm.exec) {pc : Nat} {Ls : Array Slot} {z : Int32} {rest : List Value} (hret : meth.sig.returnType = some .int) (hd : decode c.code pc = .ok (.ireturn, 1)) {fs : List Frame}
    (hl : ∀ (f : JFrame) (acts : List Action), f.method = m → f.locked = none → f.entered = [] → (doReturn e (T.setTop f) acts (some (.int z))).1 = T.setFrames fs) : Steps p.tables e below (T.setTop (mkF m pc Ls (.int z :: rest))) (T.setFrames fs) := by
  have hm' : T.vm.method? m = some meth := X.method'
  have hn : narrow .int (.int z) = .int z := rfl
  show Steps p.tables e below (T.setTop { method := m, pc := pc, locals := Ls, stack := _ :: rest, locked := none }) _
  jvm_step X.here [X.here.top, hx, hd, hm', hret, hn]
  first | (intro acts; rw [hl _ acts rfl rfl rfl]) | rw [hl _ _ rfl rfl rfl]
  exact Steps.refl _
end New
end Jvm.RoadKit

namespace Jvm.Pilot.@@N@@
open Jvm Jvm.ClassFile Sem Op Lib Jvm.Free Jvm.Stand Jvm.LawKit Jvm.RoadKit Bundle Jvm.Pilot.@@N@@.Jvm.D
theorem own_w {a0 : Array Value} {Z : State} (hw : ∀ d ∈ tables_1, d.before a0 Z = true) {d : Jvm.Cond} (i : Nat) (h : tables_1[i]? = some d) : d.before a0 Z = true := hw d (List.mem_of_getElem? h)
abbrev Sp (p : Program) (e : Env) (b : List Frame) (T : State) (g : JFrame) (t : State) : Prop := Steps p.tables e b (T.setTop g) t
theorem own_le {Z : State} {n0 : Nat} {h : Heap} (O : Old Z n0 h) : n0 ≤ h.size := O.1 ▸ O.2.1
theorem own_narb {c : Prop} [Decidable c] : nar .boolean (if c then (1 : Int32) else 0) = if c then (1 : Int32) else 0 := by split <;> rfl
theorem own_narb' {c : Prop} [Decidable c] : nar .boolean (if c then (0 : Int32) else 1) = if c then (0 : Int32) else 1 := by split <;> rfl
theorem own_eqc {t : Term} {k : Int32} {a0 : Array Value} {Z : State} (h : (Jvm.Cond.eq t (.int k)).value a0 Z none Z [] = some true) : t.eval a0 Z none [] Z = some (.int k) := by
  obtain ⟨x, y, e1, e2, k1, -⟩ := cmp_v (Or.inl h)
  obtain rfl : Value.int k = y := Option.some.inj ((Term.int_eval k).symm.trans e2)
  cases x <;> simp [Kin, Value.isRef] at k1
  simp [Jvm.Cond.value, e1, Term.int_eval] at h
  rw [e1, h]

theorem own_IBw {Z s : State} {vm0 vm : Vm} {Ts : List String} (I : IB Z vm0 Ts) (h : (s.setVm vm0).WarmedH vm) : IB Z vm Ts := by
  obtain ⟨more, h1, h2⟩ := I
  exact ⟨more, h.interned_eq.trans h1, h2⟩
theorem own_sa {a0 : Array Value} {Z : State} (hw : ∀ d ∈ tables_1, d.before a0 Z = true) : ∀ d ∈ Bundle.stringAtoms, d.before a0 Z = true := fun d hd => hw d ((by decide +kernel : ∀ d ∈ Bundle.stringAtoms, d ∈ tables_1) d hd)
theorem own_backS {p : Program} {l : Launch} {e : Env} {R : Room} {s : State} {args : Array Value} {below : List Frame} {Z : State} {a0 : Array Value} {h : Heap} {y : MethodName} {bytes : ByteArray} {maxL : Nat} {ret : Option FieldType} {rm : Room} {len W : Nat} {as' : Array Value} {PV : Vm → Prop} {Q : Option Value → Vm → Heap → List Loc → Prop}
    (hM : MetFree l y (head1 [Jvm.Cond.code y bytes maxL ret] rm) (fun a U => a = as' ∧ Z.Warmed39 U.vm ∧ U.heap = h ∧ PV U.vm) (fun _ _ _ _ _ => True) (fun _ U o U' => ∃ v L, o = .returned v ∧ Q v U'.vm U'.heap L ∧ ReturnedEndW U o U' L rm.cells rm.slots))
    (hZ : Z.Warmed39 s.vm) (wc : (Jvm.Cond.code y bytes maxL ret).before a0 Z = true) (wz : (Jvm.Cond.initialized y.cls).before a0 Z = true) (hf : rm.frames + 1 ≤ R.frames) (hl : W + (maxL + 11) + rm.locals ≤ R.locals) (hPV : ∀ vm, s.WarmedH vm → PV vm) :
    BackS l R p e below s args y len W (fun A a => a = as' ∧ A.U.heap = h ∧ A.cells + rm.cells ≤ R.cells ∧ A.slots + rm.slots ≤ R.slots)
      (fun A _ v B => ∃ L, Q v B.U.vm B.U.heap L ∧ B.locs = A.locs ++ L ∧ B.cells = A.cells + rm.cells ∧ B.slots = A.slots + rm.slots) :=
  BackS.of_freeW (bytes := bytes) (maxL := maxL) (ret := ret) (E := fun _ _ o t L k n => k = rm.cells ∧ n = rm.slots ∧ ∃ v, o = .returned v ∧ Q v t.vm t.heap L) hM hf hl
    (fun m meth c A a Y hp => have hU : Z.Warmed39 A.U.vm := wtrans hZ Y.warmed
      ⟨by show (Cond.and _ .tt).before a A.U = true; rw [Cond.before_and, mv hU wc]; rfl, mv hU wc, mv hU wz, hp.2.2.1, hp.2.2.2⟩)
    (fun m meth c A a g mk Y hp => ⟨hp.1, wtrans hZ Y.warmed, hp.2.1, hPV _ Y.warmed⟩) (fun _ _ _ _ _ _ _ _ _ => trivial)
    (fun _ _ _ _ ⟨v, L, h1, h2, h3⟩ => ⟨L, _, _, h3, rfl, rfl, v, h1, h2⟩)
    (fun m meth c A a g mk v t L k n Y hp _ _ ⟨e1, e2, v', e3, e4⟩ => by cases e3; subst e1 e2; exact ⟨L, e4, rfl, rfl, rfl⟩)

theorem own_nb (x : Int32) : nar .byte (x.toInt8.toInt32) = x.toInt8.toInt32 := by simp [nar]

theorem own_i2c_id (z : Int32) (h0 : 0 ≤ z.toInt) (h1 : z.toInt < 65536) : z.toUInt32.toUInt16.toUInt32.toInt32 = z := by
  apply Int32.toInt_inj.mp
  have := c_i2c z
  omega
theorem own_and255 (x : Int32) : 0 ≤ (x &&& (255 : Int32)).toInt ∧ (x &&& (255 : Int32)).toInt ≤ 255 := by
  have := c_and x (255 : Int32) (by decide)
  have e : (255 : Int32).toInt = 255 := rfl
  omega
theorem own_c255 (x : Int32) : nar .char ((x &&& (255 : Int32)).toUInt32.toUInt16.toUInt32.toInt32) = (x &&& (255 : Int32)).toUInt32.toUInt16.toUInt32.toInt32 ∧ ¬ (255 : Int32) < (x &&& (255 : Int32)).toUInt32.toUInt16.toUInt32.toInt32 := by
  have h := own_and255 x
  have e : (255 : Int32).toInt = 255 := rfl
  rw [own_i2c_id _ h.1 (by omega)]
  refine ⟨own_i2c_id _ h.1 (by omega), ?_⟩
  rw [Int32.lt_iff_toInt_lt]
  omega

def own_Ar (Z : State) (h : Heap) (b : Addr) (kB : ClassId) (n c0 c1 : Int32) : Prop := (n = (0 : Int32) ∧ Arv Z h b kB .byte (0 : Int32) [] (.int (0 : Int32))) ∨ (n = (1 : Int32) ∧ Arv Z h b kB .byte (1 : Int32) [(.int (c0).toInt8.toInt32)] (.int (0 : Int32))) ∨ (n = (2 : Int32) ∧ Arv Z h b kB .byte (2 : Int32) [(.int (c0).toInt8.toInt32), (.int (c1).toInt8.toInt32)] (.int (0 : Int32)))
theorem own_Ar.ext {Z : State} {h h' : Heap} {b : Addr} {kB : ClassId} {n c0 c1 : Int32} (F : own_Ar Z h b kB n c0 c1) (E : Ext h h') : own_Ar Z h' b kB n c0 c1 := by
  rcases F with ⟨e, V⟩ | ⟨e, V⟩ | ⟨e, V⟩
  · exact Or.inl ⟨e, V.ext E⟩
  · exact Or.inr (Or.inl ⟨e, V.ext E⟩)
  · exact Or.inr (Or.inr (⟨e, V.ext E⟩))
theorem own_Ar.keep {Z : State} {h h' : Heap} {b : Addr} {kB : ClassId} {n c0 c1 : Int32} {ws : List Addr} (F : own_Ar Z h b kB n c0 c1) (K : Keep h h' ws) (q : b ∉ ws) : own_Ar Z h' b kB n c0 c1 := by
  rcases F with ⟨e, V⟩ | ⟨e, V⟩ | ⟨e, V⟩
  · exact Or.inl ⟨e, V.keep K q⟩
  · exact Or.inr (Or.inl ⟨e, V.keep K q⟩)
  · exact Or.inr (Or.inr (⟨e, V.keep K q⟩))
theorem own_Ar.lt {Z : State} {h : Heap} {b : Addr} {kB : ClassId} {n c0 c1 : Int32} (F : own_Ar Z h b kB n c0 c1) : b < h.size := by
  rcases F with ⟨e, V⟩ | ⟨e, V⟩ | ⟨e, V⟩
  · exact V.lt
  · exact V.lt
  · exact V.lt
theorem own_neAr {Z : State} {h : Heap} {b : Addr} {kB : ClassId} {n c0 c1 : Int32} {a0 : Array Value} {x : Addr} {C : String} {q : Nat} (E : Exa Z h x C) (F : own_Ar Z h b kB n c0 c1) (w : (Jvm.Cond.instantiable C q).before a0 Z = true) : x ≠ b := by
  rcases F with ⟨e, V⟩ | ⟨e, V⟩ | ⟨e, V⟩
  · exact Exa.neArv E V w
  · exact Exa.neArv E V w
  · exact Exa.neArv E V w
def own_eqv (n m c0 d0 c1 d1 : Int32) : Int32 := (if n = m then (if n < (1 : Int32) then (if n < (2 : Int32) then (1 : Int32) else (if c1 = d1 then (1 : Int32) else (0 : Int32))) else (if c0 = d0 then (if n < (2 : Int32) then (1 : Int32) else (if c1 = d1 then (1 : Int32) else (0 : Int32))) else (0 : Int32))) else (0 : Int32))
theorem own_eqv01 (n m c0 d0 c1 d1 : Int32) : own_eqv n m c0 d0 c1 d1 = (0 : Int32) ∨ own_eqv n m c0 d0 c1 d1 = (1 : Int32) := by
  unfold own_eqv
  repeat' split
  all_goals first | exact Or.inl rfl | exact Or.inr rfl
theorem own_byeq {c d : Int32} (hc : ¬ (255 : Int32) < c ∧ ¬ c < (0 : Int32)) (hd : ¬ (255 : Int32) < d ∧ ¬ d < (0 : Int32)) : c.toInt8.toInt32 = d.toInt8.toInt32 ↔ c = d := by
  have q1 := c_i2b c
  have q2 := c_i2b d
  have e1 : (255 : Int32).toInt = 255 := rfl
  have e2 : (0 : Int32).toInt = 0 := rfl
  simp only [Int32.lt_iff_toInt_lt, e1, e2] at hc hd
  refine ⟨fun h => ?_, fun h => by rw [h]⟩
  rw [h] at q1
  apply Int32.toInt_inj.mp
  omega
def own_L (Z : State) (h : Heap) (vm : Vm) : Prop := IB Z vm [] ∨ ∃ aE bE kE, Exa Z h aE "java/lang/String" ∧ Fld Z h aE "java/lang/String" "value" "[B" (.ref bE) ∧ Fld Z h aE "java/lang/String" "coder" "B" (.int (0 : Int32)) ∧ Arv Z h bE kE .byte (0 : Int32) [] (.int (0 : Int32)) ∧ Lit (Z.setVm vm) "java/lang/String" 7 aE
theorem own_cr (x : Int32) : nar .char ((x &&& (255 : Int32)).toUInt32.toUInt16.toUInt32.toInt32) = (x &&& (255 : Int32)).toUInt32.toUInt16.toUInt32.toInt32 ∧ ¬ (255 : Int32) < (x &&& (255 : Int32)).toUInt32.toUInt16.toUInt32.toInt32 ∧ ¬ (x &&& (255 : Int32)).toUInt32.toUInt16.toUInt32.toInt32 < (0 : Int32) := by
  refine ⟨(own_c255 x).1, (own_c255 x).2, ?_⟩
  have h := own_and255 x
  rw [own_i2c_id _ h.1 (by omega), Int32.lt_iff_toInt_lt]
  have e : (0 : Int32).toInt = 0 := rfl
  omega
theorem own_three (x : Int32) : ((x &&& (3 : Int32)) % (3 : Int32)) = (0 : Int32) ∨ ((x &&& (3 : Int32)) % (3 : Int32)) = (1 : Int32) ∨ ((x &&& (3 : Int32)) % (3 : Int32)) = (2 : Int32) := by
  have h1 := (c_and x (3 : Int32) (by decide)).1
  have h2 := (c_irem (x &&& (3 : Int32)) 3 3 rfl).1 h1
  have h3 : 0 ≤ ((x &&& (3 : Int32)) % (3 : Int32)).toInt ∧ ((x &&& (3 : Int32)) % (3 : Int32)).toInt < 3 := by
    rw [h2]; exact ⟨Int.emod_nonneg _ (by omega), Int.emod_lt_of_pos _ (by omega)⟩
  have e0 : (0 : Int32).toInt = 0 := rfl
  have e1 : (1 : Int32).toInt = 1 := rfl
  have e2 : (2 : Int32).toInt = 2 := rfl
  simp only [← Int32.toInt_inj, e0, e1, e2]
  omega

theorem d_jdk_52_21_0 : decode jdk_52_method_21_code 0 = .ok (.iconst 0, 1) := by decide +kernel
theorem d_jdk_52_21_1 : decode jdk_52_method_21_code 1 = .ok (.istore 5, 2) := by decide +kernel
theorem d_jdk_52_21_3 : decode jdk_52_method_21_code 3 = .ok (.iload 5, 2) := by decide +kernel
theorem d_jdk_52_21_5 : decode jdk_52_method_21_code 5 = .ok (.iload 4, 2) := by decide +kernel
theorem d_jdk_52_21_7 : decode jdk_52_method_21_code 7 = .ok (.if_icmp .ge 37, 3) := by decide +kernel
theorem d_jdk_52_21_10 : decode jdk_52_method_21_code 10 = .ok (.aload_n 0, 1) := by decide +kernel
theorem d_jdk_52_21_11 : decode jdk_52_method_21_code 11 = .ok (.iload_n 1, 1) := by decide +kernel
theorem d_jdk_52_21_12 : decode jdk_52_method_21_code 12 = .ok (.caload, 1) := by decide +kernel
theorem d_jdk_52_21_13 : decode jdk_52_method_21_code 13 = .ok (.istore 6, 2) := by decide +kernel
theorem d_jdk_52_21_15 : decode jdk_52_method_21_code 15 = .ok (.iload 6, 2) := by decide +kernel
theorem d_jdk_52_21_17 : decode jdk_52_method_21_code 17 = .ok (.sipush 255, 3) := by decide +kernel
theorem d_jdk_52_21_20 : decode jdk_52_method_21_code 20 = .ok (.if_icmp .le 6, 3) := by decide +kernel
theorem d_jdk_52_21_26 : decode jdk_52_method_21_code 26 = .ok (.aload_n 2, 1) := by decide +kernel
theorem d_jdk_52_21_27 : decode jdk_52_method_21_code 27 = .ok (.iload_n 3, 1) := by decide +kernel
theorem d_jdk_52_21_28 : decode jdk_52_method_21_code 28 = .ok (.iload 6, 2) := by decide +kernel
theorem d_jdk_52_21_30 : decode jdk_52_method_21_code 30 = .ok (.i2b, 1) := by decide +kernel
theorem d_jdk_52_21_31 : decode jdk_52_method_21_code 31 = .ok (.bastore, 1) := by decide +kernel
theorem d_jdk_52_21_32 : decode jdk_52_method_21_code 32 = .ok (.iinc 1 1, 3) := by decide +kernel
theorem d_jdk_52_21_35 : decode jdk_52_method_21_code 35 = .ok (.iinc 3 1, 3) := by decide +kernel
theorem d_jdk_52_21_38 : decode jdk_52_method_21_code 38 = .ok (.iinc 5 1, 3) := by decide +kernel
theorem d_jdk_52_21_41 : decode jdk_52_method_21_code 41 = .ok (.goto (-38), 3) := by decide +kernel
theorem d_jdk_52_21_44 : decode jdk_52_method_21_code 44 = .ok (.iload 4, 2) := by decide +kernel
theorem d_jdk_52_21_46 : decode jdk_52_method_21_code 46 = .ok (.ireturn, 1) := by decide +kernel
theorem pn_cmpa1 : plainName "java/lang/StringUTF16" = true := by first | (simp [plainName, overriddenIn]; done) | decide +kernel
theorem ef_cmpa1 (m : MethodId) (a1 : Addr) (a3 : Addr) : entryFrame m #[(.ref a1), (.int (0 : Int32)), (.ref a3), (.int (0 : Int32)), (.int (1 : Int32))] 7 = (mkF m 0 #[.val (.ref a1), .val (.int (0 : Int32)), .val (.ref a3), .val (.int (0 : Int32)), .val (.int (1 : Int32)), .unset, .unset] []) := by first | (simp [entryFrame, mkF, argsToLocals, Value.category]; done) | rfl
def Q_cmpa1 (Z : State) (a1 : Addr) (a3 : Addr) (kC kB : ClassId) (c0 : Int32) (h0 : Heap) (n0 : Nat) (v : Option Value) (h : Heap) (L : List Loc) : Prop := v = some (.int (1 : Int32)) ∧ Fr n0 L ∧ Keep h0 h [a3] ∧ Arv Z h a3 kB .byte (1 : Int32) [(.int (c0).toInt8.toInt32)] (.int (0 : Int32))
set_option maxRecDepth 65536 in
set_option maxHeartbeats 40000000 in
theorem rm_cmpa1 (l : Launch) (Z : State) (a0 : Array Value) (hw : ∀ d ∈ tables_1, d.before a0 Z = true) (ws : List Jvm.Cond) (a1 : Addr) (a3 : Addr) (kC kB : ClassId) (c0 : Int32) (h0 : Heap) (n0 : Nat) (O0 : Old Z n0 h0) (VC : Arv Z h0 a1 kC .char (1 : Int32) [(.int c0)] (.int (0 : Int32))) (VB : Arv Z h0 a3 kB .byte (1 : Int32) [(.int (0 : Int32))] (.int (0 : Int32))) (g3 : n0 ≤ a3) (ne13 : a1 ≠ a3) (hc0 : ¬ (255 : Int32) < c0) :
    MetFree l (⟨"java/lang/StringUTF16", "compress", "([CI[BII)I"⟩ : MethodName) (head1 (Jvm.Cond.code (⟨"java/lang/StringUTF16", "compress", "([CI[BII)I"⟩ : MethodName) jdk_52_method_21_code 7 (some .int) :: ws) ({ frames := 0, cells := 0, slots := 0, locals := 0 } : Room)) (fun a U => a = #[(.ref a1), (.int (0 : Int32)), (.ref a3), (.int (0 : Int32)), (.int (1 : Int32))] ∧ Z.Warmed39 U.vm ∧ U.heap = h0) (fun _ _ _ _ _ => True) (fun _ U o U' => ∃ v L, o = .returned v ∧ Q_cmpa1 Z a1 a3 kC kB c0 h0 n0 v U'.heap L ∧ FrameEnd U o U' L ({ frames := 0, cells := 0, slots := 0, locals := 0 } : Room).cells ({ frames := 0, cells := 0, slots := 0, locals := 0 } : Room).slots) := by
  refine MetFree.of_bodySF (plainFor_of_name pn_cmpa1) hisR ?_
  intro p e s m args below meth c s₁ Bd hml0 hP hK
  obtain ⟨rfl, hZ, hh⟩ := hP
  have hx := Bd.exec
  have hby := Bd.bytes
  have hml : c.maxLocals = 7 := hml0
  have hown : s.vm.findClass "java/lang/StringUTF16" = some m.cls := findClass_of_methodNamed Bd.named
  have hnm := (name_of_methodNamed Bd.named Bd.method).1
  have X0 : Stand p l e ({ frames := 0, cells := 0, slots := 0, locals := 0 } : Room) s m #[(.ref a1), (.int (0 : Int32)), (.ref a3), (.int (0 : Int32)), (.int (1 : Int32))] below meth c s₁ [] 0 0 := Stand.of_body Bd
  have e0 : s₁.heap = h0 := by rw [← hh, Bd.state]; rfl
  have N0 := Fr.nil n0
  have pre0 : ∀ t, Steps p.tables e below (s₁.setTop (mkF m 0 #[.val (.ref a1), .val (.int (0 : Int32)), .val (.ref a3), .val (.int (0 : Int32)), .val (.int (1 : Int32)), .unset, .unset] [])) t → Steps p.tables e below (s₁.setTop (entryFrame m #[(.ref a1), (.int (0 : Int32)), (.ref a3), (.int (0 : Int32)), (.int (1 : Int32))] 7)) t := fun t k => castTop (ef_cmpa1 m a1 a3) k
  generalize s₁.setTop (entryFrame m #[(.ref a1), (.int (0 : Int32)), (.ref a3), (.int (0 : Int32)), (.int (1 : Int32))] 7) = E0 at pre0 ⊢
  have pre_2 : ∀ t, Sp p e below s₁ (mkF m 31 #[.val (.ref a1), .val (.int (0 : Int32)), .val (.ref a3), .val (.int (0 : Int32)), .val (.int (1 : Int32)), .val (.int (0 : Int32)), .val (.int c0)] [(.int ((c0).toInt8.toInt32)), (.int (0 : Int32)), (.ref a3)]) t → Steps p.tables e below E0 t := by
    intro t k
    refine pre0 t ?_
    show Sp p e below s₁ (mkF m 0 #[.val (.ref a1), .val (.int (0 : Int32)), .val (.ref a3), .val (.int (0 : Int32)), .val (.int (1 : Int32)), .unset, .unset] []) _
    refine XS.iconst X0.here hx rfl (hb hby d_jdk_52_21_0) ?_
    refine XS.istore X0.here hx rfl (hb hby d_jdk_52_21_1) rfl (l' := #[.val (.ref a1), .val (.int (0 : Int32)), .val (.ref a3), .val (.int (0 : Int32)), .val (.int (1 : Int32)), .val (.int (0 : Int32)), .unset]) rfl ?_
    refine XS.iload X0.here hx rfl (hb hby d_jdk_52_21_3) rfl ?_
    refine XS.iload X0.here hx rfl (hb hby d_jdk_52_21_5) rfl ?_
    show Sp p e below s₁ (mkF m 7 #[.val (.ref a1), .val (.int (0 : Int32)), .val (.ref a3), .val (.int (0 : Int32)), .val (.int (1 : Int32)), .val (.int (0 : Int32)), .unset] [(.int (1 : Int32)), (.int (0 : Int32))]) _
    refine XS.icmpNo X0.here hx rfl (hb hby d_jdk_52_21_7) rfl (XT.ii_ge_f (by decide)) ?_
    refine XS.aloadN X0.here hx rfl (hb hby d_jdk_52_21_10) rfl rfl ?_
    refine XS.iloadN X0.here hx rfl (hb hby d_jdk_52_21_11) rfl ?_
    obtain ⟨cl1, Ar1, -, S1, -, H1, -⟩ := id VC
    have hin1 : ¬ ((0 : Int32) < 0 ∨ cl1.slots.size ≤ ((0 : Int32)).toNatClampNeg) := inb_of S1 (by decide)
    refine X0.caload hx (j := (0 : Int32)) (v := (.int c0)) (by rw [e0]; exact Ar1.1) (State.isArrayOf_alike hZ.alike Ar1.2.1) Ar1.2.2 hin1 (H1.at hin1 rfl) (g := (mkF m 12 #[.val (.ref a1), .val (.int (0 : Int32)), .val (.ref a3), .val (.int (0 : Int32)), .val (.int (1 : Int32)), .val (.int (0 : Int32)), .unset] [(.int (0 : Int32)), (.ref a1)])) rfl rfl (hb hby d_jdk_52_21_12) _ ?_
    show Sp p e below s₁ (mkF m 13 #[.val (.ref a1), .val (.int (0 : Int32)), .val (.ref a3), .val (.int (0 : Int32)), .val (.int (1 : Int32)), .val (.int (0 : Int32)), .unset] [(.int c0)]) _
    refine XS.istore X0.here hx rfl (hb hby d_jdk_52_21_13) rfl (l' := #[.val (.ref a1), .val (.int (0 : Int32)), .val (.ref a3), .val (.int (0 : Int32)), .val (.int (1 : Int32)), .val (.int (0 : Int32)), .val (.int c0)]) rfl ?_
    refine XS.iload X0.here hx rfl (hb hby d_jdk_52_21_15) rfl ?_
    refine XS.sipush X0.here hx rfl (hb hby d_jdk_52_21_17) ?_
    refine XS.icmpYes X0.here hx rfl (pc0 := 20) (pc' := 26) rfl (hb hby d_jdk_52_21_20) rfl (XT.ii_le_t hc0) (by decide) (by decide) ?_
    show Sp p e below s₁ (mkF m 26 #[.val (.ref a1), .val (.int (0 : Int32)), .val (.ref a3), .val (.int (0 : Int32)), .val (.int (1 : Int32)), .val (.int (0 : Int32)), .val (.int c0)] []) _
    refine XS.aloadN X0.here hx rfl (hb hby d_jdk_52_21_26) rfl rfl ?_
    refine XS.iloadN X0.here hx rfl (hb hby d_jdk_52_21_27) rfl ?_
    refine XS.iload X0.here hx rfl (hb hby d_jdk_52_21_28) rfl ?_
    refine XT.i2b X0.here hx rfl (hb hby d_jdk_52_21_30) rfl ?_
    show Sp p e below s₁ (mkF m 31 #[.val (.ref a1), .val (.int (0 : Int32)), .val (.ref a3), .val (.int (0 : Int32)), .val (.int (1 : Int32)), .val (.int (0 : Int32)), .val (.int c0)] [(.int ((c0).toInt8.toInt32)), (.int (0 : Int32)), (.ref a3)]) _
    exact k
  obtain ⟨cl3, Ar3, q3, S3, M3, H3, G3⟩ := id VB
  obtain ⟨T3, h3, X3, e3, W3, st3⟩ := stB X0 hx hZ e0 Ar3 (j := (0 : Int32)) (inb_of S3 (by decide)) (g := (mkF m 31 #[.val (.ref a1), .val (.int (0 : Int32)), .val (.ref a3), .val (.int (0 : Int32)), .val (.int (1 : Int32)), .val (.int (0 : Int32)), .val (.int c0)] [(.int ((c0).toInt8.toInt32)), (.int (0 : Int32)), (.ref a3)])) rfl rfl (hb hby d_jdk_52_21_31)
  have N3 := Fr.snoc X3 N0 g3
  have O3 : Old Z n0 h3 := O0.wr W3 g3
  rw [(own_nb c0)] at W3
  have V3 : Arv Z h3 a3 kB .byte (1 : Int32) [(.int ((c0).toInt8.toInt32))] (.int (0 : Int32)) := Arv.set Ar3 q3 S3 M3 H3 G3 (by rw [← (own_nb c0)]; exact (fits_nar_byte _)) W3 0 rfl (Nat.le_of_ble_eq_true rfl)
  have pre_4 : ∀ t, Sp p e below T3 (mkF m 32 #[.val (.ref a1), .val (.int (0 : Int32)), .val (.ref a3), .val (.int (0 : Int32)), .val (.int (1 : Int32)), .val (.int (0 : Int32)), .val (.int c0)] []) t → Steps p.tables e below E0 t := fun t k => pre_2 t (st3 t k)
  have pre_5 : ∀ t, Sp p e below T3 (mkF m 46 #[.val (.ref a1), .val (.int (1 : Int32)), .val (.ref a3), .val (.int (1 : Int32)), .val (.int (1 : Int32)), .val (.int (1 : Int32)), .val (.int c0)] [(.int (1 : Int32))]) t → Steps p.tables e below E0 t := by
    intro t k
    refine pre_4 t ?_
    show Sp p e below T3 (mkF m 32 #[.val (.ref a1), .val (.int (0 : Int32)), .val (.ref a3), .val (.int (0 : Int32)), .val (.int (1 : Int32)), .val (.int (0 : Int32)), .val (.int c0)] []) _
    refine XS.iinc X3.here hx rfl (hb hby d_jdk_52_21_32) rfl (l' := #[.val (.ref a1), .val (.int (1 : Int32)), .val (.ref a3), .val (.int (0 : Int32)), .val (.int (1 : Int32)), .val (.int (0 : Int32)), .val (.int c0)]) rfl ?_
    refine XS.iinc X3.here hx rfl (hb hby d_jdk_52_21_35) rfl (l' := #[.val (.ref a1), .val (.int (1 : Int32)), .val (.ref a3), .val (.int (1 : Int32)), .val (.int (1 : Int32)), .val (.int (0 : Int32)), .val (.int c0)]) rfl ?_
    refine XS.iinc X3.here hx rfl (hb hby d_jdk_52_21_38) rfl (l' := #[.val (.ref a1), .val (.int (1 : Int32)), .val (.ref a3), .val (.int (1 : Int32)), .val (.int (1 : Int32)), .val (.int (1 : Int32)), .val (.int c0)]) rfl ?_
    refine XS.goto X3.here hx rfl (pc0 := 41) (pc' := 3) rfl (hb hby d_jdk_52_21_41) (by decide) (by decide) ?_
    show Sp p e below T3 (mkF m 3 #[.val (.ref a1), .val (.int (1 : Int32)), .val (.ref a3), .val (.int (1 : Int32)), .val (.int (1 : Int32)), .val (.int (1 : Int32)), .val (.int c0)] []) _
    refine XS.iload X3.here hx rfl (hb hby d_jdk_52_21_3) rfl ?_
    refine XS.iload X3.here hx rfl (hb hby d_jdk_52_21_5) rfl ?_
    refine XS.icmpYes X3.here hx rfl (pc0 := 7) (pc' := 44) rfl (hb hby d_jdk_52_21_7) rfl (XT.ii_ge_t (by decide)) (by decide) (by decide) ?_
    refine XS.iload X3.here hx rfl (hb hby d_jdk_52_21_44) rfl ?_
    show Sp p e below T3 (mkF m 46 #[.val (.ref a1), .val (.int (1 : Int32)), .val (.ref a3), .val (.int (1 : Int32)), .val (.int (1 : Int32)), .val (.int (1 : Int32)), .val (.int c0)] [(.int (1 : Int32))]) _
    exact k
  obtain ⟨fs, hr, hrun, hended, hW, hsame⟩ := X3.leave (v := some (.int (1 : Int32))) (fun h => by rw [Bd.returns] at h; cases h)
  refine ⟨_, _, pre_5 _ ?_, hrun, hended, _, _, rfl, ?_, ⟨_, rfl⟩, hW, hsame.mono (by decide) (by decide)⟩
  · show Sp p e below T3 (mkF m 46 #[.val (.ref a1), .val (.int (1 : Int32)), .val (.ref a3), .val (.int (1 : Int32)), .val (.int (1 : Int32)), .val (.int (1 : Int32)), .val (.int c0)] [(.int (1 : Int32))]) _
    exact retI X3 hx Bd.returns (hb hby d_jdk_52_21_46) hr
  · show Q_cmpa1 Z _ _ _ _ _ h0 n0 _ T3.heap _
    rw [e3]
    exact ⟨rfl, N3, ((Keep.refl h0 [a3]).wr W3 (Or.inl (List.mem_of_getElem? (i := 0) rfl))), V3⟩
theorem d_jdk_52_16_0 : decode jdk_52_method_16_code 0 = .ok (.iload_n 2, 1) := by decide +kernel
theorem d_jdk_52_16_1 : decode jdk_52_method_16_code 1 = .ok (.newarray .byte, 2) := by decide +kernel
theorem d_jdk_52_16_3 : decode jdk_52_method_16_code 3 = .ok (.astore_n 3, 1) := by decide +kernel
theorem d_jdk_52_16_4 : decode jdk_52_method_16_code 4 = .ok (.aload_n 0, 1) := by decide +kernel
theorem d_jdk_52_16_5 : decode jdk_52_method_16_code 5 = .ok (.iload_n 1, 1) := by decide +kernel
theorem d_jdk_52_16_6 : decode jdk_52_method_16_code 6 = .ok (.aload_n 3, 1) := by decide +kernel
theorem d_jdk_52_16_7 : decode jdk_52_method_16_code 7 = .ok (.iconst 0, 1) := by decide +kernel
theorem d_jdk_52_16_8 : decode jdk_52_method_16_code 8 = .ok (.iload_n 2, 1) := by decide +kernel
theorem d_jdk_52_16_9 : decode jdk_52_method_16_code 9 = .ok (.invokestatic 115, 3) := by decide +kernel
theorem d_jdk_52_16_12 : decode jdk_52_method_16_code 12 = .ok (.istore 4, 2) := by decide +kernel
theorem d_jdk_52_16_14 : decode jdk_52_method_16_code 14 = .ok (.iload 4, 2) := by decide +kernel
theorem d_jdk_52_16_16 : decode jdk_52_method_16_code 16 = .ok (.iload_n 2, 1) := by decide +kernel
theorem d_jdk_52_16_17 : decode jdk_52_method_16_code 17 = .ok (.if_icmp .eq 40, 3) := by decide +kernel
theorem d_jdk_52_16_57 : decode jdk_52_method_16_code 57 = .ok (.aload_n 3, 1) := by decide +kernel
theorem d_jdk_52_16_58 : decode jdk_52_method_16_code 58 = .ok (.areturn, 1) := by decide +kernel
theorem pn_cmpb1 : plainName "java/lang/StringUTF16" = true := by first | (simp [plainName, overriddenIn]; done) | decide +kernel
theorem pd_cmpb1_0 : parseMethodDescriptor "([CI[BII)I" = some ⟨[(.array .char), .int, (.array .byte), .int, .int], some .int⟩ := by decide +kernel
theorem ef_cmpb1 (m : MethodId) (a1 : Addr) : entryFrame m #[(.ref a1), (.int (0 : Int32)), (.int (1 : Int32))] 6 = (mkF m 0 #[.val (.ref a1), .val (.int (0 : Int32)), .val (.int (1 : Int32)), .unset, .unset, .unset] []) := by first | (simp [entryFrame, mkF, argsToLocals, Value.category]; done) | rfl
def Q_cmpb1 (Z : State) (a1 : Addr) (kC : ClassId) (c0 : Int32) (h0 : Heap) (n0 : Nat) (v : Option Value) (h : Heap) (L : List Loc) : Prop := ∃ b kB, v = some (.ref b) ∧ Fr n0 L ∧ Keep h0 h [] ∧ h0.size ≤ b ∧ Arv Z h b kB .byte (1 : Int32) [(.int (c0).toInt8.toInt32)] (.int (0 : Int32))
set_option maxRecDepth 65536 in
set_option maxHeartbeats 40000000 in
theorem rm_cmpb1 (l : Launch) (Z : State) (a0 : Array Value) (hw : ∀ d ∈ tables_1, d.before a0 Z = true) (ws : List Jvm.Cond) (a1 : Addr) (kC : ClassId) (c0 : Int32) (h0 : Heap) (n0 : Nat) (O0 : Old Z n0 h0) (VC : Arv Z h0 a1 kC .char (1 : Int32) [(.int c0)] (.int (0 : Int32))) (hc0 : ¬ (255 : Int32) < c0) :
    MetFree l (⟨"java/lang/StringUTF16", "compress", "([CII)[B"⟩ : MethodName) (head1 (Jvm.Cond.code (⟨"java/lang/StringUTF16", "compress", "([CII)[B"⟩ : MethodName) jdk_52_method_16_code 6 (some (.array .byte)) :: ws) ({ frames := 1, cells := 1, slots := 1, locals := 18 } : Room)) (fun a U => a = #[(.ref a1), (.int (0 : Int32)), (.int (1 : Int32))] ∧ Z.Warmed39 U.vm ∧ U.heap = h0) (fun _ _ _ _ _ => True) (fun _ U o U' => ∃ v L, o = .returned v ∧ Q_cmpb1 Z a1 kC c0 h0 n0 v U'.heap L ∧ FrameEnd U o U' L ({ frames := 1, cells := 1, slots := 1, locals := 18 } : Room).cells ({ frames := 1, cells := 1, slots := 1, locals := 18 } : Room).slots) := by
  refine MetFree.of_bodySF (plainFor_of_name pn_cmpb1) hisR ?_
  intro p e s m args below meth c s₁ Bd hml0 hP hK
  obtain ⟨rfl, hZ, hh⟩ := hP
  have hx := Bd.exec
  have hby := Bd.bytes
  have hml : c.maxLocals = 6 := hml0
  have hown : s.vm.findClass "java/lang/StringUTF16" = some m.cls := findClass_of_methodNamed Bd.named
  have hnm := (name_of_methodNamed Bd.named Bd.method).1
  have X0 : Stand p l e ({ frames := 1, cells := 1, slots := 1, locals := 18 } : Room) s m #[(.ref a1), (.int (0 : Int32)), (.int (1 : Int32))] below meth c s₁ [] 0 0 := Stand.of_body Bd
  have e0 : s₁.heap = h0 := by rw [← hh, Bd.state]; rfl
  have N0 := Fr.nil n0
  have pre0 : ∀ t, Steps p.tables e below (s₁.setTop (mkF m 0 #[.val (.ref a1), .val (.int (0 : Int32)), .val (.int (1 : Int32)), .unset, .unset, .unset] [])) t → Steps p.tables e below (s₁.setTop (entryFrame m #[(.ref a1), (.int (0 : Int32)), (.int (1 : Int32))] 6)) t := fun t k => castTop (ef_cmpb1 m a1) k
  generalize s₁.setTop (entryFrame m #[(.ref a1), (.int (0 : Int32)), (.int (1 : Int32))] 6) = E0 at pre0 ⊢
  have pre_1 : ∀ t, Sp p e below s₁ (mkF m 1 #[.val (.ref a1), .val (.int (0 : Int32)), .val (.int (1 : Int32)), .unset, .unset, .unset] [(.int (1 : Int32))]) t → Steps p.tables e below E0 t := by
    intro t k
    refine pre0 t ?_
    show Sp p e below s₁ (mkF m 0 #[.val (.ref a1), .val (.int (0 : Int32)), .val (.int (1 : Int32)), .unset, .unset, .unset] []) _
    refine XS.iloadN X0.here hx rfl (hb hby d_jdk_52_16_0) rfl ?_
    exact k
  obtain ⟨T2, h2, cA2, X2, e2, E2, A2, st2⟩ := newP X0 hx hZ (own_w hw 22 rfl) e0 (g := (mkF m 1 #[.val (.ref a1), .val (.int (0 : Int32)), .val (.int (1 : Int32)), .unset, .unset, .unset] [(.int (1 : Int32))])) rfl (hb hby d_jdk_52_16_1) rfl (by decide) (cap := 1) (by decide) (by decide) (by decide) (by decide)
  obtain ⟨b2, g2⟩ : ∃ z, z = h0.size := ⟨_, rfl⟩
  rw [← g2] at A2 st2
  have O2 : Old Z n0 h2 := O0.ext E2
  have V2 : Arv Z h2 b2 cA2 .byte (1 : Int32) [(.int (0 : Int32))] (.int (0 : Int32)) := (Arv.new A2 (by decide)).pad (pad_rep [] _ 1)
  have pre_3 : ∀ t, Sp p e below T2 (mkF m 3 #[.val (.ref a1), .val (.int (0 : Int32)), .val (.int (1 : Int32)), .unset, .unset, .unset] [(.ref b2)]) t → Steps p.tables e below E0 t := fun t k => pre_1 t (st2 t k)
  have pre_4 : ∀ t, Sp p e below T2 (mkF m 9 #[.val (.ref a1), .val (.int (0 : Int32)), .val (.int (1 : Int32)), .val (.ref b2), .unset, .unset] [(.int (1 : Int32)), (.int (0 : Int32)), (.ref b2), (.int (0 : Int32)), (.ref a1)]) t → Steps p.tables e below E0 t := by
    intro t k
    refine pre_3 t ?_
    show Sp p e below T2 (mkF m 3 #[.val (.ref a1), .val (.int (0 : Int32)), .val (.int (1 : Int32)), .unset, .unset, .unset] [(.ref b2)]) _
    refine XS.astoreN X2.here hx rfl (hb hby d_jdk_52_16_3) rfl rfl (l' := #[.val (.ref a1), .val (.int (0 : Int32)), .val (.int (1 : Int32)), .val (.ref b2), .unset, .unset]) rfl ?_
    refine XS.aloadN X2.here hx rfl (hb hby d_jdk_52_16_4) rfl rfl ?_
    refine XS.iloadN X2.here hx rfl (hb hby d_jdk_52_16_5) rfl ?_
    show Sp p e below T2 (mkF m 6 #[.val (.ref a1), .val (.int (0 : Int32)), .val (.int (1 : Int32)), .val (.ref b2), .unset, .unset] [(.int (0 : Int32)), (.ref a1)]) _
    refine XS.aloadN X2.here hx rfl (hb hby d_jdk_52_16_6) rfl rfl ?_
    refine XS.iconst X2.here hx rfl (hb hby d_jdk_52_16_7) ?_
    refine XS.iloadN X2.here hx rfl (hb hby d_jdk_52_16_8) rfl ?_
    exact k
  obtain ⟨_, _, ⟨T5, L5, k5, n5⟩, -, X5, ⟨Lc5, hQ5, l5, y5, z5⟩, st5⟩ := Jvm.LawKit.callS X2 hx (y := (⟨"java/lang/StringUTF16", "compress", "([CI[BII)I"⟩ : MethodName)) hown (mvT hZ (own_w hw 58 rfl)) (mvT hZ (own_w hw 59 rfl)) (mvT hZ (own_w hw 56 rfl)) (mvT hZ (own_w hw 60 rfl)) (by decide) (backOf (W := 0) (rm_cmpa1 l Z a0 hw [] a1 b2 kC cA2 c0 h2 n0 O2 (VC.ext E2) V2 (Nat.le_trans (own_le O0) (Nat.le_of_eq g2.symm)) (Nat.ne_of_lt (Nat.lt_of_lt_of_le VC.lt (Nat.le_of_eq g2.symm))) hc0) hZ (own_w hw 60 rfl) (own_w hw 56 rfl) (by decide) (by decide)) (g := (mkF m 9 #[.val (.ref a1), .val (.int (0 : Int32)), .val (.int (1 : Int32)), .val (.ref b2), .unset, .unset] [(.int (1 : Int32)), (.int (0 : Int32)), (.ref b2), (.int (0 : Int32)), (.ref a1)])) rfl (by rw [hml]; rfl) (argsL := [(.ref a1), (.int (0 : Int32)), (.ref b2), (.int (0 : Int32)), (.int (1 : Int32))]) (rest := []) (lenOf pd_cmpb1_0 rfl) rfl (by show 2 * 0 + _ ≤ _; exact Nat.le_of_eq rfl) (hb hby d_jdk_52_16_9) (fun _ _ => ⟨rfl, e2, (by decide : 1 + 0 ≤ _), (by decide : 1 + 0 ≤ _)⟩)
  dsimp only [Pt.U, Pt.locs, Pt.cells, Pt.slots] at X5 l5 y5 z5 st5 hQ5
  subst l5 y5 z5
  obtain ⟨rfl, N5q, K5, Vb5⟩ := hQ5
  have N5 := Fr.app N0 N5q
  have O5 : Old Z n0 T5.heap := O2.keep K5 (allS (Nat.le_trans (own_le O0) (Nat.le_of_eq g2.symm)) all0)
  have pre_6 : ∀ t, Sp p e below T5 (mkF m 12 #[.val (.ref a1), .val (.int (0 : Int32)), .val (.int (1 : Int32)), .val (.ref b2), .unset, .unset] [(.int (1 : Int32))]) t → Steps p.tables e below E0 t := fun t k => pre_4 t (st5 t k)
  have pre_7 : ∀ t, Sp p e below T5 (mkF m 58 #[.val (.ref a1), .val (.int (0 : Int32)), .val (.int (1 : Int32)), .val (.ref b2), .val (.int (1 : Int32)), .unset] [(.ref b2)]) t → Steps p.tables e below E0 t := by
    intro t k
    refine pre_6 t ?_
    show Sp p e below T5 (mkF m 12 #[.val (.ref a1), .val (.int (0 : Int32)), .val (.int (1 : Int32)), .val (.ref b2), .unset, .unset] [(.int (1 : Int32))]) _
    refine XS.istore X5.here hx rfl (hb hby d_jdk_52_16_12) rfl (l' := #[.val (.ref a1), .val (.int (0 : Int32)), .val (.int (1 : Int32)), .val (.ref b2), .val (.int (1 : Int32)), .unset]) rfl ?_
    show Sp p e below T5 (mkF m 14 #[.val (.ref a1), .val (.int (0 : Int32)), .val (.int (1 : Int32)), .val (.ref b2), .val (.int (1 : Int32)), .unset] []) _
    refine XS.iload X5.here hx rfl (hb hby d_jdk_52_16_14) rfl ?_
    refine XS.iloadN X5.here hx rfl (hb hby d_jdk_52_16_16) rfl ?_
    refine XS.icmpYes X5.here hx rfl (pc0 := 17) (pc' := 57) rfl (hb hby d_jdk_52_16_17) rfl (XT.ii_eq_t (by decide)) (by decide) (by decide) ?_
    refine XS.aloadN X5.here hx rfl (hb hby d_jdk_52_16_57) rfl rfl ?_
    show Sp p e below T5 (mkF m 58 #[.val (.ref a1), .val (.int (0 : Int32)), .val (.int (1 : Int32)), .val (.ref b2), .val (.int (1 : Int32)), .unset] [(.ref b2)]) _
    exact k
  obtain ⟨fs, hr, hrun, hended, hW, hsame⟩ := X5.leave (v := some (.ref b2)) (fun h => by rw [Bd.returns] at h; cases h)
  refine ⟨_, _, pre_7 _ ?_, hrun, hended, _, _, rfl, ?_, ⟨_, rfl⟩, hW, hsame.mono (by decide) (by decide)⟩
  · show Sp p e below T5 (mkF m 58 #[.val (.ref a1), .val (.int (0 : Int32)), .val (.int (1 : Int32)), .val (.ref b2), .val (.int (1 : Int32)), .unset] [(.ref b2)]) _
    exact retOut X5 hx (t := (.array .byte)) Bd.returns rfl (Or.inr (Or.inr (Or.inr (Or.inr ⟨rfl, rfl, rfl⟩)))) (hb hby d_jdk_52_16_58) hr
  · show Q_cmpb1 Z _ _ _ h0 n0 _ T5.heap _
    exact ⟨b2, cA2, rfl, N5, (((Keep.refl h0 []).ext E2).trans K5 (allS (Or.inr (Nat.le_trans (Keep.refl h0 []).1 (Nat.le_of_eq g2.symm))) all0)), (Nat.le_trans (Keep.refl h0 []).1 (Nat.le_of_eq g2.symm)), Vb5⟩
theorem d_jdk_52_15_0 : decode jdk_52_method_15_code 0 = .ok (.iload_n 1, 1) := by decide +kernel
theorem d_jdk_52_15_1 : decode jdk_52_method_15_code 1 = .ok (.aload_n 0, 1) := by decide +kernel
theorem d_jdk_52_15_2 : decode jdk_52_method_15_code 2 = .ok (.arraylength, 1) := by decide +kernel
theorem d_jdk_52_15_3 : decode jdk_52_method_15_code 3 = .ok (.isub, 1) := by decide +kernel
theorem d_jdk_52_15_4 : decode jdk_52_method_15_code 4 = .ok (.bipush 31, 2) := by decide +kernel
theorem d_jdk_52_15_6 : decode jdk_52_method_15_code 6 = .ok (.iushr, 1) := by decide +kernel
theorem d_jdk_52_15_7 : decode jdk_52_method_15_code 7 = .ok (.i2b, 1) := by decide +kernel
theorem d_jdk_52_15_8 : decode jdk_52_method_15_code 8 = .ok (.ireturn, 1) := by decide +kernel
theorem pn_cfa1 : plainName "java/lang/StringUTF16" = true := by first | (simp [plainName, overriddenIn]; done) | decide +kernel
theorem ef_cfa1 (m : MethodId) (a1 : Addr) : entryFrame m #[(.ref a1), (.int (1 : Int32))] 2 = (mkF m 0 #[.val (.ref a1), .val (.int (1 : Int32))] []) := by first | (simp [entryFrame, mkF, argsToLocals, Value.category]; done) | rfl
def Q_cfa1 (Z : State) (a1 : Addr) (kB : ClassId) (c0 : Int32) (h0 : Heap) (n0 : Nat) (v : Option Value) (h : Heap) (L : List Loc) : Prop := v = some (.int (0 : Int32)) ∧ Fr n0 L ∧ h = h0
set_option maxRecDepth 65536 in
set_option maxHeartbeats 40000000 in
theorem rm_cfa1 (l : Launch) (Z : State) (a0 : Array Value) (hw : ∀ d ∈ tables_1, d.before a0 Z = true) (ws : List Jvm.Cond) (a1 : Addr) (kB : ClassId) (c0 : Int32) (h0 : Heap) (n0 : Nat) (O0 : Old Z n0 h0) (VB : Arv Z h0 a1 kB .byte (1 : Int32) [(.int (c0).toInt8.toInt32)] (.int (0 : Int32))) :
    MetFree l (⟨"java/lang/StringUTF16", "coderFromArrayLen", "([BI)B"⟩ : MethodName) (head1 (Jvm.Cond.code (⟨"java/lang/StringUTF16", "coderFromArrayLen", "([BI)B"⟩ : MethodName) jdk_52_method_15_code 2 (some .byte) :: ws) ({ frames := 0, cells := 0, slots := 0, locals := 0 } : Room)) (fun a U => a = #[(.ref a1), (.int (1 : Int32))] ∧ Z.Warmed39 U.vm ∧ U.heap = h0) (fun _ _ _ _ _ => True) (fun _ U o U' => ∃ v L, o = .returned v ∧ Q_cfa1 Z a1 kB c0 h0 n0 v U'.heap L ∧ FrameEnd U o U' L ({ frames := 0, cells := 0, slots := 0, locals := 0 } : Room).cells ({ frames := 0, cells := 0, slots := 0, locals := 0 } : Room).slots) := by
  refine MetFree.of_bodySF (plainFor_of_name pn_cfa1) hisR ?_
  intro p e s m args below meth c s₁ Bd hml0 hP hK
  obtain ⟨rfl, hZ, hh⟩ := hP
  have hx := Bd.exec
  have hby := Bd.bytes
  have hml : c.maxLocals = 2 := hml0
  have hown : s.vm.findClass "java/lang/StringUTF16" = some m.cls := findClass_of_methodNamed Bd.named
  have hnm := (name_of_methodNamed Bd.named Bd.method).1
  have X0 : Stand p l e ({ frames := 0, cells := 0, slots := 0, locals := 0 } : Room) s m #[(.ref a1), (.int (1 : Int32))] below meth c s₁ [] 0 0 := Stand.of_body Bd
  have e0 : s₁.heap = h0 := by rw [← hh, Bd.state]; rfl
  have N0 := Fr.nil n0
  have pre0 : ∀ t, Steps p.tables e below (s₁.setTop (mkF m 0 #[.val (.ref a1), .val (.int (1 : Int32))] [])) t → Steps p.tables e below (s₁.setTop (entryFrame m #[(.ref a1), (.int (1 : Int32))] 2)) t := fun t k => castTop (ef_cfa1 m a1) k
  generalize s₁.setTop (entryFrame m #[(.ref a1), (.int (1 : Int32))] 2) = E0 at pre0 ⊢
  have pre_2 : ∀ t, Sp p e below s₁ (mkF m 8 #[.val (.ref a1), .val (.int (1 : Int32))] [(.int (0 : Int32))]) t → Steps p.tables e below E0 t := by
    intro t k
    refine pre0 t ?_
    show Sp p e below s₁ (mkF m 0 #[.val (.ref a1), .val (.int (1 : Int32))] []) _
    refine XS.iloadN X0.here hx rfl (hb hby d_jdk_52_15_0) rfl ?_
    refine XS.aloadN X0.here hx rfl (hb hby d_jdk_52_15_1) rfl rfl ?_
    obtain ⟨cl1, Ar1, -, S1, M1, -, -⟩ := id VB
    refine X0.arraylength hx (cell := cl1) (by rw [e0]; exact Ar1.1) (State.isArrayOf_alike hZ.alike Ar1.2.1) (g := (mkF m 2 #[.val (.ref a1), .val (.int (1 : Int32))] [(.ref a1), (.int (1 : Int32))])) rfl (rest := [(.int (1 : Int32))]) rfl (hb hby d_jdk_52_15_2) _ ?_
    rw [len_of S1 M1]
    show Sp p e below s₁ (mkF m 3 #[.val (.ref a1), .val (.int (1 : Int32))] [(.int (1 : Int32)), (.int (1 : Int32))]) _
    refine XS.isub X0.here hx rfl (hb hby d_jdk_52_15_3) rfl ?_
    refine XS.bipush X0.here hx rfl (hb hby d_jdk_52_15_4) ?_
    show Sp p e below s₁ (mkF m 6 #[.val (.ref a1), .val (.int (1 : Int32))] [(.int (31 : Int32)), (.int (0 : Int32))]) _
    refine XT.iushr X0.here hx rfl (hb hby d_jdk_52_15_6) rfl ?_
    refine XT.i2b X0.here hx rfl (hb hby d_jdk_52_15_7) rfl ?_
    exact k
  obtain ⟨fs, hr, hrun, hended, hW, hsame⟩ := X0.leave (v := some (.int (0 : Int32))) (fun h => by rw [Bd.returns] at h; cases h)
  refine ⟨_, _, pre_2 _ ?_, hrun, hended, _, _, rfl, ?_, ⟨_, rfl⟩, hW, hsame.mono (by decide) (by decide)⟩
  · show Sp p e below s₁ (mkF m 8 #[.val (.ref a1), .val (.int (1 : Int32))] [(.int (0 : Int32))]) _
    exact retN X0 hx (t := .byte) Bd.returns (by simp) (hb hby d_jdk_52_15_8) hr
  · show Q_cfa1 Z _ _ _ h0 n0 _ s₁.heap _
    rw [e0]
    exact ⟨rfl, N0, rfl⟩
theorem d_jdk_42_149_0 : decode jdk_42_method_149_code 0 = .ok (.aload_n 0, 1) := by decide +kernel
theorem d_jdk_42_149_1 : decode jdk_42_method_149_code 1 = .ok (.invokespecial 1, 3) := by decide +kernel
theorem d_jdk_42_149_4 : decode jdk_42_method_149_code 4 = .ok (.iload_n 3, 1) := by decide +kernel
theorem d_jdk_42_149_5 : decode jdk_42_method_149_code 5 = .ok (.ifCond .ne 22, 3) := by decide +kernel
theorem d_jdk_42_149_27 : decode jdk_42_method_149_code 27 = .ok (.getstatic 38, 3) := by decide +kernel
theorem d_jdk_42_149_30 : decode jdk_42_method_149_code 30 = .ok (.ifCond .eq 28, 3) := by decide +kernel
theorem d_jdk_42_149_33 : decode jdk_42_method_149_code 33 = .ok (.aload_n 1, 1) := by decide +kernel
theorem d_jdk_42_149_34 : decode jdk_42_method_149_code 34 = .ok (.iload_n 2, 1) := by decide +kernel
theorem d_jdk_42_149_35 : decode jdk_42_method_149_code 35 = .ok (.iload_n 3, 1) := by decide +kernel
theorem d_jdk_42_149_36 : decode jdk_42_method_149_code 36 = .ok (.invokestatic 177, 3) := by decide +kernel
theorem d_jdk_42_149_39 : decode jdk_42_method_149_code 39 = .ok (.astore 5, 2) := by decide +kernel
theorem d_jdk_42_149_41 : decode jdk_42_method_149_code 41 = .ok (.aload_n 0, 1) := by decide +kernel
theorem d_jdk_42_149_42 : decode jdk_42_method_149_code 42 = .ok (.aload 5, 2) := by decide +kernel
theorem d_jdk_42_149_44 : decode jdk_42_method_149_code 44 = .ok (.iload_n 3, 1) := by decide +kernel
theorem d_jdk_42_149_45 : decode jdk_42_method_149_code 45 = .ok (.invokestatic 47, 3) := by decide +kernel
theorem d_jdk_42_149_48 : decode jdk_42_method_149_code 48 = .ok (.putfield 15, 3) := by decide +kernel
theorem d_jdk_42_149_51 : decode jdk_42_method_149_code 51 = .ok (.aload_n 0, 1) := by decide +kernel
theorem d_jdk_42_149_52 : decode jdk_42_method_149_code 52 = .ok (.aload 5, 2) := by decide +kernel
theorem d_jdk_42_149_54 : decode jdk_42_method_149_code 54 = .ok (.putfield 9, 3) := by decide +kernel
theorem d_jdk_42_149_57 : decode jdk_42_method_149_code 57 = .ok (.return_, 1) := by decide +kernel
theorem pn_sti1 : plainName "java/lang/String" = true := by first | (simp [plainName, overriddenIn]; done) | decide +kernel
theorem pd_sti1_0 : parseMethodDescriptor "([CII)[B" = some ⟨[(.array .char), .int, .int], some (.array .byte)⟩ := by decide +kernel
theorem pd_sti1_1 : parseMethodDescriptor "([BI)B" = some ⟨[(.array .byte), .int], some .byte⟩ := by decide +kernel
theorem ef_sti1 (m : MethodId) (a1 : Addr) (a2 : Addr) : entryFrame m #[(.ref a1), (.ref a2), (.int (0 : Int32)), (.int (1 : Int32)), .null] 6 = (mkF m 0 #[.val (.ref a1), .val (.ref a2), .val (.int (0 : Int32)), .val (.int (1 : Int32)), .val .null, .unset] []) := by first | (simp [entryFrame, mkF, argsToLocals, Value.category]; done) | rfl
def Q_sti1 (Z : State) (a1 : Addr) (a2 : Addr) (u1 u2 : Value) (G1 : Int32) (kC : ClassId) (c0 : Int32) (h0 : Heap) (n0 : Nat) (v : Option Value) (h : Heap) (L : List Loc) : Prop := v = none ∧ Fr n0 L ∧ Keep h0 h [a1] ∧ Fld Z h a1 "java/lang/String" "coder" "B" (.int (0 : Int32)) ∧ ∃ b kB, h0.size ≤ b ∧ Fld Z h a1 "java/lang/String" "value" "[B" (.ref b) ∧ Arv Z h b kB .byte (1 : Int32) [(.int (c0).toInt8.toInt32)] (.int (0 : Int32))
set_option maxRecDepth 65536 in
set_option maxHeartbeats 40000000 in
theorem rm_sti1 (l : Launch) (Z : State) (a0 : Array Value) (hw : ∀ d ∈ tables_1, d.before a0 Z = true) (ws : List Jvm.Cond) (a1 : Addr) (a2 : Addr) (u1 u2 : Value) (G1 : Int32) (kC : ClassId) (c0 : Int32) (h0 : Heap) (n0 : Nat) (O0 : Old Z n0 h0) (E1 : Exa Z h0 a1 "java/lang/String") (F1 : Fld Z h0 a1 "java/lang/String" "value" "[B" u1) (F2 : Fld Z h0 a1 "java/lang/String" "coder" "B" u2) (g1 : n0 ≤ a1) (SC : Sta Z Z.heap "java/lang/String" "COMPACT_STRINGS" "Z" (.int G1)) (hG : ¬ G1 = (0 : Int32)) (VC : Arv Z h0 a2 kC .char (1 : Int32) [(.int c0)] (.int (0 : Int32))) (hc0 : ¬ (255 : Int32) < c0) :
    MetFree l (⟨"java/lang/String", "<init>", "([CIILjava/lang/Void;)V"⟩ : MethodName) (head1 (Jvm.Cond.code (⟨"java/lang/String", "<init>", "([CIILjava/lang/Void;)V"⟩ : MethodName) jdk_42_method_149_code 6 none :: ws) ({ frames := 2, cells := 1, slots := 1, locals := 36 } : Room)) (fun a U => a = #[(.ref a1), (.ref a2), (.int (0 : Int32)), (.int (1 : Int32)), .null] ∧ Z.Warmed39 U.vm ∧ U.heap = h0) (fun _ _ _ _ _ => True) (fun _ U o U' => ∃ v L, o = .returned v ∧ Q_sti1 Z a1 a2 u1 u2 G1 kC c0 h0 n0 v U'.heap L ∧ FrameEnd U o U' L ({ frames := 2, cells := 1, slots := 1, locals := 36 } : Room).cells ({ frames := 2, cells := 1, slots := 1, locals := 36 } : Room).slots) := by
  refine MetFree.of_bodySF (plainFor_of_name pn_sti1) hisR ?_
  intro p e s m args below meth c s₁ Bd hml0 hP hK
  obtain ⟨rfl, hZ, hh⟩ := hP
  have hx := Bd.exec
  have hby := Bd.bytes
  have hml : c.maxLocals = 6 := hml0
  have hown : s.vm.findClass "java/lang/String" = some m.cls := findClass_of_methodNamed Bd.named
  have hnm := (name_of_methodNamed Bd.named Bd.method).1
  have X0 : Stand p l e ({ frames := 2, cells := 1, slots := 1, locals := 36 } : Room) s m #[(.ref a1), (.ref a2), (.int (0 : Int32)), (.int (1 : Int32)), .null] below meth c s₁ [] 0 0 := Stand.of_body Bd
  have e0 : s₁.heap = h0 := by rw [← hh, Bd.state]; rfl
  have N0 := Fr.nil n0
  have pre0 : ∀ t, Steps p.tables e below (s₁.setTop (mkF m 0 #[.val (.ref a1), .val (.ref a2), .val (.int (0 : Int32)), .val (.int (1 : Int32)), .val .null, .unset] [])) t → Steps p.tables e below (s₁.setTop (entryFrame m #[(.ref a1), (.ref a2), (.int (0 : Int32)), (.int (1 : Int32)), .null] 6)) t := fun t k => castTop (ef_sti1 m a1 a2) k
  generalize s₁.setTop (entryFrame m #[(.ref a1), (.ref a2), (.int (0 : Int32)), (.int (1 : Int32)), .null] 6) = E0 at pre0 ⊢
  have pre_1 : ∀ t, Sp p e below s₁ (mkF m 1 #[.val (.ref a1), .val (.ref a2), .val (.int (0 : Int32)), .val (.int (1 : Int32)), .val .null, .unset] [(.ref a1)]) t → Steps p.tables e below E0 t := by
    intro t k
    refine pre0 t ?_
    show Sp p e below s₁ (mkF m 0 #[.val (.ref a1), .val (.ref a2), .val (.int (0 : Int32)), .val (.int (1 : Int32)), .val .null, .unset] []) _
    refine XS.aloadN X0.here hx rfl (hb hby d_jdk_42_149_0) rfl rfl ?_
    exact k
  obtain ⟨T2, X2, e2, st2⟩ := initO X0 hx hZ hown (own_w hw 18 rfl) (own_w hw 19 rfl) (own_w hw 20 rfl) e0 (g := (mkF m 1 #[.val (.ref a1), .val (.ref a2), .val (.int (0 : Int32)), .val (.int (1 : Int32)), .val .null, .unset] [(.ref a1)])) rfl (by rw [hml]; rfl) rfl (hb hby d_jdk_42_149_1) (by decide) (W := 0) (by show 2 * 0 + _ ≤ _; exact Nat.le_of_eq rfl) (by decide)
  have pre_3 : ∀ t, Sp p e below T2 (mkF m 4 #[.val (.ref a1), .val (.ref a2), .val (.int (0 : Int32)), .val (.int (1 : Int32)), .val .null, .unset] []) t → Steps p.tables e below E0 t := fun t k => pre_1 t (st2 t k)
  have pre_4 : ∀ t, Sp p e below T2 (mkF m 27 #[.val (.ref a1), .val (.ref a2), .val (.int (0 : Int32)), .val (.int (1 : Int32)), .val .null, .unset] []) t → Steps p.tables e below E0 t := by
    intro t k
    refine pre_3 t ?_
    show Sp p e below T2 (mkF m 4 #[.val (.ref a1), .val (.ref a2), .val (.int (0 : Int32)), .val (.int (1 : Int32)), .val .null, .unset] []) _
    refine XS.iloadN X2.here hx rfl (hb hby d_jdk_42_149_4) rfl ?_
    refine XS.ifYes X2.here hx rfl (pc0 := 5) (pc' := 27) rfl (hb hby d_jdk_42_149_5) rfl (XT.i0_ne_t (by decide)) (by decide) (by decide) ?_
    exact k
  obtain ⟨T5, X5, e5, st5⟩ := getS X2 hx hZ hown (host := "") (own_w hw 53 rfl) Via.refl e2 (SC.ext O0.2) (g := (mkF m 27 #[.val (.ref a1), .val (.ref a2), .val (.int (0 : Int32)), .val (.int (1 : Int32)), .val .null, .unset] [])) rfl (hb hby d_jdk_42_149_27)
  have pre_6 : ∀ t, Sp p e below T5 (mkF m 30 #[.val (.ref a1), .val (.ref a2), .val (.int (0 : Int32)), .val (.int (1 : Int32)), .val .null, .unset] [(.int G1)]) t → Steps p.tables e below E0 t := fun t k => pre_4 t (st5 t k)
  have pre_7 : ∀ t, Sp p e below T5 (mkF m 36 #[.val (.ref a1), .val (.ref a2), .val (.int (0 : Int32)), .val (.int (1 : Int32)), .val .null, .unset] [(.int (1 : Int32)), (.int (0 : Int32)), (.ref a2)]) t → Steps p.tables e below E0 t := by
    intro t k
    refine pre_6 t ?_
    show Sp p e below T5 (mkF m 30 #[.val (.ref a1), .val (.ref a2), .val (.int (0 : Int32)), .val (.int (1 : Int32)), .val .null, .unset] [(.int G1)]) _
    refine XS.ifNo X5.here hx rfl (hb hby d_jdk_42_149_30) rfl (XT.i0_eq_f hG) ?_
    show Sp p e below T5 (mkF m 33 #[.val (.ref a1), .val (.ref a2), .val (.int (0 : Int32)), .val (.int (1 : Int32)), .val .null, .unset] []) _
    refine XS.aloadN X5.here hx rfl (hb hby d_jdk_42_149_33) rfl rfl ?_
    refine XS.iloadN X5.here hx rfl (hb hby d_jdk_42_149_34) rfl ?_
    refine XS.iloadN X5.here hx rfl (hb hby d_jdk_42_149_35) rfl ?_
    exact k
  obtain ⟨_, _, ⟨T8, L8, k8, n8⟩, -, X8, ⟨Lc8, hQ8, l8, y8, z8⟩, st8⟩ := Jvm.LawKit.callS X5 hx (y := (⟨"java/lang/StringUTF16", "compress", "([CII)[B"⟩ : MethodName)) hown (mvT hZ (own_w hw 54 rfl)) (mvT hZ (own_w hw 55 rfl)) (mvT hZ (own_w hw 56 rfl)) (mvT hZ (own_w hw 57 rfl)) (by decide) (backOf (W := 0) (rm_cmpb1 l Z a0 hw [] a2 kC c0 h0 n0 O0 VC hc0) hZ (own_w hw 57 rfl) (own_w hw 56 rfl) (by decide) (by decide)) (g := (mkF m 36 #[.val (.ref a1), .val (.ref a2), .val (.int (0 : Int32)), .val (.int (1 : Int32)), .val .null, .unset] [(.int (1 : Int32)), (.int (0 : Int32)), (.ref a2)])) rfl (by rw [hml]; rfl) (argsL := [(.ref a2), (.int (0 : Int32)), (.int (1 : Int32))]) (rest := []) (lenOf pd_sti1_0 rfl) rfl (by show 2 * 0 + _ ≤ _; exact Nat.le_of_eq rfl) (hb hby d_jdk_42_149_36) (fun _ _ => ⟨rfl, e5, (by decide : 0 + 1 ≤ _), (by decide : 0 + 1 ≤ _)⟩)
  dsimp only [Pt.U, Pt.locs, Pt.cells, Pt.slots] at X8 l8 y8 z8 st8 hQ8
  subst l8 y8 z8
  obtain ⟨b8, kB8, rfl, N8q, K8, sb8, Vb8⟩ := hQ8
  have N8 := Fr.app N0 N8q
  have O8 : Old Z n0 T8.heap := O0.keep K8 all0
  have pre_9 : ∀ t, Sp p e below T8 (mkF m 39 #[.val (.ref a1), .val (.ref a2), .val (.int (0 : Int32)), .val (.int (1 : Int32)), .val .null, .unset] [(.ref b8)]) t → Steps p.tables e below E0 t := fun t k => pre_7 t (st8 t k)
  have pre_10 : ∀ t, Sp p e below T8 (mkF m 45 #[.val (.ref a1), .val (.ref a2), .val (.int (0 : Int32)), .val (.int (1 : Int32)), .val .null, .val (.ref b8)] [(.int (1 : Int32)), (.ref b8), (.ref a1)]) t → Steps p.tables e below E0 t := by
    intro t k
    refine pre_9 t ?_
    show Sp p e below T8 (mkF m 39 #[.val (.ref a1), .val (.ref a2), .val (.int (0 : Int32)), .val (.int (1 : Int32)), .val .null, .unset] [(.ref b8)]) _
    refine XS.astore X8.here hx rfl (hb hby d_jdk_42_149_39) rfl rfl (l' := #[.val (.ref a1), .val (.ref a2), .val (.int (0 : Int32)), .val (.int (1 : Int32)), .val .null, .val (.ref b8)]) rfl ?_
    show Sp p e below T8 (mkF m 41 #[.val (.ref a1), .val (.ref a2), .val (.int (0 : Int32)), .val (.int (1 : Int32)), .val .null, .val (.ref b8)] []) _
    refine XS.aloadN X8.here hx rfl (hb hby d_jdk_42_149_41) rfl rfl ?_
    refine XS.aload X8.here hx rfl (hb hby d_jdk_42_149_42) rfl rfl ?_
    refine XS.iloadN X8.here hx rfl (hb hby d_jdk_42_149_44) rfl ?_
    exact k
  obtain ⟨_, _, ⟨T11, L11, k11, n11⟩, -, X11, ⟨Lc11, hQ11, l11, y11, z11⟩, st11⟩ := Jvm.LawKit.callS X8 hx (y := (⟨"java/lang/StringUTF16", "coderFromArrayLen", "([BI)B"⟩ : MethodName)) hown (mvT hZ (own_w hw 61 rfl)) (mvT hZ (own_w hw 62 rfl)) (mvT hZ (own_w hw 56 rfl)) (mvT hZ (own_w hw 63 rfl)) (by decide) (backOf (W := 1) (rm_cfa1 l Z a0 hw [] b8 kB8 c0 T8.heap n0 O8 Vb8) hZ (own_w hw 63 rfl) (own_w hw 56 rfl) (by decide) (by decide)) (g := (mkF m 45 #[.val (.ref a1), .val (.ref a2), .val (.int (0 : Int32)), .val (.int (1 : Int32)), .val .null, .val (.ref b8)] [(.int (1 : Int32)), (.ref b8), (.ref a1)])) rfl (by rw [hml]; rfl) (argsL := [(.ref b8), (.int (1 : Int32))]) (rest := [(.ref a1)]) (lenOf pd_sti1_1 rfl) rfl (by show 2 * 0 + _ ≤ _; exact Nat.le_of_eq rfl) (hb hby d_jdk_42_149_45) (fun _ _ => ⟨rfl, rfl, (by decide : 1 + 0 ≤ _), (by decide : 1 + 0 ≤ _)⟩)
  dsimp only [Pt.U, Pt.locs, Pt.cells, Pt.slots] at X11 l11 y11 z11 st11 hQ11
  subst l11 y11 z11
  obtain ⟨rfl, N11q, e11⟩ := hQ11
  have N11 := Fr.app N8 N11q
  have pre_12 : ∀ t, Sp p e below T11 (mkF m 48 #[.val (.ref a1), .val (.ref a2), .val (.int (0 : Int32)), .val (.int (1 : Int32)), .val .null, .val (.ref b8)] [(.int (0 : Int32)), (.ref a1)]) t → Steps p.tables e below E0 t := fun t k => pre_10 t (st11 t k)
  obtain ⟨T13, h13, X13, e13, W13, st13⟩ := putF X11 hx hZ hown (host := "") (Or.inl (own_w hw 28 rfl)) Via.refl e11 (F2.keep K8 nin0) (E1.keep K8) (Or.inr ⟨(own_w hw 24 rfl), rfl, hnm⟩) (own_w hw 8 rfl) (ty := .byte) (by decide) rfl rfl (g := (mkF m 48 #[.val (.ref a1), .val (.ref a2), .val (.int (0 : Int32)), .val (.int (1 : Int32)), .val .null, .val (.ref b8)] [(.int (0 : Int32)), (.ref a1)])) rfl rfl (hb hby d_jdk_42_149_48)
  have Fw13 := (F2.keep K8 nin0).same W13
  have N13 := Fr.snoc X13 N11 g1
  have O13 : Old Z n0 h13 := O8.wr W13 g1
  have pre_14 : ∀ t, Sp p e below T13 (mkF m 51 #[.val (.ref a1), .val (.ref a2), .val (.int (0 : Int32)), .val (.int (1 : Int32)), .val .null, .val (.ref b8)] []) t → Steps p.tables e below E0 t := fun t k => pre_12 t (st13 t k)
  have pre_15 : ∀ t, Sp p e below T13 (mkF m 54 #[.val (.ref a1), .val (.ref a2), .val (.int (0 : Int32)), .val (.int (1 : Int32)), .val .null, .val (.ref b8)] [(.ref b8), (.ref a1)]) t → Steps p.tables e below E0 t := by
    intro t k
    refine pre_14 t ?_
    show Sp p e below T13 (mkF m 51 #[.val (.ref a1), .val (.ref a2), .val (.int (0 : Int32)), .val (.int (1 : Int32)), .val .null, .val (.ref b8)] []) _
    refine XS.aloadN X13.here hx rfl (hb hby d_jdk_42_149_51) rfl rfl ?_
    show Sp p e below T13 (mkF m 52 #[.val (.ref a1), .val (.ref a2), .val (.int (0 : Int32)), .val (.int (1 : Int32)), .val .null, .val (.ref b8)] [(.ref a1)]) _
    refine XS.aload X13.here hx rfl (hb hby d_jdk_42_149_52) rfl rfl ?_
    exact k
  obtain ⟨T16, h16, X16, e16, W16, st16⟩ := putF X13 hx hZ hown (host := "") (Or.inl (own_w hw 27 rfl)) Via.refl e13 ((F1.keep K8 nin0).other W13 (Or.inr (slot_ne (Or.inr (own_w hw 23 rfl)) (Or.inr (own_w hw 24 rfl)) (by decide) (t := (.array .byte)) (t' := .byte) (by decide) (by decide)))) ((E1.keep K8).wr W13) (Or.inr ⟨(own_w hw 23 rfl), rfl, hnm⟩) (own_w hw 8 rfl) (ty := (.array .byte)) (by decide) rfl rfl (g := (mkF m 54 #[.val (.ref a1), .val (.ref a2), .val (.int (0 : Int32)), .val (.int (1 : Int32)), .val .null, .val (.ref b8)] [(.ref b8), (.ref a1)])) rfl rfl (hb hby d_jdk_42_149_54)
  have Fw16 := ((F1.keep K8 nin0).other W13 (Or.inr (slot_ne (Or.inr (own_w hw 23 rfl)) (Or.inr (own_w hw 24 rfl)) (by decide) (t := (.array .byte)) (t' := .byte) (by decide) (by decide)))).same W16
  have N16 := Fr.snoc X16 N13 g1
  have O16 : Old Z n0 h16 := O13.wr W16 g1
  have pre_17 : ∀ t, Sp p e below T16 (mkF m 57 #[.val (.ref a1), .val (.ref a2), .val (.int (0 : Int32)), .val (.int (1 : Int32)), .val .null, .val (.ref b8)] []) t → Steps p.tables e below E0 t := fun t k => pre_15 t (st16 t k)
  obtain ⟨fs, hr, hrun, hended, hW, hsame⟩ := X16.leave (v := none) (fun _ => rfl)
  refine ⟨_, _, pre_17 _ ?_, hrun, hended, _, _, rfl, ?_, ⟨_, rfl⟩, hW, hsame.mono (by decide) (by decide)⟩
  · show Sp p e below T16 (mkF m 57 #[.val (.ref a1), .val (.ref a2), .val (.int (0 : Int32)), .val (.int (1 : Int32)), .val .null, .val (.ref b8)] []) _
    exact X16.returnOut hx Bd.returns (hb hby d_jdk_42_149_57) hr
  · show Q_sti1 Z _ _ _ _ _ _ _ h0 n0 _ T16.heap _
    rw [e16]
    exact ⟨rfl, N16, ((((Keep.refl h0 [a1]).trans K8 all0).wr W13 (Or.inl (List.mem_of_getElem? (i := 0) rfl))).wr W16 (Or.inl (List.mem_of_getElem? (i := 0) rfl))), (Fw13.other W16 (Or.inr (slot_ne (Or.inr (own_w hw 24 rfl)) (Or.inr (own_w hw 23 rfl)) (by decide) (t := .byte) (t' := (.array .byte)) (by decide) (by decide)))), b8, kB8, (Nat.le_trans (Keep.refl h0 [a1]).1 sb8), Fw16, ((Vb8.other W13 (Ne.symm (Nat.ne_of_lt (Nat.lt_of_lt_of_le E1.lt sb8)))).other W16 (Ne.symm (Nat.ne_of_lt (Nat.lt_of_lt_of_le E1.lt sb8))))⟩
theorem d_jdk_42_3_0 : decode jdk_42_method_3_code 0 = .ok (.aload_n 0, 1) := by decide +kernel
theorem d_jdk_42_3_1 : decode jdk_42_method_3_code 1 = .ok (.aload_n 1, 1) := by decide +kernel
theorem d_jdk_42_3_2 : decode jdk_42_method_3_code 2 = .ok (.iconst 0, 1) := by decide +kernel
theorem d_jdk_42_3_3 : decode jdk_42_method_3_code 3 = .ok (.aload_n 1, 1) := by decide +kernel
theorem d_jdk_42_3_4 : decode jdk_42_method_3_code 4 = .ok (.arraylength, 1) := by decide +kernel
theorem d_jdk_42_3_5 : decode jdk_42_method_3_code 5 = .ok (.aconst_null, 1) := by decide +kernel
theorem d_jdk_42_3_6 : decode jdk_42_method_3_code 6 = .ok (.invokespecial 27, 3) := by decide +kernel
theorem d_jdk_42_3_9 : decode jdk_42_method_3_code 9 = .ok (.return_, 1) := by decide +kernel
theorem pn_str1 : plainName "java/lang/String" = true := by first | (simp [plainName, overriddenIn]; done) | decide +kernel
theorem pd_str1_0 : parseMethodDescriptor "([CIILjava/lang/Void;)V" = some ⟨[(.array .char), .int, .int, (.object "java/lang/Void")], none⟩ := by decide +kernel
theorem ef_str1 (m : MethodId) (a1 : Addr) (a2 : Addr) : entryFrame m #[(.ref a1), (.ref a2)] 2 = (mkF m 0 #[.val (.ref a1), .val (.ref a2)] []) := by first | (simp [entryFrame, mkF, argsToLocals, Value.category]; done) | rfl
def Q_str1 (Z : State) (a1 : Addr) (a2 : Addr) (u1 u2 : Value) (G1 : Int32) (kC : ClassId) (c0 : Int32) (h0 : Heap) (n0 : Nat) (v : Option Value) (h : Heap) (L : List Loc) : Prop := v = none ∧ Fr n0 L ∧ Keep h0 h [a1] ∧ Fld Z h a1 "java/lang/String" "coder" "B" (.int (0 : Int32)) ∧ ∃ b kB, h0.size ≤ b ∧ Fld Z h a1 "java/lang/String" "value" "[B" (.ref b) ∧ Arv Z h b kB .byte (1 : Int32) [(.int (c0).toInt8.toInt32)] (.int (0 : Int32))
set_option maxRecDepth 65536 in
set_option maxHeartbeats 40000000 in
theorem rm_str1 (l : Launch) (Z : State) (a0 : Array Value) (hw : ∀ d ∈ tables_1, d.before a0 Z = true) (ws : List Jvm.Cond) (a1 : Addr) (a2 : Addr) (u1 u2 : Value) (G1 : Int32) (kC : ClassId) (c0 : Int32) (h0 : Heap) (n0 : Nat) (O0 : Old Z n0 h0) (E1 : Exa Z h0 a1 "java/lang/String") (F1 : Fld Z h0 a1 "java/lang/String" "value" "[B" u1) (F2 : Fld Z h0 a1 "java/lang/String" "coder" "B" u2) (g1 : n0 ≤ a1) (SC : Sta Z Z.heap "java/lang/String" "COMPACT_STRINGS" "Z" (.int G1)) (hG : ¬ G1 = (0 : Int32)) (VC : Arv Z h0 a2 kC .char (1 : Int32) [(.int c0)] (.int (0 : Int32))) (hc0 : ¬ (255 : Int32) < c0) :
    MetFree l (⟨"java/lang/String", "<init>", "([C)V"⟩ : MethodName) (head1 (Jvm.Cond.code (⟨"java/lang/String", "<init>", "([C)V"⟩ : MethodName) jdk_42_method_3_code 2 none :: ws) ({ frames := 3, cells := 1, slots := 1, locals := 53 } : Room)) (fun a U => a = #[(.ref a1), (.ref a2)] ∧ Z.Warmed39 U.vm ∧ U.heap = h0) (fun _ _ _ _ _ => True) (fun _ U o U' => ∃ v L, o = .returned v ∧ Q_str1 Z a1 a2 u1 u2 G1 kC c0 h0 n0 v U'.heap L ∧ FrameEnd U o U' L ({ frames := 3, cells := 1, slots := 1, locals := 53 } : Room).cells ({ frames := 3, cells := 1, slots := 1, locals := 53 } : Room).slots) := by
  refine MetFree.of_bodySF (plainFor_of_name pn_str1) hisR ?_
  intro p e s m args below meth c s₁ Bd hml0 hP hK
  obtain ⟨rfl, hZ, hh⟩ := hP
  have hx := Bd.exec
  have hby := Bd.bytes
  have hml : c.maxLocals = 2 := hml0
  have hown : s.vm.findClass "java/lang/String" = some m.cls := findClass_of_methodNamed Bd.named
  have hnm := (name_of_methodNamed Bd.named Bd.method).1
  have X0 : Stand p l e ({ frames := 3, cells := 1, slots := 1, locals := 53 } : Room) s m #[(.ref a1), (.ref a2)] below meth c s₁ [] 0 0 := Stand.of_body Bd
  have e0 : s₁.heap = h0 := by rw [← hh, Bd.state]; rfl
  have N0 := Fr.nil n0
  have pre0 : ∀ t, Steps p.tables e below (s₁.setTop (mkF m 0 #[.val (.ref a1), .val (.ref a2)] [])) t → Steps p.tables e below (s₁.setTop (entryFrame m #[(.ref a1), (.ref a2)] 2)) t := fun t k => castTop (ef_str1 m a1 a2) k
  generalize s₁.setTop (entryFrame m #[(.ref a1), (.ref a2)] 2) = E0 at pre0 ⊢
  have pre_2 : ∀ t, Sp p e below s₁ (mkF m 6 #[.val (.ref a1), .val (.ref a2)] [.null, (.int (1 : Int32)), (.int (0 : Int32)), (.ref a2), (.ref a1)]) t → Steps p.tables e below E0 t := by
    intro t k
    refine pre0 t ?_
    show Sp p e below s₁ (mkF m 0 #[.val (.ref a1), .val (.ref a2)] []) _
    refine XS.aloadN X0.here hx rfl (hb hby d_jdk_42_3_0) rfl rfl ?_
    refine XS.aloadN X0.here hx rfl (hb hby d_jdk_42_3_1) rfl rfl ?_
    refine XS.iconst X0.here hx rfl (hb hby d_jdk_42_3_2) ?_
    refine XS.aloadN X0.here hx rfl (hb hby d_jdk_42_3_3) rfl rfl ?_
    show Sp p e below s₁ (mkF m 4 #[.val (.ref a1), .val (.ref a2)] [(.ref a2), (.int (0 : Int32)), (.ref a2), (.ref a1)]) _
    obtain ⟨cl1, Ar1, -, S1, M1, -, -⟩ := id VC
    refine X0.arraylength hx (cell := cl1) (by rw [e0]; exact Ar1.1) (State.isArrayOf_alike hZ.alike Ar1.2.1) (g := (mkF m 4 #[.val (.ref a1), .val (.ref a2)] [(.ref a2), (.int (0 : Int32)), (.ref a2), (.ref a1)])) rfl (rest := [(.int (0 : Int32)), (.ref a2), (.ref a1)]) rfl (hb hby d_jdk_42_3_4) _ ?_
    rw [len_of S1 M1]
    show Sp p e below s₁ (mkF m 5 #[.val (.ref a1), .val (.ref a2)] [(.int (1 : Int32)), (.int (0 : Int32)), (.ref a2), (.ref a1)]) _
    refine XS.aconstNull X0.here hx rfl (hb hby d_jdk_42_3_5) ?_
    exact k
  obtain ⟨_, _, ⟨T3, L3, k3, n3⟩, -, X3, ⟨Lc3, hQ3, l3, y3, z3⟩, st3⟩ := X0.specialBack hx (y := (⟨"java/lang/String", "<init>", "([CIILjava/lang/Void;)V"⟩ : MethodName)) rfl hown (mvT hZ (own_w hw 14 rfl)) (mvT hZ (own_w hw 15 rfl)) (mvT hZ (own_w hw 17 rfl)) (by decide) (backOf (W := 0) (rm_sti1 l Z a0 hw [] a1 a2 u1 u2 G1 kC c0 h0 n0 O0 E1 F1 F2 g1 SC hG VC hc0) hZ (own_w hw 17 rfl) (own_w hw 9 rfl) (by decide) (by decide)) (g := (mkF m 6 #[.val (.ref a1), .val (.ref a2)] [.null, (.int (1 : Int32)), (.int (0 : Int32)), (.ref a2), (.ref a1)])) rfl (by rw [hml]; rfl) (Steps.refl _) (a := a1) (argsL := [(.ref a2), (.int (0 : Int32)), (.int (1 : Int32)), .null]) (rest := []) (lenOf pd_str1_0 rfl) rfl (by show 2 * 0 + _ ≤ _; exact Nat.le_of_eq rfl) (hb hby d_jdk_42_3_6) (fun _ _ => ⟨rfl, e0, (by decide : 0 + 1 ≤ _), (by decide : 0 + 1 ≤ _)⟩)
  dsimp only [Pt.U, Pt.locs, Pt.cells, Pt.slots] at X3 l3 y3 z3 st3 hQ3
  subst l3 y3 z3
  obtain ⟨rfl, N3q, K3, Fc3, b3, kB3, sb3, Fv3, Vb3⟩ := hQ3
  have N3 := Fr.app N0 N3q
  have O3 : Old Z n0 T3.heap := O0.keep K3 (allS g1 all0)
  have pre_4 : ∀ t, Sp p e below T3 (mkF m 9 #[.val (.ref a1), .val (.ref a2)] []) t → Steps p.tables e below E0 t := fun t k => pre_2 t (st3.trans k)
  obtain ⟨fs, hr, hrun, hended, hW, hsame⟩ := X3.leave (v := none) (fun _ => rfl)
  refine ⟨_, _, pre_4 _ ?_, hrun, hended, _, _, rfl, ?_, ⟨_, rfl⟩, hW, hsame.mono (by decide) (by decide)⟩
  · show Sp p e below T3 (mkF m 9 #[.val (.ref a1), .val (.ref a2)] []) _
    exact X3.returnOut hx Bd.returns (hb hby d_jdk_42_3_9) hr
  · show Q_str1 Z _ _ _ _ _ _ _ h0 n0 _ T3.heap _
    exact ⟨rfl, N3, ((Keep.refl h0 [a1]).trans K3 (allS (Or.inl (List.mem_of_getElem? (i := 0) rfl)) all0)), Fc3, b3, kB3, sb3, Fv3, Vb3⟩
theorem pn_cmpa2 : plainName "java/lang/StringUTF16" = true := by first | (simp [plainName, overriddenIn]; done) | decide +kernel
theorem ef_cmpa2 (m : MethodId) (a1 : Addr) (a3 : Addr) : entryFrame m #[(.ref a1), (.int (0 : Int32)), (.ref a3), (.int (0 : Int32)), (.int (2 : Int32))] 7 = (mkF m 0 #[.val (.ref a1), .val (.int (0 : Int32)), .val (.ref a3), .val (.int (0 : Int32)), .val (.int (2 : Int32)), .unset, .unset] []) := by first | (simp [entryFrame, mkF, argsToLocals, Value.category]; done) | rfl
def Q_cmpa2 (Z : State) (a1 : Addr) (a3 : Addr) (kC kB : ClassId) (c0 c1 : Int32) (h0 : Heap) (n0 : Nat) (v : Option Value) (h : Heap) (L : List Loc) : Prop := v = some (.int (2 : Int32)) ∧ Fr n0 L ∧ Keep h0 h [a3] ∧ Arv Z h a3 kB .byte (2 : Int32) [(.int (c0).toInt8.toInt32), (.int (c1).toInt8.toInt32)] (.int (0 : Int32))
set_option maxRecDepth 65536 in
set_option maxHeartbeats 40000000 in
theorem rm_cmpa2 (l : Launch) (Z : State) (a0 : Array Value) (hw : ∀ d ∈ tables_1, d.before a0 Z = true) (ws : List Jvm.Cond) (a1 : Addr) (a3 : Addr) (kC kB : ClassId) (c0 c1 : Int32) (h0 : Heap) (n0 : Nat) (O0 : Old Z n0 h0) (VC : Arv Z h0 a1 kC .char (2 : Int32) [(.int c0), (.int c1)] (.int (0 : Int32))) (VB : Arv Z h0 a3 kB .byte (2 : Int32) [(.int (0 : Int32)), (.int (0 : Int32))] (.int (0 : Int32))) (g3 : n0 ≤ a3) (ne13 : a1 ≠ a3) (hc0 : ¬ (255 : Int32) < c0) (hc1 : ¬ (255 : Int32) < c1) :
    MetFree l (⟨"java/lang/StringUTF16", "compress", "([CI[BII)I"⟩ : MethodName) (head1 (Jvm.Cond.code (⟨"java/lang/StringUTF16", "compress", "([CI[BII)I"⟩ : MethodName) jdk_52_method_21_code 7 (some .int) :: ws) ({ frames := 0, cells := 0, slots := 0, locals := 0 } : Room)) (fun a U => a = #[(.ref a1), (.int (0 : Int32)), (.ref a3), (.int (0 : Int32)), (.int (2 : Int32))] ∧ Z.Warmed39 U.vm ∧ U.heap = h0) (fun _ _ _ _ _ => True) (fun _ U o U' => ∃ v L, o = .returned v ∧ Q_cmpa2 Z a1 a3 kC kB c0 c1 h0 n0 v U'.heap L ∧ FrameEnd U o U' L ({ frames := 0, cells := 0, slots := 0, locals := 0 } : Room).cells ({ frames := 0, cells := 0, slots := 0, locals := 0 } : Room).slots) := by
  refine MetFree.of_bodySF (plainFor_of_name pn_cmpa2) hisR ?_
  intro p e s m args below meth c s₁ Bd hml0 hP hK
  obtain ⟨rfl, hZ, hh⟩ := hP
  have hx := Bd.exec
  have hby := Bd.bytes
  have hml : c.maxLocals = 7 := hml0
  have hown : s.vm.findClass "java/lang/StringUTF16" = some m.cls := findClass_of_methodNamed Bd.named
  have hnm := (name_of_methodNamed Bd.named Bd.method).1
  have X0 : Stand p l e ({ frames := 0, cells := 0, slots := 0, locals := 0 } : Room) s m #[(.ref a1), (.int (0 : Int32)), (.ref a3), (.int (0 : Int32)), (.int (2 : Int32))] below meth c s₁ [] 0 0 := Stand.of_body Bd
  have e0 : s₁.heap = h0 := by rw [← hh, Bd.state]; rfl
  have N0 := Fr.nil n0
  have pre0 : ∀ t, Steps p.tables e below (s₁.setTop (mkF m 0 #[.val (.ref a1), .val (.int (0 : Int32)), .val (.ref a3), .val (.int (0 : Int32)), .val (.int (2 : Int32)), .unset, .unset] [])) t → Steps p.tables e below (s₁.setTop (entryFrame m #[(.ref a1), (.int (0 : Int32)), (.ref a3), (.int (0 : Int32)), (.int (2 : Int32))] 7)) t := fun t k => castTop (ef_cmpa2 m a1 a3) k
  generalize s₁.setTop (entryFrame m #[(.ref a1), (.int (0 : Int32)), (.ref a3), (.int (0 : Int32)), (.int (2 : Int32))] 7) = E0 at pre0 ⊢
  have pre_2 : ∀ t, Sp p e below s₁ (mkF m 31 #[.val (.ref a1), .val (.int (0 : Int32)), .val (.ref a3), .val (.int (0 : Int32)), .val (.int (2 : Int32)), .val (.int (0 : Int32)), .val (.int c0)] [(.int ((c0).toInt8.toInt32)), (.int (0 : Int32)), (.ref a3)]) t → Steps p.tables e below E0 t := by
    intro t k
    refine pre0 t ?_
    show Sp p e below s₁ (mkF m 0 #[.val (.ref a1), .val (.int (0 : Int32)), .val (.ref a3), .val (.int (0 : Int32)), .val (.int (2 : Int32)), .unset, .unset] []) _
    refine XS.iconst X0.here hx rfl (hb hby d_jdk_52_21_0) ?_
    refine XS.istore X0.here hx rfl (hb hby d_jdk_52_21_1) rfl (l' := #[.val (.ref a1), .val (.int (0 : Int32)), .val (.ref a3), .val (.int (0 : Int32)), .val (.int (2 : Int32)), .val (.int (0 : Int32)), .unset]) rfl ?_
    refine XS.iload X0.here hx rfl (hb hby d_jdk_52_21_3) rfl ?_
    refine XS.iload X0.here hx rfl (hb hby d_jdk_52_21_5) rfl ?_
    show Sp p e below s₁ (mkF m 7 #[.val (.ref a1), .val (.int (0 : Int32)), .val (.ref a3), .val (.int (0 : Int32)), .val (.int (2 : Int32)), .val (.int (0 : Int32)), .unset] [(.int (2 : Int32)), (.int (0 : Int32))]) _
    refine XS.icmpNo X0.here hx rfl (hb hby d_jdk_52_21_7) rfl (XT.ii_ge_f (by decide)) ?_
    refine XS.aloadN X0.here hx rfl (hb hby d_jdk_52_21_10) rfl rfl ?_
    refine XS.iloadN X0.here hx rfl (hb hby d_jdk_52_21_11) rfl ?_
    obtain ⟨cl1, Ar1, -, S1, -, H1, -⟩ := id VC
    have hin1 : ¬ ((0 : Int32) < 0 ∨ cl1.slots.size ≤ ((0 : Int32)).toNatClampNeg) := inb_of S1 (by decide)
    refine X0.caload hx (j := (0 : Int32)) (v := (.int c0)) (by rw [e0]; exact Ar1.1) (State.isArrayOf_alike hZ.alike Ar1.2.1) Ar1.2.2 hin1 (H1.at hin1 rfl) (g := (mkF m 12 #[.val (.ref a1), .val (.int (0 : Int32)), .val (.ref a3), .val (.int (0 : Int32)), .val (.int (2 : Int32)), .val (.int (0 : Int32)), .unset] [(.int (0 : Int32)), (.ref a1)])) rfl rfl (hb hby d_jdk_52_21_12) _ ?_
    show Sp p e below s₁ (mkF m 13 #[.val (.ref a1), .val (.int (0 : Int32)), .val (.ref a3), .val (.int (0 : Int32)), .val (.int (2 : Int32)), .val (.int (0 : Int32)), .unset] [(.int c0)]) _
    refine XS.istore X0.here hx rfl (hb hby d_jdk_52_21_13) rfl (l' := #[.val (.ref a1), .val (.int (0 : Int32)), .val (.ref a3), .val (.int (0 : Int32)), .val (.int (2 : Int32)), .val (.int (0 : Int32)), .val (.int c0)]) rfl ?_
    refine XS.iload X0.here hx rfl (hb hby d_jdk_52_21_15) rfl ?_
    refine XS.sipush X0.here hx rfl (hb hby d_jdk_52_21_17) ?_
    refine XS.icmpYes X0.here hx rfl (pc0 := 20) (pc' := 26) rfl (hb hby d_jdk_52_21_20) rfl (XT.ii_le_t hc0) (by decide) (by decide) ?_
    show Sp p e below s₁ (mkF m 26 #[.val (.ref a1), .val (.int (0 : Int32)), .val (.ref a3), .val (.int (0 : Int32)), .val (.int (2 : Int32)), .val (.int (0 : Int32)), .val (.int c0)] []) _
    refine XS.aloadN X0.here hx rfl (hb hby d_jdk_52_21_26) rfl rfl ?_
    refine XS.iloadN X0.here hx rfl (hb hby d_jdk_52_21_27) rfl ?_
    refine XS.iload X0.here hx rfl (hb hby d_jdk_52_21_28) rfl ?_
    refine XT.i2b X0.here hx rfl (hb hby d_jdk_52_21_30) rfl ?_
    show Sp p e below s₁ (mkF m 31 #[.val (.ref a1), .val (.int (0 : Int32)), .val (.ref a3), .val (.int (0 : Int32)), .val (.int (2 : Int32)), .val (.int (0 : Int32)), .val (.int c0)] [(.int ((c0).toInt8.toInt32)), (.int (0 : Int32)), (.ref a3)]) _
    exact k
  obtain ⟨cl3, Ar3, q3, S3, M3, H3, G3⟩ := id VB
  obtain ⟨T3, h3, X3, e3, W3, st3⟩ := stB X0 hx hZ e0 Ar3 (j := (0 : Int32)) (inb_of S3 (by decide)) (g := (mkF m 31 #[.val (.ref a1), .val (.int (0 : Int32)), .val (.ref a3), .val (.int (0 : Int32)), .val (.int (2 : Int32)), .val (.int (0 : Int32)), .val (.int c0)] [(.int ((c0).toInt8.toInt32)), (.int (0 : Int32)), (.ref a3)])) rfl rfl (hb hby d_jdk_52_21_31)
  have N3 := Fr.snoc X3 N0 g3
  have O3 : Old Z n0 h3 := O0.wr W3 g3
  rw [(own_nb c0)] at W3
  have V3 : Arv Z h3 a3 kB .byte (2 : Int32) [(.int ((c0).toInt8.toInt32)), (.int (0 : Int32))] (.int (0 : Int32)) := Arv.set Ar3 q3 S3 M3 H3 G3 (by rw [← (own_nb c0)]; exact (fits_nar_byte _)) W3 0 rfl (Nat.le_of_ble_eq_true rfl)
  have pre_4 : ∀ t, Sp p e below T3 (mkF m 32 #[.val (.ref a1), .val (.int (0 : Int32)), .val (.ref a3), .val (.int (0 : Int32)), .val (.int (2 : Int32)), .val (.int (0 : Int32)), .val (.int c0)] []) t → Steps p.tables e below E0 t := fun t k => pre_2 t (st3 t k)
  have pre_6 : ∀ t, Sp p e below T3 (mkF m 31 #[.val (.ref a1), .val (.int (1 : Int32)), .val (.ref a3), .val (.int (1 : Int32)), .val (.int (2 : Int32)), .val (.int (1 : Int32)), .val (.int c1)] [(.int ((c1).toInt8.toInt32)), (.int (1 : Int32)), (.ref a3)]) t → Steps p.tables e below E0 t := by
    intro t k
    refine pre_4 t ?_
    show Sp p e below T3 (mkF m 32 #[.val (.ref a1), .val (.int (0 : Int32)), .val (.ref a3), .val (.int (0 : Int32)), .val (.int (2 : Int32)), .val (.int (0 : Int32)), .val (.int c0)] []) _
    refine XS.iinc X3.here hx rfl (hb hby d_jdk_52_21_32) rfl (l' := #[.val (.ref a1), .val (.int (1 : Int32)), .val (.ref a3), .val (.int (0 : Int32)), .val (.int (2 : Int32)), .val (.int (0 : Int32)), .val (.int c0)]) rfl ?_
    refine XS.iinc X3.here hx rfl (hb hby d_jdk_52_21_35) rfl (l' := #[.val (.ref a1), .val (.int (1 : Int32)), .val (.ref a3), .val (.int (1 : Int32)), .val (.int (2 : Int32)), .val (.int (0 : Int32)), .val (.int c0)]) rfl ?_
    refine XS.iinc X3.here hx rfl (hb hby d_jdk_52_21_38) rfl (l' := #[.val (.ref a1), .val (.int (1 : Int32)), .val (.ref a3), .val (.int (1 : Int32)), .val (.int (2 : Int32)), .val (.int (1 : Int32)), .val (.int c0)]) rfl ?_
    refine XS.goto X3.here hx rfl (pc0 := 41) (pc' := 3) rfl (hb hby d_jdk_52_21_41) (by decide) (by decide) ?_
    show Sp p e below T3 (mkF m 3 #[.val (.ref a1), .val (.int (1 : Int32)), .val (.ref a3), .val (.int (1 : Int32)), .val (.int (2 : Int32)), .val (.int (1 : Int32)), .val (.int c0)] []) _
    refine XS.iload X3.here hx rfl (hb hby d_jdk_52_21_3) rfl ?_
    refine XS.iload X3.here hx rfl (hb hby d_jdk_52_21_5) rfl ?_
    refine XS.icmpNo X3.here hx rfl (hb hby d_jdk_52_21_7) rfl (XT.ii_ge_f (by decide)) ?_
    refine XS.aloadN X3.here hx rfl (hb hby d_jdk_52_21_10) rfl rfl ?_
    show Sp p e below T3 (mkF m 11 #[.val (.ref a1), .val (.int (1 : Int32)), .val (.ref a3), .val (.int (1 : Int32)), .val (.int (2 : Int32)), .val (.int (1 : Int32)), .val (.int c0)] [(.ref a1)]) _
    refine XS.iloadN X3.here hx rfl (hb hby d_jdk_52_21_11) rfl ?_
    obtain ⟨cl5, Ar5, -, S5, -, H5, -⟩ := id (VC.other W3 ne13)
    have hin5 : ¬ ((1 : Int32) < 0 ∨ cl5.slots.size ≤ ((1 : Int32)).toNatClampNeg) := inb_of S5 (by decide)
    refine X3.caload hx (j := (1 : Int32)) (v := (.int c1)) (by rw [e3]; exact Ar5.1) (State.isArrayOf_alike hZ.alike Ar5.2.1) Ar5.2.2 hin5 (H5.at hin5 rfl) (g := (mkF m 12 #[.val (.ref a1), .val (.int (1 : Int32)), .val (.ref a3), .val (.int (1 : Int32)), .val (.int (2 : Int32)), .val (.int (1 : Int32)), .val (.int c0)] [(.int (1 : Int32)), (.ref a1)])) rfl rfl (hb hby d_jdk_52_21_12) _ ?_
    refine XS.istore X3.here hx rfl (hb hby d_jdk_52_21_13) rfl (l' := #[.val (.ref a1), .val (.int (1 : Int32)), .val (.ref a3), .val (.int (1 : Int32)), .val (.int (2 : Int32)), .val (.int (1 : Int32)), .val (.int c1)]) rfl ?_
    refine XS.iload X3.here hx rfl (hb hby d_jdk_52_21_15) rfl ?_
    show Sp p e below T3 (mkF m 17 #[.val (.ref a1), .val (.int (1 : Int32)), .val (.ref a3), .val (.int (1 : Int32)), .val (.int (2 : Int32)), .val (.int (1 : Int32)), .val (.int c1)] [(.int c1)]) _
    refine XS.sipush X3.here hx rfl (hb hby d_jdk_52_21_17) ?_
    refine XS.icmpYes X3.here hx rfl (pc0 := 20) (pc' := 26) rfl (hb hby d_jdk_52_21_20) rfl (XT.ii_le_t hc1) (by decide) (by decide) ?_
    refine XS.aloadN X3.here hx rfl (hb hby d_jdk_52_21_26) rfl rfl ?_
    refine XS.iloadN X3.here hx rfl (hb hby d_jdk_52_21_27) rfl ?_
    show Sp p e below T3 (mkF m 28 #[.val (.ref a1), .val (.int (1 : Int32)), .val (.ref a3), .val (.int (1 : Int32)), .val (.int (2 : Int32)), .val (.int (1 : Int32)), .val (.int c1)] [(.int (1 : Int32)), (.ref a3)]) _
    refine XS.iload X3.here hx rfl (hb hby d_jdk_52_21_28) rfl ?_
    refine XT.i2b X3.here hx rfl (hb hby d_jdk_52_21_30) rfl ?_
    exact k
  obtain ⟨cl7, Ar7, q7, S7, M7, H7, G7⟩ := id V3
  obtain ⟨T7, h7, X7, e7, W7, st7⟩ := stB X3 hx hZ e3 Ar7 (j := (1 : Int32)) (inb_of S7 (by decide)) (g := (mkF m 31 #[.val (.ref a1), .val (.int (1 : Int32)), .val (.ref a3), .val (.int (1 : Int32)), .val (.int (2 : Int32)), .val (.int (1 : Int32)), .val (.int c1)] [(.int ((c1).toInt8.toInt32)), (.int (1 : Int32)), (.ref a3)])) rfl rfl (hb hby d_jdk_52_21_31)
  have N7 := Fr.snoc X7 N3 g3
  have O7 : Old Z n0 h7 := O3.wr W7 g3
  rw [(own_nb c1)] at W7
  have V7 : Arv Z h7 a3 kB .byte (2 : Int32) [(.int ((c0).toInt8.toInt32)), (.int ((c1).toInt8.toInt32))] (.int (0 : Int32)) := Arv.set Ar7 q7 S7 M7 H7 G7 (by rw [← (own_nb c1)]; exact (fits_nar_byte _)) W7 1 rfl (Nat.le_of_ble_eq_true rfl)
  have pre_8 : ∀ t, Sp p e below T7 (mkF m 32 #[.val (.ref a1), .val (.int (1 : Int32)), .val (.ref a3), .val (.int (1 : Int32)), .val (.int (2 : Int32)), .val (.int (1 : Int32)), .val (.int c1)] []) t → Steps p.tables e below E0 t := fun t k => pre_6 t (st7 t k)
  have pre_9 : ∀ t, Sp p e below T7 (mkF m 46 #[.val (.ref a1), .val (.int (2 : Int32)), .val (.ref a3), .val (.int (2 : Int32)), .val (.int (2 : Int32)), .val (.int (2 : Int32)), .val (.int c1)] [(.int (2 : Int32))]) t → Steps p.tables e below E0 t := by
    intro t k
    refine pre_8 t ?_
    show Sp p e below T7 (mkF m 32 #[.val (.ref a1), .val (.int (1 : Int32)), .val (.ref a3), .val (.int (1 : Int32)), .val (.int (2 : Int32)), .val (.int (1 : Int32)), .val (.int c1)] []) _
    refine XS.iinc X7.here hx rfl (hb hby d_jdk_52_21_32) rfl (l' := #[.val (.ref a1), .val (.int (2 : Int32)), .val (.ref a3), .val (.int (1 : Int32)), .val (.int (2 : Int32)), .val (.int (1 : Int32)), .val (.int c1)]) rfl ?_
    refine XS.iinc X7.here hx rfl (hb hby d_jdk_52_21_35) rfl (l' := #[.val (.ref a1), .val (.int (2 : Int32)), .val (.ref a3), .val (.int (2 : Int32)), .val (.int (2 : Int32)), .val (.int (1 : Int32)), .val (.int c1)]) rfl ?_
    show Sp p e below T7 (mkF m 38 #[.val (.ref a1), .val (.int (2 : Int32)), .val (.ref a3), .val (.int (2 : Int32)), .val (.int (2 : Int32)), .val (.int (1 : Int32)), .val (.int c1)] []) _
    refine XS.iinc X7.here hx rfl (hb hby d_jdk_52_21_38) rfl (l' := #[.val (.ref a1), .val (.int (2 : Int32)), .val (.ref a3), .val (.int (2 : Int32)), .val (.int (2 : Int32)), .val (.int (2 : Int32)), .val (.int c1)]) rfl ?_
    refine XS.goto X7.here hx rfl (pc0 := 41) (pc' := 3) rfl (hb hby d_jdk_52_21_41) (by decide) (by decide) ?_
    refine XS.iload X7.here hx rfl (hb hby d_jdk_52_21_3) rfl ?_
    refine XS.iload X7.here hx rfl (hb hby d_jdk_52_21_5) rfl ?_
    show Sp p e below T7 (mkF m 7 #[.val (.ref a1), .val (.int (2 : Int32)), .val (.ref a3), .val (.int (2 : Int32)), .val (.int (2 : Int32)), .val (.int (2 : Int32)), .val (.int c1)] [(.int (2 : Int32)), (.int (2 : Int32))]) _
    refine XS.icmpYes X7.here hx rfl (pc0 := 7) (pc' := 44) rfl (hb hby d_jdk_52_21_7) rfl (XT.ii_ge_t (by decide)) (by decide) (by decide) ?_
    refine XS.iload X7.here hx rfl (hb hby d_jdk_52_21_44) rfl ?_
    exact k
  obtain ⟨fs, hr, hrun, hended, hW, hsame⟩ := X7.leave (v := some (.int (2 : Int32))) (fun h => by rw [Bd.returns] at h; cases h)
  refine ⟨_, _, pre_9 _ ?_, hrun, hended, _, _, rfl, ?_, ⟨_, rfl⟩, hW, hsame.mono (by decide) (by decide)⟩
  · show Sp p e below T7 (mkF m 46 #[.val (.ref a1), .val (.int (2 : Int32)), .val (.ref a3), .val (.int (2 : Int32)), .val (.int (2 : Int32)), .val (.int (2 : Int32)), .val (.int c1)] [(.int (2 : Int32))]) _
    exact retI X7 hx Bd.returns (hb hby d_jdk_52_21_46) hr
  · show Q_cmpa2 Z _ _ _ _ _ _ h0 n0 _ T7.heap _
    rw [e7]
    exact ⟨rfl, N7, (((Keep.refl h0 [a3]).wr W3 (Or.inl (List.mem_of_getElem? (i := 0) rfl))).wr W7 (Or.inl (List.mem_of_getElem? (i := 0) rfl))), V7⟩
theorem pn_cmpb2 : plainName "java/lang/StringUTF16" = true := by first | (simp [plainName, overriddenIn]; done) | decide +kernel
theorem pd_cmpb2_0 : parseMethodDescriptor "([CI[BII)I" = some ⟨[(.array .char), .int, (.array .byte), .int, .int], some .int⟩ := by decide +kernel
theorem ef_cmpb2 (m : MethodId) (a1 : Addr) : entryFrame m #[(.ref a1), (.int (0 : Int32)), (.int (2 : Int32))] 6 = (mkF m 0 #[.val (.ref a1), .val (.int (0 : Int32)), .val (.int (2 : Int32)), .unset, .unset, .unset] []) := by first | (simp [entryFrame, mkF, argsToLocals, Value.category]; done) | rfl
def Q_cmpb2 (Z : State) (a1 : Addr) (kC : ClassId) (c0 c1 : Int32) (h0 : Heap) (n0 : Nat) (v : Option Value) (h : Heap) (L : List Loc) : Prop := ∃ b kB, v = some (.ref b) ∧ Fr n0 L ∧ Keep h0 h [] ∧ h0.size ≤ b ∧ Arv Z h b kB .byte (2 : Int32) [(.int (c0).toInt8.toInt32), (.int (c1).toInt8.toInt32)] (.int (0 : Int32))
set_option maxRecDepth 65536 in
set_option maxHeartbeats 40000000 in
theorem rm_cmpb2 (l : Launch) (Z : State) (a0 : Array Value) (hw : ∀ d ∈ tables_1, d.before a0 Z = true) (ws : List Jvm.Cond) (a1 : Addr) (kC : ClassId) (c0 c1 : Int32) (h0 : Heap) (n0 : Nat) (O0 : Old Z n0 h0) (VC : Arv Z h0 a1 kC .char (2 : Int32) [(.int c0), (.int c1)] (.int (0 : Int32))) (hc0 : ¬ (255 : Int32) < c0) (hc1 : ¬ (255 : Int32) < c1) :
    MetFree l (⟨"java/lang/StringUTF16", "compress", "([CII)[B"⟩ : MethodName) (head1 (Jvm.Cond.code (⟨"java/lang/StringUTF16", "compress", "([CII)[B"⟩ : MethodName) jdk_52_method_16_code 6 (some (.array .byte)) :: ws) ({ frames := 1, cells := 1, slots := 2, locals := 18 } : Room)) (fun a U => a = #[(.ref a1), (.int (0 : Int32)), (.int (2 : Int32))] ∧ Z.Warmed39 U.vm ∧ U.heap = h0) (fun _ _ _ _ _ => True) (fun _ U o U' => ∃ v L, o = .returned v ∧ Q_cmpb2 Z a1 kC c0 c1 h0 n0 v U'.heap L ∧ FrameEnd U o U' L ({ frames := 1, cells := 1, slots := 2, locals := 18 } : Room).cells ({ frames := 1, cells := 1, slots := 2, locals := 18 } : Room).slots) := by
  refine MetFree.of_bodySF (plainFor_of_name pn_cmpb2) hisR ?_
  intro p e s m args below meth c s₁ Bd hml0 hP hK
  obtain ⟨rfl, hZ, hh⟩ := hP
  have hx := Bd.exec
  have hby := Bd.bytes
  have hml : c.maxLocals = 6 := hml0
  have hown : s.vm.findClass "java/lang/StringUTF16" = some m.cls := findClass_of_methodNamed Bd.named
  have hnm := (name_of_methodNamed Bd.named Bd.method).1
  have X0 : Stand p l e ({ frames := 1, cells := 1, slots := 2, locals := 18 } : Room) s m #[(.ref a1), (.int (0 : Int32)), (.int (2 : Int32))] below meth c s₁ [] 0 0 := Stand.of_body Bd
  have e0 : s₁.heap = h0 := by rw [← hh, Bd.state]; rfl
  have N0 := Fr.nil n0
  have pre0 : ∀ t, Steps p.tables e below (s₁.setTop (mkF m 0 #[.val (.ref a1), .val (.int (0 : Int32)), .val (.int (2 : Int32)), .unset, .unset, .unset] [])) t → Steps p.tables e below (s₁.setTop (entryFrame m #[(.ref a1), (.int (0 : Int32)), (.int (2 : Int32))] 6)) t := fun t k => castTop (ef_cmpb2 m a1) k
  generalize s₁.setTop (entryFrame m #[(.ref a1), (.int (0 : Int32)), (.int (2 : Int32))] 6) = E0 at pre0 ⊢
  have pre_1 : ∀ t, Sp p e below s₁ (mkF m 1 #[.val (.ref a1), .val (.int (0 : Int32)), .val (.int (2 : Int32)), .unset, .unset, .unset] [(.int (2 : Int32))]) t → Steps p.tables e below E0 t := by
    intro t k
    refine pre0 t ?_
    show Sp p e below s₁ (mkF m 0 #[.val (.ref a1), .val (.int (0 : Int32)), .val (.int (2 : Int32)), .unset, .unset, .unset] []) _
    refine XS.iloadN X0.here hx rfl (hb hby d_jdk_52_16_0) rfl ?_
    exact k
  obtain ⟨T2, h2, cA2, X2, e2, E2, A2, st2⟩ := newP X0 hx hZ (own_w hw 22 rfl) e0 (g := (mkF m 1 #[.val (.ref a1), .val (.int (0 : Int32)), .val (.int (2 : Int32)), .unset, .unset, .unset] [(.int (2 : Int32))])) rfl (hb hby d_jdk_52_16_1) rfl (by decide) (cap := 2) (by decide) (by decide) (by decide) (by decide)
  obtain ⟨b2, g2⟩ : ∃ z, z = h0.size := ⟨_, rfl⟩
  rw [← g2] at A2 st2
  have O2 : Old Z n0 h2 := O0.ext E2
  have V2 : Arv Z h2 b2 cA2 .byte (2 : Int32) [(.int (0 : Int32)), (.int (0 : Int32))] (.int (0 : Int32)) := (Arv.new A2 (by decide)).pad (pad_rep [] _ 2)
  have pre_3 : ∀ t, Sp p e below T2 (mkF m 3 #[.val (.ref a1), .val (.int (0 : Int32)), .val (.int (2 : Int32)), .unset, .unset, .unset] [(.ref b2)]) t → Steps p.tables e below E0 t := fun t k => pre_1 t (st2 t k)
  have pre_4 : ∀ t, Sp p e below T2 (mkF m 9 #[.val (.ref a1), .val (.int (0 : Int32)), .val (.int (2 : Int32)), .val (.ref b2), .unset, .unset] [(.int (2 : Int32)), (.int (0 : Int32)), (.ref b2), (.int (0 : Int32)), (.ref a1)]) t → Steps p.tables e below E0 t := by
    intro t k
    refine pre_3 t ?_
    show Sp p e below T2 (mkF m 3 #[.val (.ref a1), .val (.int (0 : Int32)), .val (.int (2 : Int32)), .unset, .unset, .unset] [(.ref b2)]) _
    refine XS.astoreN X2.here hx rfl (hb hby d_jdk_52_16_3) rfl rfl (l' := #[.val (.ref a1), .val (.int (0 : Int32)), .val (.int (2 : Int32)), .val (.ref b2), .unset, .unset]) rfl ?_
    refine XS.aloadN X2.here hx rfl (hb hby d_jdk_52_16_4) rfl rfl ?_
    refine XS.iloadN X2.here hx rfl (hb hby d_jdk_52_16_5) rfl ?_
    show Sp p e below T2 (mkF m 6 #[.val (.ref a1), .val (.int (0 : Int32)), .val (.int (2 : Int32)), .val (.ref b2), .unset, .unset] [(.int (0 : Int32)), (.ref a1)]) _
    refine XS.aloadN X2.here hx rfl (hb hby d_jdk_52_16_6) rfl rfl ?_
    refine XS.iconst X2.here hx rfl (hb hby d_jdk_52_16_7) ?_
    refine XS.iloadN X2.here hx rfl (hb hby d_jdk_52_16_8) rfl ?_
    exact k
  obtain ⟨_, _, ⟨T5, L5, k5, n5⟩, -, X5, ⟨Lc5, hQ5, l5, y5, z5⟩, st5⟩ := Jvm.LawKit.callS X2 hx (y := (⟨"java/lang/StringUTF16", "compress", "([CI[BII)I"⟩ : MethodName)) hown (mvT hZ (own_w hw 58 rfl)) (mvT hZ (own_w hw 59 rfl)) (mvT hZ (own_w hw 56 rfl)) (mvT hZ (own_w hw 60 rfl)) (by decide) (backOf (W := 0) (rm_cmpa2 l Z a0 hw [] a1 b2 kC cA2 c0 c1 h2 n0 O2 (VC.ext E2) V2 (Nat.le_trans (own_le O0) (Nat.le_of_eq g2.symm)) (Nat.ne_of_lt (Nat.lt_of_lt_of_le VC.lt (Nat.le_of_eq g2.symm))) hc0 hc1) hZ (own_w hw 60 rfl) (own_w hw 56 rfl) (by decide) (by decide)) (g := (mkF m 9 #[.val (.ref a1), .val (.int (0 : Int32)), .val (.int (2 : Int32)), .val (.ref b2), .unset, .unset] [(.int (2 : Int32)), (.int (0 : Int32)), (.ref b2), (.int (0 : Int32)), (.ref a1)])) rfl (by rw [hml]; rfl) (argsL := [(.ref a1), (.int (0 : Int32)), (.ref b2), (.int (0 : Int32)), (.int (2 : Int32))]) (rest := []) (lenOf pd_cmpb2_0 rfl) rfl (by show 2 * 0 + _ ≤ _; exact Nat.le_of_eq rfl) (hb hby d_jdk_52_16_9) (fun _ _ => ⟨rfl, e2, (by decide : 1 + 0 ≤ _), (by decide : 2 + 0 ≤ _)⟩)
  dsimp only [Pt.U, Pt.locs, Pt.cells, Pt.slots] at X5 l5 y5 z5 st5 hQ5
  subst l5 y5 z5
  obtain ⟨rfl, N5q, K5, Vb5⟩ := hQ5
  have N5 := Fr.app N0 N5q
  have O5 : Old Z n0 T5.heap := O2.keep K5 (allS (Nat.le_trans (own_le O0) (Nat.le_of_eq g2.symm)) all0)
  have pre_6 : ∀ t, Sp p e below T5 (mkF m 12 #[.val (.ref a1), .val (.int (0 : Int32)), .val (.int (2 : Int32)), .val (.ref b2), .unset, .unset] [(.int (2 : Int32))]) t → Steps p.tables e below E0 t := fun t k => pre_4 t (st5 t k)
  have pre_7 : ∀ t, Sp p e below T5 (mkF m 58 #[.val (.ref a1), .val (.int (0 : Int32)), .val (.int (2 : Int32)), .val (.ref b2), .val (.int (2 : Int32)), .unset] [(.ref b2)]) t → Steps p.tables e below E0 t := by
    intro t k
    refine pre_6 t ?_
    show Sp p e below T5 (mkF m 12 #[.val (.ref a1), .val (.int (0 : Int32)), .val (.int (2 : Int32)), .val (.ref b2), .unset, .unset] [(.int (2 : Int32))]) _
    refine XS.istore X5.here hx rfl (hb hby d_jdk_52_16_12) rfl (l' := #[.val (.ref a1), .val (.int (0 : Int32)), .val (.int (2 : Int32)), .val (.ref b2), .val (.int (2 : Int32)), .unset]) rfl ?_
    show Sp p e below T5 (mkF m 14 #[.val (.ref a1), .val (.int (0 : Int32)), .val (.int (2 : Int32)), .val (.ref b2), .val (.int (2 : Int32)), .unset] []) _
    refine XS.iload X5.here hx rfl (hb hby d_jdk_52_16_14) rfl ?_
    refine XS.iloadN X5.here hx rfl (hb hby d_jdk_52_16_16) rfl ?_
    refine XS.icmpYes X5.here hx rfl (pc0 := 17) (pc' := 57) rfl (hb hby d_jdk_52_16_17) rfl (XT.ii_eq_t (by decide)) (by decide) (by decide) ?_
    refine XS.aloadN X5.here hx rfl (hb hby d_jdk_52_16_57) rfl rfl ?_
    show Sp p e below T5 (mkF m 58 #[.val (.ref a1), .val (.int (0 : Int32)), .val (.int (2 : Int32)), .val (.ref b2), .val (.int (2 : Int32)), .unset] [(.ref b2)]) _
    exact k
  obtain ⟨fs, hr, hrun, hended, hW, hsame⟩ := X5.leave (v := some (.ref b2)) (fun h => by rw [Bd.returns] at h; cases h)
  refine ⟨_, _, pre_7 _ ?_, hrun, hended, _, _, rfl, ?_, ⟨_, rfl⟩, hW, hsame.mono (by decide) (by decide)⟩
  · show Sp p e below T5 (mkF m 58 #[.val (.ref a1), .val (.int (0 : Int32)), .val (.int (2 : Int32)), .val (.ref b2), .val (.int (2 : Int32)), .unset] [(.ref b2)]) _
    exact retOut X5 hx (t := (.array .byte)) Bd.returns rfl (Or.inr (Or.inr (Or.inr (Or.inr ⟨rfl, rfl, rfl⟩)))) (hb hby d_jdk_52_16_58) hr
  · show Q_cmpb2 Z _ _ _ _ h0 n0 _ T5.heap _
    exact ⟨b2, cA2, rfl, N5, (((Keep.refl h0 []).ext E2).trans K5 (allS (Or.inr (Nat.le_trans (Keep.refl h0 []).1 (Nat.le_of_eq g2.symm))) all0)), (Nat.le_trans (Keep.refl h0 []).1 (Nat.le_of_eq g2.symm)), Vb5⟩
theorem pn_cfa2 : plainName "java/lang/StringUTF16" = true := by first | (simp [plainName, overriddenIn]; done) | decide +kernel
theorem ef_cfa2 (m : MethodId) (a1 : Addr) : entryFrame m #[(.ref a1), (.int (2 : Int32))] 2 = (mkF m 0 #[.val (.ref a1), .val (.int (2 : Int32))] []) := by first | (simp [entryFrame, mkF, argsToLocals, Value.category]; done) | rfl
def Q_cfa2 (Z : State) (a1 : Addr) (kB : ClassId) (c0 c1 : Int32) (h0 : Heap) (n0 : Nat) (v : Option Value) (h : Heap) (L : List Loc) : Prop := v = some (.int (0 : Int32)) ∧ Fr n0 L ∧ h = h0
set_option maxRecDepth 65536 in
set_option maxHeartbeats 40000000 in
theorem rm_cfa2 (l : Launch) (Z : State) (a0 : Array Value) (hw : ∀ d ∈ tables_1, d.before a0 Z = true) (ws : List Jvm.Cond) (a1 : Addr) (kB : ClassId) (c0 c1 : Int32) (h0 : Heap) (n0 : Nat) (O0 : Old Z n0 h0) (VB : Arv Z h0 a1 kB .byte (2 : Int32) [(.int (c0).toInt8.toInt32), (.int (c1).toInt8.toInt32)] (.int (0 : Int32))) :
    MetFree l (⟨"java/lang/StringUTF16", "coderFromArrayLen", "([BI)B"⟩ : MethodName) (head1 (Jvm.Cond.code (⟨"java/lang/StringUTF16", "coderFromArrayLen", "([BI)B"⟩ : MethodName) jdk_52_method_15_code 2 (some .byte) :: ws) ({ frames := 0, cells := 0, slots := 0, locals := 0 } : Room)) (fun a U => a = #[(.ref a1), (.int (2 : Int32))] ∧ Z.Warmed39 U.vm ∧ U.heap = h0) (fun _ _ _ _ _ => True) (fun _ U o U' => ∃ v L, o = .returned v ∧ Q_cfa2 Z a1 kB c0 c1 h0 n0 v U'.heap L ∧ FrameEnd U o U' L ({ frames := 0, cells := 0, slots := 0, locals := 0 } : Room).cells ({ frames := 0, cells := 0, slots := 0, locals := 0 } : Room).slots) := by
  refine MetFree.of_bodySF (plainFor_of_name pn_cfa2) hisR ?_
  intro p e s m args below meth c s₁ Bd hml0 hP hK
  obtain ⟨rfl, hZ, hh⟩ := hP
  have hx := Bd.exec
  have hby := Bd.bytes
  have hml : c.maxLocals = 2 := hml0
  have hown : s.vm.findClass "java/lang/StringUTF16" = some m.cls := findClass_of_methodNamed Bd.named
  have hnm := (name_of_methodNamed Bd.named Bd.method).1
  have X0 : Stand p l e ({ frames := 0, cells := 0, slots := 0, locals := 0 } : Room) s m #[(.ref a1), (.int (2 : Int32))] below meth c s₁ [] 0 0 := Stand.of_body Bd
  have e0 : s₁.heap = h0 := by rw [← hh, Bd.state]; rfl
  have N0 := Fr.nil n0
  have pre0 : ∀ t, Steps p.tables e below (s₁.setTop (mkF m 0 #[.val (.ref a1), .val (.int (2 : Int32))] [])) t → Steps p.tables e below (s₁.setTop (entryFrame m #[(.ref a1), (.int (2 : Int32))] 2)) t := fun t k => castTop (ef_cfa2 m a1) k
  generalize s₁.setTop (entryFrame m #[(.ref a1), (.int (2 : Int32))] 2) = E0 at pre0 ⊢
  have pre_2 : ∀ t, Sp p e below s₁ (mkF m 8 #[.val (.ref a1), .val (.int (2 : Int32))] [(.int (0 : Int32))]) t → Steps p.tables e below E0 t := by
    intro t k
    refine pre0 t ?_
    show Sp p e below s₁ (mkF m 0 #[.val (.ref a1), .val (.int (2 : Int32))] []) _
    refine XS.iloadN X0.here hx rfl (hb hby d_jdk_52_15_0) rfl ?_
    refine XS.aloadN X0.here hx rfl (hb hby d_jdk_52_15_1) rfl rfl ?_
    obtain ⟨cl1, Ar1, -, S1, M1, -, -⟩ := id VB
    refine X0.arraylength hx (cell := cl1) (by rw [e0]; exact Ar1.1) (State.isArrayOf_alike hZ.alike Ar1.2.1) (g := (mkF m 2 #[.val (.ref a1), .val (.int (2 : Int32))] [(.ref a1), (.int (2 : Int32))])) rfl (rest := [(.int (2 : Int32))]) rfl (hb hby d_jdk_52_15_2) _ ?_
    rw [len_of S1 M1]
    show Sp p e below s₁ (mkF m 3 #[.val (.ref a1), .val (.int (2 : Int32))] [(.int (2 : Int32)), (.int (2 : Int32))]) _
    refine XS.isub X0.here hx rfl (hb hby d_jdk_52_15_3) rfl ?_
    refine XS.bipush X0.here hx rfl (hb hby d_jdk_52_15_4) ?_
    show Sp p e below s₁ (mkF m 6 #[.val (.ref a1), .val (.int (2 : Int32))] [(.int (31 : Int32)), (.int (0 : Int32))]) _
    refine XT.iushr X0.here hx rfl (hb hby d_jdk_52_15_6) rfl ?_
    refine XT.i2b X0.here hx rfl (hb hby d_jdk_52_15_7) rfl ?_
    exact k
  obtain ⟨fs, hr, hrun, hended, hW, hsame⟩ := X0.leave (v := some (.int (0 : Int32))) (fun h => by rw [Bd.returns] at h; cases h)
  refine ⟨_, _, pre_2 _ ?_, hrun, hended, _, _, rfl, ?_, ⟨_, rfl⟩, hW, hsame.mono (by decide) (by decide)⟩
  · show Sp p e below s₁ (mkF m 8 #[.val (.ref a1), .val (.int (2 : Int32))] [(.int (0 : Int32))]) _
    exact retN X0 hx (t := .byte) Bd.returns (by simp) (hb hby d_jdk_52_15_8) hr
  · show Q_cfa2 Z _ _ _ _ h0 n0 _ s₁.heap _
    rw [e0]
    exact ⟨rfl, N0, rfl⟩
theorem pn_sti2 : plainName "java/lang/String" = true := by first | (simp [plainName, overriddenIn]; done) | decide +kernel
theorem pd_sti2_0 : parseMethodDescriptor "([CII)[B" = some ⟨[(.array .char), .int, .int], some (.array .byte)⟩ := by decide +kernel
theorem pd_sti2_1 : parseMethodDescriptor "([BI)B" = some ⟨[(.array .byte), .int], some .byte⟩ := by decide +kernel
theorem ef_sti2 (m : MethodId) (a1 : Addr) (a2 : Addr) : entryFrame m #[(.ref a1), (.ref a2), (.int (0 : Int32)), (.int (2 : Int32)), .null] 6 = (mkF m 0 #[.val (.ref a1), .val (.ref a2), .val (.int (0 : Int32)), .val (.int (2 : Int32)), .val .null, .unset] []) := by first | (simp [entryFrame, mkF, argsToLocals, Value.category]; done) | rfl
def Q_sti2 (Z : State) (a1 : Addr) (a2 : Addr) (u1 u2 : Value) (G1 : Int32) (kC : ClassId) (c0 c1 : Int32) (h0 : Heap) (n0 : Nat) (v : Option Value) (h : Heap) (L : List Loc) : Prop := v = none ∧ Fr n0 L ∧ Keep h0 h [a1] ∧ Fld Z h a1 "java/lang/String" "coder" "B" (.int (0 : Int32)) ∧ ∃ b kB, h0.size ≤ b ∧ Fld Z h a1 "java/lang/String" "value" "[B" (.ref b) ∧ Arv Z h b kB .byte (2 : Int32) [(.int (c0).toInt8.toInt32), (.int (c1).toInt8.toInt32)] (.int (0 : Int32))
set_option maxRecDepth 65536 in
set_option maxHeartbeats 40000000 in
theorem rm_sti2 (l : Launch) (Z : State) (a0 : Array Value) (hw : ∀ d ∈ tables_1, d.before a0 Z = true) (ws : List Jvm.Cond) (a1 : Addr) (a2 : Addr) (u1 u2 : Value) (G1 : Int32) (kC : ClassId) (c0 c1 : Int32) (h0 : Heap) (n0 : Nat) (O0 : Old Z n0 h0) (E1 : Exa Z h0 a1 "java/lang/String") (F1 : Fld Z h0 a1 "java/lang/String" "value" "[B" u1) (F2 : Fld Z h0 a1 "java/lang/String" "coder" "B" u2) (g1 : n0 ≤ a1) (SC : Sta Z Z.heap "java/lang/String" "COMPACT_STRINGS" "Z" (.int G1)) (hG : ¬ G1 = (0 : Int32)) (VC : Arv Z h0 a2 kC .char (2 : Int32) [(.int c0), (.int c1)] (.int (0 : Int32))) (hc0 : ¬ (255 : Int32) < c0) (hc1 : ¬ (255 : Int32) < c1) :
    MetFree l (⟨"java/lang/String", "<init>", "([CIILjava/lang/Void;)V"⟩ : MethodName) (head1 (Jvm.Cond.code (⟨"java/lang/String", "<init>", "([CIILjava/lang/Void;)V"⟩ : MethodName) jdk_42_method_149_code 6 none :: ws) ({ frames := 2, cells := 1, slots := 2, locals := 36 } : Room)) (fun a U => a = #[(.ref a1), (.ref a2), (.int (0 : Int32)), (.int (2 : Int32)), .null] ∧ Z.Warmed39 U.vm ∧ U.heap = h0) (fun _ _ _ _ _ => True) (fun _ U o U' => ∃ v L, o = .returned v ∧ Q_sti2 Z a1 a2 u1 u2 G1 kC c0 c1 h0 n0 v U'.heap L ∧ FrameEnd U o U' L ({ frames := 2, cells := 1, slots := 2, locals := 36 } : Room).cells ({ frames := 2, cells := 1, slots := 2, locals := 36 } : Room).slots) := by
  refine MetFree.of_bodySF (plainFor_of_name pn_sti2) hisR ?_
  intro p e s m args below meth c s₁ Bd hml0 hP hK
  obtain ⟨rfl, hZ, hh⟩ := hP
  have hx := Bd.exec
  have hby := Bd.bytes
  have hml : c.maxLocals = 6 := hml0
  have hown : s.vm.findClass "java/lang/String" = some m.cls := findClass_of_methodNamed Bd.named
  have hnm := (name_of_methodNamed Bd.named Bd.method).1
  have X0 : Stand p l e ({ frames := 2, cells := 1, slots := 2, locals := 36 } : Room) s m #[(.ref a1), (.ref a2), (.int (0 : Int32)), (.int (2 : Int32)), .null] below meth c s₁ [] 0 0 := Stand.of_body Bd
  have e0 : s₁.heap = h0 := by rw [← hh, Bd.state]; rfl
  have N0 := Fr.nil n0
  have pre0 : ∀ t, Steps p.tables e below (s₁.setTop (mkF m 0 #[.val (.ref a1), .val (.ref a2), .val (.int (0 : Int32)), .val (.int (2 : Int32)), .val .null, .unset] [])) t → Steps p.tables e below (s₁.setTop (entryFrame m #[(.ref a1), (.ref a2), (.int (0 : Int32)), (.int (2 : Int32)), .null] 6)) t := fun t k => castTop (ef_sti2 m a1 a2) k
  generalize s₁.setTop (entryFrame m #[(.ref a1), (.ref a2), (.int (0 : Int32)), (.int (2 : Int32)), .null] 6) = E0 at pre0 ⊢
  have pre_1 : ∀ t, Sp p e below s₁ (mkF m 1 #[.val (.ref a1), .val (.ref a2), .val (.int (0 : Int32)), .val (.int (2 : Int32)), .val .null, .unset] [(.ref a1)]) t → Steps p.tables e below E0 t := by
    intro t k
    refine pre0 t ?_
    show Sp p e below s₁ (mkF m 0 #[.val (.ref a1), .val (.ref a2), .val (.int (0 : Int32)), .val (.int (2 : Int32)), .val .null, .unset] []) _
    refine XS.aloadN X0.here hx rfl (hb hby d_jdk_42_149_0) rfl rfl ?_
    exact k
  obtain ⟨T2, X2, e2, st2⟩ := initO X0 hx hZ hown (own_w hw 18 rfl) (own_w hw 19 rfl) (own_w hw 20 rfl) e0 (g := (mkF m 1 #[.val (.ref a1), .val (.ref a2), .val (.int (0 : Int32)), .val (.int (2 : Int32)), .val .null, .unset] [(.ref a1)])) rfl (by rw [hml]; rfl) rfl (hb hby d_jdk_42_149_1) (by decide) (W := 0) (by show 2 * 0 + _ ≤ _; exact Nat.le_of_eq rfl) (by decide)
  have pre_3 : ∀ t, Sp p e below T2 (mkF m 4 #[.val (.ref a1), .val (.ref a2), .val (.int (0 : Int32)), .val (.int (2 : Int32)), .val .null, .unset] []) t → Steps p.tables e below E0 t := fun t k => pre_1 t (st2 t k)
  have pre_4 : ∀ t, Sp p e below T2 (mkF m 27 #[.val (.ref a1), .val (.ref a2), .val (.int (0 : Int32)), .val (.int (2 : Int32)), .val .null, .unset] []) t → Steps p.tables e below E0 t := by
    intro t k
    refine pre_3 t ?_
    show Sp p e below T2 (mkF m 4 #[.val (.ref a1), .val (.ref a2), .val (.int (0 : Int32)), .val (.int (2 : Int32)), .val .null, .unset] []) _
    refine XS.iloadN X2.here hx rfl (hb hby d_jdk_42_149_4) rfl ?_
    refine XS.ifYes X2.here hx rfl (pc0 := 5) (pc' := 27) rfl (hb hby d_jdk_42_149_5) rfl (XT.i0_ne_t (by decide)) (by decide) (by decide) ?_
    exact k
  obtain ⟨T5, X5, e5, st5⟩ := getS X2 hx hZ hown (host := "") (own_w hw 53 rfl) Via.refl e2 (SC.ext O0.2) (g := (mkF m 27 #[.val (.ref a1), .val (.ref a2), .val (.int (0 : Int32)), .val (.int (2 : Int32)), .val .null, .unset] [])) rfl (hb hby d_jdk_42_149_27)
  have pre_6 : ∀ t, Sp p e below T5 (mkF m 30 #[.val (.ref a1), .val (.ref a2), .val (.int (0 : Int32)), .val (.int (2 : Int32)), .val .null, .unset] [(.int G1)]) t → Steps p.tables e below E0 t := fun t k => pre_4 t (st5 t k)
  have pre_7 : ∀ t, Sp p e below T5 (mkF m 36 #[.val (.ref a1), .val (.ref a2), .val (.int (0 : Int32)), .val (.int (2 : Int32)), .val .null, .unset] [(.int (2 : Int32)), (.int (0 : Int32)), (.ref a2)]) t → Steps p.tables e below E0 t := by
    intro t k
    refine pre_6 t ?_
    show Sp p e below T5 (mkF m 30 #[.val (.ref a1), .val (.ref a2), .val (.int (0 : Int32)), .val (.int (2 : Int32)), .val .null, .unset] [(.int G1)]) _
    refine XS.ifNo X5.here hx rfl (hb hby d_jdk_42_149_30) rfl (XT.i0_eq_f hG) ?_
    show Sp p e below T5 (mkF m 33 #[.val (.ref a1), .val (.ref a2), .val (.int (0 : Int32)), .val (.int (2 : Int32)), .val .null, .unset] []) _
    refine XS.aloadN X5.here hx rfl (hb hby d_jdk_42_149_33) rfl rfl ?_
    refine XS.iloadN X5.here hx rfl (hb hby d_jdk_42_149_34) rfl ?_
    refine XS.iloadN X5.here hx rfl (hb hby d_jdk_42_149_35) rfl ?_
    exact k
  obtain ⟨_, _, ⟨T8, L8, k8, n8⟩, -, X8, ⟨Lc8, hQ8, l8, y8, z8⟩, st8⟩ := Jvm.LawKit.callS X5 hx (y := (⟨"java/lang/StringUTF16", "compress", "([CII)[B"⟩ : MethodName)) hown (mvT hZ (own_w hw 54 rfl)) (mvT hZ (own_w hw 55 rfl)) (mvT hZ (own_w hw 56 rfl)) (mvT hZ (own_w hw 57 rfl)) (by decide) (backOf (W := 0) (rm_cmpb2 l Z a0 hw [] a2 kC c0 c1 h0 n0 O0 VC hc0 hc1) hZ (own_w hw 57 rfl) (own_w hw 56 rfl) (by decide) (by decide)) (g := (mkF m 36 #[.val (.ref a1), .val (.ref a2), .val (.int (0 : Int32)), .val (.int (2 : Int32)), .val .null, .unset] [(.int (2 : Int32)), (.int (0 : Int32)), (.ref a2)])) rfl (by rw [hml]; rfl) (argsL := [(.ref a2), (.int (0 : Int32)), (.int (2 : Int32))]) (rest := []) (lenOf pd_sti2_0 rfl) rfl (by show 2 * 0 + _ ≤ _; exact Nat.le_of_eq rfl) (hb hby d_jdk_42_149_36) (fun _ _ => ⟨rfl, e5, (by decide : 0 + 1 ≤ _), (by decide : 0 + 2 ≤ _)⟩)
  dsimp only [Pt.U, Pt.locs, Pt.cells, Pt.slots] at X8 l8 y8 z8 st8 hQ8
  subst l8 y8 z8
  obtain ⟨b8, kB8, rfl, N8q, K8, sb8, Vb8⟩ := hQ8
  have N8 := Fr.app N0 N8q
  have O8 : Old Z n0 T8.heap := O0.keep K8 all0
  have pre_9 : ∀ t, Sp p e below T8 (mkF m 39 #[.val (.ref a1), .val (.ref a2), .val (.int (0 : Int32)), .val (.int (2 : Int32)), .val .null, .unset] [(.ref b8)]) t → Steps p.tables e below E0 t := fun t k => pre_7 t (st8 t k)
  have pre_10 : ∀ t, Sp p e below T8 (mkF m 45 #[.val (.ref a1), .val (.ref a2), .val (.int (0 : Int32)), .val (.int (2 : Int32)), .val .null, .val (.ref b8)] [(.int (2 : Int32)), (.ref b8), (.ref a1)]) t → Steps p.tables e below E0 t := by
    intro t k
    refine pre_9 t ?_
    show Sp p e below T8 (mkF m 39 #[.val (.ref a1), .val (.ref a2), .val (.int (0 : Int32)), .val (.int (2 : Int32)), .val .null, .unset] [(.ref b8)]) _
    refine XS.astore X8.here hx rfl (hb hby d_jdk_42_149_39) rfl rfl (l' := #[.val (.ref a1), .val (.ref a2), .val (.int (0 : Int32)), .val (.int (2 : Int32)), .val .null, .val (.ref b8)]) rfl ?_
    show Sp p e below T8 (mkF m 41 #[.val (.ref a1), .val (.ref a2), .val (.int (0 : Int32)), .val (.int (2 : Int32)), .val .null, .val (.ref b8)] []) _
    refine XS.aloadN X8.here hx rfl (hb hby d_jdk_42_149_41) rfl rfl ?_
    refine XS.aload X8.here hx rfl (hb hby d_jdk_42_149_42) rfl rfl ?_
    refine XS.iloadN X8.here hx rfl (hb hby d_jdk_42_149_44) rfl ?_
    exact k
  obtain ⟨_, _, ⟨T11, L11, k11, n11⟩, -, X11, ⟨Lc11, hQ11, l11, y11, z11⟩, st11⟩ := Jvm.LawKit.callS X8 hx (y := (⟨"java/lang/StringUTF16", "coderFromArrayLen", "([BI)B"⟩ : MethodName)) hown (mvT hZ (own_w hw 61 rfl)) (mvT hZ (own_w hw 62 rfl)) (mvT hZ (own_w hw 56 rfl)) (mvT hZ (own_w hw 63 rfl)) (by decide) (backOf (W := 1) (rm_cfa2 l Z a0 hw [] b8 kB8 c0 c1 T8.heap n0 O8 Vb8) hZ (own_w hw 63 rfl) (own_w hw 56 rfl) (by decide) (by decide)) (g := (mkF m 45 #[.val (.ref a1), .val (.ref a2), .val (.int (0 : Int32)), .val (.int (2 : Int32)), .val .null, .val (.ref b8)] [(.int (2 : Int32)), (.ref b8), (.ref a1)])) rfl (by rw [hml]; rfl) (argsL := [(.ref b8), (.int (2 : Int32))]) (rest := [(.ref a1)]) (lenOf pd_sti2_1 rfl) rfl (by show 2 * 0 + _ ≤ _; exact Nat.le_of_eq rfl) (hb hby d_jdk_42_149_45) (fun _ _ => ⟨rfl, rfl, (by decide : 1 + 0 ≤ _), (by decide : 2 + 0 ≤ _)⟩)
  dsimp only [Pt.U, Pt.locs, Pt.cells, Pt.slots] at X11 l11 y11 z11 st11 hQ11
  subst l11 y11 z11
  obtain ⟨rfl, N11q, e11⟩ := hQ11
  have N11 := Fr.app N8 N11q
  have pre_12 : ∀ t, Sp p e below T11 (mkF m 48 #[.val (.ref a1), .val (.ref a2), .val (.int (0 : Int32)), .val (.int (2 : Int32)), .val .null, .val (.ref b8)] [(.int (0 : Int32)), (.ref a1)]) t → Steps p.tables e below E0 t := fun t k => pre_10 t (st11 t k)
  obtain ⟨T13, h13, X13, e13, W13, st13⟩ := putF X11 hx hZ hown (host := "") (Or.inl (own_w hw 28 rfl)) Via.refl e11 (F2.keep K8 nin0) (E1.keep K8) (Or.inr ⟨(own_w hw 24 rfl), rfl, hnm⟩) (own_w hw 8 rfl) (ty := .byte) (by decide) rfl rfl (g := (mkF m 48 #[.val (.ref a1), .val (.ref a2), .val (.int (0 : Int32)), .val (.int (2 : Int32)), .val .null, .val (.ref b8)] [(.int (0 : Int32)), (.ref a1)])) rfl rfl (hb hby d_jdk_42_149_48)
  have Fw13 := (F2.keep K8 nin0).same W13
  have N13 := Fr.snoc X13 N11 g1
  have O13 : Old Z n0 h13 := O8.wr W13 g1
  have pre_14 : ∀ t, Sp p e below T13 (mkF m 51 #[.val (.ref a1), .val (.ref a2), .val (.int (0 : Int32)), .val (.int (2 : Int32)), .val .null, .val (.ref b8)] []) t → Steps p.tables e below E0 t := fun t k => pre_12 t (st13 t k)
  have pre_15 : ∀ t, Sp p e below T13 (mkF m 54 #[.val (.ref a1), .val (.ref a2), .val (.int (0 : Int32)), .val (.int (2 : Int32)), .val .null, .val (.ref b8)] [(.ref b8), (.ref a1)]) t → Steps p.tables e below E0 t := by
    intro t k
    refine pre_14 t ?_
    show Sp p e below T13 (mkF m 51 #[.val (.ref a1), .val (.ref a2), .val (.int (0 : Int32)), .val (.int (2 : Int32)), .val .null, .val (.ref b8)] []) _
    refine XS.aloadN X13.here hx rfl (hb hby d_jdk_42_149_51) rfl rfl ?_
    show Sp p e below T13 (mkF m 52 #[.val (.ref a1), .val (.ref a2), .val (.int (0 : Int32)), .val (.int (2 : Int32)), .val .null, .val (.ref b8)] [(.ref a1)]) _
    refine XS.aload X13.here hx rfl (hb hby d_jdk_42_149_52) rfl rfl ?_
    exact k
  obtain ⟨T16, h16, X16, e16, W16, st16⟩ := putF X13 hx hZ hown (host := "") (Or.inl (own_w hw 27 rfl)) Via.refl e13 ((F1.keep K8 nin0).other W13 (Or.inr (slot_ne (Or.inr (own_w hw 23 rfl)) (Or.inr (own_w hw 24 rfl)) (by decide) (t := (.array .byte)) (t' := .byte) (by decide) (by decide)))) ((E1.keep K8).wr W13) (Or.inr ⟨(own_w hw 23 rfl), rfl, hnm⟩) (own_w hw 8 rfl) (ty := (.array .byte)) (by decide) rfl rfl (g := (mkF m 54 #[.val (.ref a1), .val (.ref a2), .val (.int (0 : Int32)), .val (.int (2 : Int32)), .val .null, .val (.ref b8)] [(.ref b8), (.ref a1)])) rfl rfl (hb hby d_jdk_42_149_54)
  have Fw16 := ((F1.keep K8 nin0).other W13 (Or.inr (slot_ne (Or.inr (own_w hw 23 rfl)) (Or.inr (own_w hw 24 rfl)) (by decide) (t := (.array .byte)) (t' := .byte) (by decide) (by decide)))).same W16
  have N16 := Fr.snoc X16 N13 g1
  have O16 : Old Z n0 h16 := O13.wr W16 g1
  have pre_17 : ∀ t, Sp p e below T16 (mkF m 57 #[.val (.ref a1), .val (.ref a2), .val (.int (0 : Int32)), .val (.int (2 : Int32)), .val .null, .val (.ref b8)] []) t → Steps p.tables e below E0 t := fun t k => pre_15 t (st16 t k)
  obtain ⟨fs, hr, hrun, hended, hW, hsame⟩ := X16.leave (v := none) (fun _ => rfl)
  refine ⟨_, _, pre_17 _ ?_, hrun, hended, _, _, rfl, ?_, ⟨_, rfl⟩, hW, hsame.mono (by decide) (by decide)⟩
  · show Sp p e below T16 (mkF m 57 #[.val (.ref a1), .val (.ref a2), .val (.int (0 : Int32)), .val (.int (2 : Int32)), .val .null, .val (.ref b8)] []) _
    exact X16.returnOut hx Bd.returns (hb hby d_jdk_42_149_57) hr
  · show Q_sti2 Z _ _ _ _ _ _ _ _ h0 n0 _ T16.heap _
    rw [e16]
    exact ⟨rfl, N16, ((((Keep.refl h0 [a1]).trans K8 all0).wr W13 (Or.inl (List.mem_of_getElem? (i := 0) rfl))).wr W16 (Or.inl (List.mem_of_getElem? (i := 0) rfl))), (Fw13.other W16 (Or.inr (slot_ne (Or.inr (own_w hw 24 rfl)) (Or.inr (own_w hw 23 rfl)) (by decide) (t := .byte) (t' := (.array .byte)) (by decide) (by decide)))), b8, kB8, (Nat.le_trans (Keep.refl h0 [a1]).1 sb8), Fw16, ((Vb8.other W13 (Ne.symm (Nat.ne_of_lt (Nat.lt_of_lt_of_le E1.lt sb8)))).other W16 (Ne.symm (Nat.ne_of_lt (Nat.lt_of_lt_of_le E1.lt sb8))))⟩
theorem pn_str2 : plainName "java/lang/String" = true := by first | (simp [plainName, overriddenIn]; done) | decide +kernel
theorem pd_str2_0 : parseMethodDescriptor "([CIILjava/lang/Void;)V" = some ⟨[(.array .char), .int, .int, (.object "java/lang/Void")], none⟩ := by decide +kernel
theorem ef_str2 (m : MethodId) (a1 : Addr) (a2 : Addr) : entryFrame m #[(.ref a1), (.ref a2)] 2 = (mkF m 0 #[.val (.ref a1), .val (.ref a2)] []) := by first | (simp [entryFrame, mkF, argsToLocals, Value.category]; done) | rfl
def Q_str2 (Z : State) (a1 : Addr) (a2 : Addr) (u1 u2 : Value) (G1 : Int32) (kC : ClassId) (c0 c1 : Int32) (h0 : Heap) (n0 : Nat) (v : Option Value) (h : Heap) (L : List Loc) : Prop := v = none ∧ Fr n0 L ∧ Keep h0 h [a1] ∧ Fld Z h a1 "java/lang/String" "coder" "B" (.int (0 : Int32)) ∧ ∃ b kB, h0.size ≤ b ∧ Fld Z h a1 "java/lang/String" "value" "[B" (.ref b) ∧ Arv Z h b kB .byte (2 : Int32) [(.int (c0).toInt8.toInt32), (.int (c1).toInt8.toInt32)] (.int (0 : Int32))
set_option maxRecDepth 65536 in
set_option maxHeartbeats 40000000 in
theorem rm_str2 (l : Launch) (Z : State) (a0 : Array Value) (hw : ∀ d ∈ tables_1, d.before a0 Z = true) (ws : List Jvm.Cond) (a1 : Addr) (a2 : Addr) (u1 u2 : Value) (G1 : Int32) (kC : ClassId) (c0 c1 : Int32) (h0 : Heap) (n0 : Nat) (O0 : Old Z n0 h0) (E1 : Exa Z h0 a1 "java/lang/String") (F1 : Fld Z h0 a1 "java/lang/String" "value" "[B" u1) (F2 : Fld Z h0 a1 "java/lang/String" "coder" "B" u2) (g1 : n0 ≤ a1) (SC : Sta Z Z.heap "java/lang/String" "COMPACT_STRINGS" "Z" (.int G1)) (hG : ¬ G1 = (0 : Int32)) (VC : Arv Z h0 a2 kC .char (2 : Int32) [(.int c0), (.int c1)] (.int (0 : Int32))) (hc0 : ¬ (255 : Int32) < c0) (hc1 : ¬ (255 : Int32) < c1) :
    MetFree l (⟨"java/lang/String", "<init>", "([C)V"⟩ : MethodName) (head1 (Jvm.Cond.code (⟨"java/lang/String", "<init>", "([C)V"⟩ : MethodName) jdk_42_method_3_code 2 none :: ws) ({ frames := 3, cells := 1, slots := 2, locals := 53 } : Room)) (fun a U => a = #[(.ref a1), (.ref a2)] ∧ Z.Warmed39 U.vm ∧ U.heap = h0) (fun _ _ _ _ _ => True) (fun _ U o U' => ∃ v L, o = .returned v ∧ Q_str2 Z a1 a2 u1 u2 G1 kC c0 c1 h0 n0 v U'.heap L ∧ FrameEnd U o U' L ({ frames := 3, cells := 1, slots := 2, locals := 53 } : Room).cells ({ frames := 3, cells := 1, slots := 2, locals := 53 } : Room).slots) := by
  refine MetFree.of_bodySF (plainFor_of_name pn_str2) hisR ?_
  intro p e s m args below meth c s₁ Bd hml0 hP hK
  obtain ⟨rfl, hZ, hh⟩ := hP
  have hx := Bd.exec
  have hby := Bd.bytes
  have hml : c.maxLocals = 2 := hml0
  have hown : s.vm.findClass "java/lang/String" = some m.cls := findClass_of_methodNamed Bd.named
  have hnm := (name_of_methodNamed Bd.named Bd.method).1
  have X0 : Stand p l e ({ frames := 3, cells := 1, slots := 2, locals := 53 } : Room) s m #[(.ref a1), (.ref a2)] below meth c s₁ [] 0 0 := Stand.of_body Bd
  have e0 : s₁.heap = h0 := by rw [← hh, Bd.state]; rfl
  have N0 := Fr.nil n0
  have pre0 : ∀ t, Steps p.tables e below (s₁.setTop (mkF m 0 #[.val (.ref a1), .val (.ref a2)] [])) t → Steps p.tables e below (s₁.setTop (entryFrame m #[(.ref a1), (.ref a2)] 2)) t := fun t k => castTop (ef_str2 m a1 a2) k
  generalize s₁.setTop (entryFrame m #[(.ref a1), (.ref a2)] 2) = E0 at pre0 ⊢
  have pre_2 : ∀ t, Sp p e below s₁ (mkF m 6 #[.val (.ref a1), .val (.ref a2)] [.null, (.int (2 : Int32)), (.int (0 : Int32)), (.ref a2), (.ref a1)]) t → Steps p.tables e below E0 t := by
    intro t k
    refine pre0 t ?_
    show Sp p e below s₁ (mkF m 0 #[.val (.ref a1), .val (.ref a2)] []) _
    refine XS.aloadN X0.here hx rfl (hb hby d_jdk_42_3_0) rfl rfl ?_
    refine XS.aloadN X0.here hx rfl (hb hby d_jdk_42_3_1) rfl rfl ?_
    refine XS.iconst X0.here hx rfl (hb hby d_jdk_42_3_2) ?_
    refine XS.aloadN X0.here hx rfl (hb hby d_jdk_42_3_3) rfl rfl ?_
    show Sp p e below s₁ (mkF m 4 #[.val (.ref a1), .val (.ref a2)] [(.ref a2), (.int (0 : Int32)), (.ref a2), (.ref a1)]) _
    obtain ⟨cl1, Ar1, -, S1, M1, -, -⟩ := id VC
    refine X0.arraylength hx (cell := cl1) (by rw [e0]; exact Ar1.1) (State.isArrayOf_alike hZ.alike Ar1.2.1) (g := (mkF m 4 #[.val (.ref a1), .val (.ref a2)] [(.ref a2), (.int (0 : Int32)), (.ref a2), (.ref a1)])) rfl (rest := [(.int (0 : Int32)), (.ref a2), (.ref a1)]) rfl (hb hby d_jdk_42_3_4) _ ?_
    rw [len_of S1 M1]
    show Sp p e below s₁ (mkF m 5 #[.val (.ref a1), .val (.ref a2)] [(.int (2 : Int32)), (.int (0 : Int32)), (.ref a2), (.ref a1)]) _
    refine XS.aconstNull X0.here hx rfl (hb hby d_jdk_42_3_5) ?_
    exact k
  obtain ⟨_, _, ⟨T3, L3, k3, n3⟩, -, X3, ⟨Lc3, hQ3, l3, y3, z3⟩, st3⟩ := X0.specialBack hx (y := (⟨"java/lang/String", "<init>", "([CIILjava/lang/Void;)V"⟩ : MethodName)) rfl hown (mvT hZ (own_w hw 14 rfl)) (mvT hZ (own_w hw 15 rfl)) (mvT hZ (own_w hw 17 rfl)) (by decide) (backOf (W := 0) (rm_sti2 l Z a0 hw [] a1 a2 u1 u2 G1 kC c0 c1 h0 n0 O0 E1 F1 F2 g1 SC hG VC hc0 hc1) hZ (own_w hw 17 rfl) (own_w hw 9 rfl) (by decide) (by decide)) (g := (mkF m 6 #[.val (.ref a1), .val (.ref a2)] [.null, (.int (2 : Int32)), (.int (0 : Int32)), (.ref a2), (.ref a1)])) rfl (by rw [hml]; rfl) (Steps.refl _) (a := a1) (argsL := [(.ref a2), (.int (0 : Int32)), (.int (2 : Int32)), .null]) (rest := []) (lenOf pd_str2_0 rfl) rfl (by show 2 * 0 + _ ≤ _; exact Nat.le_of_eq rfl) (hb hby d_jdk_42_3_6) (fun _ _ => ⟨rfl, e0, (by decide : 0 + 1 ≤ _), (by decide : 0 + 2 ≤ _)⟩)
  dsimp only [Pt.U, Pt.locs, Pt.cells, Pt.slots] at X3 l3 y3 z3 st3 hQ3
  subst l3 y3 z3
  obtain ⟨rfl, N3q, K3, Fc3, b3, kB3, sb3, Fv3, Vb3⟩ := hQ3
  have N3 := Fr.app N0 N3q
  have O3 : Old Z n0 T3.heap := O0.keep K3 (allS g1 all0)
  have pre_4 : ∀ t, Sp p e below T3 (mkF m 9 #[.val (.ref a1), .val (.ref a2)] []) t → Steps p.tables e below E0 t := fun t k => pre_2 t (st3.trans k)
  obtain ⟨fs, hr, hrun, hended, hW, hsame⟩ := X3.leave (v := none) (fun _ => rfl)
  refine ⟨_, _, pre_4 _ ?_, hrun, hended, _, _, rfl, ?_, ⟨_, rfl⟩, hW, hsame.mono (by decide) (by decide)⟩
  · show Sp p e below T3 (mkF m 9 #[.val (.ref a1), .val (.ref a2)] []) _
    exact X3.returnOut hx Bd.returns (hb hby d_jdk_42_3_9) hr
  · show Q_str2 Z _ _ _ _ _ _ _ _ h0 n0 _ T3.heap _
    exact ⟨rfl, N3, ((Keep.refl h0 [a1]).trans K3 (allS (Or.inl (List.mem_of_getElem? (i := 0) rfl)) all0)), Fc3, b3, kB3, sb3, Fv3, Vb3⟩
theorem d_jdk_42_149_8 : decode jdk_42_method_149_code 8 = .ok (.aload_n 0, 1) := by decide +kernel
theorem d_jdk_42_149_9 : decode jdk_42_method_149_code 9 = .ok (.ldc 7, 2) := by decide +kernel
theorem d_jdk_42_149_11 : decode jdk_42_method_149_code 11 = .ok (.getfield 9, 3) := by decide +kernel
theorem d_jdk_42_149_14 : decode jdk_42_method_149_code 14 = .ok (.putfield 9, 3) := by decide +kernel
theorem d_jdk_42_149_17 : decode jdk_42_method_149_code 17 = .ok (.aload_n 0, 1) := by decide +kernel
theorem d_jdk_42_149_18 : decode jdk_42_method_149_code 18 = .ok (.ldc 7, 2) := by decide +kernel
theorem d_jdk_42_149_20 : decode jdk_42_method_149_code 20 = .ok (.getfield 15, 3) := by decide +kernel
theorem d_jdk_42_149_23 : decode jdk_42_method_149_code 23 = .ok (.putfield 15, 3) := by decide +kernel
theorem d_jdk_42_149_26 : decode jdk_42_method_149_code 26 = .ok (.return_, 1) := by decide +kernel
theorem pn_sti0A : plainName "java/lang/String" = true := by first | (simp [plainName, overriddenIn]; done) | decide +kernel
theorem ef_sti0A (m : MethodId) (a1 : Addr) (a2 : Addr) : entryFrame m #[(.ref a1), (.ref a2), (.int (0 : Int32)), (.int (0 : Int32)), .null] 6 = (mkF m 0 #[.val (.ref a1), .val (.ref a2), .val (.int (0 : Int32)), .val (.int (0 : Int32)), .val .null, .unset] []) := by first | (simp [entryFrame, mkF, argsToLocals, Value.category]; done) | rfl
def Q_sti0A (Z : State) (a1 : Addr) (a2 : Addr) (u2 : Value) (h0 : Heap) (n0 : Nat) (v : Option Value) (vm : Vm) (h : Heap) (L : List Loc) : Prop := v = none ∧ Fr n0 L ∧ Keep h0 h [a1] ∧ Fld Z h a1 "java/lang/String" "coder" "B" (.int (0 : Int32)) ∧ ∃ aE bE kE, Fld Z h a1 "java/lang/String" "value" "[B" (.ref bE) ∧ Arv Z h bE kE .byte (0 : Int32) [] (.int (0 : Int32)) ∧ Exa Z h aE "java/lang/String" ∧ Fld Z h aE "java/lang/String" "value" "[B" (.ref bE) ∧ Fld Z h aE "java/lang/String" "coder" "B" (.int (0 : Int32)) ∧ Lit (Z.setVm vm) "java/lang/String" 7 aE
set_option maxRecDepth 65536 in
set_option maxHeartbeats 40000000 in
theorem rm_sti0A (l : Launch) (Z : State) (a0 : Array Value) (hw : ∀ d ∈ tables_1, d.before a0 Z = true) (ws : List Jvm.Cond) (a1 : Addr) (a2 : Addr) (u2 : Value) (h0 : Heap) (n0 : Nat) (O0 : Old Z n0 h0) (E1 : Exa Z h0 a1 "java/lang/String") (F1 : Fld Z h0 a1 "java/lang/String" "value" "[B" .null) (F2 : Fld Z h0 a1 "java/lang/String" "coder" "B" u2) (g1 : n0 ≤ a1) (hHC : Jvm.Lit.constHeld Z "java/lang/String" 7) (hCW : Jvm.Lit.compactW.before a0 Z = true) :
    MetFree l (⟨"java/lang/String", "<init>", "([CIILjava/lang/Void;)V"⟩ : MethodName) (head1 (Jvm.Cond.code (⟨"java/lang/String", "<init>", "([CIILjava/lang/Void;)V"⟩ : MethodName) jdk_42_method_149_code 6 none :: ws) ({ frames := 1, cells := 2, slots := 4, locals := 12 } : Room)) (fun a U => a = #[(.ref a1), (.ref a2), (.int (0 : Int32)), (.int (0 : Int32)), .null] ∧ Z.Warmed39 U.vm ∧ U.heap = h0 ∧ IB Z U.vm []) (fun _ _ _ _ _ => True) (fun _ U o U' => ∃ v L, o = .returned v ∧ Q_sti0A Z a1 a2 u2 h0 n0 v U'.vm U'.heap L ∧ ReturnedEndW U o U' L ({ frames := 1, cells := 2, slots := 4, locals := 12 } : Room).cells ({ frames := 1, cells := 2, slots := 4, locals := 12 } : Room).slots) := by
  refine MetFree.of_bodySF (plainFor_of_name pn_sti0A) hisR ?_
  intro p e s m args below meth c s₁ Bd hml0 hP hK
  obtain ⟨rfl, hZ, hh, hPV⟩ := hP
  have hx := Bd.exec
  have hby := Bd.bytes
  have hml : c.maxLocals = 6 := hml0
  have hown : s.vm.findClass "java/lang/String" = some m.cls := findClass_of_methodNamed Bd.named
  have hnm := (name_of_methodNamed Bd.named Bd.method).1
  have X0 : Stand p l e ({ frames := 1, cells := 2, slots := 4, locals := 12 } : Room) (s.setVm s.vm) m #[(.ref a1), (.ref a2), (.int (0 : Int32)), (.int (0 : Int32)), .null] below meth c s₁ [] 0 0 := Stand.of_body Bd
  have e0 : s₁.heap = h0 := by rw [← hh, Bd.state]; rfl
  have N0 := Fr.nil n0
  have pre0 : ∀ t, Steps p.tables e below (s₁.setTop (mkF m 0 #[.val (.ref a1), .val (.ref a2), .val (.int (0 : Int32)), .val (.int (0 : Int32)), .val .null, .unset] [])) t → Steps p.tables e below (s₁.setTop (entryFrame m #[(.ref a1), (.ref a2), (.int (0 : Int32)), (.int (0 : Int32)), .null] 6)) t := fun t k => castTop (ef_sti0A m a1 a2) k
  generalize s₁.setTop (entryFrame m #[(.ref a1), (.ref a2), (.int (0 : Int32)), (.int (0 : Int32)), .null] 6) = E0 at pre0 ⊢
  have pre_1 : ∀ t, Sp p e below s₁ (mkF m 1 #[.val (.ref a1), .val (.ref a2), .val (.int (0 : Int32)), .val (.int (0 : Int32)), .val .null, .unset] [(.ref a1)]) t → Steps p.tables e below E0 t := by
    intro t k
    refine pre0 t ?_
    show Sp p e below s₁ (mkF m 0 #[.val (.ref a1), .val (.ref a2), .val (.int (0 : Int32)), .val (.int (0 : Int32)), .val .null, .unset] []) _
    refine XS.aloadN X0.here hx rfl (hb hby d_jdk_42_149_0) rfl rfl ?_
    exact k
  obtain ⟨T2, X2, e2, st2⟩ := initO X0 hx hZ hown (own_w hw 18 rfl) (own_w hw 19 rfl) (own_w hw 20 rfl) e0 (g := (mkF m 1 #[.val (.ref a1), .val (.ref a2), .val (.int (0 : Int32)), .val (.int (0 : Int32)), .val .null, .unset] [(.ref a1)])) rfl (by rw [hml]; rfl) rfl (hb hby d_jdk_42_149_1) (by decide) (W := 0) (by show 2 * 0 + _ ≤ _; exact Nat.le_of_eq rfl) (by decide)
  have pre_3 : ∀ t, Sp p e below T2 (mkF m 4 #[.val (.ref a1), .val (.ref a2), .val (.int (0 : Int32)), .val (.int (0 : Int32)), .val .null, .unset] []) t → Steps p.tables e below E0 t := fun t k => pre_1 t (st2 t k)
  have pre_4 : ∀ t, Sp p e below T2 (mkF m 9 #[.val (.ref a1), .val (.ref a2), .val (.int (0 : Int32)), .val (.int (0 : Int32)), .val .null, .unset] [(.ref a1)]) t → Steps p.tables e below E0 t := by
    intro t k
    refine pre_3 t ?_
    show Sp p e below T2 (mkF m 4 #[.val (.ref a1), .val (.ref a2), .val (.int (0 : Int32)), .val (.int (0 : Int32)), .val .null, .unset] []) _
    refine XS.iloadN X2.here hx rfl (hb hby d_jdk_42_149_4) rfl ?_
    refine XS.ifNo X2.here hx rfl (hb hby d_jdk_42_149_5) rfl (XT.i0_ne_f (by decide)) ?_
    refine XS.aloadN X2.here hx rfl (hb hby d_jdk_42_149_8) rfl rfl ?_
    show Sp p e below T2 (mkF m 9 #[.val (.ref a1), .val (.ref a2), .val (.int (0 : Int32)), .val (.int (0 : Int32)), .val .null, .unset] [(.ref a1)]) _
    exact k
  obtain ⟨aE5, T5, h5, kq5, bE5, kE5, X5, e5, E5, hS5, hk5, hZ5, ho5, xE5, cE5, vE5, AE5, -, -, hI5, hL5, st5⟩ := ldcSVL (vm0 := s.vm) X2 hx hZ hown (own_w hw 21 rfl) (own_sa hw) e2 ((State.WarmedH.refl s).since 0) (Nat.le_trans (Nat.zero_le _) (Nat.le_refl _)) (Fr.nil _) (fun b cl q => by rw [hh]; exact O0.2.2 b cl q) hPV (by simp) hHC hCW (vs := []) (z := (0 : Int32)) ⟨by simp, rfl⟩ (by decide) rfl (g := (mkF m 9 #[.val (.ref a1), .val (.ref a2), .val (.int (0 : Int32)), .val (.int (0 : Int32)), .val .null, .unset] [(.ref a1)])) rfl (hb hby d_jdk_42_149_9) (n := 0) (by decide) (by decide) (by decide) (by decide)
  have O5 : Old Z n0 h5 := O0.ext E5
  have pre_6 : ∀ t, Sp p e below T5 (mkF m 11 #[.val (.ref a1), .val (.ref a2), .val (.int (0 : Int32)), .val (.int (0 : Int32)), .val .null, .unset] [(.ref aE5), (.ref a1)]) t → Steps p.tables e below E0 t := fun t k => pre_4 t (st5 t k)
  have neE : a1 ≠ aE5 := (F1.ext E5).ne vE5 (by simp)
  have neB : bE5 ≠ a1 := Ne.symm (Exa.neArv (E1.ext E5) AE5 (own_w hw 8 rfl))
  obtain ⟨T7, X7, e7, st7⟩ := getF X5 hx hZ5 ho5 (host := "") (Or.inl (own_w hw 27 rfl)) Via.refl e5 vE5 (g := (mkF m 11 #[.val (.ref a1), .val (.ref a2), .val (.int (0 : Int32)), .val (.int (0 : Int32)), .val .null, .unset] [(.ref aE5), (.ref a1)])) rfl rfl (hb hby d_jdk_42_149_11)
  have pre_8 : ∀ t, Sp p e below T7 (mkF m 14 #[.val (.ref a1), .val (.ref a2), .val (.int (0 : Int32)), .val (.int (0 : Int32)), .val .null, .unset] [(.ref bE5), (.ref a1)]) t → Steps p.tables e below E0 t := fun t k => pre_6 t (st7 t k)
  obtain ⟨T9, h9, X9, e9, W9, st9⟩ := putF X7 hx hZ5 ho5 (host := "") (Or.inl (own_w hw 27 rfl)) Via.refl e7 (F1.ext E5) (E1.ext E5) (Or.inr ⟨(own_w hw 23 rfl), rfl, hnm⟩) (own_w hw 8 rfl) (ty := (.array .byte)) (by decide) rfl rfl (g := (mkF m 14 #[.val (.ref a1), .val (.ref a2), .val (.int (0 : Int32)), .val (.int (0 : Int32)), .val .null, .unset] [(.ref bE5), (.ref a1)])) rfl rfl (hb hby d_jdk_42_149_14)
  have Fw9 := (F1.ext E5).same W9
  have N9 := Fr.snoc X9 N0 g1
  have O9 : Old Z n0 h9 := O5.wr W9 g1
  have pre_10 : ∀ t, Sp p e below T9 (mkF m 17 #[.val (.ref a1), .val (.ref a2), .val (.int (0 : Int32)), .val (.int (0 : Int32)), .val .null, .unset] []) t → Steps p.tables e below E0 t := fun t k => pre_8 t (st9 t k)
  have pre_11 : ∀ t, Sp p e below T9 (mkF m 20 #[.val (.ref a1), .val (.ref a2), .val (.int (0 : Int32)), .val (.int (0 : Int32)), .val .null, .unset] [(.ref aE5), (.ref a1)]) t → Steps p.tables e below E0 t := by
    intro t k
    refine pre_10 t ?_
    show Sp p e below T9 (mkF m 17 #[.val (.ref a1), .val (.ref a2), .val (.int (0 : Int32)), .val (.int (0 : Int32)), .val .null, .unset] []) _
    refine XS.aloadN X9.here hx rfl (hb hby d_jdk_42_149_17) rfl rfl ?_
    refine ldcAgain (vm0 := T5.vm) X9 hx hZ5 ho5 (own_w hw 21 rfl) hL5 (g := (mkF m 18 #[.val (.ref a1), .val (.ref a2), .val (.int (0 : Int32)), .val (.int (0 : Int32)), .val .null, .unset] [(.ref a1)])) rfl (hb hby d_jdk_42_149_18) _ ?_
    exact k
  obtain ⟨T12, X12, e12, st12⟩ := getF X9 hx hZ5 ho5 (host := "") (Or.inl (own_w hw 28 rfl)) Via.refl e9 (cE5.other W9 (Or.inl (Ne.symm neE))) (g := (mkF m 20 #[.val (.ref a1), .val (.ref a2), .val (.int (0 : Int32)), .val (.int (0 : Int32)), .val .null, .unset] [(.ref aE5), (.ref a1)])) rfl rfl (hb hby d_jdk_42_149_20)
  have pre_13 : ∀ t, Sp p e below T12 (mkF m 23 #[.val (.ref a1), .val (.ref a2), .val (.int (0 : Int32)), .val (.int (0 : Int32)), .val .null, .unset] [(.int (0 : Int32)), (.ref a1)]) t → Steps p.tables e below E0 t := fun t k => pre_11 t (st12 t k)
  obtain ⟨T14, h14, X14, e14, W14, st14⟩ := putF X12 hx hZ5 ho5 (host := "") (Or.inl (own_w hw 28 rfl)) Via.refl e12 ((F2.ext E5).other W9 (Or.inr (slot_ne (Or.inr (own_w hw 24 rfl)) (Or.inr (own_w hw 23 rfl)) (by decide) (t := .byte) (t' := (.array .byte)) (by decide) (by decide)))) ((E1.ext E5).wr W9) (Or.inr ⟨(own_w hw 24 rfl), rfl, hnm⟩) (own_w hw 8 rfl) (ty := .byte) (by decide) rfl rfl (g := (mkF m 23 #[.val (.ref a1), .val (.ref a2), .val (.int (0 : Int32)), .val (.int (0 : Int32)), .val .null, .unset] [(.int (0 : Int32)), (.ref a1)])) rfl rfl (hb hby d_jdk_42_149_23)
  have Fw14 := ((F2.ext E5).other W9 (Or.inr (slot_ne (Or.inr (own_w hw 24 rfl)) (Or.inr (own_w hw 23 rfl)) (by decide) (t := .byte) (t' := (.array .byte)) (by decide) (by decide)))).same W14
  have N14 := Fr.snoc X14 N9 g1
  have O14 : Old Z n0 h14 := O9.wr W14 g1
  have pre_15 : ∀ t, Sp p e below T14 (mkF m 26 #[.val (.ref a1), .val (.ref a2), .val (.int (0 : Int32)), .val (.int (0 : Int32)), .val .null, .unset] []) t → Steps p.tables e below E0 t := fun t k => pre_13 t (st14 t k)
  obtain ⟨fs, hr, hrun, hended, hEnd⟩ := X14.leaveW hS5 (by rw [e14]; exact (Nat.le_trans hk5 (Nat.le_trans (Nat.le_trans (Nat.le_refl _) (Nat.le_of_eq W9.size.symm)) (Nat.le_of_eq W14.size.symm)))) (v := none) (fun _ => rfl)
  refine ⟨_, _, pre_15 _ ?_, hrun, hended, _, _, rfl, ?_, hEnd.1, hEnd.2.1, hEnd.2.2.1, hEnd.2.2.2.mono (by decide) (by decide)⟩
  · show Sp p e below T14 (mkF m 26 #[.val (.ref a1), .val (.ref a2), .val (.int (0 : Int32)), .val (.int (0 : Int32)), .val .null, .unset] []) _
    exact X14.returnOut hx Bd.returns (hb hby d_jdk_42_149_26) hr
  · show Q_sti0A Z _ _ _ h0 n0 _ T14.vm T14.heap _
    rw [e14]
    exact ⟨rfl, N14, ((((Keep.refl h0 [a1]).ext E5).wr W9 (Or.inl (List.mem_of_getElem? (i := 0) rfl))).wr W14 (Or.inl (List.mem_of_getElem? (i := 0) rfl))), Fw14, aE5, bE5, kE5, (Fw9.other W14 (Or.inr (slot_ne (Or.inr (own_w hw 23 rfl)) (Or.inr (own_w hw 24 rfl)) (by decide) (t := (.array .byte)) (t' := .byte) (by decide) (by decide)))), ((AE5.other W9 neB).other W14 neB), ((xE5.wr W9).wr W14), ((vE5.other W9 (Or.inl (Ne.symm neE))).other W14 (Or.inl (Ne.symm neE))), ((cE5.other W9 (Or.inl (Ne.symm neE))).other W14 (Or.inl (Ne.symm neE))), (Lit.stays hL5 X14.warmed.wide)⟩
theorem pn_str0A : plainName "java/lang/String" = true := by first | (simp [plainName, overriddenIn]; done) | decide +kernel
theorem pd_str0A_0 : parseMethodDescriptor "([CIILjava/lang/Void;)V" = some ⟨[(.array .char), .int, .int, (.object "java/lang/Void")], none⟩ := by decide +kernel
theorem ef_str0A (m : MethodId) (a1 : Addr) (a2 : Addr) : entryFrame m #[(.ref a1), (.ref a2)] 2 = (mkF m 0 #[.val (.ref a1), .val (.ref a2)] []) := by first | (simp [entryFrame, mkF, argsToLocals, Value.category]; done) | rfl
def Q_str0A (Z : State) (a1 : Addr) (a2 : Addr) (u2 : Value) (kC : ClassId) (h0 : Heap) (n0 : Nat) (v : Option Value) (vm : Vm) (h : Heap) (L : List Loc) : Prop := v = none ∧ Fr n0 L ∧ Keep h0 h [a1] ∧ Fld Z h a1 "java/lang/String" "coder" "B" (.int (0 : Int32)) ∧ ∃ aE bE kE, Fld Z h a1 "java/lang/String" "value" "[B" (.ref bE) ∧ Arv Z h bE kE .byte (0 : Int32) [] (.int (0 : Int32)) ∧ Exa Z h aE "java/lang/String" ∧ Fld Z h aE "java/lang/String" "value" "[B" (.ref bE) ∧ Fld Z h aE "java/lang/String" "coder" "B" (.int (0 : Int32)) ∧ Lit (Z.setVm vm) "java/lang/String" 7 aE
set_option maxRecDepth 65536 in
set_option maxHeartbeats 40000000 in
theorem rm_str0A (l : Launch) (Z : State) (a0 : Array Value) (hw : ∀ d ∈ tables_1, d.before a0 Z = true) (ws : List Jvm.Cond) (a1 : Addr) (a2 : Addr) (u2 : Value) (kC : ClassId) (h0 : Heap) (n0 : Nat) (O0 : Old Z n0 h0) (E1 : Exa Z h0 a1 "java/lang/String") (F1 : Fld Z h0 a1 "java/lang/String" "value" "[B" .null) (F2 : Fld Z h0 a1 "java/lang/String" "coder" "B" u2) (g1 : n0 ≤ a1) (hHC : Jvm.Lit.constHeld Z "java/lang/String" 7) (hCW : Jvm.Lit.compactW.before a0 Z = true) (VC : Arv Z h0 a2 kC .char (0 : Int32) [] (.int (0 : Int32))) :
    MetFree l (⟨"java/lang/String", "<init>", "([C)V"⟩ : MethodName) (head1 (Jvm.Cond.code (⟨"java/lang/String", "<init>", "([C)V"⟩ : MethodName) jdk_42_method_3_code 2 none :: ws) ({ frames := 2, cells := 2, slots := 4, locals := 29 } : Room)) (fun a U => a = #[(.ref a1), (.ref a2)] ∧ Z.Warmed39 U.vm ∧ U.heap = h0 ∧ IB Z U.vm []) (fun _ _ _ _ _ => True) (fun _ U o U' => ∃ v L, o = .returned v ∧ Q_str0A Z a1 a2 u2 kC h0 n0 v U'.vm U'.heap L ∧ ReturnedEndW U o U' L ({ frames := 2, cells := 2, slots := 4, locals := 29 } : Room).cells ({ frames := 2, cells := 2, slots := 4, locals := 29 } : Room).slots) := by
  refine MetFree.of_bodySF (plainFor_of_name pn_str0A) hisR ?_
  intro p e s m args below meth c s₁ Bd hml0 hP hK
  obtain ⟨rfl, hZ, hh, hPV⟩ := hP
  have hx := Bd.exec
  have hby := Bd.bytes
  have hml : c.maxLocals = 2 := hml0
  have hown : s.vm.findClass "java/lang/String" = some m.cls := findClass_of_methodNamed Bd.named
  have hnm := (name_of_methodNamed Bd.named Bd.method).1
  have X0 : Stand p l e ({ frames := 2, cells := 2, slots := 4, locals := 29 } : Room) (s.setVm s.vm) m #[(.ref a1), (.ref a2)] below meth c s₁ [] 0 0 := Stand.of_body Bd
  have e0 : s₁.heap = h0 := by rw [← hh, Bd.state]; rfl
  have N0 := Fr.nil n0
  have pre0 : ∀ t, Steps p.tables e below (s₁.setTop (mkF m 0 #[.val (.ref a1), .val (.ref a2)] [])) t → Steps p.tables e below (s₁.setTop (entryFrame m #[(.ref a1), (.ref a2)] 2)) t := fun t k => castTop (ef_str0A m a1 a2) k
  generalize s₁.setTop (entryFrame m #[(.ref a1), (.ref a2)] 2) = E0 at pre0 ⊢
  have pre_2 : ∀ t, Sp p e below s₁ (mkF m 6 #[.val (.ref a1), .val (.ref a2)] [.null, (.int (0 : Int32)), (.int (0 : Int32)), (.ref a2), (.ref a1)]) t → Steps p.tables e below E0 t := by
    intro t k
    refine pre0 t ?_
    show Sp p e below s₁ (mkF m 0 #[.val (.ref a1), .val (.ref a2)] []) _
    refine XS.aloadN X0.here hx rfl (hb hby d_jdk_42_3_0) rfl rfl ?_
    refine XS.aloadN X0.here hx rfl (hb hby d_jdk_42_3_1) rfl rfl ?_
    refine XS.iconst X0.here hx rfl (hb hby d_jdk_42_3_2) ?_
    refine XS.aloadN X0.here hx rfl (hb hby d_jdk_42_3_3) rfl rfl ?_
    show Sp p e below s₁ (mkF m 4 #[.val (.ref a1), .val (.ref a2)] [(.ref a2), (.int (0 : Int32)), (.ref a2), (.ref a1)]) _
    obtain ⟨cl1, Ar1, -, S1, M1, -, -⟩ := id VC
    refine X0.arraylength hx (cell := cl1) (by rw [e0]; exact Ar1.1) (State.isArrayOf_alike hZ.alike Ar1.2.1) (g := (mkF m 4 #[.val (.ref a1), .val (.ref a2)] [(.ref a2), (.int (0 : Int32)), (.ref a2), (.ref a1)])) rfl (rest := [(.int (0 : Int32)), (.ref a2), (.ref a1)]) rfl (hb hby d_jdk_42_3_4) _ ?_
    rw [len_of S1 M1]
    show Sp p e below s₁ (mkF m 5 #[.val (.ref a1), .val (.ref a2)] [(.int (0 : Int32)), (.int (0 : Int32)), (.ref a2), (.ref a1)]) _
    refine XS.aconstNull X0.here hx rfl (hb hby d_jdk_42_3_5) ?_
    exact k
  obtain ⟨_, _, ⟨T3, L3, k3, n3⟩, -, Y3, hs3, hg3, ⟨Lc3, hQ3, l3, y3, z3⟩, st3⟩ := X0.specialBackS hx (y := (⟨"java/lang/String", "<init>", "([CIILjava/lang/Void;)V"⟩ : MethodName)) rfl hown (mvT hZ (own_w hw 14 rfl)) (mvT hZ (own_w hw 15 rfl)) (mvT hZ (own_w hw 17 rfl)) (by decide) (own_backS (W := 0) (rm_sti0A l Z a0 hw [] a1 a2 u2  h0 n0 O0 E1 F1 F2 g1 hHC hCW) hZ (own_w hw 17 rfl) (own_w hw 9 rfl) (by decide) (by decide) (fun _ q => own_IBw hPV q)) (g := (mkF m 6 #[.val (.ref a1), .val (.ref a2)] [.null, (.int (0 : Int32)), (.int (0 : Int32)), (.ref a2), (.ref a1)])) rfl (by rw [hml]; rfl) (Steps.refl _) (a := a1) (argsL := [(.ref a2), (.int (0 : Int32)), (.int (0 : Int32)), .null]) (rest := []) (lenOf pd_str0A_0 rfl) rfl (by show 2 * 0 + _ ≤ _; exact Nat.le_of_eq rfl) (hb hby d_jdk_42_3_6) (fun _ _ => ⟨rfl, e0, (by decide : 0 + 2 ≤ _), (by decide : 0 + 4 ≤ _)⟩)
  dsimp only [Pt.U, Pt.locs, Pt.cells, Pt.slots] at Y3 hs3 hg3 l3 y3 z3 st3 hQ3
  subst l3 y3 z3
  obtain ⟨X3, hS3, hZ3, ho3⟩ := rebS ((State.WarmedH.refl s).since 0) (by rw [e0]; exact (Nat.le_trans (Nat.zero_le _) (Nat.le_refl _))) Y3 hs3 hg3 hZ hown
  obtain ⟨rfl, N3q, K3, Fc3, aE3, bE3, kE3, Fv3, Ab3, xE3, vE3, cE3, hL3⟩ := hQ3
  have N3 := Fr.app N0 N3q
  have O3 : Old Z n0 T3.heap := O0.keep K3 (allS g1 all0)
  have pre_4 : ∀ t, Sp p e below T3 (mkF m 9 #[.val (.ref a1), .val (.ref a2)] []) t → Steps p.tables e below E0 t := fun t k => pre_2 t (st3.trans k)
  obtain ⟨fs, hr, hrun, hended, hEnd⟩ := X3.leaveW hS3 (Nat.le_trans (Nat.le_refl _) (Nat.le_refl _)) (v := none) (fun _ => rfl)
  refine ⟨_, _, pre_4 _ ?_, hrun, hended, _, _, rfl, ?_, hEnd.1, hEnd.2.1, hEnd.2.2.1, hEnd.2.2.2.mono (by decide) (by decide)⟩
  · show Sp p e below T3 (mkF m 9 #[.val (.ref a1), .val (.ref a2)] []) _
    exact X3.returnOut hx Bd.returns (hb hby d_jdk_42_3_9) hr
  · show Q_str0A Z _ _ _ _ h0 n0 _ T3.vm T3.heap _
    exact ⟨rfl, N3, ((Keep.refl h0 [a1]).trans K3 (allS (Or.inl (List.mem_of_getElem? (i := 0) rfl)) all0)), Fc3, aE3, bE3, kE3, Fv3, Ab3, xE3, vE3, cE3, (Lit.stays (hL3 : Lit (s.setVm T3.vm) "java/lang/String" 7 aE3) X3.warmed.wide)⟩
theorem pn_sti0B : plainName "java/lang/String" = true := by first | (simp [plainName, overriddenIn]; done) | decide +kernel
theorem ef_sti0B (m : MethodId) (a1 : Addr) (a2 : Addr) : entryFrame m #[(.ref a1), (.ref a2), (.int (0 : Int32)), (.int (0 : Int32)), .null] 6 = (mkF m 0 #[.val (.ref a1), .val (.ref a2), .val (.int (0 : Int32)), .val (.int (0 : Int32)), .val .null, .unset] []) := by first | (simp [entryFrame, mkF, argsToLocals, Value.category]; done) | rfl
def Q_sti0B (Z : State) (a1 : Addr) (a2 : Addr) (u2 : Value) (aE bE : Addr) (kE : ClassId) (h0 : Heap) (n0 : Nat) (v : Option Value) (vm : Vm) (h : Heap) (L : List Loc) : Prop := v = none ∧ Fr n0 L ∧ Keep h0 h [a1] ∧ Fld Z h a1 "java/lang/String" "coder" "B" (.int (0 : Int32)) ∧ ∃ aE bE kE, Fld Z h a1 "java/lang/String" "value" "[B" (.ref bE) ∧ Arv Z h bE kE .byte (0 : Int32) [] (.int (0 : Int32)) ∧ Exa Z h aE "java/lang/String" ∧ Fld Z h aE "java/lang/String" "value" "[B" (.ref bE) ∧ Fld Z h aE "java/lang/String" "coder" "B" (.int (0 : Int32)) ∧ Lit (Z.setVm vm) "java/lang/String" 7 aE
set_option maxRecDepth 65536 in
set_option maxHeartbeats 40000000 in
theorem rm_sti0B (l : Launch) (Z : State) (a0 : Array Value) (hw : ∀ d ∈ tables_1, d.before a0 Z = true) (ws : List Jvm.Cond) (a1 : Addr) (a2 : Addr) (u2 : Value) (aE bE : Addr) (kE : ClassId) (h0 : Heap) (n0 : Nat) (O0 : Old Z n0 h0) (E1 : Exa Z h0 a1 "java/lang/String") (F1 : Fld Z h0 a1 "java/lang/String" "value" "[B" .null) (F2 : Fld Z h0 a1 "java/lang/String" "coder" "B" u2) (g1 : n0 ≤ a1) (xE : Exa Z h0 aE "java/lang/String") (vE : Fld Z h0 aE "java/lang/String" "value" "[B" (.ref bE)) (cE : Fld Z h0 aE "java/lang/String" "coder" "B" (.int (0 : Int32))) (AE : Arv Z h0 bE kE .byte (0 : Int32) [] (.int (0 : Int32))) :
    MetFree l (⟨"java/lang/String", "<init>", "([CIILjava/lang/Void;)V"⟩ : MethodName) (head1 (Jvm.Cond.code (⟨"java/lang/String", "<init>", "([CIILjava/lang/Void;)V"⟩ : MethodName) jdk_42_method_149_code 6 none :: ws) ({ frames := 1, cells := 2, slots := 4, locals := 12 } : Room)) (fun a U => a = #[(.ref a1), (.ref a2), (.int (0 : Int32)), (.int (0 : Int32)), .null] ∧ Z.Warmed39 U.vm ∧ U.heap = h0 ∧ Lit (Z.setVm U.vm) "java/lang/String" 7 aE) (fun _ _ _ _ _ => True) (fun _ U o U' => ∃ v L, o = .returned v ∧ Q_sti0B Z a1 a2 u2 aE bE kE h0 n0 v U'.vm U'.heap L ∧ ReturnedEndW U o U' L ({ frames := 1, cells := 2, slots := 4, locals := 12 } : Room).cells ({ frames := 1, cells := 2, slots := 4, locals := 12 } : Room).slots) := by
  refine MetFree.of_bodySF (plainFor_of_name pn_sti0B) hisR ?_
  intro p e s m args below meth c s₁ Bd hml0 hP hK
  obtain ⟨rfl, hZ, hh, hPV⟩ := hP
  have hx := Bd.exec
  have hby := Bd.bytes
  have hml : c.maxLocals = 6 := hml0
  have hown : s.vm.findClass "java/lang/String" = some m.cls := findClass_of_methodNamed Bd.named
  have hnm := (name_of_methodNamed Bd.named Bd.method).1
  have X0 : Stand p l e ({ frames := 1, cells := 2, slots := 4, locals := 12 } : Room) (s.setVm s.vm) m #[(.ref a1), (.ref a2), (.int (0 : Int32)), (.int (0 : Int32)), .null] below meth c s₁ [] 0 0 := Stand.of_body Bd
  have e0 : s₁.heap = h0 := by rw [← hh, Bd.state]; rfl
  have N0 := Fr.nil n0
  have pre0 : ∀ t, Steps p.tables e below (s₁.setTop (mkF m 0 #[.val (.ref a1), .val (.ref a2), .val (.int (0 : Int32)), .val (.int (0 : Int32)), .val .null, .unset] [])) t → Steps p.tables e below (s₁.setTop (entryFrame m #[(.ref a1), (.ref a2), (.int (0 : Int32)), (.int (0 : Int32)), .null] 6)) t := fun t k => castTop (ef_sti0B m a1 a2) k
  generalize s₁.setTop (entryFrame m #[(.ref a1), (.ref a2), (.int (0 : Int32)), (.int (0 : Int32)), .null] 6) = E0 at pre0 ⊢
  have pre_1 : ∀ t, Sp p e below s₁ (mkF m 1 #[.val (.ref a1), .val (.ref a2), .val (.int (0 : Int32)), .val (.int (0 : Int32)), .val .null, .unset] [(.ref a1)]) t → Steps p.tables e below E0 t := by
    intro t k
    refine pre0 t ?_
    show Sp p e below s₁ (mkF m 0 #[.val (.ref a1), .val (.ref a2), .val (.int (0 : Int32)), .val (.int (0 : Int32)), .val .null, .unset] []) _
    refine XS.aloadN X0.here hx rfl (hb hby d_jdk_42_149_0) rfl rfl ?_
    exact k
  obtain ⟨T2, X2, e2, st2⟩ := initO X0 hx hZ hown (own_w hw 18 rfl) (own_w hw 19 rfl) (own_w hw 20 rfl) e0 (g := (mkF m 1 #[.val (.ref a1), .val (.ref a2), .val (.int (0 : Int32)), .val (.int (0 : Int32)), .val .null, .unset] [(.ref a1)])) rfl (by rw [hml]; rfl) rfl (hb hby d_jdk_42_149_1) (by decide) (W := 0) (by show 2 * 0 + _ ≤ _; exact Nat.le_of_eq rfl) (by decide)
  have pre_3 : ∀ t, Sp p e below T2 (mkF m 4 #[.val (.ref a1), .val (.ref a2), .val (.int (0 : Int32)), .val (.int (0 : Int32)), .val .null, .unset] []) t → Steps p.tables e below E0 t := fun t k => pre_1 t (st2 t k)
  have pre_4 : ∀ t, Sp p e below T2 (mkF m 11 #[.val (.ref a1), .val (.ref a2), .val (.int (0 : Int32)), .val (.int (0 : Int32)), .val .null, .unset] [(.ref aE), (.ref a1)]) t → Steps p.tables e below E0 t := by
    intro t k
    refine pre_3 t ?_
    show Sp p e below T2 (mkF m 4 #[.val (.ref a1), .val (.ref a2), .val (.int (0 : Int32)), .val (.int (0 : Int32)), .val .null, .unset] []) _
    refine XS.iloadN X2.here hx rfl (hb hby d_jdk_42_149_4) rfl ?_
    refine XS.ifNo X2.here hx rfl (hb hby d_jdk_42_149_5) rfl (XT.i0_ne_f (by decide)) ?_
    refine XS.aloadN X2.here hx rfl (hb hby d_jdk_42_149_8) rfl rfl ?_
    show Sp p e below T2 (mkF m 9 #[.val (.ref a1), .val (.ref a2), .val (.int (0 : Int32)), .val (.int (0 : Int32)), .val .null, .unset] [(.ref a1)]) _
    refine ldcAgain (vm0 := s.vm) X2 hx hZ hown (own_w hw 21 rfl) (hPV : Lit (s.setVm s.vm) "java/lang/String" 7 aE) (g := (mkF m 9 #[.val (.ref a1), .val (.ref a2), .val (.int (0 : Int32)), .val (.int (0 : Int32)), .val .null, .unset] [(.ref a1)])) rfl (hb hby d_jdk_42_149_9) _ ?_
    exact k
  have neE : a1 ≠ aE := F1.ne vE (by simp)
  have neB : bE ≠ a1 := Ne.symm (Exa.neArv E1 AE (own_w hw 8 rfl))
  obtain ⟨T5, X5, e5, st5⟩ := getF X2 hx hZ hown (host := "") (Or.inl (own_w hw 27 rfl)) Via.refl e2 vE (g := (mkF m 11 #[.val (.ref a1), .val (.ref a2), .val (.int (0 : Int32)), .val (.int (0 : Int32)), .val .null, .unset] [(.ref aE), (.ref a1)])) rfl rfl (hb hby d_jdk_42_149_11)
  have pre_6 : ∀ t, Sp p e below T5 (mkF m 14 #[.val (.ref a1), .val (.ref a2), .val (.int (0 : Int32)), .val (.int (0 : Int32)), .val .null, .unset] [(.ref bE), (.ref a1)]) t → Steps p.tables e below E0 t := fun t k => pre_4 t (st5 t k)
  obtain ⟨T7, h7, X7, e7, W7, st7⟩ := putF X5 hx hZ hown (host := "") (Or.inl (own_w hw 27 rfl)) Via.refl e5 F1 E1 (Or.inr ⟨(own_w hw 23 rfl), rfl, hnm⟩) (own_w hw 8 rfl) (ty := (.array .byte)) (by decide) rfl rfl (g := (mkF m 14 #[.val (.ref a1), .val (.ref a2), .val (.int (0 : Int32)), .val (.int (0 : Int32)), .val .null, .unset] [(.ref bE), (.ref a1)])) rfl rfl (hb hby d_jdk_42_149_14)
  have Fw7 := F1.same W7
  have N7 := Fr.snoc X7 N0 g1
  have O7 : Old Z n0 h7 := O0.wr W7 g1
  have pre_8 : ∀ t, Sp p e below T7 (mkF m 17 #[.val (.ref a1), .val (.ref a2), .val (.int (0 : Int32)), .val (.int (0 : Int32)), .val .null, .unset] []) t → Steps p.tables e below E0 t := fun t k => pre_6 t (st7 t k)
  have pre_9 : ∀ t, Sp p e below T7 (mkF m 20 #[.val (.ref a1), .val (.ref a2), .val (.int (0 : Int32)), .val (.int (0 : Int32)), .val .null, .unset] [(.ref aE), (.ref a1)]) t → Steps p.tables e below E0 t := by
    intro t k
    refine pre_8 t ?_
    show Sp p e below T7 (mkF m 17 #[.val (.ref a1), .val (.ref a2), .val (.int (0 : Int32)), .val (.int (0 : Int32)), .val .null, .unset] []) _
    refine XS.aloadN X7.here hx rfl (hb hby d_jdk_42_149_17) rfl rfl ?_
    refine ldcAgain (vm0 := s.vm) X7 hx hZ hown (own_w hw 21 rfl) (hPV : Lit (s.setVm s.vm) "java/lang/String" 7 aE) (g := (mkF m 18 #[.val (.ref a1), .val (.ref a2), .val (.int (0 : Int32)), .val (.int (0 : Int32)), .val .null, .unset] [(.ref a1)])) rfl (hb hby d_jdk_42_149_18) _ ?_
    exact k
  obtain ⟨T10, X10, e10, st10⟩ := getF X7 hx hZ hown (host := "") (Or.inl (own_w hw 28 rfl)) Via.refl e7 (cE.other W7 (Or.inl (Ne.symm neE))) (g := (mkF m 20 #[.val (.ref a1), .val (.ref a2), .val (.int (0 : Int32)), .val (.int (0 : Int32)), .val .null, .unset] [(.ref aE), (.ref a1)])) rfl rfl (hb hby d_jdk_42_149_20)
  have pre_11 : ∀ t, Sp p e below T10 (mkF m 23 #[.val (.ref a1), .val (.ref a2), .val (.int (0 : Int32)), .val (.int (0 : Int32)), .val .null, .unset] [(.int (0 : Int32)), (.ref a1)]) t → Steps p.tables e below E0 t := fun t k => pre_9 t (st10 t k)
  obtain ⟨T12, h12, X12, e12, W12, st12⟩ := putF X10 hx hZ hown (host := "") (Or.inl (own_w hw 28 rfl)) Via.refl e10 (F2.other W7 (Or.inr (slot_ne (Or.inr (own_w hw 24 rfl)) (Or.inr (own_w hw 23 rfl)) (by decide) (t := .byte) (t' := (.array .byte)) (by decide) (by decide)))) (E1.wr W7) (Or.inr ⟨(own_w hw 24 rfl), rfl, hnm⟩) (own_w hw 8 rfl) (ty := .byte) (by decide) rfl rfl (g := (mkF m 23 #[.val (.ref a1), .val (.ref a2), .val (.int (0 : Int32)), .val (.int (0 : Int32)), .val .null, .unset] [(.int (0 : Int32)), (.ref a1)])) rfl rfl (hb hby d_jdk_42_149_23)
  have Fw12 := (F2.other W7 (Or.inr (slot_ne (Or.inr (own_w hw 24 rfl)) (Or.inr (own_w hw 23 rfl)) (by decide) (t := .byte) (t' := (.array .byte)) (by decide) (by decide)))).same W12
  have N12 := Fr.snoc X12 N7 g1
  have O12 : Old Z n0 h12 := O7.wr W12 g1
  have pre_13 : ∀ t, Sp p e below T12 (mkF m 26 #[.val (.ref a1), .val (.ref a2), .val (.int (0 : Int32)), .val (.int (0 : Int32)), .val .null, .unset] []) t → Steps p.tables e below E0 t := fun t k => pre_11 t (st12 t k)
  obtain ⟨fs, hr, hrun, hended, hEnd⟩ := X12.leaveW ((State.WarmedH.refl s).since 0) (by rw [e12]; exact (Nat.le_trans (Nat.zero_le _) (Nat.le_trans (Nat.le_trans (Nat.le_refl _) (Nat.le_of_eq W7.size.symm)) (Nat.le_of_eq W12.size.symm)))) (v := none) (fun _ => rfl)
  refine ⟨_, _, pre_13 _ ?_, hrun, hended, _, _, rfl, ?_, hEnd.1, hEnd.2.1, hEnd.2.2.1, hEnd.2.2.2.mono (by decide) (by decide)⟩
  · show Sp p e below T12 (mkF m 26 #[.val (.ref a1), .val (.ref a2), .val (.int (0 : Int32)), .val (.int (0 : Int32)), .val .null, .unset] []) _
    exact X12.returnOut hx Bd.returns (hb hby d_jdk_42_149_26) hr
  · show Q_sti0B Z _ _ _ _ _ _ h0 n0 _ T12.vm T12.heap _
    rw [e12]
    exact ⟨rfl, N12, (((Keep.refl h0 [a1]).wr W7 (Or.inl (List.mem_of_getElem? (i := 0) rfl))).wr W12 (Or.inl (List.mem_of_getElem? (i := 0) rfl))), Fw12, aE, bE, kE, (Fw7.other W12 (Or.inr (slot_ne (Or.inr (own_w hw 23 rfl)) (Or.inr (own_w hw 24 rfl)) (by decide) (t := (.array .byte)) (t' := .byte) (by decide) (by decide)))), ((AE.other W7 neB).other W12 neB), ((xE.wr W7).wr W12), ((vE.other W7 (Or.inl (Ne.symm neE))).other W12 (Or.inl (Ne.symm neE))), ((cE.other W7 (Or.inl (Ne.symm neE))).other W12 (Or.inl (Ne.symm neE))), (Lit.stays (hPV : Lit (s.setVm s.vm) "java/lang/String" 7 aE) X12.warmed.wide)⟩
theorem pn_str0B : plainName "java/lang/String" = true := by first | (simp [plainName, overriddenIn]; done) | decide +kernel
theorem pd_str0B_0 : parseMethodDescriptor "([CIILjava/lang/Void;)V" = some ⟨[(.array .char), .int, .int, (.object "java/lang/Void")], none⟩ := by decide +kernel
theorem ef_str0B (m : MethodId) (a1 : Addr) (a2 : Addr) : entryFrame m #[(.ref a1), (.ref a2)] 2 = (mkF m 0 #[.val (.ref a1), .val (.ref a2)] []) := by first | (simp [entryFrame, mkF, argsToLocals, Value.category]; done) | rfl
def Q_str0B (Z : State) (a1 : Addr) (a2 : Addr) (u2 : Value) (aE bE : Addr) (kE : ClassId) (kC : ClassId) (h0 : Heap) (n0 : Nat) (v : Option Value) (vm : Vm) (h : Heap) (L : List Loc) : Prop := v = none ∧ Fr n0 L ∧ Keep h0 h [a1] ∧ Fld Z h a1 "java/lang/String" "coder" "B" (.int (0 : Int32)) ∧ ∃ aE bE kE, Fld Z h a1 "java/lang/String" "value" "[B" (.ref bE) ∧ Arv Z h bE kE .byte (0 : Int32) [] (.int (0 : Int32)) ∧ Exa Z h aE "java/lang/String" ∧ Fld Z h aE "java/lang/String" "value" "[B" (.ref bE) ∧ Fld Z h aE "java/lang/String" "coder" "B" (.int (0 : Int32)) ∧ Lit (Z.setVm vm) "java/lang/String" 7 aE
set_option maxRecDepth 65536 in
set_option maxHeartbeats 40000000 in
theorem rm_str0B (l : Launch) (Z : State) (a0 : Array Value) (hw : ∀ d ∈ tables_1, d.before a0 Z = true) (ws : List Jvm.Cond) (a1 : Addr) (a2 : Addr) (u2 : Value) (aE bE : Addr) (kE : ClassId) (kC : ClassId) (h0 : Heap) (n0 : Nat) (O0 : Old Z n0 h0) (E1 : Exa Z h0 a1 "java/lang/String") (F1 : Fld Z h0 a1 "java/lang/String" "value" "[B" .null) (F2 : Fld Z h0 a1 "java/lang/String" "coder" "B" u2) (g1 : n0 ≤ a1) (xE : Exa Z h0 aE "java/lang/String") (vE : Fld Z h0 aE "java/lang/String" "value" "[B" (.ref bE)) (cE : Fld Z h0 aE "java/lang/String" "coder" "B" (.int (0 : Int32))) (AE : Arv Z h0 bE kE .byte (0 : Int32) [] (.int (0 : Int32))) (VC : Arv Z h0 a2 kC .char (0 : Int32) [] (.int (0 : Int32))) :
    MetFree l (⟨"java/lang/String", "<init>", "([C)V"⟩ : MethodName) (head1 (Jvm.Cond.code (⟨"java/lang/String", "<init>", "([C)V"⟩ : MethodName) jdk_42_method_3_code 2 none :: ws) ({ frames := 2, cells := 2, slots := 4, locals := 29 } : Room)) (fun a U => a = #[(.ref a1), (.ref a2)] ∧ Z.Warmed39 U.vm ∧ U.heap = h0 ∧ Lit (Z.setVm U.vm) "java/lang/String" 7 aE) (fun _ _ _ _ _ => True) (fun _ U o U' => ∃ v L, o = .returned v ∧ Q_str0B Z a1 a2 u2 aE bE kE kC h0 n0 v U'.vm U'.heap L ∧ ReturnedEndW U o U' L ({ frames := 2, cells := 2, slots := 4, locals := 29 } : Room).cells ({ frames := 2, cells := 2, slots := 4, locals := 29 } : Room).slots) := by
  refine MetFree.of_bodySF (plainFor_of_name pn_str0B) hisR ?_
  intro p e s m args below meth c s₁ Bd hml0 hP hK
  obtain ⟨rfl, hZ, hh, hPV⟩ := hP
  have hx := Bd.exec
  have hby := Bd.bytes
  have hml : c.maxLocals = 2 := hml0
  have hown : s.vm.findClass "java/lang/String" = some m.cls := findClass_of_methodNamed Bd.named
  have hnm := (name_of_methodNamed Bd.named Bd.method).1
  have X0 : Stand p l e ({ frames := 2, cells := 2, slots := 4, locals := 29 } : Room) (s.setVm s.vm) m #[(.ref a1), (.ref a2)] below meth c s₁ [] 0 0 := Stand.of_body Bd
  have e0 : s₁.heap = h0 := by rw [← hh, Bd.state]; rfl
  have N0 := Fr.nil n0
  have pre0 : ∀ t, Steps p.tables e below (s₁.setTop (mkF m 0 #[.val (.ref a1), .val (.ref a2)] [])) t → Steps p.tables e below (s₁.setTop (entryFrame m #[(.ref a1), (.ref a2)] 2)) t := fun t k => castTop (ef_str0B m a1 a2) k
  generalize s₁.setTop (entryFrame m #[(.ref a1), (.ref a2)] 2) = E0 at pre0 ⊢
  have pre_2 : ∀ t, Sp p e below s₁ (mkF m 6 #[.val (.ref a1), .val (.ref a2)] [.null, (.int (0 : Int32)), (.int (0 : Int32)), (.ref a2), (.ref a1)]) t → Steps p.tables e below E0 t := by
    intro t k
    refine pre0 t ?_
    show Sp p e below s₁ (mkF m 0 #[.val (.ref a1), .val (.ref a2)] []) _
    refine XS.aloadN X0.here hx rfl (hb hby d_jdk_42_3_0) rfl rfl ?_
    refine XS.aloadN X0.here hx rfl (hb hby d_jdk_42_3_1) rfl rfl ?_
    refine XS.iconst X0.here hx rfl (hb hby d_jdk_42_3_2) ?_
    refine XS.aloadN X0.here hx rfl (hb hby d_jdk_42_3_3) rfl rfl ?_
    show Sp p e below s₁ (mkF m 4 #[.val (.ref a1), .val (.ref a2)] [(.ref a2), (.int (0 : Int32)), (.ref a2), (.ref a1)]) _
    obtain ⟨cl1, Ar1, -, S1, M1, -, -⟩ := id VC
    refine X0.arraylength hx (cell := cl1) (by rw [e0]; exact Ar1.1) (State.isArrayOf_alike hZ.alike Ar1.2.1) (g := (mkF m 4 #[.val (.ref a1), .val (.ref a2)] [(.ref a2), (.int (0 : Int32)), (.ref a2), (.ref a1)])) rfl (rest := [(.int (0 : Int32)), (.ref a2), (.ref a1)]) rfl (hb hby d_jdk_42_3_4) _ ?_
    rw [len_of S1 M1]
    show Sp p e below s₁ (mkF m 5 #[.val (.ref a1), .val (.ref a2)] [(.int (0 : Int32)), (.int (0 : Int32)), (.ref a2), (.ref a1)]) _
    refine XS.aconstNull X0.here hx rfl (hb hby d_jdk_42_3_5) ?_
    exact k
  obtain ⟨_, _, ⟨T3, L3, k3, n3⟩, -, Y3, hs3, hg3, ⟨Lc3, hQ3, l3, y3, z3⟩, st3⟩ := X0.specialBackS hx (y := (⟨"java/lang/String", "<init>", "([CIILjava/lang/Void;)V"⟩ : MethodName)) rfl hown (mvT hZ (own_w hw 14 rfl)) (mvT hZ (own_w hw 15 rfl)) (mvT hZ (own_w hw 17 rfl)) (by decide) (own_backS (W := 0) (rm_sti0B l Z a0 hw [] a1 a2 u2 aE bE kE h0 n0 O0 E1 F1 F2 g1 xE vE cE AE) hZ (own_w hw 17 rfl) (own_w hw 9 rfl) (by decide) (by decide) (fun _ q => Lit.stays (hPV : Lit (s.setVm s.vm) "java/lang/String" 7 aE) q.wide)) (g := (mkF m 6 #[.val (.ref a1), .val (.ref a2)] [.null, (.int (0 : Int32)), (.int (0 : Int32)), (.ref a2), (.ref a1)])) rfl (by rw [hml]; rfl) (Steps.refl _) (a := a1) (argsL := [(.ref a2), (.int (0 : Int32)), (.int (0 : Int32)), .null]) (rest := []) (lenOf pd_str0B_0 rfl) rfl (by show 2 * 0 + _ ≤ _; exact Nat.le_of_eq rfl) (hb hby d_jdk_42_3_6) (fun _ _ => ⟨rfl, e0, (by decide : 0 + 2 ≤ _), (by decide : 0 + 4 ≤ _)⟩)
  dsimp only [Pt.U, Pt.locs, Pt.cells, Pt.slots] at Y3 hs3 hg3 l3 y3 z3 st3 hQ3
  subst l3 y3 z3
  obtain ⟨X3, hS3, hZ3, ho3⟩ := rebS ((State.WarmedH.refl s).since 0) (by rw [e0]; exact (Nat.le_trans (Nat.zero_le _) (Nat.le_refl _))) Y3 hs3 hg3 hZ hown
  obtain ⟨rfl, N3q, K3, Fc3, aE3, bE3, kE3, Fv3, Ab3, xE3, vE3, cE3, hL3⟩ := hQ3
  have N3 := Fr.app N0 N3q
  have O3 : Old Z n0 T3.heap := O0.keep K3 (allS g1 all0)
  have pre_4 : ∀ t, Sp p e below T3 (mkF m 9 #[.val (.ref a1), .val (.ref a2)] []) t → Steps p.tables e below E0 t := fun t k => pre_2 t (st3.trans k)
  obtain ⟨fs, hr, hrun, hended, hEnd⟩ := X3.leaveW hS3 (Nat.le_trans (Nat.le_refl _) (Nat.le_refl _)) (v := none) (fun _ => rfl)
  refine ⟨_, _, pre_4 _ ?_, hrun, hended, _, _, rfl, ?_, hEnd.1, hEnd.2.1, hEnd.2.2.1, hEnd.2.2.2.mono (by decide) (by decide)⟩
  · show Sp p e below T3 (mkF m 9 #[.val (.ref a1), .val (.ref a2)] []) _
    exact X3.returnOut hx Bd.returns (hb hby d_jdk_42_3_9) hr
  · show Q_str0B Z _ _ _ _ _ _ _ h0 n0 _ T3.vm T3.heap _
    exact ⟨rfl, N3, ((Keep.refl h0 [a1]).trans K3 (allS (Or.inl (List.mem_of_getElem? (i := 0) rfl)) all0)), Fc3, aE3, bE3, kE3, Fv3, Ab3, xE3, vE3, cE3, (Lit.stays (hL3 : Lit (s.setVm T3.vm) "java/lang/String" 7 aE3) X3.warmed.wide)⟩
theorem d_jdk_43_13_0 : decode jdk_43_method_13_code 0 = .ok (.aload_n 0, 1) := by decide +kernel
theorem d_jdk_43_13_1 : decode jdk_43_method_13_code 1 = .ok (.arraylength, 1) := by decide +kernel
theorem d_jdk_43_13_2 : decode jdk_43_method_13_code 2 = .ok (.aload_n 1, 1) := by decide +kernel
theorem d_jdk_43_13_3 : decode jdk_43_method_13_code 3 = .ok (.arraylength, 1) := by decide +kernel
theorem d_jdk_43_13_4 : decode jdk_43_method_13_code 4 = .ok (.if_icmp .ne 30, 3) := by decide +kernel
theorem d_jdk_43_13_7 : decode jdk_43_method_13_code 7 = .ok (.iconst 0, 1) := by decide +kernel
theorem d_jdk_43_13_8 : decode jdk_43_method_13_code 8 = .ok (.istore_n 2, 1) := by decide +kernel
theorem d_jdk_43_13_9 : decode jdk_43_method_13_code 9 = .ok (.iload_n 2, 1) := by decide +kernel
theorem d_jdk_43_13_10 : decode jdk_43_method_13_code 10 = .ok (.aload_n 0, 1) := by decide +kernel
theorem d_jdk_43_13_11 : decode jdk_43_method_13_code 11 = .ok (.arraylength, 1) := by decide +kernel
theorem d_jdk_43_13_12 : decode jdk_43_method_13_code 12 = .ok (.if_icmp .ge 20, 3) := by decide +kernel
theorem d_jdk_43_13_15 : decode jdk_43_method_13_code 15 = .ok (.aload_n 0, 1) := by decide +kernel
theorem d_jdk_43_13_16 : decode jdk_43_method_13_code 16 = .ok (.iload_n 2, 1) := by decide +kernel
theorem d_jdk_43_13_17 : decode jdk_43_method_13_code 17 = .ok (.baload, 1) := by decide +kernel
theorem d_jdk_43_13_18 : decode jdk_43_method_13_code 18 = .ok (.aload_n 1, 1) := by decide +kernel
theorem d_jdk_43_13_19 : decode jdk_43_method_13_code 19 = .ok (.iload_n 2, 1) := by decide +kernel
theorem d_jdk_43_13_20 : decode jdk_43_method_13_code 20 = .ok (.baload, 1) := by decide +kernel
theorem d_jdk_43_13_21 : decode jdk_43_method_13_code 21 = .ok (.if_icmp .eq 5, 3) := by decide +kernel
theorem d_jdk_43_13_24 : decode jdk_43_method_13_code 24 = .ok (.iconst 0, 1) := by decide +kernel
theorem d_jdk_43_13_25 : decode jdk_43_method_13_code 25 = .ok (.ireturn, 1) := by decide +kernel
theorem d_jdk_43_13_26 : decode jdk_43_method_13_code 26 = .ok (.iinc 2 1, 3) := by decide +kernel
theorem d_jdk_43_13_29 : decode jdk_43_method_13_code 29 = .ok (.goto (-20), 3) := by decide +kernel
theorem d_jdk_43_13_32 : decode jdk_43_method_13_code 32 = .ok (.iconst 1, 1) := by decide +kernel
theorem d_jdk_43_13_33 : decode jdk_43_method_13_code 33 = .ok (.ireturn, 1) := by decide +kernel
theorem d_jdk_43_13_34 : decode jdk_43_method_13_code 34 = .ok (.iconst 0, 1) := by decide +kernel
theorem d_jdk_43_13_35 : decode jdk_43_method_13_code 35 = .ok (.ireturn, 1) := by decide +kernel
theorem pn_lat : plainName "java/lang/StringLatin1" = true := by first | (simp [plainName, overriddenIn]; done) | decide +kernel
theorem ef_lat (m : MethodId) (a1 : Addr) (a2 : Addr) : entryFrame m #[(.ref a1), (.ref a2)] 3 = (mkF m 0 #[.val (.ref a1), .val (.ref a2), .unset] []) := by first | (simp [entryFrame, mkF, argsToLocals, Value.category]; done) | rfl
def Q_lat (Z : State) (a1 : Addr) (a2 : Addr) (k1 k2 : ClassId) (nn mm c0 c1 d0 d1 : Int32) (h0 : Heap) (n0 : Nat) (v : Option Value) (h : Heap) (L : List Loc) : Prop := v = some (.int (own_eqv nn mm c0 d0 c1 d1)) ∧ Fr n0 L ∧ h = h0
set_option maxRecDepth 65536 in
set_option maxHeartbeats 40000000 in
theorem rm_lat (l : Launch) (Z : State) (a0 : Array Value) (hw : ∀ d ∈ tables_1, d.before a0 Z = true) (ws : List Jvm.Cond) (a1 : Addr) (a2 : Addr) (k1 k2 : ClassId) (nn mm c0 c1 d0 d1 : Int32) (h0 : Heap) (n0 : Nat) (O0 : Old Z n0 h0) (A1 : own_Ar Z h0 a1 k1 nn c0 c1) (A2 : own_Ar Z h0 a2 k2 mm d0 d1) (hc0 : ¬ (255 : Int32) < c0 ∧ ¬ c0 < (0 : Int32)) (hc1 : ¬ (255 : Int32) < c1 ∧ ¬ c1 < (0 : Int32)) (hd0 : ¬ (255 : Int32) < d0 ∧ ¬ d0 < (0 : Int32)) (hd1 : ¬ (255 : Int32) < d1 ∧ ¬ d1 < (0 : Int32)) :
    MetFree l (⟨"java/lang/StringLatin1", "equals", "([B[B)Z"⟩ : MethodName) (head1 (Jvm.Cond.code (⟨"java/lang/StringLatin1", "equals", "([B[B)Z"⟩ : MethodName) jdk_43_method_13_code 3 (some .boolean) :: ws) ({ frames := 0, cells := 0, slots := 0, locals := 0 } : Room)) (fun a U => a = #[(.ref a1), (.ref a2)] ∧ Z.Warmed39 U.vm ∧ U.heap = h0) (fun _ _ _ _ _ => True) (fun _ U o U' => ∃ v L, o = .returned v ∧ Q_lat Z a1 a2 k1 k2 nn mm c0 c1 d0 d1 h0 n0 v U'.heap L ∧ FrameEnd U o U' L ({ frames := 0, cells := 0, slots := 0, locals := 0 } : Room).cells ({ frames := 0, cells := 0, slots := 0, locals := 0 } : Room).slots) := by
  refine MetFree.of_bodySF (plainFor_of_name pn_lat) hisR ?_
  intro p e s m args below meth c s₁ Bd hml0 hP hK
  obtain ⟨rfl, hZ, hh⟩ := hP
  have hx := Bd.exec
  have hby := Bd.bytes
  have hml : c.maxLocals = 3 := hml0
  have hown : s.vm.findClass "java/lang/StringLatin1" = some m.cls := findClass_of_methodNamed Bd.named
  have hnm := (name_of_methodNamed Bd.named Bd.method).1
  have X0 : Stand p l e ({ frames := 0, cells := 0, slots := 0, locals := 0 } : Room) s m #[(.ref a1), (.ref a2)] below meth c s₁ [] 0 0 := Stand.of_body Bd
  have e0 : s₁.heap = h0 := by rw [← hh, Bd.state]; rfl
  have N0 := Fr.nil n0
  have pre0 : ∀ t, Steps p.tables e below (s₁.setTop (mkF m 0 #[.val (.ref a1), .val (.ref a2), .unset] [])) t → Steps p.tables e below (s₁.setTop (entryFrame m #[(.ref a1), (.ref a2)] 3)) t := fun t k => castTop (ef_lat m a1 a2) k
  generalize s₁.setTop (entryFrame m #[(.ref a1), (.ref a2)] 3) = E0 at pre0 ⊢
  rcases A1 with ⟨rfl, V1⟩ | ⟨rfl, V1⟩ | ⟨rfl, V1⟩
  · rcases A2 with ⟨rfl, V2⟩ | ⟨rfl, V2⟩ | ⟨rfl, V2⟩
    · skip
      have pre_4 : ∀ t, Sp p e below s₁ (mkF m 33 #[.val (.ref a1), .val (.ref a2), .val (.int (0 : Int32))] [(.int (1 : Int32))]) t → Steps p.tables e below E0 t := by
        intro t k
        refine pre0 t ?_
        show Sp p e below s₁ (mkF m 0 #[.val (.ref a1), .val (.ref a2), .unset] []) _
        refine XS.aloadN X0.here hx rfl (hb hby d_jdk_43_13_0) rfl rfl ?_
        obtain ⟨cl1, Ar1, -, S1, M1, -, -⟩ := id V1
        refine X0.arraylength hx (cell := cl1) (by rw [e0]; exact Ar1.1) (State.isArrayOf_alike hZ.alike Ar1.2.1) (g := (mkF m 1 #[.val (.ref a1), .val (.ref a2), .unset] [(.ref a1)])) rfl (rest := []) rfl (hb hby d_jdk_43_13_1) _ ?_
        rw [len_of S1 M1]
        show Sp p e below s₁ (mkF m 2 #[.val (.ref a1), .val (.ref a2), .unset] [(.int (0 : Int32))]) _
        refine XS.aloadN X0.here hx rfl (hb hby d_jdk_43_13_2) rfl rfl ?_
        obtain ⟨cl2, Ar2, -, S2, M2, -, -⟩ := id V2
        refine X0.arraylength hx (cell := cl2) (by rw [e0]; exact Ar2.1) (State.isArrayOf_alike hZ.alike Ar2.2.1) (g := (mkF m 3 #[.val (.ref a1), .val (.ref a2), .unset] [(.ref a2), (.int (0 : Int32))])) rfl (rest := [(.int (0 : Int32))]) rfl (hb hby d_jdk_43_13_3) _ ?_
        rw [len_of S2 M2]
        show Sp p e below s₁ (mkF m 4 #[.val (.ref a1), .val (.ref a2), .unset] [(.int (0 : Int32)), (.int (0 : Int32))]) _
        refine XS.icmpNo X0.here hx rfl (hb hby d_jdk_43_13_4) rfl (XT.ii_ne_f (by decide)) ?_
        refine XS.iconst X0.here hx rfl (hb hby d_jdk_43_13_7) ?_
        show Sp p e below s₁ (mkF m 8 #[.val (.ref a1), .val (.ref a2), .unset] [(.int (0 : Int32))]) _
        refine XS.istoreN X0.here hx rfl (hb hby d_jdk_43_13_8) rfl (l' := #[.val (.ref a1), .val (.ref a2), .val (.int (0 : Int32))]) rfl ?_
        refine XS.iloadN X0.here hx rfl (hb hby d_jdk_43_13_9) rfl ?_
        refine XS.aloadN X0.here hx rfl (hb hby d_jdk_43_13_10) rfl rfl ?_
        obtain ⟨cl3, Ar3, -, S3, M3, -, -⟩ := id V1
        refine X0.arraylength hx (cell := cl3) (by rw [e0]; exact Ar3.1) (State.isArrayOf_alike hZ.alike Ar3.2.1) (g := (mkF m 11 #[.val (.ref a1), .val (.ref a2), .val (.int (0 : Int32))] [(.ref a1), (.int (0 : Int32))])) rfl (rest := [(.int (0 : Int32))]) rfl (hb hby d_jdk_43_13_11) _ ?_
        rw [len_of S3 M3]
        show Sp p e below s₁ (mkF m 12 #[.val (.ref a1), .val (.ref a2), .val (.int (0 : Int32))] [(.int (0 : Int32)), (.int (0 : Int32))]) _
        refine XS.icmpYes X0.here hx rfl (pc0 := 12) (pc' := 32) rfl (hb hby d_jdk_43_13_12) rfl (XT.ii_ge_t (by decide)) (by decide) (by decide) ?_
        show Sp p e below s₁ (mkF m 32 #[.val (.ref a1), .val (.ref a2), .val (.int (0 : Int32))] []) _
        refine XS.iconst X0.here hx rfl (hb hby d_jdk_43_13_32) ?_
        exact k
      obtain ⟨fs, hr, hrun, hended, hW, hsame⟩ := X0.leave (v := some (.int (1 : Int32))) (fun h => by rw [Bd.returns] at h; cases h)
      refine ⟨_, _, pre_4 _ ?_, hrun, hended, _, _, rfl, ?_, ⟨_, rfl⟩, hW, hsame.mono (by decide) (by decide)⟩
      · show Sp p e below s₁ (mkF m 33 #[.val (.ref a1), .val (.ref a2), .val (.int (0 : Int32))] [(.int (1 : Int32))]) _
        exact retN X0 hx (t := .boolean) Bd.returns (by simp) (hb hby d_jdk_43_13_33) hr
      · show Q_lat Z _ _ _ _ _ _ _ _ _ _ h0 n0 _ s₁.heap _
        rw [e0]
        exact ⟨by unfold own_eqv; rw [if_pos rfl, if_pos (by decide), if_pos (by decide)], N0, rfl⟩
    · skip
      have pre_7 : ∀ t, Sp p e below s₁ (mkF m 35 #[.val (.ref a1), .val (.ref a2), .unset] [(.int (0 : Int32))]) t → Steps p.tables e below E0 t := by
        intro t k
        refine pre0 t ?_
        show Sp p e below s₁ (mkF m 0 #[.val (.ref a1), .val (.ref a2), .unset] []) _
        refine XS.aloadN X0.here hx rfl (hb hby d_jdk_43_13_0) rfl rfl ?_
        obtain ⟨cl5, Ar5, -, S5, M5, -, -⟩ := id V1
        refine X0.arraylength hx (cell := cl5) (by rw [e0]; exact Ar5.1) (State.isArrayOf_alike hZ.alike Ar5.2.1) (g := (mkF m 1 #[.val (.ref a1), .val (.ref a2), .unset] [(.ref a1)])) rfl (rest := []) rfl (hb hby d_jdk_43_13_1) _ ?_
        rw [len_of S5 M5]
        show Sp p e below s₁ (mkF m 2 #[.val (.ref a1), .val (.ref a2), .unset] [(.int (0 : Int32))]) _
        refine XS.aloadN X0.here hx rfl (hb hby d_jdk_43_13_2) rfl rfl ?_
        obtain ⟨cl6, Ar6, -, S6, M6, -, -⟩ := id V2
        refine X0.arraylength hx (cell := cl6) (by rw [e0]; exact Ar6.1) (State.isArrayOf_alike hZ.alike Ar6.2.1) (g := (mkF m 3 #[.val (.ref a1), .val (.ref a2), .unset] [(.ref a2), (.int (0 : Int32))])) rfl (rest := [(.int (0 : Int32))]) rfl (hb hby d_jdk_43_13_3) _ ?_
        rw [len_of S6 M6]
        show Sp p e below s₁ (mkF m 4 #[.val (.ref a1), .val (.ref a2), .unset] [(.int (1 : Int32)), (.int (0 : Int32))]) _
        refine XS.icmpYes X0.here hx rfl (pc0 := 4) (pc' := 34) rfl (hb hby d_jdk_43_13_4) rfl (XT.ii_ne_t (by decide)) (by decide) (by decide) ?_
        refine XS.iconst X0.here hx rfl (hb hby d_jdk_43_13_34) ?_
        show Sp p e below s₁ (mkF m 35 #[.val (.ref a1), .val (.ref a2), .unset] [(.int (0 : Int32))]) _
        exact k
      obtain ⟨fs, hr, hrun, hended, hW, hsame⟩ := X0.leave (v := some (.int (0 : Int32))) (fun h => by rw [Bd.returns] at h; cases h)
      refine ⟨_, _, pre_7 _ ?_, hrun, hended, _, _, rfl, ?_, ⟨_, rfl⟩, hW, hsame.mono (by decide) (by decide)⟩
      · show Sp p e below s₁ (mkF m 35 #[.val (.ref a1), .val (.ref a2), .unset] [(.int (0 : Int32))]) _
        exact retN X0 hx (t := .boolean) Bd.returns (by simp) (hb hby d_jdk_43_13_35) hr
      · show Q_lat Z _ _ _ _ _ _ _ _ _ _ h0 n0 _ s₁.heap _
        rw [e0]
        exact ⟨by unfold own_eqv; rw [if_neg (by decide)], N0, rfl⟩
    · skip
      have pre_10 : ∀ t, Sp p e below s₁ (mkF m 35 #[.val (.ref a1), .val (.ref a2), .unset] [(.int (0 : Int32))]) t → Steps p.tables e below E0 t := by
        intro t k
        refine pre0 t ?_
        show Sp p e below s₁ (mkF m 0 #[.val (.ref a1), .val (.ref a2), .unset] []) _
        refine XS.aloadN X0.here hx rfl (hb hby d_jdk_43_13_0) rfl rfl ?_
        obtain ⟨cl8, Ar8, -, S8, M8, -, -⟩ := id V1
        refine X0.arraylength hx (cell := cl8) (by rw [e0]; exact Ar8.1) (State.isArrayOf_alike hZ.alike Ar8.2.1) (g := (mkF m 1 #[.val (.ref a1), .val (.ref a2), .unset] [(.ref a1)])) rfl (rest := []) rfl (hb hby d_jdk_43_13_1) _ ?_
        rw [len_of S8 M8]
        show Sp p e below s₁ (mkF m 2 #[.val (.ref a1), .val (.ref a2), .unset] [(.int (0 : Int32))]) _
        refine XS.aloadN X0.here hx rfl (hb hby d_jdk_43_13_2) rfl rfl ?_
        obtain ⟨cl9, Ar9, -, S9, M9, -, -⟩ := id V2
        refine X0.arraylength hx (cell := cl9) (by rw [e0]; exact Ar9.1) (State.isArrayOf_alike hZ.alike Ar9.2.1) (g := (mkF m 3 #[.val (.ref a1), .val (.ref a2), .unset] [(.ref a2), (.int (0 : Int32))])) rfl (rest := [(.int (0 : Int32))]) rfl (hb hby d_jdk_43_13_3) _ ?_
        rw [len_of S9 M9]
        show Sp p e below s₁ (mkF m 4 #[.val (.ref a1), .val (.ref a2), .unset] [(.int (2 : Int32)), (.int (0 : Int32))]) _
        refine XS.icmpYes X0.here hx rfl (pc0 := 4) (pc' := 34) rfl (hb hby d_jdk_43_13_4) rfl (XT.ii_ne_t (by decide)) (by decide) (by decide) ?_
        refine XS.iconst X0.here hx rfl (hb hby d_jdk_43_13_34) ?_
        show Sp p e below s₁ (mkF m 35 #[.val (.ref a1), .val (.ref a2), .unset] [(.int (0 : Int32))]) _
        exact k
      obtain ⟨fs, hr, hrun, hended, hW, hsame⟩ := X0.leave (v := some (.int (0 : Int32))) (fun h => by rw [Bd.returns] at h; cases h)
      refine ⟨_, _, pre_10 _ ?_, hrun, hended, _, _, rfl, ?_, ⟨_, rfl⟩, hW, hsame.mono (by decide) (by decide)⟩
      · show Sp p e below s₁ (mkF m 35 #[.val (.ref a1), .val (.ref a2), .unset] [(.int (0 : Int32))]) _
        exact retN X0 hx (t := .boolean) Bd.returns (by simp) (hb hby d_jdk_43_13_35) hr
      · show Q_lat Z _ _ _ _ _ _ _ _ _ _ h0 n0 _ s₁.heap _
        rw [e0]
        exact ⟨by unfold own_eqv; rw [if_neg (by decide)], N0, rfl⟩
  · rcases A2 with ⟨rfl, V2⟩ | ⟨rfl, V2⟩ | ⟨rfl, V2⟩
    · skip
      have pre_13 : ∀ t, Sp p e below s₁ (mkF m 35 #[.val (.ref a1), .val (.ref a2), .unset] [(.int (0 : Int32))]) t → Steps p.tables e below E0 t := by
        intro t k
        refine pre0 t ?_
        show Sp p e below s₁ (mkF m 0 #[.val (.ref a1), .val (.ref a2), .unset] []) _
        refine XS.aloadN X0.here hx rfl (hb hby d_jdk_43_13_0) rfl rfl ?_
        obtain ⟨cl11, Ar11, -, S11, M11, -, -⟩ := id V1
        refine X0.arraylength hx (cell := cl11) (by rw [e0]; exact Ar11.1) (State.isArrayOf_alike hZ.alike Ar11.2.1) (g := (mkF m 1 #[.val (.ref a1), .val (.ref a2), .unset] [(.ref a1)])) rfl (rest := []) rfl (hb hby d_jdk_43_13_1) _ ?_
        rw [len_of S11 M11]
        show Sp p e below s₁ (mkF m 2 #[.val (.ref a1), .val (.ref a2), .unset] [(.int (1 : Int32))]) _
        refine XS.aloadN X0.here hx rfl (hb hby d_jdk_43_13_2) rfl rfl ?_
        obtain ⟨cl12, Ar12, -, S12, M12, -, -⟩ := id V2
        refine X0.arraylength hx (cell := cl12) (by rw [e0]; exact Ar12.1) (State.isArrayOf_alike hZ.alike Ar12.2.1) (g := (mkF m 3 #[.val (.ref a1), .val (.ref a2), .unset] [(.ref a2), (.int (1 : Int32))])) rfl (rest := [(.int (1 : Int32))]) rfl (hb hby d_jdk_43_13_3) _ ?_
        rw [len_of S12 M12]
        show Sp p e below s₁ (mkF m 4 #[.val (.ref a1), .val (.ref a2), .unset] [(.int (0 : Int32)), (.int (1 : Int32))]) _
        refine XS.icmpYes X0.here hx rfl (pc0 := 4) (pc' := 34) rfl (hb hby d_jdk_43_13_4) rfl (XT.ii_ne_t (by decide)) (by decide) (by decide) ?_
        refine XS.iconst X0.here hx rfl (hb hby d_jdk_43_13_34) ?_
        show Sp p e below s₁ (mkF m 35 #[.val (.ref a1), .val (.ref a2), .unset] [(.int (0 : Int32))]) _
        exact k
      obtain ⟨fs, hr, hrun, hended, hW, hsame⟩ := X0.leave (v := some (.int (0 : Int32))) (fun h => by rw [Bd.returns] at h; cases h)
      refine ⟨_, _, pre_13 _ ?_, hrun, hended, _, _, rfl, ?_, ⟨_, rfl⟩, hW, hsame.mono (by decide) (by decide)⟩
      · show Sp p e below s₁ (mkF m 35 #[.val (.ref a1), .val (.ref a2), .unset] [(.int (0 : Int32))]) _
        exact retN X0 hx (t := .boolean) Bd.returns (by simp) (hb hby d_jdk_43_13_35) hr
      · show Q_lat Z _ _ _ _ _ _ _ _ _ _ h0 n0 _ s₁.heap _
        rw [e0]
        exact ⟨by unfold own_eqv; rw [if_neg (by decide)], N0, rfl⟩
    · skip
      have pre_19 : ∀ t, Sp p e below s₁ (mkF m 21 #[.val (.ref a1), .val (.ref a2), .val (.int (0 : Int32))] [(.int (d0).toInt8.toInt32), (.int (c0).toInt8.toInt32)]) t → Steps p.tables e below E0 t := by
        intro t k
        refine pre0 t ?_
        show Sp p e below s₁ (mkF m 0 #[.val (.ref a1), .val (.ref a2), .unset] []) _
        refine XS.aloadN X0.here hx rfl (hb hby d_jdk_43_13_0) rfl rfl ?_
        obtain ⟨cl14, Ar14, -, S14, M14, -, -⟩ := id V1
        refine X0.arraylength hx (cell := cl14) (by rw [e0]; exact Ar14.1) (State.isArrayOf_alike hZ.alike Ar14.2.1) (g := (mkF m 1 #[.val (.ref a1), .val (.ref a2), .unset] [(.ref a1)])) rfl (rest := []) rfl (hb hby d_jdk_43_13_1) _ ?_
        rw [len_of S14 M14]
        show Sp p e below s₁ (mkF m 2 #[.val (.ref a1), .val (.ref a2), .unset] [(.int (1 : Int32))]) _
        refine XS.aloadN X0.here hx rfl (hb hby d_jdk_43_13_2) rfl rfl ?_
        obtain ⟨cl15, Ar15, -, S15, M15, -, -⟩ := id V2
        refine X0.arraylength hx (cell := cl15) (by rw [e0]; exact Ar15.1) (State.isArrayOf_alike hZ.alike Ar15.2.1) (g := (mkF m 3 #[.val (.ref a1), .val (.ref a2), .unset] [(.ref a2), (.int (1 : Int32))])) rfl (rest := [(.int (1 : Int32))]) rfl (hb hby d_jdk_43_13_3) _ ?_
        rw [len_of S15 M15]
        show Sp p e below s₁ (mkF m 4 #[.val (.ref a1), .val (.ref a2), .unset] [(.int (1 : Int32)), (.int (1 : Int32))]) _
        refine XS.icmpNo X0.here hx rfl (hb hby d_jdk_43_13_4) rfl (XT.ii_ne_f (by decide)) ?_
        refine XS.iconst X0.here hx rfl (hb hby d_jdk_43_13_7) ?_
        show Sp p e below s₁ (mkF m 8 #[.val (.ref a1), .val (.ref a2), .unset] [(.int (0 : Int32))]) _
        refine XS.istoreN X0.here hx rfl (hb hby d_jdk_43_13_8) rfl (l' := #[.val (.ref a1), .val (.ref a2), .val (.int (0 : Int32))]) rfl ?_
        refine XS.iloadN X0.here hx rfl (hb hby d_jdk_43_13_9) rfl ?_
        refine XS.aloadN X0.here hx rfl (hb hby d_jdk_43_13_10) rfl rfl ?_
        obtain ⟨cl16, Ar16, -, S16, M16, -, -⟩ := id V1
        refine X0.arraylength hx (cell := cl16) (by rw [e0]; exact Ar16.1) (State.isArrayOf_alike hZ.alike Ar16.2.1) (g := (mkF m 11 #[.val (.ref a1), .val (.ref a2), .val (.int (0 : Int32))] [(.ref a1), (.int (0 : Int32))])) rfl (rest := [(.int (0 : Int32))]) rfl (hb hby d_jdk_43_13_11) _ ?_
        rw [len_of S16 M16]
        show Sp p e below s₁ (mkF m 12 #[.val (.ref a1), .val (.ref a2), .val (.int (0 : Int32))] [(.int (1 : Int32)), (.int (0 : Int32))]) _
        refine XS.icmpNo X0.here hx rfl (hb hby d_jdk_43_13_12) rfl (XT.ii_ge_f (by decide)) ?_
        show Sp p e below s₁ (mkF m 15 #[.val (.ref a1), .val (.ref a2), .val (.int (0 : Int32))] []) _
        refine XS.aloadN X0.here hx rfl (hb hby d_jdk_43_13_15) rfl rfl ?_
        refine XS.iloadN X0.here hx rfl (hb hby d_jdk_43_13_16) rfl ?_
        obtain ⟨cl17, Ar17, -, S17, -, H17, -⟩ := id V1
        have hin17 : ¬ ((0 : Int32) < 0 ∨ cl17.slots.size ≤ ((0 : Int32)).toNatClampNeg) := inb_of S17 (by decide)
        refine X0.baloadBytes hx (j := (0 : Int32)) (v := (.int (c0).toInt8.toInt32)) (by rw [e0]; exact Ar17.1) (State.isArrayOf_alike hZ.alike Ar17.2.1) Ar17.2.2 hin17 (H17.at hin17 rfl) (g := (mkF m 17 #[.val (.ref a1), .val (.ref a2), .val (.int (0 : Int32))] [(.int (0 : Int32)), (.ref a1)])) rfl rfl (hb hby d_jdk_43_13_17) _ ?_
        refine XS.aloadN X0.here hx rfl (hb hby d_jdk_43_13_18) rfl rfl ?_
        show Sp p e below s₁ (mkF m 19 #[.val (.ref a1), .val (.ref a2), .val (.int (0 : Int32))] [(.ref a2), (.int (c0).toInt8.toInt32)]) _
        refine XS.iloadN X0.here hx rfl (hb hby d_jdk_43_13_19) rfl ?_
        obtain ⟨cl18, Ar18, -, S18, -, H18, -⟩ := id V2
        have hin18 : ¬ ((0 : Int32) < 0 ∨ cl18.slots.size ≤ ((0 : Int32)).toNatClampNeg) := inb_of S18 (by decide)
        refine X0.baloadBytes hx (j := (0 : Int32)) (v := (.int (d0).toInt8.toInt32)) (by rw [e0]; exact Ar18.1) (State.isArrayOf_alike hZ.alike Ar18.2.1) Ar18.2.2 hin18 (H18.at hin18 rfl) (g := (mkF m 20 #[.val (.ref a1), .val (.ref a2), .val (.int (0 : Int32))] [(.int (0 : Int32)), (.ref a2), (.int (c0).toInt8.toInt32)])) rfl rfl (hb hby d_jdk_43_13_20) _ ?_
        exact k
      by_cases hc20 : (c0).toInt8.toInt32 = (d0).toInt8.toInt32
      · skip
        have pre_22 : ∀ t, Sp p e below s₁ (mkF m 33 #[.val (.ref a1), .val (.ref a2), .val (.int (1 : Int32))] [(.int (1 : Int32))]) t → Steps p.tables e below E0 t := by
          intro t k
          refine pre_19 t ?_
          show Sp p e below s₁ (mkF m 21 #[.val (.ref a1), .val (.ref a2), .val (.int (0 : Int32))] [(.int (d0).toInt8.toInt32), (.int (c0).toInt8.toInt32)]) _
          refine XS.icmpYes X0.here hx rfl (pc0 := 21) (pc' := 26) rfl (hb hby d_jdk_43_13_21) rfl (XT.ii_eq_t hc20) (by decide) (by decide) ?_
          refine XS.iinc X0.here hx rfl (hb hby d_jdk_43_13_26) rfl (l' := #[.val (.ref a1), .val (.ref a2), .val (.int (1 : Int32))]) rfl ?_
          show Sp p e below s₁ (mkF m 29 #[.val (.ref a1), .val (.ref a2), .val (.int (1 : Int32))] []) _
          refine XS.goto X0.here hx rfl (pc0 := 29) (pc' := 9) rfl (hb hby d_jdk_43_13_29) (by decide) (by decide) ?_
          refine XS.iloadN X0.here hx rfl (hb hby d_jdk_43_13_9) rfl ?_
          refine XS.aloadN X0.here hx rfl (hb hby d_jdk_43_13_10) rfl rfl ?_
          obtain ⟨cl21, Ar21, -, S21, M21, -, -⟩ := id V1
          refine X0.arraylength hx (cell := cl21) (by rw [e0]; exact Ar21.1) (State.isArrayOf_alike hZ.alike Ar21.2.1) (g := (mkF m 11 #[.val (.ref a1), .val (.ref a2), .val (.int (1 : Int32))] [(.ref a1), (.int (1 : Int32))])) rfl (rest := [(.int (1 : Int32))]) rfl (hb hby d_jdk_43_13_11) _ ?_
          rw [len_of S21 M21]
          show Sp p e below s₁ (mkF m 12 #[.val (.ref a1), .val (.ref a2), .val (.int (1 : Int32))] [(.int (1 : Int32)), (.int (1 : Int32))]) _
          refine XS.icmpYes X0.here hx rfl (pc0 := 12) (pc' := 32) rfl (hb hby d_jdk_43_13_12) rfl (XT.ii_ge_t (by decide)) (by decide) (by decide) ?_
          show Sp p e below s₁ (mkF m 32 #[.val (.ref a1), .val (.ref a2), .val (.int (1 : Int32))] []) _
          refine XS.iconst X0.here hx rfl (hb hby d_jdk_43_13_32) ?_
          exact k
        obtain ⟨fs, hr, hrun, hended, hW, hsame⟩ := X0.leave (v := some (.int (1 : Int32))) (fun h => by rw [Bd.returns] at h; cases h)
        refine ⟨_, _, pre_22 _ ?_, hrun, hended, _, _, rfl, ?_, ⟨_, rfl⟩, hW, hsame.mono (by decide) (by decide)⟩
        · show Sp p e below s₁ (mkF m 33 #[.val (.ref a1), .val (.ref a2), .val (.int (1 : Int32))] [(.int (1 : Int32))]) _
          exact retN X0 hx (t := .boolean) Bd.returns (by simp) (hb hby d_jdk_43_13_33) hr
        · show Q_lat Z _ _ _ _ _ _ _ _ _ _ h0 n0 _ s₁.heap _
          rw [e0]
          exact ⟨by unfold own_eqv; rw [if_pos rfl, if_neg (by decide), if_pos ((own_byeq hc0 hd0).mp hc20), if_pos (by decide)], N0, rfl⟩
      · skip
        have pre_23 : ∀ t, Sp p e below s₁ (mkF m 25 #[.val (.ref a1), .val (.ref a2), .val (.int (0 : Int32))] [(.int (0 : Int32))]) t → Steps p.tables e below E0 t := by
          intro t k
          refine pre_19 t ?_
          show Sp p e below s₁ (mkF m 21 #[.val (.ref a1), .val (.ref a2), .val (.int (0 : Int32))] [(.int (d0).toInt8.toInt32), (.int (c0).toInt8.toInt32)]) _
          refine XS.icmpNo X0.here hx rfl (hb hby d_jdk_43_13_21) rfl (XT.ii_eq_f hc20) ?_
          refine XS.iconst X0.here hx rfl (hb hby d_jdk_43_13_24) ?_
          show Sp p e below s₁ (mkF m 25 #[.val (.ref a1), .val (.ref a2), .val (.int (0 : Int32))] [(.int (0 : Int32))]) _
          exact k
        obtain ⟨fs, hr, hrun, hended, hW, hsame⟩ := X0.leave (v := some (.int (0 : Int32))) (fun h => by rw [Bd.returns] at h; cases h)
        refine ⟨_, _, pre_23 _ ?_, hrun, hended, _, _, rfl, ?_, ⟨_, rfl⟩, hW, hsame.mono (by decide) (by decide)⟩
        · show Sp p e below s₁ (mkF m 25 #[.val (.ref a1), .val (.ref a2), .val (.int (0 : Int32))] [(.int (0 : Int32))]) _
          exact retN X0 hx (t := .boolean) Bd.returns (by simp) (hb hby d_jdk_43_13_25) hr
        · show Q_lat Z _ _ _ _ _ _ _ _ _ _ h0 n0 _ s₁.heap _
          rw [e0]
          exact ⟨by unfold own_eqv; rw [if_pos rfl, if_neg (by decide), if_neg (fun q => hc20 ((own_byeq hc0 hd0).mpr q))], N0, rfl⟩
    · skip
      have pre_26 : ∀ t, Sp p e below s₁ (mkF m 35 #[.val (.ref a1), .val (.ref a2), .unset] [(.int (0 : Int32))]) t → Steps p.tables e below E0 t := by
        intro t k
        refine pre0 t ?_
        show Sp p e below s₁ (mkF m 0 #[.val (.ref a1), .val (.ref a2), .unset] []) _
        refine XS.aloadN X0.here hx rfl (hb hby d_jdk_43_13_0) rfl rfl ?_
        obtain ⟨cl24, Ar24, -, S24, M24, -, -⟩ := id V1
        refine X0.arraylength hx (cell := cl24) (by rw [e0]; exact Ar24.1) (State.isArrayOf_alike hZ.alike Ar24.2.1) (g := (mkF m 1 #[.val (.ref a1), .val (.ref a2), .unset] [(.ref a1)])) rfl (rest := []) rfl (hb hby d_jdk_43_13_1) _ ?_
        rw [len_of S24 M24]
        show Sp p e below s₁ (mkF m 2 #[.val (.ref a1), .val (.ref a2), .unset] [(.int (1 : Int32))]) _
        refine XS.aloadN X0.here hx rfl (hb hby d_jdk_43_13_2) rfl rfl ?_
        obtain ⟨cl25, Ar25, -, S25, M25, -, -⟩ := id V2
        refine X0.arraylength hx (cell := cl25) (by rw [e0]; exact Ar25.1) (State.isArrayOf_alike hZ.alike Ar25.2.1) (g := (mkF m 3 #[.val (.ref a1), .val (.ref a2), .unset] [(.ref a2), (.int (1 : Int32))])) rfl (rest := [(.int (1 : Int32))]) rfl (hb hby d_jdk_43_13_3) _ ?_
        rw [len_of S25 M25]
        show Sp p e below s₁ (mkF m 4 #[.val (.ref a1), .val (.ref a2), .unset] [(.int (2 : Int32)), (.int (1 : Int32))]) _
        refine XS.icmpYes X0.here hx rfl (pc0 := 4) (pc' := 34) rfl (hb hby d_jdk_43_13_4) rfl (XT.ii_ne_t (by decide)) (by decide) (by decide) ?_
        refine XS.iconst X0.here hx rfl (hb hby d_jdk_43_13_34) ?_
        show Sp p e below s₁ (mkF m 35 #[.val (.ref a1), .val (.ref a2), .unset] [(.int (0 : Int32))]) _
        exact k
      obtain ⟨fs, hr, hrun, hended, hW, hsame⟩ := X0.leave (v := some (.int (0 : Int32))) (fun h => by rw [Bd.returns] at h; cases h)
      refine ⟨_, _, pre_26 _ ?_, hrun, hended, _, _, rfl, ?_, ⟨_, rfl⟩, hW, hsame.mono (by decide) (by decide)⟩
      · show Sp p e below s₁ (mkF m 35 #[.val (.ref a1), .val (.ref a2), .unset] [(.int (0 : Int32))]) _
        exact retN X0 hx (t := .boolean) Bd.returns (by simp) (hb hby d_jdk_43_13_35) hr
      · show Q_lat Z _ _ _ _ _ _ _ _ _ _ h0 n0 _ s₁.heap _
        rw [e0]
        exact ⟨by unfold own_eqv; rw [if_neg (by decide)], N0, rfl⟩
  · rcases A2 with ⟨rfl, V2⟩ | ⟨rfl, V2⟩ | ⟨rfl, V2⟩
    · skip
      have pre_29 : ∀ t, Sp p e below s₁ (mkF m 35 #[.val (.ref a1), .val (.ref a2), .unset] [(.int (0 : Int32))]) t → Steps p.tables e below E0 t := by
        intro t k
        refine pre0 t ?_
        show Sp p e below s₁ (mkF m 0 #[.val (.ref a1), .val (.ref a2), .unset] []) _
        refine XS.aloadN X0.here hx rfl (hb hby d_jdk_43_13_0) rfl rfl ?_
        obtain ⟨cl27, Ar27, -, S27, M27, -, -⟩ := id V1
        refine X0.arraylength hx (cell := cl27) (by rw [e0]; exact Ar27.1) (State.isArrayOf_alike hZ.alike Ar27.2.1) (g := (mkF m 1 #[.val (.ref a1), .val (.ref a2), .unset] [(.ref a1)])) rfl (rest := []) rfl (hb hby d_jdk_43_13_1) _ ?_
        rw [len_of S27 M27]
        show Sp p e below s₁ (mkF m 2 #[.val (.ref a1), .val (.ref a2), .unset] [(.int (2 : Int32))]) _
        refine XS.aloadN X0.here hx rfl (hb hby d_jdk_43_13_2) rfl rfl ?_
        obtain ⟨cl28, Ar28, -, S28, M28, -, -⟩ := id V2
        refine X0.arraylength hx (cell := cl28) (by rw [e0]; exact Ar28.1) (State.isArrayOf_alike hZ.alike Ar28.2.1) (g := (mkF m 3 #[.val (.ref a1), .val (.ref a2), .unset] [(.ref a2), (.int (2 : Int32))])) rfl (rest := [(.int (2 : Int32))]) rfl (hb hby d_jdk_43_13_3) _ ?_
        rw [len_of S28 M28]
        show Sp p e below s₁ (mkF m 4 #[.val (.ref a1), .val (.ref a2), .unset] [(.int (0 : Int32)), (.int (2 : Int32))]) _
        refine XS.icmpYes X0.here hx rfl (pc0 := 4) (pc' := 34) rfl (hb hby d_jdk_43_13_4) rfl (XT.ii_ne_t (by decide)) (by decide) (by decide) ?_
        refine XS.iconst X0.here hx rfl (hb hby d_jdk_43_13_34) ?_
        show Sp p e below s₁ (mkF m 35 #[.val (.ref a1), .val (.ref a2), .unset] [(.int (0 : Int32))]) _
        exact k
      obtain ⟨fs, hr, hrun, hended, hW, hsame⟩ := X0.leave (v := some (.int (0 : Int32))) (fun h => by rw [Bd.returns] at h; cases h)
      refine ⟨_, _, pre_29 _ ?_, hrun, hended, _, _, rfl, ?_, ⟨_, rfl⟩, hW, hsame.mono (by decide) (by decide)⟩
      · show Sp p e below s₁ (mkF m 35 #[.val (.ref a1), .val (.ref a2), .unset] [(.int (0 : Int32))]) _
        exact retN X0 hx (t := .boolean) Bd.returns (by simp) (hb hby d_jdk_43_13_35) hr
      · show Q_lat Z _ _ _ _ _ _ _ _ _ _ h0 n0 _ s₁.heap _
        rw [e0]
        exact ⟨by unfold own_eqv; rw [if_neg (by decide)], N0, rfl⟩
    · skip
      have pre_32 : ∀ t, Sp p e below s₁ (mkF m 35 #[.val (.ref a1), .val (.ref a2), .unset] [(.int (0 : Int32))]) t → Steps p.tables e below E0 t := by
        intro t k
        refine pre0 t ?_
        show Sp p e below s₁ (mkF m 0 #[.val (.ref a1), .val (.ref a2), .unset] []) _
        refine XS.aloadN X0.here hx rfl (hb hby d_jdk_43_13_0) rfl rfl ?_
        obtain ⟨cl30, Ar30, -, S30, M30, -, -⟩ := id V1
        refine X0.arraylength hx (cell := cl30) (by rw [e0]; exact Ar30.1) (State.isArrayOf_alike hZ.alike Ar30.2.1) (g := (mkF m 1 #[.val (.ref a1), .val (.ref a2), .unset] [(.ref a1)])) rfl (rest := []) rfl (hb hby d_jdk_43_13_1) _ ?_
        rw [len_of S30 M30]
        show Sp p e below s₁ (mkF m 2 #[.val (.ref a1), .val (.ref a2), .unset] [(.int (2 : Int32))]) _
        refine XS.aloadN X0.here hx rfl (hb hby d_jdk_43_13_2) rfl rfl ?_
        obtain ⟨cl31, Ar31, -, S31, M31, -, -⟩ := id V2
        refine X0.arraylength hx (cell := cl31) (by rw [e0]; exact Ar31.1) (State.isArrayOf_alike hZ.alike Ar31.2.1) (g := (mkF m 3 #[.val (.ref a1), .val (.ref a2), .unset] [(.ref a2), (.int (2 : Int32))])) rfl (rest := [(.int (2 : Int32))]) rfl (hb hby d_jdk_43_13_3) _ ?_
        rw [len_of S31 M31]
        show Sp p e below s₁ (mkF m 4 #[.val (.ref a1), .val (.ref a2), .unset] [(.int (1 : Int32)), (.int (2 : Int32))]) _
        refine XS.icmpYes X0.here hx rfl (pc0 := 4) (pc' := 34) rfl (hb hby d_jdk_43_13_4) rfl (XT.ii_ne_t (by decide)) (by decide) (by decide) ?_
        refine XS.iconst X0.here hx rfl (hb hby d_jdk_43_13_34) ?_
        show Sp p e below s₁ (mkF m 35 #[.val (.ref a1), .val (.ref a2), .unset] [(.int (0 : Int32))]) _
        exact k
      obtain ⟨fs, hr, hrun, hended, hW, hsame⟩ := X0.leave (v := some (.int (0 : Int32))) (fun h => by rw [Bd.returns] at h; cases h)
      refine ⟨_, _, pre_32 _ ?_, hrun, hended, _, _, rfl, ?_, ⟨_, rfl⟩, hW, hsame.mono (by decide) (by decide)⟩
      · show Sp p e below s₁ (mkF m 35 #[.val (.ref a1), .val (.ref a2), .unset] [(.int (0 : Int32))]) _
        exact retN X0 hx (t := .boolean) Bd.returns (by simp) (hb hby d_jdk_43_13_35) hr
      · show Q_lat Z _ _ _ _ _ _ _ _ _ _ h0 n0 _ s₁.heap _
        rw [e0]
        exact ⟨by unfold own_eqv; rw [if_neg (by decide)], N0, rfl⟩
    · skip
      have pre_38 : ∀ t, Sp p e below s₁ (mkF m 21 #[.val (.ref a1), .val (.ref a2), .val (.int (0 : Int32))] [(.int (d0).toInt8.toInt32), (.int (c0).toInt8.toInt32)]) t → Steps p.tables e below E0 t := by
        intro t k
        refine pre0 t ?_
        show Sp p e below s₁ (mkF m 0 #[.val (.ref a1), .val (.ref a2), .unset] []) _
        refine XS.aloadN X0.here hx rfl (hb hby d_jdk_43_13_0) rfl rfl ?_
        obtain ⟨cl33, Ar33, -, S33, M33, -, -⟩ := id V1
        refine X0.arraylength hx (cell := cl33) (by rw [e0]; exact Ar33.1) (State.isArrayOf_alike hZ.alike Ar33.2.1) (g := (mkF m 1 #[.val (.ref a1), .val (.ref a2), .unset] [(.ref a1)])) rfl (rest := []) rfl (hb hby d_jdk_43_13_1) _ ?_
        rw [len_of S33 M33]
        show Sp p e below s₁ (mkF m 2 #[.val (.ref a1), .val (.ref a2), .unset] [(.int (2 : Int32))]) _
        refine XS.aloadN X0.here hx rfl (hb hby d_jdk_43_13_2) rfl rfl ?_
        obtain ⟨cl34, Ar34, -, S34, M34, -, -⟩ := id V2
        refine X0.arraylength hx (cell := cl34) (by rw [e0]; exact Ar34.1) (State.isArrayOf_alike hZ.alike Ar34.2.1) (g := (mkF m 3 #[.val (.ref a1), .val (.ref a2), .unset] [(.ref a2), (.int (2 : Int32))])) rfl (rest := [(.int (2 : Int32))]) rfl (hb hby d_jdk_43_13_3) _ ?_
        rw [len_of S34 M34]
        show Sp p e below s₁ (mkF m 4 #[.val (.ref a1), .val (.ref a2), .unset] [(.int (2 : Int32)), (.int (2 : Int32))]) _
        refine XS.icmpNo X0.here hx rfl (hb hby d_jdk_43_13_4) rfl (XT.ii_ne_f (by decide)) ?_
        refine XS.iconst X0.here hx rfl (hb hby d_jdk_43_13_7) ?_
        show Sp p e below s₁ (mkF m 8 #[.val (.ref a1), .val (.ref a2), .unset] [(.int (0 : Int32))]) _
        refine XS.istoreN X0.here hx rfl (hb hby d_jdk_43_13_8) rfl (l' := #[.val (.ref a1), .val (.ref a2), .val (.int (0 : Int32))]) rfl ?_
        refine XS.iloadN X0.here hx rfl (hb hby d_jdk_43_13_9) rfl ?_
        refine XS.aloadN X0.here hx rfl (hb hby d_jdk_43_13_10) rfl rfl ?_
        obtain ⟨cl35, Ar35, -, S35, M35, -, -⟩ := id V1
        refine X0.arraylength hx (cell := cl35) (by rw [e0]; exact Ar35.1) (State.isArrayOf_alike hZ.alike Ar35.2.1) (g := (mkF m 11 #[.val (.ref a1), .val (.ref a2), .val (.int (0 : Int32))] [(.ref a1), (.int (0 : Int32))])) rfl (rest := [(.int (0 : Int32))]) rfl (hb hby d_jdk_43_13_11) _ ?_
        rw [len_of S35 M35]
        show Sp p e below s₁ (mkF m 12 #[.val (.ref a1), .val (.ref a2), .val (.int (0 : Int32))] [(.int (2 : Int32)), (.int (0 : Int32))]) _
        refine XS.icmpNo X0.here hx rfl (hb hby d_jdk_43_13_12) rfl (XT.ii_ge_f (by decide)) ?_
        show Sp p e below s₁ (mkF m 15 #[.val (.ref a1), .val (.ref a2), .val (.int (0 : Int32))] []) _
        refine XS.aloadN X0.here hx rfl (hb hby d_jdk_43_13_15) rfl rfl ?_
        refine XS.iloadN X0.here hx rfl (hb hby d_jdk_43_13_16) rfl ?_
        obtain ⟨cl36, Ar36, -, S36, -, H36, -⟩ := id V1
        have hin36 : ¬ ((0 : Int32) < 0 ∨ cl36.slots.size ≤ ((0 : Int32)).toNatClampNeg) := inb_of S36 (by decide)
        refine X0.baloadBytes hx (j := (0 : Int32)) (v := (.int (c0).toInt8.toInt32)) (by rw [e0]; exact Ar36.1) (State.isArrayOf_alike hZ.alike Ar36.2.1) Ar36.2.2 hin36 (H36.at hin36 rfl) (g := (mkF m 17 #[.val (.ref a1), .val (.ref a2), .val (.int (0 : Int32))] [(.int (0 : Int32)), (.ref a1)])) rfl rfl (hb hby d_jdk_43_13_17) _ ?_
        refine XS.aloadN X0.here hx rfl (hb hby d_jdk_43_13_18) rfl rfl ?_
        show Sp p e below s₁ (mkF m 19 #[.val (.ref a1), .val (.ref a2), .val (.int (0 : Int32))] [(.ref a2), (.int (c0).toInt8.toInt32)]) _
        refine XS.iloadN X0.here hx rfl (hb hby d_jdk_43_13_19) rfl ?_
        obtain ⟨cl37, Ar37, -, S37, -, H37, -⟩ := id V2
        have hin37 : ¬ ((0 : Int32) < 0 ∨ cl37.slots.size ≤ ((0 : Int32)).toNatClampNeg) := inb_of S37 (by decide)
        refine X0.baloadBytes hx (j := (0 : Int32)) (v := (.int (d0).toInt8.toInt32)) (by rw [e0]; exact Ar37.1) (State.isArrayOf_alike hZ.alike Ar37.2.1) Ar37.2.2 hin37 (H37.at hin37 rfl) (g := (mkF m 20 #[.val (.ref a1), .val (.ref a2), .val (.int (0 : Int32))] [(.int (0 : Int32)), (.ref a2), (.int (c0).toInt8.toInt32)])) rfl rfl (hb hby d_jdk_43_13_20) _ ?_
        exact k
      by_cases hc39 : (c0).toInt8.toInt32 = (d0).toInt8.toInt32
      · skip
        have pre_43 : ∀ t, Sp p e below s₁ (mkF m 21 #[.val (.ref a1), .val (.ref a2), .val (.int (1 : Int32))] [(.int (d1).toInt8.toInt32), (.int (c1).toInt8.toInt32)]) t → Steps p.tables e below E0 t := by
          intro t k
          refine pre_38 t ?_
          show Sp p e below s₁ (mkF m 21 #[.val (.ref a1), .val (.ref a2), .val (.int (0 : Int32))] [(.int (d0).toInt8.toInt32), (.int (c0).toInt8.toInt32)]) _
          refine XS.icmpYes X0.here hx rfl (pc0 := 21) (pc' := 26) rfl (hb hby d_jdk_43_13_21) rfl (XT.ii_eq_t hc39) (by decide) (by decide) ?_
          refine XS.iinc X0.here hx rfl (hb hby d_jdk_43_13_26) rfl (l' := #[.val (.ref a1), .val (.ref a2), .val (.int (1 : Int32))]) rfl ?_
          show Sp p e below s₁ (mkF m 29 #[.val (.ref a1), .val (.ref a2), .val (.int (1 : Int32))] []) _
          refine XS.goto X0.here hx rfl (pc0 := 29) (pc' := 9) rfl (hb hby d_jdk_43_13_29) (by decide) (by decide) ?_
          refine XS.iloadN X0.here hx rfl (hb hby d_jdk_43_13_9) rfl ?_
          refine XS.aloadN X0.here hx rfl (hb hby d_jdk_43_13_10) rfl rfl ?_
          obtain ⟨cl40, Ar40, -, S40, M40, -, -⟩ := id V1
          refine X0.arraylength hx (cell := cl40) (by rw [e0]; exact Ar40.1) (State.isArrayOf_alike hZ.alike Ar40.2.1) (g := (mkF m 11 #[.val (.ref a1), .val (.ref a2), .val (.int (1 : Int32))] [(.ref a1), (.int (1 : Int32))])) rfl (rest := [(.int (1 : Int32))]) rfl (hb hby d_jdk_43_13_11) _ ?_
          rw [len_of S40 M40]
          show Sp p e below s₁ (mkF m 12 #[.val (.ref a1), .val (.ref a2), .val (.int (1 : Int32))] [(.int (2 : Int32)), (.int (1 : Int32))]) _
          refine XS.icmpNo X0.here hx rfl (hb hby d_jdk_43_13_12) rfl (XT.ii_ge_f (by decide)) ?_
          show Sp p e below s₁ (mkF m 15 #[.val (.ref a1), .val (.ref a2), .val (.int (1 : Int32))] []) _
          refine XS.aloadN X0.here hx rfl (hb hby d_jdk_43_13_15) rfl rfl ?_
          refine XS.iloadN X0.here hx rfl (hb hby d_jdk_43_13_16) rfl ?_
          obtain ⟨cl41, Ar41, -, S41, -, H41, -⟩ := id V1
          have hin41 : ¬ ((1 : Int32) < 0 ∨ cl41.slots.size ≤ ((1 : Int32)).toNatClampNeg) := inb_of S41 (by decide)
          refine X0.baloadBytes hx (j := (1 : Int32)) (v := (.int (c1).toInt8.toInt32)) (by rw [e0]; exact Ar41.1) (State.isArrayOf_alike hZ.alike Ar41.2.1) Ar41.2.2 hin41 (H41.at hin41 rfl) (g := (mkF m 17 #[.val (.ref a1), .val (.ref a2), .val (.int (1 : Int32))] [(.int (1 : Int32)), (.ref a1)])) rfl rfl (hb hby d_jdk_43_13_17) _ ?_
          refine XS.aloadN X0.here hx rfl (hb hby d_jdk_43_13_18) rfl rfl ?_
          show Sp p e below s₁ (mkF m 19 #[.val (.ref a1), .val (.ref a2), .val (.int (1 : Int32))] [(.ref a2), (.int (c1).toInt8.toInt32)]) _
          refine XS.iloadN X0.here hx rfl (hb hby d_jdk_43_13_19) rfl ?_
          obtain ⟨cl42, Ar42, -, S42, -, H42, -⟩ := id V2
          have hin42 : ¬ ((1 : Int32) < 0 ∨ cl42.slots.size ≤ ((1 : Int32)).toNatClampNeg) := inb_of S42 (by decide)
          refine X0.baloadBytes hx (j := (1 : Int32)) (v := (.int (d1).toInt8.toInt32)) (by rw [e0]; exact Ar42.1) (State.isArrayOf_alike hZ.alike Ar42.2.1) Ar42.2.2 hin42 (H42.at hin42 rfl) (g := (mkF m 20 #[.val (.ref a1), .val (.ref a2), .val (.int (1 : Int32))] [(.int (1 : Int32)), (.ref a2), (.int (c1).toInt8.toInt32)])) rfl rfl (hb hby d_jdk_43_13_20) _ ?_
          exact k
        by_cases hc44 : (c1).toInt8.toInt32 = (d1).toInt8.toInt32
        · skip
          have pre_46 : ∀ t, Sp p e below s₁ (mkF m 33 #[.val (.ref a1), .val (.ref a2), .val (.int (2 : Int32))] [(.int (1 : Int32))]) t → Steps p.tables e below E0 t := by
            intro t k
            refine pre_43 t ?_
            show Sp p e below s₁ (mkF m 21 #[.val (.ref a1), .val (.ref a2), .val (.int (1 : Int32))] [(.int (d1).toInt8.toInt32), (.int (c1).toInt8.toInt32)]) _
            refine XS.icmpYes X0.here hx rfl (pc0 := 21) (pc' := 26) rfl (hb hby d_jdk_43_13_21) rfl (XT.ii_eq_t hc44) (by decide) (by decide) ?_
            refine XS.iinc X0.here hx rfl (hb hby d_jdk_43_13_26) rfl (l' := #[.val (.ref a1), .val (.ref a2), .val (.int (2 : Int32))]) rfl ?_
            show Sp p e below s₁ (mkF m 29 #[.val (.ref a1), .val (.ref a2), .val (.int (2 : Int32))] []) _
            refine XS.goto X0.here hx rfl (pc0 := 29) (pc' := 9) rfl (hb hby d_jdk_43_13_29) (by decide) (by decide) ?_
            refine XS.iloadN X0.here hx rfl (hb hby d_jdk_43_13_9) rfl ?_
            refine XS.aloadN X0.here hx rfl (hb hby d_jdk_43_13_10) rfl rfl ?_
            obtain ⟨cl45, Ar45, -, S45, M45, -, -⟩ := id V1
            refine X0.arraylength hx (cell := cl45) (by rw [e0]; exact Ar45.1) (State.isArrayOf_alike hZ.alike Ar45.2.1) (g := (mkF m 11 #[.val (.ref a1), .val (.ref a2), .val (.int (2 : Int32))] [(.ref a1), (.int (2 : Int32))])) rfl (rest := [(.int (2 : Int32))]) rfl (hb hby d_jdk_43_13_11) _ ?_
            rw [len_of S45 M45]
            show Sp p e below s₁ (mkF m 12 #[.val (.ref a1), .val (.ref a2), .val (.int (2 : Int32))] [(.int (2 : Int32)), (.int (2 : Int32))]) _
            refine XS.icmpYes X0.here hx rfl (pc0 := 12) (pc' := 32) rfl (hb hby d_jdk_43_13_12) rfl (XT.ii_ge_t (by decide)) (by decide) (by decide) ?_
            show Sp p e below s₁ (mkF m 32 #[.val (.ref a1), .val (.ref a2), .val (.int (2 : Int32))] []) _
            refine XS.iconst X0.here hx rfl (hb hby d_jdk_43_13_32) ?_
            exact k
          obtain ⟨fs, hr, hrun, hended, hW, hsame⟩ := X0.leave (v := some (.int (1 : Int32))) (fun h => by rw [Bd.returns] at h; cases h)
          refine ⟨_, _, pre_46 _ ?_, hrun, hended, _, _, rfl, ?_, ⟨_, rfl⟩, hW, hsame.mono (by decide) (by decide)⟩
          · show Sp p e below s₁ (mkF m 33 #[.val (.ref a1), .val (.ref a2), .val (.int (2 : Int32))] [(.int (1 : Int32))]) _
            exact retN X0 hx (t := .boolean) Bd.returns (by simp) (hb hby d_jdk_43_13_33) hr
          · show Q_lat Z _ _ _ _ _ _ _ _ _ _ h0 n0 _ s₁.heap _
            rw [e0]
            exact ⟨by unfold own_eqv; rw [if_pos rfl, if_neg (by decide), if_pos ((own_byeq hc0 hd0).mp hc39), if_neg (by decide), if_pos ((own_byeq hc1 hd1).mp hc44)], N0, rfl⟩
        · skip
          have pre_47 : ∀ t, Sp p e below s₁ (mkF m 25 #[.val (.ref a1), .val (.ref a2), .val (.int (1 : Int32))] [(.int (0 : Int32))]) t → Steps p.tables e below E0 t := by
            intro t k
            refine pre_43 t ?_
            show Sp p e below s₁ (mkF m 21 #[.val (.ref a1), .val (.ref a2), .val (.int (1 : Int32))] [(.int (d1).toInt8.toInt32), (.int (c1).toInt8.toInt32)]) _
            refine XS.icmpNo X0.here hx rfl (hb hby d_jdk_43_13_21) rfl (XT.ii_eq_f hc44) ?_
            refine XS.iconst X0.here hx rfl (hb hby d_jdk_43_13_24) ?_
            show Sp p e below s₁ (mkF m 25 #[.val (.ref a1), .val (.ref a2), .val (.int (1 : Int32))] [(.int (0 : Int32))]) _
            exact k
          obtain ⟨fs, hr, hrun, hended, hW, hsame⟩ := X0.leave (v := some (.int (0 : Int32))) (fun h => by rw [Bd.returns] at h; cases h)
          refine ⟨_, _, pre_47 _ ?_, hrun, hended, _, _, rfl, ?_, ⟨_, rfl⟩, hW, hsame.mono (by decide) (by decide)⟩
          · show Sp p e below s₁ (mkF m 25 #[.val (.ref a1), .val (.ref a2), .val (.int (1 : Int32))] [(.int (0 : Int32))]) _
            exact retN X0 hx (t := .boolean) Bd.returns (by simp) (hb hby d_jdk_43_13_25) hr
          · show Q_lat Z _ _ _ _ _ _ _ _ _ _ h0 n0 _ s₁.heap _
            rw [e0]
            exact ⟨by unfold own_eqv; rw [if_pos rfl, if_neg (by decide), if_pos ((own_byeq hc0 hd0).mp hc39), if_neg (by decide), if_neg (fun q => hc44 ((own_byeq hc1 hd1).mpr q))], N0, rfl⟩
      · skip
        have pre_48 : ∀ t, Sp p e below s₁ (mkF m 25 #[.val (.ref a1), .val (.ref a2), .val (.int (0 : Int32))] [(.int (0 : Int32))]) t → Steps p.tables e below E0 t := by
          intro t k
          refine pre_38 t ?_
          show Sp p e below s₁ (mkF m 21 #[.val (.ref a1), .val (.ref a2), .val (.int (0 : Int32))] [(.int (d0).toInt8.toInt32), (.int (c0).toInt8.toInt32)]) _
          refine XS.icmpNo X0.here hx rfl (hb hby d_jdk_43_13_21) rfl (XT.ii_eq_f hc39) ?_
          refine XS.iconst X0.here hx rfl (hb hby d_jdk_43_13_24) ?_
          show Sp p e below s₁ (mkF m 25 #[.val (.ref a1), .val (.ref a2), .val (.int (0 : Int32))] [(.int (0 : Int32))]) _
          exact k
        obtain ⟨fs, hr, hrun, hended, hW, hsame⟩ := X0.leave (v := some (.int (0 : Int32))) (fun h => by rw [Bd.returns] at h; cases h)
        refine ⟨_, _, pre_48 _ ?_, hrun, hended, _, _, rfl, ?_, ⟨_, rfl⟩, hW, hsame.mono (by decide) (by decide)⟩
        · show Sp p e below s₁ (mkF m 25 #[.val (.ref a1), .val (.ref a2), .val (.int (0 : Int32))] [(.int (0 : Int32))]) _
          exact retN X0 hx (t := .boolean) Bd.returns (by simp) (hb hby d_jdk_43_13_25) hr
        · show Q_lat Z _ _ _ _ _ _ _ _ _ _ h0 n0 _ s₁.heap _
          rw [e0]
          exact ⟨by unfold own_eqv; rw [if_pos rfl, if_neg (by decide), if_neg (fun q => hc39 ((own_byeq hc0 hd0).mpr q))], N0, rfl⟩
theorem d_jdk_42_66_0 : decode jdk_42_method_66_code 0 = .ok (.aload_n 0, 1) := by decide +kernel
theorem d_jdk_42_66_1 : decode jdk_42_method_66_code 1 = .ok (.aload_n 1, 1) := by decide +kernel
theorem d_jdk_42_66_2 : decode jdk_42_method_66_code 2 = .ok (.if_acmp .ne 5, 3) := by decide +kernel
theorem d_jdk_42_66_7 : decode jdk_42_method_66_code 7 = .ok (.aload_n 1, 1) := by decide +kernel
theorem d_jdk_42_66_8 : decode jdk_42_method_66_code 8 = .ok (.instanceof 10, 3) := by decide +kernel
theorem d_jdk_42_66_11 : decode jdk_42_method_66_code 11 = .ok (.ifCond .eq 43, 3) := by decide +kernel
theorem d_jdk_42_66_14 : decode jdk_42_method_66_code 14 = .ok (.aload_n 1, 1) := by decide +kernel
theorem d_jdk_42_66_15 : decode jdk_42_method_66_code 15 = .ok (.checkcast 10, 3) := by decide +kernel
theorem d_jdk_42_66_18 : decode jdk_42_method_66_code 18 = .ok (.astore_n 2, 1) := by decide +kernel
theorem d_jdk_42_66_19 : decode jdk_42_method_66_code 19 = .ok (.getstatic 38, 3) := by decide +kernel
theorem d_jdk_42_66_22 : decode jdk_42_method_66_code 22 = .ok (.ifCond .eq 14, 3) := by decide +kernel
theorem d_jdk_42_66_25 : decode jdk_42_method_66_code 25 = .ok (.aload_n 0, 1) := by decide +kernel
theorem d_jdk_42_66_26 : decode jdk_42_method_66_code 26 = .ok (.getfield 15, 3) := by decide +kernel
theorem d_jdk_42_66_29 : decode jdk_42_method_66_code 29 = .ok (.aload_n 2, 1) := by decide +kernel
theorem d_jdk_42_66_30 : decode jdk_42_method_66_code 30 = .ok (.getfield 15, 3) := by decide +kernel
theorem d_jdk_42_66_33 : decode jdk_42_method_66_code 33 = .ok (.if_icmp .ne 21, 3) := by decide +kernel
theorem d_jdk_42_66_36 : decode jdk_42_method_66_code 36 = .ok (.aload_n 0, 1) := by decide +kernel
theorem d_jdk_42_66_37 : decode jdk_42_method_66_code 37 = .ok (.getfield 9, 3) := by decide +kernel
theorem d_jdk_42_66_40 : decode jdk_42_method_66_code 40 = .ok (.aload_n 2, 1) := by decide +kernel
theorem d_jdk_42_66_41 : decode jdk_42_method_66_code 41 = .ok (.getfield 9, 3) := by decide +kernel
theorem d_jdk_42_66_44 : decode jdk_42_method_66_code 44 = .ok (.invokestatic 541, 3) := by decide +kernel
theorem d_jdk_42_66_47 : decode jdk_42_method_66_code 47 = .ok (.ifCond .eq 7, 3) := by decide +kernel
theorem d_jdk_42_66_50 : decode jdk_42_method_66_code 50 = .ok (.iconst 1, 1) := by decide +kernel
theorem d_jdk_42_66_51 : decode jdk_42_method_66_code 51 = .ok (.goto 4, 3) := by decide +kernel
theorem d_jdk_42_66_54 : decode jdk_42_method_66_code 54 = .ok (.iconst 0, 1) := by decide +kernel
theorem d_jdk_42_66_55 : decode jdk_42_method_66_code 55 = .ok (.ireturn, 1) := by decide +kernel
theorem pn_seq : plainName "java/lang/String" = true := by first | (simp [plainName, overriddenIn]; done) | decide +kernel
theorem pd_seq_0 : parseMethodDescriptor "([B[B)Z" = some ⟨[(.array .byte), (.array .byte)], some .boolean⟩ := by decide +kernel
theorem ef_seq (m : MethodId) (a1 : Addr) (a2 : Addr) : entryFrame m #[(.ref a1), (.ref a2)] 3 = (mkF m 0 #[.val (.ref a1), .val (.ref a2), .unset] []) := by first | (simp [entryFrame, mkF, argsToLocals, Value.category]; done) | rfl
def Q_seq (Z : State) (a1 : Addr) (a2 : Addr) (b1 b2 : Addr) (G1 : Int32) (k1 k2 : ClassId) (nn mm c0 c1 d0 d1 : Int32) (h0 : Heap) (n0 : Nat) (v : Option Value) (h : Heap) (L : List Loc) : Prop := v = some (.int (own_eqv nn mm c0 d0 c1 d1)) ∧ Fr n0 L ∧ h = h0
set_option maxRecDepth 65536 in
set_option maxHeartbeats 40000000 in
theorem rm_seq (l : Launch) (Z : State) (a0 : Array Value) (hw : ∀ d ∈ tables_1, d.before a0 Z = true) (ws : List Jvm.Cond) (a1 : Addr) (a2 : Addr) (b1 b2 : Addr) (G1 : Int32) (k1 k2 : ClassId) (nn mm c0 c1 d0 d1 : Int32) (h0 : Heap) (n0 : Nat) (O0 : Old Z n0 h0) (E2 : Exa Z h0 a2 "java/lang/String") (FC1 : Fld Z h0 a1 "java/lang/String" "coder" "B" (.int (0 : Int32))) (FC2 : Fld Z h0 a2 "java/lang/String" "coder" "B" (.int (0 : Int32))) (FV1 : Fld Z h0 a1 "java/lang/String" "value" "[B" (.ref b1)) (FV2 : Fld Z h0 a2 "java/lang/String" "value" "[B" (.ref b2)) (A1 : own_Ar Z h0 b1 k1 nn c0 c1) (A2 : own_Ar Z h0 b2 k2 mm d0 d1) (ne12 : ¬ a1 = a2) (SC : Sta Z Z.heap "java/lang/String" "COMPACT_STRINGS" "Z" (.int G1)) (hG : ¬ G1 = (0 : Int32)) (hc0 : ¬ (255 : Int32) < c0 ∧ ¬ c0 < (0 : Int32)) (hc1 : ¬ (255 : Int32) < c1 ∧ ¬ c1 < (0 : Int32)) (hd0 : ¬ (255 : Int32) < d0 ∧ ¬ d0 < (0 : Int32)) (hd1 : ¬ (255 : Int32) < d1 ∧ ¬ d1 < (0 : Int32)) :
    MetFree l (⟨"java/lang/String", "equals", "(Ljava/lang/Object;)Z"⟩ : MethodName) (head1 (Jvm.Cond.code (⟨"java/lang/String", "equals", "(Ljava/lang/Object;)Z"⟩ : MethodName) jdk_42_method_66_code 3 (some .boolean) :: ws) ({ frames := 1, cells := 0, slots := 0, locals := 14 } : Room)) (fun a U => a = #[(.ref a1), (.ref a2)] ∧ Z.Warmed39 U.vm ∧ U.heap = h0) (fun _ _ _ _ _ => True) (fun _ U o U' => ∃ v L, o = .returned v ∧ Q_seq Z a1 a2 b1 b2 G1 k1 k2 nn mm c0 c1 d0 d1 h0 n0 v U'.heap L ∧ FrameEnd U o U' L ({ frames := 1, cells := 0, slots := 0, locals := 14 } : Room).cells ({ frames := 1, cells := 0, slots := 0, locals := 14 } : Room).slots) := by
  refine MetFree.of_bodySF (plainFor_of_name pn_seq) hisR ?_
  intro p e s m args below meth c s₁ Bd hml0 hP hK
  obtain ⟨rfl, hZ, hh⟩ := hP
  have hx := Bd.exec
  have hby := Bd.bytes
  have hml : c.maxLocals = 3 := hml0
  have hown : s.vm.findClass "java/lang/String" = some m.cls := findClass_of_methodNamed Bd.named
  have hnm := (name_of_methodNamed Bd.named Bd.method).1
  have X0 : Stand p l e ({ frames := 1, cells := 0, slots := 0, locals := 14 } : Room) s m #[(.ref a1), (.ref a2)] below meth c s₁ [] 0 0 := Stand.of_body Bd
  have e0 : s₁.heap = h0 := by rw [← hh, Bd.state]; rfl
  have N0 := Fr.nil n0
  have pre0 : ∀ t, Steps p.tables e below (s₁.setTop (mkF m 0 #[.val (.ref a1), .val (.ref a2), .unset] [])) t → Steps p.tables e below (s₁.setTop (entryFrame m #[(.ref a1), (.ref a2)] 3)) t := fun t k => castTop (ef_seq m a1 a2) k
  generalize s₁.setTop (entryFrame m #[(.ref a1), (.ref a2)] 3) = E0 at pre0 ⊢
  have pre_1 : ∀ t, Sp p e below s₁ (mkF m 8 #[.val (.ref a1), .val (.ref a2), .unset] [(.ref a2)]) t → Steps p.tables e below E0 t := by
    intro t k
    refine pre0 t ?_
    show Sp p e below s₁ (mkF m 0 #[.val (.ref a1), .val (.ref a2), .unset] []) _
    refine XS.aloadN X0.here hx rfl (hb hby d_jdk_42_66_0) rfl rfl ?_
    refine XS.aloadN X0.here hx rfl (hb hby d_jdk_42_66_1) rfl rfl ?_
    refine XT.acmpYes X0.here hx rfl (pc0 := 2) (pc' := 7) rfl (hb hby d_jdk_42_66_2) rfl rfl rfl (XT.aa_ne_t (fun q => ne12 (Value.ref.inj q))) (by decide) (by decide) ?_
    refine XS.aloadN X0.here hx rfl (hb hby d_jdk_42_66_7) rfl rfl ?_
    show Sp p e below s₁ (mkF m 8 #[.val (.ref a1), .val (.ref a2), .unset] [(.ref a2)]) _
    exact k
  obtain ⟨T2, X2, e2, st2⟩ := instY X0 hx hZ hown (own_w hw 69 rfl) e0 (Ins.self E2) (g := (mkF m 8 #[.val (.ref a1), .val (.ref a2), .unset] [(.ref a2)])) rfl rfl (hb hby d_jdk_42_66_8)
  have pre_3 : ∀ t, Sp p e below T2 (mkF m 11 #[.val (.ref a1), .val (.ref a2), .unset] [(.int (1 : Int32))]) t → Steps p.tables e below E0 t := fun t k => pre_1 t (st2 t k)
  have pre_4 : ∀ t, Sp p e below T2 (mkF m 15 #[.val (.ref a1), .val (.ref a2), .unset] [(.ref a2)]) t → Steps p.tables e below E0 t := by
    intro t k
    refine pre_3 t ?_
    show Sp p e below T2 (mkF m 11 #[.val (.ref a1), .val (.ref a2), .unset] [(.int (1 : Int32))]) _
    refine XS.ifNo X2.here hx rfl (hb hby d_jdk_42_66_11) rfl (XT.i0_eq_f (by decide)) ?_
    refine XS.aloadN X2.here hx rfl (hb hby d_jdk_42_66_14) rfl rfl ?_
    exact k
  obtain ⟨T5, X5, e5, st5⟩ := castY X2 hx hZ hown (own_w hw 69 rfl) e2 (Ins.self E2) (g := (mkF m 15 #[.val (.ref a1), .val (.ref a2), .unset] [(.ref a2)])) rfl rfl (hb hby d_jdk_42_66_15)
  have pre_6 : ∀ t, Sp p e below T5 (mkF m 18 #[.val (.ref a1), .val (.ref a2), .unset] [(.ref a2)]) t → Steps p.tables e below E0 t := fun t k => pre_4 t (st5 t k)
  have pre_7 : ∀ t, Sp p e below T5 (mkF m 19 #[.val (.ref a1), .val (.ref a2), .val (.ref a2)] []) t → Steps p.tables e below E0 t := by
    intro t k
    refine pre_6 t ?_
    show Sp p e below T5 (mkF m 18 #[.val (.ref a1), .val (.ref a2), .unset] [(.ref a2)]) _
    refine XS.astoreN X5.here hx rfl (hb hby d_jdk_42_66_18) rfl rfl (l' := #[.val (.ref a1), .val (.ref a2), .val (.ref a2)]) rfl ?_
    exact k
  obtain ⟨T8, X8, e8, st8⟩ := getS X5 hx hZ hown (host := "") (own_w hw 53 rfl) Via.refl e5 (SC.ext O0.2) (g := (mkF m 19 #[.val (.ref a1), .val (.ref a2), .val (.ref a2)] [])) rfl (hb hby d_jdk_42_66_19)
  have pre_9 : ∀ t, Sp p e below T8 (mkF m 22 #[.val (.ref a1), .val (.ref a2), .val (.ref a2)] [(.int G1)]) t → Steps p.tables e below E0 t := fun t k => pre_7 t (st8 t k)
  have pre_10 : ∀ t, Sp p e below T8 (mkF m 26 #[.val (.ref a1), .val (.ref a2), .val (.ref a2)] [(.ref a1)]) t → Steps p.tables e below E0 t := by
    intro t k
    refine pre_9 t ?_
    show Sp p e below T8 (mkF m 22 #[.val (.ref a1), .val (.ref a2), .val (.ref a2)] [(.int G1)]) _
    refine XS.ifNo X8.here hx rfl (hb hby d_jdk_42_66_22) rfl (XT.i0_eq_f hG) ?_
    show Sp p e below T8 (mkF m 25 #[.val (.ref a1), .val (.ref a2), .val (.ref a2)] []) _
    refine XS.aloadN X8.here hx rfl (hb hby d_jdk_42_66_25) rfl rfl ?_
    exact k
  obtain ⟨T11, X11, e11, st11⟩ := getF X8 hx hZ hown (host := "") (Or.inl (own_w hw 28 rfl)) Via.refl e8 FC1 (g := (mkF m 26 #[.val (.ref a1), .val (.ref a2), .val (.ref a2)] [(.ref a1)])) rfl rfl (hb hby d_jdk_42_66_26)
  have pre_12 : ∀ t, Sp p e below T11 (mkF m 29 #[.val (.ref a1), .val (.ref a2), .val (.ref a2)] [(.int (0 : Int32))]) t → Steps p.tables e below E0 t := fun t k => pre_10 t (st11 t k)
  have pre_13 : ∀ t, Sp p e below T11 (mkF m 30 #[.val (.ref a1), .val (.ref a2), .val (.ref a2)] [(.ref a2), (.int (0 : Int32))]) t → Steps p.tables e below E0 t := by
    intro t k
    refine pre_12 t ?_
    show Sp p e below T11 (mkF m 29 #[.val (.ref a1), .val (.ref a2), .val (.ref a2)] [(.int (0 : Int32))]) _
    refine XS.aloadN X11.here hx rfl (hb hby d_jdk_42_66_29) rfl rfl ?_
    exact k
  obtain ⟨T14, X14, e14, st14⟩ := getF X11 hx hZ hown (host := "") (Or.inl (own_w hw 28 rfl)) Via.refl e11 FC2 (g := (mkF m 30 #[.val (.ref a1), .val (.ref a2), .val (.ref a2)] [(.ref a2), (.int (0 : Int32))])) rfl rfl (hb hby d_jdk_42_66_30)
  have pre_15 : ∀ t, Sp p e below T14 (mkF m 33 #[.val (.ref a1), .val (.ref a2), .val (.ref a2)] [(.int (0 : Int32)), (.int (0 : Int32))]) t → Steps p.tables e below E0 t := fun t k => pre_13 t (st14 t k)
  have pre_16 : ∀ t, Sp p e below T14 (mkF m 37 #[.val (.ref a1), .val (.ref a2), .val (.ref a2)] [(.ref a1)]) t → Steps p.tables e below E0 t := by
    intro t k
    refine pre_15 t ?_
    show Sp p e below T14 (mkF m 33 #[.val (.ref a1), .val (.ref a2), .val (.ref a2)] [(.int (0 : Int32)), (.int (0 : Int32))]) _
    refine XS.icmpNo X14.here hx rfl (hb hby d_jdk_42_66_33) rfl (XT.ii_ne_f (by decide)) ?_
    refine XS.aloadN X14.here hx rfl (hb hby d_jdk_42_66_36) rfl rfl ?_
    show Sp p e below T14 (mkF m 37 #[.val (.ref a1), .val (.ref a2), .val (.ref a2)] [(.ref a1)]) _
    exact k
  obtain ⟨T17, X17, e17, st17⟩ := getF X14 hx hZ hown (host := "") (Or.inl (own_w hw 27 rfl)) Via.refl e14 FV1 (g := (mkF m 37 #[.val (.ref a1), .val (.ref a2), .val (.ref a2)] [(.ref a1)])) rfl rfl (hb hby d_jdk_42_66_37)
  have pre_18 : ∀ t, Sp p e below T17 (mkF m 40 #[.val (.ref a1), .val (.ref a2), .val (.ref a2)] [(.ref b1)]) t → Steps p.tables e below E0 t := fun t k => pre_16 t (st17 t k)
  have pre_19 : ∀ t, Sp p e below T17 (mkF m 41 #[.val (.ref a1), .val (.ref a2), .val (.ref a2)] [(.ref a2), (.ref b1)]) t → Steps p.tables e below E0 t := by
    intro t k
    refine pre_18 t ?_
    show Sp p e below T17 (mkF m 40 #[.val (.ref a1), .val (.ref a2), .val (.ref a2)] [(.ref b1)]) _
    refine XS.aloadN X17.here hx rfl (hb hby d_jdk_42_66_40) rfl rfl ?_
    exact k
  obtain ⟨T20, X20, e20, st20⟩ := getF X17 hx hZ hown (host := "") (Or.inl (own_w hw 27 rfl)) Via.refl e17 FV2 (g := (mkF m 41 #[.val (.ref a1), .val (.ref a2), .val (.ref a2)] [(.ref a2), (.ref b1)])) rfl rfl (hb hby d_jdk_42_66_41)
  have pre_21 : ∀ t, Sp p e below T20 (mkF m 44 #[.val (.ref a1), .val (.ref a2), .val (.ref a2)] [(.ref b2), (.ref b1)]) t → Steps p.tables e below E0 t := fun t k => pre_19 t (st20 t k)
  obtain ⟨_, _, ⟨T22, L22, k22, n22⟩, -, X22, ⟨Lc22, hQ22, l22, y22, z22⟩, st22⟩ := Jvm.LawKit.callS X20 hx (y := (⟨"java/lang/StringLatin1", "equals", "([B[B)Z"⟩ : MethodName)) hown (mvT hZ (own_w hw 70 rfl)) (mvT hZ (own_w hw 71 rfl)) (mvT hZ (own_w hw 72 rfl)) (mvT hZ (own_w hw 73 rfl)) (by decide) (backOf (W := 0) (rm_lat l Z a0 hw [] b1 b2 k1 k2 nn mm c0 c1 d0 d1 h0 n0 O0 A1 A2 hc0 hc1 hd0 hd1) hZ (own_w hw 73 rfl) (own_w hw 72 rfl) (by decide) (by decide)) (g := (mkF m 44 #[.val (.ref a1), .val (.ref a2), .val (.ref a2)] [(.ref b2), (.ref b1)])) rfl (by rw [hml]; rfl) (argsL := [(.ref b1), (.ref b2)]) (rest := []) (lenOf pd_seq_0 rfl) rfl (by show 2 * 0 + _ ≤ _; exact Nat.le_of_eq rfl) (hb hby d_jdk_42_66_44) (fun _ _ => ⟨rfl, e20, (by decide : 0 + 0 ≤ _), (by decide : 0 + 0 ≤ _)⟩)
  dsimp only [Pt.U, Pt.locs, Pt.cells, Pt.slots] at X22 l22 y22 z22 st22 hQ22
  subst l22 y22 z22
  obtain ⟨rfl, N22q, e22⟩ := hQ22
  have N22 := Fr.app N0 N22q
  have pre_23 : ∀ t, Sp p e below T22 (mkF m 47 #[.val (.ref a1), .val (.ref a2), .val (.ref a2)] [(.int (own_eqv nn mm c0 d0 c1 d1))]) t → Steps p.tables e below E0 t := fun t k => pre_21 t (st22 t k)
  rcases own_eqv01 nn mm c0 d0 c1 d1 with hv | hv
  · skip
    have pre_24 : ∀ t, Sp p e below T22 (mkF m 55 #[.val (.ref a1), .val (.ref a2), .val (.ref a2)] [(.int (0 : Int32))]) t → Steps p.tables e below E0 t := by
      intro t k
      refine pre_23 t ?_
      show Sp p e below T22 (mkF m 47 #[.val (.ref a1), .val (.ref a2), .val (.ref a2)] [(.int (own_eqv nn mm c0 d0 c1 d1))]) _
      refine XS.ifYes X22.here hx rfl (pc0 := 47) (pc' := 54) rfl (hb hby d_jdk_42_66_47) rfl (XT.i0_eq_t hv) (by decide) (by decide) ?_
      refine XS.iconst X22.here hx rfl (hb hby d_jdk_42_66_54) ?_
      exact k
    obtain ⟨fs, hr, hrun, hended, hW, hsame⟩ := X22.leave (v := some (.int (0 : Int32))) (fun h => by rw [Bd.returns] at h; cases h)
    refine ⟨_, _, pre_24 _ ?_, hrun, hended, _, _, rfl, ?_, ⟨_, rfl⟩, hW, hsame.mono (by decide) (by decide)⟩
    · show Sp p e below T22 (mkF m 55 #[.val (.ref a1), .val (.ref a2), .val (.ref a2)] [(.int (0 : Int32))]) _
      exact retN X22 hx (t := .boolean) Bd.returns (by simp) (hb hby d_jdk_42_66_55) hr
    · show Q_seq Z _ _ _ _ _ _ _ _ _ _ _ _ _ h0 n0 _ T22.heap _
      rw [e22]
      exact ⟨by rw [hv], N22, rfl⟩
  · skip
    have pre_25 : ∀ t, Sp p e below T22 (mkF m 55 #[.val (.ref a1), .val (.ref a2), .val (.ref a2)] [(.int (1 : Int32))]) t → Steps p.tables e below E0 t := by
      intro t k
      refine pre_23 t ?_
      show Sp p e below T22 (mkF m 47 #[.val (.ref a1), .val (.ref a2), .val (.ref a2)] [(.int (own_eqv nn mm c0 d0 c1 d1))]) _
      refine XS.ifNo X22.here hx rfl (hb hby d_jdk_42_66_47) rfl (XT.i0_eq_f (by rw [hv]; decide)) ?_
      refine XS.iconst X22.here hx rfl (hb hby d_jdk_42_66_50) ?_
      refine XS.goto X22.here hx rfl (pc0 := 51) (pc' := 55) rfl (hb hby d_jdk_42_66_51) (by decide) (by decide) ?_
      show Sp p e below T22 (mkF m 55 #[.val (.ref a1), .val (.ref a2), .val (.ref a2)] [(.int (1 : Int32))]) _
      exact k
    obtain ⟨fs, hr, hrun, hended, hW, hsame⟩ := X22.leave (v := some (.int (1 : Int32))) (fun h => by rw [Bd.returns] at h; cases h)
    refine ⟨_, _, pre_25 _ ?_, hrun, hended, _, _, rfl, ?_, ⟨_, rfl⟩, hW, hsame.mono (by decide) (by decide)⟩
    · show Sp p e below T22 (mkF m 55 #[.val (.ref a1), .val (.ref a2), .val (.ref a2)] [(.int (1 : Int32))]) _
      exact retN X22 hx (t := .boolean) Bd.returns (by simp) (hb hby d_jdk_42_66_55) hr
    · show Q_seq Z _ _ _ _ _ _ _ _ _ _ _ _ _ h0 n0 _ T22.heap _
      rw [e22]
      exact ⟨by rw [hv], N22, rfl⟩
theorem d_method_2_0 : decode method_2_code 0 = .ok (.iload_n 0, 1) := by decide +kernel
theorem d_method_2_1 : decode method_2_code 1 = .ok (.ifCond .ne 14, 3) := by decide +kernel
theorem d_method_2_4 : decode method_2_code 4 = .ok (.new 7, 3) := by decide +kernel
theorem d_method_2_7 : decode method_2_code 7 = .ok (.dup, 1) := by decide +kernel
theorem d_method_2_8 : decode method_2_code 8 = .ok (.iconst 0, 1) := by decide +kernel
theorem d_method_2_9 : decode method_2_code 9 = .ok (.newarray .char, 2) := by decide +kernel
theorem d_method_2_11 : decode method_2_code 11 = .ok (.invokespecial 9, 3) := by decide +kernel
theorem d_method_2_14 : decode method_2_code 14 = .ok (.areturn, 1) := by decide +kernel
theorem d_method_2_15 : decode method_2_code 15 = .ok (.iload_n 0, 1) := by decide +kernel
theorem d_method_2_16 : decode method_2_code 16 = .ok (.iconst 1, 1) := by decide +kernel
theorem d_method_2_17 : decode method_2_code 17 = .ok (.if_icmp .ne 18, 3) := by decide +kernel
theorem d_method_2_20 : decode method_2_code 20 = .ok (.new 7, 3) := by decide +kernel
theorem d_method_2_23 : decode method_2_code 23 = .ok (.dup, 1) := by decide +kernel
theorem d_method_2_24 : decode method_2_code 24 = .ok (.iconst 1, 1) := by decide +kernel
theorem d_method_2_25 : decode method_2_code 25 = .ok (.newarray .char, 2) := by decide +kernel
theorem d_method_2_27 : decode method_2_code 27 = .ok (.dup, 1) := by decide +kernel
theorem d_method_2_28 : decode method_2_code 28 = .ok (.iconst 0, 1) := by decide +kernel
theorem d_method_2_29 : decode method_2_code 29 = .ok (.iload_n 1, 1) := by decide +kernel
theorem d_method_2_30 : decode method_2_code 30 = .ok (.castore, 1) := by decide +kernel
theorem d_method_2_31 : decode method_2_code 31 = .ok (.invokespecial 9, 3) := by decide +kernel
theorem d_method_2_34 : decode method_2_code 34 = .ok (.areturn, 1) := by decide +kernel
theorem d_method_2_35 : decode method_2_code 35 = .ok (.new 7, 3) := by decide +kernel
theorem d_method_2_38 : decode method_2_code 38 = .ok (.dup, 1) := by decide +kernel
theorem d_method_2_39 : decode method_2_code 39 = .ok (.iconst 2, 1) := by decide +kernel
theorem d_method_2_40 : decode method_2_code 40 = .ok (.newarray .char, 2) := by decide +kernel
theorem d_method_2_42 : decode method_2_code 42 = .ok (.dup, 1) := by decide +kernel
theorem d_method_2_43 : decode method_2_code 43 = .ok (.iconst 0, 1) := by decide +kernel
theorem d_method_2_44 : decode method_2_code 44 = .ok (.iload_n 1, 1) := by decide +kernel
theorem d_method_2_45 : decode method_2_code 45 = .ok (.castore, 1) := by decide +kernel
theorem d_method_2_46 : decode method_2_code 46 = .ok (.dup, 1) := by decide +kernel
theorem d_method_2_47 : decode method_2_code 47 = .ok (.iconst 1, 1) := by decide +kernel
theorem d_method_2_48 : decode method_2_code 48 = .ok (.iload_n 2, 1) := by decide +kernel
theorem d_method_2_49 : decode method_2_code 49 = .ok (.castore, 1) := by decide +kernel
theorem d_method_2_50 : decode method_2_code 50 = .ok (.invokespecial 9, 3) := by decide +kernel
theorem d_method_2_53 : decode method_2_code 53 = .ok (.areturn, 1) := by decide +kernel
theorem pn_strf : plainName "com/example/vaxwire/vaxwire/hl7/LocationInFieldOfPinLaw" = true := by first | (simp [plainName, overriddenIn]; done) | decide +kernel
theorem pd_strf_0 : parseMethodDescriptor "([C)V" = some ⟨[(.array .char)], none⟩ := by decide +kernel
theorem ef_strf (m : MethodId) (p1 : Int32) (p2 : Int32) (p3 : Int32) : entryFrame m #[(.int p1), (.int p2), (.int p3)] 3 = (mkF m 0 #[.val (.int p1), .val (.int p2), .val (.int p3)] []) := by first | (simp [entryFrame, mkF, argsToLocals, Value.category]; done) | rfl
def Q_strf (Z : State) (p1 : Int32) (p2 : Int32) (p3 : Int32) (G1 : Int32) (h0 : Heap) (n0 : Nat) (v : Option Value) (vm : Vm) (h : Heap) (L : List Loc) : Prop := ∃ a b kB, v = some (.ref a) ∧ Fr n0 L ∧ Keep h0 h [] ∧ h0.size ≤ a ∧ Exa Z h a "java/lang/String" ∧ Fld Z h a "java/lang/String" "coder" "B" (.int (0 : Int32)) ∧ Fld Z h a "java/lang/String" "value" "[B" (.ref b) ∧ own_Ar Z h b kB p1 p2 p3 ∧ own_L Z h vm
set_option maxRecDepth 65536 in
set_option maxHeartbeats 40000000 in
theorem rm_strf (l : Launch) (Z : State) (a0 : Array Value) (hw : ∀ d ∈ tables_1, d.before a0 Z = true) (ws : List Jvm.Cond) (p1 : Int32) (p2 : Int32) (p3 : Int32) (G1 : Int32) (h0 : Heap) (n0 : Nat) (O0 : Old Z n0 h0) (SC : Sta Z Z.heap "java/lang/String" "COMPACT_STRINGS" "Z" (.int G1)) (hG : ¬ G1 = (0 : Int32)) (hHC : Jvm.Lit.constHeld Z "java/lang/String" 7) (hCW : Jvm.Lit.compactW.before a0 Z = true) (hn : p1 = (0 : Int32) ∨ p1 = (1 : Int32) ∨ p1 = (2 : Int32)) (hr0 : ¬ (255 : Int32) < p2 ∧ ¬ p2 < (0 : Int32)) (hr1 : ¬ (255 : Int32) < p3 ∧ ¬ p3 < (0 : Int32)) (hq0 : nar .char p2 = p2) (hq1 : nar .char p3 = p3) :
    MetFree l (⟨"com/example/vaxwire/vaxwire/hl7/LocationInFieldOfPinLaw", "str", "(ICC)Ljava/lang/String;"⟩ : MethodName) (head1 (Jvm.Cond.code (⟨"com/example/vaxwire/vaxwire/hl7/LocationInFieldOfPinLaw", "str", "(ICC)Ljava/lang/String;"⟩ : MethodName) method_2_code 3 (some (.object "java/lang/String")) :: ws) ({ frames := 4, cells := 4, slots := 10, locals := 67 } : Room)) (fun a U => a = #[(.int p1), (.int p2), (.int p3)] ∧ Z.Warmed39 U.vm ∧ U.heap = h0 ∧ own_L Z h0 U.vm) (fun _ _ _ _ _ => True) (fun _ U o U' => ∃ v L, o = .returned v ∧ Q_strf Z p1 p2 p3 G1 h0 n0 v U'.vm U'.heap L ∧ ReturnedEndW U o U' L ({ frames := 4, cells := 4, slots := 10, locals := 67 } : Room).cells ({ frames := 4, cells := 4, slots := 10, locals := 67 } : Room).slots) := by
  refine MetFree.of_bodySF (plainFor_of_name pn_strf) hisR ?_
  intro p e s m args below meth c s₁ Bd hml0 hP hK
  obtain ⟨rfl, hZ, hh, hPV⟩ := hP
  have hx := Bd.exec
  have hby := Bd.bytes
  have hml : c.maxLocals = 3 := hml0
  have hown : s.vm.findClass "com/example/vaxwire/vaxwire/hl7/LocationInFieldOfPinLaw" = some m.cls := findClass_of_methodNamed Bd.named
  have hnm := (name_of_methodNamed Bd.named Bd.method).1
  have X0 : Stand p l e ({ frames := 4, cells := 4, slots := 10, locals := 67 } : Room) (s.setVm s.vm) m #[(.int p1), (.int p2), (.int p3)] below meth c s₁ [] 0 0 := Stand.of_body Bd
  have e0 : s₁.heap = h0 := by rw [← hh, Bd.state]; rfl
  have N0 := Fr.nil n0
  have pre0 : ∀ t, Steps p.tables e below (s₁.setTop (mkF m 0 #[.val (.int p1), .val (.int p2), .val (.int p3)] [])) t → Steps p.tables e below (s₁.setTop (entryFrame m #[(.int p1), (.int p2), (.int p3)] 3)) t := fun t k => castTop (ef_strf m p1 p2 p3) k
  generalize s₁.setTop (entryFrame m #[(.int p1), (.int p2), (.int p3)] 3) = E0 at pre0 ⊢
  rcases hPV with I0 | ⟨aE, bE, kE, xE, vE, cE, AE, hL⟩
  · skip
    rcases hn with rfl | rfl | rfl
    · skip
      have pre_1 : ∀ t, Sp p e below s₁ (mkF m 4 #[.val (.int (0 : Int32)), .val (.int p2), .val (.int p3)] []) t → Steps p.tables e below E0 t := by
        intro t k
        refine pre0 t ?_
        show Sp p e below s₁ (mkF m 0 #[.val (.int (0 : Int32)), .val (.int p2), .val (.int p3)] []) _
        refine XS.iloadN X0.here hx rfl (hb hby d_method_2_0) rfl ?_
        refine XS.ifNo X0.here hx rfl (hb hby d_method_2_1) rfl (XT.i0_ne_f (by decide)) ?_
        exact k
      obtain ⟨T2, h2, X2, e2, E2, A2, D2, -, st2⟩ := newO X0 hx hZ hown (own_w hw 7 rfl) (own_w hw 8 rfl) (own_w hw 9 rfl) e0 (g := (mkF m 4 #[.val (.int (0 : Int32)), .val (.int p2), .val (.int p3)] [])) rfl (hb hby d_method_2_4) (by decide) (by decide)
      obtain ⟨b2, g2⟩ : ∃ z, z = h0.size := ⟨_, rfl⟩
      rw [← g2] at A2 D2 st2
      have O2 : Old Z n0 h2 := O0.ext E2
      have F3 : Fld Z h2 b2 "java/lang/String" "value" "[B" .null := D2 (Or.inr (own_w hw 23 rfl)) (ty := (.array .byte)) (by decide)
      have F4 : Fld Z h2 b2 "java/lang/String" "coder" "B" (.int (0 : Int32)) := D2 (Or.inr (own_w hw 24 rfl)) (ty := .byte) (by decide)
      have pre_5 : ∀ t, Sp p e below T2 (mkF m 7 #[.val (.int (0 : Int32)), .val (.int p2), .val (.int p3)] [(.ref b2)]) t → Steps p.tables e below E0 t := fun t k => pre_1 t (st2 t k)
      have pre_6 : ∀ t, Sp p e below T2 (mkF m 9 #[.val (.int (0 : Int32)), .val (.int p2), .val (.int p3)] [(.int (0 : Int32)), (.ref b2), (.ref b2)]) t → Steps p.tables e below E0 t := by
        intro t k
        refine pre_5 t ?_
        show Sp p e below T2 (mkF m 7 #[.val (.int (0 : Int32)), .val (.int p2), .val (.int p3)] [(.ref b2)]) _
        refine XS.dup X2.here hx rfl (hb hby d_method_2_7) rfl rfl ?_
        refine XS.iconst X2.here hx rfl (hb hby d_method_2_8) ?_
        show Sp p e below T2 (mkF m 9 #[.val (.int (0 : Int32)), .val (.int p2), .val (.int p3)] [(.int (0 : Int32)), (.ref b2), (.ref b2)]) _
        exact k
      obtain ⟨T7, h7, cA7, X7, e7, E7, A7, st7⟩ := newP X2 hx hZ (own_w hw 10 rfl) e2 (g := (mkF m 9 #[.val (.int (0 : Int32)), .val (.int p2), .val (.int p3)] [(.int (0 : Int32)), (.ref b2), (.ref b2)])) rfl (hb hby d_method_2_9) rfl (by decide) (cap := 0) (by decide) (by decide) (by decide) (by decide)
      obtain ⟨b7, g7⟩ : ∃ z, z = h2.size := ⟨_, rfl⟩
      rw [← g7] at A7 st7
      have O7 : Old Z n0 h7 := O2.ext E7
      have V7 : Arv Z h7 b7 cA7 .char (0 : Int32) [] (.int (0 : Int32)) := (Arv.new A7 (by decide)).pad (pad_rep [] _ 0)
      have pre_8 : ∀ t, Sp p e below T7 (mkF m 11 #[.val (.int (0 : Int32)), .val (.int p2), .val (.int p3)] [(.ref b7), (.ref b2), (.ref b2)]) t → Steps p.tables e below E0 t := fun t k => pre_6 t (st7 t k)
      obtain ⟨_, _, ⟨T9, L9, k9, n9⟩, -, Y9, hs9, hg9, ⟨Lc9, hQ9, l9, y9, z9⟩, st9⟩ := X7.specialBackS hx (y := (⟨"java/lang/String", "<init>", "([C)V"⟩ : MethodName)) rfl hown (mvT hZ (own_w hw 11 rfl)) (mvT hZ (own_w hw 12 rfl)) (mvT hZ (own_w hw 13 rfl)) (by decide) (own_backS (W := 1) (rm_str0A l Z a0 hw [] b2 b7 (.int (0 : Int32))  cA7 h7 n0 O7 (A2.ext E7) (F3.ext E7) (F4.ext E7) (Nat.le_trans (own_le O0) (Nat.le_of_eq g2.symm)) hHC hCW V7) hZ (own_w hw 13 rfl) (own_w hw 9 rfl) (by decide) (by decide) (fun _ q => own_IBw I0 q)) (g := (mkF m 11 #[.val (.int (0 : Int32)), .val (.int p2), .val (.int p3)] [(.ref b7), (.ref b2), (.ref b2)])) rfl (by rw [hml]; rfl) (Steps.refl _) (a := b2) (argsL := [(.ref b7)]) (rest := [(.ref b2)]) (lenOf pd_strf_0 rfl) rfl (by show 2 * 0 + _ ≤ _; exact Nat.le_of_eq rfl) (hb hby d_method_2_11) (fun _ _ => ⟨rfl, e7, (by decide : 2 + 2 ≤ _), (by decide : 4 + 4 ≤ _)⟩)
      dsimp only [Pt.U, Pt.locs, Pt.cells, Pt.slots] at Y9 hs9 hg9 l9 y9 z9 st9 hQ9
      subst l9 y9 z9
      obtain ⟨X9, hS9, hZ9, ho9⟩ := rebS ((State.WarmedH.refl s).since 0) (by rw [e7]; exact (Nat.le_trans (Nat.zero_le _) (Nat.le_trans (Nat.le_trans (Nat.le_refl _) E2.1) E7.1))) Y9 hs9 hg9 hZ hown
      obtain ⟨rfl, N9q, K9, Fc9, aE9, bE9, kE9, Fv9, Ab9, xE9, vE9, cE9, hL9⟩ := hQ9
      have N9 := Fr.app N0 N9q
      have O9 : Old Z n0 T9.heap := O7.keep K9 (allS (Nat.le_trans (own_le O0) (Nat.le_of_eq g2.symm)) all0)
      have pre_10 : ∀ t, Sp p e below T9 (mkF m 14 #[.val (.int (0 : Int32)), .val (.int p2), .val (.int p3)] [(.ref b2)]) t → Steps p.tables e below E0 t := fun t k => pre_8 t (st9.trans k)
      obtain ⟨fs, hr, hrun, hended, hEnd⟩ := X9.leaveW hS9 (Nat.le_trans (Nat.le_refl _) (Nat.le_refl _)) (v := some (.ref b2)) (fun h => by rw [Bd.returns] at h; cases h)
      refine ⟨_, _, pre_10 _ ?_, hrun, hended, _, _, rfl, ?_, hEnd.1, hEnd.2.1, hEnd.2.2.1, hEnd.2.2.2.mono (by decide) (by decide)⟩
      · show Sp p e below T9 (mkF m 14 #[.val (.int (0 : Int32)), .val (.int p2), .val (.int p3)] [(.ref b2)]) _
        exact retOut X9 hx (t := (.object "java/lang/String")) Bd.returns rfl (Or.inr (Or.inr (Or.inr (Or.inr ⟨rfl, rfl, rfl⟩)))) (hb hby d_method_2_14) hr
      · show Q_strf Z _ _ _ _ h0 n0 _ T9.vm T9.heap _
        exact ⟨b2, bE9, kE9, rfl, N9, ((((Keep.refl h0 []).ext E2).ext E7).trans K9 (allS (Or.inr (Nat.le_trans (Keep.refl h0 []).1 (Nat.le_of_eq g2.symm))) all0)), (Nat.le_trans (Keep.refl h0 []).1 (Nat.le_of_eq g2.symm)), ((A2.ext E7).keep K9), Fc9, Fv9, (Or.inl ⟨rfl, Ab9⟩), (Or.inr ⟨aE9, bE9, kE9, xE9, vE9, cE9, Ab9, (Lit.stays (hL9 : Lit (s.setVm T9.vm) "java/lang/String" 7 aE9) X9.warmed.wide)⟩)⟩
    · skip
      have pre_11 : ∀ t, Sp p e below s₁ (mkF m 20 #[.val (.int (1 : Int32)), .val (.int p2), .val (.int p3)] []) t → Steps p.tables e below E0 t := by
        intro t k
        refine pre0 t ?_
        show Sp p e below s₁ (mkF m 0 #[.val (.int (1 : Int32)), .val (.int p2), .val (.int p3)] []) _
        refine XS.iloadN X0.here hx rfl (hb hby d_method_2_0) rfl ?_
        refine XS.ifYes X0.here hx rfl (pc0 := 1) (pc' := 15) rfl (hb hby d_method_2_1) rfl (XT.i0_ne_t (by decide)) (by decide) (by decide) ?_
        refine XS.iloadN X0.here hx rfl (hb hby d_method_2_15) rfl ?_
        refine XS.iconst X0.here hx rfl (hb hby d_method_2_16) ?_
        show Sp p e below s₁ (mkF m 17 #[.val (.int (1 : Int32)), .val (.int p2), .val (.int p3)] [(.int (1 : Int32)), (.int (1 : Int32))]) _
        refine XS.icmpNo X0.here hx rfl (hb hby d_method_2_17) rfl (XT.ii_ne_f (by decide)) ?_
        exact k
      obtain ⟨T12, h12, X12, e12, E12, A12, D12, -, st12⟩ := newO X0 hx hZ hown (own_w hw 7 rfl) (own_w hw 8 rfl) (own_w hw 9 rfl) e0 (g := (mkF m 20 #[.val (.int (1 : Int32)), .val (.int p2), .val (.int p3)] [])) rfl (hb hby d_method_2_20) (by decide) (by decide)
      obtain ⟨b12, g12⟩ : ∃ z, z = h0.size := ⟨_, rfl⟩
      rw [← g12] at A12 D12 st12
      have O12 : Old Z n0 h12 := O0.ext E12
      have F13 : Fld Z h12 b12 "java/lang/String" "value" "[B" .null := D12 (Or.inr (own_w hw 23 rfl)) (ty := (.array .byte)) (by decide)
      have F14 : Fld Z h12 b12 "java/lang/String" "coder" "B" (.int (0 : Int32)) := D12 (Or.inr (own_w hw 24 rfl)) (ty := .byte) (by decide)
      have pre_15 : ∀ t, Sp p e below T12 (mkF m 23 #[.val (.int (1 : Int32)), .val (.int p2), .val (.int p3)] [(.ref b12)]) t → Steps p.tables e below E0 t := fun t k => pre_11 t (st12 t k)
      have pre_16 : ∀ t, Sp p e below T12 (mkF m 25 #[.val (.int (1 : Int32)), .val (.int p2), .val (.int p3)] [(.int (1 : Int32)), (.ref b12), (.ref b12)]) t → Steps p.tables e below E0 t := by
        intro t k
        refine pre_15 t ?_
        show Sp p e below T12 (mkF m 23 #[.val (.int (1 : Int32)), .val (.int p2), .val (.int p3)] [(.ref b12)]) _
        refine XS.dup X12.here hx rfl (hb hby d_method_2_23) rfl rfl ?_
        refine XS.iconst X12.here hx rfl (hb hby d_method_2_24) ?_
        exact k
      obtain ⟨T17, h17, cA17, X17, e17, E17, A17, st17⟩ := newP X12 hx hZ (own_w hw 10 rfl) e12 (g := (mkF m 25 #[.val (.int (1 : Int32)), .val (.int p2), .val (.int p3)] [(.int (1 : Int32)), (.ref b12), (.ref b12)])) rfl (hb hby d_method_2_25) rfl (by decide) (cap := 1) (by decide) (by decide) (by decide) (by decide)
      obtain ⟨b17, g17⟩ : ∃ z, z = h12.size := ⟨_, rfl⟩
      rw [← g17] at A17 st17
      have O17 : Old Z n0 h17 := O12.ext E17
      have V17 : Arv Z h17 b17 cA17 .char (1 : Int32) [(.int (0 : Int32))] (.int (0 : Int32)) := (Arv.new A17 (by decide)).pad (pad_rep [] _ 1)
      have pre_18 : ∀ t, Sp p e below T17 (mkF m 27 #[.val (.int (1 : Int32)), .val (.int p2), .val (.int p3)] [(.ref b17), (.ref b12), (.ref b12)]) t → Steps p.tables e below E0 t := fun t k => pre_16 t (st17 t k)
      have pre_19 : ∀ t, Sp p e below T17 (mkF m 30 #[.val (.int (1 : Int32)), .val (.int p2), .val (.int p3)] [(.int p2), (.int (0 : Int32)), (.ref b17), (.ref b17), (.ref b12), (.ref b12)]) t → Steps p.tables e below E0 t := by
        intro t k
        refine pre_18 t ?_
        show Sp p e below T17 (mkF m 27 #[.val (.int (1 : Int32)), .val (.int p2), .val (.int p3)] [(.ref b17), (.ref b12), (.ref b12)]) _
        refine XS.dup X17.here hx rfl (hb hby d_method_2_27) rfl rfl ?_
        show Sp p e below T17 (mkF m 28 #[.val (.int (1 : Int32)), .val (.int p2), .val (.int p3)] [(.ref b17), (.ref b17), (.ref b12), (.ref b12)]) _
        refine XS.iconst X17.here hx rfl (hb hby d_method_2_28) ?_
        refine XS.iloadN X17.here hx rfl (hb hby d_method_2_29) rfl ?_
        exact k
      obtain ⟨cl20, Ar20, q20, S20, M20, H20, G20⟩ := id V17
      obtain ⟨T20, h20, X20, e20, W20, st20⟩ := stC X17 hx hZ e17 Ar20 (j := (0 : Int32)) (inb_of S20 (by decide)) (g := (mkF m 30 #[.val (.int (1 : Int32)), .val (.int p2), .val (.int p3)] [(.int p2), (.int (0 : Int32)), (.ref b17), (.ref b17), (.ref b12), (.ref b12)])) rfl rfl (hb hby d_method_2_30)
      have N20 := Fr.snoc X20 N0 (Nat.le_trans (own_le O12) (Nat.le_of_eq g17.symm))
      have O20 : Old Z n0 h20 := O17.wr W20 (Nat.le_trans (own_le O12) (Nat.le_of_eq g17.symm))
      rw [hq0] at W20
      have V20 : Arv Z h20 b17 cA17 .char (1 : Int32) [(.int p2)] (.int (0 : Int32)) := Arv.set Ar20 q20 S20 M20 H20 G20 (by rw [← hq0]; exact (fits_nar_char _)) W20 0 rfl (Nat.le_of_ble_eq_true rfl)
      have pre_21 : ∀ t, Sp p e below T20 (mkF m 31 #[.val (.int (1 : Int32)), .val (.int p2), .val (.int p3)] [(.ref b17), (.ref b12), (.ref b12)]) t → Steps p.tables e below E0 t := fun t k => pre_19 t (st20 t k)
      obtain ⟨_, _, ⟨T22, L22, k22, n22⟩, -, X22, ⟨Lc22, hQ22, l22, y22, z22⟩, st22⟩ := X20.specialBack hx (y := (⟨"java/lang/String", "<init>", "([C)V"⟩ : MethodName)) rfl hown (mvT hZ (own_w hw 11 rfl)) (mvT hZ (own_w hw 12 rfl)) (mvT hZ (own_w hw 13 rfl)) (by decide) (backOf (W := 1) (rm_str1 l Z a0 hw [] b12 b17 .null (.int (0 : Int32)) G1 cA17 p2 h20 n0 O20 ((A12.ext E17).wr W20) ((F13.ext E17).other W20 (Or.inl (Nat.ne_of_lt (Nat.lt_of_lt_of_le A12.lt (Nat.le_of_eq g17.symm))))) ((F14.ext E17).other W20 (Or.inl (Nat.ne_of_lt (Nat.lt_of_lt_of_le A12.lt (Nat.le_of_eq g17.symm))))) (Nat.le_trans (own_le O0) (Nat.le_of_eq g12.symm)) SC hG V20 hr0.1) hZ (own_w hw 13 rfl) (own_w hw 9 rfl) (by decide) (by decide)) (g := (mkF m 31 #[.val (.int (1 : Int32)), .val (.int p2), .val (.int p3)] [(.ref b17), (.ref b12), (.ref b12)])) rfl (by rw [hml]; rfl) (Steps.refl _) (a := b12) (argsL := [(.ref b17)]) (rest := [(.ref b12)]) (lenOf pd_strf_0 rfl) rfl (by show 2 * 0 + _ ≤ _; exact Nat.le_of_eq rfl) (hb hby d_method_2_31) (fun _ _ => ⟨rfl, e20, (by decide : 2 + 1 ≤ _), (by decide : 5 + 1 ≤ _)⟩)
      dsimp only [Pt.U, Pt.locs, Pt.cells, Pt.slots] at X22 l22 y22 z22 st22 hQ22
      subst l22 y22 z22
      obtain ⟨rfl, N22q, K22, Fc22, b22, kB22, sb22, Fv22, Vb22⟩ := hQ22
      have N22 := Fr.app N20 N22q
      have O22 : Old Z n0 T22.heap := O20.keep K22 (allS (Nat.le_trans (own_le O0) (Nat.le_of_eq g12.symm)) all0)
      have pre_23 : ∀ t, Sp p e below T22 (mkF m 34 #[.val (.int (1 : Int32)), .val (.int p2), .val (.int p3)] [(.ref b12)]) t → Steps p.tables e below E0 t := fun t k => pre_21 t (st22.trans k)
      obtain ⟨fs, hr, hrun, hended, hEnd⟩ := X22.leaveW ((State.WarmedH.refl s).since 0) (Nat.le_trans (Nat.zero_le _) (Nat.le_trans (Nat.le_trans (Nat.le_trans (Nat.le_trans (Nat.le_refl _) E12.1) E17.1) (Nat.le_of_eq W20.size.symm)) K22.1)) (v := some (.ref b12)) (fun h => by rw [Bd.returns] at h; cases h)
      refine ⟨_, _, pre_23 _ ?_, hrun, hended, _, _, rfl, ?_, hEnd.1, hEnd.2.1, hEnd.2.2.1, hEnd.2.2.2.mono (by decide) (by decide)⟩
      · show Sp p e below T22 (mkF m 34 #[.val (.int (1 : Int32)), .val (.int p2), .val (.int p3)] [(.ref b12)]) _
        exact retOut X22 hx (t := (.object "java/lang/String")) Bd.returns rfl (Or.inr (Or.inr (Or.inr (Or.inr ⟨rfl, rfl, rfl⟩)))) (hb hby d_method_2_34) hr
      · show Q_strf Z _ _ _ _ h0 n0 _ T22.vm T22.heap _
        exact ⟨b12, b22, kB22, rfl, N22, (((((Keep.refl h0 []).ext E12).ext E17).wr W20 (Or.inr (Nat.le_trans ((Keep.refl h0 []).ext E12).1 (Nat.le_of_eq g17.symm)))).trans K22 (allS (Or.inr (Nat.le_trans (Keep.refl h0 []).1 (Nat.le_of_eq g12.symm))) all0)), (Nat.le_trans (Keep.refl h0 []).1 (Nat.le_of_eq g12.symm)), (((A12.ext E17).wr W20).keep K22), Fc22, Fv22, (Or.inr (Or.inl ⟨rfl, Vb22⟩)), (Or.inl (own_IBw I0 X22.warmed))⟩
    · skip
      have pre_24 : ∀ t, Sp p e below s₁ (mkF m 35 #[.val (.int (2 : Int32)), .val (.int p2), .val (.int p3)] []) t → Steps p.tables e below E0 t := by
        intro t k
        refine pre0 t ?_
        show Sp p e below s₁ (mkF m 0 #[.val (.int (2 : Int32)), .val (.int p2), .val (.int p3)] []) _
        refine XS.iloadN X0.here hx rfl (hb hby d_method_2_0) rfl ?_
        refine XS.ifYes X0.here hx rfl (pc0 := 1) (pc' := 15) rfl (hb hby d_method_2_1) rfl (XT.i0_ne_t (by decide)) (by decide) (by decide) ?_
        refine XS.iloadN X0.here hx rfl (hb hby d_method_2_15) rfl ?_
        refine XS.iconst X0.here hx rfl (hb hby d_method_2_16) ?_
        show Sp p e below s₁ (mkF m 17 #[.val (.int (2 : Int32)), .val (.int p2), .val (.int p3)] [(.int (1 : Int32)), (.int (2 : Int32))]) _
        refine XS.icmpYes X0.here hx rfl (pc0 := 17) (pc' := 35) rfl (hb hby d_method_2_17) rfl (XT.ii_ne_t (by decide)) (by decide) (by decide) ?_
        exact k
      obtain ⟨T25, h25, X25, e25, E25, A25, D25, -, st25⟩ := newO X0 hx hZ hown (own_w hw 7 rfl) (own_w hw 8 rfl) (own_w hw 9 rfl) e0 (g := (mkF m 35 #[.val (.int (2 : Int32)), .val (.int p2), .val (.int p3)] [])) rfl (hb hby d_method_2_35) (by decide) (by decide)
      obtain ⟨b25, g25⟩ : ∃ z, z = h0.size := ⟨_, rfl⟩
      rw [← g25] at A25 D25 st25
      have O25 : Old Z n0 h25 := O0.ext E25
      have F26 : Fld Z h25 b25 "java/lang/String" "value" "[B" .null := D25 (Or.inr (own_w hw 23 rfl)) (ty := (.array .byte)) (by decide)
      have F27 : Fld Z h25 b25 "java/lang/String" "coder" "B" (.int (0 : Int32)) := D25 (Or.inr (own_w hw 24 rfl)) (ty := .byte) (by decide)
      have pre_28 : ∀ t, Sp p e below T25 (mkF m 38 #[.val (.int (2 : Int32)), .val (.int p2), .val (.int p3)] [(.ref b25)]) t → Steps p.tables e below E0 t := fun t k => pre_24 t (st25 t k)
      have pre_29 : ∀ t, Sp p e below T25 (mkF m 40 #[.val (.int (2 : Int32)), .val (.int p2), .val (.int p3)] [(.int (2 : Int32)), (.ref b25), (.ref b25)]) t → Steps p.tables e below E0 t := by
        intro t k
        refine pre_28 t ?_
        show Sp p e below T25 (mkF m 38 #[.val (.int (2 : Int32)), .val (.int p2), .val (.int p3)] [(.ref b25)]) _
        refine XS.dup X25.here hx rfl (hb hby d_method_2_38) rfl rfl ?_
        refine XS.iconst X25.here hx rfl (hb hby d_method_2_39) ?_
        exact k
      obtain ⟨T30, h30, cA30, X30, e30, E30, A30, st30⟩ := newP X25 hx hZ (own_w hw 10 rfl) e25 (g := (mkF m 40 #[.val (.int (2 : Int32)), .val (.int p2), .val (.int p3)] [(.int (2 : Int32)), (.ref b25), (.ref b25)])) rfl (hb hby d_method_2_40) rfl (by decide) (cap := 2) (by decide) (by decide) (by decide) (by decide)
      obtain ⟨b30, g30⟩ : ∃ z, z = h25.size := ⟨_, rfl⟩
      rw [← g30] at A30 st30
      have O30 : Old Z n0 h30 := O25.ext E30
      have V30 : Arv Z h30 b30 cA30 .char (2 : Int32) [(.int (0 : Int32)), (.int (0 : Int32))] (.int (0 : Int32)) := (Arv.new A30 (by decide)).pad (pad_rep [] _ 2)
      have pre_31 : ∀ t, Sp p e below T30 (mkF m 42 #[.val (.int (2 : Int32)), .val (.int p2), .val (.int p3)] [(.ref b30), (.ref b25), (.ref b25)]) t → Steps p.tables e below E0 t := fun t k => pre_29 t (st30 t k)
      have pre_32 : ∀ t, Sp p e below T30 (mkF m 45 #[.val (.int (2 : Int32)), .val (.int p2), .val (.int p3)] [(.int p2), (.int (0 : Int32)), (.ref b30), (.ref b30), (.ref b25), (.ref b25)]) t → Steps p.tables e below E0 t := by
        intro t k
        refine pre_31 t ?_
        show Sp p e below T30 (mkF m 42 #[.val (.int (2 : Int32)), .val (.int p2), .val (.int p3)] [(.ref b30), (.ref b25), (.ref b25)]) _
        refine XS.dup X30.here hx rfl (hb hby d_method_2_42) rfl rfl ?_
        show Sp p e below T30 (mkF m 43 #[.val (.int (2 : Int32)), .val (.int p2), .val (.int p3)] [(.ref b30), (.ref b30), (.ref b25), (.ref b25)]) _
        refine XS.iconst X30.here hx rfl (hb hby d_method_2_43) ?_
        refine XS.iloadN X30.here hx rfl (hb hby d_method_2_44) rfl ?_
        exact k
      obtain ⟨cl33, Ar33, q33, S33, M33, H33, G33⟩ := id V30
      obtain ⟨T33, h33, X33, e33, W33, st33⟩ := stC X30 hx hZ e30 Ar33 (j := (0 : Int32)) (inb_of S33 (by decide)) (g := (mkF m 45 #[.val (.int (2 : Int32)), .val (.int p2), .val (.int p3)] [(.int p2), (.int (0 : Int32)), (.ref b30), (.ref b30), (.ref b25), (.ref b25)])) rfl rfl (hb hby d_method_2_45)
      have N33 := Fr.snoc X33 N0 (Nat.le_trans (own_le O25) (Nat.le_of_eq g30.symm))
      have O33 : Old Z n0 h33 := O30.wr W33 (Nat.le_trans (own_le O25) (Nat.le_of_eq g30.symm))
      rw [hq0] at W33
      have V33 : Arv Z h33 b30 cA30 .char (2 : Int32) [(.int p2), (.int (0 : Int32))] (.int (0 : Int32)) := Arv.set Ar33 q33 S33 M33 H33 G33 (by rw [← hq0]; exact (fits_nar_char _)) W33 0 rfl (Nat.le_of_ble_eq_true rfl)
      have pre_34 : ∀ t, Sp p e below T33 (mkF m 46 #[.val (.int (2 : Int32)), .val (.int p2), .val (.int p3)] [(.ref b30), (.ref b25), (.ref b25)]) t → Steps p.tables e below E0 t := fun t k => pre_32 t (st33 t k)
      have pre_35 : ∀ t, Sp p e below T33 (mkF m 49 #[.val (.int (2 : Int32)), .val (.int p2), .val (.int p3)] [(.int p3), (.int (1 : Int32)), (.ref b30), (.ref b30), (.ref b25), (.ref b25)]) t → Steps p.tables e below E0 t := by
        intro t k
        refine pre_34 t ?_
        show Sp p e below T33 (mkF m 46 #[.val (.int (2 : Int32)), .val (.int p2), .val (.int p3)] [(.ref b30), (.ref b25), (.ref b25)]) _
        refine XS.dup X33.here hx rfl (hb hby d_method_2_46) rfl rfl ?_
        refine XS.iconst X33.here hx rfl (hb hby d_method_2_47) ?_
        show Sp p e below T33 (mkF m 48 #[.val (.int (2 : Int32)), .val (.int p2), .val (.int p3)] [(.int (1 : Int32)), (.ref b30), (.ref b30), (.ref b25), (.ref b25)]) _
        refine XS.iloadN X33.here hx rfl (hb hby d_method_2_48) rfl ?_
        exact k
      obtain ⟨cl36, Ar36, q36, S36, M36, H36, G36⟩ := id V33
      obtain ⟨T36, h36, X36, e36, W36, st36⟩ := stC X33 hx hZ e33 Ar36 (j := (1 : Int32)) (inb_of S36 (by decide)) (g := (mkF m 49 #[.val (.int (2 : Int32)), .val (.int p2), .val (.int p3)] [(.int p3), (.int (1 : Int32)), (.ref b30), (.ref b30), (.ref b25), (.ref b25)])) rfl rfl (hb hby d_method_2_49)
      have N36 := Fr.snoc X36 N33 (Nat.le_trans (own_le O25) (Nat.le_of_eq g30.symm))
      have O36 : Old Z n0 h36 := O33.wr W36 (Nat.le_trans (own_le O25) (Nat.le_of_eq g30.symm))
      rw [hq1] at W36
      have V36 : Arv Z h36 b30 cA30 .char (2 : Int32) [(.int p2), (.int p3)] (.int (0 : Int32)) := Arv.set Ar36 q36 S36 M36 H36 G36 (by rw [← hq1]; exact (fits_nar_char _)) W36 1 rfl (Nat.le_of_ble_eq_true rfl)
      have pre_37 : ∀ t, Sp p e below T36 (mkF m 50 #[.val (.int (2 : Int32)), .val (.int p2), .val (.int p3)] [(.ref b30), (.ref b25), (.ref b25)]) t → Steps p.tables e below E0 t := fun t k => pre_35 t (st36 t k)
      obtain ⟨_, _, ⟨T38, L38, k38, n38⟩, -, X38, ⟨Lc38, hQ38, l38, y38, z38⟩, st38⟩ := X36.specialBack hx (y := (⟨"java/lang/String", "<init>", "([C)V"⟩ : MethodName)) rfl hown (mvT hZ (own_w hw 11 rfl)) (mvT hZ (own_w hw 12 rfl)) (mvT hZ (own_w hw 13 rfl)) (by decide) (backOf (W := 1) (rm_str2 l Z a0 hw [] b25 b30 .null (.int (0 : Int32)) G1 cA30 p2 p3 h36 n0 O36 (((A25.ext E30).wr W33).wr W36) (((F26.ext E30).other W33 (Or.inl (Nat.ne_of_lt (Nat.lt_of_lt_of_le A25.lt (Nat.le_of_eq g30.symm))))).other W36 (Or.inl (Nat.ne_of_lt (Nat.lt_of_lt_of_le A25.lt (Nat.le_of_eq g30.symm))))) (((F27.ext E30).other W33 (Or.inl (Nat.ne_of_lt (Nat.lt_of_lt_of_le A25.lt (Nat.le_of_eq g30.symm))))).other W36 (Or.inl (Nat.ne_of_lt (Nat.lt_of_lt_of_le A25.lt (Nat.le_of_eq g30.symm))))) (Nat.le_trans (own_le O0) (Nat.le_of_eq g25.symm)) SC hG V36 hr0.1 hr1.1) hZ (own_w hw 13 rfl) (own_w hw 9 rfl) (by decide) (by decide)) (g := (mkF m 50 #[.val (.int (2 : Int32)), .val (.int p2), .val (.int p3)] [(.ref b30), (.ref b25), (.ref b25)])) rfl (by rw [hml]; rfl) (Steps.refl _) (a := b25) (argsL := [(.ref b30)]) (rest := [(.ref b25)]) (lenOf pd_strf_0 rfl) rfl (by show 2 * 0 + _ ≤ _; exact Nat.le_of_eq rfl) (hb hby d_method_2_50) (fun _ _ => ⟨rfl, e36, (by decide : 2 + 1 ≤ _), (by decide : 6 + 2 ≤ _)⟩)
      dsimp only [Pt.U, Pt.locs, Pt.cells, Pt.slots] at X38 l38 y38 z38 st38 hQ38
      subst l38 y38 z38
      obtain ⟨rfl, N38q, K38, Fc38, b38, kB38, sb38, Fv38, Vb38⟩ := hQ38
      have N38 := Fr.app N36 N38q
      have O38 : Old Z n0 T38.heap := O36.keep K38 (allS (Nat.le_trans (own_le O0) (Nat.le_of_eq g25.symm)) all0)
      have pre_39 : ∀ t, Sp p e below T38 (mkF m 53 #[.val (.int (2 : Int32)), .val (.int p2), .val (.int p3)] [(.ref b25)]) t → Steps p.tables e below E0 t := fun t k => pre_37 t (st38.trans k)
      obtain ⟨fs, hr, hrun, hended, hEnd⟩ := X38.leaveW ((State.WarmedH.refl s).since 0) (Nat.le_trans (Nat.zero_le _) (Nat.le_trans (Nat.le_trans (Nat.le_trans (Nat.le_trans (Nat.le_trans (Nat.le_refl _) E25.1) E30.1) (Nat.le_of_eq W33.size.symm)) (Nat.le_of_eq W36.size.symm)) K38.1)) (v := some (.ref b25)) (fun h => by rw [Bd.returns] at h; cases h)
      refine ⟨_, _, pre_39 _ ?_, hrun, hended, _, _, rfl, ?_, hEnd.1, hEnd.2.1, hEnd.2.2.1, hEnd.2.2.2.mono (by decide) (by decide)⟩
      · show Sp p e below T38 (mkF m 53 #[.val (.int (2 : Int32)), .val (.int p2), .val (.int p3)] [(.ref b25)]) _
        exact retOut X38 hx (t := (.object "java/lang/String")) Bd.returns rfl (Or.inr (Or.inr (Or.inr (Or.inr ⟨rfl, rfl, rfl⟩)))) (hb hby d_method_2_53) hr
      · show Q_strf Z _ _ _ _ h0 n0 _ T38.vm T38.heap _
        exact ⟨b25, b38, kB38, rfl, N38, ((((((Keep.refl h0 []).ext E25).ext E30).wr W33 (Or.inr (Nat.le_trans ((Keep.refl h0 []).ext E25).1 (Nat.le_of_eq g30.symm)))).wr W36 (Or.inr (Nat.le_trans ((Keep.refl h0 []).ext E25).1 (Nat.le_of_eq g30.symm)))).trans K38 (allS (Or.inr (Nat.le_trans (Keep.refl h0 []).1 (Nat.le_of_eq g25.symm))) all0)), (Nat.le_trans (Keep.refl h0 []).1 (Nat.le_of_eq g25.symm)), ((((A25.ext E30).wr W33).wr W36).keep K38), Fc38, Fv38, (Or.inr (Or.inr ⟨rfl, Vb38⟩)), (Or.inl (own_IBw I0 X38.warmed))⟩
  · skip
    rcases hn with rfl | rfl | rfl
    · skip
      have pre_40 : ∀ t, Sp p e below s₁ (mkF m 4 #[.val (.int (0 : Int32)), .val (.int p2), .val (.int p3)] []) t → Steps p.tables e below E0 t := by
        intro t k
        refine pre0 t ?_
        show Sp p e below s₁ (mkF m 0 #[.val (.int (0 : Int32)), .val (.int p2), .val (.int p3)] []) _
        refine XS.iloadN X0.here hx rfl (hb hby d_method_2_0) rfl ?_
        refine XS.ifNo X0.here hx rfl (hb hby d_method_2_1) rfl (XT.i0_ne_f (by decide)) ?_
        exact k
      obtain ⟨T41, h41, X41, e41, E41, A41, D41, -, st41⟩ := newO X0 hx hZ hown (own_w hw 7 rfl) (own_w hw 8 rfl) (own_w hw 9 rfl) e0 (g := (mkF m 4 #[.val (.int (0 : Int32)), .val (.int p2), .val (.int p3)] [])) rfl (hb hby d_method_2_4) (by decide) (by decide)
      obtain ⟨b41, g41⟩ : ∃ z, z = h0.size := ⟨_, rfl⟩
      rw [← g41] at A41 D41 st41
      have O41 : Old Z n0 h41 := O0.ext E41
      have F42 : Fld Z h41 b41 "java/lang/String" "value" "[B" .null := D41 (Or.inr (own_w hw 23 rfl)) (ty := (.array .byte)) (by decide)
      have F43 : Fld Z h41 b41 "java/lang/String" "coder" "B" (.int (0 : Int32)) := D41 (Or.inr (own_w hw 24 rfl)) (ty := .byte) (by decide)
      have pre_44 : ∀ t, Sp p e below T41 (mkF m 7 #[.val (.int (0 : Int32)), .val (.int p2), .val (.int p3)] [(.ref b41)]) t → Steps p.tables e below E0 t := fun t k => pre_40 t (st41 t k)
      have pre_45 : ∀ t, Sp p e below T41 (mkF m 9 #[.val (.int (0 : Int32)), .val (.int p2), .val (.int p3)] [(.int (0 : Int32)), (.ref b41), (.ref b41)]) t → Steps p.tables e below E0 t := by
        intro t k
        refine pre_44 t ?_
        show Sp p e below T41 (mkF m 7 #[.val (.int (0 : Int32)), .val (.int p2), .val (.int p3)] [(.ref b41)]) _
        refine XS.dup X41.here hx rfl (hb hby d_method_2_7) rfl rfl ?_
        refine XS.iconst X41.here hx rfl (hb hby d_method_2_8) ?_
        show Sp p e below T41 (mkF m 9 #[.val (.int (0 : Int32)), .val (.int p2), .val (.int p3)] [(.int (0 : Int32)), (.ref b41), (.ref b41)]) _
        exact k
      obtain ⟨T46, h46, cA46, X46, e46, E46, A46, st46⟩ := newP X41 hx hZ (own_w hw 10 rfl) e41 (g := (mkF m 9 #[.val (.int (0 : Int32)), .val (.int p2), .val (.int p3)] [(.int (0 : Int32)), (.ref b41), (.ref b41)])) rfl (hb hby d_method_2_9) rfl (by decide) (cap := 0) (by decide) (by decide) (by decide) (by decide)
      obtain ⟨b46, g46⟩ : ∃ z, z = h41.size := ⟨_, rfl⟩
      rw [← g46] at A46 st46
      have O46 : Old Z n0 h46 := O41.ext E46
      have V46 : Arv Z h46 b46 cA46 .char (0 : Int32) [] (.int (0 : Int32)) := (Arv.new A46 (by decide)).pad (pad_rep [] _ 0)
      have pre_47 : ∀ t, Sp p e below T46 (mkF m 11 #[.val (.int (0 : Int32)), .val (.int p2), .val (.int p3)] [(.ref b46), (.ref b41), (.ref b41)]) t → Steps p.tables e below E0 t := fun t k => pre_45 t (st46 t k)
      obtain ⟨_, _, ⟨T48, L48, k48, n48⟩, -, Y48, hs48, hg48, ⟨Lc48, hQ48, l48, y48, z48⟩, st48⟩ := X46.specialBackS hx (y := (⟨"java/lang/String", "<init>", "([C)V"⟩ : MethodName)) rfl hown (mvT hZ (own_w hw 11 rfl)) (mvT hZ (own_w hw 12 rfl)) (mvT hZ (own_w hw 13 rfl)) (by decide) (own_backS (W := 1) (rm_str0B l Z a0 hw [] b41 b46 (.int (0 : Int32)) aE bE kE cA46 h46 n0 O46 (A41.ext E46) (F42.ext E46) (F43.ext E46) (Nat.le_trans (own_le O0) (Nat.le_of_eq g41.symm)) ((xE.ext E41).ext E46) ((vE.ext E41).ext E46) ((cE.ext E41).ext E46) ((AE.ext E41).ext E46) V46) hZ (own_w hw 13 rfl) (own_w hw 9 rfl) (by decide) (by decide) (fun _ q => Lit.stays (hL : Lit (s.setVm s.vm) "java/lang/String" 7 aE) q.wide)) (g := (mkF m 11 #[.val (.int (0 : Int32)), .val (.int p2), .val (.int p3)] [(.ref b46), (.ref b41), (.ref b41)])) rfl (by rw [hml]; rfl) (Steps.refl _) (a := b41) (argsL := [(.ref b46)]) (rest := [(.ref b41)]) (lenOf pd_strf_0 rfl) rfl (by show 2 * 0 + _ ≤ _; exact Nat.le_of_eq rfl) (hb hby d_method_2_11) (fun _ _ => ⟨rfl, e46, (by decide : 2 + 2 ≤ _), (by decide : 4 + 4 ≤ _)⟩)
      dsimp only [Pt.U, Pt.locs, Pt.cells, Pt.slots] at Y48 hs48 hg48 l48 y48 z48 st48 hQ48
      subst l48 y48 z48
      obtain ⟨X48, hS48, hZ48, ho48⟩ := rebS ((State.WarmedH.refl s).since 0) (by rw [e46]; exact (Nat.le_trans (Nat.zero_le _) (Nat.le_trans (Nat.le_trans (Nat.le_refl _) E41.1) E46.1))) Y48 hs48 hg48 hZ hown
      obtain ⟨rfl, N48q, K48, Fc48, aE48, bE48, kE48, Fv48, Ab48, xE48, vE48, cE48, hL48⟩ := hQ48
      have N48 := Fr.app N0 N48q
      have O48 : Old Z n0 T48.heap := O46.keep K48 (allS (Nat.le_trans (own_le O0) (Nat.le_of_eq g41.symm)) all0)
      have pre_49 : ∀ t, Sp p e below T48 (mkF m 14 #[.val (.int (0 : Int32)), .val (.int p2), .val (.int p3)] [(.ref b41)]) t → Steps p.tables e below E0 t := fun t k => pre_47 t (st48.trans k)
      obtain ⟨fs, hr, hrun, hended, hEnd⟩ := X48.leaveW hS48 (Nat.le_trans (Nat.le_refl _) (Nat.le_refl _)) (v := some (.ref b41)) (fun h => by rw [Bd.returns] at h; cases h)
      refine ⟨_, _, pre_49 _ ?_, hrun, hended, _, _, rfl, ?_, hEnd.1, hEnd.2.1, hEnd.2.2.1, hEnd.2.2.2.mono (by decide) (by decide)⟩
      · show Sp p e below T48 (mkF m 14 #[.val (.int (0 : Int32)), .val (.int p2), .val (.int p3)] [(.ref b41)]) _
        exact retOut X48 hx (t := (.object "java/lang/String")) Bd.returns rfl (Or.inr (Or.inr (Or.inr (Or.inr ⟨rfl, rfl, rfl⟩)))) (hb hby d_method_2_14) hr
      · show Q_strf Z _ _ _ _ h0 n0 _ T48.vm T48.heap _
        exact ⟨b41, bE48, kE48, rfl, N48, ((((Keep.refl h0 []).ext E41).ext E46).trans K48 (allS (Or.inr (Nat.le_trans (Keep.refl h0 []).1 (Nat.le_of_eq g41.symm))) all0)), (Nat.le_trans (Keep.refl h0 []).1 (Nat.le_of_eq g41.symm)), ((A41.ext E46).keep K48), Fc48, Fv48, (Or.inl ⟨rfl, Ab48⟩), (Or.inr ⟨aE48, bE48, kE48, xE48, vE48, cE48, Ab48, (Lit.stays (hL48 : Lit (s.setVm T48.vm) "java/lang/String" 7 aE48) X48.warmed.wide)⟩)⟩
    · skip
      have pre_50 : ∀ t, Sp p e below s₁ (mkF m 20 #[.val (.int (1 : Int32)), .val (.int p2), .val (.int p3)] []) t → Steps p.tables e below E0 t := by
        intro t k
        refine pre0 t ?_
        show Sp p e below s₁ (mkF m 0 #[.val (.int (1 : Int32)), .val (.int p2), .val (.int p3)] []) _
        refine XS.iloadN X0.here hx rfl (hb hby d_method_2_0) rfl ?_
        refine XS.ifYes X0.here hx rfl (pc0 := 1) (pc' := 15) rfl (hb hby d_method_2_1) rfl (XT.i0_ne_t (by decide)) (by decide) (by decide) ?_
        refine XS.iloadN X0.here hx rfl (hb hby d_method_2_15) rfl ?_
        refine XS.iconst X0.here hx rfl (hb hby d_method_2_16) ?_
        show Sp p e below s₁ (mkF m 17 #[.val (.int (1 : Int32)), .val (.int p2), .val (.int p3)] [(.int (1 : Int32)), (.int (1 : Int32))]) _
        refine XS.icmpNo X0.here hx rfl (hb hby d_method_2_17) rfl (XT.ii_ne_f (by decide)) ?_
        exact k
      obtain ⟨T51, h51, X51, e51, E51, A51, D51, -, st51⟩ := newO X0 hx hZ hown (own_w hw 7 rfl) (own_w hw 8 rfl) (own_w hw 9 rfl) e0 (g := (mkF m 20 #[.val (.int (1 : Int32)), .val (.int p2), .val (.int p3)] [])) rfl (hb hby d_method_2_20) (by decide) (by decide)
      obtain ⟨b51, g51⟩ : ∃ z, z = h0.size := ⟨_, rfl⟩
      rw [← g51] at A51 D51 st51
      have O51 : Old Z n0 h51 := O0.ext E51
      have F52 : Fld Z h51 b51 "java/lang/String" "value" "[B" .null := D51 (Or.inr (own_w hw 23 rfl)) (ty := (.array .byte)) (by decide)
      have F53 : Fld Z h51 b51 "java/lang/String" "coder" "B" (.int (0 : Int32)) := D51 (Or.inr (own_w hw 24 rfl)) (ty := .byte) (by decide)
      have pre_54 : ∀ t, Sp p e below T51 (mkF m 23 #[.val (.int (1 : Int32)), .val (.int p2), .val (.int p3)] [(.ref b51)]) t → Steps p.tables e below E0 t := fun t k => pre_50 t (st51 t k)
      have pre_55 : ∀ t, Sp p e below T51 (mkF m 25 #[.val (.int (1 : Int32)), .val (.int p2), .val (.int p3)] [(.int (1 : Int32)), (.ref b51), (.ref b51)]) t → Steps p.tables e below E0 t := by
        intro t k
        refine pre_54 t ?_
        show Sp p e below T51 (mkF m 23 #[.val (.int (1 : Int32)), .val (.int p2), .val (.int p3)] [(.ref b51)]) _
        refine XS.dup X51.here hx rfl (hb hby d_method_2_23) rfl rfl ?_
        refine XS.iconst X51.here hx rfl (hb hby d_method_2_24) ?_
        exact k
      obtain ⟨T56, h56, cA56, X56, e56, E56, A56, st56⟩ := newP X51 hx hZ (own_w hw 10 rfl) e51 (g := (mkF m 25 #[.val (.int (1 : Int32)), .val (.int p2), .val (.int p3)] [(.int (1 : Int32)), (.ref b51), (.ref b51)])) rfl (hb hby d_method_2_25) rfl (by decide) (cap := 1) (by decide) (by decide) (by decide) (by decide)
      obtain ⟨b56, g56⟩ : ∃ z, z = h51.size := ⟨_, rfl⟩
      rw [← g56] at A56 st56
      have O56 : Old Z n0 h56 := O51.ext E56
      have V56 : Arv Z h56 b56 cA56 .char (1 : Int32) [(.int (0 : Int32))] (.int (0 : Int32)) := (Arv.new A56 (by decide)).pad (pad_rep [] _ 1)
      have pre_57 : ∀ t, Sp p e below T56 (mkF m 27 #[.val (.int (1 : Int32)), .val (.int p2), .val (.int p3)] [(.ref b56), (.ref b51), (.ref b51)]) t → Steps p.tables e below E0 t := fun t k => pre_55 t (st56 t k)
      have pre_58 : ∀ t, Sp p e below T56 (mkF m 30 #[.val (.int (1 : Int32)), .val (.int p2), .val (.int p3)] [(.int p2), (.int (0 : Int32)), (.ref b56), (.ref b56), (.ref b51), (.ref b51)]) t → Steps p.tables e below E0 t := by
        intro t k
        refine pre_57 t ?_
        show Sp p e below T56 (mkF m 27 #[.val (.int (1 : Int32)), .val (.int p2), .val (.int p3)] [(.ref b56), (.ref b51), (.ref b51)]) _
        refine XS.dup X56.here hx rfl (hb hby d_method_2_27) rfl rfl ?_
        show Sp p e below T56 (mkF m 28 #[.val (.int (1 : Int32)), .val (.int p2), .val (.int p3)] [(.ref b56), (.ref b56), (.ref b51), (.ref b51)]) _
        refine XS.iconst X56.here hx rfl (hb hby d_method_2_28) ?_
        refine XS.iloadN X56.here hx rfl (hb hby d_method_2_29) rfl ?_
        exact k
      obtain ⟨cl59, Ar59, q59, S59, M59, H59, G59⟩ := id V56
      obtain ⟨T59, h59, X59, e59, W59, st59⟩ := stC X56 hx hZ e56 Ar59 (j := (0 : Int32)) (inb_of S59 (by decide)) (g := (mkF m 30 #[.val (.int (1 : Int32)), .val (.int p2), .val (.int p3)] [(.int p2), (.int (0 : Int32)), (.ref b56), (.ref b56), (.ref b51), (.ref b51)])) rfl rfl (hb hby d_method_2_30)
      have N59 := Fr.snoc X59 N0 (Nat.le_trans (own_le O51) (Nat.le_of_eq g56.symm))
      have O59 : Old Z n0 h59 := O56.wr W59 (Nat.le_trans (own_le O51) (Nat.le_of_eq g56.symm))
      rw [hq0] at W59
      have V59 : Arv Z h59 b56 cA56 .char (1 : Int32) [(.int p2)] (.int (0 : Int32)) := Arv.set Ar59 q59 S59 M59 H59 G59 (by rw [← hq0]; exact (fits_nar_char _)) W59 0 rfl (Nat.le_of_ble_eq_true rfl)
      have pre_60 : ∀ t, Sp p e below T59 (mkF m 31 #[.val (.int (1 : Int32)), .val (.int p2), .val (.int p3)] [(.ref b56), (.ref b51), (.ref b51)]) t → Steps p.tables e below E0 t := fun t k => pre_58 t (st59 t k)
      obtain ⟨_, _, ⟨T61, L61, k61, n61⟩, -, X61, ⟨Lc61, hQ61, l61, y61, z61⟩, st61⟩ := X59.specialBack hx (y := (⟨"java/lang/String", "<init>", "([C)V"⟩ : MethodName)) rfl hown (mvT hZ (own_w hw 11 rfl)) (mvT hZ (own_w hw 12 rfl)) (mvT hZ (own_w hw 13 rfl)) (by decide) (backOf (W := 1) (rm_str1 l Z a0 hw [] b51 b56 .null (.int (0 : Int32)) G1 cA56 p2 h59 n0 O59 ((A51.ext E56).wr W59) ((F52.ext E56).other W59 (Or.inl (Nat.ne_of_lt (Nat.lt_of_lt_of_le A51.lt (Nat.le_of_eq g56.symm))))) ((F53.ext E56).other W59 (Or.inl (Nat.ne_of_lt (Nat.lt_of_lt_of_le A51.lt (Nat.le_of_eq g56.symm))))) (Nat.le_trans (own_le O0) (Nat.le_of_eq g51.symm)) SC hG V59 hr0.1) hZ (own_w hw 13 rfl) (own_w hw 9 rfl) (by decide) (by decide)) (g := (mkF m 31 #[.val (.int (1 : Int32)), .val (.int p2), .val (.int p3)] [(.ref b56), (.ref b51), (.ref b51)])) rfl (by rw [hml]; rfl) (Steps.refl _) (a := b51) (argsL := [(.ref b56)]) (rest := [(.ref b51)]) (lenOf pd_strf_0 rfl) rfl (by show 2 * 0 + _ ≤ _; exact Nat.le_of_eq rfl) (hb hby d_method_2_31) (fun _ _ => ⟨rfl, e59, (by decide : 2 + 1 ≤ _), (by decide : 5 + 1 ≤ _)⟩)
      dsimp only [Pt.U, Pt.locs, Pt.cells, Pt.slots] at X61 l61 y61 z61 st61 hQ61
      subst l61 y61 z61
      obtain ⟨rfl, N61q, K61, Fc61, b61, kB61, sb61, Fv61, Vb61⟩ := hQ61
      have N61 := Fr.app N59 N61q
      have O61 : Old Z n0 T61.heap := O59.keep K61 (allS (Nat.le_trans (own_le O0) (Nat.le_of_eq g51.symm)) all0)
      have pre_62 : ∀ t, Sp p e below T61 (mkF m 34 #[.val (.int (1 : Int32)), .val (.int p2), .val (.int p3)] [(.ref b51)]) t → Steps p.tables e below E0 t := fun t k => pre_60 t (st61.trans k)
      obtain ⟨fs, hr, hrun, hended, hEnd⟩ := X61.leaveW ((State.WarmedH.refl s).since 0) (Nat.le_trans (Nat.zero_le _) (Nat.le_trans (Nat.le_trans (Nat.le_trans (Nat.le_trans (Nat.le_refl _) E51.1) E56.1) (Nat.le_of_eq W59.size.symm)) K61.1)) (v := some (.ref b51)) (fun h => by rw [Bd.returns] at h; cases h)
      refine ⟨_, _, pre_62 _ ?_, hrun, hended, _, _, rfl, ?_, hEnd.1, hEnd.2.1, hEnd.2.2.1, hEnd.2.2.2.mono (by decide) (by decide)⟩
      · show Sp p e below T61 (mkF m 34 #[.val (.int (1 : Int32)), .val (.int p2), .val (.int p3)] [(.ref b51)]) _
        exact retOut X61 hx (t := (.object "java/lang/String")) Bd.returns rfl (Or.inr (Or.inr (Or.inr (Or.inr ⟨rfl, rfl, rfl⟩)))) (hb hby d_method_2_34) hr
      · show Q_strf Z _ _ _ _ h0 n0 _ T61.vm T61.heap _
        exact ⟨b51, b61, kB61, rfl, N61, (((((Keep.refl h0 []).ext E51).ext E56).wr W59 (Or.inr (Nat.le_trans ((Keep.refl h0 []).ext E51).1 (Nat.le_of_eq g56.symm)))).trans K61 (allS (Or.inr (Nat.le_trans (Keep.refl h0 []).1 (Nat.le_of_eq g51.symm))) all0)), (Nat.le_trans (Keep.refl h0 []).1 (Nat.le_of_eq g51.symm)), (((A51.ext E56).wr W59).keep K61), Fc61, Fv61, (Or.inr (Or.inl ⟨rfl, Vb61⟩)), (Or.inr ⟨aE, bE, kE, ((((xE.ext E51).ext E56).wr W59).keep K61), ((((vE.ext E51).ext E56).other W59 (Or.inl (Nat.ne_of_lt (Nat.lt_of_lt_of_le (xE.ext E51).lt (Nat.le_of_eq g56.symm))))).keep K61 (ninS (Nat.ne_of_lt (Nat.lt_of_lt_of_le xE.lt (Nat.le_of_eq g51.symm))) nin0)), ((((cE.ext E51).ext E56).other W59 (Or.inl (Nat.ne_of_lt (Nat.lt_of_lt_of_le (xE.ext E51).lt (Nat.le_of_eq g56.symm))))).keep K61 (ninS (Nat.ne_of_lt (Nat.lt_of_lt_of_le xE.lt (Nat.le_of_eq g51.symm))) nin0)), ((((AE.ext E51).ext E56).other W59 (Nat.ne_of_lt (Nat.lt_of_lt_of_le (AE.ext E51).lt (Nat.le_of_eq g56.symm)))).keep K61 (ninS (Nat.ne_of_lt (Nat.lt_of_lt_of_le AE.lt (Nat.le_of_eq g51.symm))) nin0)), (Lit.stays (hL : Lit (s.setVm s.vm) "java/lang/String" 7 aE) X61.warmed.wide)⟩)⟩
    · skip
      have pre_63 : ∀ t, Sp p e below s₁ (mkF m 35 #[.val (.int (2 : Int32)), .val (.int p2), .val (.int p3)] []) t → Steps p.tables e below E0 t := by
        intro t k
        refine pre0 t ?_
        show Sp p e below s₁ (mkF m 0 #[.val (.int (2 : Int32)), .val (.int p2), .val (.int p3)] []) _
        refine XS.iloadN X0.here hx rfl (hb hby d_method_2_0) rfl ?_
        refine XS.ifYes X0.here hx rfl (pc0 := 1) (pc' := 15) rfl (hb hby d_method_2_1) rfl (XT.i0_ne_t (by decide)) (by decide) (by decide) ?_
        refine XS.iloadN X0.here hx rfl (hb hby d_method_2_15) rfl ?_
        refine XS.iconst X0.here hx rfl (hb hby d_method_2_16) ?_
        show Sp p e below s₁ (mkF m 17 #[.val (.int (2 : Int32)), .val (.int p2), .val (.int p3)] [(.int (1 : Int32)), (.int (2 : Int32))]) _
        refine XS.icmpYes X0.here hx rfl (pc0 := 17) (pc' := 35) rfl (hb hby d_method_2_17) rfl (XT.ii_ne_t (by decide)) (by decide) (by decide) ?_
        exact k
      obtain ⟨T64, h64, X64, e64, E64, A64, D64, -, st64⟩ := newO X0 hx hZ hown (own_w hw 7 rfl) (own_w hw 8 rfl) (own_w hw 9 rfl) e0 (g := (mkF m 35 #[.val (.int (2 : Int32)), .val (.int p2), .val (.int p3)] [])) rfl (hb hby d_method_2_35) (by decide) (by decide)
      obtain ⟨b64, g64⟩ : ∃ z, z = h0.size := ⟨_, rfl⟩
      rw [← g64] at A64 D64 st64
      have O64 : Old Z n0 h64 := O0.ext E64
      have F65 : Fld Z h64 b64 "java/lang/String" "value" "[B" .null := D64 (Or.inr (own_w hw 23 rfl)) (ty := (.array .byte)) (by decide)
      have F66 : Fld Z h64 b64 "java/lang/String" "coder" "B" (.int (0 : Int32)) := D64 (Or.inr (own_w hw 24 rfl)) (ty := .byte) (by decide)
      have pre_67 : ∀ t, Sp p e below T64 (mkF m 38 #[.val (.int (2 : Int32)), .val (.int p2), .val (.int p3)] [(.ref b64)]) t → Steps p.tables e below E0 t := fun t k => pre_63 t (st64 t k)
      have pre_68 : ∀ t, Sp p e below T64 (mkF m 40 #[.val (.int (2 : Int32)), .val (.int p2), .val (.int p3)] [(.int (2 : Int32)), (.ref b64), (.ref b64)]) t → Steps p.tables e below E0 t := by
        intro t k
        refine pre_67 t ?_
        show Sp p e below T64 (mkF m 38 #[.val (.int (2 : Int32)), .val (.int p2), .val (.int p3)] [(.ref b64)]) _
        refine XS.dup X64.here hx rfl (hb hby d_method_2_38) rfl rfl ?_
        refine XS.iconst X64.here hx rfl (hb hby d_method_2_39) ?_
        exact k
      obtain ⟨T69, h69, cA69, X69, e69, E69, A69, st69⟩ := newP X64 hx hZ (own_w hw 10 rfl) e64 (g := (mkF m 40 #[.val (.int (2 : Int32)), .val (.int p2), .val (.int p3)] [(.int (2 : Int32)), (.ref b64), (.ref b64)])) rfl (hb hby d_method_2_40) rfl (by decide) (cap := 2) (by decide) (by decide) (by decide) (by decide)
      obtain ⟨b69, g69⟩ : ∃ z, z = h64.size := ⟨_, rfl⟩
      rw [← g69] at A69 st69
      have O69 : Old Z n0 h69 := O64.ext E69
      have V69 : Arv Z h69 b69 cA69 .char (2 : Int32) [(.int (0 : Int32)), (.int (0 : Int32))] (.int (0 : Int32)) := (Arv.new A69 (by decide)).pad (pad_rep [] _ 2)
      have pre_70 : ∀ t, Sp p e below T69 (mkF m 42 #[.val (.int (2 : Int32)), .val (.int p2), .val (.int p3)] [(.ref b69), (.ref b64), (.ref b64)]) t → Steps p.tables e below E0 t := fun t k => pre_68 t (st69 t k)
      have pre_71 : ∀ t, Sp p e below T69 (mkF m 45 #[.val (.int (2 : Int32)), .val (.int p2), .val (.int p3)] [(.int p2), (.int (0 : Int32)), (.ref b69), (.ref b69), (.ref b64), (.ref b64)]) t → Steps p.tables e below E0 t := by
        intro t k
        refine pre_70 t ?_
        show Sp p e below T69 (mkF m 42 #[.val (.int (2 : Int32)), .val (.int p2), .val (.int p3)] [(.ref b69), (.ref b64), (.ref b64)]) _
        refine XS.dup X69.here hx rfl (hb hby d_method_2_42) rfl rfl ?_
        show Sp p e below T69 (mkF m 43 #[.val (.int (2 : Int32)), .val (.int p2), .val (.int p3)] [(.ref b69), (.ref b69), (.ref b64), (.ref b64)]) _
        refine XS.iconst X69.here hx rfl (hb hby d_method_2_43) ?_
        refine XS.iloadN X69.here hx rfl (hb hby d_method_2_44) rfl ?_
        exact k
      obtain ⟨cl72, Ar72, q72, S72, M72, H72, G72⟩ := id V69
      obtain ⟨T72, h72, X72, e72, W72, st72⟩ := stC X69 hx hZ e69 Ar72 (j := (0 : Int32)) (inb_of S72 (by decide)) (g := (mkF m 45 #[.val (.int (2 : Int32)), .val (.int p2), .val (.int p3)] [(.int p2), (.int (0 : Int32)), (.ref b69), (.ref b69), (.ref b64), (.ref b64)])) rfl rfl (hb hby d_method_2_45)
      have N72 := Fr.snoc X72 N0 (Nat.le_trans (own_le O64) (Nat.le_of_eq g69.symm))
      have O72 : Old Z n0 h72 := O69.wr W72 (Nat.le_trans (own_le O64) (Nat.le_of_eq g69.symm))
      rw [hq0] at W72
      have V72 : Arv Z h72 b69 cA69 .char (2 : Int32) [(.int p2), (.int (0 : Int32))] (.int (0 : Int32)) := Arv.set Ar72 q72 S72 M72 H72 G72 (by rw [← hq0]; exact (fits_nar_char _)) W72 0 rfl (Nat.le_of_ble_eq_true rfl)
      have pre_73 : ∀ t, Sp p e below T72 (mkF m 46 #[.val (.int (2 : Int32)), .val (.int p2), .val (.int p3)] [(.ref b69), (.ref b64), (.ref b64)]) t → Steps p.tables e below E0 t := fun t k => pre_71 t (st72 t k)
      have pre_74 : ∀ t, Sp p e below T72 (mkF m 49 #[.val (.int (2 : Int32)), .val (.int p2), .val (.int p3)] [(.int p3), (.int (1 : Int32)), (.ref b69), (.ref b69), (.ref b64), (.ref b64)]) t → Steps p.tables e below E0 t := by
        intro t k
        refine pre_73 t ?_
        show Sp p e below T72 (mkF m 46 #[.val (.int (2 : Int32)), .val (.int p2), .val (.int p3)] [(.ref b69), (.ref b64), (.ref b64)]) _
        refine XS.dup X72.here hx rfl (hb hby d_method_2_46) rfl rfl ?_
        refine XS.iconst X72.here hx rfl (hb hby d_method_2_47) ?_
        show Sp p e below T72 (mkF m 48 #[.val (.int (2 : Int32)), .val (.int p2), .val (.int p3)] [(.int (1 : Int32)), (.ref b69), (.ref b69), (.ref b64), (.ref b64)]) _
        refine XS.iloadN X72.here hx rfl (hb hby d_method_2_48) rfl ?_
        exact k
      obtain ⟨cl75, Ar75, q75, S75, M75, H75, G75⟩ := id V72
      obtain ⟨T75, h75, X75, e75, W75, st75⟩ := stC X72 hx hZ e72 Ar75 (j := (1 : Int32)) (inb_of S75 (by decide)) (g := (mkF m 49 #[.val (.int (2 : Int32)), .val (.int p2), .val (.int p3)] [(.int p3), (.int (1 : Int32)), (.ref b69), (.ref b69), (.ref b64), (.ref b64)])) rfl rfl (hb hby d_method_2_49)
      have N75 := Fr.snoc X75 N72 (Nat.le_trans (own_le O64) (Nat.le_of_eq g69.symm))
      have O75 : Old Z n0 h75 := O72.wr W75 (Nat.le_trans (own_le O64) (Nat.le_of_eq g69.symm))
      rw [hq1] at W75
      have V75 : Arv Z h75 b69 cA69 .char (2 : Int32) [(.int p2), (.int p3)] (.int (0 : Int32)) := Arv.set Ar75 q75 S75 M75 H75 G75 (by rw [← hq1]; exact (fits_nar_char _)) W75 1 rfl (Nat.le_of_ble_eq_true rfl)
      have pre_76 : ∀ t, Sp p e below T75 (mkF m 50 #[.val (.int (2 : Int32)), .val (.int p2), .val (.int p3)] [(.ref b69), (.ref b64), (.ref b64)]) t → Steps p.tables e below E0 t := fun t k => pre_74 t (st75 t k)
      obtain ⟨_, _, ⟨T77, L77, k77, n77⟩, -, X77, ⟨Lc77, hQ77, l77, y77, z77⟩, st77⟩ := X75.specialBack hx (y := (⟨"java/lang/String", "<init>", "([C)V"⟩ : MethodName)) rfl hown (mvT hZ (own_w hw 11 rfl)) (mvT hZ (own_w hw 12 rfl)) (mvT hZ (own_w hw 13 rfl)) (by decide) (backOf (W := 1) (rm_str2 l Z a0 hw [] b64 b69 .null (.int (0 : Int32)) G1 cA69 p2 p3 h75 n0 O75 (((A64.ext E69).wr W72).wr W75) (((F65.ext E69).other W72 (Or.inl (Nat.ne_of_lt (Nat.lt_of_lt_of_le A64.lt (Nat.le_of_eq g69.symm))))).other W75 (Or.inl (Nat.ne_of_lt (Nat.lt_of_lt_of_le A64.lt (Nat.le_of_eq g69.symm))))) (((F66.ext E69).other W72 (Or.inl (Nat.ne_of_lt (Nat.lt_of_lt_of_le A64.lt (Nat.le_of_eq g69.symm))))).other W75 (Or.inl (Nat.ne_of_lt (Nat.lt_of_lt_of_le A64.lt (Nat.le_of_eq g69.symm))))) (Nat.le_trans (own_le O0) (Nat.le_of_eq g64.symm)) SC hG V75 hr0.1 hr1.1) hZ (own_w hw 13 rfl) (own_w hw 9 rfl) (by decide) (by decide)) (g := (mkF m 50 #[.val (.int (2 : Int32)), .val (.int p2), .val (.int p3)] [(.ref b69), (.ref b64), (.ref b64)])) rfl (by rw [hml]; rfl) (Steps.refl _) (a := b64) (argsL := [(.ref b69)]) (rest := [(.ref b64)]) (lenOf pd_strf_0 rfl) rfl (by show 2 * 0 + _ ≤ _; exact Nat.le_of_eq rfl) (hb hby d_method_2_50) (fun _ _ => ⟨rfl, e75, (by decide : 2 + 1 ≤ _), (by decide : 6 + 2 ≤ _)⟩)
      dsimp only [Pt.U, Pt.locs, Pt.cells, Pt.slots] at X77 l77 y77 z77 st77 hQ77
      subst l77 y77 z77
      obtain ⟨rfl, N77q, K77, Fc77, b77, kB77, sb77, Fv77, Vb77⟩ := hQ77
      have N77 := Fr.app N75 N77q
      have O77 : Old Z n0 T77.heap := O75.keep K77 (allS (Nat.le_trans (own_le O0) (Nat.le_of_eq g64.symm)) all0)
      have pre_78 : ∀ t, Sp p e below T77 (mkF m 53 #[.val (.int (2 : Int32)), .val (.int p2), .val (.int p3)] [(.ref b64)]) t → Steps p.tables e below E0 t := fun t k => pre_76 t (st77.trans k)
      obtain ⟨fs, hr, hrun, hended, hEnd⟩ := X77.leaveW ((State.WarmedH.refl s).since 0) (Nat.le_trans (Nat.zero_le _) (Nat.le_trans (Nat.le_trans (Nat.le_trans (Nat.le_trans (Nat.le_trans (Nat.le_refl _) E64.1) E69.1) (Nat.le_of_eq W72.size.symm)) (Nat.le_of_eq W75.size.symm)) K77.1)) (v := some (.ref b64)) (fun h => by rw [Bd.returns] at h; cases h)
      refine ⟨_, _, pre_78 _ ?_, hrun, hended, _, _, rfl, ?_, hEnd.1, hEnd.2.1, hEnd.2.2.1, hEnd.2.2.2.mono (by decide) (by decide)⟩
      · show Sp p e below T77 (mkF m 53 #[.val (.int (2 : Int32)), .val (.int p2), .val (.int p3)] [(.ref b64)]) _
        exact retOut X77 hx (t := (.object "java/lang/String")) Bd.returns rfl (Or.inr (Or.inr (Or.inr (Or.inr ⟨rfl, rfl, rfl⟩)))) (hb hby d_method_2_53) hr
      · show Q_strf Z _ _ _ _ h0 n0 _ T77.vm T77.heap _
        exact ⟨b64, b77, kB77, rfl, N77, ((((((Keep.refl h0 []).ext E64).ext E69).wr W72 (Or.inr (Nat.le_trans ((Keep.refl h0 []).ext E64).1 (Nat.le_of_eq g69.symm)))).wr W75 (Or.inr (Nat.le_trans ((Keep.refl h0 []).ext E64).1 (Nat.le_of_eq g69.symm)))).trans K77 (allS (Or.inr (Nat.le_trans (Keep.refl h0 []).1 (Nat.le_of_eq g64.symm))) all0)), (Nat.le_trans (Keep.refl h0 []).1 (Nat.le_of_eq g64.symm)), ((((A64.ext E69).wr W72).wr W75).keep K77), Fc77, Fv77, (Or.inr (Or.inr ⟨rfl, Vb77⟩)), (Or.inr ⟨aE, bE, kE, (((((xE.ext E64).ext E69).wr W72).wr W75).keep K77), (((((vE.ext E64).ext E69).other W72 (Or.inl (Nat.ne_of_lt (Nat.lt_of_lt_of_le (xE.ext E64).lt (Nat.le_of_eq g69.symm))))).other W75 (Or.inl (Nat.ne_of_lt (Nat.lt_of_lt_of_le (xE.ext E64).lt (Nat.le_of_eq g69.symm))))).keep K77 (ninS (Nat.ne_of_lt (Nat.lt_of_lt_of_le xE.lt (Nat.le_of_eq g64.symm))) nin0)), (((((cE.ext E64).ext E69).other W72 (Or.inl (Nat.ne_of_lt (Nat.lt_of_lt_of_le (xE.ext E64).lt (Nat.le_of_eq g69.symm))))).other W75 (Or.inl (Nat.ne_of_lt (Nat.lt_of_lt_of_le (xE.ext E64).lt (Nat.le_of_eq g69.symm))))).keep K77 (ninS (Nat.ne_of_lt (Nat.lt_of_lt_of_le xE.lt (Nat.le_of_eq g64.symm))) nin0)), (((((AE.ext E64).ext E69).other W72 (Nat.ne_of_lt (Nat.lt_of_lt_of_le (AE.ext E64).lt (Nat.le_of_eq g69.symm)))).other W75 (Nat.ne_of_lt (Nat.lt_of_lt_of_le (AE.ext E64).lt (Nat.le_of_eq g69.symm)))).keep K77 (ninS (Nat.ne_of_lt (Nat.lt_of_lt_of_le AE.lt (Nat.le_of_eq g64.symm))) nin0)), (Lit.stays (hL : Lit (s.setVm s.vm) "java/lang/String" 7 aE) X77.warmed.wide)⟩)⟩
theorem d_jdk_30_1_0 : decode jdk_30_method_1_code 0 = .ok (.aload_n 0, 1) := by decide +kernel
theorem d_jdk_30_1_1 : decode jdk_30_method_1_code 1 = .ok (.invokespecial 1, 3) := by decide +kernel
theorem d_jdk_30_1_4 : decode jdk_30_method_1_code 4 = .ok (.return_, 1) := by decide +kernel
theorem pn_rec : plainName "java/lang/Record" = true := by first | (simp [plainName, overriddenIn]; done) | decide +kernel
theorem ef_rec (m : MethodId) (a1 : Addr) : entryFrame m #[(.ref a1)] 1 = (mkF m 0 #[.val (.ref a1)] []) := by first | (simp [entryFrame, mkF, argsToLocals, Value.category]; done) | rfl
def Q_rec (Z : State) (a1 : Addr)  (h0 : Heap) (n0 : Nat) (v : Option Value) (h : Heap) (L : List Loc) : Prop := v = none ∧ Fr n0 L ∧ h = h0
set_option maxRecDepth 65536 in
set_option maxHeartbeats 40000000 in
theorem rm_rec (l : Launch) (Z : State) (a0 : Array Value) (hw : ∀ d ∈ tables_1, d.before a0 Z = true) (ws : List Jvm.Cond) (a1 : Addr)  (h0 : Heap) (n0 : Nat) (O0 : Old Z n0 h0)  :
    MetFree l (⟨"java/lang/Record", "<init>", "()V"⟩ : MethodName) (head1 (Jvm.Cond.code (⟨"java/lang/Record", "<init>", "()V"⟩ : MethodName) jdk_30_method_1_code 1 none :: ws) ({ frames := 1, cells := 0, slots := 0, locals := 12 } : Room)) (fun a U => a = #[(.ref a1)] ∧ Z.Warmed39 U.vm ∧ U.heap = h0) (fun _ _ _ _ _ => True) (fun _ U o U' => ∃ v L, o = .returned v ∧ Q_rec Z a1  h0 n0 v U'.heap L ∧ FrameEnd U o U' L ({ frames := 1, cells := 0, slots := 0, locals := 12 } : Room).cells ({ frames := 1, cells := 0, slots := 0, locals := 12 } : Room).slots) := by
  refine MetFree.of_bodySF (plainFor_of_name pn_rec) hisR ?_
  intro p e s m args below meth c s₁ Bd hml0 hP hK
  obtain ⟨rfl, hZ, hh⟩ := hP
  have hx := Bd.exec
  have hby := Bd.bytes
  have hml : c.maxLocals = 1 := hml0
  have hown : s.vm.findClass "java/lang/Record" = some m.cls := findClass_of_methodNamed Bd.named
  have hnm := (name_of_methodNamed Bd.named Bd.method).1
  have X0 : Stand p l e ({ frames := 1, cells := 0, slots := 0, locals := 12 } : Room) s m #[(.ref a1)] below meth c s₁ [] 0 0 := Stand.of_body Bd
  have e0 : s₁.heap = h0 := by rw [← hh, Bd.state]; rfl
  have N0 := Fr.nil n0
  have pre0 : ∀ t, Steps p.tables e below (s₁.setTop (mkF m 0 #[.val (.ref a1)] [])) t → Steps p.tables e below (s₁.setTop (entryFrame m #[(.ref a1)] 1)) t := fun t k => castTop (ef_rec m a1) k
  generalize s₁.setTop (entryFrame m #[(.ref a1)] 1) = E0 at pre0 ⊢
  have pre_1 : ∀ t, Sp p e below s₁ (mkF m 1 #[.val (.ref a1)] [(.ref a1)]) t → Steps p.tables e below E0 t := by
    intro t k
    refine pre0 t ?_
    show Sp p e below s₁ (mkF m 0 #[.val (.ref a1)] []) _
    refine XS.aloadN X0.here hx rfl (hb hby d_jdk_30_1_0) rfl rfl ?_
    exact k
  obtain ⟨T2, X2, e2, st2⟩ := initO X0 hx hZ hown (own_w hw 37 rfl) (own_w hw 19 rfl) (own_w hw 20 rfl) e0 (g := (mkF m 1 #[.val (.ref a1)] [(.ref a1)])) rfl (by rw [hml]; rfl) rfl (hb hby d_jdk_30_1_1) (by decide) (W := 0) (by show 2 * 0 + _ ≤ _; exact Nat.le_of_eq rfl) (by decide)
  have pre_3 : ∀ t, Sp p e below T2 (mkF m 4 #[.val (.ref a1)] []) t → Steps p.tables e below E0 t := fun t k => pre_1 t (st2 t k)
  obtain ⟨fs, hr, hrun, hended, hW, hsame⟩ := X2.leave (v := none) (fun _ => rfl)
  refine ⟨_, _, pre_3 _ ?_, hrun, hended, _, _, rfl, ?_, ⟨_, rfl⟩, hW, hsame.mono (by decide) (by decide)⟩
  · show Sp p e below T2 (mkF m 4 #[.val (.ref a1)] []) _
    exact X2.returnOut hx Bd.returns (hb hby d_jdk_30_1_4) hr
  · show Q_rec Z _ h0 n0 _ T2.heap _
    rw [e2]
    exact ⟨rfl, N0, rfl⟩
theorem d_prog_63_3_0 : decode prog_63_method_3_code 0 = .ok (.aload_n 0, 1) := by decide +kernel
theorem d_prog_63_3_1 : decode prog_63_method_3_code 1 = .ok (.invokespecial 1, 3) := by decide +kernel
theorem d_prog_63_3_4 : decode prog_63_method_3_code 4 = .ok (.aload_n 0, 1) := by decide +kernel
theorem d_prog_63_3_5 : decode prog_63_method_3_code 5 = .ok (.aload_n 1, 1) := by decide +kernel
theorem d_prog_63_3_6 : decode prog_63_method_3_code 6 = .ok (.putfield 7, 3) := by decide +kernel
theorem d_prog_63_3_9 : decode prog_63_method_3_code 9 = .ok (.aload_n 0, 1) := by decide +kernel
theorem d_prog_63_3_10 : decode prog_63_method_3_code 10 = .ok (.iload_n 2, 1) := by decide +kernel
theorem d_prog_63_3_11 : decode prog_63_method_3_code 11 = .ok (.putfield 13, 3) := by decide +kernel
theorem d_prog_63_3_14 : decode prog_63_method_3_code 14 = .ok (.aload_n 0, 1) := by decide +kernel
theorem d_prog_63_3_15 : decode prog_63_method_3_code 15 = .ok (.iload_n 3, 1) := by decide +kernel
theorem d_prog_63_3_16 : decode prog_63_method_3_code 16 = .ok (.putfield 17, 3) := by decide +kernel
theorem d_prog_63_3_19 : decode prog_63_method_3_code 19 = .ok (.aload_n 0, 1) := by decide +kernel
theorem d_prog_63_3_20 : decode prog_63_method_3_code 20 = .ok (.iload 4, 2) := by decide +kernel
theorem d_prog_63_3_22 : decode prog_63_method_3_code 22 = .ok (.putfield 20, 3) := by decide +kernel
theorem d_prog_63_3_25 : decode prog_63_method_3_code 25 = .ok (.aload_n 0, 1) := by decide +kernel
theorem d_prog_63_3_26 : decode prog_63_method_3_code 26 = .ok (.iload 5, 2) := by decide +kernel
theorem d_prog_63_3_28 : decode prog_63_method_3_code 28 = .ok (.putfield 23, 3) := by decide +kernel
theorem d_prog_63_3_31 : decode prog_63_method_3_code 31 = .ok (.return_, 1) := by decide +kernel
theorem pn_ini : plainName "com/example/vaxwire/vaxwire/hl7/Location" = true := by first | (simp [plainName, overriddenIn]; done) | decide +kernel
theorem pd_ini_0 : parseMethodDescriptor "()V" = some ⟨[], none⟩ := by decide +kernel
theorem ef_ini (m : MethodId) (a1 : Addr) (a2 : Addr) (p3 : Int32) (p4 : Int32) (p5 : Int32) (p6 : Int32) : entryFrame m #[(.ref a1), (.ref a2), (.int p3), (.int p4), (.int p5), (.int p6)] 6 = (mkF m 0 #[.val (.ref a1), .val (.ref a2), .val (.int p3), .val (.int p4), .val (.int p5), .val (.int p6)] []) := by first | (simp [entryFrame, mkF, argsToLocals, Value.category]; done) | rfl
def Q_ini (Z : State) (a1 : Addr) (a2 : Addr) (p3 : Int32) (p4 : Int32) (p5 : Int32) (p6 : Int32) (u0 u1 u2 u3 u4 : Value) (h0 : Heap) (n0 : Nat) (v : Option Value) (h : Heap) (L : List Loc) : Prop := v = none ∧ Fr n0 L ∧ Keep h0 h [a1] ∧ Fld Z h a1 "com/example/vaxwire/vaxwire/hl7/Location" "segment" "Ljava/lang/String;" (.ref a2) ∧ Fld Z h a1 "com/example/vaxwire/vaxwire/hl7/Location" "sequence" "I" (.int p3) ∧ Fld Z h a1 "com/example/vaxwire/vaxwire/hl7/Location" "field" "I" (.int p4)
set_option maxRecDepth 65536 in
set_option maxHeartbeats 40000000 in
theorem rm_ini (l : Launch) (Z : State) (a0 : Array Value) (hw : ∀ d ∈ tables_1, d.before a0 Z = true) (ws : List Jvm.Cond) (a1 : Addr) (a2 : Addr) (p3 : Int32) (p4 : Int32) (p5 : Int32) (p6 : Int32) (u0 u1 u2 u3 u4 : Value) (h0 : Heap) (n0 : Nat) (O0 : Old Z n0 h0) (E1 : Exa Z h0 a1 "com/example/vaxwire/vaxwire/hl7/Location") (F0 : Fld Z h0 a1 "com/example/vaxwire/vaxwire/hl7/Location" "segment" "Ljava/lang/String;" u0) (F1 : Fld Z h0 a1 "com/example/vaxwire/vaxwire/hl7/Location" "sequence" "I" u1) (F2 : Fld Z h0 a1 "com/example/vaxwire/vaxwire/hl7/Location" "field" "I" u2) (F3 : Fld Z h0 a1 "com/example/vaxwire/vaxwire/hl7/Location" "repetition" "I" u3) (F4 : Fld Z h0 a1 "com/example/vaxwire/vaxwire/hl7/Location" "component" "I" u4) (g1 : n0 ≤ a1) :
    MetFree l (⟨"com/example/vaxwire/vaxwire/hl7/Location", "<init>", "(Ljava/lang/String;IIII)V"⟩ : MethodName) (head1 (Jvm.Cond.code (⟨"com/example/vaxwire/vaxwire/hl7/Location", "<init>", "(Ljava/lang/String;IIII)V"⟩ : MethodName) prog_63_method_3_code 6 none :: ws) ({ frames := 2, cells := 0, slots := 0, locals := 24 } : Room)) (fun a U => a = #[(.ref a1), (.ref a2), (.int p3), (.int p4), (.int p5), (.int p6)] ∧ Z.Warmed39 U.vm ∧ U.heap = h0) (fun _ _ _ _ _ => True) (fun _ U o U' => ∃ v L, o = .returned v ∧ Q_ini Z a1 a2 p3 p4 p5 p6 u0 u1 u2 u3 u4 h0 n0 v U'.heap L ∧ FrameEnd U o U' L ({ frames := 2, cells := 0, slots := 0, locals := 24 } : Room).cells ({ frames := 2, cells := 0, slots := 0, locals := 24 } : Room).slots) := by
  refine MetFree.of_bodySF (plainFor_of_name pn_ini) hisR ?_
  intro p e s m args below meth c s₁ Bd hml0 hP hK
  obtain ⟨rfl, hZ, hh⟩ := hP
  have hx := Bd.exec
  have hby := Bd.bytes
  have hml : c.maxLocals = 6 := hml0
  have hown : s.vm.findClass "com/example/vaxwire/vaxwire/hl7/Location" = some m.cls := findClass_of_methodNamed Bd.named
  have hnm := (name_of_methodNamed Bd.named Bd.method).1
  have X0 : Stand p l e ({ frames := 2, cells := 0, slots := 0, locals := 24 } : Room) s m #[(.ref a1), (.ref a2), (.int p3), (.int p4), (.int p5), (.int p6)] below meth c s₁ [] 0 0 := Stand.of_body Bd
  have e0 : s₁.heap = h0 := by rw [← hh, Bd.state]; rfl
  have N0 := Fr.nil n0
  have pre0 : ∀ t, Steps p.tables e below (s₁.setTop (mkF m 0 #[.val (.ref a1), .val (.ref a2), .val (.int p3), .val (.int p4), .val (.int p5), .val (.int p6)] [])) t → Steps p.tables e below (s₁.setTop (entryFrame m #[(.ref a1), (.ref a2), (.int p3), (.int p4), (.int p5), (.int p6)] 6)) t := fun t k => castTop (ef_ini m a1 a2 p3 p4 p5 p6) k
  generalize s₁.setTop (entryFrame m #[(.ref a1), (.ref a2), (.int p3), (.int p4), (.int p5), (.int p6)] 6) = E0 at pre0 ⊢
  have pre_1 : ∀ t, Sp p e below s₁ (mkF m 1 #[.val (.ref a1), .val (.ref a2), .val (.int p3), .val (.int p4), .val (.int p5), .val (.int p6)] [(.ref a1)]) t → Steps p.tables e below E0 t := by
    intro t k
    refine pre0 t ?_
    show Sp p e below s₁ (mkF m 0 #[.val (.ref a1), .val (.ref a2), .val (.int p3), .val (.int p4), .val (.int p5), .val (.int p6)] []) _
    refine XS.aloadN X0.here hx rfl (hb hby d_prog_63_3_0) rfl rfl ?_
    exact k
  obtain ⟨_, _, ⟨T2, L2, k2, n2⟩, -, X2, ⟨Lc2, hQ2, l2, y2, z2⟩, st2⟩ := X0.specialBack hx (y := (⟨"java/lang/Record", "<init>", "()V"⟩ : MethodName)) rfl hown (mvT hZ (own_w hw 32 rfl)) (mvT hZ (own_w hw 33 rfl)) (mvT hZ (own_w hw 36 rfl)) (by decide) (backOf (W := 0) (rm_rec l Z a0 hw [] a1 h0 n0 O0) hZ (own_w hw 36 rfl) (own_w hw 35 rfl) (by decide) (by decide)) (g := (mkF m 1 #[.val (.ref a1), .val (.ref a2), .val (.int p3), .val (.int p4), .val (.int p5), .val (.int p6)] [(.ref a1)])) rfl (by rw [hml]; rfl) (Steps.refl _) (a := a1) (argsL := []) (rest := []) (lenOf pd_ini_0 rfl) rfl (by show 2 * 0 + _ ≤ _; exact Nat.le_of_eq rfl) (hb hby d_prog_63_3_1) (fun _ _ => ⟨rfl, e0, (by decide : 0 + 0 ≤ _), (by decide : 0 + 0 ≤ _)⟩)
  dsimp only [Pt.U, Pt.locs, Pt.cells, Pt.slots] at X2 l2 y2 z2 st2 hQ2
  subst l2 y2 z2
  obtain ⟨rfl, N2q, e2⟩ := hQ2
  have N2 := Fr.app N0 N2q
  have pre_3 : ∀ t, Sp p e below T2 (mkF m 4 #[.val (.ref a1), .val (.ref a2), .val (.int p3), .val (.int p4), .val (.int p5), .val (.int p6)] []) t → Steps p.tables e below E0 t := fun t k => pre_1 t (st2.trans k)
  have pre_4 : ∀ t, Sp p e below T2 (mkF m 6 #[.val (.ref a1), .val (.ref a2), .val (.int p3), .val (.int p4), .val (.int p5), .val (.int p6)] [(.ref a2), (.ref a1)]) t → Steps p.tables e below E0 t := by
    intro t k
    refine pre_3 t ?_
    show Sp p e below T2 (mkF m 4 #[.val (.ref a1), .val (.ref a2), .val (.int p3), .val (.int p4), .val (.int p5), .val (.int p6)] []) _
    refine XS.aloadN X2.here hx rfl (hb hby d_prog_63_3_4) rfl rfl ?_
    refine XS.aloadN X2.here hx rfl (hb hby d_prog_63_3_5) rfl rfl ?_
    exact k
  obtain ⟨T5, h5, X5, e5, W5, st5⟩ := putF X2 hx hZ hown (host := "") (Or.inl (own_w hw 38 rfl)) Via.refl e2 F0 E1 (Or.inr ⟨(own_w hw 39 rfl), rfl, hnm⟩) (own_w hw 1 rfl) (ty := (.object "java/lang/String")) (by decide) rfl rfl (g := (mkF m 6 #[.val (.ref a1), .val (.ref a2), .val (.int p3), .val (.int p4), .val (.int p5), .val (.int p6)] [(.ref a2), (.ref a1)])) rfl rfl (hb hby d_prog_63_3_6)
  have Fw5 := F0.same W5
  have N5 := Fr.snoc X5 N2 g1
  have O5 : Old Z n0 h5 := O0.wr W5 g1
  have pre_6 : ∀ t, Sp p e below T5 (mkF m 9 #[.val (.ref a1), .val (.ref a2), .val (.int p3), .val (.int p4), .val (.int p5), .val (.int p6)] []) t → Steps p.tables e below E0 t := fun t k => pre_4 t (st5 t k)
  have pre_7 : ∀ t, Sp p e below T5 (mkF m 11 #[.val (.ref a1), .val (.ref a2), .val (.int p3), .val (.int p4), .val (.int p5), .val (.int p6)] [(.int p3), (.ref a1)]) t → Steps p.tables e below E0 t := by
    intro t k
    refine pre_6 t ?_
    show Sp p e below T5 (mkF m 9 #[.val (.ref a1), .val (.ref a2), .val (.int p3), .val (.int p4), .val (.int p5), .val (.int p6)] []) _
    refine XS.aloadN X5.here hx rfl (hb hby d_prog_63_3_9) rfl rfl ?_
    show Sp p e below T5 (mkF m 10 #[.val (.ref a1), .val (.ref a2), .val (.int p3), .val (.int p4), .val (.int p5), .val (.int p6)] [(.ref a1)]) _
    refine XS.iloadN X5.here hx rfl (hb hby d_prog_63_3_10) rfl ?_
    exact k
  obtain ⟨T8, h8, X8, e8, W8, st8⟩ := putF X5 hx hZ hown (host := "") (Or.inl (own_w hw 40 rfl)) Via.refl e5 (F1.other W5 (Or.inr (slot_ne (Or.inr (own_w hw 41 rfl)) (Or.inr (own_w hw 39 rfl)) (by decide) (t := .int) (t' := (.object "java/lang/String")) (by decide) (by decide)))) (E1.wr W5) (Or.inr ⟨(own_w hw 41 rfl), rfl, hnm⟩) (own_w hw 1 rfl) (ty := .int) (by decide) rfl rfl (g := (mkF m 11 #[.val (.ref a1), .val (.ref a2), .val (.int p3), .val (.int p4), .val (.int p5), .val (.int p6)] [(.int p3), (.ref a1)])) rfl rfl (hb hby d_prog_63_3_11)
  have Fw8 := (F1.other W5 (Or.inr (slot_ne (Or.inr (own_w hw 41 rfl)) (Or.inr (own_w hw 39 rfl)) (by decide) (t := .int) (t' := (.object "java/lang/String")) (by decide) (by decide)))).same W8
  have N8 := Fr.snoc X8 N5 g1
  have O8 : Old Z n0 h8 := O5.wr W8 g1
  have pre_9 : ∀ t, Sp p e below T8 (mkF m 14 #[.val (.ref a1), .val (.ref a2), .val (.int p3), .val (.int p4), .val (.int p5), .val (.int p6)] []) t → Steps p.tables e below E0 t := fun t k => pre_7 t (st8 t k)
  have pre_10 : ∀ t, Sp p e below T8 (mkF m 16 #[.val (.ref a1), .val (.ref a2), .val (.int p3), .val (.int p4), .val (.int p5), .val (.int p6)] [(.int p4), (.ref a1)]) t → Steps p.tables e below E0 t := by
    intro t k
    refine pre_9 t ?_
    show Sp p e below T8 (mkF m 14 #[.val (.ref a1), .val (.ref a2), .val (.int p3), .val (.int p4), .val (.int p5), .val (.int p6)] []) _
    refine XS.aloadN X8.here hx rfl (hb hby d_prog_63_3_14) rfl rfl ?_
    refine XS.iloadN X8.here hx rfl (hb hby d_prog_63_3_15) rfl ?_
    exact k
  obtain ⟨T11, h11, X11, e11, W11, st11⟩ := putF X8 hx hZ hown (host := "") (Or.inl (own_w hw 42 rfl)) Via.refl e8 ((F2.other W5 (Or.inr (slot_ne (Or.inr (own_w hw 43 rfl)) (Or.inr (own_w hw 39 rfl)) (by decide) (t := .int) (t' := (.object "java/lang/String")) (by decide) (by decide)))).other W8 (Or.inr (slot_ne (Or.inr (own_w hw 43 rfl)) (Or.inr (own_w hw 41 rfl)) (by decide) (t := .int) (t' := .int) (by decide) (by decide)))) ((E1.wr W5).wr W8) (Or.inr ⟨(own_w hw 43 rfl), rfl, hnm⟩) (own_w hw 1 rfl) (ty := .int) (by decide) rfl rfl (g := (mkF m 16 #[.val (.ref a1), .val (.ref a2), .val (.int p3), .val (.int p4), .val (.int p5), .val (.int p6)] [(.int p4), (.ref a1)])) rfl rfl (hb hby d_prog_63_3_16)
  have Fw11 := ((F2.other W5 (Or.inr (slot_ne (Or.inr (own_w hw 43 rfl)) (Or.inr (own_w hw 39 rfl)) (by decide) (t := .int) (t' := (.object "java/lang/String")) (by decide) (by decide)))).other W8 (Or.inr (slot_ne (Or.inr (own_w hw 43 rfl)) (Or.inr (own_w hw 41 rfl)) (by decide) (t := .int) (t' := .int) (by decide) (by decide)))).same W11
  have N11 := Fr.snoc X11 N8 g1
  have O11 : Old Z n0 h11 := O8.wr W11 g1
  have pre_12 : ∀ t, Sp p e below T11 (mkF m 19 #[.val (.ref a1), .val (.ref a2), .val (.int p3), .val (.int p4), .val (.int p5), .val (.int p6)] []) t → Steps p.tables e below E0 t := fun t k => pre_10 t (st11 t k)
  have pre_13 : ∀ t, Sp p e below T11 (mkF m 22 #[.val (.ref a1), .val (.ref a2), .val (.int p3), .val (.int p4), .val (.int p5), .val (.int p6)] [(.int p5), (.ref a1)]) t → Steps p.tables e below E0 t := by
    intro t k
    refine pre_12 t ?_
    show Sp p e below T11 (mkF m 19 #[.val (.ref a1), .val (.ref a2), .val (.int p3), .val (.int p4), .val (.int p5), .val (.int p6)] []) _
    refine XS.aloadN X11.here hx rfl (hb hby d_prog_63_3_19) rfl rfl ?_
    show Sp p e below T11 (mkF m 20 #[.val (.ref a1), .val (.ref a2), .val (.int p3), .val (.int p4), .val (.int p5), .val (.int p6)] [(.ref a1)]) _
    refine XS.iload X11.here hx rfl (hb hby d_prog_63_3_20) rfl ?_
    exact k
  obtain ⟨T14, h14, X14, e14, W14, st14⟩ := putF X11 hx hZ hown (host := "") (Or.inl (own_w hw 44 rfl)) Via.refl e11 (((F3.other W5 (Or.inr (slot_ne (Or.inr (own_w hw 45 rfl)) (Or.inr (own_w hw 39 rfl)) (by decide) (t := .int) (t' := (.object "java/lang/String")) (by decide) (by decide)))).other W8 (Or.inr (slot_ne (Or.inr (own_w hw 45 rfl)) (Or.inr (own_w hw 41 rfl)) (by decide) (t := .int) (t' := .int) (by decide) (by decide)))).other W11 (Or.inr (slot_ne (Or.inr (own_w hw 45 rfl)) (Or.inr (own_w hw 43 rfl)) (by decide) (t := .int) (t' := .int) (by decide) (by decide)))) (((E1.wr W5).wr W8).wr W11) (Or.inr ⟨(own_w hw 45 rfl), rfl, hnm⟩) (own_w hw 1 rfl) (ty := .int) (by decide) rfl rfl (g := (mkF m 22 #[.val (.ref a1), .val (.ref a2), .val (.int p3), .val (.int p4), .val (.int p5), .val (.int p6)] [(.int p5), (.ref a1)])) rfl rfl (hb hby d_prog_63_3_22)
  have Fw14 := (((F3.other W5 (Or.inr (slot_ne (Or.inr (own_w hw 45 rfl)) (Or.inr (own_w hw 39 rfl)) (by decide) (t := .int) (t' := (.object "java/lang/String")) (by decide) (by decide)))).other W8 (Or.inr (slot_ne (Or.inr (own_w hw 45 rfl)) (Or.inr (own_w hw 41 rfl)) (by decide) (t := .int) (t' := .int) (by decide) (by decide)))).other W11 (Or.inr (slot_ne (Or.inr (own_w hw 45 rfl)) (Or.inr (own_w hw 43 rfl)) (by decide) (t := .int) (t' := .int) (by decide) (by decide)))).same W14
  have N14 := Fr.snoc X14 N11 g1
  have O14 : Old Z n0 h14 := O11.wr W14 g1
  have pre_15 : ∀ t, Sp p e below T14 (mkF m 25 #[.val (.ref a1), .val (.ref a2), .val (.int p3), .val (.int p4), .val (.int p5), .val (.int p6)] []) t → Steps p.tables e below E0 t := fun t k => pre_13 t (st14 t k)
  have pre_16 : ∀ t, Sp p e below T14 (mkF m 28 #[.val (.ref a1), .val (.ref a2), .val (.int p3), .val (.int p4), .val (.int p5), .val (.int p6)] [(.int p6), (.ref a1)]) t → Steps p.tables e below E0 t := by
    intro t k
    refine pre_15 t ?_
    show Sp p e below T14 (mkF m 25 #[.val (.ref a1), .val (.ref a2), .val (.int p3), .val (.int p4), .val (.int p5), .val (.int p6)] []) _
    refine XS.aloadN X14.here hx rfl (hb hby d_prog_63_3_25) rfl rfl ?_
    refine XS.iload X14.here hx rfl (hb hby d_prog_63_3_26) rfl ?_
    exact k
  obtain ⟨T17, h17, X17, e17, W17, st17⟩ := putF X14 hx hZ hown (host := "") (Or.inl (own_w hw 46 rfl)) Via.refl e14 ((((F4.other W5 (Or.inr (slot_ne (Or.inr (own_w hw 47 rfl)) (Or.inr (own_w hw 39 rfl)) (by decide) (t := .int) (t' := (.object "java/lang/String")) (by decide) (by decide)))).other W8 (Or.inr (slot_ne (Or.inr (own_w hw 47 rfl)) (Or.inr (own_w hw 41 rfl)) (by decide) (t := .int) (t' := .int) (by decide) (by decide)))).other W11 (Or.inr (slot_ne (Or.inr (own_w hw 47 rfl)) (Or.inr (own_w hw 43 rfl)) (by decide) (t := .int) (t' := .int) (by decide) (by decide)))).other W14 (Or.inr (slot_ne (Or.inr (own_w hw 47 rfl)) (Or.inr (own_w hw 45 rfl)) (by decide) (t := .int) (t' := .int) (by decide) (by decide)))) ((((E1.wr W5).wr W8).wr W11).wr W14) (Or.inr ⟨(own_w hw 47 rfl), rfl, hnm⟩) (own_w hw 1 rfl) (ty := .int) (by decide) rfl rfl (g := (mkF m 28 #[.val (.ref a1), .val (.ref a2), .val (.int p3), .val (.int p4), .val (.int p5), .val (.int p6)] [(.int p6), (.ref a1)])) rfl rfl (hb hby d_prog_63_3_28)
  have Fw17 := ((((F4.other W5 (Or.inr (slot_ne (Or.inr (own_w hw 47 rfl)) (Or.inr (own_w hw 39 rfl)) (by decide) (t := .int) (t' := (.object "java/lang/String")) (by decide) (by decide)))).other W8 (Or.inr (slot_ne (Or.inr (own_w hw 47 rfl)) (Or.inr (own_w hw 41 rfl)) (by decide) (t := .int) (t' := .int) (by decide) (by decide)))).other W11 (Or.inr (slot_ne (Or.inr (own_w hw 47 rfl)) (Or.inr (own_w hw 43 rfl)) (by decide) (t := .int) (t' := .int) (by decide) (by decide)))).other W14 (Or.inr (slot_ne (Or.inr (own_w hw 47 rfl)) (Or.inr (own_w hw 45 rfl)) (by decide) (t := .int) (t' := .int) (by decide) (by decide)))).same W17
  have N17 := Fr.snoc X17 N14 g1
  have O17 : Old Z n0 h17 := O14.wr W17 g1
  have pre_18 : ∀ t, Sp p e below T17 (mkF m 31 #[.val (.ref a1), .val (.ref a2), .val (.int p3), .val (.int p4), .val (.int p5), .val (.int p6)] []) t → Steps p.tables e below E0 t := fun t k => pre_16 t (st17 t k)
  obtain ⟨fs, hr, hrun, hended, hW, hsame⟩ := X17.leave (v := none) (fun _ => rfl)
  refine ⟨_, _, pre_18 _ ?_, hrun, hended, _, _, rfl, ?_, ⟨_, rfl⟩, hW, hsame.mono (by decide) (by decide)⟩
  · show Sp p e below T17 (mkF m 31 #[.val (.ref a1), .val (.ref a2), .val (.int p3), .val (.int p4), .val (.int p5), .val (.int p6)] []) _
    exact X17.returnOut hx Bd.returns (hb hby d_prog_63_3_31) hr
  · show Q_ini Z _ _ _ _ _ _ _ _ _ _ _ h0 n0 _ T17.heap _
    rw [e17]
    exact ⟨rfl, N17, ((((((Keep.refl h0 [a1]).wr W5 (Or.inl (List.mem_of_getElem? (i := 0) rfl))).wr W8 (Or.inl (List.mem_of_getElem? (i := 0) rfl))).wr W11 (Or.inl (List.mem_of_getElem? (i := 0) rfl))).wr W14 (Or.inl (List.mem_of_getElem? (i := 0) rfl))).wr W17 (Or.inl (List.mem_of_getElem? (i := 0) rfl))), ((((Fw5.other W8 (Or.inr (slot_ne (Or.inr (own_w hw 39 rfl)) (Or.inr (own_w hw 41 rfl)) (by decide) (t := (.object "java/lang/String")) (t' := .int) (by decide) (by decide)))).other W11 (Or.inr (slot_ne (Or.inr (own_w hw 39 rfl)) (Or.inr (own_w hw 43 rfl)) (by decide) (t := (.object "java/lang/String")) (t' := .int) (by decide) (by decide)))).other W14 (Or.inr (slot_ne (Or.inr (own_w hw 39 rfl)) (Or.inr (own_w hw 45 rfl)) (by decide) (t := (.object "java/lang/String")) (t' := .int) (by decide) (by decide)))).other W17 (Or.inr (slot_ne (Or.inr (own_w hw 39 rfl)) (Or.inr (own_w hw 47 rfl)) (by decide) (t := (.object "java/lang/String")) (t' := .int) (by decide) (by decide)))), (((Fw8.other W11 (Or.inr (slot_ne (Or.inr (own_w hw 41 rfl)) (Or.inr (own_w hw 43 rfl)) (by decide) (t := .int) (t' := .int) (by decide) (by decide)))).other W14 (Or.inr (slot_ne (Or.inr (own_w hw 41 rfl)) (Or.inr (own_w hw 45 rfl)) (by decide) (t := .int) (t' := .int) (by decide) (by decide)))).other W17 (Or.inr (slot_ne (Or.inr (own_w hw 41 rfl)) (Or.inr (own_w hw 47 rfl)) (by decide) (t := .int) (t' := .int) (by decide) (by decide)))), ((Fw11.other W14 (Or.inr (slot_ne (Or.inr (own_w hw 43 rfl)) (Or.inr (own_w hw 45 rfl)) (by decide) (t := .int) (t' := .int) (by decide) (by decide)))).other W17 (Or.inr (slot_ne (Or.inr (own_w hw 43 rfl)) (Or.inr (own_w hw 47 rfl)) (by decide) (t := .int) (t' := .int) (by decide) (by decide))))⟩
theorem d_prog_63_6_0 : decode prog_63_method_6_code 0 = .ok (.aload_n 0, 1) := by decide +kernel
theorem d_prog_63_6_1 : decode prog_63_method_6_code 1 = .ok (.getfield 17, 3) := by decide +kernel
theorem d_prog_63_6_4 : decode prog_63_method_6_code 4 = .ok (.aload_n 1, 1) := by decide +kernel
theorem d_prog_63_6_5 : decode prog_63_method_6_code 5 = .ok (.getfield 17, 3) := by decide +kernel
theorem d_prog_63_6_8 : decode prog_63_method_6_code 8 = .ok (.if_icmp .ne 32, 3) := by decide +kernel
theorem d_prog_63_6_11 : decode prog_63_method_6_code 11 = .ok (.aload_n 0, 1) := by decide +kernel
theorem d_prog_63_6_12 : decode prog_63_method_6_code 12 = .ok (.getfield 13, 3) := by decide +kernel
theorem d_prog_63_6_15 : decode prog_63_method_6_code 15 = .ok (.aload_n 1, 1) := by decide +kernel
theorem d_prog_63_6_16 : decode prog_63_method_6_code 16 = .ok (.getfield 13, 3) := by decide +kernel
theorem d_prog_63_6_19 : decode prog_63_method_6_code 19 = .ok (.if_icmp .ne 21, 3) := by decide +kernel
theorem d_prog_63_6_22 : decode prog_63_method_6_code 22 = .ok (.aload_n 0, 1) := by decide +kernel
theorem d_prog_63_6_23 : decode prog_63_method_6_code 23 = .ok (.getfield 7, 3) := by decide +kernel
theorem d_prog_63_6_26 : decode prog_63_method_6_code 26 = .ok (.aload_n 1, 1) := by decide +kernel
theorem d_prog_63_6_27 : decode prog_63_method_6_code 27 = .ok (.getfield 7, 3) := by decide +kernel
theorem d_prog_63_6_30 : decode prog_63_method_6_code 30 = .ok (.invokevirtual 41, 3) := by decide +kernel
theorem d_prog_63_6_33 : decode prog_63_method_6_code 33 = .ok (.ifCond .eq 7, 3) := by decide +kernel
theorem d_prog_63_6_36 : decode prog_63_method_6_code 36 = .ok (.iconst 1, 1) := by decide +kernel
theorem d_prog_63_6_37 : decode prog_63_method_6_code 37 = .ok (.goto 4, 3) := by decide +kernel
theorem d_prog_63_6_40 : decode prog_63_method_6_code 40 = .ok (.iconst 0, 1) := by decide +kernel
theorem d_prog_63_6_41 : decode prog_63_method_6_code 41 = .ok (.ireturn, 1) := by decide +kernel
theorem pn_inf : plainName "com/example/vaxwire/vaxwire/hl7/Location" = true := by first | (simp [plainName, overriddenIn]; done) | decide +kernel
theorem pd_inf_0 : parseMethodDescriptor "(Ljava/lang/Object;)Z" = some ⟨[(.object "java/lang/Object")], some .boolean⟩ := by decide +kernel
theorem ef_inf (m : MethodId) (a1 : Addr) (a2 : Addr) : entryFrame m #[(.ref a1), (.ref a2)] 2 = (mkF m 0 #[.val (.ref a1), .val (.ref a2)] []) := by first | (simp [entryFrame, mkF, argsToLocals, Value.category]; done) | rfl
def Q_inf (Z : State) (a1 : Addr) (a2 : Addr) (x1 y1 x2 y2 : Int32) (s1 s2 b1 b2 : Addr) (G1 : Int32) (k1 k2 : ClassId) (nn mm c0 c1 d0 d1 : Int32) (h0 : Heap) (n0 : Nat) (v : Option Value) (h : Heap) (L : List Loc) : Prop := v = some (.int (if y1 = y2 then (if x1 = x2 then (own_eqv nn mm c0 d0 c1 d1) else (0 : Int32)) else (0 : Int32))) ∧ Fr n0 L ∧ h = h0
set_option maxRecDepth 65536 in
set_option maxHeartbeats 40000000 in
theorem rm_inf (l : Launch) (Z : State) (a0 : Array Value) (hw : ∀ d ∈ tables_1, d.before a0 Z = true) (ws : List Jvm.Cond) (a1 : Addr) (a2 : Addr) (x1 y1 x2 y2 : Int32) (s1 s2 b1 b2 : Addr) (G1 : Int32) (k1 k2 : ClassId) (nn mm c0 c1 d0 d1 : Int32) (h0 : Heap) (n0 : Nat) (O0 : Old Z n0 h0) (G0 : Fld Z h0 a1 "com/example/vaxwire/vaxwire/hl7/Location" "segment" "Ljava/lang/String;" (.ref s1)) (G1x : Fld Z h0 a1 "com/example/vaxwire/vaxwire/hl7/Location" "sequence" "I" (.int x1)) (G2 : Fld Z h0 a1 "com/example/vaxwire/vaxwire/hl7/Location" "field" "I" (.int y1)) (H0 : Fld Z h0 a2 "com/example/vaxwire/vaxwire/hl7/Location" "segment" "Ljava/lang/String;" (.ref s2)) (H1 : Fld Z h0 a2 "com/example/vaxwire/vaxwire/hl7/Location" "sequence" "I" (.int x2)) (H2 : Fld Z h0 a2 "com/example/vaxwire/vaxwire/hl7/Location" "field" "I" (.int y2)) (E1 : Exa Z h0 s1 "java/lang/String") (E2 : Exa Z h0 s2 "java/lang/String") (FC1 : Fld Z h0 s1 "java/lang/String" "coder" "B" (.int (0 : Int32))) (FC2 : Fld Z h0 s2 "java/lang/String" "coder" "B" (.int (0 : Int32))) (FV1 : Fld Z h0 s1 "java/lang/String" "value" "[B" (.ref b1)) (FV2 : Fld Z h0 s2 "java/lang/String" "value" "[B" (.ref b2)) (A1 : own_Ar Z h0 b1 k1 nn c0 c1) (A2 : own_Ar Z h0 b2 k2 mm d0 d1) (ne12 : ¬ s1 = s2) (SC : Sta Z Z.heap "java/lang/String" "COMPACT_STRINGS" "Z" (.int G1)) (hG : ¬ G1 = (0 : Int32)) (hc0 : ¬ (255 : Int32) < c0 ∧ ¬ c0 < (0 : Int32)) (hc1 : ¬ (255 : Int32) < c1 ∧ ¬ c1 < (0 : Int32)) (hd0 : ¬ (255 : Int32) < d0 ∧ ¬ d0 < (0 : Int32)) (hd1 : ¬ (255 : Int32) < d1 ∧ ¬ d1 < (0 : Int32)) :
    MetFree l (⟨"com/example/vaxwire/vaxwire/hl7/Location", "inFieldOf", "(Lcom/example/vaxwire/vaxwire/hl7/Location;)Z"⟩ : MethodName) (head1 (Jvm.Cond.code (⟨"com/example/vaxwire/vaxwire/hl7/Location", "inFieldOf", "(Lcom/example/vaxwire/vaxwire/hl7/Location;)Z"⟩ : MethodName) prog_63_method_6_code 2 (some .boolean) :: ws) ({ frames := 2, cells := 0, slots := 0, locals := 28 } : Room)) (fun a U => a = #[(.ref a1), (.ref a2)] ∧ Z.Warmed39 U.vm ∧ U.heap = h0) (fun _ _ _ _ _ => True) (fun _ U o U' => ∃ v L, o = .returned v ∧ Q_inf Z a1 a2 x1 y1 x2 y2 s1 s2 b1 b2 G1 k1 k2 nn mm c0 c1 d0 d1 h0 n0 v U'.heap L ∧ FrameEnd U o U' L ({ frames := 2, cells := 0, slots := 0, locals := 28 } : Room).cells ({ frames := 2, cells := 0, slots := 0, locals := 28 } : Room).slots) := by
  refine MetFree.of_bodySF (plainFor_of_name pn_inf) hisR ?_
  intro p e s m args below meth c s₁ Bd hml0 hP hK
  obtain ⟨rfl, hZ, hh⟩ := hP
  have hx := Bd.exec
  have hby := Bd.bytes
  have hml : c.maxLocals = 2 := hml0
  have hown : s.vm.findClass "com/example/vaxwire/vaxwire/hl7/Location" = some m.cls := findClass_of_methodNamed Bd.named
  have hnm := (name_of_methodNamed Bd.named Bd.method).1
  have X0 : Stand p l e ({ frames := 2, cells := 0, slots := 0, locals := 28 } : Room) s m #[(.ref a1), (.ref a2)] below meth c s₁ [] 0 0 := Stand.of_body Bd
  have e0 : s₁.heap = h0 := by rw [← hh, Bd.state]; rfl
  have N0 := Fr.nil n0
  have pre0 : ∀ t, Steps p.tables e below (s₁.setTop (mkF m 0 #[.val (.ref a1), .val (.ref a2)] [])) t → Steps p.tables e below (s₁.setTop (entryFrame m #[(.ref a1), (.ref a2)] 2)) t := fun t k => castTop (ef_inf m a1 a2) k
  generalize s₁.setTop (entryFrame m #[(.ref a1), (.ref a2)] 2) = E0 at pre0 ⊢
  have pre_1 : ∀ t, Sp p e below s₁ (mkF m 1 #[.val (.ref a1), .val (.ref a2)] [(.ref a1)]) t → Steps p.tables e below E0 t := by
    intro t k
    refine pre0 t ?_
    show Sp p e below s₁ (mkF m 0 #[.val (.ref a1), .val (.ref a2)] []) _
    refine XS.aloadN X0.here hx rfl (hb hby d_prog_63_6_0) rfl rfl ?_
    exact k
  obtain ⟨T2, X2, e2, st2⟩ := getF X0 hx hZ hown (host := "") (Or.inl (own_w hw 42 rfl)) Via.refl e0 G2 (g := (mkF m 1 #[.val (.ref a1), .val (.ref a2)] [(.ref a1)])) rfl rfl (hb hby d_prog_63_6_1)
  have pre_3 : ∀ t, Sp p e below T2 (mkF m 4 #[.val (.ref a1), .val (.ref a2)] [(.int y1)]) t → Steps p.tables e below E0 t := fun t k => pre_1 t (st2 t k)
  have pre_4 : ∀ t, Sp p e below T2 (mkF m 5 #[.val (.ref a1), .val (.ref a2)] [(.ref a2), (.int y1)]) t → Steps p.tables e below E0 t := by
    intro t k
    refine pre_3 t ?_
    show Sp p e below T2 (mkF m 4 #[.val (.ref a1), .val (.ref a2)] [(.int y1)]) _
    refine XS.aloadN X2.here hx rfl (hb hby d_prog_63_6_4) rfl rfl ?_
    exact k
  obtain ⟨T5, X5, e5, st5⟩ := getF X2 hx hZ hown (host := "") (Or.inl (own_w hw 42 rfl)) Via.refl e2 H2 (g := (mkF m 5 #[.val (.ref a1), .val (.ref a2)] [(.ref a2), (.int y1)])) rfl rfl (hb hby d_prog_63_6_5)
  have pre_6 : ∀ t, Sp p e below T5 (mkF m 8 #[.val (.ref a1), .val (.ref a2)] [(.int y2), (.int y1)]) t → Steps p.tables e below E0 t := fun t k => pre_4 t (st5 t k)
  by_cases hc7 : y1 = y2
  · skip
    have pre_8 : ∀ t, Sp p e below T5 (mkF m 12 #[.val (.ref a1), .val (.ref a2)] [(.ref a1)]) t → Steps p.tables e below E0 t := by
      intro t k
      refine pre_6 t ?_
      show Sp p e below T5 (mkF m 8 #[.val (.ref a1), .val (.ref a2)] [(.int y2), (.int y1)]) _
      refine XS.icmpNo X5.here hx rfl (hb hby d_prog_63_6_8) rfl (XT.ii_ne_f hc7) ?_
      refine XS.aloadN X5.here hx rfl (hb hby d_prog_63_6_11) rfl rfl ?_
      show Sp p e below T5 (mkF m 12 #[.val (.ref a1), .val (.ref a2)] [(.ref a1)]) _
      exact k
    obtain ⟨T9, X9, e9, st9⟩ := getF X5 hx hZ hown (host := "") (Or.inl (own_w hw 40 rfl)) Via.refl e5 G1x (g := (mkF m 12 #[.val (.ref a1), .val (.ref a2)] [(.ref a1)])) rfl rfl (hb hby d_prog_63_6_12)
    have pre_10 : ∀ t, Sp p e below T9 (mkF m 15 #[.val (.ref a1), .val (.ref a2)] [(.int x1)]) t → Steps p.tables e below E0 t := fun t k => pre_8 t (st9 t k)
    have pre_11 : ∀ t, Sp p e below T9 (mkF m 16 #[.val (.ref a1), .val (.ref a2)] [(.ref a2), (.int x1)]) t → Steps p.tables e below E0 t := by
      intro t k
      refine pre_10 t ?_
      show Sp p e below T9 (mkF m 15 #[.val (.ref a1), .val (.ref a2)] [(.int x1)]) _
      refine XS.aloadN X9.here hx rfl (hb hby d_prog_63_6_15) rfl rfl ?_
      exact k
    obtain ⟨T12, X12, e12, st12⟩ := getF X9 hx hZ hown (host := "") (Or.inl (own_w hw 40 rfl)) Via.refl e9 H1 (g := (mkF m 16 #[.val (.ref a1), .val (.ref a2)] [(.ref a2), (.int x1)])) rfl rfl (hb hby d_prog_63_6_16)
    have pre_13 : ∀ t, Sp p e below T12 (mkF m 19 #[.val (.ref a1), .val (.ref a2)] [(.int x2), (.int x1)]) t → Steps p.tables e below E0 t := fun t k => pre_11 t (st12 t k)
    by_cases hc14 : x1 = x2
    · skip
      have pre_15 : ∀ t, Sp p e below T12 (mkF m 23 #[.val (.ref a1), .val (.ref a2)] [(.ref a1)]) t → Steps p.tables e below E0 t := by
        intro t k
        refine pre_13 t ?_
        show Sp p e below T12 (mkF m 19 #[.val (.ref a1), .val (.ref a2)] [(.int x2), (.int x1)]) _
        refine XS.icmpNo X12.here hx rfl (hb hby d_prog_63_6_19) rfl (XT.ii_ne_f hc14) ?_
        refine XS.aloadN X12.here hx rfl (hb hby d_prog_63_6_22) rfl rfl ?_
        exact k
      obtain ⟨T16, X16, e16, st16⟩ := getF X12 hx hZ hown (host := "") (Or.inl (own_w hw 38 rfl)) Via.refl e12 G0 (g := (mkF m 23 #[.val (.ref a1), .val (.ref a2)] [(.ref a1)])) rfl rfl (hb hby d_prog_63_6_23)
      have pre_17 : ∀ t, Sp p e below T16 (mkF m 26 #[.val (.ref a1), .val (.ref a2)] [(.ref s1)]) t → Steps p.tables e below E0 t := fun t k => pre_15 t (st16 t k)
      have pre_18 : ∀ t, Sp p e below T16 (mkF m 27 #[.val (.ref a1), .val (.ref a2)] [(.ref a2), (.ref s1)]) t → Steps p.tables e below E0 t := by
        intro t k
        refine pre_17 t ?_
        show Sp p e below T16 (mkF m 26 #[.val (.ref a1), .val (.ref a2)] [(.ref s1)]) _
        refine XS.aloadN X16.here hx rfl (hb hby d_prog_63_6_26) rfl rfl ?_
        show Sp p e below T16 (mkF m 27 #[.val (.ref a1), .val (.ref a2)] [(.ref a2), (.ref s1)]) _
        exact k
      obtain ⟨T19, X19, e19, st19⟩ := getF X16 hx hZ hown (host := "") (Or.inl (own_w hw 38 rfl)) Via.refl e16 H0 (g := (mkF m 27 #[.val (.ref a1), .val (.ref a2)] [(.ref a2), (.ref s1)])) rfl rfl (hb hby d_prog_63_6_27)
      have pre_20 : ∀ t, Sp p e below T19 (mkF m 30 #[.val (.ref a1), .val (.ref a2)] [(.ref s2), (.ref s1)]) t → Steps p.tables e below E0 t := fun t k => pre_18 t (st19 t k)
      obtain ⟨cq21, kq21, qa21, qb21, qc21⟩ := isOf hZ e19 E1
      obtain ⟨_, _, ⟨T21, L21, k21, n21⟩, -, X21, ⟨Lc21, hQ21, l21, y21, z21⟩, st21⟩ := X19.virtualBack hx (y := (⟨"java/lang/String", "equals", "(Ljava/lang/Object;)Z"⟩ : MethodName)) (z := (⟨"java/lang/String", "equals", "(Ljava/lang/Object;)Z"⟩ : MethodName)) hown (mvT hZ (own_w hw 64 rfl)) (mvT hZ (own_w hw 65 rfl)) (notFace_of_selects (args := #[]) (mvT hZ (own_w hw 67 rfl))) (mvT hZ (own_w hw 67 rfl)) (mvT hZ (own_w hw 66 rfl)) (by decide) (backOf (W := 0) (rm_seq l Z a0 hw [] s1 s2 b1 b2 G1 k1 k2 nn mm c0 c1 d0 d1 h0 n0 O0 E2 FC1 FC2 FV1 FV2 A1 A2 ne12 SC hG hc0 hc1 hd0 hd1) hZ (own_w hw 68 rfl) (own_w hw 9 rfl) (by decide) (by decide)) qa21 qc21 (g := (mkF m 30 #[.val (.ref a1), .val (.ref a2)] [(.ref s2), (.ref s1)])) rfl (by rw [hml]; rfl) (Steps.refl _) (argsL := [(.ref s2)]) (rest := []) (lenOf pd_inf_0 rfl) rfl (by show 2 * 0 + _ ≤ _; exact Nat.le_of_eq rfl) (hb hby d_prog_63_6_30) (fun _ _ => ⟨rfl, e19, (by decide : 0 + 0 ≤ _), (by decide : 0 + 0 ≤ _)⟩)
      dsimp only [Pt.U, Pt.locs, Pt.cells, Pt.slots] at X21 l21 y21 z21 st21 hQ21
      subst l21 y21 z21
      obtain ⟨rfl, N21q, e21⟩ := hQ21
      have N21 := Fr.app N0 N21q
      have pre_22 : ∀ t, Sp p e below T21 (mkF m 33 #[.val (.ref a1), .val (.ref a2)] [(.int (own_eqv nn mm c0 d0 c1 d1))]) t → Steps p.tables e below E0 t := fun t k => pre_20 t (st21.trans k)
      rcases own_eqv01 nn mm c0 d0 c1 d1 with hv | hv
      · skip
        have pre_23 : ∀ t, Sp p e below T21 (mkF m 41 #[.val (.ref a1), .val (.ref a2)] [(.int (0 : Int32))]) t → Steps p.tables e below E0 t := by
          intro t k
          refine pre_22 t ?_
          show Sp p e below T21 (mkF m 33 #[.val (.ref a1), .val (.ref a2)] [(.int (own_eqv nn mm c0 d0 c1 d1))]) _
          refine XS.ifYes X21.here hx rfl (pc0 := 33) (pc' := 40) rfl (hb hby d_prog_63_6_33) rfl (XT.i0_eq_t hv) (by decide) (by decide) ?_
          refine XS.iconst X21.here hx rfl (hb hby d_prog_63_6_40) ?_
          exact k
        obtain ⟨fs, hr, hrun, hended, hW, hsame⟩ := X21.leave (v := some (.int (0 : Int32))) (fun h => by rw [Bd.returns] at h; cases h)
        refine ⟨_, _, pre_23 _ ?_, hrun, hended, _, _, rfl, ?_, ⟨_, rfl⟩, hW, hsame.mono (by decide) (by decide)⟩
        · show Sp p e below T21 (mkF m 41 #[.val (.ref a1), .val (.ref a2)] [(.int (0 : Int32))]) _
          exact retN X21 hx (t := .boolean) Bd.returns (by simp) (hb hby d_prog_63_6_41) hr
        · show Q_inf Z _ _ _ _ _ _ _ _ _ _ _ _ _ _ _ _ _ _ _ h0 n0 _ T21.heap _
          rw [e21]
          exact ⟨by simp [hc7, hc14, hv], N21, rfl⟩
      · skip
        have pre_24 : ∀ t, Sp p e below T21 (mkF m 41 #[.val (.ref a1), .val (.ref a2)] [(.int (1 : Int32))]) t → Steps p.tables e below E0 t := by
          intro t k
          refine pre_22 t ?_
          show Sp p e below T21 (mkF m 33 #[.val (.ref a1), .val (.ref a2)] [(.int (own_eqv nn mm c0 d0 c1 d1))]) _
          refine XS.ifNo X21.here hx rfl (hb hby d_prog_63_6_33) rfl (XT.i0_eq_f (by rw [hv]; decide)) ?_
          refine XS.iconst X21.here hx rfl (hb hby d_prog_63_6_36) ?_
          refine XS.goto X21.here hx rfl (pc0 := 37) (pc' := 41) rfl (hb hby d_prog_63_6_37) (by decide) (by decide) ?_
          exact k
        obtain ⟨fs, hr, hrun, hended, hW, hsame⟩ := X21.leave (v := some (.int (1 : Int32))) (fun h => by rw [Bd.returns] at h; cases h)
        refine ⟨_, _, pre_24 _ ?_, hrun, hended, _, _, rfl, ?_, ⟨_, rfl⟩, hW, hsame.mono (by decide) (by decide)⟩
        · show Sp p e below T21 (mkF m 41 #[.val (.ref a1), .val (.ref a2)] [(.int (1 : Int32))]) _
          exact retN X21 hx (t := .boolean) Bd.returns (by simp) (hb hby d_prog_63_6_41) hr
        · show Q_inf Z _ _ _ _ _ _ _ _ _ _ _ _ _ _ _ _ _ _ _ h0 n0 _ T21.heap _
          rw [e21]
          exact ⟨by simp [hc7, hc14, hv], N21, rfl⟩
    · skip
      have pre_25 : ∀ t, Sp p e below T12 (mkF m 41 #[.val (.ref a1), .val (.ref a2)] [(.int (0 : Int32))]) t → Steps p.tables e below E0 t := by
        intro t k
        refine pre_13 t ?_
        show Sp p e below T12 (mkF m 19 #[.val (.ref a1), .val (.ref a2)] [(.int x2), (.int x1)]) _
        refine XS.icmpYes X12.here hx rfl (pc0 := 19) (pc' := 40) rfl (hb hby d_prog_63_6_19) rfl (XT.ii_ne_t hc14) (by decide) (by decide) ?_
        refine XS.iconst X12.here hx rfl (hb hby d_prog_63_6_40) ?_
        exact k
      obtain ⟨fs, hr, hrun, hended, hW, hsame⟩ := X12.leave (v := some (.int (0 : Int32))) (fun h => by rw [Bd.returns] at h; cases h)
      refine ⟨_, _, pre_25 _ ?_, hrun, hended, _, _, rfl, ?_, ⟨_, rfl⟩, hW, hsame.mono (by decide) (by decide)⟩
      · show Sp p e below T12 (mkF m 41 #[.val (.ref a1), .val (.ref a2)] [(.int (0 : Int32))]) _
        exact retN X12 hx (t := .boolean) Bd.returns (by simp) (hb hby d_prog_63_6_41) hr
      · show Q_inf Z _ _ _ _ _ _ _ _ _ _ _ _ _ _ _ _ _ _ _ h0 n0 _ T12.heap _
        rw [e12]
        exact ⟨by simp [hc7, hc14], N0, rfl⟩
  · skip
    have pre_26 : ∀ t, Sp p e below T5 (mkF m 41 #[.val (.ref a1), .val (.ref a2)] [(.int (0 : Int32))]) t → Steps p.tables e below E0 t := by
      intro t k
      refine pre_6 t ?_
      show Sp p e below T5 (mkF m 8 #[.val (.ref a1), .val (.ref a2)] [(.int y2), (.int y1)]) _
      refine XS.icmpYes X5.here hx rfl (pc0 := 8) (pc' := 40) rfl (hb hby d_prog_63_6_8) rfl (XT.ii_ne_t hc7) (by decide) (by decide) ?_
      refine XS.iconst X5.here hx rfl (hb hby d_prog_63_6_40) ?_
      show Sp p e below T5 (mkF m 41 #[.val (.ref a1), .val (.ref a2)] [(.int (0 : Int32))]) _
      exact k
    obtain ⟨fs, hr, hrun, hended, hW, hsame⟩ := X5.leave (v := some (.int (0 : Int32))) (fun h => by rw [Bd.returns] at h; cases h)
    refine ⟨_, _, pre_26 _ ?_, hrun, hended, _, _, rfl, ?_, ⟨_, rfl⟩, hW, hsame.mono (by decide) (by decide)⟩
    · show Sp p e below T5 (mkF m 41 #[.val (.ref a1), .val (.ref a2)] [(.int (0 : Int32))]) _
      exact retN X5 hx (t := .boolean) Bd.returns (by simp) (hb hby d_prog_63_6_41) hr
    · show Q_inf Z _ _ _ _ _ _ _ _ _ _ _ _ _ _ _ _ _ _ _ h0 n0 _ T5.heap _
      rw [e5]
      exact ⟨by simp [hc7], N0, rfl⟩
theorem pn_law : plainName "com/example/vaxwire/vaxwire/hl7/LocationInFieldOfPinLaw" = true := by first | (simp [plainName, overriddenIn]; done) | decide +kernel
theorem pd_law_0 : parseMethodDescriptor "(ICC)Ljava/lang/String;" = some ⟨[.int, .char, .char], some (.object "java/lang/String")⟩ := by decide +kernel
theorem pd_law_1 : parseMethodDescriptor "(Ljava/lang/String;IIII)V" = some ⟨[(.object "java/lang/String"), .int, .int, .int, .int], none⟩ := by decide +kernel
theorem pd_law_2 : parseMethodDescriptor "(Lcom/example/vaxwire/vaxwire/hl7/Location;)Z" = some ⟨[(.object "com/example/vaxwire/vaxwire/hl7/Location")], some .boolean⟩ := by decide +kernel
theorem ef_law (m : MethodId) (p1 : Int32) (p2 : Int32) (p3 : Int64) (p4 : Int64) (p5 : Int64) : entryFrame m #[(.int p1), (.int p2), (.long p3), (.long p4), (.long p5)] maxLocals = (mkF m 0 #[.val (.int p1), .val (.int p2), .val (.long p3), .second, .val (.long p4), .second, .val (.long p5), .second, .unset, .unset, .unset, .unset, .unset, .unset, .unset, .unset, .unset, .unset, .unset, .unset, .unset, .unset, .unset, .unset, .unset] []) := by first | (simp [entryFrame, mkF, argsToLocals, Value.category, maxLocals]; done) | rfl
def Q_law (Z : State) (p1 : Int32) (p2 : Int32) (p3 : Int64) (p4 : Int64) (p5 : Int64) (G1 : Int32) (h0 : Heap) (n0 : Nat) (v : Option Value) (vm : Vm) (h : Heap) (L : List Loc) : Prop := v = some (.int 1) ∧ Fr n0 L
set_option maxRecDepth 65536 in
set_option maxHeartbeats 40000000 in
theorem rm_law (l : Launch) (Z : State) (a0 : Array Value) (hw : ∀ d ∈ tables_1, d.before a0 Z = true) (ws : List Jvm.Cond) (p1 : Int32) (p2 : Int32) (p3 : Int64) (p4 : Int64) (p5 : Int64) (G1 : Int32) (h0 : Heap) (n0 : Nat) (O0 : Old Z n0 h0) (SC : Sta Z Z.heap "java/lang/String" "COMPACT_STRINGS" "Z" (.int G1)) (hG : ¬ G1 = (0 : Int32)) (hHC : Jvm.Lit.constHeld Z "java/lang/String" 7) (hCW : Jvm.Lit.compactW.before a0 Z = true) :
    MetFree l x (head1 (Jvm.Cond.code x code maxLocals ret :: ws) room_1) (fun a U => a = #[(.int p1), (.int p2), (.long p3), (.long p4), (.long p5)] ∧ Z.Warmed39 U.vm ∧ U.heap = h0 ∧ IB Z U.vm []) (fun _ _ _ _ _ => True) (fun _ U o U' => ∃ v L, o = .returned v ∧ Q_law Z p1 p2 p3 p4 p5 G1 h0 n0 v U'.vm U'.heap L ∧ ReturnedEndW U o U' L room_1.cells room_1.slots) := by
  refine MetFree.of_bodySF (plainFor_of_name pn_law) hisR ?_
  intro p e s m args below meth c s₁ Bd hml0 hP hK
  obtain ⟨rfl, hZ, hh, hPV⟩ := hP
  have hx := Bd.exec
  have hby := Bd.bytes
  have hml : c.maxLocals = 25 := hml0
  have hown : s.vm.findClass "com/example/vaxwire/vaxwire/hl7/LocationInFieldOfPinLaw" = some m.cls := findClass_of_methodNamed Bd.named
  have hnm := (name_of_methodNamed Bd.named Bd.method).1
  have X0 : Stand p l e room_1 (s.setVm s.vm) m #[(.int p1), (.int p2), (.long p3), (.long p4), (.long p5)] below meth c s₁ [] 0 0 := Stand.of_body Bd
  have e0 : s₁.heap = h0 := by rw [← hh, Bd.state]; rfl
  have N0 := Fr.nil n0
  have pre0 : ∀ t, Steps p.tables e below (s₁.setTop (mkF m 0 #[.val (.int p1), .val (.int p2), .val (.long p3), .second, .val (.long p4), .second, .val (.long p5), .second, .unset, .unset, .unset, .unset, .unset, .unset, .unset, .unset, .unset, .unset, .unset, .unset, .unset, .unset, .unset, .unset, .unset] [])) t → Steps p.tables e below (s₁.setTop (entryFrame m #[(.int p1), (.int p2), (.long p3), (.long p4), (.long p5)] maxLocals)) t := fun t k => castTop (ef_law m p1 p2 p3 p4 p5) k
  generalize s₁.setTop (entryFrame m #[(.int p1), (.int p2), (.long p3), (.long p4), (.long p5)] maxLocals) = E0 at pre0 ⊢
  have pre_1 : ∀ t, Sp p e below s₁ (mkF m 35 #[.val (.int p1), .val (.int p2), .val (.long p3), .second, .val (.long p4), .second, .val (.long p5), .second, .val (.int (((XT.ushr p1 (16 : Int32)) &&& (3 : Int32)) % (3 : Int32))), .val (.int (((p1 &&& (255 : Int32))).toUInt32.toUInt16.toUInt32.toInt32)), .val (.int ((((XT.ushr p1 (8 : Int32)) &&& (255 : Int32))).toUInt32.toUInt16.toUInt32.toInt32)), .unset, .unset, .unset, .unset, .unset, .unset, .unset, .unset, .unset, .unset, .unset, .unset, .unset, .unset] [(.int ((XT.ushr p1 (18 : Int32)) &&& (1 : Int32)))]) t → Steps p.tables e below E0 t := by
    intro t k
    refine pre0 t ?_
    show Sp p e below s₁ (mkF m 0 #[.val (.int p1), .val (.int p2), .val (.long p3), .second, .val (.long p4), .second, .val (.long p5), .second, .unset, .unset, .unset, .unset, .unset, .unset, .unset, .unset, .unset, .unset, .unset, .unset, .unset, .unset, .unset, .unset, .unset] []) _
    refine XS.iloadN X0.here hx rfl (hb hby at_0) rfl ?_
    refine XS.bipush X0.here hx rfl (hb hby at_1) ?_
    refine XT.iushr X0.here hx rfl (hb hby at_3) rfl ?_
    refine XS.iconst X0.here hx rfl (hb hby at_4) ?_
    show Sp p e below s₁ (mkF m 5 #[.val (.int p1), .val (.int p2), .val (.long p3), .second, .val (.long p4), .second, .val (.long p5), .second, .unset, .unset, .unset, .unset, .unset, .unset, .unset, .unset, .unset, .unset, .unset, .unset, .unset, .unset, .unset, .unset, .unset] [(.int (3 : Int32)), (.int (XT.ushr p1 (16 : Int32)))]) _
    refine XS.iand X0.here hx rfl (hb hby at_5) rfl ?_
    refine XS.iconst X0.here hx rfl (hb hby at_6) ?_
    refine iremM X0 hx rfl (hb hby at_7) rfl (by decide) ?_
    refine XS.istore X0.here hx rfl (hb hby at_8) rfl (l' := #[.val (.int p1), .val (.int p2), .val (.long p3), .second, .val (.long p4), .second, .val (.long p5), .second, .val (.int (((XT.ushr p1 (16 : Int32)) &&& (3 : Int32)) % (3 : Int32))), .unset, .unset, .unset, .unset, .unset, .unset, .unset, .unset, .unset, .unset, .unset, .unset, .unset, .unset, .unset, .unset]) rfl ?_
    show Sp p e below s₁ (mkF m 10 #[.val (.int p1), .val (.int p2), .val (.long p3), .second, .val (.long p4), .second, .val (.long p5), .second, .val (.int (((XT.ushr p1 (16 : Int32)) &&& (3 : Int32)) % (3 : Int32))), .unset, .unset, .unset, .unset, .unset, .unset, .unset, .unset, .unset, .unset, .unset, .unset, .unset, .unset, .unset, .unset] []) _
    refine XS.iloadN X0.here hx rfl (hb hby at_10) rfl ?_
    refine XS.sipush X0.here hx rfl (hb hby at_11) ?_
    refine XS.iand X0.here hx rfl (hb hby at_14) rfl ?_
    refine XT.i2c X0.here hx rfl (hb hby at_15) rfl ?_
    show Sp p e below s₁ (mkF m 16 #[.val (.int p1), .val (.int p2), .val (.long p3), .second, .val (.long p4), .second, .val (.long p5), .second, .val (.int (((XT.ushr p1 (16 : Int32)) &&& (3 : Int32)) % (3 : Int32))), .unset, .unset, .unset, .unset, .unset, .unset, .unset, .unset, .unset, .unset, .unset, .unset, .unset, .unset, .unset, .unset] [(.int (((p1 &&& (255 : Int32))).toUInt32.toUInt16.toUInt32.toInt32))]) _
    refine XS.istore X0.here hx rfl (hb hby at_16) rfl (l' := #[.val (.int p1), .val (.int p2), .val (.long p3), .second, .val (.long p4), .second, .val (.long p5), .second, .val (.int (((XT.ushr p1 (16 : Int32)) &&& (3 : Int32)) % (3 : Int32))), .val (.int (((p1 &&& (255 : Int32))).toUInt32.toUInt16.toUInt32.toInt32)), .unset, .unset, .unset, .unset, .unset, .unset, .unset, .unset, .unset, .unset, .unset, .unset, .unset, .unset, .unset]) rfl ?_
    refine XS.iloadN X0.here hx rfl (hb hby at_18) rfl ?_
    refine XS.bipush X0.here hx rfl (hb hby at_19) ?_
    refine XT.iushr X0.here hx rfl (hb hby at_21) rfl ?_
    show Sp p e below s₁ (mkF m 22 #[.val (.int p1), .val (.int p2), .val (.long p3), .second, .val (.long p4), .second, .val (.long p5), .second, .val (.int (((XT.ushr p1 (16 : Int32)) &&& (3 : Int32)) % (3 : Int32))), .val (.int (((p1 &&& (255 : Int32))).toUInt32.toUInt16.toUInt32.toInt32)), .unset, .unset, .unset, .unset, .unset, .unset, .unset, .unset, .unset, .unset, .unset, .unset, .unset, .unset, .unset] [(.int (XT.ushr p1 (8 : Int32)))]) _
    refine XS.sipush X0.here hx rfl (hb hby at_22) ?_
    refine XS.iand X0.here hx rfl (hb hby at_25) rfl ?_
    refine XT.i2c X0.here hx rfl (hb hby at_26) rfl ?_
    refine XS.istore X0.here hx rfl (hb hby at_27) rfl (l' := #[.val (.int p1), .val (.int p2), .val (.long p3), .second, .val (.long p4), .second, .val (.long p5), .second, .val (.int (((XT.ushr p1 (16 : Int32)) &&& (3 : Int32)) % (3 : Int32))), .val (.int (((p1 &&& (255 : Int32))).toUInt32.toUInt16.toUInt32.toInt32)), .val (.int ((((XT.ushr p1 (8 : Int32)) &&& (255 : Int32))).toUInt32.toUInt16.toUInt32.toInt32)), .unset, .unset, .unset, .unset, .unset, .unset, .unset, .unset, .unset, .unset, .unset, .unset, .unset, .unset]) rfl ?_
    show Sp p e below s₁ (mkF m 29 #[.val (.int p1), .val (.int p2), .val (.long p3), .second, .val (.long p4), .second, .val (.long p5), .second, .val (.int (((XT.ushr p1 (16 : Int32)) &&& (3 : Int32)) % (3 : Int32))), .val (.int (((p1 &&& (255 : Int32))).toUInt32.toUInt16.toUInt32.toInt32)), .val (.int ((((XT.ushr p1 (8 : Int32)) &&& (255 : Int32))).toUInt32.toUInt16.toUInt32.toInt32)), .unset, .unset, .unset, .unset, .unset, .unset, .unset, .unset, .unset, .unset, .unset, .unset, .unset, .unset] []) _
    refine XS.iloadN X0.here hx rfl (hb hby at_29) rfl ?_
    refine XS.bipush X0.here hx rfl (hb hby at_30) ?_
    refine XT.iushr X0.here hx rfl (hb hby at_32) rfl ?_
    refine XS.iconst X0.here hx rfl (hb hby at_33) ?_
    show Sp p e below s₁ (mkF m 34 #[.val (.int p1), .val (.int p2), .val (.long p3), .second, .val (.long p4), .second, .val (.long p5), .second, .val (.int (((XT.ushr p1 (16 : Int32)) &&& (3 : Int32)) % (3 : Int32))), .val (.int (((p1 &&& (255 : Int32))).toUInt32.toUInt16.toUInt32.toInt32)), .val (.int ((((XT.ushr p1 (8 : Int32)) &&& (255 : Int32))).toUInt32.toUInt16.toUInt32.toInt32)), .unset, .unset, .unset, .unset, .unset, .unset, .unset, .unset, .unset, .unset, .unset, .unset, .unset, .unset] [(.int (1 : Int32)), (.int (XT.ushr p1 (18 : Int32)))]) _
    refine XS.iand X0.here hx rfl (hb hby at_34) rfl ?_
    exact k
  have pre_3 : ∀ t, Sp p e below s₁ (mkF m 43 #[.val (.int p1), .val (.int p2), .val (.long p3), .second, .val (.long p4), .second, .val (.long p5), .second, .val (.int (((XT.ushr p1 (16 : Int32)) &&& (3 : Int32)) % (3 : Int32))), .val (.int (((p1 &&& (255 : Int32))).toUInt32.toUInt16.toUInt32.toInt32)), .val (.int ((((XT.ushr p1 (8 : Int32)) &&& (255 : Int32))).toUInt32.toUInt16.toUInt32.toInt32)), .unset, .unset, .unset, .unset, .unset, .unset, .unset, .unset, .unset, .unset, .unset, .unset, .unset, .unset] [(.int (if ((XT.ushr p1 (18 : Int32)) &&& (1 : Int32)) = (0 : Int32) then (0 : Int32) else (1 : Int32)))]) t → Steps p.tables e below E0 t := by
    intro t k
    refine pre_1 t ?_
    by_cases hm2 : ((XT.ushr p1 (18 : Int32)) &&& (1 : Int32)) = (0 : Int32)
    · skip
      show Sp p e below s₁ (mkF m 35 #[.val (.int p1), .val (.int p2), .val (.long p3), .second, .val (.long p4), .second, .val (.long p5), .second, .val (.int (((XT.ushr p1 (16 : Int32)) &&& (3 : Int32)) % (3 : Int32))), .val (.int (((p1 &&& (255 : Int32))).toUInt32.toUInt16.toUInt32.toInt32)), .val (.int ((((XT.ushr p1 (8 : Int32)) &&& (255 : Int32))).toUInt32.toUInt16.toUInt32.toInt32)), .unset, .unset, .unset, .unset, .unset, .unset, .unset, .unset, .unset, .unset, .unset, .unset, .unset, .unset] [(.int ((XT.ushr p1 (18 : Int32)) &&& (1 : Int32)))]) _
      refine XS.ifYes X0.here hx rfl (pc0 := 35) (pc' := 42) rfl (hb hby at_35) rfl (XT.i0_eq_t hm2) (by decide) (by decide) ?_
      refine XS.iconst X0.here hx rfl (hb hby at_42) ?_
      first | exact k | (simp only [if_pos hm2] at k; exact k) | (show Sp p e below s₁ (mkF m 43 #[.val (.int p1), .val (.int p2), .val (.long p3), .second, .val (.long p4), .second, .val (.long p5), .second, .val (.int (((XT.ushr p1 (16 : Int32)) &&& (3 : Int32)) % (3 : Int32))), .val (.int (((p1 &&& (255 : Int32))).toUInt32.toUInt16.toUInt32.toInt32)), .val (.int ((((XT.ushr p1 (8 : Int32)) &&& (255 : Int32))).toUInt32.toUInt16.toUInt32.toInt32)), .unset, .unset, .unset, .unset, .unset, .unset, .unset, .unset, .unset, .unset, .unset, .unset, .unset, .unset] [(.int (0 : Int32))]) _; simp only [if_pos hm2] at k ⊢; exact k)
    · skip
      show Sp p e below s₁ (mkF m 35 #[.val (.int p1), .val (.int p2), .val (.long p3), .second, .val (.long p4), .second, .val (.long p5), .second, .val (.int (((XT.ushr p1 (16 : Int32)) &&& (3 : Int32)) % (3 : Int32))), .val (.int (((p1 &&& (255 : Int32))).toUInt32.toUInt16.toUInt32.toInt32)), .val (.int ((((XT.ushr p1 (8 : Int32)) &&& (255 : Int32))).toUInt32.toUInt16.toUInt32.toInt32)), .unset, .unset, .unset, .unset, .unset, .unset, .unset, .unset, .unset, .unset, .unset, .unset, .unset, .unset] [(.int ((XT.ushr p1 (18 : Int32)) &&& (1 : Int32)))]) _
      refine XS.ifNo X0.here hx rfl (hb hby at_35) rfl (XT.i0_eq_f hm2) ?_
      refine XS.iconst X0.here hx rfl (hb hby at_38) ?_
      refine XS.goto X0.here hx rfl (pc0 := 39) (pc' := 43) rfl (hb hby at_39) (by decide) (by decide) ?_
      show Sp p e below s₁ (mkF m 43 #[.val (.int p1), .val (.int p2), .val (.long p3), .second, .val (.long p4), .second, .val (.long p5), .second, .val (.int (((XT.ushr p1 (16 : Int32)) &&& (3 : Int32)) % (3 : Int32))), .val (.int (((p1 &&& (255 : Int32))).toUInt32.toUInt16.toUInt32.toInt32)), .val (.int ((((XT.ushr p1 (8 : Int32)) &&& (255 : Int32))).toUInt32.toUInt16.toUInt32.toInt32)), .unset, .unset, .unset, .unset, .unset, .unset, .unset, .unset, .unset, .unset, .unset, .unset, .unset, .unset] [(.int (1 : Int32))]) _
      first | exact k | (simp only [if_neg hm2] at k; exact k) | (show Sp p e below s₁ (mkF m 43 #[.val (.int p1), .val (.int p2), .val (.long p3), .second, .val (.long p4), .second, .val (.long p5), .second, .val (.int (((XT.ushr p1 (16 : Int32)) &&& (3 : Int32)) % (3 : Int32))), .val (.int (((p1 &&& (255 : Int32))).toUInt32.toUInt16.toUInt32.toInt32)), .val (.int ((((XT.ushr p1 (8 : Int32)) &&& (255 : Int32))).toUInt32.toUInt16.toUInt32.toInt32)), .unset, .unset, .unset, .unset, .unset, .unset, .unset, .unset, .unset, .unset, .unset, .unset, .unset, .unset] [(.int (1 : Int32))]) _; simp only [if_neg hm2] at k ⊢; exact k)
  have pre_4 : ∀ t, Sp p e below s₁ (mkF m 51 #[.val (.int p1), .val (.int p2), .val (.long p3), .second, .val (.long p4), .second, .val (.long p5), .second, .val (.int (((XT.ushr p1 (16 : Int32)) &&& (3 : Int32)) % (3 : Int32))), .val (.int (((p1 &&& (255 : Int32))).toUInt32.toUInt16.toUInt32.toInt32)), .val (.int ((((XT.ushr p1 (8 : Int32)) &&& (255 : Int32))).toUInt32.toUInt16.toUInt32.toInt32)), .val (.int (if ((XT.ushr p1 (18 : Int32)) &&& (1 : Int32)) = (0 : Int32) then (0 : Int32) else (1 : Int32))), .unset, .unset, .unset, .unset, .unset, .unset, .unset, .unset, .unset, .unset, .unset, .unset, .unset] [(.int ((XT.ushr p1 (19 : Int32)) &&& (1 : Int32)))]) t → Steps p.tables e below E0 t := by
    intro t k
    refine pre_3 t ?_
    show Sp p e below s₁ (mkF m 43 #[.val (.int p1), .val (.int p2), .val (.long p3), .second, .val (.long p4), .second, .val (.long p5), .second, .val (.int (((XT.ushr p1 (16 : Int32)) &&& (3 : Int32)) % (3 : Int32))), .val (.int (((p1 &&& (255 : Int32))).toUInt32.toUInt16.toUInt32.toInt32)), .val (.int ((((XT.ushr p1 (8 : Int32)) &&& (255 : Int32))).toUInt32.toUInt16.toUInt32.toInt32)), .unset, .unset, .unset, .unset, .unset, .unset, .unset, .unset, .unset, .unset, .unset, .unset, .unset, .unset] [(.int (if ((XT.ushr p1 (18 : Int32)) &&& (1 : Int32)) = (0 : Int32) then (0 : Int32) else (1 : Int32)))]) _
    refine XS.istore X0.here hx rfl (hb hby at_43) rfl (l' := #[.val (.int p1), .val (.int p2), .val (.long p3), .second, .val (.long p4), .second, .val (.long p5), .second, .val (.int (((XT.ushr p1 (16 : Int32)) &&& (3 : Int32)) % (3 : Int32))), .val (.int (((p1 &&& (255 : Int32))).toUInt32.toUInt16.toUInt32.toInt32)), .val (.int ((((XT.ushr p1 (8 : Int32)) &&& (255 : Int32))).toUInt32.toUInt16.toUInt32.toInt32)), .val (.int (if ((XT.ushr p1 (18 : Int32)) &&& (1 : Int32)) = (0 : Int32) then (0 : Int32) else (1 : Int32))), .unset, .unset, .unset, .unset, .unset, .unset, .unset, .unset, .unset, .unset, .unset, .unset, .unset]) rfl ?_
    refine XS.iloadN X0.here hx rfl (hb hby at_45) rfl ?_
    refine XS.bipush X0.here hx rfl (hb hby at_46) ?_
    show Sp p e below s₁ (mkF m 48 #[.val (.int p1), .val (.int p2), .val (.long p3), .second, .val (.long p4), .second, .val (.long p5), .second, .val (.int (((XT.ushr p1 (16 : Int32)) &&& (3 : Int32)) % (3 : Int32))), .val (.int (((p1 &&& (255 : Int32))).toUInt32.toUInt16.toUInt32.toInt32)), .val (.int ((((XT.ushr p1 (8 : Int32)) &&& (255 : Int32))).toUInt32.toUInt16.toUInt32.toInt32)), .val (.int (if ((XT.ushr p1 (18 : Int32)) &&& (1 : Int32)) = (0 : Int32) then (0 : Int32) else (1 : Int32))), .unset, .unset, .unset, .unset, .unset, .unset, .unset, .unset, .unset, .unset, .unset, .unset, .unset] [(.int (19 : Int32)), (.int p1)]) _
    refine XT.iushr X0.here hx rfl (hb hby at_48) rfl ?_
    refine XS.iconst X0.here hx rfl (hb hby at_49) ?_
    refine XS.iand X0.here hx rfl (hb hby at_50) rfl ?_
    exact k
  have pre_6 : ∀ t, Sp p e below s₁ (mkF m 59 #[.val (.int p1), .val (.int p2), .val (.long p3), .second, .val (.long p4), .second, .val (.long p5), .second, .val (.int (((XT.ushr p1 (16 : Int32)) &&& (3 : Int32)) % (3 : Int32))), .val (.int (((p1 &&& (255 : Int32))).toUInt32.toUInt16.toUInt32.toInt32)), .val (.int ((((XT.ushr p1 (8 : Int32)) &&& (255 : Int32))).toUInt32.toUInt16.toUInt32.toInt32)), .val (.int (if ((XT.ushr p1 (18 : Int32)) &&& (1 : Int32)) = (0 : Int32) then (0 : Int32) else (1 : Int32))), .unset, .unset, .unset, .unset, .unset, .unset, .unset, .unset, .unset, .unset, .unset, .unset, .unset] [(.int (if ((XT.ushr p1 (19 : Int32)) &&& (1 : Int32)) = (0 : Int32) then (0 : Int32) else (1 : Int32)))]) t → Steps p.tables e below E0 t := by
    intro t k
    refine pre_4 t ?_
    by_cases hm5 : ((XT.ushr p1 (19 : Int32)) &&& (1 : Int32)) = (0 : Int32)
    · skip
      show Sp p e below s₁ (mkF m 51 #[.val (.int p1), .val (.int p2), .val (.long p3), .second, .val (.long p4), .second, .val (.long p5), .second, .val (.int (((XT.ushr p1 (16 : Int32)) &&& (3 : Int32)) % (3 : Int32))), .val (.int (((p1 &&& (255 : Int32))).toUInt32.toUInt16.toUInt32.toInt32)), .val (.int ((((XT.ushr p1 (8 : Int32)) &&& (255 : Int32))).toUInt32.toUInt16.toUInt32.toInt32)), .val (.int (if ((XT.ushr p1 (18 : Int32)) &&& (1 : Int32)) = (0 : Int32) then (0 : Int32) else (1 : Int32))), .unset, .unset, .unset, .unset, .unset, .unset, .unset, .unset, .unset, .unset, .unset, .unset, .unset] [(.int ((XT.ushr p1 (19 : Int32)) &&& (1 : Int32)))]) _
      refine XS.ifYes X0.here hx rfl (pc0 := 51) (pc' := 58) rfl (hb hby at_51) rfl (XT.i0_eq_t hm5) (by decide) (by decide) ?_
      show Sp p e below s₁ (mkF m 58 #[.val (.int p1), .val (.int p2), .val (.long p3), .second, .val (.long p4), .second, .val (.long p5), .second, .val (.int (((XT.ushr p1 (16 : Int32)) &&& (3 : Int32)) % (3 : Int32))), .val (.int (((p1 &&& (255 : Int32))).toUInt32.toUInt16.toUInt32.toInt32)), .val (.int ((((XT.ushr p1 (8 : Int32)) &&& (255 : Int32))).toUInt32.toUInt16.toUInt32.toInt32)), .val (.int (if ((XT.ushr p1 (18 : Int32)) &&& (1 : Int32)) = (0 : Int32) then (0 : Int32) else (1 : Int32))), .unset, .unset, .unset, .unset, .unset, .unset, .unset, .unset, .unset, .unset, .unset, .unset, .unset] []) _
      refine XS.iconst X0.here hx rfl (hb hby at_58) ?_
      first | exact k | (simp only [if_pos hm5] at k; exact k) | (show Sp p e below s₁ (mkF m 59 #[.val (.int p1), .val (.int p2), .val (.long p3), .second, .val (.long p4), .second, .val (.long p5), .second, .val (.int (((XT.ushr p1 (16 : Int32)) &&& (3 : Int32)) % (3 : Int32))), .val (.int (((p1 &&& (255 : Int32))).toUInt32.toUInt16.toUInt32.toInt32)), .val (.int ((((XT.ushr p1 (8 : Int32)) &&& (255 : Int32))).toUInt32.toUInt16.toUInt32.toInt32)), .val (.int (if ((XT.ushr p1 (18 : Int32)) &&& (1 : Int32)) = (0 : Int32) then (0 : Int32) else (1 : Int32))), .unset, .unset, .unset, .unset, .unset, .unset, .unset, .unset, .unset, .unset, .unset, .unset, .unset] [(.int (0 : Int32))]) _; simp only [if_pos hm5] at k ⊢; exact k)
    · skip
      show Sp p e below s₁ (mkF m 51 #[.val (.int p1), .val (.int p2), .val (.long p3), .second, .val (.long p4), .second, .val (.long p5), .second, .val (.int (((XT.ushr p1 (16 : Int32)) &&& (3 : Int32)) % (3 : Int32))), .val (.int (((p1 &&& (255 : Int32))).toUInt32.toUInt16.toUInt32.toInt32)), .val (.int ((((XT.ushr p1 (8 : Int32)) &&& (255 : Int32))).toUInt32.toUInt16.toUInt32.toInt32)), .val (.int (if ((XT.ushr p1 (18 : Int32)) &&& (1 : Int32)) = (0 : Int32) then (0 : Int32) else (1 : Int32))), .unset, .unset, .unset, .unset, .unset, .unset, .unset, .unset, .unset, .unset, .unset, .unset, .unset] [(.int ((XT.ushr p1 (19 : Int32)) &&& (1 : Int32)))]) _
      refine XS.ifNo X0.here hx rfl (hb hby at_51) rfl (XT.i0_eq_f hm5) ?_
      show Sp p e below s₁ (mkF m 54 #[.val (.int p1), .val (.int p2), .val (.long p3), .second, .val (.long p4), .second, .val (.long p5), .second, .val (.int (((XT.ushr p1 (16 : Int32)) &&& (3 : Int32)) % (3 : Int32))), .val (.int (((p1 &&& (255 : Int32))).toUInt32.toUInt16.toUInt32.toInt32)), .val (.int ((((XT.ushr p1 (8 : Int32)) &&& (255 : Int32))).toUInt32.toUInt16.toUInt32.toInt32)), .val (.int (if ((XT.ushr p1 (18 : Int32)) &&& (1 : Int32)) = (0 : Int32) then (0 : Int32) else (1 : Int32))), .unset, .unset, .unset, .unset, .unset, .unset, .unset, .unset, .unset, .unset, .unset, .unset, .unset] []) _
      refine XS.iconst X0.here hx rfl (hb hby at_54) ?_
      refine XS.goto X0.here hx rfl (pc0 := 55) (pc' := 59) rfl (hb hby at_55) (by decide) (by decide) ?_
      first | exact k | (simp only [if_neg hm5] at k; exact k) | (show Sp p e below s₁ (mkF m 59 #[.val (.int p1), .val (.int p2), .val (.long p3), .second, .val (.long p4), .second, .val (.long p5), .second, .val (.int (((XT.ushr p1 (16 : Int32)) &&& (3 : Int32)) % (3 : Int32))), .val (.int (((p1 &&& (255 : Int32))).toUInt32.toUInt16.toUInt32.toInt32)), .val (.int ((((XT.ushr p1 (8 : Int32)) &&& (255 : Int32))).toUInt32.toUInt16.toUInt32.toInt32)), .val (.int (if ((XT.ushr p1 (18 : Int32)) &&& (1 : Int32)) = (0 : Int32) then (0 : Int32) else (1 : Int32))), .unset, .unset, .unset, .unset, .unset, .unset, .unset, .unset, .unset, .unset, .unset, .unset, .unset] [(.int (1 : Int32))]) _; simp only [if_neg hm5] at k ⊢; exact k)
  have pre_7 : ∀ t, Sp p e below s₁ (mkF m 67 #[.val (.int p1), .val (.int p2), .val (.long p3), .second, .val (.long p4), .second, .val (.long p5), .second, .val (.int (((XT.ushr p1 (16 : Int32)) &&& (3 : Int32)) % (3 : Int32))), .val (.int (((p1 &&& (255 : Int32))).toUInt32.toUInt16.toUInt32.toInt32)), .val (.int ((((XT.ushr p1 (8 : Int32)) &&& (255 : Int32))).toUInt32.toUInt16.toUInt32.toInt32)), .val (.int (if ((XT.ushr p1 (18 : Int32)) &&& (1 : Int32)) = (0 : Int32) then (0 : Int32) else (1 : Int32))), .val (.int (if ((XT.ushr p1 (19 : Int32)) &&& (1 : Int32)) = (0 : Int32) then (0 : Int32) else (1 : Int32))), .unset, .unset, .unset, .unset, .unset, .unset, .unset, .unset, .unset, .unset, .unset, .unset] [(.int ((XT.ushr p1 (20 : Int32)) &&& (1 : Int32)))]) t → Steps p.tables e below E0 t := by
    intro t k
    refine pre_6 t ?_
    show Sp p e below s₁ (mkF m 59 #[.val (.int p1), .val (.int p2), .val (.long p3), .second, .val (.long p4), .second, .val (.long p5), .second, .val (.int (((XT.ushr p1 (16 : Int32)) &&& (3 : Int32)) % (3 : Int32))), .val (.int (((p1 &&& (255 : Int32))).toUInt32.toUInt16.toUInt32.toInt32)), .val (.int ((((XT.ushr p1 (8 : Int32)) &&& (255 : Int32))).toUInt32.toUInt16.toUInt32.toInt32)), .val (.int (if ((XT.ushr p1 (18 : Int32)) &&& (1 : Int32)) = (0 : Int32) then (0 : Int32) else (1 : Int32))), .unset, .unset, .unset, .unset, .unset, .unset, .unset, .unset, .unset, .unset, .unset, .unset, .unset] [(.int (if ((XT.ushr p1 (19 : Int32)) &&& (1 : Int32)) = (0 : Int32) then (0 : Int32) else (1 : Int32)))]) _
    refine XS.istore X0.here hx rfl (hb hby at_59) rfl (l' := #[.val (.int p1), .val (.int p2), .val (.long p3), .second, .val (.long p4), .second, .val (.long p5), .second, .val (.int (((XT.ushr p1 (16 : Int32)) &&& (3 : Int32)) % (3 : Int32))), .val (.int (((p1 &&& (255 : Int32))).toUInt32.toUInt16.toUInt32.toInt32)), .val (.int ((((XT.ushr p1 (8 : Int32)) &&& (255 : Int32))).toUInt32.toUInt16.toUInt32.toInt32)), .val (.int (if ((XT.ushr p1 (18 : Int32)) &&& (1 : Int32)) = (0 : Int32) then (0 : Int32) else (1 : Int32))), .val (.int (if ((XT.ushr p1 (19 : Int32)) &&& (1 : Int32)) = (0 : Int32) then (0 : Int32) else (1 : Int32))), .unset, .unset, .unset, .unset, .unset, .unset, .unset, .unset, .unset, .unset, .unset, .unset]) rfl ?_
    show Sp p e below s₁ (mkF m 61 #[.val (.int p1), .val (.int p2), .val (.long p3), .second, .val (.long p4), .second, .val (.long p5), .second, .val (.int (((XT.ushr p1 (16 : Int32)) &&& (3 : Int32)) % (3 : Int32))), .val (.int (((p1 &&& (255 : Int32))).toUInt32.toUInt16.toUInt32.toInt32)), .val (.int ((((XT.ushr p1 (8 : Int32)) &&& (255 : Int32))).toUInt32.toUInt16.toUInt32.toInt32)), .val (.int (if ((XT.ushr p1 (18 : Int32)) &&& (1 : Int32)) = (0 : Int32) then (0 : Int32) else (1 : Int32))), .val (.int (if ((XT.ushr p1 (19 : Int32)) &&& (1 : Int32)) = (0 : Int32) then (0 : Int32) else (1 : Int32))), .unset, .unset, .unset, .unset, .unset, .unset, .unset, .unset, .unset, .unset, .unset, .unset] []) _
    refine XS.iloadN X0.here hx rfl (hb hby at_61) rfl ?_
    refine XS.bipush X0.here hx rfl (hb hby at_62) ?_
    refine XT.iushr X0.here hx rfl (hb hby at_64) rfl ?_
    refine XS.iconst X0.here hx rfl (hb hby at_65) ?_
    show Sp p e below s₁ (mkF m 66 #[.val (.int p1), .val (.int p2), .val (.long p3), .second, .val (.long p4), .second, .val (.long p5), .second, .val (.int (((XT.ushr p1 (16 : Int32)) &&& (3 : Int32)) % (3 : Int32))), .val (.int (((p1 &&& (255 : Int32))).toUInt32.toUInt16.toUInt32.toInt32)), .val (.int ((((XT.ushr p1 (8 : Int32)) &&& (255 : Int32))).toUInt32.toUInt16.toUInt32.toInt32)), .val (.int (if ((XT.ushr p1 (18 : Int32)) &&& (1 : Int32)) = (0 : Int32) then (0 : Int32) else (1 : Int32))), .val (.int (if ((XT.ushr p1 (19 : Int32)) &&& (1 : Int32)) = (0 : Int32) then (0 : Int32) else (1 : Int32))), .unset, .unset, .unset, .unset, .unset, .unset, .unset, .unset, .unset, .unset, .unset, .unset] [(.int (1 : Int32)), (.int (XT.ushr p1 (20 : Int32)))]) _
    refine XS.iand X0.here hx rfl (hb hby at_66) rfl ?_
    exact k
  have pre_9 : ∀ t, Sp p e below s₁ (mkF m 75 #[.val (.int p1), .val (.int p2), .val (.long p3), .second, .val (.long p4), .second, .val (.long p5), .second, .val (.int (((XT.ushr p1 (16 : Int32)) &&& (3 : Int32)) % (3 : Int32))), .val (.int (((p1 &&& (255 : Int32))).toUInt32.toUInt16.toUInt32.toInt32)), .val (.int ((((XT.ushr p1 (8 : Int32)) &&& (255 : Int32))).toUInt32.toUInt16.toUInt32.toInt32)), .val (.int (if ((XT.ushr p1 (18 : Int32)) &&& (1 : Int32)) = (0 : Int32) then (0 : Int32) else (1 : Int32))), .val (.int (if ((XT.ushr p1 (19 : Int32)) &&& (1 : Int32)) = (0 : Int32) then (0 : Int32) else (1 : Int32))), .unset, .unset, .unset, .unset, .unset, .unset, .unset, .unset, .unset, .unset, .unset, .unset] [(.int (if ((XT.ushr p1 (20 : Int32)) &&& (1 : Int32)) = (0 : Int32) then (0 : Int32) else (1 : Int32)))]) t → Steps p.tables e below E0 t := by
    intro t k
    refine pre_7 t ?_
    by_cases hm8 : ((XT.ushr p1 (20 : Int32)) &&& (1 : Int32)) = (0 : Int32)
    · skip
      show Sp p e below s₁ (mkF m 67 #[.val (.int p1), .val (.int p2), .val (.long p3), .second, .val (.long p4), .second, .val (.long p5), .second, .val (.int (((XT.ushr p1 (16 : Int32)) &&& (3 : Int32)) % (3 : Int32))), .val (.int (((p1 &&& (255 : Int32))).toUInt32.toUInt16.toUInt32.toInt32)), .val (.int ((((XT.ushr p1 (8 : Int32)) &&& (255 : Int32))).toUInt32.toUInt16.toUInt32.toInt32)), .val (.int (if ((XT.ushr p1 (18 : Int32)) &&& (1 : Int32)) = (0 : Int32) then (0 : Int32) else (1 : Int32))), .val (.int (if ((XT.ushr p1 (19 : Int32)) &&& (1 : Int32)) = (0 : Int32) then (0 : Int32) else (1 : Int32))), .unset, .unset, .unset, .unset, .unset, .unset, .unset, .unset, .unset, .unset, .unset, .unset] [(.int ((XT.ushr p1 (20 : Int32)) &&& (1 : Int32)))]) _
      refine XS.ifYes X0.here hx rfl (pc0 := 67) (pc' := 74) rfl (hb hby at_67) rfl (XT.i0_eq_t hm8) (by decide) (by decide) ?_
      refine XS.iconst X0.here hx rfl (hb hby at_74) ?_
      first | exact k | (simp only [if_pos hm8] at k; exact k) | (show Sp p e below s₁ (mkF m 75 #[.val (.int p1), .val (.int p2), .val (.long p3), .second, .val (.long p4), .second, .val (.long p5), .second, .val (.int (((XT.ushr p1 (16 : Int32)) &&& (3 : Int32)) % (3 : Int32))), .val (.int (((p1 &&& (255 : Int32))).toUInt32.toUInt16.toUInt32.toInt32)), .val (.int ((((XT.ushr p1 (8 : Int32)) &&& (255 : Int32))).toUInt32.toUInt16.toUInt32.toInt32)), .val (.int (if ((XT.ushr p1 (18 : Int32)) &&& (1 : Int32)) = (0 : Int32) then (0 : Int32) else (1 : Int32))), .val (.int (if ((XT.ushr p1 (19 : Int32)) &&& (1 : Int32)) = (0 : Int32) then (0 : Int32) else (1 : Int32))), .unset, .unset, .unset, .unset, .unset, .unset, .unset, .unset, .unset, .unset, .unset, .unset] [(.int (0 : Int32))]) _; simp only [if_pos hm8] at k ⊢; exact k)
    · skip
      show Sp p e below s₁ (mkF m 67 #[.val (.int p1), .val (.int p2), .val (.long p3), .second, .val (.long p4), .second, .val (.long p5), .second, .val (.int (((XT.ushr p1 (16 : Int32)) &&& (3 : Int32)) % (3 : Int32))), .val (.int (((p1 &&& (255 : Int32))).toUInt32.toUInt16.toUInt32.toInt32)), .val (.int ((((XT.ushr p1 (8 : Int32)) &&& (255 : Int32))).toUInt32.toUInt16.toUInt32.toInt32)), .val (.int (if ((XT.ushr p1 (18 : Int32)) &&& (1 : Int32)) = (0 : Int32) then (0 : Int32) else (1 : Int32))), .val (.int (if ((XT.ushr p1 (19 : Int32)) &&& (1 : Int32)) = (0 : Int32) then (0 : Int32) else (1 : Int32))), .unset, .unset, .unset, .unset, .unset, .unset, .unset, .unset, .unset, .unset, .unset, .unset] [(.int ((XT.ushr p1 (20 : Int32)) &&& (1 : Int32)))]) _
      refine XS.ifNo X0.here hx rfl (hb hby at_67) rfl (XT.i0_eq_f hm8) ?_
      refine XS.iconst X0.here hx rfl (hb hby at_70) ?_
      refine XS.goto X0.here hx rfl (pc0 := 71) (pc' := 75) rfl (hb hby at_71) (by decide) (by decide) ?_
      show Sp p e below s₁ (mkF m 75 #[.val (.int p1), .val (.int p2), .val (.long p3), .second, .val (.long p4), .second, .val (.long p5), .second, .val (.int (((XT.ushr p1 (16 : Int32)) &&& (3 : Int32)) % (3 : Int32))), .val (.int (((p1 &&& (255 : Int32))).toUInt32.toUInt16.toUInt32.toInt32)), .val (.int ((((XT.ushr p1 (8 : Int32)) &&& (255 : Int32))).toUInt32.toUInt16.toUInt32.toInt32)), .val (.int (if ((XT.ushr p1 (18 : Int32)) &&& (1 : Int32)) = (0 : Int32) then (0 : Int32) else (1 : Int32))), .val (.int (if ((XT.ushr p1 (19 : Int32)) &&& (1 : Int32)) = (0 : Int32) then (0 : Int32) else (1 : Int32))), .unset, .unset, .unset, .unset, .unset, .unset, .unset, .unset, .unset, .unset, .unset, .unset] [(.int (1 : Int32))]) _
      first | exact k | (simp only [if_neg hm8] at k; exact k) | (show Sp p e below s₁ (mkF m 75 #[.val (.int p1), .val (.int p2), .val (.long p3), .second, .val (.long p4), .second, .val (.long p5), .second, .val (.int (((XT.ushr p1 (16 : Int32)) &&& (3 : Int32)) % (3 : Int32))), .val (.int (((p1 &&& (255 : Int32))).toUInt32.toUInt16.toUInt32.toInt32)), .val (.int ((((XT.ushr p1 (8 : Int32)) &&& (255 : Int32))).toUInt32.toUInt16.toUInt32.toInt32)), .val (.int (if ((XT.ushr p1 (18 : Int32)) &&& (1 : Int32)) = (0 : Int32) then (0 : Int32) else (1 : Int32))), .val (.int (if ((XT.ushr p1 (19 : Int32)) &&& (1 : Int32)) = (0 : Int32) then (0 : Int32) else (1 : Int32))), .unset, .unset, .unset, .unset, .unset, .unset, .unset, .unset, .unset, .unset, .unset, .unset] [(.int (1 : Int32))]) _; simp only [if_neg hm8] at k ⊢; exact k)
  have pre_10 : ∀ t, Sp p e below s₁ (mkF m 79 #[.val (.int p1), .val (.int p2), .val (.long p3), .second, .val (.long p4), .second, .val (.long p5), .second, .val (.int (((XT.ushr p1 (16 : Int32)) &&& (3 : Int32)) % (3 : Int32))), .val (.int (((p1 &&& (255 : Int32))).toUInt32.toUInt16.toUInt32.toInt32)), .val (.int ((((XT.ushr p1 (8 : Int32)) &&& (255 : Int32))).toUInt32.toUInt16.toUInt32.toInt32)), .val (.int (if ((XT.ushr p1 (18 : Int32)) &&& (1 : Int32)) = (0 : Int32) then (0 : Int32) else (1 : Int32))), .val (.int (if ((XT.ushr p1 (19 : Int32)) &&& (1 : Int32)) = (0 : Int32) then (0 : Int32) else (1 : Int32))), .val (.int (if ((XT.ushr p1 (20 : Int32)) &&& (1 : Int32)) = (0 : Int32) then (0 : Int32) else (1 : Int32))), .unset, .unset, .unset, .unset, .unset, .unset, .unset, .unset, .unset, .unset, .unset] [(.int (if ((XT.ushr p1 (18 : Int32)) &&& (1 : Int32)) = (0 : Int32) then (0 : Int32) else (1 : Int32)))]) t → Steps p.tables e below E0 t := by
    intro t k
    refine pre_9 t ?_
    show Sp p e below s₁ (mkF m 75 #[.val (.int p1), .val (.int p2), .val (.long p3), .second, .val (.long p4), .second, .val (.long p5), .second, .val (.int (((XT.ushr p1 (16 : Int32)) &&& (3 : Int32)) % (3 : Int32))), .val (.int (((p1 &&& (255 : Int32))).toUInt32.toUInt16.toUInt32.toInt32)), .val (.int ((((XT.ushr p1 (8 : Int32)) &&& (255 : Int32))).toUInt32.toUInt16.toUInt32.toInt32)), .val (.int (if ((XT.ushr p1 (18 : Int32)) &&& (1 : Int32)) = (0 : Int32) then (0 : Int32) else (1 : Int32))), .val (.int (if ((XT.ushr p1 (19 : Int32)) &&& (1 : Int32)) = (0 : Int32) then (0 : Int32) else (1 : Int32))), .unset, .unset, .unset, .unset, .unset, .unset, .unset, .unset, .unset, .unset, .unset, .unset] [(.int (if ((XT.ushr p1 (20 : Int32)) &&& (1 : Int32)) = (0 : Int32) then (0 : Int32) else (1 : Int32)))]) _
    refine XS.istore X0.here hx rfl (hb hby at_75) rfl (l' := #[.val (.int p1), .val (.int p2), .val (.long p3), .second, .val (.long p4), .second, .val (.long p5), .second, .val (.int (((XT.ushr p1 (16 : Int32)) &&& (3 : Int32)) % (3 : Int32))), .val (.int (((p1 &&& (255 : Int32))).toUInt32.toUInt16.toUInt32.toInt32)), .val (.int ((((XT.ushr p1 (8 : Int32)) &&& (255 : Int32))).toUInt32.toUInt16.toUInt32.toInt32)), .val (.int (if ((XT.ushr p1 (18 : Int32)) &&& (1 : Int32)) = (0 : Int32) then (0 : Int32) else (1 : Int32))), .val (.int (if ((XT.ushr p1 (19 : Int32)) &&& (1 : Int32)) = (0 : Int32) then (0 : Int32) else (1 : Int32))), .val (.int (if ((XT.ushr p1 (20 : Int32)) &&& (1 : Int32)) = (0 : Int32) then (0 : Int32) else (1 : Int32))), .unset, .unset, .unset, .unset, .unset, .unset, .unset, .unset, .unset, .unset, .unset]) rfl ?_
    refine XS.iload X0.here hx rfl (hb hby at_77) rfl ?_
    exact k
  have pre_12 : ∀ t, Sp p e below s₁ (mkF m 126 #[.val (.int p1), .val (.int p2), .val (.long p3), .second, .val (.long p4), .second, .val (.long p5), .second, .val (.int (((XT.ushr p1 (16 : Int32)) &&& (3 : Int32)) % (3 : Int32))), .val (.int (((p1 &&& (255 : Int32))).toUInt32.toUInt16.toUInt32.toInt32)), .val (.int ((((XT.ushr p1 (8 : Int32)) &&& (255 : Int32))).toUInt32.toUInt16.toUInt32.toInt32)), .val (.int (if ((XT.ushr p1 (18 : Int32)) &&& (1 : Int32)) = (0 : Int32) then (0 : Int32) else (1 : Int32))), .val (.int (if ((XT.ushr p1 (19 : Int32)) &&& (1 : Int32)) = (0 : Int32) then (0 : Int32) else (1 : Int32))), .val (.int (if ((XT.ushr p1 (20 : Int32)) &&& (1 : Int32)) = (0 : Int32) then (0 : Int32) else (1 : Int32))), .val (.int (if ((XT.ushr p1 (18 : Int32)) &&& (1 : Int32)) = (0 : Int32) then (((XT.ushr p2 (16 : Int32)) &&& (3 : Int32)) % (3 : Int32)) else (((XT.ushr p1 (16 : Int32)) &&& (3 : Int32)) % (3 : Int32)))), .val (.int (if ((XT.ushr p1 (18 : Int32)) &&& (1 : Int32)) = (0 : Int32) then (((p2 &&& (255 : Int32))).toUInt32.toUInt16.toUInt32.toInt32) else (((p1 &&& (255 : Int32))).toUInt32.toUInt16.toUInt32.toInt32))), .val (.int (if ((XT.ushr p1 (18 : Int32)) &&& (1 : Int32)) = (0 : Int32) then ((((XT.ushr p2 (8 : Int32)) &&& (255 : Int32))).toUInt32.toUInt16.toUInt32.toInt32) else ((((XT.ushr p1 (8 : Int32)) &&& (255 : Int32))).toUInt32.toUInt16.toUInt32.toInt32))), .unset, .unset, .unset, .unset, .unset, .unset, .unset, .unset] []) t → Steps p.tables e below E0 t := by
    intro t k
    refine pre_10 t ?_
    by_cases hm11 : ((XT.ushr p1 (18 : Int32)) &&& (1 : Int32)) = (0 : Int32)
    · skip
      show Sp p e below s₁ (mkF m 79 #[.val (.int p1), .val (.int p2), .val (.long p3), .second, .val (.long p4), .second, .val (.long p5), .second, .val (.int (((XT.ushr p1 (16 : Int32)) &&& (3 : Int32)) % (3 : Int32))), .val (.int (((p1 &&& (255 : Int32))).toUInt32.toUInt16.toUInt32.toInt32)), .val (.int ((((XT.ushr p1 (8 : Int32)) &&& (255 : Int32))).toUInt32.toUInt16.toUInt32.toInt32)), .val (.int (if ((XT.ushr p1 (18 : Int32)) &&& (1 : Int32)) = (0 : Int32) then (0 : Int32) else (1 : Int32))), .val (.int (if ((XT.ushr p1 (19 : Int32)) &&& (1 : Int32)) = (0 : Int32) then (0 : Int32) else (1 : Int32))), .val (.int (if ((XT.ushr p1 (20 : Int32)) &&& (1 : Int32)) = (0 : Int32) then (0 : Int32) else (1 : Int32))), .unset, .unset, .unset, .unset, .unset, .unset, .unset, .unset, .unset, .unset, .unset] [(.int (if ((XT.ushr p1 (18 : Int32)) &&& (1 : Int32)) = (0 : Int32) then (0 : Int32) else (1 : Int32)))]) _
      refine XS.ifYes X0.here hx rfl (pc0 := 79) (pc' := 97) rfl (hb hby at_79) rfl (XT.i0_eq_t (by simp only [if_pos hm11] <;> decide)) (by decide) (by decide) ?_
      show Sp p e below s₁ (mkF m 97 #[.val (.int p1), .val (.int p2), .val (.long p3), .second, .val (.long p4), .second, .val (.long p5), .second, .val (.int (((XT.ushr p1 (16 : Int32)) &&& (3 : Int32)) % (3 : Int32))), .val (.int (((p1 &&& (255 : Int32))).toUInt32.toUInt16.toUInt32.toInt32)), .val (.int ((((XT.ushr p1 (8 : Int32)) &&& (255 : Int32))).toUInt32.toUInt16.toUInt32.toInt32)), .val (.int (if ((XT.ushr p1 (18 : Int32)) &&& (1 : Int32)) = (0 : Int32) then (0 : Int32) else (1 : Int32))), .val (.int (if ((XT.ushr p1 (19 : Int32)) &&& (1 : Int32)) = (0 : Int32) then (0 : Int32) else (1 : Int32))), .val (.int (if ((XT.ushr p1 (20 : Int32)) &&& (1 : Int32)) = (0 : Int32) then (0 : Int32) else (1 : Int32))), .unset, .unset, .unset, .unset, .unset, .unset, .unset, .unset, .unset, .unset, .unset] []) _
      refine XS.iloadN X0.here hx rfl (hb hby at_97) rfl ?_
      refine XS.bipush X0.here hx rfl (hb hby at_98) ?_
      refine XT.iushr X0.here hx rfl (hb hby at_100) rfl ?_
      refine XS.iconst X0.here hx rfl (hb hby at_101) ?_
      show Sp p e below s₁ (mkF m 102 #[.val (.int p1), .val (.int p2), .val (.long p3), .second, .val (.long p4), .second, .val (.long p5), .second, .val (.int (((XT.ushr p1 (16 : Int32)) &&& (3 : Int32)) % (3 : Int32))), .val (.int (((p1 &&& (255 : Int32))).toUInt32.toUInt16.toUInt32.toInt32)), .val (.int ((((XT.ushr p1 (8 : Int32)) &&& (255 : Int32))).toUInt32.toUInt16.toUInt32.toInt32)), .val (.int (if ((XT.ushr p1 (18 : Int32)) &&& (1 : Int32)) = (0 : Int32) then (0 : Int32) else (1 : Int32))), .val (.int (if ((XT.ushr p1 (19 : Int32)) &&& (1 : Int32)) = (0 : Int32) then (0 : Int32) else (1 : Int32))), .val (.int (if ((XT.ushr p1 (20 : Int32)) &&& (1 : Int32)) = (0 : Int32) then (0 : Int32) else (1 : Int32))), .unset, .unset, .unset, .unset, .unset, .unset, .unset, .unset, .unset, .unset, .unset] [(.int (3 : Int32)), (.int (XT.ushr p2 (16 : Int32)))]) _
      refine XS.iand X0.here hx rfl (hb hby at_102) rfl ?_
      refine XS.iconst X0.here hx rfl (hb hby at_103) ?_
      refine iremM X0 hx rfl (hb hby at_104) rfl (by decide) ?_
      refine XS.istore X0.here hx rfl (hb hby at_105) rfl (l' := #[.val (.int p1), .val (.int p2), .val (.long p3), .second, .val (.long p4), .second, .val (.long p5), .second, .val (.int (((XT.ushr p1 (16 : Int32)) &&& (3 : Int32)) % (3 : Int32))), .val (.int (((p1 &&& (255 : Int32))).toUInt32.toUInt16.toUInt32.toInt32)), .val (.int ((((XT.ushr p1 (8 : Int32)) &&& (255 : Int32))).toUInt32.toUInt16.toUInt32.toInt32)), .val (.int (if ((XT.ushr p1 (18 : Int32)) &&& (1 : Int32)) = (0 : Int32) then (0 : Int32) else (1 : Int32))), .val (.int (if ((XT.ushr p1 (19 : Int32)) &&& (1 : Int32)) = (0 : Int32) then (0 : Int32) else (1 : Int32))), .val (.int (if ((XT.ushr p1 (20 : Int32)) &&& (1 : Int32)) = (0 : Int32) then (0 : Int32) else (1 : Int32))), .val (.int (((XT.ushr p2 (16 : Int32)) &&& (3 : Int32)) % (3 : Int32))), .unset, .unset, .unset, .unset, .unset, .unset, .unset, .unset, .unset, .unset]) rfl ?_
      show Sp p e below s₁ (mkF m 107 #[.val (.int p1), .val (.int p2), .val (.long p3), .second, .val (.long p4), .second, .val (.long p5), .second, .val (.int (((XT.ushr p1 (16 : Int32)) &&& (3 : Int32)) % (3 : Int32))), .val (.int (((p1 &&& (255 : Int32))).toUInt32.toUInt16.toUInt32.toInt32)), .val (.int ((((XT.ushr p1 (8 : Int32)) &&& (255 : Int32))).toUInt32.toUInt16.toUInt32.toInt32)), .val (.int (if ((XT.ushr p1 (18 : Int32)) &&& (1 : Int32)) = (0 : Int32) then (0 : Int32) else (1 : Int32))), .val (.int (if ((XT.ushr p1 (19 : Int32)) &&& (1 : Int32)) = (0 : Int32) then (0 : Int32) else (1 : Int32))), .val (.int (if ((XT.ushr p1 (20 : Int32)) &&& (1 : Int32)) = (0 : Int32) then (0 : Int32) else (1 : Int32))), .val (.int (((XT.ushr p2 (16 : Int32)) &&& (3 : Int32)) % (3 : Int32))), .unset, .unset, .unset, .unset, .unset, .unset, .unset, .unset, .unset, .unset] []) _
      refine XS.iloadN X0.here hx rfl (hb hby at_107) rfl ?_
      refine XS.sipush X0.here hx rfl (hb hby at_108) ?_
      refine XS.iand X0.here hx rfl (hb hby at_111) rfl ?_
      refine XT.i2c X0.here hx rfl (hb hby at_112) rfl ?_
      show Sp p e below s₁ (mkF m 113 #[.val (.int p1), .val (.int p2), .val (.long p3), .second, .val (.long p4), .second, .val (.long p5), .second, .val (.int (((XT.ushr p1 (16 : Int32)) &&& (3 : Int32)) % (3 : Int32))), .val (.int (((p1 &&& (255 : Int32))).toUInt32.toUInt16.toUInt32.toInt32)), .val (.int ((((XT.ushr p1 (8 : Int32)) &&& (255 : Int32))).toUInt32.toUInt16.toUInt32.toInt32)), .val (.int (if ((XT.ushr p1 (18 : Int32)) &&& (1 : Int32)) = (0 : Int32) then (0 : Int32) else (1 : Int32))), .val (.int (if ((XT.ushr p1 (19 : Int32)) &&& (1 : Int32)) = (0 : Int32) then (0 : Int32) else (1 : Int32))), .val (.int (if ((XT.ushr p1 (20 : Int32)) &&& (1 : Int32)) = (0 : Int32) then (0 : Int32) else (1 : Int32))), .val (.int (((XT.ushr p2 (16 : Int32)) &&& (3 : Int32)) % (3 : Int32))), .unset, .unset, .unset, .unset, .unset, .unset, .unset, .unset, .unset, .unset] [(.int (((p2 &&& (255 : Int32))).toUInt32.toUInt16.toUInt32.toInt32))]) _
      refine XS.istore X0.here hx rfl (hb hby at_113) rfl (l' := #[.val (.int p1), .val (.int p2), .val (.long p3), .second, .val (.long p4), .second, .val (.long p5), .second, .val (.int (((XT.ushr p1 (16 : Int32)) &&& (3 : Int32)) % (3 : Int32))), .val (.int (((p1 &&& (255 : Int32))).toUInt32.toUInt16.toUInt32.toInt32)), .val (.int ((((XT.ushr p1 (8 : Int32)) &&& (255 : Int32))).toUInt32.toUInt16.toUInt32.toInt32)), .val (.int (if ((XT.ushr p1 (18 : Int32)) &&& (1 : Int32)) = (0 : Int32) then (0 : Int32) else (1 : Int32))), .val (.int (if ((XT.ushr p1 (19 : Int32)) &&& (1 : Int32)) = (0 : Int32) then (0 : Int32) else (1 : Int32))), .val (.int (if ((XT.ushr p1 (20 : Int32)) &&& (1 : Int32)) = (0 : Int32) then (0 : Int32) else (1 : Int32))), .val (.int (((XT.ushr p2 (16 : Int32)) &&& (3 : Int32)) % (3 : Int32))), .val (.int (((p2 &&& (255 : Int32))).toUInt32.toUInt16.toUInt32.toInt32)), .unset, .unset, .unset, .unset, .unset, .unset, .unset, .unset, .unset]) rfl ?_
      refine XS.iloadN X0.here hx rfl (hb hby at_115) rfl ?_
      refine XS.bipush X0.here hx rfl (hb hby at_116) ?_
      refine XT.iushr X0.here hx rfl (hb hby at_118) rfl ?_
      show Sp p e below s₁ (mkF m 119 #[.val (.int p1), .val (.int p2), .val (.long p3), .second, .val (.long p4), .second, .val (.long p5), .second, .val (.int (((XT.ushr p1 (16 : Int32)) &&& (3 : Int32)) % (3 : Int32))), .val (.int (((p1 &&& (255 : Int32))).toUInt32.toUInt16.toUInt32.toInt32)), .val (.int ((((XT.ushr p1 (8 : Int32)) &&& (255 : Int32))).toUInt32.toUInt16.toUInt32.toInt32)), .val (.int (if ((XT.ushr p1 (18 : Int32)) &&& (1 : Int32)) = (0 : Int32) then (0 : Int32) else (1 : Int32))), .val (.int (if ((XT.ushr p1 (19 : Int32)) &&& (1 : Int32)) = (0 : Int32) then (0 : Int32) else (1 : Int32))), .val (.int (if ((XT.ushr p1 (20 : Int32)) &&& (1 : Int32)) = (0 : Int32) then (0 : Int32) else (1 : Int32))), .val (.int (((XT.ushr p2 (16 : Int32)) &&& (3 : Int32)) % (3 : Int32))), .val (.int (((p2 &&& (255 : Int32))).toUInt32.toUInt16.toUInt32.toInt32)), .unset, .unset, .unset, .unset, .unset, .unset, .unset, .unset, .unset] [(.int (XT.ushr p2 (8 : Int32)))]) _
      refine XS.sipush X0.here hx rfl (hb hby at_119) ?_
      refine XS.iand X0.here hx rfl (hb hby at_122) rfl ?_
      refine XT.i2c X0.here hx rfl (hb hby at_123) rfl ?_
      refine XS.istore X0.here hx rfl (hb hby at_124) rfl (l' := #[.val (.int p1), .val (.int p2), .val (.long p3), .second, .val (.long p4), .second, .val (.long p5), .second, .val (.int (((XT.ushr p1 (16 : Int32)) &&& (3 : Int32)) % (3 : Int32))), .val (.int (((p1 &&& (255 : Int32))).toUInt32.toUInt16.toUInt32.toInt32)), .val (.int ((((XT.ushr p1 (8 : Int32)) &&& (255 : Int32))).toUInt32.toUInt16.toUInt32.toInt32)), .val (.int (if ((XT.ushr p1 (18 : Int32)) &&& (1 : Int32)) = (0 : Int32) then (0 : Int32) else (1 : Int32))), .val (.int (if ((XT.ushr p1 (19 : Int32)) &&& (1 : Int32)) = (0 : Int32) then (0 : Int32) else (1 : Int32))), .val (.int (if ((XT.ushr p1 (20 : Int32)) &&& (1 : Int32)) = (0 : Int32) then (0 : Int32) else (1 : Int32))), .val (.int (((XT.ushr p2 (16 : Int32)) &&& (3 : Int32)) % (3 : Int32))), .val (.int (((p2 &&& (255 : Int32))).toUInt32.toUInt16.toUInt32.toInt32)), .val (.int ((((XT.ushr p2 (8 : Int32)) &&& (255 : Int32))).toUInt32.toUInt16.toUInt32.toInt32)), .unset, .unset, .unset, .unset, .unset, .unset, .unset, .unset]) rfl ?_
      show Sp p e below s₁ (mkF m 126 #[.val (.int p1), .val (.int p2), .val (.long p3), .second, .val (.long p4), .second, .val (.long p5), .second, .val (.int (((XT.ushr p1 (16 : Int32)) &&& (3 : Int32)) % (3 : Int32))), .val (.int (((p1 &&& (255 : Int32))).toUInt32.toUInt16.toUInt32.toInt32)), .val (.int ((((XT.ushr p1 (8 : Int32)) &&& (255 : Int32))).toUInt32.toUInt16.toUInt32.toInt32)), .val (.int (if ((XT.ushr p1 (18 : Int32)) &&& (1 : Int32)) = (0 : Int32) then (0 : Int32) else (1 : Int32))), .val (.int (if ((XT.ushr p1 (19 : Int32)) &&& (1 : Int32)) = (0 : Int32) then (0 : Int32) else (1 : Int32))), .val (.int (if ((XT.ushr p1 (20 : Int32)) &&& (1 : Int32)) = (0 : Int32) then (0 : Int32) else (1 : Int32))), .val (.int (((XT.ushr p2 (16 : Int32)) &&& (3 : Int32)) % (3 : Int32))), .val (.int (((p2 &&& (255 : Int32))).toUInt32.toUInt16.toUInt32.toInt32)), .val (.int ((((XT.ushr p2 (8 : Int32)) &&& (255 : Int32))).toUInt32.toUInt16.toUInt32.toInt32)), .unset, .unset, .unset, .unset, .unset, .unset, .unset, .unset] []) _
      first | exact k | (simp only [if_pos hm11] at k; exact k) | (show Sp p e below s₁ (mkF m 126 #[.val (.int p1), .val (.int p2), .val (.long p3), .second, .val (.long p4), .second, .val (.long p5), .second, .val (.int (((XT.ushr p1 (16 : Int32)) &&& (3 : Int32)) % (3 : Int32))), .val (.int (((p1 &&& (255 : Int32))).toUInt32.toUInt16.toUInt32.toInt32)), .val (.int ((((XT.ushr p1 (8 : Int32)) &&& (255 : Int32))).toUInt32.toUInt16.toUInt32.toInt32)), .val (.int (if ((XT.ushr p1 (18 : Int32)) &&& (1 : Int32)) = (0 : Int32) then (0 : Int32) else (1 : Int32))), .val (.int (if ((XT.ushr p1 (19 : Int32)) &&& (1 : Int32)) = (0 : Int32) then (0 : Int32) else (1 : Int32))), .val (.int (if ((XT.ushr p1 (20 : Int32)) &&& (1 : Int32)) = (0 : Int32) then (0 : Int32) else (1 : Int32))), .val (.int (((XT.ushr p2 (16 : Int32)) &&& (3 : Int32)) % (3 : Int32))), .val (.int (((p2 &&& (255 : Int32))).toUInt32.toUInt16.toUInt32.toInt32)), .val (.int ((((XT.ushr p2 (8 : Int32)) &&& (255 : Int32))).toUInt32.toUInt16.toUInt32.toInt32)), .unset, .unset, .unset, .unset, .unset, .unset, .unset, .unset] []) _; simp only [if_pos hm11] at k ⊢; exact k)
    · skip
      show Sp p e below s₁ (mkF m 79 #[.val (.int p1), .val (.int p2), .val (.long p3), .second, .val (.long p4), .second, .val (.long p5), .second, .val (.int (((XT.ushr p1 (16 : Int32)) &&& (3 : Int32)) % (3 : Int32))), .val (.int (((p1 &&& (255 : Int32))).toUInt32.toUInt16.toUInt32.toInt32)), .val (.int ((((XT.ushr p1 (8 : Int32)) &&& (255 : Int32))).toUInt32.toUInt16.toUInt32.toInt32)), .val (.int (if ((XT.ushr p1 (18 : Int32)) &&& (1 : Int32)) = (0 : Int32) then (0 : Int32) else (1 : Int32))), .val (.int (if ((XT.ushr p1 (19 : Int32)) &&& (1 : Int32)) = (0 : Int32) then (0 : Int32) else (1 : Int32))), .val (.int (if ((XT.ushr p1 (20 : Int32)) &&& (1 : Int32)) = (0 : Int32) then (0 : Int32) else (1 : Int32))), .unset, .unset, .unset, .unset, .unset, .unset, .unset, .unset, .unset, .unset, .unset] [(.int (if ((XT.ushr p1 (18 : Int32)) &&& (1 : Int32)) = (0 : Int32) then (0 : Int32) else (1 : Int32)))]) _
      refine XS.ifNo X0.here hx rfl (hb hby at_79) rfl (XT.i0_eq_f (by simp only [if_neg hm11] <;> decide)) ?_
      show Sp p e below s₁ (mkF m 82 #[.val (.int p1), .val (.int p2), .val (.long p3), .second, .val (.long p4), .second, .val (.long p5), .second, .val (.int (((XT.ushr p1 (16 : Int32)) &&& (3 : Int32)) % (3 : Int32))), .val (.int (((p1 &&& (255 : Int32))).toUInt32.toUInt16.toUInt32.toInt32)), .val (.int ((((XT.ushr p1 (8 : Int32)) &&& (255 : Int32))).toUInt32.toUInt16.toUInt32.toInt32)), .val (.int (if ((XT.ushr p1 (18 : Int32)) &&& (1 : Int32)) = (0 : Int32) then (0 : Int32) else (1 : Int32))), .val (.int (if ((XT.ushr p1 (19 : Int32)) &&& (1 : Int32)) = (0 : Int32) then (0 : Int32) else (1 : Int32))), .val (.int (if ((XT.ushr p1 (20 : Int32)) &&& (1 : Int32)) = (0 : Int32) then (0 : Int32) else (1 : Int32))), .unset, .unset, .unset, .unset, .unset, .unset, .unset, .unset, .unset, .unset, .unset] []) _
      refine XS.iload X0.here hx rfl (hb hby at_82) rfl ?_
      refine XS.istore X0.here hx rfl (hb hby at_84) rfl (l' := #[.val (.int p1), .val (.int p2), .val (.long p3), .second, .val (.long p4), .second, .val (.long p5), .second, .val (.int (((XT.ushr p1 (16 : Int32)) &&& (3 : Int32)) % (3 : Int32))), .val (.int (((p1 &&& (255 : Int32))).toUInt32.toUInt16.toUInt32.toInt32)), .val (.int ((((XT.ushr p1 (8 : Int32)) &&& (255 : Int32))).toUInt32.toUInt16.toUInt32.toInt32)), .val (.int (if ((XT.ushr p1 (18 : Int32)) &&& (1 : Int32)) = (0 : Int32) then (0 : Int32) else (1 : Int32))), .val (.int (if ((XT.ushr p1 (19 : Int32)) &&& (1 : Int32)) = (0 : Int32) then (0 : Int32) else (1 : Int32))), .val (.int (if ((XT.ushr p1 (20 : Int32)) &&& (1 : Int32)) = (0 : Int32) then (0 : Int32) else (1 : Int32))), .val (.int (((XT.ushr p1 (16 : Int32)) &&& (3 : Int32)) % (3 : Int32))), .unset, .unset, .unset, .unset, .unset, .unset, .unset, .unset, .unset, .unset]) rfl ?_
      refine XS.iload X0.here hx rfl (hb hby at_86) rfl ?_
      refine XS.istore X0.here hx rfl (hb hby at_88) rfl (l' := #[.val (.int p1), .val (.int p2), .val (.long p3), .second, .val (.long p4), .second, .val (.long p5), .second, .val (.int (((XT.ushr p1 (16 : Int32)) &&& (3 : Int32)) % (3 : Int32))), .val (.int (((p1 &&& (255 : Int32))).toUInt32.toUInt16.toUInt32.toInt32)), .val (.int ((((XT.ushr p1 (8 : Int32)) &&& (255 : Int32))).toUInt32.toUInt16.toUInt32.toInt32)), .val (.int (if ((XT.ushr p1 (18 : Int32)) &&& (1 : Int32)) = (0 : Int32) then (0 : Int32) else (1 : Int32))), .val (.int (if ((XT.ushr p1 (19 : Int32)) &&& (1 : Int32)) = (0 : Int32) then (0 : Int32) else (1 : Int32))), .val (.int (if ((XT.ushr p1 (20 : Int32)) &&& (1 : Int32)) = (0 : Int32) then (0 : Int32) else (1 : Int32))), .val (.int (((XT.ushr p1 (16 : Int32)) &&& (3 : Int32)) % (3 : Int32))), .val (.int (((p1 &&& (255 : Int32))).toUInt32.toUInt16.toUInt32.toInt32)), .unset, .unset, .unset, .unset, .unset, .unset, .unset, .unset, .unset]) rfl ?_
      show Sp p e below s₁ (mkF m 90 #[.val (.int p1), .val (.int p2), .val (.long p3), .second, .val (.long p4), .second, .val (.long p5), .second, .val (.int (((XT.ushr p1 (16 : Int32)) &&& (3 : Int32)) % (3 : Int32))), .val (.int (((p1 &&& (255 : Int32))).toUInt32.toUInt16.toUInt32.toInt32)), .val (.int ((((XT.ushr p1 (8 : Int32)) &&& (255 : Int32))).toUInt32.toUInt16.toUInt32.toInt32)), .val (.int (if ((XT.ushr p1 (18 : Int32)) &&& (1 : Int32)) = (0 : Int32) then (0 : Int32) else (1 : Int32))), .val (.int (if ((XT.ushr p1 (19 : Int32)) &&& (1 : Int32)) = (0 : Int32) then (0 : Int32) else (1 : Int32))), .val (.int (if ((XT.ushr p1 (20 : Int32)) &&& (1 : Int32)) = (0 : Int32) then (0 : Int32) else (1 : Int32))), .val (.int (((XT.ushr p1 (16 : Int32)) &&& (3 : Int32)) % (3 : Int32))), .val (.int (((p1 &&& (255 : Int32))).toUInt32.toUInt16.toUInt32.toInt32)), .unset, .unset, .unset, .unset, .unset, .unset, .unset, .unset, .unset] []) _
      refine XS.iload X0.here hx rfl (hb hby at_90) rfl ?_
      refine XS.istore X0.here hx rfl (hb hby at_92) rfl (l' := #[.val (.int p1), .val (.int p2), .val (.long p3), .second, .val (.long p4), .second, .val (.long p5), .second, .val (.int (((XT.ushr p1 (16 : Int32)) &&& (3 : Int32)) % (3 : Int32))), .val (.int (((p1 &&& (255 : Int32))).toUInt32.toUInt16.toUInt32.toInt32)), .val (.int ((((XT.ushr p1 (8 : Int32)) &&& (255 : Int32))).toUInt32.toUInt16.toUInt32.toInt32)), .val (.int (if ((XT.ushr p1 (18 : Int32)) &&& (1 : Int32)) = (0 : Int32) then (0 : Int32) else (1 : Int32))), .val (.int (if ((XT.ushr p1 (19 : Int32)) &&& (1 : Int32)) = (0 : Int32) then (0 : Int32) else (1 : Int32))), .val (.int (if ((XT.ushr p1 (20 : Int32)) &&& (1 : Int32)) = (0 : Int32) then (0 : Int32) else (1 : Int32))), .val (.int (((XT.ushr p1 (16 : Int32)) &&& (3 : Int32)) % (3 : Int32))), .val (.int (((p1 &&& (255 : Int32))).toUInt32.toUInt16.toUInt32.toInt32)), .val (.int ((((XT.ushr p1 (8 : Int32)) &&& (255 : Int32))).toUInt32.toUInt16.toUInt32.toInt32)), .unset, .unset, .unset, .unset, .unset, .unset, .unset, .unset]) rfl ?_
      refine XS.goto X0.here hx rfl (pc0 := 94) (pc' := 126) rfl (hb hby at_94) (by decide) (by decide) ?_
      first | exact k | (simp only [if_neg hm11] at k; exact k) | (show Sp p e below s₁ (mkF m 126 #[.val (.int p1), .val (.int p2), .val (.long p3), .second, .val (.long p4), .second, .val (.long p5), .second, .val (.int (((XT.ushr p1 (16 : Int32)) &&& (3 : Int32)) % (3 : Int32))), .val (.int (((p1 &&& (255 : Int32))).toUInt32.toUInt16.toUInt32.toInt32)), .val (.int ((((XT.ushr p1 (8 : Int32)) &&& (255 : Int32))).toUInt32.toUInt16.toUInt32.toInt32)), .val (.int (if ((XT.ushr p1 (18 : Int32)) &&& (1 : Int32)) = (0 : Int32) then (0 : Int32) else (1 : Int32))), .val (.int (if ((XT.ushr p1 (19 : Int32)) &&& (1 : Int32)) = (0 : Int32) then (0 : Int32) else (1 : Int32))), .val (.int (if ((XT.ushr p1 (20 : Int32)) &&& (1 : Int32)) = (0 : Int32) then (0 : Int32) else (1 : Int32))), .val (.int (((XT.ushr p1 (16 : Int32)) &&& (3 : Int32)) % (3 : Int32))), .val (.int (((p1 &&& (255 : Int32))).toUInt32.toUInt16.toUInt32.toInt32)), .val (.int ((((XT.ushr p1 (8 : Int32)) &&& (255 : Int32))).toUInt32.toUInt16.toUInt32.toInt32)), .unset, .unset, .unset, .unset, .unset, .unset, .unset, .unset] []) _; simp only [if_neg hm11] at k ⊢; exact k)
  have hnA := own_three (XT.ushr p1 (16 : Int32))
  have hnB : (if ((XT.ushr p1 (18 : Int32)) &&& (1 : Int32)) = (0 : Int32) then (((XT.ushr p2 (16 : Int32)) &&& (3 : Int32)) % (3 : Int32)) else (((XT.ushr p1 (16 : Int32)) &&& (3 : Int32)) % (3 : Int32))) = (0 : Int32) ∨ (if ((XT.ushr p1 (18 : Int32)) &&& (1 : Int32)) = (0 : Int32) then (((XT.ushr p2 (16 : Int32)) &&& (3 : Int32)) % (3 : Int32)) else (((XT.ushr p1 (16 : Int32)) &&& (3 : Int32)) % (3 : Int32))) = (1 : Int32) ∨ (if ((XT.ushr p1 (18 : Int32)) &&& (1 : Int32)) = (0 : Int32) then (((XT.ushr p2 (16 : Int32)) &&& (3 : Int32)) % (3 : Int32)) else (((XT.ushr p1 (16 : Int32)) &&& (3 : Int32)) % (3 : Int32))) = (2 : Int32) := by split <;> exact own_three _
  have hca : nar .char (((p1 &&& (255 : Int32))).toUInt32.toUInt16.toUInt32.toInt32) = (((p1 &&& (255 : Int32))).toUInt32.toUInt16.toUInt32.toInt32) ∧ ¬ (255 : Int32) < (((p1 &&& (255 : Int32))).toUInt32.toUInt16.toUInt32.toInt32) ∧ ¬ (((p1 &&& (255 : Int32))).toUInt32.toUInt16.toUInt32.toInt32) < (0 : Int32) := own_cr _
  have hcb : nar .char ((((XT.ushr p1 (8 : Int32)) &&& (255 : Int32))).toUInt32.toUInt16.toUInt32.toInt32) = ((((XT.ushr p1 (8 : Int32)) &&& (255 : Int32))).toUInt32.toUInt16.toUInt32.toInt32) ∧ ¬ (255 : Int32) < ((((XT.ushr p1 (8 : Int32)) &&& (255 : Int32))).toUInt32.toUInt16.toUInt32.toInt32) ∧ ¬ ((((XT.ushr p1 (8 : Int32)) &&& (255 : Int32))).toUInt32.toUInt16.toUInt32.toInt32) < (0 : Int32) := own_cr _
  have hda : nar .char (if ((XT.ushr p1 (18 : Int32)) &&& (1 : Int32)) = (0 : Int32) then (((p2 &&& (255 : Int32))).toUInt32.toUInt16.toUInt32.toInt32) else (((p1 &&& (255 : Int32))).toUInt32.toUInt16.toUInt32.toInt32)) = (if ((XT.ushr p1 (18 : Int32)) &&& (1 : Int32)) = (0 : Int32) then (((p2 &&& (255 : Int32))).toUInt32.toUInt16.toUInt32.toInt32) else (((p1 &&& (255 : Int32))).toUInt32.toUInt16.toUInt32.toInt32)) ∧ ¬ (255 : Int32) < (if ((XT.ushr p1 (18 : Int32)) &&& (1 : Int32)) = (0 : Int32) then (((p2 &&& (255 : Int32))).toUInt32.toUInt16.toUInt32.toInt32) else (((p1 &&& (255 : Int32))).toUInt32.toUInt16.toUInt32.toInt32)) ∧ ¬ (if ((XT.ushr p1 (18 : Int32)) &&& (1 : Int32)) = (0 : Int32) then (((p2 &&& (255 : Int32))).toUInt32.toUInt16.toUInt32.toInt32) else (((p1 &&& (255 : Int32))).toUInt32.toUInt16.toUInt32.toInt32)) < (0 : Int32) := by split; exact own_cr _; exact own_cr _
  have hdb : nar .char (if ((XT.ushr p1 (18 : Int32)) &&& (1 : Int32)) = (0 : Int32) then ((((XT.ushr p2 (8 : Int32)) &&& (255 : Int32))).toUInt32.toUInt16.toUInt32.toInt32) else ((((XT.ushr p1 (8 : Int32)) &&& (255 : Int32))).toUInt32.toUInt16.toUInt32.toInt32)) = (if ((XT.ushr p1 (18 : Int32)) &&& (1 : Int32)) = (0 : Int32) then ((((XT.ushr p2 (8 : Int32)) &&& (255 : Int32))).toUInt32.toUInt16.toUInt32.toInt32) else ((((XT.ushr p1 (8 : Int32)) &&& (255 : Int32))).toUInt32.toUInt16.toUInt32.toInt32)) ∧ ¬ (255 : Int32) < (if ((XT.ushr p1 (18 : Int32)) &&& (1 : Int32)) = (0 : Int32) then ((((XT.ushr p2 (8 : Int32)) &&& (255 : Int32))).toUInt32.toUInt16.toUInt32.toInt32) else ((((XT.ushr p1 (8 : Int32)) &&& (255 : Int32))).toUInt32.toUInt16.toUInt32.toInt32)) ∧ ¬ (if ((XT.ushr p1 (18 : Int32)) &&& (1 : Int32)) = (0 : Int32) then ((((XT.ushr p2 (8 : Int32)) &&& (255 : Int32))).toUInt32.toUInt16.toUInt32.toInt32) else ((((XT.ushr p1 (8 : Int32)) &&& (255 : Int32))).toUInt32.toUInt16.toUInt32.toInt32)) < (0 : Int32) := by split; exact own_cr _; exact own_cr _
  generalize hBe : (if ((XT.ushr p1 (18 : Int32)) &&& (1 : Int32)) = (0 : Int32) then (((XT.ushr p2 (16 : Int32)) &&& (3 : Int32)) % (3 : Int32)) else (((XT.ushr p1 (16 : Int32)) &&& (3 : Int32)) % (3 : Int32))) = nB at hnB pre_12
  generalize (if ((XT.ushr p1 (18 : Int32)) &&& (1 : Int32)) = (0 : Int32) then (((p2 &&& (255 : Int32))).toUInt32.toUInt16.toUInt32.toInt32) else (((p1 &&& (255 : Int32))).toUInt32.toUInt16.toUInt32.toInt32)) = da at hda pre_12
  generalize (if ((XT.ushr p1 (18 : Int32)) &&& (1 : Int32)) = (0 : Int32) then ((((XT.ushr p2 (8 : Int32)) &&& (255 : Int32))).toUInt32.toUInt16.toUInt32.toInt32) else ((((XT.ushr p1 (8 : Int32)) &&& (255 : Int32))).toUInt32.toUInt16.toUInt32.toInt32)) = db at hdb pre_12
  clear hBe
  generalize (((XT.ushr p1 (16 : Int32)) &&& (3 : Int32)) % (3 : Int32)) = nA at hnA pre_12
  generalize (((p1 &&& (255 : Int32))).toUInt32.toUInt16.toUInt32.toInt32) = ca at hca pre_12
  generalize ((((XT.ushr p1 (8 : Int32)) &&& (255 : Int32))).toUInt32.toUInt16.toUInt32.toInt32) = cb at hcb pre_12
  have pre_13 : ∀ t, Sp p e below s₁ (mkF m 132 #[.val (.int p1), .val (.int p2), .val (.long p3), .second, .val (.long p4), .second, .val (.long p5), .second, .val (.int nA), .val (.int ca), .val (.int cb), .val (.int (if ((XT.ushr p1 (18 : Int32)) &&& (1 : Int32)) = (0 : Int32) then (0 : Int32) else (1 : Int32))), .val (.int (if ((XT.ushr p1 (19 : Int32)) &&& (1 : Int32)) = (0 : Int32) then (0 : Int32) else (1 : Int32))), .val (.int (if ((XT.ushr p1 (20 : Int32)) &&& (1 : Int32)) = (0 : Int32) then (0 : Int32) else (1 : Int32))), .val (.int nB), .val (.int da), .val (.int db), .val (.int (p3).toInt32), .unset, .unset, .unset, .unset, .unset, .unset, .unset] [(.int (if ((XT.ushr p1 (19 : Int32)) &&& (1 : Int32)) = (0 : Int32) then (0 : Int32) else (1 : Int32)))]) t → Steps p.tables e below E0 t := by
    intro t k
    refine pre_12 t ?_
    show Sp p e below s₁ (mkF m 126 #[.val (.int p1), .val (.int p2), .val (.long p3), .second, .val (.long p4), .second, .val (.long p5), .second, .val (.int nA), .val (.int ca), .val (.int cb), .val (.int (if ((XT.ushr p1 (18 : Int32)) &&& (1 : Int32)) = (0 : Int32) then (0 : Int32) else (1 : Int32))), .val (.int (if ((XT.ushr p1 (19 : Int32)) &&& (1 : Int32)) = (0 : Int32) then (0 : Int32) else (1 : Int32))), .val (.int (if ((XT.ushr p1 (20 : Int32)) &&& (1 : Int32)) = (0 : Int32) then (0 : Int32) else (1 : Int32))), .val (.int nB), .val (.int da), .val (.int db), .unset, .unset, .unset, .unset, .unset, .unset, .unset, .unset] []) _
    refine XT.lloadN X0.here hx rfl (hb hby at_126) rfl ?_
    show Sp p e below s₁ (mkF m 127 #[.val (.int p1), .val (.int p2), .val (.long p3), .second, .val (.long p4), .second, .val (.long p5), .second, .val (.int nA), .val (.int ca), .val (.int cb), .val (.int (if ((XT.ushr p1 (18 : Int32)) &&& (1 : Int32)) = (0 : Int32) then (0 : Int32) else (1 : Int32))), .val (.int (if ((XT.ushr p1 (19 : Int32)) &&& (1 : Int32)) = (0 : Int32) then (0 : Int32) else (1 : Int32))), .val (.int (if ((XT.ushr p1 (20 : Int32)) &&& (1 : Int32)) = (0 : Int32) then (0 : Int32) else (1 : Int32))), .val (.int nB), .val (.int da), .val (.int db), .unset, .unset, .unset, .unset, .unset, .unset, .unset, .unset] [(.long p3)]) _
    refine XT.l2i X0.here hx rfl (hb hby at_127) rfl ?_
    refine XS.istore X0.here hx rfl (hb hby at_128) rfl (l' := #[.val (.int p1), .val (.int p2), .val (.long p3), .second, .val (.long p4), .second, .val (.long p5), .second, .val (.int nA), .val (.int ca), .val (.int cb), .val (.int (if ((XT.ushr p1 (18 : Int32)) &&& (1 : Int32)) = (0 : Int32) then (0 : Int32) else (1 : Int32))), .val (.int (if ((XT.ushr p1 (19 : Int32)) &&& (1 : Int32)) = (0 : Int32) then (0 : Int32) else (1 : Int32))), .val (.int (if ((XT.ushr p1 (20 : Int32)) &&& (1 : Int32)) = (0 : Int32) then (0 : Int32) else (1 : Int32))), .val (.int nB), .val (.int da), .val (.int db), .val (.int (p3).toInt32), .unset, .unset, .unset, .unset, .unset, .unset, .unset]) rfl ?_
    refine XS.iload X0.here hx rfl (hb hby at_130) rfl ?_
    exact k
  have pre_15 : ∀ t, Sp p e below s₁ (mkF m 145 #[.val (.int p1), .val (.int p2), .val (.long p3), .second, .val (.long p4), .second, .val (.long p5), .second, .val (.int nA), .val (.int ca), .val (.int cb), .val (.int (if ((XT.ushr p1 (18 : Int32)) &&& (1 : Int32)) = (0 : Int32) then (0 : Int32) else (1 : Int32))), .val (.int (if ((XT.ushr p1 (19 : Int32)) &&& (1 : Int32)) = (0 : Int32) then (0 : Int32) else (1 : Int32))), .val (.int (if ((XT.ushr p1 (20 : Int32)) &&& (1 : Int32)) = (0 : Int32) then (0 : Int32) else (1 : Int32))), .val (.int nB), .val (.int da), .val (.int db), .val (.int (p3).toInt32), .unset, .unset, .unset, .unset, .unset, .unset, .unset] [(.int (if ((XT.ushr p1 (19 : Int32)) &&& (1 : Int32)) = (0 : Int32) then ((XT.ushrL p3 (32 : Int32))).toInt32 else (p3).toInt32))]) t → Steps p.tables e below E0 t := by
    intro t k
    refine pre_13 t ?_
    by_cases hm14 : ((XT.ushr p1 (19 : Int32)) &&& (1 : Int32)) = (0 : Int32)
    · skip
      show Sp p e below s₁ (mkF m 132 #[.val (.int p1), .val (.int p2), .val (.long p3), .second, .val (.long p4), .second, .val (.long p5), .second, .val (.int nA), .val (.int ca), .val (.int cb), .val (.int (if ((XT.ushr p1 (18 : Int32)) &&& (1 : Int32)) = (0 : Int32) then (0 : Int32) else (1 : Int32))), .val (.int (if ((XT.ushr p1 (19 : Int32)) &&& (1 : Int32)) = (0 : Int32) then (0 : Int32) else (1 : Int32))), .val (.int (if ((XT.ushr p1 (20 : Int32)) &&& (1 : Int32)) = (0 : Int32) then (0 : Int32) else (1 : Int32))), .val (.int nB), .val (.int da), .val (.int db), .val (.int (p3).toInt32), .unset, .unset, .unset, .unset, .unset, .unset, .unset] [(.int (if ((XT.ushr p1 (19 : Int32)) &&& (1 : Int32)) = (0 : Int32) then (0 : Int32) else (1 : Int32)))]) _
      refine XS.ifYes X0.here hx rfl (pc0 := 132) (pc' := 140) rfl (hb hby at_132) rfl (XT.i0_eq_t (by simp only [if_pos hm14] <;> decide)) (by decide) (by decide) ?_
      show Sp p e below s₁ (mkF m 140 #[.val (.int p1), .val (.int p2), .val (.long p3), .second, .val (.long p4), .second, .val (.long p5), .second, .val (.int nA), .val (.int ca), .val (.int cb), .val (.int (if ((XT.ushr p1 (18 : Int32)) &&& (1 : Int32)) = (0 : Int32) then (0 : Int32) else (1 : Int32))), .val (.int (if ((XT.ushr p1 (19 : Int32)) &&& (1 : Int32)) = (0 : Int32) then (0 : Int32) else (1 : Int32))), .val (.int (if ((XT.ushr p1 (20 : Int32)) &&& (1 : Int32)) = (0 : Int32) then (0 : Int32) else (1 : Int32))), .val (.int nB), .val (.int da), .val (.int db), .val (.int (p3).toInt32), .unset, .unset, .unset, .unset, .unset, .unset, .unset] []) _
      refine XT.lloadN X0.here hx rfl (hb hby at_140) rfl ?_
      refine XS.bipush X0.here hx rfl (hb hby at_141) ?_
      refine XT.lushr X0.here hx rfl (hb hby at_143) rfl ?_
      refine XT.l2i X0.here hx rfl (hb hby at_144) rfl ?_
      show Sp p e below s₁ (mkF m 145 #[.val (.int p1), .val (.int p2), .val (.long p3), .second, .val (.long p4), .second, .val (.long p5), .second, .val (.int nA), .val (.int ca), .val (.int cb), .val (.int (if ((XT.ushr p1 (18 : Int32)) &&& (1 : Int32)) = (0 : Int32) then (0 : Int32) else (1 : Int32))), .val (.int (if ((XT.ushr p1 (19 : Int32)) &&& (1 : Int32)) = (0 : Int32) then (0 : Int32) else (1 : Int32))), .val (.int (if ((XT.ushr p1 (20 : Int32)) &&& (1 : Int32)) = (0 : Int32) then (0 : Int32) else (1 : Int32))), .val (.int nB), .val (.int da), .val (.int db), .val (.int (p3).toInt32), .unset, .unset, .unset, .unset, .unset, .unset, .unset] [(.int ((XT.ushrL p3 (32 : Int32))).toInt32)]) _
      first | exact k | (simp only [if_pos hm14] at k; exact k) | (show Sp p e below s₁ (mkF m 145 #[.val (.int p1), .val (.int p2), .val (.long p3), .second, .val (.long p4), .second, .val (.long p5), .second, .val (.int nA), .val (.int ca), .val (.int cb), .val (.int (if ((XT.ushr p1 (18 : Int32)) &&& (1 : Int32)) = (0 : Int32) then (0 : Int32) else (1 : Int32))), .val (.int (if ((XT.ushr p1 (19 : Int32)) &&& (1 : Int32)) = (0 : Int32) then (0 : Int32) else (1 : Int32))), .val (.int (if ((XT.ushr p1 (20 : Int32)) &&& (1 : Int32)) = (0 : Int32) then (0 : Int32) else (1 : Int32))), .val (.int nB), .val (.int da), .val (.int db), .val (.int (p3).toInt32), .unset, .unset, .unset, .unset, .unset, .unset, .unset] [(.int ((XT.ushrL p3 (32 : Int32))).toInt32)]) _; simp only [if_pos hm14] at k ⊢; exact k)
    · skip
      show Sp p e below s₁ (mkF m 132 #[.val (.int p1), .val (.int p2), .val (.long p3), .second, .val (.long p4), .second, .val (.long p5), .second, .val (.int nA), .val (.int ca), .val (.int cb), .val (.int (if ((XT.ushr p1 (18 : Int32)) &&& (1 : Int32)) = (0 : Int32) then (0 : Int32) else (1 : Int32))), .val (.int (if ((XT.ushr p1 (19 : Int32)) &&& (1 : Int32)) = (0 : Int32) then (0 : Int32) else (1 : Int32))), .val (.int (if ((XT.ushr p1 (20 : Int32)) &&& (1 : Int32)) = (0 : Int32) then (0 : Int32) else (1 : Int32))), .val (.int nB), .val (.int da), .val (.int db), .val (.int (p3).toInt32), .unset, .unset, .unset, .unset, .unset, .unset, .unset] [(.int (if ((XT.ushr p1 (19 : Int32)) &&& (1 : Int32)) = (0 : Int32) then (0 : Int32) else (1 : Int32)))]) _
      refine XS.ifNo X0.here hx rfl (hb hby at_132) rfl (XT.i0_eq_f (by simp only [if_neg hm14] <;> decide)) ?_
      show Sp p e below s₁ (mkF m 135 #[.val (.int p1), .val (.int p2), .val (.long p3), .second, .val (.long p4), .second, .val (.long p5), .second, .val (.int nA), .val (.int ca), .val (.int cb), .val (.int (if ((XT.ushr p1 (18 : Int32)) &&& (1 : Int32)) = (0 : Int32) then (0 : Int32) else (1 : Int32))), .val (.int (if ((XT.ushr p1 (19 : Int32)) &&& (1 : Int32)) = (0 : Int32) then (0 : Int32) else (1 : Int32))), .val (.int (if ((XT.ushr p1 (20 : Int32)) &&& (1 : Int32)) = (0 : Int32) then (0 : Int32) else (1 : Int32))), .val (.int nB), .val (.int da), .val (.int db), .val (.int (p3).toInt32), .unset, .unset, .unset, .unset, .unset, .unset, .unset] []) _
      refine XS.iload X0.here hx rfl (hb hby at_135) rfl ?_
      refine XS.goto X0.here hx rfl (pc0 := 137) (pc' := 145) rfl (hb hby at_137) (by decide) (by decide) ?_
      first | exact k | (simp only [if_neg hm14] at k; exact k) | (show Sp p e below s₁ (mkF m 145 #[.val (.int p1), .val (.int p2), .val (.long p3), .second, .val (.long p4), .second, .val (.long p5), .second, .val (.int nA), .val (.int ca), .val (.int cb), .val (.int (if ((XT.ushr p1 (18 : Int32)) &&& (1 : Int32)) = (0 : Int32) then (0 : Int32) else (1 : Int32))), .val (.int (if ((XT.ushr p1 (19 : Int32)) &&& (1 : Int32)) = (0 : Int32) then (0 : Int32) else (1 : Int32))), .val (.int (if ((XT.ushr p1 (20 : Int32)) &&& (1 : Int32)) = (0 : Int32) then (0 : Int32) else (1 : Int32))), .val (.int nB), .val (.int da), .val (.int db), .val (.int (p3).toInt32), .unset, .unset, .unset, .unset, .unset, .unset, .unset] [(.int (p3).toInt32)]) _; simp only [if_neg hm14] at k ⊢; exact k)
  have pre_16 : ∀ t, Sp p e below s₁ (mkF m 154 #[.val (.int p1), .val (.int p2), .val (.long p3), .second, .val (.long p4), .second, .val (.long p5), .second, .val (.int nA), .val (.int ca), .val (.int cb), .val (.int (if ((XT.ushr p1 (18 : Int32)) &&& (1 : Int32)) = (0 : Int32) then (0 : Int32) else (1 : Int32))), .val (.int (if ((XT.ushr p1 (19 : Int32)) &&& (1 : Int32)) = (0 : Int32) then (0 : Int32) else (1 : Int32))), .val (.int (if ((XT.ushr p1 (20 : Int32)) &&& (1 : Int32)) = (0 : Int32) then (0 : Int32) else (1 : Int32))), .val (.int nB), .val (.int da), .val (.int db), .val (.int (p3).toInt32), .val (.int (if ((XT.ushr p1 (19 : Int32)) &&& (1 : Int32)) = (0 : Int32) then ((XT.ushrL p3 (32 : Int32))).toInt32 else (p3).toInt32)), .val (.int (p4).toInt32), .unset, .unset, .unset, .unset, .unset] [(.int (if ((XT.ushr p1 (20 : Int32)) &&& (1 : Int32)) = (0 : Int32) then (0 : Int32) else (1 : Int32)))]) t → Steps p.tables e below E0 t := by
    intro t k
    refine pre_15 t ?_
    show Sp p e below s₁ (mkF m 145 #[.val (.int p1), .val (.int p2), .val (.long p3), .second, .val (.long p4), .second, .val (.long p5), .second, .val (.int nA), .val (.int ca), .val (.int cb), .val (.int (if ((XT.ushr p1 (18 : Int32)) &&& (1 : Int32)) = (0 : Int32) then (0 : Int32) else (1 : Int32))), .val (.int (if ((XT.ushr p1 (19 : Int32)) &&& (1 : Int32)) = (0 : Int32) then (0 : Int32) else (1 : Int32))), .val (.int (if ((XT.ushr p1 (20 : Int32)) &&& (1 : Int32)) = (0 : Int32) then (0 : Int32) else (1 : Int32))), .val (.int nB), .val (.int da), .val (.int db), .val (.int (p3).toInt32), .unset, .unset, .unset, .unset, .unset, .unset, .unset] [(.int (if ((XT.ushr p1 (19 : Int32)) &&& (1 : Int32)) = (0 : Int32) then ((XT.ushrL p3 (32 : Int32))).toInt32 else (p3).toInt32))]) _
    refine XS.istore X0.here hx rfl (hb hby at_145) rfl (l' := #[.val (.int p1), .val (.int p2), .val (.long p3), .second, .val (.long p4), .second, .val (.long p5), .second, .val (.int nA), .val (.int ca), .val (.int cb), .val (.int (if ((XT.ushr p1 (18 : Int32)) &&& (1 : Int32)) = (0 : Int32) then (0 : Int32) else (1 : Int32))), .val (.int (if ((XT.ushr p1 (19 : Int32)) &&& (1 : Int32)) = (0 : Int32) then (0 : Int32) else (1 : Int32))), .val (.int (if ((XT.ushr p1 (20 : Int32)) &&& (1 : Int32)) = (0 : Int32) then (0 : Int32) else (1 : Int32))), .val (.int nB), .val (.int da), .val (.int db), .val (.int (p3).toInt32), .val (.int (if ((XT.ushr p1 (19 : Int32)) &&& (1 : Int32)) = (0 : Int32) then ((XT.ushrL p3 (32 : Int32))).toInt32 else (p3).toInt32)), .unset, .unset, .unset, .unset, .unset, .unset]) rfl ?_
    show Sp p e below s₁ (mkF m 147 #[.val (.int p1), .val (.int p2), .val (.long p3), .second, .val (.long p4), .second, .val (.long p5), .second, .val (.int nA), .val (.int ca), .val (.int cb), .val (.int (if ((XT.ushr p1 (18 : Int32)) &&& (1 : Int32)) = (0 : Int32) then (0 : Int32) else (1 : Int32))), .val (.int (if ((XT.ushr p1 (19 : Int32)) &&& (1 : Int32)) = (0 : Int32) then (0 : Int32) else (1 : Int32))), .val (.int (if ((XT.ushr p1 (20 : Int32)) &&& (1 : Int32)) = (0 : Int32) then (0 : Int32) else (1 : Int32))), .val (.int nB), .val (.int da), .val (.int db), .val (.int (p3).toInt32), .val (.int (if ((XT.ushr p1 (19 : Int32)) &&& (1 : Int32)) = (0 : Int32) then ((XT.ushrL p3 (32 : Int32))).toInt32 else (p3).toInt32)), .unset, .unset, .unset, .unset, .unset, .unset] []) _
    refine XT.lload X0.here hx rfl (hb hby at_147) rfl ?_
    refine XT.l2i X0.here hx rfl (hb hby at_149) rfl ?_
    refine XS.istore X0.here hx rfl (hb hby at_150) rfl (l' := #[.val (.int p1), .val (.int p2), .val (.long p3), .second, .val (.long p4), .second, .val (.long p5), .second, .val (.int nA), .val (.int ca), .val (.int cb), .val (.int (if ((XT.ushr p1 (18 : Int32)) &&& (1 : Int32)) = (0 : Int32) then (0 : Int32) else (1 : Int32))), .val (.int (if ((XT.ushr p1 (19 : Int32)) &&& (1 : Int32)) = (0 : Int32) then (0 : Int32) else (1 : Int32))), .val (.int (if ((XT.ushr p1 (20 : Int32)) &&& (1 : Int32)) = (0 : Int32) then (0 : Int32) else (1 : Int32))), .val (.int nB), .val (.int da), .val (.int db), .val (.int (p3).toInt32), .val (.int (if ((XT.ushr p1 (19 : Int32)) &&& (1 : Int32)) = (0 : Int32) then ((XT.ushrL p3 (32 : Int32))).toInt32 else (p3).toInt32)), .val (.int (p4).toInt32), .unset, .unset, .unset, .unset, .unset]) rfl ?_
    refine XS.iload X0.here hx rfl (hb hby at_152) rfl ?_
    show Sp p e below s₁ (mkF m 154 #[.val (.int p1), .val (.int p2), .val (.long p3), .second, .val (.long p4), .second, .val (.long p5), .second, .val (.int nA), .val (.int ca), .val (.int cb), .val (.int (if ((XT.ushr p1 (18 : Int32)) &&& (1 : Int32)) = (0 : Int32) then (0 : Int32) else (1 : Int32))), .val (.int (if ((XT.ushr p1 (19 : Int32)) &&& (1 : Int32)) = (0 : Int32) then (0 : Int32) else (1 : Int32))), .val (.int (if ((XT.ushr p1 (20 : Int32)) &&& (1 : Int32)) = (0 : Int32) then (0 : Int32) else (1 : Int32))), .val (.int nB), .val (.int da), .val (.int db), .val (.int (p3).toInt32), .val (.int (if ((XT.ushr p1 (19 : Int32)) &&& (1 : Int32)) = (0 : Int32) then ((XT.ushrL p3 (32 : Int32))).toInt32 else (p3).toInt32)), .val (.int (p4).toInt32), .unset, .unset, .unset, .unset, .unset] [(.int (if ((XT.ushr p1 (20 : Int32)) &&& (1 : Int32)) = (0 : Int32) then (0 : Int32) else (1 : Int32)))]) _
    exact k
  have pre_18 : ∀ t, Sp p e below s₁ (mkF m 168 #[.val (.int p1), .val (.int p2), .val (.long p3), .second, .val (.long p4), .second, .val (.long p5), .second, .val (.int nA), .val (.int ca), .val (.int cb), .val (.int (if ((XT.ushr p1 (18 : Int32)) &&& (1 : Int32)) = (0 : Int32) then (0 : Int32) else (1 : Int32))), .val (.int (if ((XT.ushr p1 (19 : Int32)) &&& (1 : Int32)) = (0 : Int32) then (0 : Int32) else (1 : Int32))), .val (.int (if ((XT.ushr p1 (20 : Int32)) &&& (1 : Int32)) = (0 : Int32) then (0 : Int32) else (1 : Int32))), .val (.int nB), .val (.int da), .val (.int db), .val (.int (p3).toInt32), .val (.int (if ((XT.ushr p1 (19 : Int32)) &&& (1 : Int32)) = (0 : Int32) then ((XT.ushrL p3 (32 : Int32))).toInt32 else (p3).toInt32)), .val (.int (p4).toInt32), .unset, .unset, .unset, .unset, .unset] [(.int (if ((XT.ushr p1 (20 : Int32)) &&& (1 : Int32)) = (0 : Int32) then ((XT.ushrL p4 (32 : Int32))).toInt32 else (p4).toInt32))]) t → Steps p.tables e below E0 t := by
    intro t k
    refine pre_16 t ?_
    by_cases hm17 : ((XT.ushr p1 (20 : Int32)) &&& (1 : Int32)) = (0 : Int32)
    · skip
      show Sp p e below s₁ (mkF m 154 #[.val (.int p1), .val (.int p2), .val (.long p3), .second, .val (.long p4), .second, .val (.long p5), .second, .val (.int nA), .val (.int ca), .val (.int cb), .val (.int (if ((XT.ushr p1 (18 : Int32)) &&& (1 : Int32)) = (0 : Int32) then (0 : Int32) else (1 : Int32))), .val (.int (if ((XT.ushr p1 (19 : Int32)) &&& (1 : Int32)) = (0 : Int32) then (0 : Int32) else (1 : Int32))), .val (.int (if ((XT.ushr p1 (20 : Int32)) &&& (1 : Int32)) = (0 : Int32) then (0 : Int32) else (1 : Int32))), .val (.int nB), .val (.int da), .val (.int db), .val (.int (p3).toInt32), .val (.int (if ((XT.ushr p1 (19 : Int32)) &&& (1 : Int32)) = (0 : Int32) then ((XT.ushrL p3 (32 : Int32))).toInt32 else (p3).toInt32)), .val (.int (p4).toInt32), .unset, .unset, .unset, .unset, .unset] [(.int (if ((XT.ushr p1 (20 : Int32)) &&& (1 : Int32)) = (0 : Int32) then (0 : Int32) else (1 : Int32)))]) _
      refine XS.ifYes X0.here hx rfl (pc0 := 154) (pc' := 162) rfl (hb hby at_154) rfl (XT.i0_eq_t (by simp only [if_pos hm17] <;> decide)) (by decide) (by decide) ?_
      refine XT.lload X0.here hx rfl (hb hby at_162) rfl ?_
      refine XS.bipush X0.here hx rfl (hb hby at_164) ?_
      refine XT.lushr X0.here hx rfl (hb hby at_166) rfl ?_
      show Sp p e below s₁ (mkF m 167 #[.val (.int p1), .val (.int p2), .val (.long p3), .second, .val (.long p4), .second, .val (.long p5), .second, .val (.int nA), .val (.int ca), .val (.int cb), .val (.int (if ((XT.ushr p1 (18 : Int32)) &&& (1 : Int32)) = (0 : Int32) then (0 : Int32) else (1 : Int32))), .val (.int (if ((XT.ushr p1 (19 : Int32)) &&& (1 : Int32)) = (0 : Int32) then (0 : Int32) else (1 : Int32))), .val (.int (if ((XT.ushr p1 (20 : Int32)) &&& (1 : Int32)) = (0 : Int32) then (0 : Int32) else (1 : Int32))), .val (.int nB), .val (.int da), .val (.int db), .val (.int (p3).toInt32), .val (.int (if ((XT.ushr p1 (19 : Int32)) &&& (1 : Int32)) = (0 : Int32) then ((XT.ushrL p3 (32 : Int32))).toInt32 else (p3).toInt32)), .val (.int (p4).toInt32), .unset, .unset, .unset, .unset, .unset] [(.long (XT.ushrL p4 (32 : Int32)))]) _
      refine XT.l2i X0.here hx rfl (hb hby at_167) rfl ?_
      first | exact k | (simp only [if_pos hm17] at k; exact k) | (show Sp p e below s₁ (mkF m 168 #[.val (.int p1), .val (.int p2), .val (.long p3), .second, .val (.long p4), .second, .val (.long p5), .second, .val (.int nA), .val (.int ca), .val (.int cb), .val (.int (if ((XT.ushr p1 (18 : Int32)) &&& (1 : Int32)) = (0 : Int32) then (0 : Int32) else (1 : Int32))), .val (.int (if ((XT.ushr p1 (19 : Int32)) &&& (1 : Int32)) = (0 : Int32) then (0 : Int32) else (1 : Int32))), .val (.int (if ((XT.ushr p1 (20 : Int32)) &&& (1 : Int32)) = (0 : Int32) then (0 : Int32) else (1 : Int32))), .val (.int nB), .val (.int da), .val (.int db), .val (.int (p3).toInt32), .val (.int (if ((XT.ushr p1 (19 : Int32)) &&& (1 : Int32)) = (0 : Int32) then ((XT.ushrL p3 (32 : Int32))).toInt32 else (p3).toInt32)), .val (.int (p4).toInt32), .unset, .unset, .unset, .unset, .unset] [(.int ((XT.ushrL p4 (32 : Int32))).toInt32)]) _; simp only [if_pos hm17] at k ⊢; exact k)
    · skip
      show Sp p e below s₁ (mkF m 154 #[.val (.int p1), .val (.int p2), .val (.long p3), .second, .val (.long p4), .second, .val (.long p5), .second, .val (.int nA), .val (.int ca), .val (.int cb), .val (.int (if ((XT.ushr p1 (18 : Int32)) &&& (1 : Int32)) = (0 : Int32) then (0 : Int32) else (1 : Int32))), .val (.int (if ((XT.ushr p1 (19 : Int32)) &&& (1 : Int32)) = (0 : Int32) then (0 : Int32) else (1 : Int32))), .val (.int (if ((XT.ushr p1 (20 : Int32)) &&& (1 : Int32)) = (0 : Int32) then (0 : Int32) else (1 : Int32))), .val (.int nB), .val (.int da), .val (.int db), .val (.int (p3).toInt32), .val (.int (if ((XT.ushr p1 (19 : Int32)) &&& (1 : Int32)) = (0 : Int32) then ((XT.ushrL p3 (32 : Int32))).toInt32 else (p3).toInt32)), .val (.int (p4).toInt32), .unset, .unset, .unset, .unset, .unset] [(.int (if ((XT.ushr p1 (20 : Int32)) &&& (1 : Int32)) = (0 : Int32) then (0 : Int32) else (1 : Int32)))]) _
      refine XS.ifNo X0.here hx rfl (hb hby at_154) rfl (XT.i0_eq_f (by simp only [if_neg hm17] <;> decide)) ?_
      refine XS.iload X0.here hx rfl (hb hby at_157) rfl ?_
      refine XS.goto X0.here hx rfl (pc0 := 159) (pc' := 168) rfl (hb hby at_159) (by decide) (by decide) ?_
      first | exact k | (simp only [if_neg hm17] at k; exact k) | (show Sp p e below s₁ (mkF m 168 #[.val (.int p1), .val (.int p2), .val (.long p3), .second, .val (.long p4), .second, .val (.long p5), .second, .val (.int nA), .val (.int ca), .val (.int cb), .val (.int (if ((XT.ushr p1 (18 : Int32)) &&& (1 : Int32)) = (0 : Int32) then (0 : Int32) else (1 : Int32))), .val (.int (if ((XT.ushr p1 (19 : Int32)) &&& (1 : Int32)) = (0 : Int32) then (0 : Int32) else (1 : Int32))), .val (.int (if ((XT.ushr p1 (20 : Int32)) &&& (1 : Int32)) = (0 : Int32) then (0 : Int32) else (1 : Int32))), .val (.int nB), .val (.int da), .val (.int db), .val (.int (p3).toInt32), .val (.int (if ((XT.ushr p1 (19 : Int32)) &&& (1 : Int32)) = (0 : Int32) then ((XT.ushrL p3 (32 : Int32))).toInt32 else (p3).toInt32)), .val (.int (p4).toInt32), .unset, .unset, .unset, .unset, .unset] [(.int (p4).toInt32)]) _; simp only [if_neg hm17] at k ⊢; exact k)
  have pre_19 : ∀ t, Sp p e below s₁ (mkF m 170 #[.val (.int p1), .val (.int p2), .val (.long p3), .second, .val (.long p4), .second, .val (.long p5), .second, .val (.int nA), .val (.int ca), .val (.int cb), .val (.int (if ((XT.ushr p1 (18 : Int32)) &&& (1 : Int32)) = (0 : Int32) then (0 : Int32) else (1 : Int32))), .val (.int (if ((XT.ushr p1 (19 : Int32)) &&& (1 : Int32)) = (0 : Int32) then (0 : Int32) else (1 : Int32))), .val (.int (if ((XT.ushr p1 (20 : Int32)) &&& (1 : Int32)) = (0 : Int32) then (0 : Int32) else (1 : Int32))), .val (.int nB), .val (.int da), .val (.int db), .val (.int (p3).toInt32), .val (.int (if ((XT.ushr p1 (19 : Int32)) &&& (1 : Int32)) = (0 : Int32) then ((XT.ushrL p3 (32 : Int32))).toInt32 else (p3).toInt32)), .val (.int (p4).toInt32), .val (.int (if ((XT.ushr p1 (20 : Int32)) &&& (1 : Int32)) = (0 : Int32) then ((XT.ushrL p4 (32 : Int32))).toInt32 else (p4).toInt32)), .unset, .unset, .unset, .unset] []) t → Steps p.tables e below E0 t := by
    intro t k
    refine pre_18 t ?_
    show Sp p e below s₁ (mkF m 168 #[.val (.int p1), .val (.int p2), .val (.long p3), .second, .val (.long p4), .second, .val (.long p5), .second, .val (.int nA), .val (.int ca), .val (.int cb), .val (.int (if ((XT.ushr p1 (18 : Int32)) &&& (1 : Int32)) = (0 : Int32) then (0 : Int32) else (1 : Int32))), .val (.int (if ((XT.ushr p1 (19 : Int32)) &&& (1 : Int32)) = (0 : Int32) then (0 : Int32) else (1 : Int32))), .val (.int (if ((XT.ushr p1 (20 : Int32)) &&& (1 : Int32)) = (0 : Int32) then (0 : Int32) else (1 : Int32))), .val (.int nB), .val (.int da), .val (.int db), .val (.int (p3).toInt32), .val (.int (if ((XT.ushr p1 (19 : Int32)) &&& (1 : Int32)) = (0 : Int32) then ((XT.ushrL p3 (32 : Int32))).toInt32 else (p3).toInt32)), .val (.int (p4).toInt32), .unset, .unset, .unset, .unset, .unset] [(.int (if ((XT.ushr p1 (20 : Int32)) &&& (1 : Int32)) = (0 : Int32) then ((XT.ushrL p4 (32 : Int32))).toInt32 else (p4).toInt32))]) _
    refine XS.istore X0.here hx rfl (hb hby at_168) rfl (l' := #[.val (.int p1), .val (.int p2), .val (.long p3), .second, .val (.long p4), .second, .val (.long p5), .second, .val (.int nA), .val (.int ca), .val (.int cb), .val (.int (if ((XT.ushr p1 (18 : Int32)) &&& (1 : Int32)) = (0 : Int32) then (0 : Int32) else (1 : Int32))), .val (.int (if ((XT.ushr p1 (19 : Int32)) &&& (1 : Int32)) = (0 : Int32) then (0 : Int32) else (1 : Int32))), .val (.int (if ((XT.ushr p1 (20 : Int32)) &&& (1 : Int32)) = (0 : Int32) then (0 : Int32) else (1 : Int32))), .val (.int nB), .val (.int da), .val (.int db), .val (.int (p3).toInt32), .val (.int (if ((XT.ushr p1 (19 : Int32)) &&& (1 : Int32)) = (0 : Int32) then ((XT.ushrL p3 (32 : Int32))).toInt32 else (p3).toInt32)), .val (.int (p4).toInt32), .val (.int (if ((XT.ushr p1 (20 : Int32)) &&& (1 : Int32)) = (0 : Int32) then ((XT.ushrL p4 (32 : Int32))).toInt32 else (p4).toInt32)), .unset, .unset, .unset, .unset]) rfl ?_
    exact k
  generalize (if ((XT.ushr p1 (19 : Int32)) &&& (1 : Int32)) = (0 : Int32) then ((XT.ushrL p3 (32 : Int32))).toInt32 else (p3).toInt32) = sB at pre_19
  generalize (if ((XT.ushr p1 (20 : Int32)) &&& (1 : Int32)) = (0 : Int32) then ((XT.ushrL p4 (32 : Int32))).toInt32 else (p4).toInt32) = fB at pre_19
  generalize (p3).toInt32 = sA at pre_19
  generalize (p4).toInt32 = fA at pre_19
  obtain ⟨T20, h20, X20, e20, E20, A20, D20, -, st20⟩ := newO X0 hx hZ hown (own_w hw 0 rfl) (own_w hw 1 rfl) (own_w hw 2 rfl) e0 (g := (mkF m 170 #[.val (.int p1), .val (.int p2), .val (.long p3), .second, .val (.long p4), .second, .val (.long p5), .second, .val (.int nA), .val (.int ca), .val (.int cb), .val (.int (if ((XT.ushr p1 (18 : Int32)) &&& (1 : Int32)) = (0 : Int32) then (0 : Int32) else (1 : Int32))), .val (.int (if ((XT.ushr p1 (19 : Int32)) &&& (1 : Int32)) = (0 : Int32) then (0 : Int32) else (1 : Int32))), .val (.int (if ((XT.ushr p1 (20 : Int32)) &&& (1 : Int32)) = (0 : Int32) then (0 : Int32) else (1 : Int32))), .val (.int nB), .val (.int da), .val (.int db), .val (.int sA), .val (.int sB), .val (.int fA), .val (.int fB), .unset, .unset, .unset, .unset] [])) rfl (hb hby at_170) (by decide) (by decide)
  obtain ⟨b20, g20⟩ : ∃ z, z = h0.size := ⟨_, rfl⟩
  rw [← g20] at A20 D20 st20
  have O20 : Old Z n0 h20 := O0.ext E20
  have F21 : Fld Z h20 b20 "com/example/vaxwire/vaxwire/hl7/Location" "segment" "Ljava/lang/String;" .null := D20 (Or.inr (own_w hw 39 rfl)) (ty := (.object "java/lang/String")) (by decide)
  have F22 : Fld Z h20 b20 "com/example/vaxwire/vaxwire/hl7/Location" "sequence" "I" (.int (0 : Int32)) := D20 (Or.inr (own_w hw 41 rfl)) (ty := .int) (by decide)
  have F23 : Fld Z h20 b20 "com/example/vaxwire/vaxwire/hl7/Location" "field" "I" (.int (0 : Int32)) := D20 (Or.inr (own_w hw 43 rfl)) (ty := .int) (by decide)
  have F24 : Fld Z h20 b20 "com/example/vaxwire/vaxwire/hl7/Location" "repetition" "I" (.int (0 : Int32)) := D20 (Or.inr (own_w hw 45 rfl)) (ty := .int) (by decide)
  have F25 : Fld Z h20 b20 "com/example/vaxwire/vaxwire/hl7/Location" "component" "I" (.int (0 : Int32)) := D20 (Or.inr (own_w hw 47 rfl)) (ty := .int) (by decide)
  have pre_26 : ∀ t, Sp p e below T20 (mkF m 173 #[.val (.int p1), .val (.int p2), .val (.long p3), .second, .val (.long p4), .second, .val (.long p5), .second, .val (.int nA), .val (.int ca), .val (.int cb), .val (.int (if ((XT.ushr p1 (18 : Int32)) &&& (1 : Int32)) = (0 : Int32) then (0 : Int32) else (1 : Int32))), .val (.int (if ((XT.ushr p1 (19 : Int32)) &&& (1 : Int32)) = (0 : Int32) then (0 : Int32) else (1 : Int32))), .val (.int (if ((XT.ushr p1 (20 : Int32)) &&& (1 : Int32)) = (0 : Int32) then (0 : Int32) else (1 : Int32))), .val (.int nB), .val (.int da), .val (.int db), .val (.int sA), .val (.int sB), .val (.int fA), .val (.int fB), .unset, .unset, .unset, .unset] [(.ref b20)]) t → Steps p.tables e below E0 t := fun t k => pre_19 t (st20 t k)
  have pre_27 : ∀ t, Sp p e below T20 (mkF m 180 #[.val (.int p1), .val (.int p2), .val (.long p3), .second, .val (.long p4), .second, .val (.long p5), .second, .val (.int nA), .val (.int ca), .val (.int cb), .val (.int (if ((XT.ushr p1 (18 : Int32)) &&& (1 : Int32)) = (0 : Int32) then (0 : Int32) else (1 : Int32))), .val (.int (if ((XT.ushr p1 (19 : Int32)) &&& (1 : Int32)) = (0 : Int32) then (0 : Int32) else (1 : Int32))), .val (.int (if ((XT.ushr p1 (20 : Int32)) &&& (1 : Int32)) = (0 : Int32) then (0 : Int32) else (1 : Int32))), .val (.int nB), .val (.int da), .val (.int db), .val (.int sA), .val (.int sB), .val (.int fA), .val (.int fB), .unset, .unset, .unset, .unset] [(.int cb), (.int ca), (.int nA), (.ref b20), (.ref b20)]) t → Steps p.tables e below E0 t := by
    intro t k
    refine pre_26 t ?_
    show Sp p e below T20 (mkF m 173 #[.val (.int p1), .val (.int p2), .val (.long p3), .second, .val (.long p4), .second, .val (.long p5), .second, .val (.int nA), .val (.int ca), .val (.int cb), .val (.int (if ((XT.ushr p1 (18 : Int32)) &&& (1 : Int32)) = (0 : Int32) then (0 : Int32) else (1 : Int32))), .val (.int (if ((XT.ushr p1 (19 : Int32)) &&& (1 : Int32)) = (0 : Int32) then (0 : Int32) else (1 : Int32))), .val (.int (if ((XT.ushr p1 (20 : Int32)) &&& (1 : Int32)) = (0 : Int32) then (0 : Int32) else (1 : Int32))), .val (.int nB), .val (.int da), .val (.int db), .val (.int sA), .val (.int sB), .val (.int fA), .val (.int fB), .unset, .unset, .unset, .unset] [(.ref b20)]) _
    refine XS.dup X20.here hx rfl (hb hby at_173) rfl rfl ?_
    refine XS.iload X20.here hx rfl (hb hby at_174) rfl ?_
    refine XS.iload X20.here hx rfl (hb hby at_176) rfl ?_
    show Sp p e below T20 (mkF m 178 #[.val (.int p1), .val (.int p2), .val (.long p3), .second, .val (.long p4), .second, .val (.long p5), .second, .val (.int nA), .val (.int ca), .val (.int cb), .val (.int (if ((XT.ushr p1 (18 : Int32)) &&& (1 : Int32)) = (0 : Int32) then (0 : Int32) else (1 : Int32))), .val (.int (if ((XT.ushr p1 (19 : Int32)) &&& (1 : Int32)) = (0 : Int32) then (0 : Int32) else (1 : Int32))), .val (.int (if ((XT.ushr p1 (20 : Int32)) &&& (1 : Int32)) = (0 : Int32) then (0 : Int32) else (1 : Int32))), .val (.int nB), .val (.int da), .val (.int db), .val (.int sA), .val (.int sB), .val (.int fA), .val (.int fB), .unset, .unset, .unset, .unset] [(.int ca), (.int nA), (.ref b20), (.ref b20)]) _
    refine XS.iload X20.here hx rfl (hb hby at_178) rfl ?_
    exact k
  obtain ⟨_, _, ⟨T28, L28, k28, n28⟩, -, Y28, hs28, hg28, ⟨Lc28, hQ28, l28, y28, z28⟩, st28⟩ := callSS X20 hx (y := (⟨"com/example/vaxwire/vaxwire/hl7/LocationInFieldOfPinLaw", "str", "(ICC)Ljava/lang/String;"⟩ : MethodName)) hown (mvT hZ (own_w hw 3 rfl)) (mvT hZ (own_w hw 4 rfl)) (mvT hZ (own_w hw 5 rfl)) (mvT hZ (own_w hw 6 rfl)) (by decide) (own_backS (W := 2) (rm_strf l Z a0 hw [] nA ca cb G1 h20 n0 O20 SC hG hHC hCW hnA hca.2 hcb.2 hca.1 hcb.1) hZ (own_w hw 6 rfl) (own_w hw 5 rfl) (by decide) (by decide) (fun _ q => Or.inl (own_IBw hPV q))) (g := (mkF m 180 #[.val (.int p1), .val (.int p2), .val (.long p3), .second, .val (.long p4), .second, .val (.long p5), .second, .val (.int nA), .val (.int ca), .val (.int cb), .val (.int (if ((XT.ushr p1 (18 : Int32)) &&& (1 : Int32)) = (0 : Int32) then (0 : Int32) else (1 : Int32))), .val (.int (if ((XT.ushr p1 (19 : Int32)) &&& (1 : Int32)) = (0 : Int32) then (0 : Int32) else (1 : Int32))), .val (.int (if ((XT.ushr p1 (20 : Int32)) &&& (1 : Int32)) = (0 : Int32) then (0 : Int32) else (1 : Int32))), .val (.int nB), .val (.int da), .val (.int db), .val (.int sA), .val (.int sB), .val (.int fA), .val (.int fB), .unset, .unset, .unset, .unset] [(.int cb), (.int ca), (.int nA), (.ref b20), (.ref b20)])) rfl (by rw [hml]; rfl) (argsL := [(.int nA), (.int ca), (.int cb)]) (rest := [(.ref b20), (.ref b20)]) (lenOf pd_law_0 rfl) rfl (by show 2 * 0 + _ ≤ _; exact Nat.le_of_eq rfl) (hb hby at_180) (fun _ _ => ⟨rfl, e20, (by decide : 1 + 4 ≤ _), (by decide : 5 + 10 ≤ _)⟩)
  dsimp only [Pt.U, Pt.locs, Pt.cells, Pt.slots] at Y28 hs28 hg28 l28 y28 z28 st28 hQ28
  subst l28 y28 z28
  obtain ⟨X28, hS28, hZ28, ho28⟩ := rebS ((State.WarmedH.refl s).since 0) (by rw [e20]; exact (Nat.le_trans (Nat.zero_le _) (Nat.le_trans (Nat.le_refl _) E20.1))) Y28 hs28 hg28 hZ hown
  obtain ⟨a28, b28, kB28, rfl, N28q, K28, sa28, Ea28, Fc28, Fv28, Ab28, hLL28⟩ := hQ28
  have N28 := Fr.app N0 N28q
  have O28 : Old Z n0 T28.heap := O20.keep K28 all0
  have pre_29 : ∀ t, Sp p e below T28 (mkF m 183 #[.val (.int p1), .val (.int p2), .val (.long p3), .second, .val (.long p4), .second, .val (.long p5), .second, .val (.int nA), .val (.int ca), .val (.int cb), .val (.int (if ((XT.ushr p1 (18 : Int32)) &&& (1 : Int32)) = (0 : Int32) then (0 : Int32) else (1 : Int32))), .val (.int (if ((XT.ushr p1 (19 : Int32)) &&& (1 : Int32)) = (0 : Int32) then (0 : Int32) else (1 : Int32))), .val (.int (if ((XT.ushr p1 (20 : Int32)) &&& (1 : Int32)) = (0 : Int32) then (0 : Int32) else (1 : Int32))), .val (.int nB), .val (.int da), .val (.int db), .val (.int sA), .val (.int sB), .val (.int fA), .val (.int fB), .unset, .unset, .unset, .unset] [(.ref a28), (.ref b20), (.ref b20)]) t → Steps p.tables e below E0 t := fun t k => pre_27 t (st28.trans k)
  rcases hLL28 with I0 | ⟨aE, bE, kE, xE, vE, cE, AE, hL⟩
  · skip
    have pre_30 : ∀ t, Sp p e below T28 (mkF m 196 #[.val (.int p1), .val (.int p2), .val (.long p3), .second, .val (.long p4), .second, .val (.long p5), .second, .val (.int nA), .val (.int ca), .val (.int cb), .val (.int (if ((XT.ushr p1 (18 : Int32)) &&& (1 : Int32)) = (0 : Int32) then (0 : Int32) else (1 : Int32))), .val (.int (if ((XT.ushr p1 (19 : Int32)) &&& (1 : Int32)) = (0 : Int32) then (0 : Int32) else (1 : Int32))), .val (.int (if ((XT.ushr p1 (20 : Int32)) &&& (1 : Int32)) = (0 : Int32) then (0 : Int32) else (1 : Int32))), .val (.int nB), .val (.int da), .val (.int db), .val (.int sA), .val (.int sB), .val (.int fA), .val (.int fB), .unset, .unset, .unset, .unset] [(.int ((XT.ushrL p5 (32 : Int32))).toInt32), (.int (p5).toInt32), (.int fA), (.int sA), (.ref a28), (.ref b20), (.ref b20)]) t → Steps p.tables e below E0 t := by
      intro t k
      refine pre_29 t ?_
      show Sp p e below T28 (mkF m 183 #[.val (.int p1), .val (.int p2), .val (.long p3), .second, .val (.long p4), .second, .val (.long p5), .second, .val (.int nA), .val (.int ca), .val (.int cb), .val (.int (if ((XT.ushr p1 (18 : Int32)) &&& (1 : Int32)) = (0 : Int32) then (0 : Int32) else (1 : Int32))), .val (.int (if ((XT.ushr p1 (19 : Int32)) &&& (1 : Int32)) = (0 : Int32) then (0 : Int32) else (1 : Int32))), .val (.int (if ((XT.ushr p1 (20 : Int32)) &&& (1 : Int32)) = (0 : Int32) then (0 : Int32) else (1 : Int32))), .val (.int nB), .val (.int da), .val (.int db), .val (.int sA), .val (.int sB), .val (.int fA), .val (.int fB), .unset, .unset, .unset, .unset] [(.ref a28), (.ref b20), (.ref b20)]) _
      refine XS.iload X28.here hx rfl (hb hby at_183) rfl ?_
      refine XS.iload X28.here hx rfl (hb hby at_185) rfl ?_
      refine XT.lload X28.here hx rfl (hb hby at_187) rfl ?_
      show Sp p e below T28 (mkF m 189 #[.val (.int p1), .val (.int p2), .val (.long p3), .second, .val (.long p4), .second, .val (.long p5), .second, .val (.int nA), .val (.int ca), .val (.int cb), .val (.int (if ((XT.ushr p1 (18 : Int32)) &&& (1 : Int32)) = (0 : Int32) then (0 : Int32) else (1 : Int32))), .val (.int (if ((XT.ushr p1 (19 : Int32)) &&& (1 : Int32)) = (0 : Int32) then (0 : Int32) else (1 : Int32))), .val (.int (if ((XT.ushr p1 (20 : Int32)) &&& (1 : Int32)) = (0 : Int32) then (0 : Int32) else (1 : Int32))), .val (.int nB), .val (.int da), .val (.int db), .val (.int sA), .val (.int sB), .val (.int fA), .val (.int fB), .unset, .unset, .unset, .unset] [(.long p5), (.int fA), (.int sA), (.ref a28), (.ref b20), (.ref b20)]) _
      refine XT.l2i X28.here hx rfl (hb hby at_189) rfl ?_
      refine XT.lload X28.here hx rfl (hb hby at_190) rfl ?_
      refine XS.bipush X28.here hx rfl (hb hby at_192) ?_
      refine XT.lushr X28.here hx rfl (hb hby at_194) rfl ?_
      show Sp p e below T28 (mkF m 195 #[.val (.int p1), .val (.int p2), .val (.long p3), .second, .val (.long p4), .second, .val (.long p5), .second, .val (.int nA), .val (.int ca), .val (.int cb), .val (.int (if ((XT.ushr p1 (18 : Int32)) &&& (1 : Int32)) = (0 : Int32) then (0 : Int32) else (1 : Int32))), .val (.int (if ((XT.ushr p1 (19 : Int32)) &&& (1 : Int32)) = (0 : Int32) then (0 : Int32) else (1 : Int32))), .val (.int (if ((XT.ushr p1 (20 : Int32)) &&& (1 : Int32)) = (0 : Int32) then (0 : Int32) else (1 : Int32))), .val (.int nB), .val (.int da), .val (.int db), .val (.int sA), .val (.int sB), .val (.int fA), .val (.int fB), .unset, .unset, .unset, .unset] [(.long (XT.ushrL p5 (32 : Int32))), (.int (p5).toInt32), (.int fA), (.int sA), (.ref a28), (.ref b20), (.ref b20)]) _
      refine XT.l2i X28.here hx rfl (hb hby at_195) rfl ?_
      exact k
    obtain ⟨_, _, ⟨T31, L31, k31, n31⟩, -, X31, ⟨Lc31, hQ31, l31, y31, z31⟩, st31⟩ := X28.specialBack hx (y := (⟨"com/example/vaxwire/vaxwire/hl7/Location", "<init>", "(Ljava/lang/String;IIII)V"⟩ : MethodName)) rfl ho28 (mvT hZ28 (own_w hw 29 rfl)) (mvT hZ28 (own_w hw 30 rfl)) (mvT hZ28 (own_w hw 31 rfl)) (by decide) (backOf (W := 1) (rm_ini l Z a0 hw [] b20 a28 sA fA (p5).toInt32 ((XT.ushrL p5 (32 : Int32))).toInt32 .null (.int (0 : Int32)) (.int (0 : Int32)) (.int (0 : Int32)) (.int (0 : Int32)) T28.heap n0 O28 (A20.keep K28) (F21.keep K28 nin0) (F22.keep K28 nin0) (F23.keep K28 nin0) (F24.keep K28 nin0) (F25.keep K28 nin0) (Nat.le_trans (own_le O0) (Nat.le_of_eq g20.symm))) hZ28 (own_w hw 31 rfl) (own_w hw 2 rfl) (by decide) (by decide)) (g := (mkF m 196 #[.val (.int p1), .val (.int p2), .val (.long p3), .second, .val (.long p4), .second, .val (.long p5), .second, .val (.int nA), .val (.int ca), .val (.int cb), .val (.int (if ((XT.ushr p1 (18 : Int32)) &&& (1 : Int32)) = (0 : Int32) then (0 : Int32) else (1 : Int32))), .val (.int (if ((XT.ushr p1 (19 : Int32)) &&& (1 : Int32)) = (0 : Int32) then (0 : Int32) else (1 : Int32))), .val (.int (if ((XT.ushr p1 (20 : Int32)) &&& (1 : Int32)) = (0 : Int32) then (0 : Int32) else (1 : Int32))), .val (.int nB), .val (.int da), .val (.int db), .val (.int sA), .val (.int sB), .val (.int fA), .val (.int fB), .unset, .unset, .unset, .unset] [(.int ((XT.ushrL p5 (32 : Int32))).toInt32), (.int (p5).toInt32), (.int fA), (.int sA), (.ref a28), (.ref b20), (.ref b20)])) rfl (by rw [hml]; rfl) (Steps.refl _) (a := b20) (argsL := [(.ref a28), (.int sA), (.int fA), (.int (p5).toInt32), (.int ((XT.ushrL p5 (32 : Int32))).toInt32)]) (rest := [(.ref b20)]) (lenOf pd_law_1 rfl) rfl (by show 2 * 0 + _ ≤ _; exact Nat.le_of_eq rfl) (hb hby at_196) (fun _ _ => ⟨rfl, rfl, (by decide : 5 + 0 ≤ _), (by decide : 15 + 0 ≤ _)⟩)
    dsimp only [Pt.U, Pt.locs, Pt.cells, Pt.slots] at X31 l31 y31 z31 st31 hQ31
    subst l31 y31 z31
    obtain ⟨rfl, N31q, K31, Fa31, Fb31, Fd31⟩ := hQ31
    have N31 := Fr.app N28 N31q
    have O31 : Old Z n0 T31.heap := O28.keep K31 (allS (Nat.le_trans (own_le O0) (Nat.le_of_eq g20.symm)) all0)
    have pre_32 : ∀ t, Sp p e below T31 (mkF m 199 #[.val (.int p1), .val (.int p2), .val (.long p3), .second, .val (.long p4), .second, .val (.long p5), .second, .val (.int nA), .val (.int ca), .val (.int cb), .val (.int (if ((XT.ushr p1 (18 : Int32)) &&& (1 : Int32)) = (0 : Int32) then (0 : Int32) else (1 : Int32))), .val (.int (if ((XT.ushr p1 (19 : Int32)) &&& (1 : Int32)) = (0 : Int32) then (0 : Int32) else (1 : Int32))), .val (.int (if ((XT.ushr p1 (20 : Int32)) &&& (1 : Int32)) = (0 : Int32) then (0 : Int32) else (1 : Int32))), .val (.int nB), .val (.int da), .val (.int db), .val (.int sA), .val (.int sB), .val (.int fA), .val (.int fB), .unset, .unset, .unset, .unset] [(.ref b20)]) t → Steps p.tables e below E0 t := fun t k => pre_30 t (st31.trans k)
    have pre_33 : ∀ t, Sp p e below T31 (mkF m 201 #[.val (.int p1), .val (.int p2), .val (.long p3), .second, .val (.long p4), .second, .val (.long p5), .second, .val (.int nA), .val (.int ca), .val (.int cb), .val (.int (if ((XT.ushr p1 (18 : Int32)) &&& (1 : Int32)) = (0 : Int32) then (0 : Int32) else (1 : Int32))), .val (.int (if ((XT.ushr p1 (19 : Int32)) &&& (1 : Int32)) = (0 : Int32) then (0 : Int32) else (1 : Int32))), .val (.int (if ((XT.ushr p1 (20 : Int32)) &&& (1 : Int32)) = (0 : Int32) then (0 : Int32) else (1 : Int32))), .val (.int nB), .val (.int da), .val (.int db), .val (.int sA), .val (.int sB), .val (.int fA), .val (.int fB), .val (.ref b20), .unset, .unset, .unset] []) t → Steps p.tables e below E0 t := by
      intro t k
      refine pre_32 t ?_
      show Sp p e below T31 (mkF m 199 #[.val (.int p1), .val (.int p2), .val (.long p3), .second, .val (.long p4), .second, .val (.long p5), .second, .val (.int nA), .val (.int ca), .val (.int cb), .val (.int (if ((XT.ushr p1 (18 : Int32)) &&& (1 : Int32)) = (0 : Int32) then (0 : Int32) else (1 : Int32))), .val (.int (if ((XT.ushr p1 (19 : Int32)) &&& (1 : Int32)) = (0 : Int32) then (0 : Int32) else (1 : Int32))), .val (.int (if ((XT.ushr p1 (20 : Int32)) &&& (1 : Int32)) = (0 : Int32) then (0 : Int32) else (1 : Int32))), .val (.int nB), .val (.int da), .val (.int db), .val (.int sA), .val (.int sB), .val (.int fA), .val (.int fB), .unset, .unset, .unset, .unset] [(.ref b20)]) _
      refine XS.astore X31.here hx rfl (hb hby at_199) rfl rfl (l' := #[.val (.int p1), .val (.int p2), .val (.long p3), .second, .val (.long p4), .second, .val (.long p5), .second, .val (.int nA), .val (.int ca), .val (.int cb), .val (.int (if ((XT.ushr p1 (18 : Int32)) &&& (1 : Int32)) = (0 : Int32) then (0 : Int32) else (1 : Int32))), .val (.int (if ((XT.ushr p1 (19 : Int32)) &&& (1 : Int32)) = (0 : Int32) then (0 : Int32) else (1 : Int32))), .val (.int (if ((XT.ushr p1 (20 : Int32)) &&& (1 : Int32)) = (0 : Int32) then (0 : Int32) else (1 : Int32))), .val (.int nB), .val (.int da), .val (.int db), .val (.int sA), .val (.int sB), .val (.int fA), .val (.int fB), .val (.ref b20), .unset, .unset, .unset]) rfl ?_
      exact k
    obtain ⟨T34, h34, X34, e34, E34, A34, D34, -, st34⟩ := newO X31 hx hZ28 ho28 (own_w hw 0 rfl) (own_w hw 1 rfl) (own_w hw 2 rfl) rfl (g := (mkF m 201 #[.val (.int p1), .val (.int p2), .val (.long p3), .second, .val (.long p4), .second, .val (.long p5), .second, .val (.int nA), .val (.int ca), .val (.int cb), .val (.int (if ((XT.ushr p1 (18 : Int32)) &&& (1 : Int32)) = (0 : Int32) then (0 : Int32) else (1 : Int32))), .val (.int (if ((XT.ushr p1 (19 : Int32)) &&& (1 : Int32)) = (0 : Int32) then (0 : Int32) else (1 : Int32))), .val (.int (if ((XT.ushr p1 (20 : Int32)) &&& (1 : Int32)) = (0 : Int32) then (0 : Int32) else (1 : Int32))), .val (.int nB), .val (.int da), .val (.int db), .val (.int sA), .val (.int sB), .val (.int fA), .val (.int fB), .val (.ref b20), .unset, .unset, .unset] [])) rfl (hb hby at_201) (by decide) (by decide)
    obtain ⟨b34, g34⟩ : ∃ z, z = T31.heap.size := ⟨_, rfl⟩
    rw [← g34] at A34 D34 st34
    have O34 : Old Z n0 h34 := O31.ext E34
    have F35 : Fld Z h34 b34 "com/example/vaxwire/vaxwire/hl7/Location" "segment" "Ljava/lang/String;" .null := D34 (Or.inr (own_w hw 39 rfl)) (ty := (.object "java/lang/String")) (by decide)
    have F36 : Fld Z h34 b34 "com/example/vaxwire/vaxwire/hl7/Location" "sequence" "I" (.int (0 : Int32)) := D34 (Or.inr (own_w hw 41 rfl)) (ty := .int) (by decide)
    have F37 : Fld Z h34 b34 "com/example/vaxwire/vaxwire/hl7/Location" "field" "I" (.int (0 : Int32)) := D34 (Or.inr (own_w hw 43 rfl)) (ty := .int) (by decide)
    have F38 : Fld Z h34 b34 "com/example/vaxwire/vaxwire/hl7/Location" "repetition" "I" (.int (0 : Int32)) := D34 (Or.inr (own_w hw 45 rfl)) (ty := .int) (by decide)
    have F39 : Fld Z h34 b34 "com/example/vaxwire/vaxwire/hl7/Location" "component" "I" (.int (0 : Int32)) := D34 (Or.inr (own_w hw 47 rfl)) (ty := .int) (by decide)
    have pre_40 : ∀ t, Sp p e below T34 (mkF m 204 #[.val (.int p1), .val (.int p2), .val (.long p3), .second, .val (.long p4), .second, .val (.long p5), .second, .val (.int nA), .val (.int ca), .val (.int cb), .val (.int (if ((XT.ushr p1 (18 : Int32)) &&& (1 : Int32)) = (0 : Int32) then (0 : Int32) else (1 : Int32))), .val (.int (if ((XT.ushr p1 (19 : Int32)) &&& (1 : Int32)) = (0 : Int32) then (0 : Int32) else (1 : Int32))), .val (.int (if ((XT.ushr p1 (20 : Int32)) &&& (1 : Int32)) = (0 : Int32) then (0 : Int32) else (1 : Int32))), .val (.int nB), .val (.int da), .val (.int db), .val (.int sA), .val (.int sB), .val (.int fA), .val (.int fB), .val (.ref b20), .unset, .unset, .unset] [(.ref b34)]) t → Steps p.tables e below E0 t := fun t k => pre_33 t (st34 t k)
    have pre_41 : ∀ t, Sp p e below T34 (mkF m 211 #[.val (.int p1), .val (.int p2), .val (.long p3), .second, .val (.long p4), .second, .val (.long p5), .second, .val (.int nA), .val (.int ca), .val (.int cb), .val (.int (if ((XT.ushr p1 (18 : Int32)) &&& (1 : Int32)) = (0 : Int32) then (0 : Int32) else (1 : Int32))), .val (.int (if ((XT.ushr p1 (19 : Int32)) &&& (1 : Int32)) = (0 : Int32) then (0 : Int32) else (1 : Int32))), .val (.int (if ((XT.ushr p1 (20 : Int32)) &&& (1 : Int32)) = (0 : Int32) then (0 : Int32) else (1 : Int32))), .val (.int nB), .val (.int da), .val (.int db), .val (.int sA), .val (.int sB), .val (.int fA), .val (.int fB), .val (.ref b20), .unset, .unset, .unset] [(.int db), (.int da), (.int nB), (.ref b34), (.ref b34)]) t → Steps p.tables e below E0 t := by
      intro t k
      refine pre_40 t ?_
      show Sp p e below T34 (mkF m 204 #[.val (.int p1), .val (.int p2), .val (.long p3), .second, .val (.long p4), .second, .val (.long p5), .second, .val (.int nA), .val (.int ca), .val (.int cb), .val (.int (if ((XT.ushr p1 (18 : Int32)) &&& (1 : Int32)) = (0 : Int32) then (0 : Int32) else (1 : Int32))), .val (.int (if ((XT.ushr p1 (19 : Int32)) &&& (1 : Int32)) = (0 : Int32) then (0 : Int32) else (1 : Int32))), .val (.int (if ((XT.ushr p1 (20 : Int32)) &&& (1 : Int32)) = (0 : Int32) then (0 : Int32) else (1 : Int32))), .val (.int nB), .val (.int da), .val (.int db), .val (.int sA), .val (.int sB), .val (.int fA), .val (.int fB), .val (.ref b20), .unset, .unset, .unset] [(.ref b34)]) _
      refine XS.dup X34.here hx rfl (hb hby at_204) rfl rfl ?_
      refine XS.iload X34.here hx rfl (hb hby at_205) rfl ?_
      show Sp p e below T34 (mkF m 207 #[.val (.int p1), .val (.int p2), .val (.long p3), .second, .val (.long p4), .second, .val (.long p5), .second, .val (.int nA), .val (.int ca), .val (.int cb), .val (.int (if ((XT.ushr p1 (18 : Int32)) &&& (1 : Int32)) = (0 : Int32) then (0 : Int32) else (1 : Int32))), .val (.int (if ((XT.ushr p1 (19 : Int32)) &&& (1 : Int32)) = (0 : Int32) then (0 : Int32) else (1 : Int32))), .val (.int (if ((XT.ushr p1 (20 : Int32)) &&& (1 : Int32)) = (0 : Int32) then (0 : Int32) else (1 : Int32))), .val (.int nB), .val (.int da), .val (.int db), .val (.int sA), .val (.int sB), .val (.int fA), .val (.int fB), .val (.ref b20), .unset, .unset, .unset] [(.int nB), (.ref b34), (.ref b34)]) _
      refine XS.iload X34.here hx rfl (hb hby at_207) rfl ?_
      refine XS.iload X34.here hx rfl (hb hby at_209) rfl ?_
      exact k
    obtain ⟨_, _, ⟨T42, L42, k42, n42⟩, -, Y42, hs42, hg42, ⟨Lc42, hQ42, l42, y42, z42⟩, st42⟩ := callSS X34 hx (y := (⟨"com/example/vaxwire/vaxwire/hl7/LocationInFieldOfPinLaw", "str", "(ICC)Ljava/lang/String;"⟩ : MethodName)) ho28 (mvT hZ28 (own_w hw 3 rfl)) (mvT hZ28 (own_w hw 4 rfl)) (mvT hZ28 (own_w hw 5 rfl)) (mvT hZ28 (own_w hw 6 rfl)) (by decide) (own_backS (W := 2) (rm_strf l Z a0 hw [] nB da db G1 h34 n0 O34 SC hG hHC hCW hnB hda.2 hdb.2 hda.1 hdb.1) hZ28 (own_w hw 6 rfl) (own_w hw 5 rfl) (by decide) (by decide) (fun _ q => Or.inl (own_IBw I0 q))) (g := (mkF m 211 #[.val (.int p1), .val (.int p2), .val (.long p3), .second, .val (.long p4), .second, .val (.long p5), .second, .val (.int nA), .val (.int ca), .val (.int cb), .val (.int (if ((XT.ushr p1 (18 : Int32)) &&& (1 : Int32)) = (0 : Int32) then (0 : Int32) else (1 : Int32))), .val (.int (if ((XT.ushr p1 (19 : Int32)) &&& (1 : Int32)) = (0 : Int32) then (0 : Int32) else (1 : Int32))), .val (.int (if ((XT.ushr p1 (20 : Int32)) &&& (1 : Int32)) = (0 : Int32) then (0 : Int32) else (1 : Int32))), .val (.int nB), .val (.int da), .val (.int db), .val (.int sA), .val (.int sB), .val (.int fA), .val (.int fB), .val (.ref b20), .unset, .unset, .unset] [(.int db), (.int da), (.int nB), (.ref b34), (.ref b34)])) rfl (by rw [hml]; rfl) (argsL := [(.int nB), (.int da), (.int db)]) (rest := [(.ref b34), (.ref b34)]) (lenOf pd_law_0 rfl) rfl (by show 2 * 0 + _ ≤ _; exact Nat.le_of_eq rfl) (hb hby at_211) (fun _ _ => ⟨rfl, e34, (by decide : 6 + 4 ≤ _), (by decide : 20 + 10 ≤ _)⟩)
    dsimp only [Pt.U, Pt.locs, Pt.cells, Pt.slots] at Y42 hs42 hg42 l42 y42 z42 st42 hQ42
    subst l42 y42 z42
    obtain ⟨X42, hS42, hZ42, ho42⟩ := rebS hS28 (by rw [e34]; exact (Nat.le_trans (Nat.le_refl _) (Nat.le_trans (Nat.le_trans (Nat.le_refl _) K31.1) E34.1))) Y42 hs42 hg42 hZ28 ho28
    obtain ⟨a42, b42, kB42, rfl, N42q, K42, sa42, Ea42, Fc42, Fv42, Ab42, hLL42⟩ := hQ42
    have N42 := Fr.app N31 N42q
    have O42 : Old Z n0 T42.heap := O34.keep K42 all0
    have pre_43 : ∀ t, Sp p e below T42 (mkF m 214 #[.val (.int p1), .val (.int p2), .val (.long p3), .second, .val (.long p4), .second, .val (.long p5), .second, .val (.int nA), .val (.int ca), .val (.int cb), .val (.int (if ((XT.ushr p1 (18 : Int32)) &&& (1 : Int32)) = (0 : Int32) then (0 : Int32) else (1 : Int32))), .val (.int (if ((XT.ushr p1 (19 : Int32)) &&& (1 : Int32)) = (0 : Int32) then (0 : Int32) else (1 : Int32))), .val (.int (if ((XT.ushr p1 (20 : Int32)) &&& (1 : Int32)) = (0 : Int32) then (0 : Int32) else (1 : Int32))), .val (.int nB), .val (.int da), .val (.int db), .val (.int sA), .val (.int sB), .val (.int fA), .val (.int fB), .val (.ref b20), .unset, .unset, .unset] [(.ref a42), (.ref b34), (.ref b34)]) t → Steps p.tables e below E0 t := fun t k => pre_41 t (st42.trans k)
    have pre_44 : ∀ t, Sp p e below T42 (mkF m 220 #[.val (.int p1), .val (.int p2), .val (.long p3), .second, .val (.long p4), .second, .val (.long p5), .second, .val (.int nA), .val (.int ca), .val (.int cb), .val (.int (if ((XT.ushr p1 (18 : Int32)) &&& (1 : Int32)) = (0 : Int32) then (0 : Int32) else (1 : Int32))), .val (.int (if ((XT.ushr p1 (19 : Int32)) &&& (1 : Int32)) = (0 : Int32) then (0 : Int32) else (1 : Int32))), .val (.int (if ((XT.ushr p1 (20 : Int32)) &&& (1 : Int32)) = (0 : Int32) then (0 : Int32) else (1 : Int32))), .val (.int nB), .val (.int da), .val (.int db), .val (.int sA), .val (.int sB), .val (.int fA), .val (.int fB), .val (.ref b20), .unset, .unset, .unset] [(.int (0 : Int32)), (.int (0 : Int32)), (.int fB), (.int sB), (.ref a42), (.ref b34), (.ref b34)]) t → Steps p.tables e below E0 t := by
      intro t k
      refine pre_43 t ?_
      show Sp p e below T42 (mkF m 214 #[.val (.int p1), .val (.int p2), .val (.long p3), .second, .val (.long p4), .second, .val (.long p5), .second, .val (.int nA), .val (.int ca), .val (.int cb), .val (.int (if ((XT.ushr p1 (18 : Int32)) &&& (1 : Int32)) = (0 : Int32) then (0 : Int32) else (1 : Int32))), .val (.int (if ((XT.ushr p1 (19 : Int32)) &&& (1 : Int32)) = (0 : Int32) then (0 : Int32) else (1 : Int32))), .val (.int (if ((XT.ushr p1 (20 : Int32)) &&& (1 : Int32)) = (0 : Int32) then (0 : Int32) else (1 : Int32))), .val (.int nB), .val (.int da), .val (.int db), .val (.int sA), .val (.int sB), .val (.int fA), .val (.int fB), .val (.ref b20), .unset, .unset, .unset] [(.ref a42), (.ref b34), (.ref b34)]) _
      refine XS.iload X42.here hx rfl (hb hby at_214) rfl ?_
      refine XS.iload X42.here hx rfl (hb hby at_216) rfl ?_
      show Sp p e below T42 (mkF m 218 #[.val (.int p1), .val (.int p2), .val (.long p3), .second, .val (.long p4), .second, .val (.long p5), .second, .val (.int nA), .val (.int ca), .val (.int cb), .val (.int (if ((XT.ushr p1 (18 : Int32)) &&& (1 : Int32)) = (0 : Int32) then (0 : Int32) else (1 : Int32))), .val (.int (if ((XT.ushr p1 (19 : Int32)) &&& (1 : Int32)) = (0 : Int32) then (0 : Int32) else (1 : Int32))), .val (.int (if ((XT.ushr p1 (20 : Int32)) &&& (1 : Int32)) = (0 : Int32) then (0 : Int32) else (1 : Int32))), .val (.int nB), .val (.int da), .val (.int db), .val (.int sA), .val (.int sB), .val (.int fA), .val (.int fB), .val (.ref b20), .unset, .unset, .unset] [(.int fB), (.int sB), (.ref a42), (.ref b34), (.ref b34)]) _
      refine XS.iconst X42.here hx rfl (hb hby at_218) ?_
      refine XS.iconst X42.here hx rfl (hb hby at_219) ?_
      exact k
    obtain ⟨_, _, ⟨T45, L45, k45, n45⟩, -, X45, ⟨Lc45, hQ45, l45, y45, z45⟩, st45⟩ := X42.specialBack hx (y := (⟨"com/example/vaxwire/vaxwire/hl7/Location", "<init>", "(Ljava/lang/String;IIII)V"⟩ : MethodName)) rfl ho42 (mvT hZ42 (own_w hw 29 rfl)) (mvT hZ42 (own_w hw 30 rfl)) (mvT hZ42 (own_w hw 31 rfl)) (by decide) (backOf (W := 1) (rm_ini l Z a0 hw [] b34 a42 sB fB (0 : Int32) (0 : Int32) .null (.int (0 : Int32)) (.int (0 : Int32)) (.int (0 : Int32)) (.int (0 : Int32)) T42.heap n0 O42 (A34.keep K42) (F35.keep K42 nin0) (F36.keep K42 nin0) (F37.keep K42 nin0) (F38.keep K42 nin0) (F39.keep K42 nin0) (Nat.le_trans (own_le O31) (Nat.le_of_eq g34.symm))) hZ42 (own_w hw 31 rfl) (own_w hw 2 rfl) (by decide) (by decide)) (g := (mkF m 220 #[.val (.int p1), .val (.int p2), .val (.long p3), .second, .val (.long p4), .second, .val (.long p5), .second, .val (.int nA), .val (.int ca), .val (.int cb), .val (.int (if ((XT.ushr p1 (18 : Int32)) &&& (1 : Int32)) = (0 : Int32) then (0 : Int32) else (1 : Int32))), .val (.int (if ((XT.ushr p1 (19 : Int32)) &&& (1 : Int32)) = (0 : Int32) then (0 : Int32) else (1 : Int32))), .val (.int (if ((XT.ushr p1 (20 : Int32)) &&& (1 : Int32)) = (0 : Int32) then (0 : Int32) else (1 : Int32))), .val (.int nB), .val (.int da), .val (.int db), .val (.int sA), .val (.int sB), .val (.int fA), .val (.int fB), .val (.ref b20), .unset, .unset, .unset] [(.int (0 : Int32)), (.int (0 : Int32)), (.int fB), (.int sB), (.ref a42), (.ref b34), (.ref b34)])) rfl (by rw [hml]; rfl) (Steps.refl _) (a := b34) (argsL := [(.ref a42), (.int sB), (.int fB), (.int (0 : Int32)), (.int (0 : Int32))]) (rest := [(.ref b34)]) (lenOf pd_law_1 rfl) rfl (by show 2 * 0 + _ ≤ _; exact Nat.le_of_eq rfl) (hb hby at_220) (fun _ _ => ⟨rfl, rfl, (by decide : 10 + 0 ≤ _), (by decide : 30 + 0 ≤ _)⟩)
    dsimp only [Pt.U, Pt.locs, Pt.cells, Pt.slots] at X45 l45 y45 z45 st45 hQ45
    subst l45 y45 z45
    obtain ⟨rfl, N45q, K45, Fa45, Fb45, Fd45⟩ := hQ45
    have N45 := Fr.app N42 N45q
    have O45 : Old Z n0 T45.heap := O42.keep K45 (allS (Nat.le_trans (own_le O31) (Nat.le_of_eq g34.symm)) all0)
    have pre_46 : ∀ t, Sp p e below T45 (mkF m 223 #[.val (.int p1), .val (.int p2), .val (.long p3), .second, .val (.long p4), .second, .val (.long p5), .second, .val (.int nA), .val (.int ca), .val (.int cb), .val (.int (if ((XT.ushr p1 (18 : Int32)) &&& (1 : Int32)) = (0 : Int32) then (0 : Int32) else (1 : Int32))), .val (.int (if ((XT.ushr p1 (19 : Int32)) &&& (1 : Int32)) = (0 : Int32) then (0 : Int32) else (1 : Int32))), .val (.int (if ((XT.ushr p1 (20 : Int32)) &&& (1 : Int32)) = (0 : Int32) then (0 : Int32) else (1 : Int32))), .val (.int nB), .val (.int da), .val (.int db), .val (.int sA), .val (.int sB), .val (.int fA), .val (.int fB), .val (.ref b20), .unset, .unset, .unset] [(.ref b34)]) t → Steps p.tables e below E0 t := fun t k => pre_44 t (st45.trans k)
    have pre_47 : ∀ t, Sp p e below T45 (mkF m 229 #[.val (.int p1), .val (.int p2), .val (.long p3), .second, .val (.long p4), .second, .val (.long p5), .second, .val (.int nA), .val (.int ca), .val (.int cb), .val (.int (if ((XT.ushr p1 (18 : Int32)) &&& (1 : Int32)) = (0 : Int32) then (0 : Int32) else (1 : Int32))), .val (.int (if ((XT.ushr p1 (19 : Int32)) &&& (1 : Int32)) = (0 : Int32) then (0 : Int32) else (1 : Int32))), .val (.int (if ((XT.ushr p1 (20 : Int32)) &&& (1 : Int32)) = (0 : Int32) then (0 : Int32) else (1 : Int32))), .val (.int nB), .val (.int da), .val (.int db), .val (.int sA), .val (.int sB), .val (.int fA), .val (.int fB), .val (.ref b20), .val (.ref b34), .unset, .unset] [(.int nB), (.int nA)]) t → Steps p.tables e below E0 t := by
      intro t k
      refine pre_46 t ?_
      show Sp p e below T45 (mkF m 223 #[.val (.int p1), .val (.int p2), .val (.long p3), .second, .val (.long p4), .second, .val (.long p5), .second, .val (.int nA), .val (.int ca), .val (.int cb), .val (.int (if ((XT.ushr p1 (18 : Int32)) &&& (1 : Int32)) = (0 : Int32) then (0 : Int32) else (1 : Int32))), .val (.int (if ((XT.ushr p1 (19 : Int32)) &&& (1 : Int32)) = (0 : Int32) then (0 : Int32) else (1 : Int32))), .val (.int (if ((XT.ushr p1 (20 : Int32)) &&& (1 : Int32)) = (0 : Int32) then (0 : Int32) else (1 : Int32))), .val (.int nB), .val (.int da), .val (.int db), .val (.int sA), .val (.int sB), .val (.int fA), .val (.int fB), .val (.ref b20), .unset, .unset, .unset] [(.ref b34)]) _
      refine XS.astore X45.here hx rfl (hb hby at_223) rfl rfl (l' := #[.val (.int p1), .val (.int p2), .val (.long p3), .second, .val (.long p4), .second, .val (.long p5), .second, .val (.int nA), .val (.int ca), .val (.int cb), .val (.int (if ((XT.ushr p1 (18 : Int32)) &&& (1 : Int32)) = (0 : Int32) then (0 : Int32) else (1 : Int32))), .val (.int (if ((XT.ushr p1 (19 : Int32)) &&& (1 : Int32)) = (0 : Int32) then (0 : Int32) else (1 : Int32))), .val (.int (if ((XT.ushr p1 (20 : Int32)) &&& (1 : Int32)) = (0 : Int32) then (0 : Int32) else (1 : Int32))), .val (.int nB), .val (.int da), .val (.int db), .val (.int sA), .val (.int sB), .val (.int fA), .val (.int fB), .val (.ref b20), .val (.ref b34), .unset, .unset]) rfl ?_
      refine XS.iload X45.here hx rfl (hb hby at_225) rfl ?_
      show Sp p e below T45 (mkF m 227 #[.val (.int p1), .val (.int p2), .val (.long p3), .second, .val (.long p4), .second, .val (.long p5), .second, .val (.int nA), .val (.int ca), .val (.int cb), .val (.int (if ((XT.ushr p1 (18 : Int32)) &&& (1 : Int32)) = (0 : Int32) then (0 : Int32) else (1 : Int32))), .val (.int (if ((XT.ushr p1 (19 : Int32)) &&& (1 : Int32)) = (0 : Int32) then (0 : Int32) else (1 : Int32))), .val (.int (if ((XT.ushr p1 (20 : Int32)) &&& (1 : Int32)) = (0 : Int32) then (0 : Int32) else (1 : Int32))), .val (.int nB), .val (.int da), .val (.int db), .val (.int sA), .val (.int sB), .val (.int fA), .val (.int fB), .val (.ref b20), .val (.ref b34), .unset, .unset] [(.int nA)]) _
      refine XS.iload X45.here hx rfl (hb hby at_227) rfl ?_
      exact k
    have pre_55 : ∀ t, Sp p e below T45 (mkF m 263 #[.val (.int p1), .val (.int p2), .val (.long p3), .second, .val (.long p4), .second, .val (.long p5), .second, .val (.int nA), .val (.int ca), .val (.int cb), .val (.int (if ((XT.ushr p1 (18 : Int32)) &&& (1 : Int32)) = (0 : Int32) then (0 : Int32) else (1 : Int32))), .val (.int (if ((XT.ushr p1 (19 : Int32)) &&& (1 : Int32)) = (0 : Int32) then (0 : Int32) else (1 : Int32))), .val (.int (if ((XT.ushr p1 (20 : Int32)) &&& (1 : Int32)) = (0 : Int32) then (0 : Int32) else (1 : Int32))), .val (.int nB), .val (.int da), .val (.int db), .val (.int sA), .val (.int sB), .val (.int fA), .val (.int fB), .val (.ref b20), .val (.ref b34), .unset, .unset] [(.int (if nA = nB then (if nA < (1 : Int32) then (if nA < (2 : Int32) then (1 : Int32) else (if cb = db then (1 : Int32) else (0 : Int32))) else (if ca = da then (if nA < (2 : Int32) then (1 : Int32) else (if cb = db then (1 : Int32) else (0 : Int32))) else (0 : Int32))) else (0 : Int32)))]) t → Steps p.tables e below E0 t := by
      intro t k
      refine pre_47 t ?_
      by_cases hm48 : nA = nB
      · skip
        show Sp p e below T45 (mkF m 229 #[.val (.int p1), .val (.int p2), .val (.long p3), .second, .val (.long p4), .second, .val (.long p5), .second, .val (.int nA), .val (.int ca), .val (.int cb), .val (.int (if ((XT.ushr p1 (18 : Int32)) &&& (1 : Int32)) = (0 : Int32) then (0 : Int32) else (1 : Int32))), .val (.int (if ((XT.ushr p1 (19 : Int32)) &&& (1 : Int32)) = (0 : Int32) then (0 : Int32) else (1 : Int32))), .val (.int (if ((XT.ushr p1 (20 : Int32)) &&& (1 : Int32)) = (0 : Int32) then (0 : Int32) else (1 : Int32))), .val (.int nB), .val (.int da), .val (.int db), .val (.int sA), .val (.int sB), .val (.int fA), .val (.int fB), .val (.ref b20), .val (.ref b34), .unset, .unset] [(.int nB), (.int nA)]) _
        refine XS.icmpNo X45.here hx rfl (hb hby at_229) rfl (XT.ii_ne_f hm48) ?_
        refine XS.iload X45.here hx rfl (hb hby at_232) rfl ?_
        refine XS.iconst X45.here hx rfl (hb hby at_234) ?_
        show Sp p e below T45 (mkF m 235 #[.val (.int p1), .val (.int p2), .val (.long p3), .second, .val (.long p4), .second, .val (.long p5), .second, .val (.int nA), .val (.int ca), .val (.int cb), .val (.int (if ((XT.ushr p1 (18 : Int32)) &&& (1 : Int32)) = (0 : Int32) then (0 : Int32) else (1 : Int32))), .val (.int (if ((XT.ushr p1 (19 : Int32)) &&& (1 : Int32)) = (0 : Int32) then (0 : Int32) else (1 : Int32))), .val (.int (if ((XT.ushr p1 (20 : Int32)) &&& (1 : Int32)) = (0 : Int32) then (0 : Int32) else (1 : Int32))), .val (.int nB), .val (.int da), .val (.int db), .val (.int sA), .val (.int sB), .val (.int fA), .val (.int fB), .val (.ref b20), .val (.ref b34), .unset, .unset] [(.int (1 : Int32)), (.int nA)]) _
        by_cases hm49 : nA < (1 : Int32)
        · skip
          show Sp p e below T45 (mkF m 235 #[.val (.int p1), .val (.int p2), .val (.long p3), .second, .val (.long p4), .second, .val (.long p5), .second, .val (.int nA), .val (.int ca), .val (.int cb), .val (.int (if ((XT.ushr p1 (18 : Int32)) &&& (1 : Int32)) = (0 : Int32) then (0 : Int32) else (1 : Int32))), .val (.int (if ((XT.ushr p1 (19 : Int32)) &&& (1 : Int32)) = (0 : Int32) then (0 : Int32) else (1 : Int32))), .val (.int (if ((XT.ushr p1 (20 : Int32)) &&& (1 : Int32)) = (0 : Int32) then (0 : Int32) else (1 : Int32))), .val (.int nB), .val (.int da), .val (.int db), .val (.int sA), .val (.int sB), .val (.int fA), .val (.int fB), .val (.ref b20), .val (.ref b34), .unset, .unset] [(.int (1 : Int32)), (.int nA)]) _
          refine XS.icmpYes X45.here hx rfl (pc0 := 235) (pc' := 245) rfl (hb hby at_235) rfl (XT.ii_lt_t hm49) (by decide) (by decide) ?_
          refine XS.iload X45.here hx rfl (hb hby at_245) rfl ?_
          refine XS.iconst X45.here hx rfl (hb hby at_247) ?_
          by_cases hm50 : nA < (2 : Int32)
          · skip
            show Sp p e below T45 (mkF m 248 #[.val (.int p1), .val (.int p2), .val (.long p3), .second, .val (.long p4), .second, .val (.long p5), .second, .val (.int nA), .val (.int ca), .val (.int cb), .val (.int (if ((XT.ushr p1 (18 : Int32)) &&& (1 : Int32)) = (0 : Int32) then (0 : Int32) else (1 : Int32))), .val (.int (if ((XT.ushr p1 (19 : Int32)) &&& (1 : Int32)) = (0 : Int32) then (0 : Int32) else (1 : Int32))), .val (.int (if ((XT.ushr p1 (20 : Int32)) &&& (1 : Int32)) = (0 : Int32) then (0 : Int32) else (1 : Int32))), .val (.int nB), .val (.int da), .val (.int db), .val (.int sA), .val (.int sB), .val (.int fA), .val (.int fB), .val (.ref b20), .val (.ref b34), .unset, .unset] [(.int (2 : Int32)), (.int nA)]) _
            refine XS.icmpYes X45.here hx rfl (pc0 := 248) (pc' := 258) rfl (hb hby at_248) rfl (XT.ii_lt_t hm50) (by decide) (by decide) ?_
            show Sp p e below T45 (mkF m 258 #[.val (.int p1), .val (.int p2), .val (.long p3), .second, .val (.long p4), .second, .val (.long p5), .second, .val (.int nA), .val (.int ca), .val (.int cb), .val (.int (if ((XT.ushr p1 (18 : Int32)) &&& (1 : Int32)) = (0 : Int32) then (0 : Int32) else (1 : Int32))), .val (.int (if ((XT.ushr p1 (19 : Int32)) &&& (1 : Int32)) = (0 : Int32) then (0 : Int32) else (1 : Int32))), .val (.int (if ((XT.ushr p1 (20 : Int32)) &&& (1 : Int32)) = (0 : Int32) then (0 : Int32) else (1 : Int32))), .val (.int nB), .val (.int da), .val (.int db), .val (.int sA), .val (.int sB), .val (.int fA), .val (.int fB), .val (.ref b20), .val (.ref b34), .unset, .unset] []) _
            refine XS.iconst X45.here hx rfl (hb hby at_258) ?_
            refine XS.goto X45.here hx rfl (pc0 := 259) (pc' := 263) rfl (hb hby at_259) (by decide) (by decide) ?_
            first | exact k | (simp only [if_pos hm48, if_pos hm49, if_pos hm50] at k; exact k) | (show Sp p e below T45 (mkF m 263 #[.val (.int p1), .val (.int p2), .val (.long p3), .second, .val (.long p4), .second, .val (.long p5), .second, .val (.int nA), .val (.int ca), .val (.int cb), .val (.int (if ((XT.ushr p1 (18 : Int32)) &&& (1 : Int32)) = (0 : Int32) then (0 : Int32) else (1 : Int32))), .val (.int (if ((XT.ushr p1 (19 : Int32)) &&& (1 : Int32)) = (0 : Int32) then (0 : Int32) else (1 : Int32))), .val (.int (if ((XT.ushr p1 (20 : Int32)) &&& (1 : Int32)) = (0 : Int32) then (0 : Int32) else (1 : Int32))), .val (.int nB), .val (.int da), .val (.int db), .val (.int sA), .val (.int sB), .val (.int fA), .val (.int fB), .val (.ref b20), .val (.ref b34), .unset, .unset] [(.int (1 : Int32))]) _; simp only [if_pos hm48, if_pos hm49, if_pos hm50] at k ⊢; exact k)
          · skip
            show Sp p e below T45 (mkF m 248 #[.val (.int p1), .val (.int p2), .val (.long p3), .second, .val (.long p4), .second, .val (.long p5), .second, .val (.int nA), .val (.int ca), .val (.int cb), .val (.int (if ((XT.ushr p1 (18 : Int32)) &&& (1 : Int32)) = (0 : Int32) then (0 : Int32) else (1 : Int32))), .val (.int (if ((XT.ushr p1 (19 : Int32)) &&& (1 : Int32)) = (0 : Int32) then (0 : Int32) else (1 : Int32))), .val (.int (if ((XT.ushr p1 (20 : Int32)) &&& (1 : Int32)) = (0 : Int32) then (0 : Int32) else (1 : Int32))), .val (.int nB), .val (.int da), .val (.int db), .val (.int sA), .val (.int sB), .val (.int fA), .val (.int fB), .val (.ref b20), .val (.ref b34), .unset, .unset] [(.int (2 : Int32)), (.int nA)]) _
            refine XS.icmpNo X45.here hx rfl (hb hby at_248) rfl (XT.ii_lt_f hm50) ?_
            show Sp p e below T45 (mkF m 251 #[.val (.int p1), .val (.int p2), .val (.long p3), .second, .val (.long p4), .second, .val (.long p5), .second, .val (.int nA), .val (.int ca), .val (.int cb), .val (.int (if ((XT.ushr p1 (18 : Int32)) &&& (1 : Int32)) = (0 : Int32) then (0 : Int32) else (1 : Int32))), .val (.int (if ((XT.ushr p1 (19 : Int32)) &&& (1 : Int32)) = (0 : Int32) then (0 : Int32) else (1 : Int32))), .val (.int (if ((XT.ushr p1 (20 : Int32)) &&& (1 : Int32)) = (0 : Int32) then (0 : Int32) else (1 : Int32))), .val (.int nB), .val (.int da), .val (.int db), .val (.int sA), .val (.int sB), .val (.int fA), .val (.int fB), .val (.ref b20), .val (.ref b34), .unset, .unset] []) _
            refine XS.iload X45.here hx rfl (hb hby at_251) rfl ?_
            refine XS.iload X45.here hx rfl (hb hby at_253) rfl ?_
            by_cases hm51 : cb = db
            · skip
              show Sp p e below T45 (mkF m 255 #[.val (.int p1), .val (.int p2), .val (.long p3), .second, .val (.long p4), .second, .val (.long p5), .second, .val (.int nA), .val (.int ca), .val (.int cb), .val (.int (if ((XT.ushr p1 (18 : Int32)) &&& (1 : Int32)) = (0 : Int32) then (0 : Int32) else (1 : Int32))), .val (.int (if ((XT.ushr p1 (19 : Int32)) &&& (1 : Int32)) = (0 : Int32) then (0 : Int32) else (1 : Int32))), .val (.int (if ((XT.ushr p1 (20 : Int32)) &&& (1 : Int32)) = (0 : Int32) then (0 : Int32) else (1 : Int32))), .val (.int nB), .val (.int da), .val (.int db), .val (.int sA), .val (.int sB), .val (.int fA), .val (.int fB), .val (.ref b20), .val (.ref b34), .unset, .unset] [(.int db), (.int cb)]) _
              refine XS.icmpNo X45.here hx rfl (hb hby at_255) rfl (XT.ii_ne_f hm51) ?_
              refine XS.iconst X45.here hx rfl (hb hby at_258) ?_
              show Sp p e below T45 (mkF m 259 #[.val (.int p1), .val (.int p2), .val (.long p3), .second, .val (.long p4), .second, .val (.long p5), .second, .val (.int nA), .val (.int ca), .val (.int cb), .val (.int (if ((XT.ushr p1 (18 : Int32)) &&& (1 : Int32)) = (0 : Int32) then (0 : Int32) else (1 : Int32))), .val (.int (if ((XT.ushr p1 (19 : Int32)) &&& (1 : Int32)) = (0 : Int32) then (0 : Int32) else (1 : Int32))), .val (.int (if ((XT.ushr p1 (20 : Int32)) &&& (1 : Int32)) = (0 : Int32) then (0 : Int32) else (1 : Int32))), .val (.int nB), .val (.int da), .val (.int db), .val (.int sA), .val (.int sB), .val (.int fA), .val (.int fB), .val (.ref b20), .val (.ref b34), .unset, .unset] [(.int (1 : Int32))]) _
              refine XS.goto X45.here hx rfl (pc0 := 259) (pc' := 263) rfl (hb hby at_259) (by decide) (by decide) ?_
              first | exact k | (simp only [if_pos hm48, if_pos hm49, if_neg hm50, if_pos hm51] at k; exact k) | (show Sp p e below T45 (mkF m 263 #[.val (.int p1), .val (.int p2), .val (.long p3), .second, .val (.long p4), .second, .val (.long p5), .second, .val (.int nA), .val (.int ca), .val (.int cb), .val (.int (if ((XT.ushr p1 (18 : Int32)) &&& (1 : Int32)) = (0 : Int32) then (0 : Int32) else (1 : Int32))), .val (.int (if ((XT.ushr p1 (19 : Int32)) &&& (1 : Int32)) = (0 : Int32) then (0 : Int32) else (1 : Int32))), .val (.int (if ((XT.ushr p1 (20 : Int32)) &&& (1 : Int32)) = (0 : Int32) then (0 : Int32) else (1 : Int32))), .val (.int nB), .val (.int da), .val (.int db), .val (.int sA), .val (.int sB), .val (.int fA), .val (.int fB), .val (.ref b20), .val (.ref b34), .unset, .unset] [(.int (1 : Int32))]) _; simp only [if_pos hm48, if_pos hm49, if_neg hm50, if_pos hm51] at k ⊢; exact k)
            · skip
              show Sp p e below T45 (mkF m 255 #[.val (.int p1), .val (.int p2), .val (.long p3), .second, .val (.long p4), .second, .val (.long p5), .second, .val (.int nA), .val (.int ca), .val (.int cb), .val (.int (if ((XT.ushr p1 (18 : Int32)) &&& (1 : Int32)) = (0 : Int32) then (0 : Int32) else (1 : Int32))), .val (.int (if ((XT.ushr p1 (19 : Int32)) &&& (1 : Int32)) = (0 : Int32) then (0 : Int32) else (1 : Int32))), .val (.int (if ((XT.ushr p1 (20 : Int32)) &&& (1 : Int32)) = (0 : Int32) then (0 : Int32) else (1 : Int32))), .val (.int nB), .val (.int da), .val (.int db), .val (.int sA), .val (.int sB), .val (.int fA), .val (.int fB), .val (.ref b20), .val (.ref b34), .unset, .unset] [(.int db), (.int cb)]) _
              refine XS.icmpYes X45.here hx rfl (pc0 := 255) (pc' := 262) rfl (hb hby at_255) rfl (XT.ii_ne_t hm51) (by decide) (by decide) ?_
              refine XS.iconst X45.here hx rfl (hb hby at_262) ?_
              show Sp p e below T45 (mkF m 263 #[.val (.int p1), .val (.int p2), .val (.long p3), .second, .val (.long p4), .second, .val (.long p5), .second, .val (.int nA), .val (.int ca), .val (.int cb), .val (.int (if ((XT.ushr p1 (18 : Int32)) &&& (1 : Int32)) = (0 : Int32) then (0 : Int32) else (1 : Int32))), .val (.int (if ((XT.ushr p1 (19 : Int32)) &&& (1 : Int32)) = (0 : Int32) then (0 : Int32) else (1 : Int32))), .val (.int (if ((XT.ushr p1 (20 : Int32)) &&& (1 : Int32)) = (0 : Int32) then (0 : Int32) else (1 : Int32))), .val (.int nB), .val (.int da), .val (.int db), .val (.int sA), .val (.int sB), .val (.int fA), .val (.int fB), .val (.ref b20), .val (.ref b34), .unset, .unset] [(.int (0 : Int32))]) _
              first | exact k | (simp only [if_pos hm48, if_pos hm49, if_neg hm50, if_neg hm51] at k; exact k) | (show Sp p e below T45 (mkF m 263 #[.val (.int p1), .val (.int p2), .val (.long p3), .second, .val (.long p4), .second, .val (.long p5), .second, .val (.int nA), .val (.int ca), .val (.int cb), .val (.int (if ((XT.ushr p1 (18 : Int32)) &&& (1 : Int32)) = (0 : Int32) then (0 : Int32) else (1 : Int32))), .val (.int (if ((XT.ushr p1 (19 : Int32)) &&& (1 : Int32)) = (0 : Int32) then (0 : Int32) else (1 : Int32))), .val (.int (if ((XT.ushr p1 (20 : Int32)) &&& (1 : Int32)) = (0 : Int32) then (0 : Int32) else (1 : Int32))), .val (.int nB), .val (.int da), .val (.int db), .val (.int sA), .val (.int sB), .val (.int fA), .val (.int fB), .val (.ref b20), .val (.ref b34), .unset, .unset] [(.int (0 : Int32))]) _; simp only [if_pos hm48, if_pos hm49, if_neg hm50, if_neg hm51] at k ⊢; exact k)
        · skip
          show Sp p e below T45 (mkF m 235 #[.val (.int p1), .val (.int p2), .val (.long p3), .second, .val (.long p4), .second, .val (.long p5), .second, .val (.int nA), .val (.int ca), .val (.int cb), .val (.int (if ((XT.ushr p1 (18 : Int32)) &&& (1 : Int32)) = (0 : Int32) then (0 : Int32) else (1 : Int32))), .val (.int (if ((XT.ushr p1 (19 : Int32)) &&& (1 : Int32)) = (0 : Int32) then (0 : Int32) else (1 : Int32))), .val (.int (if ((XT.ushr p1 (20 : Int32)) &&& (1 : Int32)) = (0 : Int32) then (0 : Int32) else (1 : Int32))), .val (.int nB), .val (.int da), .val (.int db), .val (.int sA), .val (.int sB), .val (.int fA), .val (.int fB), .val (.ref b20), .val (.ref b34), .unset, .unset] [(.int (1 : Int32)), (.int nA)]) _
          refine XS.icmpNo X45.here hx rfl (hb hby at_235) rfl (XT.ii_lt_f hm49) ?_
          refine XS.iload X45.here hx rfl (hb hby at_238) rfl ?_
          refine XS.iload X45.here hx rfl (hb hby at_240) rfl ?_
          by_cases hm52 : ca = da
          · skip
            show Sp p e below T45 (mkF m 242 #[.val (.int p1), .val (.int p2), .val (.long p3), .second, .val (.long p4), .second, .val (.long p5), .second, .val (.int nA), .val (.int ca), .val (.int cb), .val (.int (if ((XT.ushr p1 (18 : Int32)) &&& (1 : Int32)) = (0 : Int32) then (0 : Int32) else (1 : Int32))), .val (.int (if ((XT.ushr p1 (19 : Int32)) &&& (1 : Int32)) = (0 : Int32) then (0 : Int32) else (1 : Int32))), .val (.int (if ((XT.ushr p1 (20 : Int32)) &&& (1 : Int32)) = (0 : Int32) then (0 : Int32) else (1 : Int32))), .val (.int nB), .val (.int da), .val (.int db), .val (.int sA), .val (.int sB), .val (.int fA), .val (.int fB), .val (.ref b20), .val (.ref b34), .unset, .unset] [(.int da), (.int ca)]) _
            refine XS.icmpNo X45.here hx rfl (hb hby at_242) rfl (XT.ii_ne_f hm52) ?_
            show Sp p e below T45 (mkF m 245 #[.val (.int p1), .val (.int p2), .val (.long p3), .second, .val (.long p4), .second, .val (.long p5), .second, .val (.int nA), .val (.int ca), .val (.int cb), .val (.int (if ((XT.ushr p1 (18 : Int32)) &&& (1 : Int32)) = (0 : Int32) then (0 : Int32) else (1 : Int32))), .val (.int (if ((XT.ushr p1 (19 : Int32)) &&& (1 : Int32)) = (0 : Int32) then (0 : Int32) else (1 : Int32))), .val (.int (if ((XT.ushr p1 (20 : Int32)) &&& (1 : Int32)) = (0 : Int32) then (0 : Int32) else (1 : Int32))), .val (.int nB), .val (.int da), .val (.int db), .val (.int sA), .val (.int sB), .val (.int fA), .val (.int fB), .val (.ref b20), .val (.ref b34), .unset, .unset] []) _
            refine XS.iload X45.here hx rfl (hb hby at_245) rfl ?_
            refine XS.iconst X45.here hx rfl (hb hby at_247) ?_
            by_cases hm53 : nA < (2 : Int32)
            · skip
              show Sp p e below T45 (mkF m 248 #[.val (.int p1), .val (.int p2), .val (.long p3), .second, .val (.long p4), .second, .val (.long p5), .second, .val (.int nA), .val (.int ca), .val (.int cb), .val (.int (if ((XT.ushr p1 (18 : Int32)) &&& (1 : Int32)) = (0 : Int32) then (0 : Int32) else (1 : Int32))), .val (.int (if ((XT.ushr p1 (19 : Int32)) &&& (1 : Int32)) = (0 : Int32) then (0 : Int32) else (1 : Int32))), .val (.int (if ((XT.ushr p1 (20 : Int32)) &&& (1 : Int32)) = (0 : Int32) then (0 : Int32) else (1 : Int32))), .val (.int nB), .val (.int da), .val (.int db), .val (.int sA), .val (.int sB), .val (.int fA), .val (.int fB), .val (.ref b20), .val (.ref b34), .unset, .unset] [(.int (2 : Int32)), (.int nA)]) _
              refine XS.icmpYes X45.here hx rfl (pc0 := 248) (pc' := 258) rfl (hb hby at_248) rfl (XT.ii_lt_t hm53) (by decide) (by decide) ?_
              refine XS.iconst X45.here hx rfl (hb hby at_258) ?_
              show Sp p e below T45 (mkF m 259 #[.val (.int p1), .val (.int p2), .val (.long p3), .second, .val (.long p4), .second, .val (.long p5), .second, .val (.int nA), .val (.int ca), .val (.int cb), .val (.int (if ((XT.ushr p1 (18 : Int32)) &&& (1 : Int32)) = (0 : Int32) then (0 : Int32) else (1 : Int32))), .val (.int (if ((XT.ushr p1 (19 : Int32)) &&& (1 : Int32)) = (0 : Int32) then (0 : Int32) else (1 : Int32))), .val (.int (if ((XT.ushr p1 (20 : Int32)) &&& (1 : Int32)) = (0 : Int32) then (0 : Int32) else (1 : Int32))), .val (.int nB), .val (.int da), .val (.int db), .val (.int sA), .val (.int sB), .val (.int fA), .val (.int fB), .val (.ref b20), .val (.ref b34), .unset, .unset] [(.int (1 : Int32))]) _
              refine XS.goto X45.here hx rfl (pc0 := 259) (pc' := 263) rfl (hb hby at_259) (by decide) (by decide) ?_
              first | exact k | (simp only [if_pos hm48, if_neg hm49, if_pos hm52, if_pos hm53] at k; exact k) | (show Sp p e below T45 (mkF m 263 #[.val (.int p1), .val (.int p2), .val (.long p3), .second, .val (.long p4), .second, .val (.long p5), .second, .val (.int nA), .val (.int ca), .val (.int cb), .val (.int (if ((XT.ushr p1 (18 : Int32)) &&& (1 : Int32)) = (0 : Int32) then (0 : Int32) else (1 : Int32))), .val (.int (if ((XT.ushr p1 (19 : Int32)) &&& (1 : Int32)) = (0 : Int32) then (0 : Int32) else (1 : Int32))), .val (.int (if ((XT.ushr p1 (20 : Int32)) &&& (1 : Int32)) = (0 : Int32) then (0 : Int32) else (1 : Int32))), .val (.int nB), .val (.int da), .val (.int db), .val (.int sA), .val (.int sB), .val (.int fA), .val (.int fB), .val (.ref b20), .val (.ref b34), .unset, .unset] [(.int (1 : Int32))]) _; simp only [if_pos hm48, if_neg hm49, if_pos hm52, if_pos hm53] at k ⊢; exact k)
            · skip
              show Sp p e below T45 (mkF m 248 #[.val (.int p1), .val (.int p2), .val (.long p3), .second, .val (.long p4), .second, .val (.long p5), .second, .val (.int nA), .val (.int ca), .val (.int cb), .val (.int (if ((XT.ushr p1 (18 : Int32)) &&& (1 : Int32)) = (0 : Int32) then (0 : Int32) else (1 : Int32))), .val (.int (if ((XT.ushr p1 (19 : Int32)) &&& (1 : Int32)) = (0 : Int32) then (0 : Int32) else (1 : Int32))), .val (.int (if ((XT.ushr p1 (20 : Int32)) &&& (1 : Int32)) = (0 : Int32) then (0 : Int32) else (1 : Int32))), .val (.int nB), .val (.int da), .val (.int db), .val (.int sA), .val (.int sB), .val (.int fA), .val (.int fB), .val (.ref b20), .val (.ref b34), .unset, .unset] [(.int (2 : Int32)), (.int nA)]) _
              refine XS.icmpNo X45.here hx rfl (hb hby at_248) rfl (XT.ii_lt_f hm53) ?_
              refine XS.iload X45.here hx rfl (hb hby at_251) rfl ?_
              show Sp p e below T45 (mkF m 253 #[.val (.int p1), .val (.int p2), .val (.long p3), .second, .val (.long p4), .second, .val (.long p5), .second, .val (.int nA), .val (.int ca), .val (.int cb), .val (.int (if ((XT.ushr p1 (18 : Int32)) &&& (1 : Int32)) = (0 : Int32) then (0 : Int32) else (1 : Int32))), .val (.int (if ((XT.ushr p1 (19 : Int32)) &&& (1 : Int32)) = (0 : Int32) then (0 : Int32) else (1 : Int32))), .val (.int (if ((XT.ushr p1 (20 : Int32)) &&& (1 : Int32)) = (0 : Int32) then (0 : Int32) else (1 : Int32))), .val (.int nB), .val (.int da), .val (.int db), .val (.int sA), .val (.int sB), .val (.int fA), .val (.int fB), .val (.ref b20), .val (.ref b34), .unset, .unset] [(.int cb)]) _
              refine XS.iload X45.here hx rfl (hb hby at_253) rfl ?_
              by_cases hm54 : cb = db
              · skip
                show Sp p e below T45 (mkF m 255 #[.val (.int p1), .val (.int p2), .val (.long p3), .second, .val (.long p4), .second, .val (.long p5), .second, .val (.int nA), .val (.int ca), .val (.int cb), .val (.int (if ((XT.ushr p1 (18 : Int32)) &&& (1 : Int32)) = (0 : Int32) then (0 : Int32) else (1 : Int32))), .val (.int (if ((XT.ushr p1 (19 : Int32)) &&& (1 : Int32)) = (0 : Int32) then (0 : Int32) else (1 : Int32))), .val (.int (if ((XT.ushr p1 (20 : Int32)) &&& (1 : Int32)) = (0 : Int32) then (0 : Int32) else (1 : Int32))), .val (.int nB), .val (.int da), .val (.int db), .val (.int sA), .val (.int sB), .val (.int fA), .val (.int fB), .val (.ref b20), .val (.ref b34), .unset, .unset] [(.int db), (.int cb)]) _
                refine XS.icmpNo X45.here hx rfl (hb hby at_255) rfl (XT.ii_ne_f hm54) ?_
                refine XS.iconst X45.here hx rfl (hb hby at_258) ?_
                refine XS.goto X45.here hx rfl (pc0 := 259) (pc' := 263) rfl (hb hby at_259) (by decide) (by decide) ?_
                show Sp p e below T45 (mkF m 263 #[.val (.int p1), .val (.int p2), .val (.long p3), .second, .val (.long p4), .second, .val (.long p5), .second, .val (.int nA), .val (.int ca), .val (.int cb), .val (.int (if ((XT.ushr p1 (18 : Int32)) &&& (1 : Int32)) = (0 : Int32) then (0 : Int32) else (1 : Int32))), .val (.int (if ((XT.ushr p1 (19 : Int32)) &&& (1 : Int32)) = (0 : Int32) then (0 : Int32) else (1 : Int32))), .val (.int (if ((XT.ushr p1 (20 : Int32)) &&& (1 : Int32)) = (0 : Int32) then (0 : Int32) else (1 : Int32))), .val (.int nB), .val (.int da), .val (.int db), .val (.int sA), .val (.int sB), .val (.int fA), .val (.int fB), .val (.ref b20), .val (.ref b34), .unset, .unset] [(.int (1 : Int32))]) _
                first | exact k | (simp only [if_pos hm48, if_neg hm49, if_pos hm52, if_neg hm53, if_pos hm54] at k; exact k) | (show Sp p e below T45 (mkF m 263 #[.val (.int p1), .val (.int p2), .val (.long p3), .second, .val (.long p4), .second, .val (.long p5), .second, .val (.int nA), .val (.int ca), .val (.int cb), .val (.int (if ((XT.ushr p1 (18 : Int32)) &&& (1 : Int32)) = (0 : Int32) then (0 : Int32) else (1 : Int32))), .val (.int (if ((XT.ushr p1 (19 : Int32)) &&& (1 : Int32)) = (0 : Int32) then (0 : Int32) else (1 : Int32))), .val (.int (if ((XT.ushr p1 (20 : Int32)) &&& (1 : Int32)) = (0 : Int32) then (0 : Int32) else (1 : Int32))), .val (.int nB), .val (.int da), .val (.int db), .val (.int sA), .val (.int sB), .val (.int fA), .val (.int fB), .val (.ref b20), .val (.ref b34), .unset, .unset] [(.int (1 : Int32))]) _; simp only [if_pos hm48, if_neg hm49, if_pos hm52, if_neg hm53, if_pos hm54] at k ⊢; exact k)
              · skip
                show Sp p e below T45 (mkF m 255 #[.val (.int p1), .val (.int p2), .val (.long p3), .second, .val (.long p4), .second, .val (.long p5), .second, .val (.int nA), .val (.int ca), .val (.int cb), .val (.int (if ((XT.ushr p1 (18 : Int32)) &&& (1 : Int32)) = (0 : Int32) then (0 : Int32) else (1 : Int32))), .val (.int (if ((XT.ushr p1 (19 : Int32)) &&& (1 : Int32)) = (0 : Int32) then (0 : Int32) else (1 : Int32))), .val (.int (if ((XT.ushr p1 (20 : Int32)) &&& (1 : Int32)) = (0 : Int32) then (0 : Int32) else (1 : Int32))), .val (.int nB), .val (.int da), .val (.int db), .val (.int sA), .val (.int sB), .val (.int fA), .val (.int fB), .val (.ref b20), .val (.ref b34), .unset, .unset] [(.int db), (.int cb)]) _
                refine XS.icmpYes X45.here hx rfl (pc0 := 255) (pc' := 262) rfl (hb hby at_255) rfl (XT.ii_ne_t hm54) (by decide) (by decide) ?_
                refine XS.iconst X45.here hx rfl (hb hby at_262) ?_
                first | exact k | (simp only [if_pos hm48, if_neg hm49, if_pos hm52, if_neg hm53, if_neg hm54] at k; exact k) | (show Sp p e below T45 (mkF m 263 #[.val (.int p1), .val (.int p2), .val (.long p3), .second, .val (.long p4), .second, .val (.long p5), .second, .val (.int nA), .val (.int ca), .val (.int cb), .val (.int (if ((XT.ushr p1 (18 : Int32)) &&& (1 : Int32)) = (0 : Int32) then (0 : Int32) else (1 : Int32))), .val (.int (if ((XT.ushr p1 (19 : Int32)) &&& (1 : Int32)) = (0 : Int32) then (0 : Int32) else (1 : Int32))), .val (.int (if ((XT.ushr p1 (20 : Int32)) &&& (1 : Int32)) = (0 : Int32) then (0 : Int32) else (1 : Int32))), .val (.int nB), .val (.int da), .val (.int db), .val (.int sA), .val (.int sB), .val (.int fA), .val (.int fB), .val (.ref b20), .val (.ref b34), .unset, .unset] [(.int (0 : Int32))]) _; simp only [if_pos hm48, if_neg hm49, if_pos hm52, if_neg hm53, if_neg hm54] at k ⊢; exact k)
          · skip
            show Sp p e below T45 (mkF m 242 #[.val (.int p1), .val (.int p2), .val (.long p3), .second, .val (.long p4), .second, .val (.long p5), .second, .val (.int nA), .val (.int ca), .val (.int cb), .val (.int (if ((XT.ushr p1 (18 : Int32)) &&& (1 : Int32)) = (0 : Int32) then (0 : Int32) else (1 : Int32))), .val (.int (if ((XT.ushr p1 (19 : Int32)) &&& (1 : Int32)) = (0 : Int32) then (0 : Int32) else (1 : Int32))), .val (.int (if ((XT.ushr p1 (20 : Int32)) &&& (1 : Int32)) = (0 : Int32) then (0 : Int32) else (1 : Int32))), .val (.int nB), .val (.int da), .val (.int db), .val (.int sA), .val (.int sB), .val (.int fA), .val (.int fB), .val (.ref b20), .val (.ref b34), .unset, .unset] [(.int da), (.int ca)]) _
            refine XS.icmpYes X45.here hx rfl (pc0 := 242) (pc' := 262) rfl (hb hby at_242) rfl (XT.ii_ne_t hm52) (by decide) (by decide) ?_
            show Sp p e below T45 (mkF m 262 #[.val (.int p1), .val (.int p2), .val (.long p3), .second, .val (.long p4), .second, .val (.long p5), .second, .val (.int nA), .val (.int ca), .val (.int cb), .val (.int (if ((XT.ushr p1 (18 : Int32)) &&& (1 : Int32)) = (0 : Int32) then (0 : Int32) else (1 : Int32))), .val (.int (if ((XT.ushr p1 (19 : Int32)) &&& (1 : Int32)) = (0 : Int32) then (0 : Int32) else (1 : Int32))), .val (.int (if ((XT.ushr p1 (20 : Int32)) &&& (1 : Int32)) = (0 : Int32) then (0 : Int32) else (1 : Int32))), .val (.int nB), .val (.int da), .val (.int db), .val (.int sA), .val (.int sB), .val (.int fA), .val (.int fB), .val (.ref b20), .val (.ref b34), .unset, .unset] []) _
            refine XS.iconst X45.here hx rfl (hb hby at_262) ?_
            first | exact k | (simp only [if_pos hm48, if_neg hm49, if_neg hm52] at k; exact k) | (show Sp p e below T45 (mkF m 263 #[.val (.int p1), .val (.int p2), .val (.long p3), .second, .val (.long p4), .second, .val (.long p5), .second, .val (.int nA), .val (.int ca), .val (.int cb), .val (.int (if ((XT.ushr p1 (18 : Int32)) &&& (1 : Int32)) = (0 : Int32) then (0 : Int32) else (1 : Int32))), .val (.int (if ((XT.ushr p1 (19 : Int32)) &&& (1 : Int32)) = (0 : Int32) then (0 : Int32) else (1 : Int32))), .val (.int (if ((XT.ushr p1 (20 : Int32)) &&& (1 : Int32)) = (0 : Int32) then (0 : Int32) else (1 : Int32))), .val (.int nB), .val (.int da), .val (.int db), .val (.int sA), .val (.int sB), .val (.int fA), .val (.int fB), .val (.ref b20), .val (.ref b34), .unset, .unset] [(.int (0 : Int32))]) _; simp only [if_pos hm48, if_neg hm49, if_neg hm52] at k ⊢; exact k)
      · skip
        show Sp p e below T45 (mkF m 229 #[.val (.int p1), .val (.int p2), .val (.long p3), .second, .val (.long p4), .second, .val (.long p5), .second, .val (.int nA), .val (.int ca), .val (.int cb), .val (.int (if ((XT.ushr p1 (18 : Int32)) &&& (1 : Int32)) = (0 : Int32) then (0 : Int32) else (1 : Int32))), .val (.int (if ((XT.ushr p1 (19 : Int32)) &&& (1 : Int32)) = (0 : Int32) then (0 : Int32) else (1 : Int32))), .val (.int (if ((XT.ushr p1 (20 : Int32)) &&& (1 : Int32)) = (0 : Int32) then (0 : Int32) else (1 : Int32))), .val (.int nB), .val (.int da), .val (.int db), .val (.int sA), .val (.int sB), .val (.int fA), .val (.int fB), .val (.ref b20), .val (.ref b34), .unset, .unset] [(.int nB), (.int nA)]) _
        refine XS.icmpYes X45.here hx rfl (pc0 := 229) (pc' := 262) rfl (hb hby at_229) rfl (XT.ii_ne_t hm48) (by decide) (by decide) ?_
        refine XS.iconst X45.here hx rfl (hb hby at_262) ?_
        first | exact k | (simp only [if_neg hm48] at k; exact k) | (show Sp p e below T45 (mkF m 263 #[.val (.int p1), .val (.int p2), .val (.long p3), .second, .val (.long p4), .second, .val (.long p5), .second, .val (.int nA), .val (.int ca), .val (.int cb), .val (.int (if ((XT.ushr p1 (18 : Int32)) &&& (1 : Int32)) = (0 : Int32) then (0 : Int32) else (1 : Int32))), .val (.int (if ((XT.ushr p1 (19 : Int32)) &&& (1 : Int32)) = (0 : Int32) then (0 : Int32) else (1 : Int32))), .val (.int (if ((XT.ushr p1 (20 : Int32)) &&& (1 : Int32)) = (0 : Int32) then (0 : Int32) else (1 : Int32))), .val (.int nB), .val (.int da), .val (.int db), .val (.int sA), .val (.int sB), .val (.int fA), .val (.int fB), .val (.ref b20), .val (.ref b34), .unset, .unset] [(.int (0 : Int32))]) _; simp only [if_neg hm48] at k ⊢; exact k)
    have pre_56 : ∀ t, Sp p e below T45 (mkF m 265 #[.val (.int p1), .val (.int p2), .val (.long p3), .second, .val (.long p4), .second, .val (.long p5), .second, .val (.int nA), .val (.int ca), .val (.int cb), .val (.int (if ((XT.ushr p1 (18 : Int32)) &&& (1 : Int32)) = (0 : Int32) then (0 : Int32) else (1 : Int32))), .val (.int (if ((XT.ushr p1 (19 : Int32)) &&& (1 : Int32)) = (0 : Int32) then (0 : Int32) else (1 : Int32))), .val (.int (if ((XT.ushr p1 (20 : Int32)) &&& (1 : Int32)) = (0 : Int32) then (0 : Int32) else (1 : Int32))), .val (.int nB), .val (.int da), .val (.int db), .val (.int sA), .val (.int sB), .val (.int fA), .val (.int fB), .val (.ref b20), .val (.ref b34), .val (.int (if nA = nB then (if nA < (1 : Int32) then (if nA < (2 : Int32) then (1 : Int32) else (if cb = db then (1 : Int32) else (0 : Int32))) else (if ca = da then (if nA < (2 : Int32) then (1 : Int32) else (if cb = db then (1 : Int32) else (0 : Int32))) else (0 : Int32))) else (0 : Int32))), .unset] []) t → Steps p.tables e below E0 t := by
      intro t k
      refine pre_55 t ?_
      show Sp p e below T45 (mkF m 263 #[.val (.int p1), .val (.int p2), .val (.long p3), .second, .val (.long p4), .second, .val (.long p5), .second, .val (.int nA), .val (.int ca), .val (.int cb), .val (.int (if ((XT.ushr p1 (18 : Int32)) &&& (1 : Int32)) = (0 : Int32) then (0 : Int32) else (1 : Int32))), .val (.int (if ((XT.ushr p1 (19 : Int32)) &&& (1 : Int32)) = (0 : Int32) then (0 : Int32) else (1 : Int32))), .val (.int (if ((XT.ushr p1 (20 : Int32)) &&& (1 : Int32)) = (0 : Int32) then (0 : Int32) else (1 : Int32))), .val (.int nB), .val (.int da), .val (.int db), .val (.int sA), .val (.int sB), .val (.int fA), .val (.int fB), .val (.ref b20), .val (.ref b34), .unset, .unset] [(.int (if nA = nB then (if nA < (1 : Int32) then (if nA < (2 : Int32) then (1 : Int32) else (if cb = db then (1 : Int32) else (0 : Int32))) else (if ca = da then (if nA < (2 : Int32) then (1 : Int32) else (if cb = db then (1 : Int32) else (0 : Int32))) else (0 : Int32))) else (0 : Int32)))]) _
      refine XS.istore X45.here hx rfl (hb hby at_263) rfl (l' := #[.val (.int p1), .val (.int p2), .val (.long p3), .second, .val (.long p4), .second, .val (.long p5), .second, .val (.int nA), .val (.int ca), .val (.int cb), .val (.int (if ((XT.ushr p1 (18 : Int32)) &&& (1 : Int32)) = (0 : Int32) then (0 : Int32) else (1 : Int32))), .val (.int (if ((XT.ushr p1 (19 : Int32)) &&& (1 : Int32)) = (0 : Int32) then (0 : Int32) else (1 : Int32))), .val (.int (if ((XT.ushr p1 (20 : Int32)) &&& (1 : Int32)) = (0 : Int32) then (0 : Int32) else (1 : Int32))), .val (.int nB), .val (.int da), .val (.int db), .val (.int sA), .val (.int sB), .val (.int fA), .val (.int fB), .val (.ref b20), .val (.ref b34), .val (.int (if nA = nB then (if nA < (1 : Int32) then (if nA < (2 : Int32) then (1 : Int32) else (if cb = db then (1 : Int32) else (0 : Int32))) else (if ca = da then (if nA < (2 : Int32) then (1 : Int32) else (if cb = db then (1 : Int32) else (0 : Int32))) else (0 : Int32))) else (0 : Int32))), .unset]) rfl ?_
      exact k
    have ezz : own_eqv nA nB ca da cb db = own_eqv nA nB ca da cb db := rfl
    have pre_57 : ∀ t, Sp p e below T45 (mkF m 265 #[.val (.int p1), .val (.int p2), .val (.long p3), .second, .val (.long p4), .second, .val (.long p5), .second, .val (.int nA), .val (.int ca), .val (.int cb), .val (.int (if ((XT.ushr p1 (18 : Int32)) &&& (1 : Int32)) = (0 : Int32) then (0 : Int32) else (1 : Int32))), .val (.int (if ((XT.ushr p1 (19 : Int32)) &&& (1 : Int32)) = (0 : Int32) then (0 : Int32) else (1 : Int32))), .val (.int (if ((XT.ushr p1 (20 : Int32)) &&& (1 : Int32)) = (0 : Int32) then (0 : Int32) else (1 : Int32))), .val (.int nB), .val (.int da), .val (.int db), .val (.int sA), .val (.int sB), .val (.int fA), .val (.int fB), .val (.ref b20), .val (.ref b34), .val (.int (own_eqv nA nB ca da cb db)), .unset] []) t → Steps p.tables e below E0 t := pre_56
    rcases own_eqv01 nA nB ca da cb db with hv | hv
    · skip
      have pre_58 : ∀ t, Sp p e below T45 (mkF m 295 #[.val (.int p1), .val (.int p2), .val (.long p3), .second, .val (.long p4), .second, .val (.long p5), .second, .val (.int nA), .val (.int ca), .val (.int cb), .val (.int (if ((XT.ushr p1 (18 : Int32)) &&& (1 : Int32)) = (0 : Int32) then (0 : Int32) else (1 : Int32))), .val (.int (if ((XT.ushr p1 (19 : Int32)) &&& (1 : Int32)) = (0 : Int32) then (0 : Int32) else (1 : Int32))), .val (.int (if ((XT.ushr p1 (20 : Int32)) &&& (1 : Int32)) = (0 : Int32) then (0 : Int32) else (1 : Int32))), .val (.int nB), .val (.int da), .val (.int db), .val (.int sA), .val (.int sB), .val (.int fA), .val (.int fB), .val (.ref b20), .val (.ref b34), .val (.int (own_eqv nA nB ca da cb db)), .val (.int (0 : Int32))] [(.ref b34), (.ref b20)]) t → Steps p.tables e below E0 t := by
        intro t k
        refine pre_57 t ?_
        show Sp p e below T45 (mkF m 265 #[.val (.int p1), .val (.int p2), .val (.long p3), .second, .val (.long p4), .second, .val (.long p5), .second, .val (.int nA), .val (.int ca), .val (.int cb), .val (.int (if ((XT.ushr p1 (18 : Int32)) &&& (1 : Int32)) = (0 : Int32) then (0 : Int32) else (1 : Int32))), .val (.int (if ((XT.ushr p1 (19 : Int32)) &&& (1 : Int32)) = (0 : Int32) then (0 : Int32) else (1 : Int32))), .val (.int (if ((XT.ushr p1 (20 : Int32)) &&& (1 : Int32)) = (0 : Int32) then (0 : Int32) else (1 : Int32))), .val (.int nB), .val (.int da), .val (.int db), .val (.int sA), .val (.int sB), .val (.int fA), .val (.int fB), .val (.ref b20), .val (.ref b34), .val (.int (own_eqv nA nB ca da cb db)), .unset] []) _
        refine XS.iload X45.here hx rfl (hb hby at_265) rfl ?_
        refine XS.ifYes X45.here hx rfl (pc0 := 267) (pc' := 288) rfl (hb hby at_267) rfl (XT.i0_eq_t hv) (by decide) (by decide) ?_
        show Sp p e below T45 (mkF m 288 #[.val (.int p1), .val (.int p2), .val (.long p3), .second, .val (.long p4), .second, .val (.long p5), .second, .val (.int nA), .val (.int ca), .val (.int cb), .val (.int (if ((XT.ushr p1 (18 : Int32)) &&& (1 : Int32)) = (0 : Int32) then (0 : Int32) else (1 : Int32))), .val (.int (if ((XT.ushr p1 (19 : Int32)) &&& (1 : Int32)) = (0 : Int32) then (0 : Int32) else (1 : Int32))), .val (.int (if ((XT.ushr p1 (20 : Int32)) &&& (1 : Int32)) = (0 : Int32) then (0 : Int32) else (1 : Int32))), .val (.int nB), .val (.int da), .val (.int db), .val (.int sA), .val (.int sB), .val (.int fA), .val (.int fB), .val (.ref b20), .val (.ref b34), .val (.int (own_eqv nA nB ca da cb db)), .unset] []) _
        refine XS.iconst X45.here hx rfl (hb hby at_288) ?_
        refine XS.istore X45.here hx rfl (hb hby at_289) rfl (l' := #[.val (.int p1), .val (.int p2), .val (.long p3), .second, .val (.long p4), .second, .val (.long p5), .second, .val (.int nA), .val (.int ca), .val (.int cb), .val (.int (if ((XT.ushr p1 (18 : Int32)) &&& (1 : Int32)) = (0 : Int32) then (0 : Int32) else (1 : Int32))), .val (.int (if ((XT.ushr p1 (19 : Int32)) &&& (1 : Int32)) = (0 : Int32) then (0 : Int32) else (1 : Int32))), .val (.int (if ((XT.ushr p1 (20 : Int32)) &&& (1 : Int32)) = (0 : Int32) then (0 : Int32) else (1 : Int32))), .val (.int nB), .val (.int da), .val (.int db), .val (.int sA), .val (.int sB), .val (.int fA), .val (.int fB), .val (.ref b20), .val (.ref b34), .val (.int (own_eqv nA nB ca da cb db)), .val (.int (0 : Int32))]) rfl ?_
        refine XS.aload X45.here hx rfl (hb hby at_291) rfl rfl ?_
        refine XS.aload X45.here hx rfl (hb hby at_293) rfl rfl ?_
        show Sp p e below T45 (mkF m 295 #[.val (.int p1), .val (.int p2), .val (.long p3), .second, .val (.long p4), .second, .val (.long p5), .second, .val (.int nA), .val (.int ca), .val (.int cb), .val (.int (if ((XT.ushr p1 (18 : Int32)) &&& (1 : Int32)) = (0 : Int32) then (0 : Int32) else (1 : Int32))), .val (.int (if ((XT.ushr p1 (19 : Int32)) &&& (1 : Int32)) = (0 : Int32) then (0 : Int32) else (1 : Int32))), .val (.int (if ((XT.ushr p1 (20 : Int32)) &&& (1 : Int32)) = (0 : Int32) then (0 : Int32) else (1 : Int32))), .val (.int nB), .val (.int da), .val (.int db), .val (.int sA), .val (.int sB), .val (.int fA), .val (.int fB), .val (.ref b20), .val (.ref b34), .val (.int (own_eqv nA nB ca da cb db)), .val (.int (0 : Int32))] [(.ref b34), (.ref b20)]) _
        exact k
      obtain ⟨cq59, kq59, qa59, qb59, qc59⟩ := isOf hZ42 rfl (((((A20.keep K28).keep K31).ext E34).keep K42).keep K45)
      obtain ⟨_, _, ⟨T59, L59, k59, n59⟩, -, X59, ⟨Lc59, hQ59, l59, y59, z59⟩, st59⟩ := X45.virtualBack hx (y := (⟨"com/example/vaxwire/vaxwire/hl7/Location", "inFieldOf", "(Lcom/example/vaxwire/vaxwire/hl7/Location;)Z"⟩ : MethodName)) (z := (⟨"com/example/vaxwire/vaxwire/hl7/Location", "inFieldOf", "(Lcom/example/vaxwire/vaxwire/hl7/Location;)Z"⟩ : MethodName)) ho42 (mvT hZ42 (own_w hw 48 rfl)) (mvT hZ42 (own_w hw 49 rfl)) (notFace_of_selects (args := #[]) (mvT hZ42 (own_w hw 51 rfl))) (mvT hZ42 (own_w hw 51 rfl)) (mvT hZ42 (own_w hw 50 rfl)) (by decide) (backOf (W := 0) (rm_inf l Z a0 hw [] b20 b34 sA fA sB fB a28 a42 b28 b42 G1 kB28 kB42 nA nB ca cb da db T45.heap n0 O45 (((Fa31.ext E34).keep K42 nin0).keep K45 (ninS (Nat.ne_of_lt (Nat.lt_of_lt_of_le ((A20.keep K28).keep K31).lt (Nat.le_of_eq g34.symm))) nin0)) (((Fb31.ext E34).keep K42 nin0).keep K45 (ninS (Nat.ne_of_lt (Nat.lt_of_lt_of_le ((A20.keep K28).keep K31).lt (Nat.le_of_eq g34.symm))) nin0)) (((Fd31.ext E34).keep K42 nin0).keep K45 (ninS (Nat.ne_of_lt (Nat.lt_of_lt_of_le ((A20.keep K28).keep K31).lt (Nat.le_of_eq g34.symm))) nin0)) Fa45 Fb45 Fd45 ((((Ea28.keep K31).ext E34).keep K42).keep K45) (Ea42.keep K45) ((((Fc28.keep K31 (ninS (Ne.symm (Nat.ne_of_lt (Nat.lt_of_lt_of_le A20.lt sa28))) nin0)).ext E34).keep K42 nin0).keep K45 (ninS (Nat.ne_of_lt (Nat.lt_of_lt_of_le (Ea28.keep K31).lt (Nat.le_of_eq g34.symm))) nin0)) (Fc42.keep K45 (ninS (Ne.symm (Nat.ne_of_lt (Nat.lt_of_lt_of_le A34.lt sa42))) nin0)) ((((Fv28.keep K31 (ninS (Ne.symm (Nat.ne_of_lt (Nat.lt_of_lt_of_le A20.lt sa28))) nin0)).ext E34).keep K42 nin0).keep K45 (ninS (Nat.ne_of_lt (Nat.lt_of_lt_of_le (Ea28.keep K31).lt (Nat.le_of_eq g34.symm))) nin0)) (Fv42.keep K45 (ninS (Ne.symm (Nat.ne_of_lt (Nat.lt_of_lt_of_le A34.lt sa42))) nin0)) ((((Ab28.keep K31 (ninS (Ne.symm (own_neAr (A20.keep K28) Ab28 (own_w hw 1 rfl))) nin0)).ext E34).keep K42 nin0).keep K45 (ninS (Nat.ne_of_lt (Nat.lt_of_lt_of_le (Ab28.keep K31 (ninS (Ne.symm (own_neAr (A20.keep K28) Ab28 (own_w hw 1 rfl))) nin0)).lt (Nat.le_of_eq g34.symm))) nin0)) (Ab42.keep K45 (ninS (Ne.symm (own_neAr (A34.keep K42) Ab42 (own_w hw 1 rfl))) nin0)) (Nat.ne_of_lt (Nat.lt_of_lt_of_le ((Ea28.keep K31).ext E34).lt sa42)) SC hG hca.2 hcb.2 hda.2 hdb.2) hZ42 (own_w hw 52 rfl) (own_w hw 2 rfl) (by decide) (by decide)) qa59 qc59 (g := (mkF m 295 #[.val (.int p1), .val (.int p2), .val (.long p3), .second, .val (.long p4), .second, .val (.long p5), .second, .val (.int nA), .val (.int ca), .val (.int cb), .val (.int (if ((XT.ushr p1 (18 : Int32)) &&& (1 : Int32)) = (0 : Int32) then (0 : Int32) else (1 : Int32))), .val (.int (if ((XT.ushr p1 (19 : Int32)) &&& (1 : Int32)) = (0 : Int32) then (0 : Int32) else (1 : Int32))), .val (.int (if ((XT.ushr p1 (20 : Int32)) &&& (1 : Int32)) = (0 : Int32) then (0 : Int32) else (1 : Int32))), .val (.int nB), .val (.int da), .val (.int db), .val (.int sA), .val (.int sB), .val (.int fA), .val (.int fB), .val (.ref b20), .val (.ref b34), .val (.int (own_eqv nA nB ca da cb db)), .val (.int (0 : Int32))] [(.ref b34), (.ref b20)])) rfl (by rw [hml]; rfl) (Steps.refl _) (argsL := [(.ref b34)]) (rest := []) (lenOf pd_law_2 rfl) rfl (by show 2 * 0 + _ ≤ _; exact Nat.le_of_eq rfl) (hb hby at_295) (fun _ _ => ⟨rfl, rfl, (by decide : 10 + 0 ≤ _), (by decide : 30 + 0 ≤ _)⟩)
      dsimp only [Pt.U, Pt.locs, Pt.cells, Pt.slots] at X59 l59 y59 z59 st59 hQ59
      subst l59 y59 z59
      obtain ⟨rfl, N59q, e59⟩ := hQ59
      have N59 := Fr.app N45 N59q
      have pre_60 : ∀ t, Sp p e below T59 (mkF m 298 #[.val (.int p1), .val (.int p2), .val (.long p3), .second, .val (.long p4), .second, .val (.long p5), .second, .val (.int nA), .val (.int ca), .val (.int cb), .val (.int (if ((XT.ushr p1 (18 : Int32)) &&& (1 : Int32)) = (0 : Int32) then (0 : Int32) else (1 : Int32))), .val (.int (if ((XT.ushr p1 (19 : Int32)) &&& (1 : Int32)) = (0 : Int32) then (0 : Int32) else (1 : Int32))), .val (.int (if ((XT.ushr p1 (20 : Int32)) &&& (1 : Int32)) = (0 : Int32) then (0 : Int32) else (1 : Int32))), .val (.int nB), .val (.int da), .val (.int db), .val (.int sA), .val (.int sB), .val (.int fA), .val (.int fB), .val (.ref b20), .val (.ref b34), .val (.int (own_eqv nA nB ca da cb db)), .val (.int (0 : Int32))] [(.int (if fA = fB then (if sA = sB then (own_eqv nA nB ca da cb db) else (0 : Int32)) else (0 : Int32)))]) t → Steps p.tables e below E0 t := fun t k => pre_58 t (st59.trans k)
      have pre_61 : ∀ t, Sp p e below T59 (mkF m 300 #[.val (.int p1), .val (.int p2), .val (.long p3), .second, .val (.long p4), .second, .val (.long p5), .second, .val (.int nA), .val (.int ca), .val (.int cb), .val (.int (if ((XT.ushr p1 (18 : Int32)) &&& (1 : Int32)) = (0 : Int32) then (0 : Int32) else (1 : Int32))), .val (.int (if ((XT.ushr p1 (19 : Int32)) &&& (1 : Int32)) = (0 : Int32) then (0 : Int32) else (1 : Int32))), .val (.int (if ((XT.ushr p1 (20 : Int32)) &&& (1 : Int32)) = (0 : Int32) then (0 : Int32) else (1 : Int32))), .val (.int nB), .val (.int da), .val (.int db), .val (.int sA), .val (.int sB), .val (.int fA), .val (.int fB), .val (.ref b20), .val (.ref b34), .val (.int (own_eqv nA nB ca da cb db)), .val (.int (0 : Int32))] [(.int (0 : Int32)), (.int (if fA = fB then (if sA = sB then (own_eqv nA nB ca da cb db) else (0 : Int32)) else (0 : Int32)))]) t → Steps p.tables e below E0 t := by
        intro t k
        refine pre_60 t ?_
        show Sp p e below T59 (mkF m 298 #[.val (.int p1), .val (.int p2), .val (.long p3), .second, .val (.long p4), .second, .val (.long p5), .second, .val (.int nA), .val (.int ca), .val (.int cb), .val (.int (if ((XT.ushr p1 (18 : Int32)) &&& (1 : Int32)) = (0 : Int32) then (0 : Int32) else (1 : Int32))), .val (.int (if ((XT.ushr p1 (19 : Int32)) &&& (1 : Int32)) = (0 : Int32) then (0 : Int32) else (1 : Int32))), .val (.int (if ((XT.ushr p1 (20 : Int32)) &&& (1 : Int32)) = (0 : Int32) then (0 : Int32) else (1 : Int32))), .val (.int nB), .val (.int da), .val (.int db), .val (.int sA), .val (.int sB), .val (.int fA), .val (.int fB), .val (.ref b20), .val (.ref b34), .val (.int (own_eqv nA nB ca da cb db)), .val (.int (0 : Int32))] [(.int (if fA = fB then (if sA = sB then (own_eqv nA nB ca da cb db) else (0 : Int32)) else (0 : Int32)))]) _
        refine XS.iload X59.here hx rfl (hb hby at_298) rfl ?_
        exact k
      by_cases hc62 : fA = fB
      · skip
        by_cases hc63 : sA = sB
        · skip
          have pre_64 : ∀ t, Sp p e below T59 (mkF m 308 #[.val (.int p1), .val (.int p2), .val (.long p3), .second, .val (.long p4), .second, .val (.long p5), .second, .val (.int nA), .val (.int ca), .val (.int cb), .val (.int (if ((XT.ushr p1 (18 : Int32)) &&& (1 : Int32)) = (0 : Int32) then (0 : Int32) else (1 : Int32))), .val (.int (if ((XT.ushr p1 (19 : Int32)) &&& (1 : Int32)) = (0 : Int32) then (0 : Int32) else (1 : Int32))), .val (.int (if ((XT.ushr p1 (20 : Int32)) &&& (1 : Int32)) = (0 : Int32) then (0 : Int32) else (1 : Int32))), .val (.int nB), .val (.int da), .val (.int db), .val (.int sA), .val (.int sB), .val (.int fA), .val (.int fB), .val (.ref b20), .val (.ref b34), .val (.int (own_eqv nA nB ca da cb db)), .val (.int (0 : Int32))] [(.int (1 : Int32))]) t → Steps p.tables e below E0 t := by
            intro t k
            refine pre_61 t ?_
            show Sp p e below T59 (mkF m 300 #[.val (.int p1), .val (.int p2), .val (.long p3), .second, .val (.long p4), .second, .val (.long p5), .second, .val (.int nA), .val (.int ca), .val (.int cb), .val (.int (if ((XT.ushr p1 (18 : Int32)) &&& (1 : Int32)) = (0 : Int32) then (0 : Int32) else (1 : Int32))), .val (.int (if ((XT.ushr p1 (19 : Int32)) &&& (1 : Int32)) = (0 : Int32) then (0 : Int32) else (1 : Int32))), .val (.int (if ((XT.ushr p1 (20 : Int32)) &&& (1 : Int32)) = (0 : Int32) then (0 : Int32) else (1 : Int32))), .val (.int nB), .val (.int da), .val (.int db), .val (.int sA), .val (.int sB), .val (.int fA), .val (.int fB), .val (.ref b20), .val (.ref b34), .val (.int (own_eqv nA nB ca da cb db)), .val (.int (0 : Int32))] [(.int (0 : Int32)), (.int (if fA = fB then (if sA = sB then (own_eqv nA nB ca da cb db) else (0 : Int32)) else (0 : Int32)))]) _
            refine XS.icmpNo X59.here hx rfl (hb hby at_300) rfl (XT.ii_ne_f (by simp only [if_pos hc62, if_pos hc63]; exact hv)) ?_
            refine XS.iconst X59.here hx rfl (hb hby at_303) ?_
            refine XS.goto X59.here hx rfl (pc0 := 304) (pc' := 308) rfl (hb hby at_304) (by decide) (by decide) ?_
            show Sp p e below T59 (mkF m 308 #[.val (.int p1), .val (.int p2), .val (.long p3), .second, .val (.long p4), .second, .val (.long p5), .second, .val (.int nA), .val (.int ca), .val (.int cb), .val (.int (if ((XT.ushr p1 (18 : Int32)) &&& (1 : Int32)) = (0 : Int32) then (0 : Int32) else (1 : Int32))), .val (.int (if ((XT.ushr p1 (19 : Int32)) &&& (1 : Int32)) = (0 : Int32) then (0 : Int32) else (1 : Int32))), .val (.int (if ((XT.ushr p1 (20 : Int32)) &&& (1 : Int32)) = (0 : Int32) then (0 : Int32) else (1 : Int32))), .val (.int nB), .val (.int da), .val (.int db), .val (.int sA), .val (.int sB), .val (.int fA), .val (.int fB), .val (.ref b20), .val (.ref b34), .val (.int (own_eqv nA nB ca da cb db)), .val (.int (0 : Int32))] [(.int (1 : Int32))]) _
            exact k
          obtain ⟨fs, hr, hrun, hended, hEnd⟩ := X59.leaveW hS42 (by rw [e59]; exact (Nat.le_trans (Nat.le_refl _) (Nat.le_trans (Nat.le_refl _) K45.1))) (v := some (.int (1 : Int32))) (fun h => by rw [Bd.returns] at h; cases h)
          refine ⟨_, _, pre_64 _ ?_, hrun, hended, _, _, rfl, ?_, hEnd.1, hEnd.2.1, hEnd.2.2.1, hEnd.2.2.2.mono (by decide) (by decide)⟩
          · show Sp p e below T59 (mkF m 308 #[.val (.int p1), .val (.int p2), .val (.long p3), .second, .val (.long p4), .second, .val (.long p5), .second, .val (.int nA), .val (.int ca), .val (.int cb), .val (.int (if ((XT.ushr p1 (18 : Int32)) &&& (1 : Int32)) = (0 : Int32) then (0 : Int32) else (1 : Int32))), .val (.int (if ((XT.ushr p1 (19 : Int32)) &&& (1 : Int32)) = (0 : Int32) then (0 : Int32) else (1 : Int32))), .val (.int (if ((XT.ushr p1 (20 : Int32)) &&& (1 : Int32)) = (0 : Int32) then (0 : Int32) else (1 : Int32))), .val (.int nB), .val (.int da), .val (.int db), .val (.int sA), .val (.int sB), .val (.int fA), .val (.int fB), .val (.ref b20), .val (.ref b34), .val (.int (own_eqv nA nB ca da cb db)), .val (.int (0 : Int32))] [(.int (1 : Int32))]) _
            exact retN X59 hx (t := .boolean) Bd.returns (by simp) (hb hby at_308) hr
          · show Q_law Z _ _ _ _ _ _ h0 n0 _ T59.vm T59.heap _
            rw [e59]
            exact ⟨rfl, N59⟩
        · skip
          have pre_65 : ∀ t, Sp p e below T59 (mkF m 308 #[.val (.int p1), .val (.int p2), .val (.long p3), .second, .val (.long p4), .second, .val (.long p5), .second, .val (.int nA), .val (.int ca), .val (.int cb), .val (.int (if ((XT.ushr p1 (18 : Int32)) &&& (1 : Int32)) = (0 : Int32) then (0 : Int32) else (1 : Int32))), .val (.int (if ((XT.ushr p1 (19 : Int32)) &&& (1 : Int32)) = (0 : Int32) then (0 : Int32) else (1 : Int32))), .val (.int (if ((XT.ushr p1 (20 : Int32)) &&& (1 : Int32)) = (0 : Int32) then (0 : Int32) else (1 : Int32))), .val (.int nB), .val (.int da), .val (.int db), .val (.int sA), .val (.int sB), .val (.int fA), .val (.int fB), .val (.ref b20), .val (.ref b34), .val (.int (own_eqv nA nB ca da cb db)), .val (.int (0 : Int32))] [(.int (1 : Int32))]) t → Steps p.tables e below E0 t := by
            intro t k
            refine pre_61 t ?_
            show Sp p e below T59 (mkF m 300 #[.val (.int p1), .val (.int p2), .val (.long p3), .second, .val (.long p4), .second, .val (.long p5), .second, .val (.int nA), .val (.int ca), .val (.int cb), .val (.int (if ((XT.ushr p1 (18 : Int32)) &&& (1 : Int32)) = (0 : Int32) then (0 : Int32) else (1 : Int32))), .val (.int (if ((XT.ushr p1 (19 : Int32)) &&& (1 : Int32)) = (0 : Int32) then (0 : Int32) else (1 : Int32))), .val (.int (if ((XT.ushr p1 (20 : Int32)) &&& (1 : Int32)) = (0 : Int32) then (0 : Int32) else (1 : Int32))), .val (.int nB), .val (.int da), .val (.int db), .val (.int sA), .val (.int sB), .val (.int fA), .val (.int fB), .val (.ref b20), .val (.ref b34), .val (.int (own_eqv nA nB ca da cb db)), .val (.int (0 : Int32))] [(.int (0 : Int32)), (.int (if fA = fB then (if sA = sB then (own_eqv nA nB ca da cb db) else (0 : Int32)) else (0 : Int32)))]) _
            refine XS.icmpNo X59.here hx rfl (hb hby at_300) rfl (XT.ii_ne_f (by simp only [if_pos hc62, if_neg hc63] <;> decide)) ?_
            refine XS.iconst X59.here hx rfl (hb hby at_303) ?_
            refine XS.goto X59.here hx rfl (pc0 := 304) (pc' := 308) rfl (hb hby at_304) (by decide) (by decide) ?_
            show Sp p e below T59 (mkF m 308 #[.val (.int p1), .val (.int p2), .val (.long p3), .second, .val (.long p4), .second, .val (.long p5), .second, .val (.int nA), .val (.int ca), .val (.int cb), .val (.int (if ((XT.ushr p1 (18 : Int32)) &&& (1 : Int32)) = (0 : Int32) then (0 : Int32) else (1 : Int32))), .val (.int (if ((XT.ushr p1 (19 : Int32)) &&& (1 : Int32)) = (0 : Int32) then (0 : Int32) else (1 : Int32))), .val (.int (if ((XT.ushr p1 (20 : Int32)) &&& (1 : Int32)) = (0 : Int32) then (0 : Int32) else (1 : Int32))), .val (.int nB), .val (.int da), .val (.int db), .val (.int sA), .val (.int sB), .val (.int fA), .val (.int fB), .val (.ref b20), .val (.ref b34), .val (.int (own_eqv nA nB ca da cb db)), .val (.int (0 : Int32))] [(.int (1 : Int32))]) _
            exact k
          obtain ⟨fs, hr, hrun, hended, hEnd⟩ := X59.leaveW hS42 (by rw [e59]; exact (Nat.le_trans (Nat.le_refl _) (Nat.le_trans (Nat.le_refl _) K45.1))) (v := some (.int (1 : Int32))) (fun h => by rw [Bd.returns] at h; cases h)
          refine ⟨_, _, pre_65 _ ?_, hrun, hended, _, _, rfl, ?_, hEnd.1, hEnd.2.1, hEnd.2.2.1, hEnd.2.2.2.mono (by decide) (by decide)⟩
          · show Sp p e below T59 (mkF m 308 #[.val (.int p1), .val (.int p2), .val (.long p3), .second, .val (.long p4), .second, .val (.long p5), .second, .val (.int nA), .val (.int ca), .val (.int cb), .val (.int (if ((XT.ushr p1 (18 : Int32)) &&& (1 : Int32)) = (0 : Int32) then (0 : Int32) else (1 : Int32))), .val (.int (if ((XT.ushr p1 (19 : Int32)) &&& (1 : Int32)) = (0 : Int32) then (0 : Int32) else (1 : Int32))), .val (.int (if ((XT.ushr p1 (20 : Int32)) &&& (1 : Int32)) = (0 : Int32) then (0 : Int32) else (1 : Int32))), .val (.int nB), .val (.int da), .val (.int db), .val (.int sA), .val (.int sB), .val (.int fA), .val (.int fB), .val (.ref b20), .val (.ref b34), .val (.int (own_eqv nA nB ca da cb db)), .val (.int (0 : Int32))] [(.int (1 : Int32))]) _
            exact retN X59 hx (t := .boolean) Bd.returns (by simp) (hb hby at_308) hr
          · show Q_law Z _ _ _ _ _ _ h0 n0 _ T59.vm T59.heap _
            rw [e59]
            exact ⟨rfl, N59⟩
      · skip
        have pre_66 : ∀ t, Sp p e below T59 (mkF m 308 #[.val (.int p1), .val (.int p2), .val (.long p3), .second, .val (.long p4), .second, .val (.long p5), .second, .val (.int nA), .val (.int ca), .val (.int cb), .val (.int (if ((XT.ushr p1 (18 : Int32)) &&& (1 : Int32)) = (0 : Int32) then (0 : Int32) else (1 : Int32))), .val (.int (if ((XT.ushr p1 (19 : Int32)) &&& (1 : Int32)) = (0 : Int32) then (0 : Int32) else (1 : Int32))), .val (.int (if ((XT.ushr p1 (20 : Int32)) &&& (1 : Int32)) = (0 : Int32) then (0 : Int32) else (1 : Int32))), .val (.int nB), .val (.int da), .val (.int db), .val (.int sA), .val (.int sB), .val (.int fA), .val (.int fB), .val (.ref b20), .val (.ref b34), .val (.int (own_eqv nA nB ca da cb db)), .val (.int (0 : Int32))] [(.int (1 : Int32))]) t → Steps p.tables e below E0 t := by
          intro t k
          refine pre_61 t ?_
          show Sp p e below T59 (mkF m 300 #[.val (.int p1), .val (.int p2), .val (.long p3), .second, .val (.long p4), .second, .val (.long p5), .second, .val (.int nA), .val (.int ca), .val (.int cb), .val (.int (if ((XT.ushr p1 (18 : Int32)) &&& (1 : Int32)) = (0 : Int32) then (0 : Int32) else (1 : Int32))), .val (.int (if ((XT.ushr p1 (19 : Int32)) &&& (1 : Int32)) = (0 : Int32) then (0 : Int32) else (1 : Int32))), .val (.int (if ((XT.ushr p1 (20 : Int32)) &&& (1 : Int32)) = (0 : Int32) then (0 : Int32) else (1 : Int32))), .val (.int nB), .val (.int da), .val (.int db), .val (.int sA), .val (.int sB), .val (.int fA), .val (.int fB), .val (.ref b20), .val (.ref b34), .val (.int (own_eqv nA nB ca da cb db)), .val (.int (0 : Int32))] [(.int (0 : Int32)), (.int (if fA = fB then (if sA = sB then (own_eqv nA nB ca da cb db) else (0 : Int32)) else (0 : Int32)))]) _
          refine XS.icmpNo X59.here hx rfl (hb hby at_300) rfl (XT.ii_ne_f (by simp only [if_neg hc62] <;> decide)) ?_
          refine XS.iconst X59.here hx rfl (hb hby at_303) ?_
          refine XS.goto X59.here hx rfl (pc0 := 304) (pc' := 308) rfl (hb hby at_304) (by decide) (by decide) ?_
          show Sp p e below T59 (mkF m 308 #[.val (.int p1), .val (.int p2), .val (.long p3), .second, .val (.long p4), .second, .val (.long p5), .second, .val (.int nA), .val (.int ca), .val (.int cb), .val (.int (if ((XT.ushr p1 (18 : Int32)) &&& (1 : Int32)) = (0 : Int32) then (0 : Int32) else (1 : Int32))), .val (.int (if ((XT.ushr p1 (19 : Int32)) &&& (1 : Int32)) = (0 : Int32) then (0 : Int32) else (1 : Int32))), .val (.int (if ((XT.ushr p1 (20 : Int32)) &&& (1 : Int32)) = (0 : Int32) then (0 : Int32) else (1 : Int32))), .val (.int nB), .val (.int da), .val (.int db), .val (.int sA), .val (.int sB), .val (.int fA), .val (.int fB), .val (.ref b20), .val (.ref b34), .val (.int (own_eqv nA nB ca da cb db)), .val (.int (0 : Int32))] [(.int (1 : Int32))]) _
          exact k
        obtain ⟨fs, hr, hrun, hended, hEnd⟩ := X59.leaveW hS42 (by rw [e59]; exact (Nat.le_trans (Nat.le_refl _) (Nat.le_trans (Nat.le_refl _) K45.1))) (v := some (.int (1 : Int32))) (fun h => by rw [Bd.returns] at h; cases h)
        refine ⟨_, _, pre_66 _ ?_, hrun, hended, _, _, rfl, ?_, hEnd.1, hEnd.2.1, hEnd.2.2.1, hEnd.2.2.2.mono (by decide) (by decide)⟩
        · show Sp p e below T59 (mkF m 308 #[.val (.int p1), .val (.int p2), .val (.long p3), .second, .val (.long p4), .second, .val (.long p5), .second, .val (.int nA), .val (.int ca), .val (.int cb), .val (.int (if ((XT.ushr p1 (18 : Int32)) &&& (1 : Int32)) = (0 : Int32) then (0 : Int32) else (1 : Int32))), .val (.int (if ((XT.ushr p1 (19 : Int32)) &&& (1 : Int32)) = (0 : Int32) then (0 : Int32) else (1 : Int32))), .val (.int (if ((XT.ushr p1 (20 : Int32)) &&& (1 : Int32)) = (0 : Int32) then (0 : Int32) else (1 : Int32))), .val (.int nB), .val (.int da), .val (.int db), .val (.int sA), .val (.int sB), .val (.int fA), .val (.int fB), .val (.ref b20), .val (.ref b34), .val (.int (own_eqv nA nB ca da cb db)), .val (.int (0 : Int32))] [(.int (1 : Int32))]) _
          exact retN X59 hx (t := .boolean) Bd.returns (by simp) (hb hby at_308) hr
        · show Q_law Z _ _ _ _ _ _ h0 n0 _ T59.vm T59.heap _
          rw [e59]
          exact ⟨rfl, N59⟩
    · skip
      have pre_67 : ∀ t, Sp p e below T45 (mkF m 274 #[.val (.int p1), .val (.int p2), .val (.long p3), .second, .val (.long p4), .second, .val (.long p5), .second, .val (.int nA), .val (.int ca), .val (.int cb), .val (.int (if ((XT.ushr p1 (18 : Int32)) &&& (1 : Int32)) = (0 : Int32) then (0 : Int32) else (1 : Int32))), .val (.int (if ((XT.ushr p1 (19 : Int32)) &&& (1 : Int32)) = (0 : Int32) then (0 : Int32) else (1 : Int32))), .val (.int (if ((XT.ushr p1 (20 : Int32)) &&& (1 : Int32)) = (0 : Int32) then (0 : Int32) else (1 : Int32))), .val (.int nB), .val (.int da), .val (.int db), .val (.int sA), .val (.int sB), .val (.int fA), .val (.int fB), .val (.ref b20), .val (.ref b34), .val (.int (own_eqv nA nB ca da cb db)), .unset] [(.int sB), (.int sA)]) t → Steps p.tables e below E0 t := by
        intro t k
        refine pre_57 t ?_
        show Sp p e below T45 (mkF m 265 #[.val (.int p1), .val (.int p2), .val (.long p3), .second, .val (.long p4), .second, .val (.long p5), .second, .val (.int nA), .val (.int ca), .val (.int cb), .val (.int (if ((XT.ushr p1 (18 : Int32)) &&& (1 : Int32)) = (0 : Int32) then (0 : Int32) else (1 : Int32))), .val (.int (if ((XT.ushr p1 (19 : Int32)) &&& (1 : Int32)) = (0 : Int32) then (0 : Int32) else (1 : Int32))), .val (.int (if ((XT.ushr p1 (20 : Int32)) &&& (1 : Int32)) = (0 : Int32) then (0 : Int32) else (1 : Int32))), .val (.int nB), .val (.int da), .val (.int db), .val (.int sA), .val (.int sB), .val (.int fA), .val (.int fB), .val (.ref b20), .val (.ref b34), .val (.int (own_eqv nA nB ca da cb db)), .unset] []) _
        refine XS.iload X45.here hx rfl (hb hby at_265) rfl ?_
        refine XS.ifNo X45.here hx rfl (hb hby at_267) rfl (XT.i0_eq_f (by rw [hv]; decide)) ?_
        show Sp p e below T45 (mkF m 270 #[.val (.int p1), .val (.int p2), .val (.long p3), .second, .val (.long p4), .second, .val (.long p5), .second, .val (.int nA), .val (.int ca), .val (.int cb), .val (.int (if ((XT.ushr p1 (18 : Int32)) &&& (1 : Int32)) = (0 : Int32) then (0 : Int32) else (1 : Int32))), .val (.int (if ((XT.ushr p1 (19 : Int32)) &&& (1 : Int32)) = (0 : Int32) then (0 : Int32) else (1 : Int32))), .val (.int (if ((XT.ushr p1 (20 : Int32)) &&& (1 : Int32)) = (0 : Int32) then (0 : Int32) else (1 : Int32))), .val (.int nB), .val (.int da), .val (.int db), .val (.int sA), .val (.int sB), .val (.int fA), .val (.int fB), .val (.ref b20), .val (.ref b34), .val (.int (own_eqv nA nB ca da cb db)), .unset] []) _
        refine XS.iload X45.here hx rfl (hb hby at_270) rfl ?_
        refine XS.iload X45.here hx rfl (hb hby at_272) rfl ?_
        exact k
      by_cases hc68 : sA = sB
      · skip
        have pre_69 : ∀ t, Sp p e below T45 (mkF m 281 #[.val (.int p1), .val (.int p2), .val (.long p3), .second, .val (.long p4), .second, .val (.long p5), .second, .val (.int nA), .val (.int ca), .val (.int cb), .val (.int (if ((XT.ushr p1 (18 : Int32)) &&& (1 : Int32)) = (0 : Int32) then (0 : Int32) else (1 : Int32))), .val (.int (if ((XT.ushr p1 (19 : Int32)) &&& (1 : Int32)) = (0 : Int32) then (0 : Int32) else (1 : Int32))), .val (.int (if ((XT.ushr p1 (20 : Int32)) &&& (1 : Int32)) = (0 : Int32) then (0 : Int32) else (1 : Int32))), .val (.int nB), .val (.int da), .val (.int db), .val (.int sA), .val (.int sB), .val (.int fA), .val (.int fB), .val (.ref b20), .val (.ref b34), .val (.int (own_eqv nA nB ca da cb db)), .unset] [(.int fB), (.int fA)]) t → Steps p.tables e below E0 t := by
          intro t k
          refine pre_67 t ?_
          show Sp p e below T45 (mkF m 274 #[.val (.int p1), .val (.int p2), .val (.long p3), .second, .val (.long p4), .second, .val (.long p5), .second, .val (.int nA), .val (.int ca), .val (.int cb), .val (.int (if ((XT.ushr p1 (18 : Int32)) &&& (1 : Int32)) = (0 : Int32) then (0 : Int32) else (1 : Int32))), .val (.int (if ((XT.ushr p1 (19 : Int32)) &&& (1 : Int32)) = (0 : Int32) then (0 : Int32) else (1 : Int32))), .val (.int (if ((XT.ushr p1 (20 : Int32)) &&& (1 : Int32)) = (0 : Int32) then (0 : Int32) else (1 : Int32))), .val (.int nB), .val (.int da), .val (.int db), .val (.int sA), .val (.int sB), .val (.int fA), .val (.int fB), .val (.ref b20), .val (.ref b34), .val (.int (own_eqv nA nB ca da cb db)), .unset] [(.int sB), (.int sA)]) _
          refine XS.icmpNo X45.here hx rfl (hb hby at_274) rfl (XT.ii_ne_f hc68) ?_
          refine XS.iload X45.here hx rfl (hb hby at_277) rfl ?_
          show Sp p e below T45 (mkF m 279 #[.val (.int p1), .val (.int p2), .val (.long p3), .second, .val (.long p4), .second, .val (.long p5), .second, .val (.int nA), .val (.int ca), .val (.int cb), .val (.int (if ((XT.ushr p1 (18 : Int32)) &&& (1 : Int32)) = (0 : Int32) then (0 : Int32) else (1 : Int32))), .val (.int (if ((XT.ushr p1 (19 : Int32)) &&& (1 : Int32)) = (0 : Int32) then (0 : Int32) else (1 : Int32))), .val (.int (if ((XT.ushr p1 (20 : Int32)) &&& (1 : Int32)) = (0 : Int32) then (0 : Int32) else (1 : Int32))), .val (.int nB), .val (.int da), .val (.int db), .val (.int sA), .val (.int sB), .val (.int fA), .val (.int fB), .val (.ref b20), .val (.ref b34), .val (.int (own_eqv nA nB ca da cb db)), .unset] [(.int fA)]) _
          refine XS.iload X45.here hx rfl (hb hby at_279) rfl ?_
          exact k
        by_cases hc70 : fA = fB
        · skip
          have pre_71 : ∀ t, Sp p e below T45 (mkF m 295 #[.val (.int p1), .val (.int p2), .val (.long p3), .second, .val (.long p4), .second, .val (.long p5), .second, .val (.int nA), .val (.int ca), .val (.int cb), .val (.int (if ((XT.ushr p1 (18 : Int32)) &&& (1 : Int32)) = (0 : Int32) then (0 : Int32) else (1 : Int32))), .val (.int (if ((XT.ushr p1 (19 : Int32)) &&& (1 : Int32)) = (0 : Int32) then (0 : Int32) else (1 : Int32))), .val (.int (if ((XT.ushr p1 (20 : Int32)) &&& (1 : Int32)) = (0 : Int32) then (0 : Int32) else (1 : Int32))), .val (.int nB), .val (.int da), .val (.int db), .val (.int sA), .val (.int sB), .val (.int fA), .val (.int fB), .val (.ref b20), .val (.ref b34), .val (.int (own_eqv nA nB ca da cb db)), .val (.int (1 : Int32))] [(.ref b34), (.ref b20)]) t → Steps p.tables e below E0 t := by
            intro t k
            refine pre_69 t ?_
            show Sp p e below T45 (mkF m 281 #[.val (.int p1), .val (.int p2), .val (.long p3), .second, .val (.long p4), .second, .val (.long p5), .second, .val (.int nA), .val (.int ca), .val (.int cb), .val (.int (if ((XT.ushr p1 (18 : Int32)) &&& (1 : Int32)) = (0 : Int32) then (0 : Int32) else (1 : Int32))), .val (.int (if ((XT.ushr p1 (19 : Int32)) &&& (1 : Int32)) = (0 : Int32) then (0 : Int32) else (1 : Int32))), .val (.int (if ((XT.ushr p1 (20 : Int32)) &&& (1 : Int32)) = (0 : Int32) then (0 : Int32) else (1 : Int32))), .val (.int nB), .val (.int da), .val (.int db), .val (.int sA), .val (.int sB), .val (.int fA), .val (.int fB), .val (.ref b20), .val (.ref b34), .val (.int (own_eqv nA nB ca da cb db)), .unset] [(.int fB), (.int fA)]) _
            refine XS.icmpNo X45.here hx rfl (hb hby at_281) rfl (XT.ii_ne_f hc70) ?_
            refine XS.iconst X45.here hx rfl (hb hby at_284) ?_
            refine XS.goto X45.here hx rfl (pc0 := 285) (pc' := 289) rfl (hb hby at_285) (by decide) (by decide) ?_
            show Sp p e below T45 (mkF m 289 #[.val (.int p1), .val (.int p2), .val (.long p3), .second, .val (.long p4), .second, .val (.long p5), .second, .val (.int nA), .val (.int ca), .val (.int cb), .val (.int (if ((XT.ushr p1 (18 : Int32)) &&& (1 : Int32)) = (0 : Int32) then (0 : Int32) else (1 : Int32))), .val (.int (if ((XT.ushr p1 (19 : Int32)) &&& (1 : Int32)) = (0 : Int32) then (0 : Int32) else (1 : Int32))), .val (.int (if ((XT.ushr p1 (20 : Int32)) &&& (1 : Int32)) = (0 : Int32) then (0 : Int32) else (1 : Int32))), .val (.int nB), .val (.int da), .val (.int db), .val (.int sA), .val (.int sB), .val (.int fA), .val (.int fB), .val (.ref b20), .val (.ref b34), .val (.int (own_eqv nA nB ca da cb db)), .unset] [(.int (1 : Int32))]) _
            refine XS.istore X45.here hx rfl (hb hby at_289) rfl (l' := #[.val (.int p1), .val (.int p2), .val (.long p3), .second, .val (.long p4), .second, .val (.long p5), .second, .val (.int nA), .val (.int ca), .val (.int cb), .val (.int (if ((XT.ushr p1 (18 : Int32)) &&& (1 : Int32)) = (0 : Int32) then (0 : Int32) else (1 : Int32))), .val (.int (if ((XT.ushr p1 (19 : Int32)) &&& (1 : Int32)) = (0 : Int32) then (0 : Int32) else (1 : Int32))), .val (.int (if ((XT.ushr p1 (20 : Int32)) &&& (1 : Int32)) = (0 : Int32) then (0 : Int32) else (1 : Int32))), .val (.int nB), .val (.int da), .val (.int db), .val (.int sA), .val (.int sB), .val (.int fA), .val (.int fB), .val (.ref b20), .val (.ref b34), .val (.int (own_eqv nA nB ca da cb db)), .val (.int (1 : Int32))]) rfl ?_
            refine XS.aload X45.here hx rfl (hb hby at_291) rfl rfl ?_
            refine XS.aload X45.here hx rfl (hb hby at_293) rfl rfl ?_
            exact k
          obtain ⟨cq72, kq72, qa72, qb72, qc72⟩ := isOf hZ42 rfl (((((A20.keep K28).keep K31).ext E34).keep K42).keep K45)
          obtain ⟨_, _, ⟨T72, L72, k72, n72⟩, -, X72, ⟨Lc72, hQ72, l72, y72, z72⟩, st72⟩ := X45.virtualBack hx (y := (⟨"com/example/vaxwire/vaxwire/hl7/Location", "inFieldOf", "(Lcom/example/vaxwire/vaxwire/hl7/Location;)Z"⟩ : MethodName)) (z := (⟨"com/example/vaxwire/vaxwire/hl7/Location", "inFieldOf", "(Lcom/example/vaxwire/vaxwire/hl7/Location;)Z"⟩ : MethodName)) ho42 (mvT hZ42 (own_w hw 48 rfl)) (mvT hZ42 (own_w hw 49 rfl)) (notFace_of_selects (args := #[]) (mvT hZ42 (own_w hw 51 rfl))) (mvT hZ42 (own_w hw 51 rfl)) (mvT hZ42 (own_w hw 50 rfl)) (by decide) (backOf (W := 0) (rm_inf l Z a0 hw [] b20 b34 sA fA sB fB a28 a42 b28 b42 G1 kB28 kB42 nA nB ca cb da db T45.heap n0 O45 (((Fa31.ext E34).keep K42 nin0).keep K45 (ninS (Nat.ne_of_lt (Nat.lt_of_lt_of_le ((A20.keep K28).keep K31).lt (Nat.le_of_eq g34.symm))) nin0)) (((Fb31.ext E34).keep K42 nin0).keep K45 (ninS (Nat.ne_of_lt (Nat.lt_of_lt_of_le ((A20.keep K28).keep K31).lt (Nat.le_of_eq g34.symm))) nin0)) (((Fd31.ext E34).keep K42 nin0).keep K45 (ninS (Nat.ne_of_lt (Nat.lt_of_lt_of_le ((A20.keep K28).keep K31).lt (Nat.le_of_eq g34.symm))) nin0)) Fa45 Fb45 Fd45 ((((Ea28.keep K31).ext E34).keep K42).keep K45) (Ea42.keep K45) ((((Fc28.keep K31 (ninS (Ne.symm (Nat.ne_of_lt (Nat.lt_of_lt_of_le A20.lt sa28))) nin0)).ext E34).keep K42 nin0).keep K45 (ninS (Nat.ne_of_lt (Nat.lt_of_lt_of_le (Ea28.keep K31).lt (Nat.le_of_eq g34.symm))) nin0)) (Fc42.keep K45 (ninS (Ne.symm (Nat.ne_of_lt (Nat.lt_of_lt_of_le A34.lt sa42))) nin0)) ((((Fv28.keep K31 (ninS (Ne.symm (Nat.ne_of_lt (Nat.lt_of_lt_of_le A20.lt sa28))) nin0)).ext E34).keep K42 nin0).keep K45 (ninS (Nat.ne_of_lt (Nat.lt_of_lt_of_le (Ea28.keep K31).lt (Nat.le_of_eq g34.symm))) nin0)) (Fv42.keep K45 (ninS (Ne.symm (Nat.ne_of_lt (Nat.lt_of_lt_of_le A34.lt sa42))) nin0)) ((((Ab28.keep K31 (ninS (Ne.symm (own_neAr (A20.keep K28) Ab28 (own_w hw 1 rfl))) nin0)).ext E34).keep K42 nin0).keep K45 (ninS (Nat.ne_of_lt (Nat.lt_of_lt_of_le (Ab28.keep K31 (ninS (Ne.symm (own_neAr (A20.keep K28) Ab28 (own_w hw 1 rfl))) nin0)).lt (Nat.le_of_eq g34.symm))) nin0)) (Ab42.keep K45 (ninS (Ne.symm (own_neAr (A34.keep K42) Ab42 (own_w hw 1 rfl))) nin0)) (Nat.ne_of_lt (Nat.lt_of_lt_of_le ((Ea28.keep K31).ext E34).lt sa42)) SC hG hca.2 hcb.2 hda.2 hdb.2) hZ42 (own_w hw 52 rfl) (own_w hw 2 rfl) (by decide) (by decide)) qa72 qc72 (g := (mkF m 295 #[.val (.int p1), .val (.int p2), .val (.long p3), .second, .val (.long p4), .second, .val (.long p5), .second, .val (.int nA), .val (.int ca), .val (.int cb), .val (.int (if ((XT.ushr p1 (18 : Int32)) &&& (1 : Int32)) = (0 : Int32) then (0 : Int32) else (1 : Int32))), .val (.int (if ((XT.ushr p1 (19 : Int32)) &&& (1 : Int32)) = (0 : Int32) then (0 : Int32) else (1 : Int32))), .val (.int (if ((XT.ushr p1 (20 : Int32)) &&& (1 : Int32)) = (0 : Int32) then (0 : Int32) else (1 : Int32))), .val (.int nB), .val (.int da), .val (.int db), .val (.int sA), .val (.int sB), .val (.int fA), .val (.int fB), .val (.ref b20), .val (.ref b34), .val (.int (own_eqv nA nB ca da cb db)), .val (.int (1 : Int32))] [(.ref b34), (.ref b20)])) rfl (by rw [hml]; rfl) (Steps.refl _) (argsL := [(.ref b34)]) (rest := []) (lenOf pd_law_2 rfl) rfl (by show 2 * 0 + _ ≤ _; exact Nat.le_of_eq rfl) (hb hby at_295) (fun _ _ => ⟨rfl, rfl, (by decide : 10 + 0 ≤ _), (by decide : 30 + 0 ≤ _)⟩)
          dsimp only [Pt.U, Pt.locs, Pt.cells, Pt.slots] at X72 l72 y72 z72 st72 hQ72
          subst l72 y72 z72
          obtain ⟨rfl, N72q, e72⟩ := hQ72
          have N72 := Fr.app N45 N72q
          have pre_73 : ∀ t, Sp p e below T72 (mkF m 298 #[.val (.int p1), .val (.int p2), .val (.long p3), .second, .val (.long p4), .second, .val (.long p5), .second, .val (.int nA), .val (.int ca), .val (.int cb), .val (.int (if ((XT.ushr p1 (18 : Int32)) &&& (1 : Int32)) = (0 : Int32) then (0 : Int32) else (1 : Int32))), .val (.int (if ((XT.ushr p1 (19 : Int32)) &&& (1 : Int32)) = (0 : Int32) then (0 : Int32) else (1 : Int32))), .val (.int (if ((XT.ushr p1 (20 : Int32)) &&& (1 : Int32)) = (0 : Int32) then (0 : Int32) else (1 : Int32))), .val (.int nB), .val (.int da), .val (.int db), .val (.int sA), .val (.int sB), .val (.int fA), .val (.int fB), .val (.ref b20), .val (.ref b34), .val (.int (own_eqv nA nB ca da cb db)), .val (.int (1 : Int32))] [(.int (if fA = fB then (if sA = sB then (own_eqv nA nB ca da cb db) else (0 : Int32)) else (0 : Int32)))]) t → Steps p.tables e below E0 t := fun t k => pre_71 t (st72.trans k)
          have pre_74 : ∀ t, Sp p e below T72 (mkF m 308 #[.val (.int p1), .val (.int p2), .val (.long p3), .second, .val (.long p4), .second, .val (.long p5), .second, .val (.int nA), .val (.int ca), .val (.int cb), .val (.int (if ((XT.ushr p1 (18 : Int32)) &&& (1 : Int32)) = (0 : Int32) then (0 : Int32) else (1 : Int32))), .val (.int (if ((XT.ushr p1 (19 : Int32)) &&& (1 : Int32)) = (0 : Int32) then (0 : Int32) else (1 : Int32))), .val (.int (if ((XT.ushr p1 (20 : Int32)) &&& (1 : Int32)) = (0 : Int32) then (0 : Int32) else (1 : Int32))), .val (.int nB), .val (.int da), .val (.int db), .val (.int sA), .val (.int sB), .val (.int fA), .val (.int fB), .val (.ref b20), .val (.ref b34), .val (.int (own_eqv nA nB ca da cb db)), .val (.int (1 : Int32))] [(.int (1 : Int32))]) t → Steps p.tables e below E0 t := by
            intro t k
            refine pre_73 t ?_
            show Sp p e below T72 (mkF m 298 #[.val (.int p1), .val (.int p2), .val (.long p3), .second, .val (.long p4), .second, .val (.long p5), .second, .val (.int nA), .val (.int ca), .val (.int cb), .val (.int (if ((XT.ushr p1 (18 : Int32)) &&& (1 : Int32)) = (0 : Int32) then (0 : Int32) else (1 : Int32))), .val (.int (if ((XT.ushr p1 (19 : Int32)) &&& (1 : Int32)) = (0 : Int32) then (0 : Int32) else (1 : Int32))), .val (.int (if ((XT.ushr p1 (20 : Int32)) &&& (1 : Int32)) = (0 : Int32) then (0 : Int32) else (1 : Int32))), .val (.int nB), .val (.int da), .val (.int db), .val (.int sA), .val (.int sB), .val (.int fA), .val (.int fB), .val (.ref b20), .val (.ref b34), .val (.int (own_eqv nA nB ca da cb db)), .val (.int (1 : Int32))] [(.int (if fA = fB then (if sA = sB then (own_eqv nA nB ca da cb db) else (0 : Int32)) else (0 : Int32)))]) _
            refine XS.iload X72.here hx rfl (hb hby at_298) rfl ?_
            show Sp p e below T72 (mkF m 300 #[.val (.int p1), .val (.int p2), .val (.long p3), .second, .val (.long p4), .second, .val (.long p5), .second, .val (.int nA), .val (.int ca), .val (.int cb), .val (.int (if ((XT.ushr p1 (18 : Int32)) &&& (1 : Int32)) = (0 : Int32) then (0 : Int32) else (1 : Int32))), .val (.int (if ((XT.ushr p1 (19 : Int32)) &&& (1 : Int32)) = (0 : Int32) then (0 : Int32) else (1 : Int32))), .val (.int (if ((XT.ushr p1 (20 : Int32)) &&& (1 : Int32)) = (0 : Int32) then (0 : Int32) else (1 : Int32))), .val (.int nB), .val (.int da), .val (.int db), .val (.int sA), .val (.int sB), .val (.int fA), .val (.int fB), .val (.ref b20), .val (.ref b34), .val (.int (own_eqv nA nB ca da cb db)), .val (.int (1 : Int32))] [(.int (1 : Int32)), (.int (if fA = fB then (if sA = sB then (own_eqv nA nB ca da cb db) else (0 : Int32)) else (0 : Int32)))]) _
            refine XS.icmpNo X72.here hx rfl (hb hby at_300) rfl (XT.ii_ne_f (by simp only [if_pos hc70, if_pos hc68]; exact hv)) ?_
            refine XS.iconst X72.here hx rfl (hb hby at_303) ?_
            refine XS.goto X72.here hx rfl (pc0 := 304) (pc' := 308) rfl (hb hby at_304) (by decide) (by decide) ?_
            exact k
          obtain ⟨fs, hr, hrun, hended, hEnd⟩ := X72.leaveW hS42 (by rw [e72]; exact (Nat.le_trans (Nat.le_refl _) (Nat.le_trans (Nat.le_refl _) K45.1))) (v := some (.int (1 : Int32))) (fun h => by rw [Bd.returns] at h; cases h)
          refine ⟨_, _, pre_74 _ ?_, hrun, hended, _, _, rfl, ?_, hEnd.1, hEnd.2.1, hEnd.2.2.1, hEnd.2.2.2.mono (by decide) (by decide)⟩
          · show Sp p e below T72 (mkF m 308 #[.val (.int p1), .val (.int p2), .val (.long p3), .second, .val (.long p4), .second, .val (.long p5), .second, .val (.int nA), .val (.int ca), .val (.int cb), .val (.int (if ((XT.ushr p1 (18 : Int32)) &&& (1 : Int32)) = (0 : Int32) then (0 : Int32) else (1 : Int32))), .val (.int (if ((XT.ushr p1 (19 : Int32)) &&& (1 : Int32)) = (0 : Int32) then (0 : Int32) else (1 : Int32))), .val (.int (if ((XT.ushr p1 (20 : Int32)) &&& (1 : Int32)) = (0 : Int32) then (0 : Int32) else (1 : Int32))), .val (.int nB), .val (.int da), .val (.int db), .val (.int sA), .val (.int sB), .val (.int fA), .val (.int fB), .val (.ref b20), .val (.ref b34), .val (.int (own_eqv nA nB ca da cb db)), .val (.int (1 : Int32))] [(.int (1 : Int32))]) _
            exact retN X72 hx (t := .boolean) Bd.returns (by simp) (hb hby at_308) hr
          · show Q_law Z _ _ _ _ _ _ h0 n0 _ T72.vm T72.heap _
            rw [e72]
            exact ⟨rfl, N72⟩
        · skip
          have pre_75 : ∀ t, Sp p e below T45 (mkF m 295 #[.val (.int p1), .val (.int p2), .val (.long p3), .second, .val (.long p4), .second, .val (.long p5), .second, .val (.int nA), .val (.int ca), .val (.int cb), .val (.int (if ((XT.ushr p1 (18 : Int32)) &&& (1 : Int32)) = (0 : Int32) then (0 : Int32) else (1 : Int32))), .val (.int (if ((XT.ushr p1 (19 : Int32)) &&& (1 : Int32)) = (0 : Int32) then (0 : Int32) else (1 : Int32))), .val (.int (if ((XT.ushr p1 (20 : Int32)) &&& (1 : Int32)) = (0 : Int32) then (0 : Int32) else (1 : Int32))), .val (.int nB), .val (.int da), .val (.int db), .val (.int sA), .val (.int sB), .val (.int fA), .val (.int fB), .val (.ref b20), .val (.ref b34), .val (.int (own_eqv nA nB ca da cb db)), .val (.int (0 : Int32))] [(.ref b34), (.ref b20)]) t → Steps p.tables e below E0 t := by
            intro t k
            refine pre_69 t ?_
            show Sp p e below T45 (mkF m 281 #[.val (.int p1), .val (.int p2), .val (.long p3), .second, .val (.long p4), .second, .val (.long p5), .second, .val (.int nA), .val (.int ca), .val (.int cb), .val (.int (if ((XT.ushr p1 (18 : Int32)) &&& (1 : Int32)) = (0 : Int32) then (0 : Int32) else (1 : Int32))), .val (.int (if ((XT.ushr p1 (19 : Int32)) &&& (1 : Int32)) = (0 : Int32) then (0 : Int32) else (1 : Int32))), .val (.int (if ((XT.ushr p1 (20 : Int32)) &&& (1 : Int32)) = (0 : Int32) then (0 : Int32) else (1 : Int32))), .val (.int nB), .val (.int da), .val (.int db), .val (.int sA), .val (.int sB), .val (.int fA), .val (.int fB), .val (.ref b20), .val (.ref b34), .val (.int (own_eqv nA nB ca da cb db)), .unset] [(.int fB), (.int fA)]) _
            refine XS.icmpYes X45.here hx rfl (pc0 := 281) (pc' := 288) rfl (hb hby at_281) rfl (XT.ii_ne_t hc70) (by decide) (by decide) ?_
            refine XS.iconst X45.here hx rfl (hb hby at_288) ?_
            refine XS.istore X45.here hx rfl (hb hby at_289) rfl (l' := #[.val (.int p1), .val (.int p2), .val (.long p3), .second, .val (.long p4), .second, .val (.long p5), .second, .val (.int nA), .val (.int ca), .val (.int cb), .val (.int (if ((XT.ushr p1 (18 : Int32)) &&& (1 : Int32)) = (0 : Int32) then (0 : Int32) else (1 : Int32))), .val (.int (if ((XT.ushr p1 (19 : Int32)) &&& (1 : Int32)) = (0 : Int32) then (0 : Int32) else (1 : Int32))), .val (.int (if ((XT.ushr p1 (20 : Int32)) &&& (1 : Int32)) = (0 : Int32) then (0 : Int32) else (1 : Int32))), .val (.int nB), .val (.int da), .val (.int db), .val (.int sA), .val (.int sB), .val (.int fA), .val (.int fB), .val (.ref b20), .val (.ref b34), .val (.int (own_eqv nA nB ca da cb db)), .val (.int (0 : Int32))]) rfl ?_
            show Sp p e below T45 (mkF m 291 #[.val (.int p1), .val (.int p2), .val (.long p3), .second, .val (.long p4), .second, .val (.long p5), .second, .val (.int nA), .val (.int ca), .val (.int cb), .val (.int (if ((XT.ushr p1 (18 : Int32)) &&& (1 : Int32)) = (0 : Int32) then (0 : Int32) else (1 : Int32))), .val (.int (if ((XT.ushr p1 (19 : Int32)) &&& (1 : Int32)) = (0 : Int32) then (0 : Int32) else (1 : Int32))), .val (.int (if ((XT.ushr p1 (20 : Int32)) &&& (1 : Int32)) = (0 : Int32) then (0 : Int32) else (1 : Int32))), .val (.int nB), .val (.int da), .val (.int db), .val (.int sA), .val (.int sB), .val (.int fA), .val (.int fB), .val (.ref b20), .val (.ref b34), .val (.int (own_eqv nA nB ca da cb db)), .val (.int (0 : Int32))] []) _
            refine XS.aload X45.here hx rfl (hb hby at_291) rfl rfl ?_
            refine XS.aload X45.here hx rfl (hb hby at_293) rfl rfl ?_
            exact k
          obtain ⟨cq76, kq76, qa76, qb76, qc76⟩ := isOf hZ42 rfl (((((A20.keep K28).keep K31).ext E34).keep K42).keep K45)
          obtain ⟨_, _, ⟨T76, L76, k76, n76⟩, -, X76, ⟨Lc76, hQ76, l76, y76, z76⟩, st76⟩ := X45.virtualBack hx (y := (⟨"com/example/vaxwire/vaxwire/hl7/Location", "inFieldOf", "(Lcom/example/vaxwire/vaxwire/hl7/Location;)Z"⟩ : MethodName)) (z := (⟨"com/example/vaxwire/vaxwire/hl7/Location", "inFieldOf", "(Lcom/example/vaxwire/vaxwire/hl7/Location;)Z"⟩ : MethodName)) ho42 (mvT hZ42 (own_w hw 48 rfl)) (mvT hZ42 (own_w hw 49 rfl)) (notFace_of_selects (args := #[]) (mvT hZ42 (own_w hw 51 rfl))) (mvT hZ42 (own_w hw 51 rfl)) (mvT hZ42 (own_w hw 50 rfl)) (by decide) (backOf (W := 0) (rm_inf l Z a0 hw [] b20 b34 sA fA sB fB a28 a42 b28 b42 G1 kB28 kB42 nA nB ca cb da db T45.heap n0 O45 (((Fa31.ext E34).keep K42 nin0).keep K45 (ninS (Nat.ne_of_lt (Nat.lt_of_lt_of_le ((A20.keep K28).keep K31).lt (Nat.le_of_eq g34.symm))) nin0)) (((Fb31.ext E34).keep K42 nin0).keep K45 (ninS (Nat.ne_of_lt (Nat.lt_of_lt_of_le ((A20.keep K28).keep K31).lt (Nat.le_of_eq g34.symm))) nin0)) (((Fd31.ext E34).keep K42 nin0).keep K45 (ninS (Nat.ne_of_lt (Nat.lt_of_lt_of_le ((A20.keep K28).keep K31).lt (Nat.le_of_eq g34.symm))) nin0)) Fa45 Fb45 Fd45 ((((Ea28.keep K31).ext E34).keep K42).keep K45) (Ea42.keep K45) ((((Fc28.keep K31 (ninS (Ne.symm (Nat.ne_of_lt (Nat.lt_of_lt_of_le A20.lt sa28))) nin0)).ext E34).keep K42 nin0).keep K45 (ninS (Nat.ne_of_lt (Nat.lt_of_lt_of_le (Ea28.keep K31).lt (Nat.le_of_eq g34.symm))) nin0)) (Fc42.keep K45 (ninS (Ne.symm (Nat.ne_of_lt (Nat.lt_of_lt_of_le A34.lt sa42))) nin0)) ((((Fv28.keep K31 (ninS (Ne.symm (Nat.ne_of_lt (Nat.lt_of_lt_of_le A20.lt sa28))) nin0)).ext E34).keep K42 nin0).keep K45 (ninS (Nat.ne_of_lt (Nat.lt_of_lt_of_le (Ea28.keep K31).lt (Nat.le_of_eq g34.symm))) nin0)) (Fv42.keep K45 (ninS (Ne.symm (Nat.ne_of_lt (Nat.lt_of_lt_of_le A34.lt sa42))) nin0)) ((((Ab28.keep K31 (ninS (Ne.symm (own_neAr (A20.keep K28) Ab28 (own_w hw 1 rfl))) nin0)).ext E34).keep K42 nin0).keep K45 (ninS (Nat.ne_of_lt (Nat.lt_of_lt_of_le (Ab28.keep K31 (ninS (Ne.symm (own_neAr (A20.keep K28) Ab28 (own_w hw 1 rfl))) nin0)).lt (Nat.le_of_eq g34.symm))) nin0)) (Ab42.keep K45 (ninS (Ne.symm (own_neAr (A34.keep K42) Ab42 (own_w hw 1 rfl))) nin0)) (Nat.ne_of_lt (Nat.lt_of_lt_of_le ((Ea28.keep K31).ext E34).lt sa42)) SC hG hca.2 hcb.2 hda.2 hdb.2) hZ42 (own_w hw 52 rfl) (own_w hw 2 rfl) (by decide) (by decide)) qa76 qc76 (g := (mkF m 295 #[.val (.int p1), .val (.int p2), .val (.long p3), .second, .val (.long p4), .second, .val (.long p5), .second, .val (.int nA), .val (.int ca), .val (.int cb), .val (.int (if ((XT.ushr p1 (18 : Int32)) &&& (1 : Int32)) = (0 : Int32) then (0 : Int32) else (1 : Int32))), .val (.int (if ((XT.ushr p1 (19 : Int32)) &&& (1 : Int32)) = (0 : Int32) then (0 : Int32) else (1 : Int32))), .val (.int (if ((XT.ushr p1 (20 : Int32)) &&& (1 : Int32)) = (0 : Int32) then (0 : Int32) else (1 : Int32))), .val (.int nB), .val (.int da), .val (.int db), .val (.int sA), .val (.int sB), .val (.int fA), .val (.int fB), .val (.ref b20), .val (.ref b34), .val (.int (own_eqv nA nB ca da cb db)), .val (.int (0 : Int32))] [(.ref b34), (.ref b20)])) rfl (by rw [hml]; rfl) (Steps.refl _) (argsL := [(.ref b34)]) (rest := []) (lenOf pd_law_2 rfl) rfl (by show 2 * 0 + _ ≤ _; exact Nat.le_of_eq rfl) (hb hby at_295) (fun _ _ => ⟨rfl, rfl, (by decide : 10 + 0 ≤ _), (by decide : 30 + 0 ≤ _)⟩)
          dsimp only [Pt.U, Pt.locs, Pt.cells, Pt.slots] at X76 l76 y76 z76 st76 hQ76
          subst l76 y76 z76
          obtain ⟨rfl, N76q, e76⟩ := hQ76
          have N76 := Fr.app N45 N76q
          have pre_77 : ∀ t, Sp p e below T76 (mkF m 298 #[.val (.int p1), .val (.int p2), .val (.long p3), .second, .val (.long p4), .second, .val (.long p5), .second, .val (.int nA), .val (.int ca), .val (.int cb), .val (.int (if ((XT.ushr p1 (18 : Int32)) &&& (1 : Int32)) = (0 : Int32) then (0 : Int32) else (1 : Int32))), .val (.int (if ((XT.ushr p1 (19 : Int32)) &&& (1 : Int32)) = (0 : Int32) then (0 : Int32) else (1 : Int32))), .val (.int (if ((XT.ushr p1 (20 : Int32)) &&& (1 : Int32)) = (0 : Int32) then (0 : Int32) else (1 : Int32))), .val (.int nB), .val (.int da), .val (.int db), .val (.int sA), .val (.int sB), .val (.int fA), .val (.int fB), .val (.ref b20), .val (.ref b34), .val (.int (own_eqv nA nB ca da cb db)), .val (.int (0 : Int32))] [(.int (if fA = fB then (if sA = sB then (own_eqv nA nB ca da cb db) else (0 : Int32)) else (0 : Int32)))]) t → Steps p.tables e below E0 t := fun t k => pre_75 t (st76.trans k)
          have pre_78 : ∀ t, Sp p e below T76 (mkF m 308 #[.val (.int p1), .val (.int p2), .val (.long p3), .second, .val (.long p4), .second, .val (.long p5), .second, .val (.int nA), .val (.int ca), .val (.int cb), .val (.int (if ((XT.ushr p1 (18 : Int32)) &&& (1 : Int32)) = (0 : Int32) then (0 : Int32) else (1 : Int32))), .val (.int (if ((XT.ushr p1 (19 : Int32)) &&& (1 : Int32)) = (0 : Int32) then (0 : Int32) else (1 : Int32))), .val (.int (if ((XT.ushr p1 (20 : Int32)) &&& (1 : Int32)) = (0 : Int32) then (0 : Int32) else (1 : Int32))), .val (.int nB), .val (.int da), .val (.int db), .val (.int sA), .val (.int sB), .val (.int fA), .val (.int fB), .val (.ref b20), .val (.ref b34), .val (.int (own_eqv nA nB ca da cb db)), .val (.int (0 : Int32))] [(.int (1 : Int32))]) t → Steps p.tables e below E0 t := by
            intro t k
            refine pre_77 t ?_
            show Sp p e below T76 (mkF m 298 #[.val (.int p1), .val (.int p2), .val (.long p3), .second, .val (.long p4), .second, .val (.long p5), .second, .val (.int nA), .val (.int ca), .val (.int cb), .val (.int (if ((XT.ushr p1 (18 : Int32)) &&& (1 : Int32)) = (0 : Int32) then (0 : Int32) else (1 : Int32))), .val (.int (if ((XT.ushr p1 (19 : Int32)) &&& (1 : Int32)) = (0 : Int32) then (0 : Int32) else (1 : Int32))), .val (.int (if ((XT.ushr p1 (20 : Int32)) &&& (1 : Int32)) = (0 : Int32) then (0 : Int32) else (1 : Int32))), .val (.int nB), .val (.int da), .val (.int db), .val (.int sA), .val (.int sB), .val (.int fA), .val (.int fB), .val (.ref b20), .val (.ref b34), .val (.int (own_eqv nA nB ca da cb db)), .val (.int (0 : Int32))] [(.int (if fA = fB then (if sA = sB then (own_eqv nA nB ca da cb db) else (0 : Int32)) else (0 : Int32)))]) _
            refine XS.iload X76.here hx rfl (hb hby at_298) rfl ?_
            refine XS.icmpNo X76.here hx rfl (hb hby at_300) rfl (XT.ii_ne_f (by simp only [if_neg hc70] <;> decide)) ?_
            show Sp p e below T76 (mkF m 303 #[.val (.int p1), .val (.int p2), .val (.long p3), .second, .val (.long p4), .second, .val (.long p5), .second, .val (.int nA), .val (.int ca), .val (.int cb), .val (.int (if ((XT.ushr p1 (18 : Int32)) &&& (1 : Int32)) = (0 : Int32) then (0 : Int32) else (1 : Int32))), .val (.int (if ((XT.ushr p1 (19 : Int32)) &&& (1 : Int32)) = (0 : Int32) then (0 : Int32) else (1 : Int32))), .val (.int (if ((XT.ushr p1 (20 : Int32)) &&& (1 : Int32)) = (0 : Int32) then (0 : Int32) else (1 : Int32))), .val (.int nB), .val (.int da), .val (.int db), .val (.int sA), .val (.int sB), .val (.int fA), .val (.int fB), .val (.ref b20), .val (.ref b34), .val (.int (own_eqv nA nB ca da cb db)), .val (.int (0 : Int32))] []) _
            refine XS.iconst X76.here hx rfl (hb hby at_303) ?_
            refine XS.goto X76.here hx rfl (pc0 := 304) (pc' := 308) rfl (hb hby at_304) (by decide) (by decide) ?_
            exact k
          obtain ⟨fs, hr, hrun, hended, hEnd⟩ := X76.leaveW hS42 (by rw [e76]; exact (Nat.le_trans (Nat.le_refl _) (Nat.le_trans (Nat.le_refl _) K45.1))) (v := some (.int (1 : Int32))) (fun h => by rw [Bd.returns] at h; cases h)
          refine ⟨_, _, pre_78 _ ?_, hrun, hended, _, _, rfl, ?_, hEnd.1, hEnd.2.1, hEnd.2.2.1, hEnd.2.2.2.mono (by decide) (by decide)⟩
          · show Sp p e below T76 (mkF m 308 #[.val (.int p1), .val (.int p2), .val (.long p3), .second, .val (.long p4), .second, .val (.long p5), .second, .val (.int nA), .val (.int ca), .val (.int cb), .val (.int (if ((XT.ushr p1 (18 : Int32)) &&& (1 : Int32)) = (0 : Int32) then (0 : Int32) else (1 : Int32))), .val (.int (if ((XT.ushr p1 (19 : Int32)) &&& (1 : Int32)) = (0 : Int32) then (0 : Int32) else (1 : Int32))), .val (.int (if ((XT.ushr p1 (20 : Int32)) &&& (1 : Int32)) = (0 : Int32) then (0 : Int32) else (1 : Int32))), .val (.int nB), .val (.int da), .val (.int db), .val (.int sA), .val (.int sB), .val (.int fA), .val (.int fB), .val (.ref b20), .val (.ref b34), .val (.int (own_eqv nA nB ca da cb db)), .val (.int (0 : Int32))] [(.int (1 : Int32))]) _
            exact retN X76 hx (t := .boolean) Bd.returns (by simp) (hb hby at_308) hr
          · show Q_law Z _ _ _ _ _ _ h0 n0 _ T76.vm T76.heap _
            rw [e76]
            exact ⟨rfl, N76⟩
      · skip
        have pre_79 : ∀ t, Sp p e below T45 (mkF m 295 #[.val (.int p1), .val (.int p2), .val (.long p3), .second, .val (.long p4), .second, .val (.long p5), .second, .val (.int nA), .val (.int ca), .val (.int cb), .val (.int (if ((XT.ushr p1 (18 : Int32)) &&& (1 : Int32)) = (0 : Int32) then (0 : Int32) else (1 : Int32))), .val (.int (if ((XT.ushr p1 (19 : Int32)) &&& (1 : Int32)) = (0 : Int32) then (0 : Int32) else (1 : Int32))), .val (.int (if ((XT.ushr p1 (20 : Int32)) &&& (1 : Int32)) = (0 : Int32) then (0 : Int32) else (1 : Int32))), .val (.int nB), .val (.int da), .val (.int db), .val (.int sA), .val (.int sB), .val (.int fA), .val (.int fB), .val (.ref b20), .val (.ref b34), .val (.int (own_eqv nA nB ca da cb db)), .val (.int (0 : Int32))] [(.ref b34), (.ref b20)]) t → Steps p.tables e below E0 t := by
          intro t k
          refine pre_67 t ?_
          show Sp p e below T45 (mkF m 274 #[.val (.int p1), .val (.int p2), .val (.long p3), .second, .val (.long p4), .second, .val (.long p5), .second, .val (.int nA), .val (.int ca), .val (.int cb), .val (.int (if ((XT.ushr p1 (18 : Int32)) &&& (1 : Int32)) = (0 : Int32) then (0 : Int32) else (1 : Int32))), .val (.int (if ((XT.ushr p1 (19 : Int32)) &&& (1 : Int32)) = (0 : Int32) then (0 : Int32) else (1 : Int32))), .val (.int (if ((XT.ushr p1 (20 : Int32)) &&& (1 : Int32)) = (0 : Int32) then (0 : Int32) else (1 : Int32))), .val (.int nB), .val (.int da), .val (.int db), .val (.int sA), .val (.int sB), .val (.int fA), .val (.int fB), .val (.ref b20), .val (.ref b34), .val (.int (own_eqv nA nB ca da cb db)), .unset] [(.int sB), (.int sA)]) _
          refine XS.icmpYes X45.here hx rfl (pc0 := 274) (pc' := 288) rfl (hb hby at_274) rfl (XT.ii_ne_t hc68) (by decide) (by decide) ?_
          refine XS.iconst X45.here hx rfl (hb hby at_288) ?_
          show Sp p e below T45 (mkF m 289 #[.val (.int p1), .val (.int p2), .val (.long p3), .second, .val (.long p4), .second, .val (.long p5), .second, .val (.int nA), .val (.int ca), .val (.int cb), .val (.int (if ((XT.ushr p1 (18 : Int32)) &&& (1 : Int32)) = (0 : Int32) then (0 : Int32) else (1 : Int32))), .val (.int (if ((XT.ushr p1 (19 : Int32)) &&& (1 : Int32)) = (0 : Int32) then (0 : Int32) else (1 : Int32))), .val (.int (if ((XT.ushr p1 (20 : Int32)) &&& (1 : Int32)) = (0 : Int32) then (0 : Int32) else (1 : Int32))), .val (.int nB), .val (.int da), .val (.int db), .val (.int sA), .val (.int sB), .val (.int fA), .val (.int fB), .val (.ref b20), .val (.ref b34), .val (.int (own_eqv nA nB ca da cb db)), .unset] [(.int (0 : Int32))]) _
          refine XS.istore X45.here hx rfl (hb hby at_289) rfl (l' := #[.val (.int p1), .val (.int p2), .val (.long p3), .second, .val (.long p4), .second, .val (.long p5), .second, .val (.int nA), .val (.int ca), .val (.int cb), .val (.int (if ((XT.ushr p1 (18 : Int32)) &&& (1 : Int32)) = (0 : Int32) then (0 : Int32) else (1 : Int32))), .val (.int (if ((XT.ushr p1 (19 : Int32)) &&& (1 : Int32)) = (0 : Int32) then (0 : Int32) else (1 : Int32))), .val (.int (if ((XT.ushr p1 (20 : Int32)) &&& (1 : Int32)) = (0 : Int32) then (0 : Int32) else (1 : Int32))), .val (.int nB), .val (.int da), .val (.int db), .val (.int sA), .val (.int sB), .val (.int fA), .val (.int fB), .val (.ref b20), .val (.ref b34), .val (.int (own_eqv nA nB ca da cb db)), .val (.int (0 : Int32))]) rfl ?_
          refine XS.aload X45.here hx rfl (hb hby at_291) rfl rfl ?_
          refine XS.aload X45.here hx rfl (hb hby at_293) rfl rfl ?_
          exact k
        obtain ⟨cq80, kq80, qa80, qb80, qc80⟩ := isOf hZ42 rfl (((((A20.keep K28).keep K31).ext E34).keep K42).keep K45)
        obtain ⟨_, _, ⟨T80, L80, k80, n80⟩, -, X80, ⟨Lc80, hQ80, l80, y80, z80⟩, st80⟩ := X45.virtualBack hx (y := (⟨"com/example/vaxwire/vaxwire/hl7/Location", "inFieldOf", "(Lcom/example/vaxwire/vaxwire/hl7/Location;)Z"⟩ : MethodName)) (z := (⟨"com/example/vaxwire/vaxwire/hl7/Location", "inFieldOf", "(Lcom/example/vaxwire/vaxwire/hl7/Location;)Z"⟩ : MethodName)) ho42 (mvT hZ42 (own_w hw 48 rfl)) (mvT hZ42 (own_w hw 49 rfl)) (notFace_of_selects (args := #[]) (mvT hZ42 (own_w hw 51 rfl))) (mvT hZ42 (own_w hw 51 rfl)) (mvT hZ42 (own_w hw 50 rfl)) (by decide) (backOf (W := 0) (rm_inf l Z a0 hw [] b20 b34 sA fA sB fB a28 a42 b28 b42 G1 kB28 kB42 nA nB ca cb da db T45.heap n0 O45 (((Fa31.ext E34).keep K42 nin0).keep K45 (ninS (Nat.ne_of_lt (Nat.lt_of_lt_of_le ((A20.keep K28).keep K31).lt (Nat.le_of_eq g34.symm))) nin0)) (((Fb31.ext E34).keep K42 nin0).keep K45 (ninS (Nat.ne_of_lt (Nat.lt_of_lt_of_le ((A20.keep K28).keep K31).lt (Nat.le_of_eq g34.symm))) nin0)) (((Fd31.ext E34).keep K42 nin0).keep K45 (ninS (Nat.ne_of_lt (Nat.lt_of_lt_of_le ((A20.keep K28).keep K31).lt (Nat.le_of_eq g34.symm))) nin0)) Fa45 Fb45 Fd45 ((((Ea28.keep K31).ext E34).keep K42).keep K45) (Ea42.keep K45) ((((Fc28.keep K31 (ninS (Ne.symm (Nat.ne_of_lt (Nat.lt_of_lt_of_le A20.lt sa28))) nin0)).ext E34).keep K42 nin0).keep K45 (ninS (Nat.ne_of_lt (Nat.lt_of_lt_of_le (Ea28.keep K31).lt (Nat.le_of_eq g34.symm))) nin0)) (Fc42.keep K45 (ninS (Ne.symm (Nat.ne_of_lt (Nat.lt_of_lt_of_le A34.lt sa42))) nin0)) ((((Fv28.keep K31 (ninS (Ne.symm (Nat.ne_of_lt (Nat.lt_of_lt_of_le A20.lt sa28))) nin0)).ext E34).keep K42 nin0).keep K45 (ninS (Nat.ne_of_lt (Nat.lt_of_lt_of_le (Ea28.keep K31).lt (Nat.le_of_eq g34.symm))) nin0)) (Fv42.keep K45 (ninS (Ne.symm (Nat.ne_of_lt (Nat.lt_of_lt_of_le A34.lt sa42))) nin0)) ((((Ab28.keep K31 (ninS (Ne.symm (own_neAr (A20.keep K28) Ab28 (own_w hw 1 rfl))) nin0)).ext E34).keep K42 nin0).keep K45 (ninS (Nat.ne_of_lt (Nat.lt_of_lt_of_le (Ab28.keep K31 (ninS (Ne.symm (own_neAr (A20.keep K28) Ab28 (own_w hw 1 rfl))) nin0)).lt (Nat.le_of_eq g34.symm))) nin0)) (Ab42.keep K45 (ninS (Ne.symm (own_neAr (A34.keep K42) Ab42 (own_w hw 1 rfl))) nin0)) (Nat.ne_of_lt (Nat.lt_of_lt_of_le ((Ea28.keep K31).ext E34).lt sa42)) SC hG hca.2 hcb.2 hda.2 hdb.2) hZ42 (own_w hw 52 rfl) (own_w hw 2 rfl) (by decide) (by decide)) qa80 qc80 (g := (mkF m 295 #[.val (.int p1), .val (.int p2), .val (.long p3), .second, .val (.long p4), .second, .val (.long p5), .second, .val (.int nA), .val (.int ca), .val (.int cb), .val (.int (if ((XT.ushr p1 (18 : Int32)) &&& (1 : Int32)) = (0 : Int32) then (0 : Int32) else (1 : Int32))), .val (.int (if ((XT.ushr p1 (19 : Int32)) &&& (1 : Int32)) = (0 : Int32) then (0 : Int32) else (1 : Int32))), .val (.int (if ((XT.ushr p1 (20 : Int32)) &&& (1 : Int32)) = (0 : Int32) then (0 : Int32) else (1 : Int32))), .val (.int nB), .val (.int da), .val (.int db), .val (.int sA), .val (.int sB), .val (.int fA), .val (.int fB), .val (.ref b20), .val (.ref b34), .val (.int (own_eqv nA nB ca da cb db)), .val (.int (0 : Int32))] [(.ref b34), (.ref b20)])) rfl (by rw [hml]; rfl) (Steps.refl _) (argsL := [(.ref b34)]) (rest := []) (lenOf pd_law_2 rfl) rfl (by show 2 * 0 + _ ≤ _; exact Nat.le_of_eq rfl) (hb hby at_295) (fun _ _ => ⟨rfl, rfl, (by decide : 10 + 0 ≤ _), (by decide : 30 + 0 ≤ _)⟩)
        dsimp only [Pt.U, Pt.locs, Pt.cells, Pt.slots] at X80 l80 y80 z80 st80 hQ80
        subst l80 y80 z80
        obtain ⟨rfl, N80q, e80⟩ := hQ80
        have N80 := Fr.app N45 N80q
        have pre_81 : ∀ t, Sp p e below T80 (mkF m 298 #[.val (.int p1), .val (.int p2), .val (.long p3), .second, .val (.long p4), .second, .val (.long p5), .second, .val (.int nA), .val (.int ca), .val (.int cb), .val (.int (if ((XT.ushr p1 (18 : Int32)) &&& (1 : Int32)) = (0 : Int32) then (0 : Int32) else (1 : Int32))), .val (.int (if ((XT.ushr p1 (19 : Int32)) &&& (1 : Int32)) = (0 : Int32) then (0 : Int32) else (1 : Int32))), .val (.int (if ((XT.ushr p1 (20 : Int32)) &&& (1 : Int32)) = (0 : Int32) then (0 : Int32) else (1 : Int32))), .val (.int nB), .val (.int da), .val (.int db), .val (.int sA), .val (.int sB), .val (.int fA), .val (.int fB), .val (.ref b20), .val (.ref b34), .val (.int (own_eqv nA nB ca da cb db)), .val (.int (0 : Int32))] [(.int (if fA = fB then (if sA = sB then (own_eqv nA nB ca da cb db) else (0 : Int32)) else (0 : Int32)))]) t → Steps p.tables e below E0 t := fun t k => pre_79 t (st80.trans k)
        have pre_82 : ∀ t, Sp p e below T80 (mkF m 300 #[.val (.int p1), .val (.int p2), .val (.long p3), .second, .val (.long p4), .second, .val (.long p5), .second, .val (.int nA), .val (.int ca), .val (.int cb), .val (.int (if ((XT.ushr p1 (18 : Int32)) &&& (1 : Int32)) = (0 : Int32) then (0 : Int32) else (1 : Int32))), .val (.int (if ((XT.ushr p1 (19 : Int32)) &&& (1 : Int32)) = (0 : Int32) then (0 : Int32) else (1 : Int32))), .val (.int (if ((XT.ushr p1 (20 : Int32)) &&& (1 : Int32)) = (0 : Int32) then (0 : Int32) else (1 : Int32))), .val (.int nB), .val (.int da), .val (.int db), .val (.int sA), .val (.int sB), .val (.int fA), .val (.int fB), .val (.ref b20), .val (.ref b34), .val (.int (own_eqv nA nB ca da cb db)), .val (.int (0 : Int32))] [(.int (0 : Int32)), (.int (if fA = fB then (if sA = sB then (own_eqv nA nB ca da cb db) else (0 : Int32)) else (0 : Int32)))]) t → Steps p.tables e below E0 t := by
          intro t k
          refine pre_81 t ?_
          show Sp p e below T80 (mkF m 298 #[.val (.int p1), .val (.int p2), .val (.long p3), .second, .val (.long p4), .second, .val (.long p5), .second, .val (.int nA), .val (.int ca), .val (.int cb), .val (.int (if ((XT.ushr p1 (18 : Int32)) &&& (1 : Int32)) = (0 : Int32) then (0 : Int32) else (1 : Int32))), .val (.int (if ((XT.ushr p1 (19 : Int32)) &&& (1 : Int32)) = (0 : Int32) then (0 : Int32) else (1 : Int32))), .val (.int (if ((XT.ushr p1 (20 : Int32)) &&& (1 : Int32)) = (0 : Int32) then (0 : Int32) else (1 : Int32))), .val (.int nB), .val (.int da), .val (.int db), .val (.int sA), .val (.int sB), .val (.int fA), .val (.int fB), .val (.ref b20), .val (.ref b34), .val (.int (own_eqv nA nB ca da cb db)), .val (.int (0 : Int32))] [(.int (if fA = fB then (if sA = sB then (own_eqv nA nB ca da cb db) else (0 : Int32)) else (0 : Int32)))]) _
          refine XS.iload X80.here hx rfl (hb hby at_298) rfl ?_
          show Sp p e below T80 (mkF m 300 #[.val (.int p1), .val (.int p2), .val (.long p3), .second, .val (.long p4), .second, .val (.long p5), .second, .val (.int nA), .val (.int ca), .val (.int cb), .val (.int (if ((XT.ushr p1 (18 : Int32)) &&& (1 : Int32)) = (0 : Int32) then (0 : Int32) else (1 : Int32))), .val (.int (if ((XT.ushr p1 (19 : Int32)) &&& (1 : Int32)) = (0 : Int32) then (0 : Int32) else (1 : Int32))), .val (.int (if ((XT.ushr p1 (20 : Int32)) &&& (1 : Int32)) = (0 : Int32) then (0 : Int32) else (1 : Int32))), .val (.int nB), .val (.int da), .val (.int db), .val (.int sA), .val (.int sB), .val (.int fA), .val (.int fB), .val (.ref b20), .val (.ref b34), .val (.int (own_eqv nA nB ca da cb db)), .val (.int (0 : Int32))] [(.int (0 : Int32)), (.int (if fA = fB then (if sA = sB then (own_eqv nA nB ca da cb db) else (0 : Int32)) else (0 : Int32)))]) _
          exact k
        by_cases hc83 : fA = fB
        · skip
          have pre_84 : ∀ t, Sp p e below T80 (mkF m 308 #[.val (.int p1), .val (.int p2), .val (.long p3), .second, .val (.long p4), .second, .val (.long p5), .second, .val (.int nA), .val (.int ca), .val (.int cb), .val (.int (if ((XT.ushr p1 (18 : Int32)) &&& (1 : Int32)) = (0 : Int32) then (0 : Int32) else (1 : Int32))), .val (.int (if ((XT.ushr p1 (19 : Int32)) &&& (1 : Int32)) = (0 : Int32) then (0 : Int32) else (1 : Int32))), .val (.int (if ((XT.ushr p1 (20 : Int32)) &&& (1 : Int32)) = (0 : Int32) then (0 : Int32) else (1 : Int32))), .val (.int nB), .val (.int da), .val (.int db), .val (.int sA), .val (.int sB), .val (.int fA), .val (.int fB), .val (.ref b20), .val (.ref b34), .val (.int (own_eqv nA nB ca da cb db)), .val (.int (0 : Int32))] [(.int (1 : Int32))]) t → Steps p.tables e below E0 t := by
            intro t k
            refine pre_82 t ?_
            show Sp p e below T80 (mkF m 300 #[.val (.int p1), .val (.int p2), .val (.long p3), .second, .val (.long p4), .second, .val (.long p5), .second, .val (.int nA), .val (.int ca), .val (.int cb), .val (.int (if ((XT.ushr p1 (18 : Int32)) &&& (1 : Int32)) = (0 : Int32) then (0 : Int32) else (1 : Int32))), .val (.int (if ((XT.ushr p1 (19 : Int32)) &&& (1 : Int32)) = (0 : Int32) then (0 : Int32) else (1 : Int32))), .val (.int (if ((XT.ushr p1 (20 : Int32)) &&& (1 : Int32)) = (0 : Int32) then (0 : Int32) else (1 : Int32))), .val (.int nB), .val (.int da), .val (.int db), .val (.int sA), .val (.int sB), .val (.int fA), .val (.int fB), .val (.ref b20), .val (.ref b34), .val (.int (own_eqv nA nB ca da cb db)), .val (.int (0 : Int32))] [(.int (0 : Int32)), (.int (if fA = fB then (if sA = sB then (own_eqv nA nB ca da cb db) else (0 : Int32)) else (0 : Int32)))]) _
            refine XS.icmpNo X80.here hx rfl (hb hby at_300) rfl (XT.ii_ne_f (by simp only [if_pos hc83, if_neg hc68] <;> decide)) ?_
            refine XS.iconst X80.here hx rfl (hb hby at_303) ?_
            refine XS.goto X80.here hx rfl (pc0 := 304) (pc' := 308) rfl (hb hby at_304) (by decide) (by decide) ?_
            exact k
          obtain ⟨fs, hr, hrun, hended, hEnd⟩ := X80.leaveW hS42 (by rw [e80]; exact (Nat.le_trans (Nat.le_refl _) (Nat.le_trans (Nat.le_refl _) K45.1))) (v := some (.int (1 : Int32))) (fun h => by rw [Bd.returns] at h; cases h)
          refine ⟨_, _, pre_84 _ ?_, hrun, hended, _, _, rfl, ?_, hEnd.1, hEnd.2.1, hEnd.2.2.1, hEnd.2.2.2.mono (by decide) (by decide)⟩
          · show Sp p e below T80 (mkF m 308 #[.val (.int p1), .val (.int p2), .val (.long p3), .second, .val (.long p4), .second, .val (.long p5), .second, .val (.int nA), .val (.int ca), .val (.int cb), .val (.int (if ((XT.ushr p1 (18 : Int32)) &&& (1 : Int32)) = (0 : Int32) then (0 : Int32) else (1 : Int32))), .val (.int (if ((XT.ushr p1 (19 : Int32)) &&& (1 : Int32)) = (0 : Int32) then (0 : Int32) else (1 : Int32))), .val (.int (if ((XT.ushr p1 (20 : Int32)) &&& (1 : Int32)) = (0 : Int32) then (0 : Int32) else (1 : Int32))), .val (.int nB), .val (.int da), .val (.int db), .val (.int sA), .val (.int sB), .val (.int fA), .val (.int fB), .val (.ref b20), .val (.ref b34), .val (.int (own_eqv nA nB ca da cb db)), .val (.int (0 : Int32))] [(.int (1 : Int32))]) _
            exact retN X80 hx (t := .boolean) Bd.returns (by simp) (hb hby at_308) hr
          · show Q_law Z _ _ _ _ _ _ h0 n0 _ T80.vm T80.heap _
            rw [e80]
            exact ⟨rfl, N80⟩
        · skip
          have pre_85 : ∀ t, Sp p e below T80 (mkF m 308 #[.val (.int p1), .val (.int p2), .val (.long p3), .second, .val (.long p4), .second, .val (.long p5), .second, .val (.int nA), .val (.int ca), .val (.int cb), .val (.int (if ((XT.ushr p1 (18 : Int32)) &&& (1 : Int32)) = (0 : Int32) then (0 : Int32) else (1 : Int32))), .val (.int (if ((XT.ushr p1 (19 : Int32)) &&& (1 : Int32)) = (0 : Int32) then (0 : Int32) else (1 : Int32))), .val (.int (if ((XT.ushr p1 (20 : Int32)) &&& (1 : Int32)) = (0 : Int32) then (0 : Int32) else (1 : Int32))), .val (.int nB), .val (.int da), .val (.int db), .val (.int sA), .val (.int sB), .val (.int fA), .val (.int fB), .val (.ref b20), .val (.ref b34), .val (.int (own_eqv nA nB ca da cb db)), .val (.int (0 : Int32))] [(.int (1 : Int32))]) t → Steps p.tables e below E0 t := by
            intro t k
            refine pre_82 t ?_
            show Sp p e below T80 (mkF m 300 #[.val (.int p1), .val (.int p2), .val (.long p3), .second, .val (.long p4), .second, .val (.long p5), .second, .val (.int nA), .val (.int ca), .val (.int cb), .val (.int (if ((XT.ushr p1 (18 : Int32)) &&& (1 : Int32)) = (0 : Int32) then (0 : Int32) else (1 : Int32))), .val (.int (if ((XT.ushr p1 (19 : Int32)) &&& (1 : Int32)) = (0 : Int32) then (0 : Int32) else (1 : Int32))), .val (.int (if ((XT.ushr p1 (20 : Int32)) &&& (1 : Int32)) = (0 : Int32) then (0 : Int32) else (1 : Int32))), .val (.int nB), .val (.int da), .val (.int db), .val (.int sA), .val (.int sB), .val (.int fA), .val (.int fB), .val (.ref b20), .val (.ref b34), .val (.int (own_eqv nA nB ca da cb db)), .val (.int (0 : Int32))] [(.int (0 : Int32)), (.int (if fA = fB then (if sA = sB then (own_eqv nA nB ca da cb db) else (0 : Int32)) else (0 : Int32)))]) _
            refine XS.icmpNo X80.here hx rfl (hb hby at_300) rfl (XT.ii_ne_f (by simp only [if_neg hc83] <;> decide)) ?_
            refine XS.iconst X80.here hx rfl (hb hby at_303) ?_
            refine XS.goto X80.here hx rfl (pc0 := 304) (pc' := 308) rfl (hb hby at_304) (by decide) (by decide) ?_
            exact k
          obtain ⟨fs, hr, hrun, hended, hEnd⟩ := X80.leaveW hS42 (by rw [e80]; exact (Nat.le_trans (Nat.le_refl _) (Nat.le_trans (Nat.le_refl _) K45.1))) (v := some (.int (1 : Int32))) (fun h => by rw [Bd.returns] at h; cases h)
          refine ⟨_, _, pre_85 _ ?_, hrun, hended, _, _, rfl, ?_, hEnd.1, hEnd.2.1, hEnd.2.2.1, hEnd.2.2.2.mono (by decide) (by decide)⟩
          · show Sp p e below T80 (mkF m 308 #[.val (.int p1), .val (.int p2), .val (.long p3), .second, .val (.long p4), .second, .val (.long p5), .second, .val (.int nA), .val (.int ca), .val (.int cb), .val (.int (if ((XT.ushr p1 (18 : Int32)) &&& (1 : Int32)) = (0 : Int32) then (0 : Int32) else (1 : Int32))), .val (.int (if ((XT.ushr p1 (19 : Int32)) &&& (1 : Int32)) = (0 : Int32) then (0 : Int32) else (1 : Int32))), .val (.int (if ((XT.ushr p1 (20 : Int32)) &&& (1 : Int32)) = (0 : Int32) then (0 : Int32) else (1 : Int32))), .val (.int nB), .val (.int da), .val (.int db), .val (.int sA), .val (.int sB), .val (.int fA), .val (.int fB), .val (.ref b20), .val (.ref b34), .val (.int (own_eqv nA nB ca da cb db)), .val (.int (0 : Int32))] [(.int (1 : Int32))]) _
            exact retN X80 hx (t := .boolean) Bd.returns (by simp) (hb hby at_308) hr
          · show Q_law Z _ _ _ _ _ _ h0 n0 _ T80.vm T80.heap _
            rw [e80]
            exact ⟨rfl, N80⟩
  · skip
    have pre_86 : ∀ t, Sp p e below T28 (mkF m 196 #[.val (.int p1), .val (.int p2), .val (.long p3), .second, .val (.long p4), .second, .val (.long p5), .second, .val (.int nA), .val (.int ca), .val (.int cb), .val (.int (if ((XT.ushr p1 (18 : Int32)) &&& (1 : Int32)) = (0 : Int32) then (0 : Int32) else (1 : Int32))), .val (.int (if ((XT.ushr p1 (19 : Int32)) &&& (1 : Int32)) = (0 : Int32) then (0 : Int32) else (1 : Int32))), .val (.int (if ((XT.ushr p1 (20 : Int32)) &&& (1 : Int32)) = (0 : Int32) then (0 : Int32) else (1 : Int32))), .val (.int nB), .val (.int da), .val (.int db), .val (.int sA), .val (.int sB), .val (.int fA), .val (.int fB), .unset, .unset, .unset, .unset] [(.int ((XT.ushrL p5 (32 : Int32))).toInt32), (.int (p5).toInt32), (.int fA), (.int sA), (.ref a28), (.ref b20), (.ref b20)]) t → Steps p.tables e below E0 t := by
      intro t k
      refine pre_29 t ?_
      show Sp p e below T28 (mkF m 183 #[.val (.int p1), .val (.int p2), .val (.long p3), .second, .val (.long p4), .second, .val (.long p5), .second, .val (.int nA), .val (.int ca), .val (.int cb), .val (.int (if ((XT.ushr p1 (18 : Int32)) &&& (1 : Int32)) = (0 : Int32) then (0 : Int32) else (1 : Int32))), .val (.int (if ((XT.ushr p1 (19 : Int32)) &&& (1 : Int32)) = (0 : Int32) then (0 : Int32) else (1 : Int32))), .val (.int (if ((XT.ushr p1 (20 : Int32)) &&& (1 : Int32)) = (0 : Int32) then (0 : Int32) else (1 : Int32))), .val (.int nB), .val (.int da), .val (.int db), .val (.int sA), .val (.int sB), .val (.int fA), .val (.int fB), .unset, .unset, .unset, .unset] [(.ref a28), (.ref b20), (.ref b20)]) _
      refine XS.iload X28.here hx rfl (hb hby at_183) rfl ?_
      refine XS.iload X28.here hx rfl (hb hby at_185) rfl ?_
      refine XT.lload X28.here hx rfl (hb hby at_187) rfl ?_
      show Sp p e below T28 (mkF m 189 #[.val (.int p1), .val (.int p2), .val (.long p3), .second, .val (.long p4), .second, .val (.long p5), .second, .val (.int nA), .val (.int ca), .val (.int cb), .val (.int (if ((XT.ushr p1 (18 : Int32)) &&& (1 : Int32)) = (0 : Int32) then (0 : Int32) else (1 : Int32))), .val (.int (if ((XT.ushr p1 (19 : Int32)) &&& (1 : Int32)) = (0 : Int32) then (0 : Int32) else (1 : Int32))), .val (.int (if ((XT.ushr p1 (20 : Int32)) &&& (1 : Int32)) = (0 : Int32) then (0 : Int32) else (1 : Int32))), .val (.int nB), .val (.int da), .val (.int db), .val (.int sA), .val (.int sB), .val (.int fA), .val (.int fB), .unset, .unset, .unset, .unset] [(.long p5), (.int fA), (.int sA), (.ref a28), (.ref b20), (.ref b20)]) _
      refine XT.l2i X28.here hx rfl (hb hby at_189) rfl ?_
      refine XT.lload X28.here hx rfl (hb hby at_190) rfl ?_
      refine XS.bipush X28.here hx rfl (hb hby at_192) ?_
      refine XT.lushr X28.here hx rfl (hb hby at_194) rfl ?_
      show Sp p e below T28 (mkF m 195 #[.val (.int p1), .val (.int p2), .val (.long p3), .second, .val (.long p4), .second, .val (.long p5), .second, .val (.int nA), .val (.int ca), .val (.int cb), .val (.int (if ((XT.ushr p1 (18 : Int32)) &&& (1 : Int32)) = (0 : Int32) then (0 : Int32) else (1 : Int32))), .val (.int (if ((XT.ushr p1 (19 : Int32)) &&& (1 : Int32)) = (0 : Int32) then (0 : Int32) else (1 : Int32))), .val (.int (if ((XT.ushr p1 (20 : Int32)) &&& (1 : Int32)) = (0 : Int32) then (0 : Int32) else (1 : Int32))), .val (.int nB), .val (.int da), .val (.int db), .val (.int sA), .val (.int sB), .val (.int fA), .val (.int fB), .unset, .unset, .unset, .unset] [(.long (XT.ushrL p5 (32 : Int32))), (.int (p5).toInt32), (.int fA), (.int sA), (.ref a28), (.ref b20), (.ref b20)]) _
      refine XT.l2i X28.here hx rfl (hb hby at_195) rfl ?_
      exact k
    obtain ⟨_, _, ⟨T87, L87, k87, n87⟩, -, X87, ⟨Lc87, hQ87, l87, y87, z87⟩, st87⟩ := X28.specialBack hx (y := (⟨"com/example/vaxwire/vaxwire/hl7/Location", "<init>", "(Ljava/lang/String;IIII)V"⟩ : MethodName)) rfl ho28 (mvT hZ28 (own_w hw 29 rfl)) (mvT hZ28 (own_w hw 30 rfl)) (mvT hZ28 (own_w hw 31 rfl)) (by decide) (backOf (W := 1) (rm_ini l Z a0 hw [] b20 a28 sA fA (p5).toInt32 ((XT.ushrL p5 (32 : Int32))).toInt32 .null (.int (0 : Int32)) (.int (0 : Int32)) (.int (0 : Int32)) (.int (0 : Int32)) T28.heap n0 O28 (A20.keep K28) (F21.keep K28 nin0) (F22.keep K28 nin0) (F23.keep K28 nin0) (F24.keep K28 nin0) (F25.keep K28 nin0) (Nat.le_trans (own_le O0) (Nat.le_of_eq g20.symm))) hZ28 (own_w hw 31 rfl) (own_w hw 2 rfl) (by decide) (by decide)) (g := (mkF m 196 #[.val (.int p1), .val (.int p2), .val (.long p3), .second, .val (.long p4), .second, .val (.long p5), .second, .val (.int nA), .val (.int ca), .val (.int cb), .val (.int (if ((XT.ushr p1 (18 : Int32)) &&& (1 : Int32)) = (0 : Int32) then (0 : Int32) else (1 : Int32))), .val (.int (if ((XT.ushr p1 (19 : Int32)) &&& (1 : Int32)) = (0 : Int32) then (0 : Int32) else (1 : Int32))), .val (.int (if ((XT.ushr p1 (20 : Int32)) &&& (1 : Int32)) = (0 : Int32) then (0 : Int32) else (1 : Int32))), .val (.int nB), .val (.int da), .val (.int db), .val (.int sA), .val (.int sB), .val (.int fA), .val (.int fB), .unset, .unset, .unset, .unset] [(.int ((XT.ushrL p5 (32 : Int32))).toInt32), (.int (p5).toInt32), (.int fA), (.int sA), (.ref a28), (.ref b20), (.ref b20)])) rfl (by rw [hml]; rfl) (Steps.refl _) (a := b20) (argsL := [(.ref a28), (.int sA), (.int fA), (.int (p5).toInt32), (.int ((XT.ushrL p5 (32 : Int32))).toInt32)]) (rest := [(.ref b20)]) (lenOf pd_law_1 rfl) rfl (by show 2 * 0 + _ ≤ _; exact Nat.le_of_eq rfl) (hb hby at_196) (fun _ _ => ⟨rfl, rfl, (by decide : 5 + 0 ≤ _), (by decide : 15 + 0 ≤ _)⟩)
    dsimp only [Pt.U, Pt.locs, Pt.cells, Pt.slots] at X87 l87 y87 z87 st87 hQ87
    subst l87 y87 z87
    obtain ⟨rfl, N87q, K87, Fa87, Fb87, Fd87⟩ := hQ87
    have N87 := Fr.app N28 N87q
    have O87 : Old Z n0 T87.heap := O28.keep K87 (allS (Nat.le_trans (own_le O0) (Nat.le_of_eq g20.symm)) all0)
    have pre_88 : ∀ t, Sp p e below T87 (mkF m 199 #[.val (.int p1), .val (.int p2), .val (.long p3), .second, .val (.long p4), .second, .val (.long p5), .second, .val (.int nA), .val (.int ca), .val (.int cb), .val (.int (if ((XT.ushr p1 (18 : Int32)) &&& (1 : Int32)) = (0 : Int32) then (0 : Int32) else (1 : Int32))), .val (.int (if ((XT.ushr p1 (19 : Int32)) &&& (1 : Int32)) = (0 : Int32) then (0 : Int32) else (1 : Int32))), .val (.int (if ((XT.ushr p1 (20 : Int32)) &&& (1 : Int32)) = (0 : Int32) then (0 : Int32) else (1 : Int32))), .val (.int nB), .val (.int da), .val (.int db), .val (.int sA), .val (.int sB), .val (.int fA), .val (.int fB), .unset, .unset, .unset, .unset] [(.ref b20)]) t → Steps p.tables e below E0 t := fun t k => pre_86 t (st87.trans k)
    have pre_89 : ∀ t, Sp p e below T87 (mkF m 201 #[.val (.int p1), .val (.int p2), .val (.long p3), .second, .val (.long p4), .second, .val (.long p5), .second, .val (.int nA), .val (.int ca), .val (.int cb), .val (.int (if ((XT.ushr p1 (18 : Int32)) &&& (1 : Int32)) = (0 : Int32) then (0 : Int32) else (1 : Int32))), .val (.int (if ((XT.ushr p1 (19 : Int32)) &&& (1 : Int32)) = (0 : Int32) then (0 : Int32) else (1 : Int32))), .val (.int (if ((XT.ushr p1 (20 : Int32)) &&& (1 : Int32)) = (0 : Int32) then (0 : Int32) else (1 : Int32))), .val (.int nB), .val (.int da), .val (.int db), .val (.int sA), .val (.int sB), .val (.int fA), .val (.int fB), .val (.ref b20), .unset, .unset, .unset] []) t → Steps p.tables e below E0 t := by
      intro t k
      refine pre_88 t ?_
      show Sp p e below T87 (mkF m 199 #[.val (.int p1), .val (.int p2), .val (.long p3), .second, .val (.long p4), .second, .val (.long p5), .second, .val (.int nA), .val (.int ca), .val (.int cb), .val (.int (if ((XT.ushr p1 (18 : Int32)) &&& (1 : Int32)) = (0 : Int32) then (0 : Int32) else (1 : Int32))), .val (.int (if ((XT.ushr p1 (19 : Int32)) &&& (1 : Int32)) = (0 : Int32) then (0 : Int32) else (1 : Int32))), .val (.int (if ((XT.ushr p1 (20 : Int32)) &&& (1 : Int32)) = (0 : Int32) then (0 : Int32) else (1 : Int32))), .val (.int nB), .val (.int da), .val (.int db), .val (.int sA), .val (.int sB), .val (.int fA), .val (.int fB), .unset, .unset, .unset, .unset] [(.ref b20)]) _
      refine XS.astore X87.here hx rfl (hb hby at_199) rfl rfl (l' := #[.val (.int p1), .val (.int p2), .val (.long p3), .second, .val (.long p4), .second, .val (.long p5), .second, .val (.int nA), .val (.int ca), .val (.int cb), .val (.int (if ((XT.ushr p1 (18 : Int32)) &&& (1 : Int32)) = (0 : Int32) then (0 : Int32) else (1 : Int32))), .val (.int (if ((XT.ushr p1 (19 : Int32)) &&& (1 : Int32)) = (0 : Int32) then (0 : Int32) else (1 : Int32))), .val (.int (if ((XT.ushr p1 (20 : Int32)) &&& (1 : Int32)) = (0 : Int32) then (0 : Int32) else (1 : Int32))), .val (.int nB), .val (.int da), .val (.int db), .val (.int sA), .val (.int sB), .val (.int fA), .val (.int fB), .val (.ref b20), .unset, .unset, .unset]) rfl ?_
      exact k
    obtain ⟨T90, h90, X90, e90, E90, A90, D90, -, st90⟩ := newO X87 hx hZ28 ho28 (own_w hw 0 rfl) (own_w hw 1 rfl) (own_w hw 2 rfl) rfl (g := (mkF m 201 #[.val (.int p1), .val (.int p2), .val (.long p3), .second, .val (.long p4), .second, .val (.long p5), .second, .val (.int nA), .val (.int ca), .val (.int cb), .val (.int (if ((XT.ushr p1 (18 : Int32)) &&& (1 : Int32)) = (0 : Int32) then (0 : Int32) else (1 : Int32))), .val (.int (if ((XT.ushr p1 (19 : Int32)) &&& (1 : Int32)) = (0 : Int32) then (0 : Int32) else (1 : Int32))), .val (.int (if ((XT.ushr p1 (20 : Int32)) &&& (1 : Int32)) = (0 : Int32) then (0 : Int32) else (1 : Int32))), .val (.int nB), .val (.int da), .val (.int db), .val (.int sA), .val (.int sB), .val (.int fA), .val (.int fB), .val (.ref b20), .unset, .unset, .unset] [])) rfl (hb hby at_201) (by decide) (by decide)
    obtain ⟨b90, g90⟩ : ∃ z, z = T87.heap.size := ⟨_, rfl⟩
    rw [← g90] at A90 D90 st90
    have O90 : Old Z n0 h90 := O87.ext E90
    have F91 : Fld Z h90 b90 "com/example/vaxwire/vaxwire/hl7/Location" "segment" "Ljava/lang/String;" .null := D90 (Or.inr (own_w hw 39 rfl)) (ty := (.object "java/lang/String")) (by decide)
    have F92 : Fld Z h90 b90 "com/example/vaxwire/vaxwire/hl7/Location" "sequence" "I" (.int (0 : Int32)) := D90 (Or.inr (own_w hw 41 rfl)) (ty := .int) (by decide)
    have F93 : Fld Z h90 b90 "com/example/vaxwire/vaxwire/hl7/Location" "field" "I" (.int (0 : Int32)) := D90 (Or.inr (own_w hw 43 rfl)) (ty := .int) (by decide)
    have F94 : Fld Z h90 b90 "com/example/vaxwire/vaxwire/hl7/Location" "repetition" "I" (.int (0 : Int32)) := D90 (Or.inr (own_w hw 45 rfl)) (ty := .int) (by decide)
    have F95 : Fld Z h90 b90 "com/example/vaxwire/vaxwire/hl7/Location" "component" "I" (.int (0 : Int32)) := D90 (Or.inr (own_w hw 47 rfl)) (ty := .int) (by decide)
    have pre_96 : ∀ t, Sp p e below T90 (mkF m 204 #[.val (.int p1), .val (.int p2), .val (.long p3), .second, .val (.long p4), .second, .val (.long p5), .second, .val (.int nA), .val (.int ca), .val (.int cb), .val (.int (if ((XT.ushr p1 (18 : Int32)) &&& (1 : Int32)) = (0 : Int32) then (0 : Int32) else (1 : Int32))), .val (.int (if ((XT.ushr p1 (19 : Int32)) &&& (1 : Int32)) = (0 : Int32) then (0 : Int32) else (1 : Int32))), .val (.int (if ((XT.ushr p1 (20 : Int32)) &&& (1 : Int32)) = (0 : Int32) then (0 : Int32) else (1 : Int32))), .val (.int nB), .val (.int da), .val (.int db), .val (.int sA), .val (.int sB), .val (.int fA), .val (.int fB), .val (.ref b20), .unset, .unset, .unset] [(.ref b90)]) t → Steps p.tables e below E0 t := fun t k => pre_89 t (st90 t k)
    have pre_97 : ∀ t, Sp p e below T90 (mkF m 211 #[.val (.int p1), .val (.int p2), .val (.long p3), .second, .val (.long p4), .second, .val (.long p5), .second, .val (.int nA), .val (.int ca), .val (.int cb), .val (.int (if ((XT.ushr p1 (18 : Int32)) &&& (1 : Int32)) = (0 : Int32) then (0 : Int32) else (1 : Int32))), .val (.int (if ((XT.ushr p1 (19 : Int32)) &&& (1 : Int32)) = (0 : Int32) then (0 : Int32) else (1 : Int32))), .val (.int (if ((XT.ushr p1 (20 : Int32)) &&& (1 : Int32)) = (0 : Int32) then (0 : Int32) else (1 : Int32))), .val (.int nB), .val (.int da), .val (.int db), .val (.int sA), .val (.int sB), .val (.int fA), .val (.int fB), .val (.ref b20), .unset, .unset, .unset] [(.int db), (.int da), (.int nB), (.ref b90), (.ref b90)]) t → Steps p.tables e below E0 t := by
      intro t k
      refine pre_96 t ?_
      show Sp p e below T90 (mkF m 204 #[.val (.int p1), .val (.int p2), .val (.long p3), .second, .val (.long p4), .second, .val (.long p5), .second, .val (.int nA), .val (.int ca), .val (.int cb), .val (.int (if ((XT.ushr p1 (18 : Int32)) &&& (1 : Int32)) = (0 : Int32) then (0 : Int32) else (1 : Int32))), .val (.int (if ((XT.ushr p1 (19 : Int32)) &&& (1 : Int32)) = (0 : Int32) then (0 : Int32) else (1 : Int32))), .val (.int (if ((XT.ushr p1 (20 : Int32)) &&& (1 : Int32)) = (0 : Int32) then (0 : Int32) else (1 : Int32))), .val (.int nB), .val (.int da), .val (.int db), .val (.int sA), .val (.int sB), .val (.int fA), .val (.int fB), .val (.ref b20), .unset, .unset, .unset] [(.ref b90)]) _
      refine XS.dup X90.here hx rfl (hb hby at_204) rfl rfl ?_
      refine XS.iload X90.here hx rfl (hb hby at_205) rfl ?_
      show Sp p e below T90 (mkF m 207 #[.val (.int p1), .val (.int p2), .val (.long p3), .second, .val (.long p4), .second, .val (.long p5), .second, .val (.int nA), .val (.int ca), .val (.int cb), .val (.int (if ((XT.ushr p1 (18 : Int32)) &&& (1 : Int32)) = (0 : Int32) then (0 : Int32) else (1 : Int32))), .val (.int (if ((XT.ushr p1 (19 : Int32)) &&& (1 : Int32)) = (0 : Int32) then (0 : Int32) else (1 : Int32))), .val (.int (if ((XT.ushr p1 (20 : Int32)) &&& (1 : Int32)) = (0 : Int32) then (0 : Int32) else (1 : Int32))), .val (.int nB), .val (.int da), .val (.int db), .val (.int sA), .val (.int sB), .val (.int fA), .val (.int fB), .val (.ref b20), .unset, .unset, .unset] [(.int nB), (.ref b90), (.ref b90)]) _
      refine XS.iload X90.here hx rfl (hb hby at_207) rfl ?_
      refine XS.iload X90.here hx rfl (hb hby at_209) rfl ?_
      exact k
    obtain ⟨_, _, ⟨T98, L98, k98, n98⟩, -, Y98, hs98, hg98, ⟨Lc98, hQ98, l98, y98, z98⟩, st98⟩ := callSS X90 hx (y := (⟨"com/example/vaxwire/vaxwire/hl7/LocationInFieldOfPinLaw", "str", "(ICC)Ljava/lang/String;"⟩ : MethodName)) ho28 (mvT hZ28 (own_w hw 3 rfl)) (mvT hZ28 (own_w hw 4 rfl)) (mvT hZ28 (own_w hw 5 rfl)) (mvT hZ28 (own_w hw 6 rfl)) (by decide) (own_backS (W := 2) (rm_strf l Z a0 hw [] nB da db G1 h90 n0 O90 SC hG hHC hCW hnB hda.2 hdb.2 hda.1 hdb.1) hZ28 (own_w hw 6 rfl) (own_w hw 5 rfl) (by decide) (by decide) (fun _ q => Or.inr ⟨aE, bE, kE, ((xE.keep K87).ext E90), ((vE.keep K87 (ninS (Exa.ne xE (A20.keep K28) (by decide)) nin0)).ext E90), ((cE.keep K87 (ninS (Exa.ne xE (A20.keep K28) (by decide)) nin0)).ext E90), ((AE.keep K87 (ninS (Ne.symm (Exa.neArv (A20.keep K28) AE (own_w hw 1 rfl))) nin0)).ext E90), Lit.stays (hL : Lit (s.setVm T28.vm) "java/lang/String" 7 aE) q.wide⟩)) (g := (mkF m 211 #[.val (.int p1), .val (.int p2), .val (.long p3), .second, .val (.long p4), .second, .val (.long p5), .second, .val (.int nA), .val (.int ca), .val (.int cb), .val (.int (if ((XT.ushr p1 (18 : Int32)) &&& (1 : Int32)) = (0 : Int32) then (0 : Int32) else (1 : Int32))), .val (.int (if ((XT.ushr p1 (19 : Int32)) &&& (1 : Int32)) = (0 : Int32) then (0 : Int32) else (1 : Int32))), .val (.int (if ((XT.ushr p1 (20 : Int32)) &&& (1 : Int32)) = (0 : Int32) then (0 : Int32) else (1 : Int32))), .val (.int nB), .val (.int da), .val (.int db), .val (.int sA), .val (.int sB), .val (.int fA), .val (.int fB), .val (.ref b20), .unset, .unset, .unset] [(.int db), (.int da), (.int nB), (.ref b90), (.ref b90)])) rfl (by rw [hml]; rfl) (argsL := [(.int nB), (.int da), (.int db)]) (rest := [(.ref b90), (.ref b90)]) (lenOf pd_law_0 rfl) rfl (by show 2 * 0 + _ ≤ _; exact Nat.le_of_eq rfl) (hb hby at_211) (fun _ _ => ⟨rfl, e90, (by decide : 6 + 4 ≤ _), (by decide : 20 + 10 ≤ _)⟩)
    dsimp only [Pt.U, Pt.locs, Pt.cells, Pt.slots] at Y98 hs98 hg98 l98 y98 z98 st98 hQ98
    subst l98 y98 z98
    obtain ⟨X98, hS98, hZ98, ho98⟩ := rebS hS28 (by rw [e90]; exact (Nat.le_trans (Nat.le_refl _) (Nat.le_trans (Nat.le_trans (Nat.le_refl _) K87.1) E90.1))) Y98 hs98 hg98 hZ28 ho28
    obtain ⟨a98, b98, kB98, rfl, N98q, K98, sa98, Ea98, Fc98, Fv98, Ab98, hLL98⟩ := hQ98
    have N98 := Fr.app N87 N98q
    have O98 : Old Z n0 T98.heap := O90.keep K98 all0
    have pre_99 : ∀ t, Sp p e below T98 (mkF m 214 #[.val (.int p1), .val (.int p2), .val (.long p3), .second, .val (.long p4), .second, .val (.long p5), .second, .val (.int nA), .val (.int ca), .val (.int cb), .val (.int (if ((XT.ushr p1 (18 : Int32)) &&& (1 : Int32)) = (0 : Int32) then (0 : Int32) else (1 : Int32))), .val (.int (if ((XT.ushr p1 (19 : Int32)) &&& (1 : Int32)) = (0 : Int32) then (0 : Int32) else (1 : Int32))), .val (.int (if ((XT.ushr p1 (20 : Int32)) &&& (1 : Int32)) = (0 : Int32) then (0 : Int32) else (1 : Int32))), .val (.int nB), .val (.int da), .val (.int db), .val (.int sA), .val (.int sB), .val (.int fA), .val (.int fB), .val (.ref b20), .unset, .unset, .unset] [(.ref a98), (.ref b90), (.ref b90)]) t → Steps p.tables e below E0 t := fun t k => pre_97 t (st98.trans k)
    have pre_100 : ∀ t, Sp p e below T98 (mkF m 220 #[.val (.int p1), .val (.int p2), .val (.long p3), .second, .val (.long p4), .second, .val (.long p5), .second, .val (.int nA), .val (.int ca), .val (.int cb), .val (.int (if ((XT.ushr p1 (18 : Int32)) &&& (1 : Int32)) = (0 : Int32) then (0 : Int32) else (1 : Int32))), .val (.int (if ((XT.ushr p1 (19 : Int32)) &&& (1 : Int32)) = (0 : Int32) then (0 : Int32) else (1 : Int32))), .val (.int (if ((XT.ushr p1 (20 : Int32)) &&& (1 : Int32)) = (0 : Int32) then (0 : Int32) else (1 : Int32))), .val (.int nB), .val (.int da), .val (.int db), .val (.int sA), .val (.int sB), .val (.int fA), .val (.int fB), .val (.ref b20), .unset, .unset, .unset] [(.int (0 : Int32)), (.int (0 : Int32)), (.int fB), (.int sB), (.ref a98), (.ref b90), (.ref b90)]) t → Steps p.tables e below E0 t := by
      intro t k
      refine pre_99 t ?_
      show Sp p e below T98 (mkF m 214 #[.val (.int p1), .val (.int p2), .val (.long p3), .second, .val (.long p4), .second, .val (.long p5), .second, .val (.int nA), .val (.int ca), .val (.int cb), .val (.int (if ((XT.ushr p1 (18 : Int32)) &&& (1 : Int32)) = (0 : Int32) then (0 : Int32) else (1 : Int32))), .val (.int (if ((XT.ushr p1 (19 : Int32)) &&& (1 : Int32)) = (0 : Int32) then (0 : Int32) else (1 : Int32))), .val (.int (if ((XT.ushr p1 (20 : Int32)) &&& (1 : Int32)) = (0 : Int32) then (0 : Int32) else (1 : Int32))), .val (.int nB), .val (.int da), .val (.int db), .val (.int sA), .val (.int sB), .val (.int fA), .val (.int fB), .val (.ref b20), .unset, .unset, .unset] [(.ref a98), (.ref b90), (.ref b90)]) _
      refine XS.iload X98.here hx rfl (hb hby at_214) rfl ?_
      refine XS.iload X98.here hx rfl (hb hby at_216) rfl ?_
      show Sp p e below T98 (mkF m 218 #[.val (.int p1), .val (.int p2), .val (.long p3), .second, .val (.long p4), .second, .val (.long p5), .second, .val (.int nA), .val (.int ca), .val (.int cb), .val (.int (if ((XT.ushr p1 (18 : Int32)) &&& (1 : Int32)) = (0 : Int32) then (0 : Int32) else (1 : Int32))), .val (.int (if ((XT.ushr p1 (19 : Int32)) &&& (1 : Int32)) = (0 : Int32) then (0 : Int32) else (1 : Int32))), .val (.int (if ((XT.ushr p1 (20 : Int32)) &&& (1 : Int32)) = (0 : Int32) then (0 : Int32) else (1 : Int32))), .val (.int nB), .val (.int da), .val (.int db), .val (.int sA), .val (.int sB), .val (.int fA), .val (.int fB), .val (.ref b20), .unset, .unset, .unset] [(.int fB), (.int sB), (.ref a98), (.ref b90), (.ref b90)]) _
      refine XS.iconst X98.here hx rfl (hb hby at_218) ?_
      refine XS.iconst X98.here hx rfl (hb hby at_219) ?_
      exact k
    obtain ⟨_, _, ⟨T101, L101, k101, n101⟩, -, X101, ⟨Lc101, hQ101, l101, y101, z101⟩, st101⟩ := X98.specialBack hx (y := (⟨"com/example/vaxwire/vaxwire/hl7/Location", "<init>", "(Ljava/lang/String;IIII)V"⟩ : MethodName)) rfl ho98 (mvT hZ98 (own_w hw 29 rfl)) (mvT hZ98 (own_w hw 30 rfl)) (mvT hZ98 (own_w hw 31 rfl)) (by decide) (backOf (W := 1) (rm_ini l Z a0 hw [] b90 a98 sB fB (0 : Int32) (0 : Int32) .null (.int (0 : Int32)) (.int (0 : Int32)) (.int (0 : Int32)) (.int (0 : Int32)) T98.heap n0 O98 (A90.keep K98) (F91.keep K98 nin0) (F92.keep K98 nin0) (F93.keep K98 nin0) (F94.keep K98 nin0) (F95.keep K98 nin0) (Nat.le_trans (own_le O87) (Nat.le_of_eq g90.symm))) hZ98 (own_w hw 31 rfl) (own_w hw 2 rfl) (by decide) (by decide)) (g := (mkF m 220 #[.val (.int p1), .val (.int p2), .val (.long p3), .second, .val (.long p4), .second, .val (.long p5), .second, .val (.int nA), .val (.int ca), .val (.int cb), .val (.int (if ((XT.ushr p1 (18 : Int32)) &&& (1 : Int32)) = (0 : Int32) then (0 : Int32) else (1 : Int32))), .val (.int (if ((XT.ushr p1 (19 : Int32)) &&& (1 : Int32)) = (0 : Int32) then (0 : Int32) else (1 : Int32))), .val (.int (if ((XT.ushr p1 (20 : Int32)) &&& (1 : Int32)) = (0 : Int32) then (0 : Int32) else (1 : Int32))), .val (.int nB), .val (.int da), .val (.int db), .val (.int sA), .val (.int sB), .val (.int fA), .val (.int fB), .val (.ref b20), .unset, .unset, .unset] [(.int (0 : Int32)), (.int (0 : Int32)), (.int fB), (.int sB), (.ref a98), (.ref b90), (.ref b90)])) rfl (by rw [hml]; rfl) (Steps.refl _) (a := b90) (argsL := [(.ref a98), (.int sB), (.int fB), (.int (0 : Int32)), (.int (0 : Int32))]) (rest := [(.ref b90)]) (lenOf pd_law_1 rfl) rfl (by show 2 * 0 + _ ≤ _; exact Nat.le_of_eq rfl) (hb hby at_220) (fun _ _ => ⟨rfl, rfl, (by decide : 10 + 0 ≤ _), (by decide : 30 + 0 ≤ _)⟩)
    dsimp only [Pt.U, Pt.locs, Pt.cells, Pt.slots] at X101 l101 y101 z101 st101 hQ101
    subst l101 y101 z101
    obtain ⟨rfl, N101q, K101, Fa101, Fb101, Fd101⟩ := hQ101
    have N101 := Fr.app N98 N101q
    have O101 : Old Z n0 T101.heap := O98.keep K101 (allS (Nat.le_trans (own_le O87) (Nat.le_of_eq g90.symm)) all0)
    have pre_102 : ∀ t, Sp p e below T101 (mkF m 223 #[.val (.int p1), .val (.int p2), .val (.long p3), .second, .val (.long p4), .second, .val (.long p5), .second, .val (.int nA), .val (.int ca), .val (.int cb), .val (.int (if ((XT.ushr p1 (18 : Int32)) &&& (1 : Int32)) = (0 : Int32) then (0 : Int32) else (1 : Int32))), .val (.int (if ((XT.ushr p1 (19 : Int32)) &&& (1 : Int32)) = (0 : Int32) then (0 : Int32) else (1 : Int32))), .val (.int (if ((XT.ushr p1 (20 : Int32)) &&& (1 : Int32)) = (0 : Int32) then (0 : Int32) else (1 : Int32))), .val (.int nB), .val (.int da), .val (.int db), .val (.int sA), .val (.int sB), .val (.int fA), .val (.int fB), .val (.ref b20), .unset, .unset, .unset] [(.ref b90)]) t → Steps p.tables e below E0 t := fun t k => pre_100 t (st101.trans k)
    have pre_103 : ∀ t, Sp p e below T101 (mkF m 229 #[.val (.int p1), .val (.int p2), .val (.long p3), .second, .val (.long p4), .second, .val (.long p5), .second, .val (.int nA), .val (.int ca), .val (.int cb), .val (.int (if ((XT.ushr p1 (18 : Int32)) &&& (1 : Int32)) = (0 : Int32) then (0 : Int32) else (1 : Int32))), .val (.int (if ((XT.ushr p1 (19 : Int32)) &&& (1 : Int32)) = (0 : Int32) then (0 : Int32) else (1 : Int32))), .val (.int (if ((XT.ushr p1 (20 : Int32)) &&& (1 : Int32)) = (0 : Int32) then (0 : Int32) else (1 : Int32))), .val (.int nB), .val (.int da), .val (.int db), .val (.int sA), .val (.int sB), .val (.int fA), .val (.int fB), .val (.ref b20), .val (.ref b90), .unset, .unset] [(.int nB), (.int nA)]) t → Steps p.tables e below E0 t := by
      intro t k
      refine pre_102 t ?_
      show Sp p e below T101 (mkF m 223 #[.val (.int p1), .val (.int p2), .val (.long p3), .second, .val (.long p4), .second, .val (.long p5), .second, .val (.int nA), .val (.int ca), .val (.int cb), .val (.int (if ((XT.ushr p1 (18 : Int32)) &&& (1 : Int32)) = (0 : Int32) then (0 : Int32) else (1 : Int32))), .val (.int (if ((XT.ushr p1 (19 : Int32)) &&& (1 : Int32)) = (0 : Int32) then (0 : Int32) else (1 : Int32))), .val (.int (if ((XT.ushr p1 (20 : Int32)) &&& (1 : Int32)) = (0 : Int32) then (0 : Int32) else (1 : Int32))), .val (.int nB), .val (.int da), .val (.int db), .val (.int sA), .val (.int sB), .val (.int fA), .val (.int fB), .val (.ref b20), .unset, .unset, .unset] [(.ref b90)]) _
      refine XS.astore X101.here hx rfl (hb hby at_223) rfl rfl (l' := #[.val (.int p1), .val (.int p2), .val (.long p3), .second, .val (.long p4), .second, .val (.long p5), .second, .val (.int nA), .val (.int ca), .val (.int cb), .val (.int (if ((XT.ushr p1 (18 : Int32)) &&& (1 : Int32)) = (0 : Int32) then (0 : Int32) else (1 : Int32))), .val (.int (if ((XT.ushr p1 (19 : Int32)) &&& (1 : Int32)) = (0 : Int32) then (0 : Int32) else (1 : Int32))), .val (.int (if ((XT.ushr p1 (20 : Int32)) &&& (1 : Int32)) = (0 : Int32) then (0 : Int32) else (1 : Int32))), .val (.int nB), .val (.int da), .val (.int db), .val (.int sA), .val (.int sB), .val (.int fA), .val (.int fB), .val (.ref b20), .val (.ref b90), .unset, .unset]) rfl ?_
      refine XS.iload X101.here hx rfl (hb hby at_225) rfl ?_
      show Sp p e below T101 (mkF m 227 #[.val (.int p1), .val (.int p2), .val (.long p3), .second, .val (.long p4), .second, .val (.long p5), .second, .val (.int nA), .val (.int ca), .val (.int cb), .val (.int (if ((XT.ushr p1 (18 : Int32)) &&& (1 : Int32)) = (0 : Int32) then (0 : Int32) else (1 : Int32))), .val (.int (if ((XT.ushr p1 (19 : Int32)) &&& (1 : Int32)) = (0 : Int32) then (0 : Int32) else (1 : Int32))), .val (.int (if ((XT.ushr p1 (20 : Int32)) &&& (1 : Int32)) = (0 : Int32) then (0 : Int32) else (1 : Int32))), .val (.int nB), .val (.int da), .val (.int db), .val (.int sA), .val (.int sB), .val (.int fA), .val (.int fB), .val (.ref b20), .val (.ref b90), .unset, .unset] [(.int nA)]) _
      refine XS.iload X101.here hx rfl (hb hby at_227) rfl ?_
      exact k
    have pre_111 : ∀ t, Sp p e below T101 (mkF m 263 #[.val (.int p1), .val (.int p2), .val (.long p3), .second, .val (.long p4), .second, .val (.long p5), .second, .val (.int nA), .val (.int ca), .val (.int cb), .val (.int (if ((XT.ushr p1 (18 : Int32)) &&& (1 : Int32)) = (0 : Int32) then (0 : Int32) else (1 : Int32))), .val (.int (if ((XT.ushr p1 (19 : Int32)) &&& (1 : Int32)) = (0 : Int32) then (0 : Int32) else (1 : Int32))), .val (.int (if ((XT.ushr p1 (20 : Int32)) &&& (1 : Int32)) = (0 : Int32) then (0 : Int32) else (1 : Int32))), .val (.int nB), .val (.int da), .val (.int db), .val (.int sA), .val (.int sB), .val (.int fA), .val (.int fB), .val (.ref b20), .val (.ref b90), .unset, .unset] [(.int (if nA = nB then (if nA < (1 : Int32) then (if nA < (2 : Int32) then (1 : Int32) else (if cb = db then (1 : Int32) else (0 : Int32))) else (if ca = da then (if nA < (2 : Int32) then (1 : Int32) else (if cb = db then (1 : Int32) else (0 : Int32))) else (0 : Int32))) else (0 : Int32)))]) t → Steps p.tables e below E0 t := by
      intro t k
      refine pre_103 t ?_
      by_cases hm104 : nA = nB
      · skip
        show Sp p e below T101 (mkF m 229 #[.val (.int p1), .val (.int p2), .val (.long p3), .second, .val (.long p4), .second, .val (.long p5), .second, .val (.int nA), .val (.int ca), .val (.int cb), .val (.int (if ((XT.ushr p1 (18 : Int32)) &&& (1 : Int32)) = (0 : Int32) then (0 : Int32) else (1 : Int32))), .val (.int (if ((XT.ushr p1 (19 : Int32)) &&& (1 : Int32)) = (0 : Int32) then (0 : Int32) else (1 : Int32))), .val (.int (if ((XT.ushr p1 (20 : Int32)) &&& (1 : Int32)) = (0 : Int32) then (0 : Int32) else (1 : Int32))), .val (.int nB), .val (.int da), .val (.int db), .val (.int sA), .val (.int sB), .val (.int fA), .val (.int fB), .val (.ref b20), .val (.ref b90), .unset, .unset] [(.int nB), (.int nA)]) _
        refine XS.icmpNo X101.here hx rfl (hb hby at_229) rfl (XT.ii_ne_f hm104) ?_
        refine XS.iload X101.here hx rfl (hb hby at_232) rfl ?_
        refine XS.iconst X101.here hx rfl (hb hby at_234) ?_
        show Sp p e below T101 (mkF m 235 #[.val (.int p1), .val (.int p2), .val (.long p3), .second, .val (.long p4), .second, .val (.long p5), .second, .val (.int nA), .val (.int ca), .val (.int cb), .val (.int (if ((XT.ushr p1 (18 : Int32)) &&& (1 : Int32)) = (0 : Int32) then (0 : Int32) else (1 : Int32))), .val (.int (if ((XT.ushr p1 (19 : Int32)) &&& (1 : Int32)) = (0 : Int32) then (0 : Int32) else (1 : Int32))), .val (.int (if ((XT.ushr p1 (20 : Int32)) &&& (1 : Int32)) = (0 : Int32) then (0 : Int32) else (1 : Int32))), .val (.int nB), .val (.int da), .val (.int db), .val (.int sA), .val (.int sB), .val (.int fA), .val (.int fB), .val (.ref b20), .val (.ref b90), .unset, .unset] [(.int (1 : Int32)), (.int nA)]) _
        by_cases hm105 : nA < (1 : Int32)
        · skip
          show Sp p e below T101 (mkF m 235 #[.val (.int p1), .val (.int p2), .val (.long p3), .second, .val (.long p4), .second, .val (.long p5), .second, .val (.int nA), .val (.int ca), .val (.int cb), .val (.int (if ((XT.ushr p1 (18 : Int32)) &&& (1 : Int32)) = (0 : Int32) then (0 : Int32) else (1 : Int32))), .val (.int (if ((XT.ushr p1 (19 : Int32)) &&& (1 : Int32)) = (0 : Int32) then (0 : Int32) else (1 : Int32))), .val (.int (if ((XT.ushr p1 (20 : Int32)) &&& (1 : Int32)) = (0 : Int32) then (0 : Int32) else (1 : Int32))), .val (.int nB), .val (.int da), .val (.int db), .val (.int sA), .val (.int sB), .val (.int fA), .val (.int fB), .val (.ref b20), .val (.ref b90), .unset, .unset] [(.int (1 : Int32)), (.int nA)]) _
          refine XS.icmpYes X101.here hx rfl (pc0 := 235) (pc' := 245) rfl (hb hby at_235) rfl (XT.ii_lt_t hm105) (by decide) (by decide) ?_
          refine XS.iload X101.here hx rfl (hb hby at_245) rfl ?_
          refine XS.iconst X101.here hx rfl (hb hby at_247) ?_
          by_cases hm106 : nA < (2 : Int32)
          · skip
            show Sp p e below T101 (mkF m 248 #[.val (.int p1), .val (.int p2), .val (.long p3), .second, .val (.long p4), .second, .val (.long p5), .second, .val (.int nA), .val (.int ca), .val (.int cb), .val (.int (if ((XT.ushr p1 (18 : Int32)) &&& (1 : Int32)) = (0 : Int32) then (0 : Int32) else (1 : Int32))), .val (.int (if ((XT.ushr p1 (19 : Int32)) &&& (1 : Int32)) = (0 : Int32) then (0 : Int32) else (1 : Int32))), .val (.int (if ((XT.ushr p1 (20 : Int32)) &&& (1 : Int32)) = (0 : Int32) then (0 : Int32) else (1 : Int32))), .val (.int nB), .val (.int da), .val (.int db), .val (.int sA), .val (.int sB), .val (.int fA), .val (.int fB), .val (.ref b20), .val (.ref b90), .unset, .unset] [(.int (2 : Int32)), (.int nA)]) _
            refine XS.icmpYes X101.here hx rfl (pc0 := 248) (pc' := 258) rfl (hb hby at_248) rfl (XT.ii_lt_t hm106) (by decide) (by decide) ?_
            show Sp p e below T101 (mkF m 258 #[.val (.int p1), .val (.int p2), .val (.long p3), .second, .val (.long p4), .second, .val (.long p5), .second, .val (.int nA), .val (.int ca), .val (.int cb), .val (.int (if ((XT.ushr p1 (18 : Int32)) &&& (1 : Int32)) = (0 : Int32) then (0 : Int32) else (1 : Int32))), .val (.int (if ((XT.ushr p1 (19 : Int32)) &&& (1 : Int32)) = (0 : Int32) then (0 : Int32) else (1 : Int32))), .val (.int (if ((XT.ushr p1 (20 : Int32)) &&& (1 : Int32)) = (0 : Int32) then (0 : Int32) else (1 : Int32))), .val (.int nB), .val (.int da), .val (.int db), .val (.int sA), .val (.int sB), .val (.int fA), .val (.int fB), .val (.ref b20), .val (.ref b90), .unset, .unset] []) _
            refine XS.iconst X101.here hx rfl (hb hby at_258) ?_
            refine XS.goto X101.here hx rfl (pc0 := 259) (pc' := 263) rfl (hb hby at_259) (by decide) (by decide) ?_
            first | exact k | (simp only [if_pos hm104, if_pos hm105, if_pos hm106] at k; exact k) | (show Sp p e below T101 (mkF m 263 #[.val (.int p1), .val (.int p2), .val (.long p3), .second, .val (.long p4), .second, .val (.long p5), .second, .val (.int nA), .val (.int ca), .val (.int cb), .val (.int (if ((XT.ushr p1 (18 : Int32)) &&& (1 : Int32)) = (0 : Int32) then (0 : Int32) else (1 : Int32))), .val (.int (if ((XT.ushr p1 (19 : Int32)) &&& (1 : Int32)) = (0 : Int32) then (0 : Int32) else (1 : Int32))), .val (.int (if ((XT.ushr p1 (20 : Int32)) &&& (1 : Int32)) = (0 : Int32) then (0 : Int32) else (1 : Int32))), .val (.int nB), .val (.int da), .val (.int db), .val (.int sA), .val (.int sB), .val (.int fA), .val (.int fB), .val (.ref b20), .val (.ref b90), .unset, .unset] [(.int (1 : Int32))]) _; simp only [if_pos hm104, if_pos hm105, if_pos hm106] at k ⊢; exact k)
          · skip
            show Sp p e below T101 (mkF m 248 #[.val (.int p1), .val (.int p2), .val (.long p3), .second, .val (.long p4), .second, .val (.long p5), .second, .val (.int nA), .val (.int ca), .val (.int cb), .val (.int (if ((XT.ushr p1 (18 : Int32)) &&& (1 : Int32)) = (0 : Int32) then (0 : Int32) else (1 : Int32))), .val (.int (if ((XT.ushr p1 (19 : Int32)) &&& (1 : Int32)) = (0 : Int32) then (0 : Int32) else (1 : Int32))), .val (.int (if ((XT.ushr p1 (20 : Int32)) &&& (1 : Int32)) = (0 : Int32) then (0 : Int32) else (1 : Int32))), .val (.int nB), .val (.int da), .val (.int db), .val (.int sA), .val (.int sB), .val (.int fA), .val (.int fB), .val (.ref b20), .val (.ref b90), .unset, .unset] [(.int (2 : Int32)), (.int nA)]) _
            refine XS.icmpNo X101.here hx rfl (hb hby at_248) rfl (XT.ii_lt_f hm106) ?_
            show Sp p e below T101 (mkF m 251 #[.val (.int p1), .val (.int p2), .val (.long p3), .second, .val (.long p4), .second, .val (.long p5), .second, .val (.int nA), .val (.int ca), .val (.int cb), .val (.int (if ((XT.ushr p1 (18 : Int32)) &&& (1 : Int32)) = (0 : Int32) then (0 : Int32) else (1 : Int32))), .val (.int (if ((XT.ushr p1 (19 : Int32)) &&& (1 : Int32)) = (0 : Int32) then (0 : Int32) else (1 : Int32))), .val (.int (if ((XT.ushr p1 (20 : Int32)) &&& (1 : Int32)) = (0 : Int32) then (0 : Int32) else (1 : Int32))), .val (.int nB), .val (.int da), .val (.int db), .val (.int sA), .val (.int sB), .val (.int fA), .val (.int fB), .val (.ref b20), .val (.ref b90), .unset, .unset] []) _
            refine XS.iload X101.here hx rfl (hb hby at_251) rfl ?_
            refine XS.iload X101.here hx rfl (hb hby at_253) rfl ?_
            by_cases hm107 : cb = db
            · skip
              show Sp p e below T101 (mkF m 255 #[.val (.int p1), .val (.int p2), .val (.long p3), .second, .val (.long p4), .second, .val (.long p5), .second, .val (.int nA), .val (.int ca), .val (.int cb), .val (.int (if ((XT.ushr p1 (18 : Int32)) &&& (1 : Int32)) = (0 : Int32) then (0 : Int32) else (1 : Int32))), .val (.int (if ((XT.ushr p1 (19 : Int32)) &&& (1 : Int32)) = (0 : Int32) then (0 : Int32) else (1 : Int32))), .val (.int (if ((XT.ushr p1 (20 : Int32)) &&& (1 : Int32)) = (0 : Int32) then (0 : Int32) else (1 : Int32))), .val (.int nB), .val (.int da), .val (.int db), .val (.int sA), .val (.int sB), .val (.int fA), .val (.int fB), .val (.ref b20), .val (.ref b90), .unset, .unset] [(.int db), (.int cb)]) _
              refine XS.icmpNo X101.here hx rfl (hb hby at_255) rfl (XT.ii_ne_f hm107) ?_
              refine XS.iconst X101.here hx rfl (hb hby at_258) ?_
              show Sp p e below T101 (mkF m 259 #[.val (.int p1), .val (.int p2), .val (.long p3), .second, .val (.long p4), .second, .val (.long p5), .second, .val (.int nA), .val (.int ca), .val (.int cb), .val (.int (if ((XT.ushr p1 (18 : Int32)) &&& (1 : Int32)) = (0 : Int32) then (0 : Int32) else (1 : Int32))), .val (.int (if ((XT.ushr p1 (19 : Int32)) &&& (1 : Int32)) = (0 : Int32) then (0 : Int32) else (1 : Int32))), .val (.int (if ((XT.ushr p1 (20 : Int32)) &&& (1 : Int32)) = (0 : Int32) then (0 : Int32) else (1 : Int32))), .val (.int nB), .val (.int da), .val (.int db), .val (.int sA), .val (.int sB), .val (.int fA), .val (.int fB), .val (.ref b20), .val (.ref b90), .unset, .unset] [(.int (1 : Int32))]) _
              refine XS.goto X101.here hx rfl (pc0 := 259) (pc' := 263) rfl (hb hby at_259) (by decide) (by decide) ?_
              first | exact k | (simp only [if_pos hm104, if_pos hm105, if_neg hm106, if_pos hm107] at k; exact k) | (show Sp p e below T101 (mkF m 263 #[.val (.int p1), .val (.int p2), .val (.long p3), .second, .val (.long p4), .second, .val (.long p5), .second, .val (.int nA), .val (.int ca), .val (.int cb), .val (.int (if ((XT.ushr p1 (18 : Int32)) &&& (1 : Int32)) = (0 : Int32) then (0 : Int32) else (1 : Int32))), .val (.int (if ((XT.ushr p1 (19 : Int32)) &&& (1 : Int32)) = (0 : Int32) then (0 : Int32) else (1 : Int32))), .val (.int (if ((XT.ushr p1 (20 : Int32)) &&& (1 : Int32)) = (0 : Int32) then (0 : Int32) else (1 : Int32))), .val (.int nB), .val (.int da), .val (.int db), .val (.int sA), .val (.int sB), .val (.int fA), .val (.int fB), .val (.ref b20), .val (.ref b90), .unset, .unset] [(.int (1 : Int32))]) _; simp only [if_pos hm104, if_pos hm105, if_neg hm106, if_pos hm107] at k ⊢; exact k)
            · skip
              show Sp p e below T101 (mkF m 255 #[.val (.int p1), .val (.int p2), .val (.long p3), .second, .val (.long p4), .second, .val (.long p5), .second, .val (.int nA), .val (.int ca), .val (.int cb), .val (.int (if ((XT.ushr p1 (18 : Int32)) &&& (1 : Int32)) = (0 : Int32) then (0 : Int32) else (1 : Int32))), .val (.int (if ((XT.ushr p1 (19 : Int32)) &&& (1 : Int32)) = (0 : Int32) then (0 : Int32) else (1 : Int32))), .val (.int (if ((XT.ushr p1 (20 : Int32)) &&& (1 : Int32)) = (0 : Int32) then (0 : Int32) else (1 : Int32))), .val (.int nB), .val (.int da), .val (.int db), .val (.int sA), .val (.int sB), .val (.int fA), .val (.int fB), .val (.ref b20), .val (.ref b90), .unset, .unset] [(.int db), (.int cb)]) _
              refine XS.icmpYes X101.here hx rfl (pc0 := 255) (pc' := 262) rfl (hb hby at_255) rfl (XT.ii_ne_t hm107) (by decide) (by decide) ?_
              refine XS.iconst X101.here hx rfl (hb hby at_262) ?_
              show Sp p e below T101 (mkF m 263 #[.val (.int p1), .val (.int p2), .val (.long p3), .second, .val (.long p4), .second, .val (.long p5), .second, .val (.int nA), .val (.int ca), .val (.int cb), .val (.int (if ((XT.ushr p1 (18 : Int32)) &&& (1 : Int32)) = (0 : Int32) then (0 : Int32) else (1 : Int32))), .val (.int (if ((XT.ushr p1 (19 : Int32)) &&& (1 : Int32)) = (0 : Int32) then (0 : Int32) else (1 : Int32))), .val (.int (if ((XT.ushr p1 (20 : Int32)) &&& (1 : Int32)) = (0 : Int32) then (0 : Int32) else (1 : Int32))), .val (.int nB), .val (.int da), .val (.int db), .val (.int sA), .val (.int sB), .val (.int fA), .val (.int fB), .val (.ref b20), .val (.ref b90), .unset, .unset] [(.int (0 : Int32))]) _
              first | exact k | (simp only [if_pos hm104, if_pos hm105, if_neg hm106, if_neg hm107] at k; exact k) | (show Sp p e below T101 (mkF m 263 #[.val (.int p1), .val (.int p2), .val (.long p3), .second, .val (.long p4), .second, .val (.long p5), .second, .val (.int nA), .val (.int ca), .val (.int cb), .val (.int (if ((XT.ushr p1 (18 : Int32)) &&& (1 : Int32)) = (0 : Int32) then (0 : Int32) else (1 : Int32))), .val (.int (if ((XT.ushr p1 (19 : Int32)) &&& (1 : Int32)) = (0 : Int32) then (0 : Int32) else (1 : Int32))), .val (.int (if ((XT.ushr p1 (20 : Int32)) &&& (1 : Int32)) = (0 : Int32) then (0 : Int32) else (1 : Int32))), .val (.int nB), .val (.int da), .val (.int db), .val (.int sA), .val (.int sB), .val (.int fA), .val (.int fB), .val (.ref b20), .val (.ref b90), .unset, .unset] [(.int (0 : Int32))]) _; simp only [if_pos hm104, if_pos hm105, if_neg hm106, if_neg hm107] at k ⊢; exact k)
        · skip
          show Sp p e below T101 (mkF m 235 #[.val (.int p1), .val (.int p2), .val (.long p3), .second, .val (.long p4), .second, .val (.long p5), .second, .val (.int nA), .val (.int ca), .val (.int cb), .val (.int (if ((XT.ushr p1 (18 : Int32)) &&& (1 : Int32)) = (0 : Int32) then (0 : Int32) else (1 : Int32))), .val (.int (if ((XT.ushr p1 (19 : Int32)) &&& (1 : Int32)) = (0 : Int32) then (0 : Int32) else (1 : Int32))), .val (.int (if ((XT.ushr p1 (20 : Int32)) &&& (1 : Int32)) = (0 : Int32) then (0 : Int32) else (1 : Int32))), .val (.int nB), .val (.int da), .val (.int db), .val (.int sA), .val (.int sB), .val (.int fA), .val (.int fB), .val (.ref b20), .val (.ref b90), .unset, .unset] [(.int (1 : Int32)), (.int nA)]) _
          refine XS.icmpNo X101.here hx rfl (hb hby at_235) rfl (XT.ii_lt_f hm105) ?_
          refine XS.iload X101.here hx rfl (hb hby at_238) rfl ?_
          refine XS.iload X101.here hx rfl (hb hby at_240) rfl ?_
          by_cases hm108 : ca = da
          · skip
            show Sp p e below T101 (mkF m 242 #[.val (.int p1), .val (.int p2), .val (.long p3), .second, .val (.long p4), .second, .val (.long p5), .second, .val (.int nA), .val (.int ca), .val (.int cb), .val (.int (if ((XT.ushr p1 (18 : Int32)) &&& (1 : Int32)) = (0 : Int32) then (0 : Int32) else (1 : Int32))), .val (.int (if ((XT.ushr p1 (19 : Int32)) &&& (1 : Int32)) = (0 : Int32) then (0 : Int32) else (1 : Int32))), .val (.int (if ((XT.ushr p1 (20 : Int32)) &&& (1 : Int32)) = (0 : Int32) then (0 : Int32) else (1 : Int32))), .val (.int nB), .val (.int da), .val (.int db), .val (.int sA), .val (.int sB), .val (.int fA), .val (.int fB), .val (.ref b20), .val (.ref b90), .unset, .unset] [(.int da), (.int ca)]) _
            refine XS.icmpNo X101.here hx rfl (hb hby at_242) rfl (XT.ii_ne_f hm108) ?_
            show Sp p e below T101 (mkF m 245 #[.val (.int p1), .val (.int p2), .val (.long p3), .second, .val (.long p4), .second, .val (.long p5), .second, .val (.int nA), .val (.int ca), .val (.int cb), .val (.int (if ((XT.ushr p1 (18 : Int32)) &&& (1 : Int32)) = (0 : Int32) then (0 : Int32) else (1 : Int32))), .val (.int (if ((XT.ushr p1 (19 : Int32)) &&& (1 : Int32)) = (0 : Int32) then (0 : Int32) else (1 : Int32))), .val (.int (if ((XT.ushr p1 (20 : Int32)) &&& (1 : Int32)) = (0 : Int32) then (0 : Int32) else (1 : Int32))), .val (.int nB), .val (.int da), .val (.int db), .val (.int sA), .val (.int sB), .val (.int fA), .val (.int fB), .val (.ref b20), .val (.ref b90), .unset, .unset] []) _
            refine XS.iload X101.here hx rfl (hb hby at_245) rfl ?_
            refine XS.iconst X101.here hx rfl (hb hby at_247) ?_
            by_cases hm109 : nA < (2 : Int32)
            · skip
              show Sp p e below T101 (mkF m 248 #[.val (.int p1), .val (.int p2), .val (.long p3), .second, .val (.long p4), .second, .val (.long p5), .second, .val (.int nA), .val (.int ca), .val (.int cb), .val (.int (if ((XT.ushr p1 (18 : Int32)) &&& (1 : Int32)) = (0 : Int32) then (0 : Int32) else (1 : Int32))), .val (.int (if ((XT.ushr p1 (19 : Int32)) &&& (1 : Int32)) = (0 : Int32) then (0 : Int32) else (1 : Int32))), .val (.int (if ((XT.ushr p1 (20 : Int32)) &&& (1 : Int32)) = (0 : Int32) then (0 : Int32) else (1 : Int32))), .val (.int nB), .val (.int da), .val (.int db), .val (.int sA), .val (.int sB), .val (.int fA), .val (.int fB), .val (.ref b20), .val (.ref b90), .unset, .unset] [(.int (2 : Int32)), (.int nA)]) _
              refine XS.icmpYes X101.here hx rfl (pc0 := 248) (pc' := 258) rfl (hb hby at_248) rfl (XT.ii_lt_t hm109) (by decide) (by decide) ?_
              refine XS.iconst X101.here hx rfl (hb hby at_258) ?_
              show Sp p e below T101 (mkF m 259 #[.val (.int p1), .val (.int p2), .val (.long p3), .second, .val (.long p4), .second, .val (.long p5), .second, .val (.int nA), .val (.int ca), .val (.int cb), .val (.int (if ((XT.ushr p1 (18 : Int32)) &&& (1 : Int32)) = (0 : Int32) then (0 : Int32) else (1 : Int32))), .val (.int (if ((XT.ushr p1 (19 : Int32)) &&& (1 : Int32)) = (0 : Int32) then (0 : Int32) else (1 : Int32))), .val (.int (if ((XT.ushr p1 (20 : Int32)) &&& (1 : Int32)) = (0 : Int32) then (0 : Int32) else (1 : Int32))), .val (.int nB), .val (.int da), .val (.int db), .val (.int sA), .val (.int sB), .val (.int fA), .val (.int fB), .val (.ref b20), .val (.ref b90), .unset, .unset] [(.int (1 : Int32))]) _
              refine XS.goto X101.here hx rfl (pc0 := 259) (pc' := 263) rfl (hb hby at_259) (by decide) (by decide) ?_
              first | exact k | (simp only [if_pos hm104, if_neg hm105, if_pos hm108, if_pos hm109] at k; exact k) | (show Sp p e below T101 (mkF m 263 #[.val (.int p1), .val (.int p2), .val (.long p3), .second, .val (.long p4), .second, .val (.long p5), .second, .val (.int nA), .val (.int ca), .val (.int cb), .val (.int (if ((XT.ushr p1 (18 : Int32)) &&& (1 : Int32)) = (0 : Int32) then (0 : Int32) else (1 : Int32))), .val (.int (if ((XT.ushr p1 (19 : Int32)) &&& (1 : Int32)) = (0 : Int32) then (0 : Int32) else (1 : Int32))), .val (.int (if ((XT.ushr p1 (20 : Int32)) &&& (1 : Int32)) = (0 : Int32) then (0 : Int32) else (1 : Int32))), .val (.int nB), .val (.int da), .val (.int db), .val (.int sA), .val (.int sB), .val (.int fA), .val (.int fB), .val (.ref b20), .val (.ref b90), .unset, .unset] [(.int (1 : Int32))]) _; simp only [if_pos hm104, if_neg hm105, if_pos hm108, if_pos hm109] at k ⊢; exact k)
            · skip
              show Sp p e below T101 (mkF m 248 #[.val (.int p1), .val (.int p2), .val (.long p3), .second, .val (.long p4), .second, .val (.long p5), .second, .val (.int nA), .val (.int ca), .val (.int cb), .val (.int (if ((XT.ushr p1 (18 : Int32)) &&& (1 : Int32)) = (0 : Int32) then (0 : Int32) else (1 : Int32))), .val (.int (if ((XT.ushr p1 (19 : Int32)) &&& (1 : Int32)) = (0 : Int32) then (0 : Int32) else (1 : Int32))), .val (.int (if ((XT.ushr p1 (20 : Int32)) &&& (1 : Int32)) = (0 : Int32) then (0 : Int32) else (1 : Int32))), .val (.int nB), .val (.int da), .val (.int db), .val (.int sA), .val (.int sB), .val (.int fA), .val (.int fB), .val (.ref b20), .val (.ref b90), .unset, .unset] [(.int (2 : Int32)), (.int nA)]) _
              refine XS.icmpNo X101.here hx rfl (hb hby at_248) rfl (XT.ii_lt_f hm109) ?_
              refine XS.iload X101.here hx rfl (hb hby at_251) rfl ?_
              show Sp p e below T101 (mkF m 253 #[.val (.int p1), .val (.int p2), .val (.long p3), .second, .val (.long p4), .second, .val (.long p5), .second, .val (.int nA), .val (.int ca), .val (.int cb), .val (.int (if ((XT.ushr p1 (18 : Int32)) &&& (1 : Int32)) = (0 : Int32) then (0 : Int32) else (1 : Int32))), .val (.int (if ((XT.ushr p1 (19 : Int32)) &&& (1 : Int32)) = (0 : Int32) then (0 : Int32) else (1 : Int32))), .val (.int (if ((XT.ushr p1 (20 : Int32)) &&& (1 : Int32)) = (0 : Int32) then (0 : Int32) else (1 : Int32))), .val (.int nB), .val (.int da), .val (.int db), .val (.int sA), .val (.int sB), .val (.int fA), .val (.int fB), .val (.ref b20), .val (.ref b90), .unset, .unset] [(.int cb)]) _
              refine XS.iload X101.here hx rfl (hb hby at_253) rfl ?_
              by_cases hm110 : cb = db
              · skip
                show Sp p e below T101 (mkF m 255 #[.val (.int p1), .val (.int p2), .val (.long p3), .second, .val (.long p4), .second, .val (.long p5), .second, .val (.int nA), .val (.int ca), .val (.int cb), .val (.int (if ((XT.ushr p1 (18 : Int32)) &&& (1 : Int32)) = (0 : Int32) then (0 : Int32) else (1 : Int32))), .val (.int (if ((XT.ushr p1 (19 : Int32)) &&& (1 : Int32)) = (0 : Int32) then (0 : Int32) else (1 : Int32))), .val (.int (if ((XT.ushr p1 (20 : Int32)) &&& (1 : Int32)) = (0 : Int32) then (0 : Int32) else (1 : Int32))), .val (.int nB), .val (.int da), .val (.int db), .val (.int sA), .val (.int sB), .val (.int fA), .val (.int fB), .val (.ref b20), .val (.ref b90), .unset, .unset] [(.int db), (.int cb)]) _
                refine XS.icmpNo X101.here hx rfl (hb hby at_255) rfl (XT.ii_ne_f hm110) ?_
                refine XS.iconst X101.here hx rfl (hb hby at_258) ?_
                refine XS.goto X101.here hx rfl (pc0 := 259) (pc' := 263) rfl (hb hby at_259) (by decide) (by decide) ?_
                show Sp p e below T101 (mkF m 263 #[.val (.int p1), .val (.int p2), .val (.long p3), .second, .val (.long p4), .second, .val (.long p5), .second, .val (.int nA), .val (.int ca), .val (.int cb), .val (.int (if ((XT.ushr p1 (18 : Int32)) &&& (1 : Int32)) = (0 : Int32) then (0 : Int32) else (1 : Int32))), .val (.int (if ((XT.ushr p1 (19 : Int32)) &&& (1 : Int32)) = (0 : Int32) then (0 : Int32) else (1 : Int32))), .val (.int (if ((XT.ushr p1 (20 : Int32)) &&& (1 : Int32)) = (0 : Int32) then (0 : Int32) else (1 : Int32))), .val (.int nB), .val (.int da), .val (.int db), .val (.int sA), .val (.int sB), .val (.int fA), .val (.int fB), .val (.ref b20), .val (.ref b90), .unset, .unset] [(.int (1 : Int32))]) _
                first | exact k | (simp only [if_pos hm104, if_neg hm105, if_pos hm108, if_neg hm109, if_pos hm110] at k; exact k) | (show Sp p e below T101 (mkF m 263 #[.val (.int p1), .val (.int p2), .val (.long p3), .second, .val (.long p4), .second, .val (.long p5), .second, .val (.int nA), .val (.int ca), .val (.int cb), .val (.int (if ((XT.ushr p1 (18 : Int32)) &&& (1 : Int32)) = (0 : Int32) then (0 : Int32) else (1 : Int32))), .val (.int (if ((XT.ushr p1 (19 : Int32)) &&& (1 : Int32)) = (0 : Int32) then (0 : Int32) else (1 : Int32))), .val (.int (if ((XT.ushr p1 (20 : Int32)) &&& (1 : Int32)) = (0 : Int32) then (0 : Int32) else (1 : Int32))), .val (.int nB), .val (.int da), .val (.int db), .val (.int sA), .val (.int sB), .val (.int fA), .val (.int fB), .val (.ref b20), .val (.ref b90), .unset, .unset] [(.int (1 : Int32))]) _; simp only [if_pos hm104, if_neg hm105, if_pos hm108, if_neg hm109, if_pos hm110] at k ⊢; exact k)
              · skip
                show Sp p e below T101 (mkF m 255 #[.val (.int p1), .val (.int p2), .val (.long p3), .second, .val (.long p4), .second, .val (.long p5), .second, .val (.int nA), .val (.int ca), .val (.int cb), .val (.int (if ((XT.ushr p1 (18 : Int32)) &&& (1 : Int32)) = (0 : Int32) then (0 : Int32) else (1 : Int32))), .val (.int (if ((XT.ushr p1 (19 : Int32)) &&& (1 : Int32)) = (0 : Int32) then (0 : Int32) else (1 : Int32))), .val (.int (if ((XT.ushr p1 (20 : Int32)) &&& (1 : Int32)) = (0 : Int32) then (0 : Int32) else (1 : Int32))), .val (.int nB), .val (.int da), .val (.int db), .val (.int sA), .val (.int sB), .val (.int fA), .val (.int fB), .val (.ref b20), .val (.ref b90), .unset, .unset] [(.int db), (.int cb)]) _
                refine XS.icmpYes X101.here hx rfl (pc0 := 255) (pc' := 262) rfl (hb hby at_255) rfl (XT.ii_ne_t hm110) (by decide) (by decide) ?_
                refine XS.iconst X101.here hx rfl (hb hby at_262) ?_
                first | exact k | (simp only [if_pos hm104, if_neg hm105, if_pos hm108, if_neg hm109, if_neg hm110] at k; exact k) | (show Sp p e below T101 (mkF m 263 #[.val (.int p1), .val (.int p2), .val (.long p3), .second, .val (.long p4), .second, .val (.long p5), .second, .val (.int nA), .val (.int ca), .val (.int cb), .val (.int (if ((XT.ushr p1 (18 : Int32)) &&& (1 : Int32)) = (0 : Int32) then (0 : Int32) else (1 : Int32))), .val (.int (if ((XT.ushr p1 (19 : Int32)) &&& (1 : Int32)) = (0 : Int32) then (0 : Int32) else (1 : Int32))), .val (.int (if ((XT.ushr p1 (20 : Int32)) &&& (1 : Int32)) = (0 : Int32) then (0 : Int32) else (1 : Int32))), .val (.int nB), .val (.int da), .val (.int db), .val (.int sA), .val (.int sB), .val (.int fA), .val (.int fB), .val (.ref b20), .val (.ref b90), .unset, .unset] [(.int (0 : Int32))]) _; simp only [if_pos hm104, if_neg hm105, if_pos hm108, if_neg hm109, if_neg hm110] at k ⊢; exact k)
          · skip
            show Sp p e below T101 (mkF m 242 #[.val (.int p1), .val (.int p2), .val (.long p3), .second, .val (.long p4), .second, .val (.long p5), .second, .val (.int nA), .val (.int ca), .val (.int cb), .val (.int (if ((XT.ushr p1 (18 : Int32)) &&& (1 : Int32)) = (0 : Int32) then (0 : Int32) else (1 : Int32))), .val (.int (if ((XT.ushr p1 (19 : Int32)) &&& (1 : Int32)) = (0 : Int32) then (0 : Int32) else (1 : Int32))), .val (.int (if ((XT.ushr p1 (20 : Int32)) &&& (1 : Int32)) = (0 : Int32) then (0 : Int32) else (1 : Int32))), .val (.int nB), .val (.int da), .val (.int db), .val (.int sA), .val (.int sB), .val (.int fA), .val (.int fB), .val (.ref b20), .val (.ref b90), .unset, .unset] [(.int da), (.int ca)]) _
            refine XS.icmpYes X101.here hx rfl (pc0 := 242) (pc' := 262) rfl (hb hby at_242) rfl (XT.ii_ne_t hm108) (by decide) (by decide) ?_
            show Sp p e below T101 (mkF m 262 #[.val (.int p1), .val (.int p2), .val (.long p3), .second, .val (.long p4), .second, .val (.long p5), .second, .val (.int nA), .val (.int ca), .val (.int cb), .val (.int (if ((XT.ushr p1 (18 : Int32)) &&& (1 : Int32)) = (0 : Int32) then (0 : Int32) else (1 : Int32))), .val (.int (if ((XT.ushr p1 (19 : Int32)) &&& (1 : Int32)) = (0 : Int32) then (0 : Int32) else (1 : Int32))), .val (.int (if ((XT.ushr p1 (20 : Int32)) &&& (1 : Int32)) = (0 : Int32) then (0 : Int32) else (1 : Int32))), .val (.int nB), .val (.int da), .val (.int db), .val (.int sA), .val (.int sB), .val (.int fA), .val (.int fB), .val (.ref b20), .val (.ref b90), .unset, .unset] []) _
            refine XS.iconst X101.here hx rfl (hb hby at_262) ?_
            first | exact k | (simp only [if_pos hm104, if_neg hm105, if_neg hm108] at k; exact k) | (show Sp p e below T101 (mkF m 263 #[.val (.int p1), .val (.int p2), .val (.long p3), .second, .val (.long p4), .second, .val (.long p5), .second, .val (.int nA), .val (.int ca), .val (.int cb), .val (.int (if ((XT.ushr p1 (18 : Int32)) &&& (1 : Int32)) = (0 : Int32) then (0 : Int32) else (1 : Int32))), .val (.int (if ((XT.ushr p1 (19 : Int32)) &&& (1 : Int32)) = (0 : Int32) then (0 : Int32) else (1 : Int32))), .val (.int (if ((XT.ushr p1 (20 : Int32)) &&& (1 : Int32)) = (0 : Int32) then (0 : Int32) else (1 : Int32))), .val (.int nB), .val (.int da), .val (.int db), .val (.int sA), .val (.int sB), .val (.int fA), .val (.int fB), .val (.ref b20), .val (.ref b90), .unset, .unset] [(.int (0 : Int32))]) _; simp only [if_pos hm104, if_neg hm105, if_neg hm108] at k ⊢; exact k)
      · skip
        show Sp p e below T101 (mkF m 229 #[.val (.int p1), .val (.int p2), .val (.long p3), .second, .val (.long p4), .second, .val (.long p5), .second, .val (.int nA), .val (.int ca), .val (.int cb), .val (.int (if ((XT.ushr p1 (18 : Int32)) &&& (1 : Int32)) = (0 : Int32) then (0 : Int32) else (1 : Int32))), .val (.int (if ((XT.ushr p1 (19 : Int32)) &&& (1 : Int32)) = (0 : Int32) then (0 : Int32) else (1 : Int32))), .val (.int (if ((XT.ushr p1 (20 : Int32)) &&& (1 : Int32)) = (0 : Int32) then (0 : Int32) else (1 : Int32))), .val (.int nB), .val (.int da), .val (.int db), .val (.int sA), .val (.int sB), .val (.int fA), .val (.int fB), .val (.ref b20), .val (.ref b90), .unset, .unset] [(.int nB), (.int nA)]) _
        refine XS.icmpYes X101.here hx rfl (pc0 := 229) (pc' := 262) rfl (hb hby at_229) rfl (XT.ii_ne_t hm104) (by decide) (by decide) ?_
        refine XS.iconst X101.here hx rfl (hb hby at_262) ?_
        first | exact k | (simp only [if_neg hm104] at k; exact k) | (show Sp p e below T101 (mkF m 263 #[.val (.int p1), .val (.int p2), .val (.long p3), .second, .val (.long p4), .second, .val (.long p5), .second, .val (.int nA), .val (.int ca), .val (.int cb), .val (.int (if ((XT.ushr p1 (18 : Int32)) &&& (1 : Int32)) = (0 : Int32) then (0 : Int32) else (1 : Int32))), .val (.int (if ((XT.ushr p1 (19 : Int32)) &&& (1 : Int32)) = (0 : Int32) then (0 : Int32) else (1 : Int32))), .val (.int (if ((XT.ushr p1 (20 : Int32)) &&& (1 : Int32)) = (0 : Int32) then (0 : Int32) else (1 : Int32))), .val (.int nB), .val (.int da), .val (.int db), .val (.int sA), .val (.int sB), .val (.int fA), .val (.int fB), .val (.ref b20), .val (.ref b90), .unset, .unset] [(.int (0 : Int32))]) _; simp only [if_neg hm104] at k ⊢; exact k)
    have pre_112 : ∀ t, Sp p e below T101 (mkF m 265 #[.val (.int p1), .val (.int p2), .val (.long p3), .second, .val (.long p4), .second, .val (.long p5), .second, .val (.int nA), .val (.int ca), .val (.int cb), .val (.int (if ((XT.ushr p1 (18 : Int32)) &&& (1 : Int32)) = (0 : Int32) then (0 : Int32) else (1 : Int32))), .val (.int (if ((XT.ushr p1 (19 : Int32)) &&& (1 : Int32)) = (0 : Int32) then (0 : Int32) else (1 : Int32))), .val (.int (if ((XT.ushr p1 (20 : Int32)) &&& (1 : Int32)) = (0 : Int32) then (0 : Int32) else (1 : Int32))), .val (.int nB), .val (.int da), .val (.int db), .val (.int sA), .val (.int sB), .val (.int fA), .val (.int fB), .val (.ref b20), .val (.ref b90), .val (.int (if nA = nB then (if nA < (1 : Int32) then (if nA < (2 : Int32) then (1 : Int32) else (if cb = db then (1 : Int32) else (0 : Int32))) else (if ca = da then (if nA < (2 : Int32) then (1 : Int32) else (if cb = db then (1 : Int32) else (0 : Int32))) else (0 : Int32))) else (0 : Int32))), .unset] []) t → Steps p.tables e below E0 t := by
      intro t k
      refine pre_111 t ?_
      show Sp p e below T101 (mkF m 263 #[.val (.int p1), .val (.int p2), .val (.long p3), .second, .val (.long p4), .second, .val (.long p5), .second, .val (.int nA), .val (.int ca), .val (.int cb), .val (.int (if ((XT.ushr p1 (18 : Int32)) &&& (1 : Int32)) = (0 : Int32) then (0 : Int32) else (1 : Int32))), .val (.int (if ((XT.ushr p1 (19 : Int32)) &&& (1 : Int32)) = (0 : Int32) then (0 : Int32) else (1 : Int32))), .val (.int (if ((XT.ushr p1 (20 : Int32)) &&& (1 : Int32)) = (0 : Int32) then (0 : Int32) else (1 : Int32))), .val (.int nB), .val (.int da), .val (.int db), .val (.int sA), .val (.int sB), .val (.int fA), .val (.int fB), .val (.ref b20), .val (.ref b90), .unset, .unset] [(.int (if nA = nB then (if nA < (1 : Int32) then (if nA < (2 : Int32) then (1 : Int32) else (if cb = db then (1 : Int32) else (0 : Int32))) else (if ca = da then (if nA < (2 : Int32) then (1 : Int32) else (if cb = db then (1 : Int32) else (0 : Int32))) else (0 : Int32))) else (0 : Int32)))]) _
      refine XS.istore X101.here hx rfl (hb hby at_263) rfl (l' := #[.val (.int p1), .val (.int p2), .val (.long p3), .second, .val (.long p4), .second, .val (.long p5), .second, .val (.int nA), .val (.int ca), .val (.int cb), .val (.int (if ((XT.ushr p1 (18 : Int32)) &&& (1 : Int32)) = (0 : Int32) then (0 : Int32) else (1 : Int32))), .val (.int (if ((XT.ushr p1 (19 : Int32)) &&& (1 : Int32)) = (0 : Int32) then (0 : Int32) else (1 : Int32))), .val (.int (if ((XT.ushr p1 (20 : Int32)) &&& (1 : Int32)) = (0 : Int32) then (0 : Int32) else (1 : Int32))), .val (.int nB), .val (.int da), .val (.int db), .val (.int sA), .val (.int sB), .val (.int fA), .val (.int fB), .val (.ref b20), .val (.ref b90), .val (.int (if nA = nB then (if nA < (1 : Int32) then (if nA < (2 : Int32) then (1 : Int32) else (if cb = db then (1 : Int32) else (0 : Int32))) else (if ca = da then (if nA < (2 : Int32) then (1 : Int32) else (if cb = db then (1 : Int32) else (0 : Int32))) else (0 : Int32))) else (0 : Int32))), .unset]) rfl ?_
      exact k
    have ezz : own_eqv nA nB ca da cb db = own_eqv nA nB ca da cb db := rfl
    have pre_113 : ∀ t, Sp p e below T101 (mkF m 265 #[.val (.int p1), .val (.int p2), .val (.long p3), .second, .val (.long p4), .second, .val (.long p5), .second, .val (.int nA), .val (.int ca), .val (.int cb), .val (.int (if ((XT.ushr p1 (18 : Int32)) &&& (1 : Int32)) = (0 : Int32) then (0 : Int32) else (1 : Int32))), .val (.int (if ((XT.ushr p1 (19 : Int32)) &&& (1 : Int32)) = (0 : Int32) then (0 : Int32) else (1 : Int32))), .val (.int (if ((XT.ushr p1 (20 : Int32)) &&& (1 : Int32)) = (0 : Int32) then (0 : Int32) else (1 : Int32))), .val (.int nB), .val (.int da), .val (.int db), .val (.int sA), .val (.int sB), .val (.int fA), .val (.int fB), .val (.ref b20), .val (.ref b90), .val (.int (own_eqv nA nB ca da cb db)), .unset] []) t → Steps p.tables e below E0 t := pre_112
    rcases own_eqv01 nA nB ca da cb db with hv | hv
    · skip
      have pre_114 : ∀ t, Sp p e below T101 (mkF m 295 #[.val (.int p1), .val (.int p2), .val (.long p3), .second, .val (.long p4), .second, .val (.long p5), .second, .val (.int nA), .val (.int ca), .val (.int cb), .val (.int (if ((XT.ushr p1 (18 : Int32)) &&& (1 : Int32)) = (0 : Int32) then (0 : Int32) else (1 : Int32))), .val (.int (if ((XT.ushr p1 (19 : Int32)) &&& (1 : Int32)) = (0 : Int32) then (0 : Int32) else (1 : Int32))), .val (.int (if ((XT.ushr p1 (20 : Int32)) &&& (1 : Int32)) = (0 : Int32) then (0 : Int32) else (1 : Int32))), .val (.int nB), .val (.int da), .val (.int db), .val (.int sA), .val (.int sB), .val (.int fA), .val (.int fB), .val (.ref b20), .val (.ref b90), .val (.int (own_eqv nA nB ca da cb db)), .val (.int (0 : Int32))] [(.ref b90), (.ref b20)]) t → Steps p.tables e below E0 t := by
        intro t k
        refine pre_113 t ?_
        show Sp p e below T101 (mkF m 265 #[.val (.int p1), .val (.int p2), .val (.long p3), .second, .val (.long p4), .second, .val (.long p5), .second, .val (.int nA), .val (.int ca), .val (.int cb), .val (.int (if ((XT.ushr p1 (18 : Int32)) &&& (1 : Int32)) = (0 : Int32) then (0 : Int32) else (1 : Int32))), .val (.int (if ((XT.ushr p1 (19 : Int32)) &&& (1 : Int32)) = (0 : Int32) then (0 : Int32) else (1 : Int32))), .val (.int (if ((XT.ushr p1 (20 : Int32)) &&& (1 : Int32)) = (0 : Int32) then (0 : Int32) else (1 : Int32))), .val (.int nB), .val (.int da), .val (.int db), .val (.int sA), .val (.int sB), .val (.int fA), .val (.int fB), .val (.ref b20), .val (.ref b90), .val (.int (own_eqv nA nB ca da cb db)), .unset] []) _
        refine XS.iload X101.here hx rfl (hb hby at_265) rfl ?_
        refine XS.ifYes X101.here hx rfl (pc0 := 267) (pc' := 288) rfl (hb hby at_267) rfl (XT.i0_eq_t hv) (by decide) (by decide) ?_
        show Sp p e below T101 (mkF m 288 #[.val (.int p1), .val (.int p2), .val (.long p3), .second, .val (.long p4), .second, .val (.long p5), .second, .val (.int nA), .val (.int ca), .val (.int cb), .val (.int (if ((XT.ushr p1 (18 : Int32)) &&& (1 : Int32)) = (0 : Int32) then (0 : Int32) else (1 : Int32))), .val (.int (if ((XT.ushr p1 (19 : Int32)) &&& (1 : Int32)) = (0 : Int32) then (0 : Int32) else (1 : Int32))), .val (.int (if ((XT.ushr p1 (20 : Int32)) &&& (1 : Int32)) = (0 : Int32) then (0 : Int32) else (1 : Int32))), .val (.int nB), .val (.int da), .val (.int db), .val (.int sA), .val (.int sB), .val (.int fA), .val (.int fB), .val (.ref b20), .val (.ref b90), .val (.int (own_eqv nA nB ca da cb db)), .unset] []) _
        refine XS.iconst X101.here hx rfl (hb hby at_288) ?_
        refine XS.istore X101.here hx rfl (hb hby at_289) rfl (l' := #[.val (.int p1), .val (.int p2), .val (.long p3), .second, .val (.long p4), .second, .val (.long p5), .second, .val (.int nA), .val (.int ca), .val (.int cb), .val (.int (if ((XT.ushr p1 (18 : Int32)) &&& (1 : Int32)) = (0 : Int32) then (0 : Int32) else (1 : Int32))), .val (.int (if ((XT.ushr p1 (19 : Int32)) &&& (1 : Int32)) = (0 : Int32) then (0 : Int32) else (1 : Int32))), .val (.int (if ((XT.ushr p1 (20 : Int32)) &&& (1 : Int32)) = (0 : Int32) then (0 : Int32) else (1 : Int32))), .val (.int nB), .val (.int da), .val (.int db), .val (.int sA), .val (.int sB), .val (.int fA), .val (.int fB), .val (.ref b20), .val (.ref b90), .val (.int (own_eqv nA nB ca da cb db)), .val (.int (0 : Int32))]) rfl ?_
        refine XS.aload X101.here hx rfl (hb hby at_291) rfl rfl ?_
        refine XS.aload X101.here hx rfl (hb hby at_293) rfl rfl ?_
        show Sp p e below T101 (mkF m 295 #[.val (.int p1), .val (.int p2), .val (.long p3), .second, .val (.long p4), .second, .val (.long p5), .second, .val (.int nA), .val (.int ca), .val (.int cb), .val (.int (if ((XT.ushr p1 (18 : Int32)) &&& (1 : Int32)) = (0 : Int32) then (0 : Int32) else (1 : Int32))), .val (.int (if ((XT.ushr p1 (19 : Int32)) &&& (1 : Int32)) = (0 : Int32) then (0 : Int32) else (1 : Int32))), .val (.int (if ((XT.ushr p1 (20 : Int32)) &&& (1 : Int32)) = (0 : Int32) then (0 : Int32) else (1 : Int32))), .val (.int nB), .val (.int da), .val (.int db), .val (.int sA), .val (.int sB), .val (.int fA), .val (.int fB), .val (.ref b20), .val (.ref b90), .val (.int (own_eqv nA nB ca da cb db)), .val (.int (0 : Int32))] [(.ref b90), (.ref b20)]) _
        exact k
      obtain ⟨cq115, kq115, qa115, qb115, qc115⟩ := isOf hZ98 rfl (((((A20.keep K28).keep K87).ext E90).keep K98).keep K101)
      obtain ⟨_, _, ⟨T115, L115, k115, n115⟩, -, X115, ⟨Lc115, hQ115, l115, y115, z115⟩, st115⟩ := X101.virtualBack hx (y := (⟨"com/example/vaxwire/vaxwire/hl7/Location", "inFieldOf", "(Lcom/example/vaxwire/vaxwire/hl7/Location;)Z"⟩ : MethodName)) (z := (⟨"com/example/vaxwire/vaxwire/hl7/Location", "inFieldOf", "(Lcom/example/vaxwire/vaxwire/hl7/Location;)Z"⟩ : MethodName)) ho98 (mvT hZ98 (own_w hw 48 rfl)) (mvT hZ98 (own_w hw 49 rfl)) (notFace_of_selects (args := #[]) (mvT hZ98 (own_w hw 51 rfl))) (mvT hZ98 (own_w hw 51 rfl)) (mvT hZ98 (own_w hw 50 rfl)) (by decide) (backOf (W := 0) (rm_inf l Z a0 hw [] b20 b90 sA fA sB fB a28 a98 b28 b98 G1 kB28 kB98 nA nB ca cb da db T101.heap n0 O101 (((Fa87.ext E90).keep K98 nin0).keep K101 (ninS (Nat.ne_of_lt (Nat.lt_of_lt_of_le ((A20.keep K28).keep K87).lt (Nat.le_of_eq g90.symm))) nin0)) (((Fb87.ext E90).keep K98 nin0).keep K101 (ninS (Nat.ne_of_lt (Nat.lt_of_lt_of_le ((A20.keep K28).keep K87).lt (Nat.le_of_eq g90.symm))) nin0)) (((Fd87.ext E90).keep K98 nin0).keep K101 (ninS (Nat.ne_of_lt (Nat.lt_of_lt_of_le ((A20.keep K28).keep K87).lt (Nat.le_of_eq g90.symm))) nin0)) Fa101 Fb101 Fd101 ((((Ea28.keep K87).ext E90).keep K98).keep K101) (Ea98.keep K101) ((((Fc28.keep K87 (ninS (Ne.symm (Nat.ne_of_lt (Nat.lt_of_lt_of_le A20.lt sa28))) nin0)).ext E90).keep K98 nin0).keep K101 (ninS (Nat.ne_of_lt (Nat.lt_of_lt_of_le (Ea28.keep K87).lt (Nat.le_of_eq g90.symm))) nin0)) (Fc98.keep K101 (ninS (Ne.symm (Nat.ne_of_lt (Nat.lt_of_lt_of_le A90.lt sa98))) nin0)) ((((Fv28.keep K87 (ninS (Ne.symm (Nat.ne_of_lt (Nat.lt_of_lt_of_le A20.lt sa28))) nin0)).ext E90).keep K98 nin0).keep K101 (ninS (Nat.ne_of_lt (Nat.lt_of_lt_of_le (Ea28.keep K87).lt (Nat.le_of_eq g90.symm))) nin0)) (Fv98.keep K101 (ninS (Ne.symm (Nat.ne_of_lt (Nat.lt_of_lt_of_le A90.lt sa98))) nin0)) ((((Ab28.keep K87 (ninS (Ne.symm (own_neAr (A20.keep K28) Ab28 (own_w hw 1 rfl))) nin0)).ext E90).keep K98 nin0).keep K101 (ninS (Nat.ne_of_lt (Nat.lt_of_lt_of_le (Ab28.keep K87 (ninS (Ne.symm (own_neAr (A20.keep K28) Ab28 (own_w hw 1 rfl))) nin0)).lt (Nat.le_of_eq g90.symm))) nin0)) (Ab98.keep K101 (ninS (Ne.symm (own_neAr (A90.keep K98) Ab98 (own_w hw 1 rfl))) nin0)) (Nat.ne_of_lt (Nat.lt_of_lt_of_le ((Ea28.keep K87).ext E90).lt sa98)) SC hG hca.2 hcb.2 hda.2 hdb.2) hZ98 (own_w hw 52 rfl) (own_w hw 2 rfl) (by decide) (by decide)) qa115 qc115 (g := (mkF m 295 #[.val (.int p1), .val (.int p2), .val (.long p3), .second, .val (.long p4), .second, .val (.long p5), .second, .val (.int nA), .val (.int ca), .val (.int cb), .val (.int (if ((XT.ushr p1 (18 : Int32)) &&& (1 : Int32)) = (0 : Int32) then (0 : Int32) else (1 : Int32))), .val (.int (if ((XT.ushr p1 (19 : Int32)) &&& (1 : Int32)) = (0 : Int32) then (0 : Int32) else (1 : Int32))), .val (.int (if ((XT.ushr p1 (20 : Int32)) &&& (1 : Int32)) = (0 : Int32) then (0 : Int32) else (1 : Int32))), .val (.int nB), .val (.int da), .val (.int db), .val (.int sA), .val (.int sB), .val (.int fA), .val (.int fB), .val (.ref b20), .val (.ref b90), .val (.int (own_eqv nA nB ca da cb db)), .val (.int (0 : Int32))] [(.ref b90), (.ref b20)])) rfl (by rw [hml]; rfl) (Steps.refl _) (argsL := [(.ref b90)]) (rest := []) (lenOf pd_law_2 rfl) rfl (by show 2 * 0 + _ ≤ _; exact Nat.le_of_eq rfl) (hb hby at_295) (fun _ _ => ⟨rfl, rfl, (by decide : 10 + 0 ≤ _), (by decide : 30 + 0 ≤ _)⟩)
      dsimp only [Pt.U, Pt.locs, Pt.cells, Pt.slots] at X115 l115 y115 z115 st115 hQ115
      subst l115 y115 z115
      obtain ⟨rfl, N115q, e115⟩ := hQ115
      have N115 := Fr.app N101 N115q
      have pre_116 : ∀ t, Sp p e below T115 (mkF m 298 #[.val (.int p1), .val (.int p2), .val (.long p3), .second, .val (.long p4), .second, .val (.long p5), .second, .val (.int nA), .val (.int ca), .val (.int cb), .val (.int (if ((XT.ushr p1 (18 : Int32)) &&& (1 : Int32)) = (0 : Int32) then (0 : Int32) else (1 : Int32))), .val (.int (if ((XT.ushr p1 (19 : Int32)) &&& (1 : Int32)) = (0 : Int32) then (0 : Int32) else (1 : Int32))), .val (.int (if ((XT.ushr p1 (20 : Int32)) &&& (1 : Int32)) = (0 : Int32) then (0 : Int32) else (1 : Int32))), .val (.int nB), .val (.int da), .val (.int db), .val (.int sA), .val (.int sB), .val (.int fA), .val (.int fB), .val (.ref b20), .val (.ref b90), .val (.int (own_eqv nA nB ca da cb db)), .val (.int (0 : Int32))] [(.int (if fA = fB then (if sA = sB then (own_eqv nA nB ca da cb db) else (0 : Int32)) else (0 : Int32)))]) t → Steps p.tables e below E0 t := fun t k => pre_114 t (st115.trans k)
      have pre_117 : ∀ t, Sp p e below T115 (mkF m 300 #[.val (.int p1), .val (.int p2), .val (.long p3), .second, .val (.long p4), .second, .val (.long p5), .second, .val (.int nA), .val (.int ca), .val (.int cb), .val (.int (if ((XT.ushr p1 (18 : Int32)) &&& (1 : Int32)) = (0 : Int32) then (0 : Int32) else (1 : Int32))), .val (.int (if ((XT.ushr p1 (19 : Int32)) &&& (1 : Int32)) = (0 : Int32) then (0 : Int32) else (1 : Int32))), .val (.int (if ((XT.ushr p1 (20 : Int32)) &&& (1 : Int32)) = (0 : Int32) then (0 : Int32) else (1 : Int32))), .val (.int nB), .val (.int da), .val (.int db), .val (.int sA), .val (.int sB), .val (.int fA), .val (.int fB), .val (.ref b20), .val (.ref b90), .val (.int (own_eqv nA nB ca da cb db)), .val (.int (0 : Int32))] [(.int (0 : Int32)), (.int (if fA = fB then (if sA = sB then (own_eqv nA nB ca da cb db) else (0 : Int32)) else (0 : Int32)))]) t → Steps p.tables e below E0 t := by
        intro t k
        refine pre_116 t ?_
        show Sp p e below T115 (mkF m 298 #[.val (.int p1), .val (.int p2), .val (.long p3), .second, .val (.long p4), .second, .val (.long p5), .second, .val (.int nA), .val (.int ca), .val (.int cb), .val (.int (if ((XT.ushr p1 (18 : Int32)) &&& (1 : Int32)) = (0 : Int32) then (0 : Int32) else (1 : Int32))), .val (.int (if ((XT.ushr p1 (19 : Int32)) &&& (1 : Int32)) = (0 : Int32) then (0 : Int32) else (1 : Int32))), .val (.int (if ((XT.ushr p1 (20 : Int32)) &&& (1 : Int32)) = (0 : Int32) then (0 : Int32) else (1 : Int32))), .val (.int nB), .val (.int da), .val (.int db), .val (.int sA), .val (.int sB), .val (.int fA), .val (.int fB), .val (.ref b20), .val (.ref b90), .val (.int (own_eqv nA nB ca da cb db)), .val (.int (0 : Int32))] [(.int (if fA = fB then (if sA = sB then (own_eqv nA nB ca da cb db) else (0 : Int32)) else (0 : Int32)))]) _
        refine XS.iload X115.here hx rfl (hb hby at_298) rfl ?_
        exact k
      by_cases hc118 : fA = fB
      · skip
        by_cases hc119 : sA = sB
        · skip
          have pre_120 : ∀ t, Sp p e below T115 (mkF m 308 #[.val (.int p1), .val (.int p2), .val (.long p3), .second, .val (.long p4), .second, .val (.long p5), .second, .val (.int nA), .val (.int ca), .val (.int cb), .val (.int (if ((XT.ushr p1 (18 : Int32)) &&& (1 : Int32)) = (0 : Int32) then (0 : Int32) else (1 : Int32))), .val (.int (if ((XT.ushr p1 (19 : Int32)) &&& (1 : Int32)) = (0 : Int32) then (0 : Int32) else (1 : Int32))), .val (.int (if ((XT.ushr p1 (20 : Int32)) &&& (1 : Int32)) = (0 : Int32) then (0 : Int32) else (1 : Int32))), .val (.int nB), .val (.int da), .val (.int db), .val (.int sA), .val (.int sB), .val (.int fA), .val (.int fB), .val (.ref b20), .val (.ref b90), .val (.int (own_eqv nA nB ca da cb db)), .val (.int (0 : Int32))] [(.int (1 : Int32))]) t → Steps p.tables e below E0 t := by
            intro t k
            refine pre_117 t ?_
            show Sp p e below T115 (mkF m 300 #[.val (.int p1), .val (.int p2), .val (.long p3), .second, .val (.long p4), .second, .val (.long p5), .second, .val (.int nA), .val (.int ca), .val (.int cb), .val (.int (if ((XT.ushr p1 (18 : Int32)) &&& (1 : Int32)) = (0 : Int32) then (0 : Int32) else (1 : Int32))), .val (.int (if ((XT.ushr p1 (19 : Int32)) &&& (1 : Int32)) = (0 : Int32) then (0 : Int32) else (1 : Int32))), .val (.int (if ((XT.ushr p1 (20 : Int32)) &&& (1 : Int32)) = (0 : Int32) then (0 : Int32) else (1 : Int32))), .val (.int nB), .val (.int da), .val (.int db), .val (.int sA), .val (.int sB), .val (.int fA), .val (.int fB), .val (.ref b20), .val (.ref b90), .val (.int (own_eqv nA nB ca da cb db)), .val (.int (0 : Int32))] [(.int (0 : Int32)), (.int (if fA = fB then (if sA = sB then (own_eqv nA nB ca da cb db) else (0 : Int32)) else (0 : Int32)))]) _
            refine XS.icmpNo X115.here hx rfl (hb hby at_300) rfl (XT.ii_ne_f (by simp only [if_pos hc118, if_pos hc119]; exact hv)) ?_
            refine XS.iconst X115.here hx rfl (hb hby at_303) ?_
            refine XS.goto X115.here hx rfl (pc0 := 304) (pc' := 308) rfl (hb hby at_304) (by decide) (by decide) ?_
            show Sp p e below T115 (mkF m 308 #[.val (.int p1), .val (.int p2), .val (.long p3), .second, .val (.long p4), .second, .val (.long p5), .second, .val (.int nA), .val (.int ca), .val (.int cb), .val (.int (if ((XT.ushr p1 (18 : Int32)) &&& (1 : Int32)) = (0 : Int32) then (0 : Int32) else (1 : Int32))), .val (.int (if ((XT.ushr p1 (19 : Int32)) &&& (1 : Int32)) = (0 : Int32) then (0 : Int32) else (1 : Int32))), .val (.int (if ((XT.ushr p1 (20 : Int32)) &&& (1 : Int32)) = (0 : Int32) then (0 : Int32) else (1 : Int32))), .val (.int nB), .val (.int da), .val (.int db), .val (.int sA), .val (.int sB), .val (.int fA), .val (.int fB), .val (.ref b20), .val (.ref b90), .val (.int (own_eqv nA nB ca da cb db)), .val (.int (0 : Int32))] [(.int (1 : Int32))]) _
            exact k
          obtain ⟨fs, hr, hrun, hended, hEnd⟩ := X115.leaveW hS98 (by rw [e115]; exact (Nat.le_trans (Nat.le_refl _) (Nat.le_trans (Nat.le_refl _) K101.1))) (v := some (.int (1 : Int32))) (fun h => by rw [Bd.returns] at h; cases h)
          refine ⟨_, _, pre_120 _ ?_, hrun, hended, _, _, rfl, ?_, hEnd.1, hEnd.2.1, hEnd.2.2.1, hEnd.2.2.2.mono (by decide) (by decide)⟩
          · show Sp p e below T115 (mkF m 308 #[.val (.int p1), .val (.int p2), .val (.long p3), .second, .val (.long p4), .second, .val (.long p5), .second, .val (.int nA), .val (.int ca), .val (.int cb), .val (.int (if ((XT.ushr p1 (18 : Int32)) &&& (1 : Int32)) = (0 : Int32) then (0 : Int32) else (1 : Int32))), .val (.int (if ((XT.ushr p1 (19 : Int32)) &&& (1 : Int32)) = (0 : Int32) then (0 : Int32) else (1 : Int32))), .val (.int (if ((XT.ushr p1 (20 : Int32)) &&& (1 : Int32)) = (0 : Int32) then (0 : Int32) else (1 : Int32))), .val (.int nB), .val (.int da), .val (.int db), .val (.int sA), .val (.int sB), .val (.int fA), .val (.int fB), .val (.ref b20), .val (.ref b90), .val (.int (own_eqv nA nB ca da cb db)), .val (.int (0 : Int32))] [(.int (1 : Int32))]) _
            exact retN X115 hx (t := .boolean) Bd.returns (by simp) (hb hby at_308) hr
          · show Q_law Z _ _ _ _ _ _ h0 n0 _ T115.vm T115.heap _
            rw [e115]
            exact ⟨rfl, N115⟩
        · skip
          have pre_121 : ∀ t, Sp p e below T115 (mkF m 308 #[.val (.int p1), .val (.int p2), .val (.long p3), .second, .val (.long p4), .second, .val (.long p5), .second, .val (.int nA), .val (.int ca), .val (.int cb), .val (.int (if ((XT.ushr p1 (18 : Int32)) &&& (1 : Int32)) = (0 : Int32) then (0 : Int32) else (1 : Int32))), .val (.int (if ((XT.ushr p1 (19 : Int32)) &&& (1 : Int32)) = (0 : Int32) then (0 : Int32) else (1 : Int32))), .val (.int (if ((XT.ushr p1 (20 : Int32)) &&& (1 : Int32)) = (0 : Int32) then (0 : Int32) else (1 : Int32))), .val (.int nB), .val (.int da), .val (.int db), .val (.int sA), .val (.int sB), .val (.int fA), .val (.int fB), .val (.ref b20), .val (.ref b90), .val (.int (own_eqv nA nB ca da cb db)), .val (.int (0 : Int32))] [(.int (1 : Int32))]) t → Steps p.tables e below E0 t := by
            intro t k
            refine pre_117 t ?_
            show Sp p e below T115 (mkF m 300 #[.val (.int p1), .val (.int p2), .val (.long p3), .second, .val (.long p4), .second, .val (.long p5), .second, .val (.int nA), .val (.int ca), .val (.int cb), .val (.int (if ((XT.ushr p1 (18 : Int32)) &&& (1 : Int32)) = (0 : Int32) then (0 : Int32) else (1 : Int32))), .val (.int (if ((XT.ushr p1 (19 : Int32)) &&& (1 : Int32)) = (0 : Int32) then (0 : Int32) else (1 : Int32))), .val (.int (if ((XT.ushr p1 (20 : Int32)) &&& (1 : Int32)) = (0 : Int32) then (0 : Int32) else (1 : Int32))), .val (.int nB), .val (.int da), .val (.int db), .val (.int sA), .val (.int sB), .val (.int fA), .val (.int fB), .val (.ref b20), .val (.ref b90), .val (.int (own_eqv nA nB ca da cb db)), .val (.int (0 : Int32))] [(.int (0 : Int32)), (.int (if fA = fB then (if sA = sB then (own_eqv nA nB ca da cb db) else (0 : Int32)) else (0 : Int32)))]) _
            refine XS.icmpNo X115.here hx rfl (hb hby at_300) rfl (XT.ii_ne_f (by simp only [if_pos hc118, if_neg hc119] <;> decide)) ?_
            refine XS.iconst X115.here hx rfl (hb hby at_303) ?_
            refine XS.goto X115.here hx rfl (pc0 := 304) (pc' := 308) rfl (hb hby at_304) (by decide) (by decide) ?_
            show Sp p e below T115 (mkF m 308 #[.val (.int p1), .val (.int p2), .val (.long p3), .second, .val (.long p4), .second, .val (.long p5), .second, .val (.int nA), .val (.int ca), .val (.int cb), .val (.int (if ((XT.ushr p1 (18 : Int32)) &&& (1 : Int32)) = (0 : Int32) then (0 : Int32) else (1 : Int32))), .val (.int (if ((XT.ushr p1 (19 : Int32)) &&& (1 : Int32)) = (0 : Int32) then (0 : Int32) else (1 : Int32))), .val (.int (if ((XT.ushr p1 (20 : Int32)) &&& (1 : Int32)) = (0 : Int32) then (0 : Int32) else (1 : Int32))), .val (.int nB), .val (.int da), .val (.int db), .val (.int sA), .val (.int sB), .val (.int fA), .val (.int fB), .val (.ref b20), .val (.ref b90), .val (.int (own_eqv nA nB ca da cb db)), .val (.int (0 : Int32))] [(.int (1 : Int32))]) _
            exact k
          obtain ⟨fs, hr, hrun, hended, hEnd⟩ := X115.leaveW hS98 (by rw [e115]; exact (Nat.le_trans (Nat.le_refl _) (Nat.le_trans (Nat.le_refl _) K101.1))) (v := some (.int (1 : Int32))) (fun h => by rw [Bd.returns] at h; cases h)
          refine ⟨_, _, pre_121 _ ?_, hrun, hended, _, _, rfl, ?_, hEnd.1, hEnd.2.1, hEnd.2.2.1, hEnd.2.2.2.mono (by decide) (by decide)⟩
          · show Sp p e below T115 (mkF m 308 #[.val (.int p1), .val (.int p2), .val (.long p3), .second, .val (.long p4), .second, .val (.long p5), .second, .val (.int nA), .val (.int ca), .val (.int cb), .val (.int (if ((XT.ushr p1 (18 : Int32)) &&& (1 : Int32)) = (0 : Int32) then (0 : Int32) else (1 : Int32))), .val (.int (if ((XT.ushr p1 (19 : Int32)) &&& (1 : Int32)) = (0 : Int32) then (0 : Int32) else (1 : Int32))), .val (.int (if ((XT.ushr p1 (20 : Int32)) &&& (1 : Int32)) = (0 : Int32) then (0 : Int32) else (1 : Int32))), .val (.int nB), .val (.int da), .val (.int db), .val (.int sA), .val (.int sB), .val (.int fA), .val (.int fB), .val (.ref b20), .val (.ref b90), .val (.int (own_eqv nA nB ca da cb db)), .val (.int (0 : Int32))] [(.int (1 : Int32))]) _
            exact retN X115 hx (t := .boolean) Bd.returns (by simp) (hb hby at_308) hr
          · show Q_law Z _ _ _ _ _ _ h0 n0 _ T115.vm T115.heap _
            rw [e115]
            exact ⟨rfl, N115⟩
      · skip
        have pre_122 : ∀ t, Sp p e below T115 (mkF m 308 #[.val (.int p1), .val (.int p2), .val (.long p3), .second, .val (.long p4), .second, .val (.long p5), .second, .val (.int nA), .val (.int ca), .val (.int cb), .val (.int (if ((XT.ushr p1 (18 : Int32)) &&& (1 : Int32)) = (0 : Int32) then (0 : Int32) else (1 : Int32))), .val (.int (if ((XT.ushr p1 (19 : Int32)) &&& (1 : Int32)) = (0 : Int32) then (0 : Int32) else (1 : Int32))), .val (.int (if ((XT.ushr p1 (20 : Int32)) &&& (1 : Int32)) = (0 : Int32) then (0 : Int32) else (1 : Int32))), .val (.int nB), .val (.int da), .val (.int db), .val (.int sA), .val (.int sB), .val (.int fA), .val (.int fB), .val (.ref b20), .val (.ref b90), .val (.int (own_eqv nA nB ca da cb db)), .val (.int (0 : Int32))] [(.int (1 : Int32))]) t → Steps p.tables e below E0 t := by
          intro t k
          refine pre_117 t ?_
          show Sp p e below T115 (mkF m 300 #[.val (.int p1), .val (.int p2), .val (.long p3), .second, .val (.long p4), .second, .val (.long p5), .second, .val (.int nA), .val (.int ca), .val (.int cb), .val (.int (if ((XT.ushr p1 (18 : Int32)) &&& (1 : Int32)) = (0 : Int32) then (0 : Int32) else (1 : Int32))), .val (.int (if ((XT.ushr p1 (19 : Int32)) &&& (1 : Int32)) = (0 : Int32) then (0 : Int32) else (1 : Int32))), .val (.int (if ((XT.ushr p1 (20 : Int32)) &&& (1 : Int32)) = (0 : Int32) then (0 : Int32) else (1 : Int32))), .val (.int nB), .val (.int da), .val (.int db), .val (.int sA), .val (.int sB), .val (.int fA), .val (.int fB), .val (.ref b20), .val (.ref b90), .val (.int (own_eqv nA nB ca da cb db)), .val (.int (0 : Int32))] [(.int (0 : Int32)), (.int (if fA = fB then (if sA = sB then (own_eqv nA nB ca da cb db) else (0 : Int32)) else (0 : Int32)))]) _
          refine XS.icmpNo X115.here hx rfl (hb hby at_300) rfl (XT.ii_ne_f (by simp only [if_neg hc118] <;> decide)) ?_
          refine XS.iconst X115.here hx rfl (hb hby at_303) ?_
          refine XS.goto X115.here hx rfl (pc0 := 304) (pc' := 308) rfl (hb hby at_304) (by decide) (by decide) ?_
          show Sp p e below T115 (mkF m 308 #[.val (.int p1), .val (.int p2), .val (.long p3), .second, .val (.long p4), .second, .val (.long p5), .second, .val (.int nA), .val (.int ca), .val (.int cb), .val (.int (if ((XT.ushr p1 (18 : Int32)) &&& (1 : Int32)) = (0 : Int32) then (0 : Int32) else (1 : Int32))), .val (.int (if ((XT.ushr p1 (19 : Int32)) &&& (1 : Int32)) = (0 : Int32) then (0 : Int32) else (1 : Int32))), .val (.int (if ((XT.ushr p1 (20 : Int32)) &&& (1 : Int32)) = (0 : Int32) then (0 : Int32) else (1 : Int32))), .val (.int nB), .val (.int da), .val (.int db), .val (.int sA), .val (.int sB), .val (.int fA), .val (.int fB), .val (.ref b20), .val (.ref b90), .val (.int (own_eqv nA nB ca da cb db)), .val (.int (0 : Int32))] [(.int (1 : Int32))]) _
          exact k
        obtain ⟨fs, hr, hrun, hended, hEnd⟩ := X115.leaveW hS98 (by rw [e115]; exact (Nat.le_trans (Nat.le_refl _) (Nat.le_trans (Nat.le_refl _) K101.1))) (v := some (.int (1 : Int32))) (fun h => by rw [Bd.returns] at h; cases h)
        refine ⟨_, _, pre_122 _ ?_, hrun, hended, _, _, rfl, ?_, hEnd.1, hEnd.2.1, hEnd.2.2.1, hEnd.2.2.2.mono (by decide) (by decide)⟩
        · show Sp p e below T115 (mkF m 308 #[.val (.int p1), .val (.int p2), .val (.long p3), .second, .val (.long p4), .second, .val (.long p5), .second, .val (.int nA), .val (.int ca), .val (.int cb), .val (.int (if ((XT.ushr p1 (18 : Int32)) &&& (1 : Int32)) = (0 : Int32) then (0 : Int32) else (1 : Int32))), .val (.int (if ((XT.ushr p1 (19 : Int32)) &&& (1 : Int32)) = (0 : Int32) then (0 : Int32) else (1 : Int32))), .val (.int (if ((XT.ushr p1 (20 : Int32)) &&& (1 : Int32)) = (0 : Int32) then (0 : Int32) else (1 : Int32))), .val (.int nB), .val (.int da), .val (.int db), .val (.int sA), .val (.int sB), .val (.int fA), .val (.int fB), .val (.ref b20), .val (.ref b90), .val (.int (own_eqv nA nB ca da cb db)), .val (.int (0 : Int32))] [(.int (1 : Int32))]) _
          exact retN X115 hx (t := .boolean) Bd.returns (by simp) (hb hby at_308) hr
        · show Q_law Z _ _ _ _ _ _ h0 n0 _ T115.vm T115.heap _
          rw [e115]
          exact ⟨rfl, N115⟩
    · skip
      have pre_123 : ∀ t, Sp p e below T101 (mkF m 274 #[.val (.int p1), .val (.int p2), .val (.long p3), .second, .val (.long p4), .second, .val (.long p5), .second, .val (.int nA), .val (.int ca), .val (.int cb), .val (.int (if ((XT.ushr p1 (18 : Int32)) &&& (1 : Int32)) = (0 : Int32) then (0 : Int32) else (1 : Int32))), .val (.int (if ((XT.ushr p1 (19 : Int32)) &&& (1 : Int32)) = (0 : Int32) then (0 : Int32) else (1 : Int32))), .val (.int (if ((XT.ushr p1 (20 : Int32)) &&& (1 : Int32)) = (0 : Int32) then (0 : Int32) else (1 : Int32))), .val (.int nB), .val (.int da), .val (.int db), .val (.int sA), .val (.int sB), .val (.int fA), .val (.int fB), .val (.ref b20), .val (.ref b90), .val (.int (own_eqv nA nB ca da cb db)), .unset] [(.int sB), (.int sA)]) t → Steps p.tables e below E0 t := by
        intro t k
        refine pre_113 t ?_
        show Sp p e below T101 (mkF m 265 #[.val (.int p1), .val (.int p2), .val (.long p3), .second, .val (.long p4), .second, .val (.long p5), .second, .val (.int nA), .val (.int ca), .val (.int cb), .val (.int (if ((XT.ushr p1 (18 : Int32)) &&& (1 : Int32)) = (0 : Int32) then (0 : Int32) else (1 : Int32))), .val (.int (if ((XT.ushr p1 (19 : Int32)) &&& (1 : Int32)) = (0 : Int32) then (0 : Int32) else (1 : Int32))), .val (.int (if ((XT.ushr p1 (20 : Int32)) &&& (1 : Int32)) = (0 : Int32) then (0 : Int32) else (1 : Int32))), .val (.int nB), .val (.int da), .val (.int db), .val (.int sA), .val (.int sB), .val (.int fA), .val (.int fB), .val (.ref b20), .val (.ref b90), .val (.int (own_eqv nA nB ca da cb db)), .unset] []) _
        refine XS.iload X101.here hx rfl (hb hby at_265) rfl ?_
        refine XS.ifNo X101.here hx rfl (hb hby at_267) rfl (XT.i0_eq_f (by rw [hv]; decide)) ?_
        show Sp p e below T101 (mkF m 270 #[.val (.int p1), .val (.int p2), .val (.long p3), .second, .val (.long p4), .second, .val (.long p5), .second, .val (.int nA), .val (.int ca), .val (.int cb), .val (.int (if ((XT.ushr p1 (18 : Int32)) &&& (1 : Int32)) = (0 : Int32) then (0 : Int32) else (1 : Int32))), .val (.int (if ((XT.ushr p1 (19 : Int32)) &&& (1 : Int32)) = (0 : Int32) then (0 : Int32) else (1 : Int32))), .val (.int (if ((XT.ushr p1 (20 : Int32)) &&& (1 : Int32)) = (0 : Int32) then (0 : Int32) else (1 : Int32))), .val (.int nB), .val (.int da), .val (.int db), .val (.int sA), .val (.int sB), .val (.int fA), .val (.int fB), .val (.ref b20), .val (.ref b90), .val (.int (own_eqv nA nB ca da cb db)), .unset] []) _
        refine XS.iload X101.here hx rfl (hb hby at_270) rfl ?_
        refine XS.iload X101.here hx rfl (hb hby at_272) rfl ?_
        exact k
      by_cases hc124 : sA = sB
      · skip
        have pre_125 : ∀ t, Sp p e below T101 (mkF m 281 #[.val (.int p1), .val (.int p2), .val (.long p3), .second, .val (.long p4), .second, .val (.long p5), .second, .val (.int nA), .val (.int ca), .val (.int cb), .val (.int (if ((XT.ushr p1 (18 : Int32)) &&& (1 : Int32)) = (0 : Int32) then (0 : Int32) else (1 : Int32))), .val (.int (if ((XT.ushr p1 (19 : Int32)) &&& (1 : Int32)) = (0 : Int32) then (0 : Int32) else (1 : Int32))), .val (.int (if ((XT.ushr p1 (20 : Int32)) &&& (1 : Int32)) = (0 : Int32) then (0 : Int32) else (1 : Int32))), .val (.int nB), .val (.int da), .val (.int db), .val (.int sA), .val (.int sB), .val (.int fA), .val (.int fB), .val (.ref b20), .val (.ref b90), .val (.int (own_eqv nA nB ca da cb db)), .unset] [(.int fB), (.int fA)]) t → Steps p.tables e below E0 t := by
          intro t k
          refine pre_123 t ?_
          show Sp p e below T101 (mkF m 274 #[.val (.int p1), .val (.int p2), .val (.long p3), .second, .val (.long p4), .second, .val (.long p5), .second, .val (.int nA), .val (.int ca), .val (.int cb), .val (.int (if ((XT.ushr p1 (18 : Int32)) &&& (1 : Int32)) = (0 : Int32) then (0 : Int32) else (1 : Int32))), .val (.int (if ((XT.ushr p1 (19 : Int32)) &&& (1 : Int32)) = (0 : Int32) then (0 : Int32) else (1 : Int32))), .val (.int (if ((XT.ushr p1 (20 : Int32)) &&& (1 : Int32)) = (0 : Int32) then (0 : Int32) else (1 : Int32))), .val (.int nB), .val (.int da), .val (.int db), .val (.int sA), .val (.int sB), .val (.int fA), .val (.int fB), .val (.ref b20), .val (.ref b90), .val (.int (own_eqv nA nB ca da cb db)), .unset] [(.int sB), (.int sA)]) _
          refine XS.icmpNo X101.here hx rfl (hb hby at_274) rfl (XT.ii_ne_f hc124) ?_
          refine XS.iload X101.here hx rfl (hb hby at_277) rfl ?_
          show Sp p e below T101 (mkF m 279 #[.val (.int p1), .val (.int p2), .val (.long p3), .second, .val (.long p4), .second, .val (.long p5), .second, .val (.int nA), .val (.int ca), .val (.int cb), .val (.int (if ((XT.ushr p1 (18 : Int32)) &&& (1 : Int32)) = (0 : Int32) then (0 : Int32) else (1 : Int32))), .val (.int (if ((XT.ushr p1 (19 : Int32)) &&& (1 : Int32)) = (0 : Int32) then (0 : Int32) else (1 : Int32))), .val (.int (if ((XT.ushr p1 (20 : Int32)) &&& (1 : Int32)) = (0 : Int32) then (0 : Int32) else (1 : Int32))), .val (.int nB), .val (.int da), .val (.int db), .val (.int sA), .val (.int sB), .val (.int fA), .val (.int fB), .val (.ref b20), .val (.ref b90), .val (.int (own_eqv nA nB ca da cb db)), .unset] [(.int fA)]) _
          refine XS.iload X101.here hx rfl (hb hby at_279) rfl ?_
          exact k
        by_cases hc126 : fA = fB
        · skip
          have pre_127 : ∀ t, Sp p e below T101 (mkF m 295 #[.val (.int p1), .val (.int p2), .val (.long p3), .second, .val (.long p4), .second, .val (.long p5), .second, .val (.int nA), .val (.int ca), .val (.int cb), .val (.int (if ((XT.ushr p1 (18 : Int32)) &&& (1 : Int32)) = (0 : Int32) then (0 : Int32) else (1 : Int32))), .val (.int (if ((XT.ushr p1 (19 : Int32)) &&& (1 : Int32)) = (0 : Int32) then (0 : Int32) else (1 : Int32))), .val (.int (if ((XT.ushr p1 (20 : Int32)) &&& (1 : Int32)) = (0 : Int32) then (0 : Int32) else (1 : Int32))), .val (.int nB), .val (.int da), .val (.int db), .val (.int sA), .val (.int sB), .val (.int fA), .val (.int fB), .val (.ref b20), .val (.ref b90), .val (.int (own_eqv nA nB ca da cb db)), .val (.int (1 : Int32))] [(.ref b90), (.ref b20)]) t → Steps p.tables e below E0 t := by
            intro t k
            refine pre_125 t ?_
            show Sp p e below T101 (mkF m 281 #[.val (.int p1), .val (.int p2), .val (.long p3), .second, .val (.long p4), .second, .val (.long p5), .second, .val (.int nA), .val (.int ca), .val (.int cb), .val (.int (if ((XT.ushr p1 (18 : Int32)) &&& (1 : Int32)) = (0 : Int32) then (0 : Int32) else (1 : Int32))), .val (.int (if ((XT.ushr p1 (19 : Int32)) &&& (1 : Int32)) = (0 : Int32) then (0 : Int32) else (1 : Int32))), .val (.int (if ((XT.ushr p1 (20 : Int32)) &&& (1 : Int32)) = (0 : Int32) then (0 : Int32) else (1 : Int32))), .val (.int nB), .val (.int da), .val (.int db), .val (.int sA), .val (.int sB), .val (.int fA), .val (.int fB), .val (.ref b20), .val (.ref b90), .val (.int (own_eqv nA nB ca da cb db)), .unset] [(.int fB), (.int fA)]) _
            refine XS.icmpNo X101.here hx rfl (hb hby at_281) rfl (XT.ii_ne_f hc126) ?_
            refine XS.iconst X101.here hx rfl (hb hby at_284) ?_
            refine XS.goto X101.here hx rfl (pc0 := 285) (pc' := 289) rfl (hb hby at_285) (by decide) (by decide) ?_
            show Sp p e below T101 (mkF m 289 #[.val (.int p1), .val (.int p2), .val (.long p3), .second, .val (.long p4), .second, .val (.long p5), .second, .val (.int nA), .val (.int ca), .val (.int cb), .val (.int (if ((XT.ushr p1 (18 : Int32)) &&& (1 : Int32)) = (0 : Int32) then (0 : Int32) else (1 : Int32))), .val (.int (if ((XT.ushr p1 (19 : Int32)) &&& (1 : Int32)) = (0 : Int32) then (0 : Int32) else (1 : Int32))), .val (.int (if ((XT.ushr p1 (20 : Int32)) &&& (1 : Int32)) = (0 : Int32) then (0 : Int32) else (1 : Int32))), .val (.int nB), .val (.int da), .val (.int db), .val (.int sA), .val (.int sB), .val (.int fA), .val (.int fB), .val (.ref b20), .val (.ref b90), .val (.int (own_eqv nA nB ca da cb db)), .unset] [(.int (1 : Int32))]) _
            refine XS.istore X101.here hx rfl (hb hby at_289) rfl (l' := #[.val (.int p1), .val (.int p2), .val (.long p3), .second, .val (.long p4), .second, .val (.long p5), .second, .val (.int nA), .val (.int ca), .val (.int cb), .val (.int (if ((XT.ushr p1 (18 : Int32)) &&& (1 : Int32)) = (0 : Int32) then (0 : Int32) else (1 : Int32))), .val (.int (if ((XT.ushr p1 (19 : Int32)) &&& (1 : Int32)) = (0 : Int32) then (0 : Int32) else (1 : Int32))), .val (.int (if ((XT.ushr p1 (20 : Int32)) &&& (1 : Int32)) = (0 : Int32) then (0 : Int32) else (1 : Int32))), .val (.int nB), .val (.int da), .val (.int db), .val (.int sA), .val (.int sB), .val (.int fA), .val (.int fB), .val (.ref b20), .val (.ref b90), .val (.int (own_eqv nA nB ca da cb db)), .val (.int (1 : Int32))]) rfl ?_
            refine XS.aload X101.here hx rfl (hb hby at_291) rfl rfl ?_
            refine XS.aload X101.here hx rfl (hb hby at_293) rfl rfl ?_
            exact k
          obtain ⟨cq128, kq128, qa128, qb128, qc128⟩ := isOf hZ98 rfl (((((A20.keep K28).keep K87).ext E90).keep K98).keep K101)
          obtain ⟨_, _, ⟨T128, L128, k128, n128⟩, -, X128, ⟨Lc128, hQ128, l128, y128, z128⟩, st128⟩ := X101.virtualBack hx (y := (⟨"com/example/vaxwire/vaxwire/hl7/Location", "inFieldOf", "(Lcom/example/vaxwire/vaxwire/hl7/Location;)Z"⟩ : MethodName)) (z := (⟨"com/example/vaxwire/vaxwire/hl7/Location", "inFieldOf", "(Lcom/example/vaxwire/vaxwire/hl7/Location;)Z"⟩ : MethodName)) ho98 (mvT hZ98 (own_w hw 48 rfl)) (mvT hZ98 (own_w hw 49 rfl)) (notFace_of_selects (args := #[]) (mvT hZ98 (own_w hw 51 rfl))) (mvT hZ98 (own_w hw 51 rfl)) (mvT hZ98 (own_w hw 50 rfl)) (by decide) (backOf (W := 0) (rm_inf l Z a0 hw [] b20 b90 sA fA sB fB a28 a98 b28 b98 G1 kB28 kB98 nA nB ca cb da db T101.heap n0 O101 (((Fa87.ext E90).keep K98 nin0).keep K101 (ninS (Nat.ne_of_lt (Nat.lt_of_lt_of_le ((A20.keep K28).keep K87).lt (Nat.le_of_eq g90.symm))) nin0)) (((Fb87.ext E90).keep K98 nin0).keep K101 (ninS (Nat.ne_of_lt (Nat.lt_of_lt_of_le ((A20.keep K28).keep K87).lt (Nat.le_of_eq g90.symm))) nin0)) (((Fd87.ext E90).keep K98 nin0).keep K101 (ninS (Nat.ne_of_lt (Nat.lt_of_lt_of_le ((A20.keep K28).keep K87).lt (Nat.le_of_eq g90.symm))) nin0)) Fa101 Fb101 Fd101 ((((Ea28.keep K87).ext E90).keep K98).keep K101) (Ea98.keep K101) ((((Fc28.keep K87 (ninS (Ne.symm (Nat.ne_of_lt (Nat.lt_of_lt_of_le A20.lt sa28))) nin0)).ext E90).keep K98 nin0).keep K101 (ninS (Nat.ne_of_lt (Nat.lt_of_lt_of_le (Ea28.keep K87).lt (Nat.le_of_eq g90.symm))) nin0)) (Fc98.keep K101 (ninS (Ne.symm (Nat.ne_of_lt (Nat.lt_of_lt_of_le A90.lt sa98))) nin0)) ((((Fv28.keep K87 (ninS (Ne.symm (Nat.ne_of_lt (Nat.lt_of_lt_of_le A20.lt sa28))) nin0)).ext E90).keep K98 nin0).keep K101 (ninS (Nat.ne_of_lt (Nat.lt_of_lt_of_le (Ea28.keep K87).lt (Nat.le_of_eq g90.symm))) nin0)) (Fv98.keep K101 (ninS (Ne.symm (Nat.ne_of_lt (Nat.lt_of_lt_of_le A90.lt sa98))) nin0)) ((((Ab28.keep K87 (ninS (Ne.symm (own_neAr (A20.keep K28) Ab28 (own_w hw 1 rfl))) nin0)).ext E90).keep K98 nin0).keep K101 (ninS (Nat.ne_of_lt (Nat.lt_of_lt_of_le (Ab28.keep K87 (ninS (Ne.symm (own_neAr (A20.keep K28) Ab28 (own_w hw 1 rfl))) nin0)).lt (Nat.le_of_eq g90.symm))) nin0)) (Ab98.keep K101 (ninS (Ne.symm (own_neAr (A90.keep K98) Ab98 (own_w hw 1 rfl))) nin0)) (Nat.ne_of_lt (Nat.lt_of_lt_of_le ((Ea28.keep K87).ext E90).lt sa98)) SC hG hca.2 hcb.2 hda.2 hdb.2) hZ98 (own_w hw 52 rfl) (own_w hw 2 rfl) (by decide) (by decide)) qa128 qc128 (g := (mkF m 295 #[.val (.int p1), .val (.int p2), .val (.long p3), .second, .val (.long p4), .second, .val (.long p5), .second, .val (.int nA), .val (.int ca), .val (.int cb), .val (.int (if ((XT.ushr p1 (18 : Int32)) &&& (1 : Int32)) = (0 : Int32) then (0 : Int32) else (1 : Int32))), .val (.int (if ((XT.ushr p1 (19 : Int32)) &&& (1 : Int32)) = (0 : Int32) then (0 : Int32) else (1 : Int32))), .val (.int (if ((XT.ushr p1 (20 : Int32)) &&& (1 : Int32)) = (0 : Int32) then (0 : Int32) else (1 : Int32))), .val (.int nB), .val (.int da), .val (.int db), .val (.int sA), .val (.int sB), .val (.int fA), .val (.int fB), .val (.ref b20), .val (.ref b90), .val (.int (own_eqv nA nB ca da cb db)), .val (.int (1 : Int32))] [(.ref b90), (.ref b20)])) rfl (by rw [hml]; rfl) (Steps.refl _) (argsL := [(.ref b90)]) (rest := []) (lenOf pd_law_2 rfl) rfl (by show 2 * 0 + _ ≤ _; exact Nat.le_of_eq rfl) (hb hby at_295) (fun _ _ => ⟨rfl, rfl, (by decide : 10 + 0 ≤ _), (by decide : 30 + 0 ≤ _)⟩)
          dsimp only [Pt.U, Pt.locs, Pt.cells, Pt.slots] at X128 l128 y128 z128 st128 hQ128
          subst l128 y128 z128
          obtain ⟨rfl, N128q, e128⟩ := hQ128
          have N128 := Fr.app N101 N128q
          have pre_129 : ∀ t, Sp p e below T128 (mkF m 298 #[.val (.int p1), .val (.int p2), .val (.long p3), .second, .val (.long p4), .second, .val (.long p5), .second, .val (.int nA), .val (.int ca), .val (.int cb), .val (.int (if ((XT.ushr p1 (18 : Int32)) &&& (1 : Int32)) = (0 : Int32) then (0 : Int32) else (1 : Int32))), .val (.int (if ((XT.ushr p1 (19 : Int32)) &&& (1 : Int32)) = (0 : Int32) then (0 : Int32) else (1 : Int32))), .val (.int (if ((XT.ushr p1 (20 : Int32)) &&& (1 : Int32)) = (0 : Int32) then (0 : Int32) else (1 : Int32))), .val (.int nB), .val (.int da), .val (.int db), .val (.int sA), .val (.int sB), .val (.int fA), .val (.int fB), .val (.ref b20), .val (.ref b90), .val (.int (own_eqv nA nB ca da cb db)), .val (.int (1 : Int32))] [(.int (if fA = fB then (if sA = sB then (own_eqv nA nB ca da cb db) else (0 : Int32)) else (0 : Int32)))]) t → Steps p.tables e below E0 t := fun t k => pre_127 t (st128.trans k)
          have pre_130 : ∀ t, Sp p e below T128 (mkF m 308 #[.val (.int p1), .val (.int p2), .val (.long p3), .second, .val (.long p4), .second, .val (.long p5), .second, .val (.int nA), .val (.int ca), .val (.int cb), .val (.int (if ((XT.ushr p1 (18 : Int32)) &&& (1 : Int32)) = (0 : Int32) then (0 : Int32) else (1 : Int32))), .val (.int (if ((XT.ushr p1 (19 : Int32)) &&& (1 : Int32)) = (0 : Int32) then (0 : Int32) else (1 : Int32))), .val (.int (if ((XT.ushr p1 (20 : Int32)) &&& (1 : Int32)) = (0 : Int32) then (0 : Int32) else (1 : Int32))), .val (.int nB), .val (.int da), .val (.int db), .val (.int sA), .val (.int sB), .val (.int fA), .val (.int fB), .val (.ref b20), .val (.ref b90), .val (.int (own_eqv nA nB ca da cb db)), .val (.int (1 : Int32))] [(.int (1 : Int32))]) t → Steps p.tables e below E0 t := by
            intro t k
            refine pre_129 t ?_
            show Sp p e below T128 (mkF m 298 #[.val (.int p1), .val (.int p2), .val (.long p3), .second, .val (.long p4), .second, .val (.long p5), .second, .val (.int nA), .val (.int ca), .val (.int cb), .val (.int (if ((XT.ushr p1 (18 : Int32)) &&& (1 : Int32)) = (0 : Int32) then (0 : Int32) else (1 : Int32))), .val (.int (if ((XT.ushr p1 (19 : Int32)) &&& (1 : Int32)) = (0 : Int32) then (0 : Int32) else (1 : Int32))), .val (.int (if ((XT.ushr p1 (20 : Int32)) &&& (1 : Int32)) = (0 : Int32) then (0 : Int32) else (1 : Int32))), .val (.int nB), .val (.int da), .val (.int db), .val (.int sA), .val (.int sB), .val (.int fA), .val (.int fB), .val (.ref b20), .val (.ref b90), .val (.int (own_eqv nA nB ca da cb db)), .val (.int (1 : Int32))] [(.int (if fA = fB then (if sA = sB then (own_eqv nA nB ca da cb db) else (0 : Int32)) else (0 : Int32)))]) _
            refine XS.iload X128.here hx rfl (hb hby at_298) rfl ?_
            show Sp p e below T128 (mkF m 300 #[.val (.int p1), .val (.int p2), .val (.long p3), .second, .val (.long p4), .second, .val (.long p5), .second, .val (.int nA), .val (.int ca), .val (.int cb), .val (.int (if ((XT.ushr p1 (18 : Int32)) &&& (1 : Int32)) = (0 : Int32) then (0 : Int32) else (1 : Int32))), .val (.int (if ((XT.ushr p1 (19 : Int32)) &&& (1 : Int32)) = (0 : Int32) then (0 : Int32) else (1 : Int32))), .val (.int (if ((XT.ushr p1 (20 : Int32)) &&& (1 : Int32)) = (0 : Int32) then (0 : Int32) else (1 : Int32))), .val (.int nB), .val (.int da), .val (.int db), .val (.int sA), .val (.int sB), .val (.int fA), .val (.int fB), .val (.ref b20), .val (.ref b90), .val (.int (own_eqv nA nB ca da cb db)), .val (.int (1 : Int32))] [(.int (1 : Int32)), (.int (if fA = fB then (if sA = sB then (own_eqv nA nB ca da cb db) else (0 : Int32)) else (0 : Int32)))]) _
            refine XS.icmpNo X128.here hx rfl (hb hby at_300) rfl (XT.ii_ne_f (by simp only [if_pos hc126, if_pos hc124]; exact hv)) ?_
            refine XS.iconst X128.here hx rfl (hb hby at_303) ?_
            refine XS.goto X128.here hx rfl (pc0 := 304) (pc' := 308) rfl (hb hby at_304) (by decide) (by decide) ?_
            exact k
          obtain ⟨fs, hr, hrun, hended, hEnd⟩ := X128.leaveW hS98 (by rw [e128]; exact (Nat.le_trans (Nat.le_refl _) (Nat.le_trans (Nat.le_refl _) K101.1))) (v := some (.int (1 : Int32))) (fun h => by rw [Bd.returns] at h; cases h)
          refine ⟨_, _, pre_130 _ ?_, hrun, hended, _, _, rfl, ?_, hEnd.1, hEnd.2.1, hEnd.2.2.1, hEnd.2.2.2.mono (by decide) (by decide)⟩
          · show Sp p e below T128 (mkF m 308 #[.val (.int p1), .val (.int p2), .val (.long p3), .second, .val (.long p4), .second, .val (.long p5), .second, .val (.int nA), .val (.int ca), .val (.int cb), .val (.int (if ((XT.ushr p1 (18 : Int32)) &&& (1 : Int32)) = (0 : Int32) then (0 : Int32) else (1 : Int32))), .val (.int (if ((XT.ushr p1 (19 : Int32)) &&& (1 : Int32)) = (0 : Int32) then (0 : Int32) else (1 : Int32))), .val (.int (if ((XT.ushr p1 (20 : Int32)) &&& (1 : Int32)) = (0 : Int32) then (0 : Int32) else (1 : Int32))), .val (.int nB), .val (.int da), .val (.int db), .val (.int sA), .val (.int sB), .val (.int fA), .val (.int fB), .val (.ref b20), .val (.ref b90), .val (.int (own_eqv nA nB ca da cb db)), .val (.int (1 : Int32))] [(.int (1 : Int32))]) _
            exact retN X128 hx (t := .boolean) Bd.returns (by simp) (hb hby at_308) hr
          · show Q_law Z _ _ _ _ _ _ h0 n0 _ T128.vm T128.heap _
            rw [e128]
            exact ⟨rfl, N128⟩
        · skip
          have pre_131 : ∀ t, Sp p e below T101 (mkF m 295 #[.val (.int p1), .val (.int p2), .val (.long p3), .second, .val (.long p4), .second, .val (.long p5), .second, .val (.int nA), .val (.int ca), .val (.int cb), .val (.int (if ((XT.ushr p1 (18 : Int32)) &&& (1 : Int32)) = (0 : Int32) then (0 : Int32) else (1 : Int32))), .val (.int (if ((XT.ushr p1 (19 : Int32)) &&& (1 : Int32)) = (0 : Int32) then (0 : Int32) else (1 : Int32))), .val (.int (if ((XT.ushr p1 (20 : Int32)) &&& (1 : Int32)) = (0 : Int32) then (0 : Int32) else (1 : Int32))), .val (.int nB), .val (.int da), .val (.int db), .val (.int sA), .val (.int sB), .val (.int fA), .val (.int fB), .val (.ref b20), .val (.ref b90), .val (.int (own_eqv nA nB ca da cb db)), .val (.int (0 : Int32))] [(.ref b90), (.ref b20)]) t → Steps p.tables e below E0 t := by
            intro t k
            refine pre_125 t ?_
            show Sp p e below T101 (mkF m 281 #[.val (.int p1), .val (.int p2), .val (.long p3), .second, .val (.long p4), .second, .val (.long p5), .second, .val (.int nA), .val (.int ca), .val (.int cb), .val (.int (if ((XT.ushr p1 (18 : Int32)) &&& (1 : Int32)) = (0 : Int32) then (0 : Int32) else (1 : Int32))), .val (.int (if ((XT.ushr p1 (19 : Int32)) &&& (1 : Int32)) = (0 : Int32) then (0 : Int32) else (1 : Int32))), .val (.int (if ((XT.ushr p1 (20 : Int32)) &&& (1 : Int32)) = (0 : Int32) then (0 : Int32) else (1 : Int32))), .val (.int nB), .val (.int da), .val (.int db), .val (.int sA), .val (.int sB), .val (.int fA), .val (.int fB), .val (.ref b20), .val (.ref b90), .val (.int (own_eqv nA nB ca da cb db)), .unset] [(.int fB), (.int fA)]) _
            refine XS.icmpYes X101.here hx rfl (pc0 := 281) (pc' := 288) rfl (hb hby at_281) rfl (XT.ii_ne_t hc126) (by decide) (by decide) ?_
            refine XS.iconst X101.here hx rfl (hb hby at_288) ?_
            refine XS.istore X101.here hx rfl (hb hby at_289) rfl (l' := #[.val (.int p1), .val (.int p2), .val (.long p3), .second, .val (.long p4), .second, .val (.long p5), .second, .val (.int nA), .val (.int ca), .val (.int cb), .val (.int (if ((XT.ushr p1 (18 : Int32)) &&& (1 : Int32)) = (0 : Int32) then (0 : Int32) else (1 : Int32))), .val (.int (if ((XT.ushr p1 (19 : Int32)) &&& (1 : Int32)) = (0 : Int32) then (0 : Int32) else (1 : Int32))), .val (.int (if ((XT.ushr p1 (20 : Int32)) &&& (1 : Int32)) = (0 : Int32) then (0 : Int32) else (1 : Int32))), .val (.int nB), .val (.int da), .val (.int db), .val (.int sA), .val (.int sB), .val (.int fA), .val (.int fB), .val (.ref b20), .val (.ref b90), .val (.int (own_eqv nA nB ca da cb db)), .val (.int (0 : Int32))]) rfl ?_
            show Sp p e below T101 (mkF m 291 #[.val (.int p1), .val (.int p2), .val (.long p3), .second, .val (.long p4), .second, .val (.long p5), .second, .val (.int nA), .val (.int ca), .val (.int cb), .val (.int (if ((XT.ushr p1 (18 : Int32)) &&& (1 : Int32)) = (0 : Int32) then (0 : Int32) else (1 : Int32))), .val (.int (if ((XT.ushr p1 (19 : Int32)) &&& (1 : Int32)) = (0 : Int32) then (0 : Int32) else (1 : Int32))), .val (.int (if ((XT.ushr p1 (20 : Int32)) &&& (1 : Int32)) = (0 : Int32) then (0 : Int32) else (1 : Int32))), .val (.int nB), .val (.int da), .val (.int db), .val (.int sA), .val (.int sB), .val (.int fA), .val (.int fB), .val (.ref b20), .val (.ref b90), .val (.int (own_eqv nA nB ca da cb db)), .val (.int (0 : Int32))] []) _
            refine XS.aload X101.here hx rfl (hb hby at_291) rfl rfl ?_
            refine XS.aload X101.here hx rfl (hb hby at_293) rfl rfl ?_
            exact k
          obtain ⟨cq132, kq132, qa132, qb132, qc132⟩ := isOf hZ98 rfl (((((A20.keep K28).keep K87).ext E90).keep K98).keep K101)
          obtain ⟨_, _, ⟨T132, L132, k132, n132⟩, -, X132, ⟨Lc132, hQ132, l132, y132, z132⟩, st132⟩ := X101.virtualBack hx (y := (⟨"com/example/vaxwire/vaxwire/hl7/Location", "inFieldOf", "(Lcom/example/vaxwire/vaxwire/hl7/Location;)Z"⟩ : MethodName)) (z := (⟨"com/example/vaxwire/vaxwire/hl7/Location", "inFieldOf", "(Lcom/example/vaxwire/vaxwire/hl7/Location;)Z"⟩ : MethodName)) ho98 (mvT hZ98 (own_w hw 48 rfl)) (mvT hZ98 (own_w hw 49 rfl)) (notFace_of_selects (args := #[]) (mvT hZ98 (own_w hw 51 rfl))) (mvT hZ98 (own_w hw 51 rfl)) (mvT hZ98 (own_w hw 50 rfl)) (by decide) (backOf (W := 0) (rm_inf l Z a0 hw [] b20 b90 sA fA sB fB a28 a98 b28 b98 G1 kB28 kB98 nA nB ca cb da db T101.heap n0 O101 (((Fa87.ext E90).keep K98 nin0).keep K101 (ninS (Nat.ne_of_lt (Nat.lt_of_lt_of_le ((A20.keep K28).keep K87).lt (Nat.le_of_eq g90.symm))) nin0)) (((Fb87.ext E90).keep K98 nin0).keep K101 (ninS (Nat.ne_of_lt (Nat.lt_of_lt_of_le ((A20.keep K28).keep K87).lt (Nat.le_of_eq g90.symm))) nin0)) (((Fd87.ext E90).keep K98 nin0).keep K101 (ninS (Nat.ne_of_lt (Nat.lt_of_lt_of_le ((A20.keep K28).keep K87).lt (Nat.le_of_eq g90.symm))) nin0)) Fa101 Fb101 Fd101 ((((Ea28.keep K87).ext E90).keep K98).keep K101) (Ea98.keep K101) ((((Fc28.keep K87 (ninS (Ne.symm (Nat.ne_of_lt (Nat.lt_of_lt_of_le A20.lt sa28))) nin0)).ext E90).keep K98 nin0).keep K101 (ninS (Nat.ne_of_lt (Nat.lt_of_lt_of_le (Ea28.keep K87).lt (Nat.le_of_eq g90.symm))) nin0)) (Fc98.keep K101 (ninS (Ne.symm (Nat.ne_of_lt (Nat.lt_of_lt_of_le A90.lt sa98))) nin0)) ((((Fv28.keep K87 (ninS (Ne.symm (Nat.ne_of_lt (Nat.lt_of_lt_of_le A20.lt sa28))) nin0)).ext E90).keep K98 nin0).keep K101 (ninS (Nat.ne_of_lt (Nat.lt_of_lt_of_le (Ea28.keep K87).lt (Nat.le_of_eq g90.symm))) nin0)) (Fv98.keep K101 (ninS (Ne.symm (Nat.ne_of_lt (Nat.lt_of_lt_of_le A90.lt sa98))) nin0)) ((((Ab28.keep K87 (ninS (Ne.symm (own_neAr (A20.keep K28) Ab28 (own_w hw 1 rfl))) nin0)).ext E90).keep K98 nin0).keep K101 (ninS (Nat.ne_of_lt (Nat.lt_of_lt_of_le (Ab28.keep K87 (ninS (Ne.symm (own_neAr (A20.keep K28) Ab28 (own_w hw 1 rfl))) nin0)).lt (Nat.le_of_eq g90.symm))) nin0)) (Ab98.keep K101 (ninS (Ne.symm (own_neAr (A90.keep K98) Ab98 (own_w hw 1 rfl))) nin0)) (Nat.ne_of_lt (Nat.lt_of_lt_of_le ((Ea28.keep K87).ext E90).lt sa98)) SC hG hca.2 hcb.2 hda.2 hdb.2) hZ98 (own_w hw 52 rfl) (own_w hw 2 rfl) (by decide) (by decide)) qa132 qc132 (g := (mkF m 295 #[.val (.int p1), .val (.int p2), .val (.long p3), .second, .val (.long p4), .second, .val (.long p5), .second, .val (.int nA), .val (.int ca), .val (.int cb), .val (.int (if ((XT.ushr p1 (18 : Int32)) &&& (1 : Int32)) = (0 : Int32) then (0 : Int32) else (1 : Int32))), .val (.int (if ((XT.ushr p1 (19 : Int32)) &&& (1 : Int32)) = (0 : Int32) then (0 : Int32) else (1 : Int32))), .val (.int (if ((XT.ushr p1 (20 : Int32)) &&& (1 : Int32)) = (0 : Int32) then (0 : Int32) else (1 : Int32))), .val (.int nB), .val (.int da), .val (.int db), .val (.int sA), .val (.int sB), .val (.int fA), .val (.int fB), .val (.ref b20), .val (.ref b90), .val (.int (own_eqv nA nB ca da cb db)), .val (.int (0 : Int32))] [(.ref b90), (.ref b20)])) rfl (by rw [hml]; rfl) (Steps.refl _) (argsL := [(.ref b90)]) (rest := []) (lenOf pd_law_2 rfl) rfl (by show 2 * 0 + _ ≤ _; exact Nat.le_of_eq rfl) (hb hby at_295) (fun _ _ => ⟨rfl, rfl, (by decide : 10 + 0 ≤ _), (by decide : 30 + 0 ≤ _)⟩)
          dsimp only [Pt.U, Pt.locs, Pt.cells, Pt.slots] at X132 l132 y132 z132 st132 hQ132
          subst l132 y132 z132
          obtain ⟨rfl, N132q, e132⟩ := hQ132
          have N132 := Fr.app N101 N132q
          have pre_133 : ∀ t, Sp p e below T132 (mkF m 298 #[.val (.int p1), .val (.int p2), .val (.long p3), .second, .val (.long p4), .second, .val (.long p5), .second, .val (.int nA), .val (.int ca), .val (.int cb), .val (.int (if ((XT.ushr p1 (18 : Int32)) &&& (1 : Int32)) = (0 : Int32) then (0 : Int32) else (1 : Int32))), .val (.int (if ((XT.ushr p1 (19 : Int32)) &&& (1 : Int32)) = (0 : Int32) then (0 : Int32) else (1 : Int32))), .val (.int (if ((XT.ushr p1 (20 : Int32)) &&& (1 : Int32)) = (0 : Int32) then (0 : Int32) else (1 : Int32))), .val (.int nB), .val (.int da), .val (.int db), .val (.int sA), .val (.int sB), .val (.int fA), .val (.int fB), .val (.ref b20), .val (.ref b90), .val (.int (own_eqv nA nB ca da cb db)), .val (.int (0 : Int32))] [(.int (if fA = fB then (if sA = sB then (own_eqv nA nB ca da cb db) else (0 : Int32)) else (0 : Int32)))]) t → Steps p.tables e below E0 t := fun t k => pre_131 t (st132.trans k)
          have pre_134 : ∀ t, Sp p e below T132 (mkF m 308 #[.val (.int p1), .val (.int p2), .val (.long p3), .second, .val (.long p4), .second, .val (.long p5), .second, .val (.int nA), .val (.int ca), .val (.int cb), .val (.int (if ((XT.ushr p1 (18 : Int32)) &&& (1 : Int32)) = (0 : Int32) then (0 : Int32) else (1 : Int32))), .val (.int (if ((XT.ushr p1 (19 : Int32)) &&& (1 : Int32)) = (0 : Int32) then (0 : Int32) else (1 : Int32))), .val (.int (if ((XT.ushr p1 (20 : Int32)) &&& (1 : Int32)) = (0 : Int32) then (0 : Int32) else (1 : Int32))), .val (.int nB), .val (.int da), .val (.int db), .val (.int sA), .val (.int sB), .val (.int fA), .val (.int fB), .val (.ref b20), .val (.ref b90), .val (.int (own_eqv nA nB ca da cb db)), .val (.int (0 : Int32))] [(.int (1 : Int32))]) t → Steps p.tables e below E0 t := by
            intro t k
            refine pre_133 t ?_
            show Sp p e below T132 (mkF m 298 #[.val (.int p1), .val (.int p2), .val (.long p3), .second, .val (.long p4), .second, .val (.long p5), .second, .val (.int nA), .val (.int ca), .val (.int cb), .val (.int (if ((XT.ushr p1 (18 : Int32)) &&& (1 : Int32)) = (0 : Int32) then (0 : Int32) else (1 : Int32))), .val (.int (if ((XT.ushr p1 (19 : Int32)) &&& (1 : Int32)) = (0 : Int32) then (0 : Int32) else (1 : Int32))), .val (.int (if ((XT.ushr p1 (20 : Int32)) &&& (1 : Int32)) = (0 : Int32) then (0 : Int32) else (1 : Int32))), .val (.int nB), .val (.int da), .val (.int db), .val (.int sA), .val (.int sB), .val (.int fA), .val (.int fB), .val (.ref b20), .val (.ref b90), .val (.int (own_eqv nA nB ca da cb db)), .val (.int (0 : Int32))] [(.int (if fA = fB then (if sA = sB then (own_eqv nA nB ca da cb db) else (0 : Int32)) else (0 : Int32)))]) _
            refine XS.iload X132.here hx rfl (hb hby at_298) rfl ?_
            refine XS.icmpNo X132.here hx rfl (hb hby at_300) rfl (XT.ii_ne_f (by simp only [if_neg hc126] <;> decide)) ?_
            show Sp p e below T132 (mkF m 303 #[.val (.int p1), .val (.int p2), .val (.long p3), .second, .val (.long p4), .second, .val (.long p5), .second, .val (.int nA), .val (.int ca), .val (.int cb), .val (.int (if ((XT.ushr p1 (18 : Int32)) &&& (1 : Int32)) = (0 : Int32) then (0 : Int32) else (1 : Int32))), .val (.int (if ((XT.ushr p1 (19 : Int32)) &&& (1 : Int32)) = (0 : Int32) then (0 : Int32) else (1 : Int32))), .val (.int (if ((XT.ushr p1 (20 : Int32)) &&& (1 : Int32)) = (0 : Int32) then (0 : Int32) else (1 : Int32))), .val (.int nB), .val (.int da), .val (.int db), .val (.int sA), .val (.int sB), .val (.int fA), .val (.int fB), .val (.ref b20), .val (.ref b90), .val (.int (own_eqv nA nB ca da cb db)), .val (.int (0 : Int32))] []) _
            refine XS.iconst X132.here hx rfl (hb hby at_303) ?_
            refine XS.goto X132.here hx rfl (pc0 := 304) (pc' := 308) rfl (hb hby at_304) (by decide) (by decide) ?_
            exact k
          obtain ⟨fs, hr, hrun, hended, hEnd⟩ := X132.leaveW hS98 (by rw [e132]; exact (Nat.le_trans (Nat.le_refl _) (Nat.le_trans (Nat.le_refl _) K101.1))) (v := some (.int (1 : Int32))) (fun h => by rw [Bd.returns] at h; cases h)
          refine ⟨_, _, pre_134 _ ?_, hrun, hended, _, _, rfl, ?_, hEnd.1, hEnd.2.1, hEnd.2.2.1, hEnd.2.2.2.mono (by decide) (by decide)⟩
          · show Sp p e below T132 (mkF m 308 #[.val (.int p1), .val (.int p2), .val (.long p3), .second, .val (.long p4), .second, .val (.long p5), .second, .val (.int nA), .val (.int ca), .val (.int cb), .val (.int (if ((XT.ushr p1 (18 : Int32)) &&& (1 : Int32)) = (0 : Int32) then (0 : Int32) else (1 : Int32))), .val (.int (if ((XT.ushr p1 (19 : Int32)) &&& (1 : Int32)) = (0 : Int32) then (0 : Int32) else (1 : Int32))), .val (.int (if ((XT.ushr p1 (20 : Int32)) &&& (1 : Int32)) = (0 : Int32) then (0 : Int32) else (1 : Int32))), .val (.int nB), .val (.int da), .val (.int db), .val (.int sA), .val (.int sB), .val (.int fA), .val (.int fB), .val (.ref b20), .val (.ref b90), .val (.int (own_eqv nA nB ca da cb db)), .val (.int (0 : Int32))] [(.int (1 : Int32))]) _
            exact retN X132 hx (t := .boolean) Bd.returns (by simp) (hb hby at_308) hr
          · show Q_law Z _ _ _ _ _ _ h0 n0 _ T132.vm T132.heap _
            rw [e132]
            exact ⟨rfl, N132⟩
      · skip
        have pre_135 : ∀ t, Sp p e below T101 (mkF m 295 #[.val (.int p1), .val (.int p2), .val (.long p3), .second, .val (.long p4), .second, .val (.long p5), .second, .val (.int nA), .val (.int ca), .val (.int cb), .val (.int (if ((XT.ushr p1 (18 : Int32)) &&& (1 : Int32)) = (0 : Int32) then (0 : Int32) else (1 : Int32))), .val (.int (if ((XT.ushr p1 (19 : Int32)) &&& (1 : Int32)) = (0 : Int32) then (0 : Int32) else (1 : Int32))), .val (.int (if ((XT.ushr p1 (20 : Int32)) &&& (1 : Int32)) = (0 : Int32) then (0 : Int32) else (1 : Int32))), .val (.int nB), .val (.int da), .val (.int db), .val (.int sA), .val (.int sB), .val (.int fA), .val (.int fB), .val (.ref b20), .val (.ref b90), .val (.int (own_eqv nA nB ca da cb db)), .val (.int (0 : Int32))] [(.ref b90), (.ref b20)]) t → Steps p.tables e below E0 t := by
          intro t k
          refine pre_123 t ?_
          show Sp p e below T101 (mkF m 274 #[.val (.int p1), .val (.int p2), .val (.long p3), .second, .val (.long p4), .second, .val (.long p5), .second, .val (.int nA), .val (.int ca), .val (.int cb), .val (.int (if ((XT.ushr p1 (18 : Int32)) &&& (1 : Int32)) = (0 : Int32) then (0 : Int32) else (1 : Int32))), .val (.int (if ((XT.ushr p1 (19 : Int32)) &&& (1 : Int32)) = (0 : Int32) then (0 : Int32) else (1 : Int32))), .val (.int (if ((XT.ushr p1 (20 : Int32)) &&& (1 : Int32)) = (0 : Int32) then (0 : Int32) else (1 : Int32))), .val (.int nB), .val (.int da), .val (.int db), .val (.int sA), .val (.int sB), .val (.int fA), .val (.int fB), .val (.ref b20), .val (.ref b90), .val (.int (own_eqv nA nB ca da cb db)), .unset] [(.int sB), (.int sA)]) _
          refine XS.icmpYes X101.here hx rfl (pc0 := 274) (pc' := 288) rfl (hb hby at_274) rfl (XT.ii_ne_t hc124) (by decide) (by decide) ?_
          refine XS.iconst X101.here hx rfl (hb hby at_288) ?_
          show Sp p e below T101 (mkF m 289 #[.val (.int p1), .val (.int p2), .val (.long p3), .second, .val (.long p4), .second, .val (.long p5), .second, .val (.int nA), .val (.int ca), .val (.int cb), .val (.int (if ((XT.ushr p1 (18 : Int32)) &&& (1 : Int32)) = (0 : Int32) then (0 : Int32) else (1 : Int32))), .val (.int (if ((XT.ushr p1 (19 : Int32)) &&& (1 : Int32)) = (0 : Int32) then (0 : Int32) else (1 : Int32))), .val (.int (if ((XT.ushr p1 (20 : Int32)) &&& (1 : Int32)) = (0 : Int32) then (0 : Int32) else (1 : Int32))), .val (.int nB), .val (.int da), .val (.int db), .val (.int sA), .val (.int sB), .val (.int fA), .val (.int fB), .val (.ref b20), .val (.ref b90), .val (.int (own_eqv nA nB ca da cb db)), .unset] [(.int (0 : Int32))]) _
          refine XS.istore X101.here hx rfl (hb hby at_289) rfl (l' := #[.val (.int p1), .val (.int p2), .val (.long p3), .second, .val (.long p4), .second, .val (.long p5), .second, .val (.int nA), .val (.int ca), .val (.int cb), .val (.int (if ((XT.ushr p1 (18 : Int32)) &&& (1 : Int32)) = (0 : Int32) then (0 : Int32) else (1 : Int32))), .val (.int (if ((XT.ushr p1 (19 : Int32)) &&& (1 : Int32)) = (0 : Int32) then (0 : Int32) else (1 : Int32))), .val (.int (if ((XT.ushr p1 (20 : Int32)) &&& (1 : Int32)) = (0 : Int32) then (0 : Int32) else (1 : Int32))), .val (.int nB), .val (.int da), .val (.int db), .val (.int sA), .val (.int sB), .val (.int fA), .val (.int fB), .val (.ref b20), .val (.ref b90), .val (.int (own_eqv nA nB ca da cb db)), .val (.int (0 : Int32))]) rfl ?_
          refine XS.aload X101.here hx rfl (hb hby at_291) rfl rfl ?_
          refine XS.aload X101.here hx rfl (hb hby at_293) rfl rfl ?_
          exact k
        obtain ⟨cq136, kq136, qa136, qb136, qc136⟩ := isOf hZ98 rfl (((((A20.keep K28).keep K87).ext E90).keep K98).keep K101)
        obtain ⟨_, _, ⟨T136, L136, k136, n136⟩, -, X136, ⟨Lc136, hQ136, l136, y136, z136⟩, st136⟩ := X101.virtualBack hx (y := (⟨"com/example/vaxwire/vaxwire/hl7/Location", "inFieldOf", "(Lcom/example/vaxwire/vaxwire/hl7/Location;)Z"⟩ : MethodName)) (z := (⟨"com/example/vaxwire/vaxwire/hl7/Location", "inFieldOf", "(Lcom/example/vaxwire/vaxwire/hl7/Location;)Z"⟩ : MethodName)) ho98 (mvT hZ98 (own_w hw 48 rfl)) (mvT hZ98 (own_w hw 49 rfl)) (notFace_of_selects (args := #[]) (mvT hZ98 (own_w hw 51 rfl))) (mvT hZ98 (own_w hw 51 rfl)) (mvT hZ98 (own_w hw 50 rfl)) (by decide) (backOf (W := 0) (rm_inf l Z a0 hw [] b20 b90 sA fA sB fB a28 a98 b28 b98 G1 kB28 kB98 nA nB ca cb da db T101.heap n0 O101 (((Fa87.ext E90).keep K98 nin0).keep K101 (ninS (Nat.ne_of_lt (Nat.lt_of_lt_of_le ((A20.keep K28).keep K87).lt (Nat.le_of_eq g90.symm))) nin0)) (((Fb87.ext E90).keep K98 nin0).keep K101 (ninS (Nat.ne_of_lt (Nat.lt_of_lt_of_le ((A20.keep K28).keep K87).lt (Nat.le_of_eq g90.symm))) nin0)) (((Fd87.ext E90).keep K98 nin0).keep K101 (ninS (Nat.ne_of_lt (Nat.lt_of_lt_of_le ((A20.keep K28).keep K87).lt (Nat.le_of_eq g90.symm))) nin0)) Fa101 Fb101 Fd101 ((((Ea28.keep K87).ext E90).keep K98).keep K101) (Ea98.keep K101) ((((Fc28.keep K87 (ninS (Ne.symm (Nat.ne_of_lt (Nat.lt_of_lt_of_le A20.lt sa28))) nin0)).ext E90).keep K98 nin0).keep K101 (ninS (Nat.ne_of_lt (Nat.lt_of_lt_of_le (Ea28.keep K87).lt (Nat.le_of_eq g90.symm))) nin0)) (Fc98.keep K101 (ninS (Ne.symm (Nat.ne_of_lt (Nat.lt_of_lt_of_le A90.lt sa98))) nin0)) ((((Fv28.keep K87 (ninS (Ne.symm (Nat.ne_of_lt (Nat.lt_of_lt_of_le A20.lt sa28))) nin0)).ext E90).keep K98 nin0).keep K101 (ninS (Nat.ne_of_lt (Nat.lt_of_lt_of_le (Ea28.keep K87).lt (Nat.le_of_eq g90.symm))) nin0)) (Fv98.keep K101 (ninS (Ne.symm (Nat.ne_of_lt (Nat.lt_of_lt_of_le A90.lt sa98))) nin0)) ((((Ab28.keep K87 (ninS (Ne.symm (own_neAr (A20.keep K28) Ab28 (own_w hw 1 rfl))) nin0)).ext E90).keep K98 nin0).keep K101 (ninS (Nat.ne_of_lt (Nat.lt_of_lt_of_le (Ab28.keep K87 (ninS (Ne.symm (own_neAr (A20.keep K28) Ab28 (own_w hw 1 rfl))) nin0)).lt (Nat.le_of_eq g90.symm))) nin0)) (Ab98.keep K101 (ninS (Ne.symm (own_neAr (A90.keep K98) Ab98 (own_w hw 1 rfl))) nin0)) (Nat.ne_of_lt (Nat.lt_of_lt_of_le ((Ea28.keep K87).ext E90).lt sa98)) SC hG hca.2 hcb.2 hda.2 hdb.2) hZ98 (own_w hw 52 rfl) (own_w hw 2 rfl) (by decide) (by decide)) qa136 qc136 (g := (mkF m 295 #[.val (.int p1), .val (.int p2), .val (.long p3), .second, .val (.long p4), .second, .val (.long p5), .second, .val (.int nA), .val (.int ca), .val (.int cb), .val (.int (if ((XT.ushr p1 (18 : Int32)) &&& (1 : Int32)) = (0 : Int32) then (0 : Int32) else (1 : Int32))), .val (.int (if ((XT.ushr p1 (19 : Int32)) &&& (1 : Int32)) = (0 : Int32) then (0 : Int32) else (1 : Int32))), .val (.int (if ((XT.ushr p1 (20 : Int32)) &&& (1 : Int32)) = (0 : Int32) then (0 : Int32) else (1 : Int32))), .val (.int nB), .val (.int da), .val (.int db), .val (.int sA), .val (.int sB), .val (.int fA), .val (.int fB), .val (.ref b20), .val (.ref b90), .val (.int (own_eqv nA nB ca da cb db)), .val (.int (0 : Int32))] [(.ref b90), (.ref b20)])) rfl (by rw [hml]; rfl) (Steps.refl _) (argsL := [(.ref b90)]) (rest := []) (lenOf pd_law_2 rfl) rfl (by show 2 * 0 + _ ≤ _; exact Nat.le_of_eq rfl) (hb hby at_295) (fun _ _ => ⟨rfl, rfl, (by decide : 10 + 0 ≤ _), (by decide : 30 + 0 ≤ _)⟩)
        dsimp only [Pt.U, Pt.locs, Pt.cells, Pt.slots] at X136 l136 y136 z136 st136 hQ136
        subst l136 y136 z136
        obtain ⟨rfl, N136q, e136⟩ := hQ136
        have N136 := Fr.app N101 N136q
        have pre_137 : ∀ t, Sp p e below T136 (mkF m 298 #[.val (.int p1), .val (.int p2), .val (.long p3), .second, .val (.long p4), .second, .val (.long p5), .second, .val (.int nA), .val (.int ca), .val (.int cb), .val (.int (if ((XT.ushr p1 (18 : Int32)) &&& (1 : Int32)) = (0 : Int32) then (0 : Int32) else (1 : Int32))), .val (.int (if ((XT.ushr p1 (19 : Int32)) &&& (1 : Int32)) = (0 : Int32) then (0 : Int32) else (1 : Int32))), .val (.int (if ((XT.ushr p1 (20 : Int32)) &&& (1 : Int32)) = (0 : Int32) then (0 : Int32) else (1 : Int32))), .val (.int nB), .val (.int da), .val (.int db), .val (.int sA), .val (.int sB), .val (.int fA), .val (.int fB), .val (.ref b20), .val (.ref b90), .val (.int (own_eqv nA nB ca da cb db)), .val (.int (0 : Int32))] [(.int (if fA = fB then (if sA = sB then (own_eqv nA nB ca da cb db) else (0 : Int32)) else (0 : Int32)))]) t → Steps p.tables e below E0 t := fun t k => pre_135 t (st136.trans k)
        have pre_138 : ∀ t, Sp p e below T136 (mkF m 300 #[.val (.int p1), .val (.int p2), .val (.long p3), .second, .val (.long p4), .second, .val (.long p5), .second, .val (.int nA), .val (.int ca), .val (.int cb), .val (.int (if ((XT.ushr p1 (18 : Int32)) &&& (1 : Int32)) = (0 : Int32) then (0 : Int32) else (1 : Int32))), .val (.int (if ((XT.ushr p1 (19 : Int32)) &&& (1 : Int32)) = (0 : Int32) then (0 : Int32) else (1 : Int32))), .val (.int (if ((XT.ushr p1 (20 : Int32)) &&& (1 : Int32)) = (0 : Int32) then (0 : Int32) else (1 : Int32))), .val (.int nB), .val (.int da), .val (.int db), .val (.int sA), .val (.int sB), .val (.int fA), .val (.int fB), .val (.ref b20), .val (.ref b90), .val (.int (own_eqv nA nB ca da cb db)), .val (.int (0 : Int32))] [(.int (0 : Int32)), (.int (if fA = fB then (if sA = sB then (own_eqv nA nB ca da cb db) else (0 : Int32)) else (0 : Int32)))]) t → Steps p.tables e below E0 t := by
          intro t k
          refine pre_137 t ?_
          show Sp p e below T136 (mkF m 298 #[.val (.int p1), .val (.int p2), .val (.long p3), .second, .val (.long p4), .second, .val (.long p5), .second, .val (.int nA), .val (.int ca), .val (.int cb), .val (.int (if ((XT.ushr p1 (18 : Int32)) &&& (1 : Int32)) = (0 : Int32) then (0 : Int32) else (1 : Int32))), .val (.int (if ((XT.ushr p1 (19 : Int32)) &&& (1 : Int32)) = (0 : Int32) then (0 : Int32) else (1 : Int32))), .val (.int (if ((XT.ushr p1 (20 : Int32)) &&& (1 : Int32)) = (0 : Int32) then (0 : Int32) else (1 : Int32))), .val (.int nB), .val (.int da), .val (.int db), .val (.int sA), .val (.int sB), .val (.int fA), .val (.int fB), .val (.ref b20), .val (.ref b90), .val (.int (own_eqv nA nB ca da cb db)), .val (.int (0 : Int32))] [(.int (if fA = fB then (if sA = sB then (own_eqv nA nB ca da cb db) else (0 : Int32)) else (0 : Int32)))]) _
          refine XS.iload X136.here hx rfl (hb hby at_298) rfl ?_
          show Sp p e below T136 (mkF m 300 #[.val (.int p1), .val (.int p2), .val (.long p3), .second, .val (.long p4), .second, .val (.long p5), .second, .val (.int nA), .val (.int ca), .val (.int cb), .val (.int (if ((XT.ushr p1 (18 : Int32)) &&& (1 : Int32)) = (0 : Int32) then (0 : Int32) else (1 : Int32))), .val (.int (if ((XT.ushr p1 (19 : Int32)) &&& (1 : Int32)) = (0 : Int32) then (0 : Int32) else (1 : Int32))), .val (.int (if ((XT.ushr p1 (20 : Int32)) &&& (1 : Int32)) = (0 : Int32) then (0 : Int32) else (1 : Int32))), .val (.int nB), .val (.int da), .val (.int db), .val (.int sA), .val (.int sB), .val (.int fA), .val (.int fB), .val (.ref b20), .val (.ref b90), .val (.int (own_eqv nA nB ca da cb db)), .val (.int (0 : Int32))] [(.int (0 : Int32)), (.int (if fA = fB then (if sA = sB then (own_eqv nA nB ca da cb db) else (0 : Int32)) else (0 : Int32)))]) _
          exact k
        by_cases hc139 : fA = fB
        · skip
          have pre_140 : ∀ t, Sp p e below T136 (mkF m 308 #[.val (.int p1), .val (.int p2), .val (.long p3), .second, .val (.long p4), .second, .val (.long p5), .second, .val (.int nA), .val (.int ca), .val (.int cb), .val (.int (if ((XT.ushr p1 (18 : Int32)) &&& (1 : Int32)) = (0 : Int32) then (0 : Int32) else (1 : Int32))), .val (.int (if ((XT.ushr p1 (19 : Int32)) &&& (1 : Int32)) = (0 : Int32) then (0 : Int32) else (1 : Int32))), .val (.int (if ((XT.ushr p1 (20 : Int32)) &&& (1 : Int32)) = (0 : Int32) then (0 : Int32) else (1 : Int32))), .val (.int nB), .val (.int da), .val (.int db), .val (.int sA), .val (.int sB), .val (.int fA), .val (.int fB), .val (.ref b20), .val (.ref b90), .val (.int (own_eqv nA nB ca da cb db)), .val (.int (0 : Int32))] [(.int (1 : Int32))]) t → Steps p.tables e below E0 t := by
            intro t k
            refine pre_138 t ?_
            show Sp p e below T136 (mkF m 300 #[.val (.int p1), .val (.int p2), .val (.long p3), .second, .val (.long p4), .second, .val (.long p5), .second, .val (.int nA), .val (.int ca), .val (.int cb), .val (.int (if ((XT.ushr p1 (18 : Int32)) &&& (1 : Int32)) = (0 : Int32) then (0 : Int32) else (1 : Int32))), .val (.int (if ((XT.ushr p1 (19 : Int32)) &&& (1 : Int32)) = (0 : Int32) then (0 : Int32) else (1 : Int32))), .val (.int (if ((XT.ushr p1 (20 : Int32)) &&& (1 : Int32)) = (0 : Int32) then (0 : Int32) else (1 : Int32))), .val (.int nB), .val (.int da), .val (.int db), .val (.int sA), .val (.int sB), .val (.int fA), .val (.int fB), .val (.ref b20), .val (.ref b90), .val (.int (own_eqv nA nB ca da cb db)), .val (.int (0 : Int32))] [(.int (0 : Int32)), (.int (if fA = fB then (if sA = sB then (own_eqv nA nB ca da cb db) else (0 : Int32)) else (0 : Int32)))]) _
            refine XS.icmpNo X136.here hx rfl (hb hby at_300) rfl (XT.ii_ne_f (by simp only [if_pos hc139, if_neg hc124] <;> decide)) ?_
            refine XS.iconst X136.here hx rfl (hb hby at_303) ?_
            refine XS.goto X136.here hx rfl (pc0 := 304) (pc' := 308) rfl (hb hby at_304) (by decide) (by decide) ?_
            exact k
          obtain ⟨fs, hr, hrun, hended, hEnd⟩ := X136.leaveW hS98 (by rw [e136]; exact (Nat.le_trans (Nat.le_refl _) (Nat.le_trans (Nat.le_refl _) K101.1))) (v := some (.int (1 : Int32))) (fun h => by rw [Bd.returns] at h; cases h)
          refine ⟨_, _, pre_140 _ ?_, hrun, hended, _, _, rfl, ?_, hEnd.1, hEnd.2.1, hEnd.2.2.1, hEnd.2.2.2.mono (by decide) (by decide)⟩
          · show Sp p e below T136 (mkF m 308 #[.val (.int p1), .val (.int p2), .val (.long p3), .second, .val (.long p4), .second, .val (.long p5), .second, .val (.int nA), .val (.int ca), .val (.int cb), .val (.int (if ((XT.ushr p1 (18 : Int32)) &&& (1 : Int32)) = (0 : Int32) then (0 : Int32) else (1 : Int32))), .val (.int (if ((XT.ushr p1 (19 : Int32)) &&& (1 : Int32)) = (0 : Int32) then (0 : Int32) else (1 : Int32))), .val (.int (if ((XT.ushr p1 (20 : Int32)) &&& (1 : Int32)) = (0 : Int32) then (0 : Int32) else (1 : Int32))), .val (.int nB), .val (.int da), .val (.int db), .val (.int sA), .val (.int sB), .val (.int fA), .val (.int fB), .val (.ref b20), .val (.ref b90), .val (.int (own_eqv nA nB ca da cb db)), .val (.int (0 : Int32))] [(.int (1 : Int32))]) _
            exact retN X136 hx (t := .boolean) Bd.returns (by simp) (hb hby at_308) hr
          · show Q_law Z _ _ _ _ _ _ h0 n0 _ T136.vm T136.heap _
            rw [e136]
            exact ⟨rfl, N136⟩
        · skip
          have pre_141 : ∀ t, Sp p e below T136 (mkF m 308 #[.val (.int p1), .val (.int p2), .val (.long p3), .second, .val (.long p4), .second, .val (.long p5), .second, .val (.int nA), .val (.int ca), .val (.int cb), .val (.int (if ((XT.ushr p1 (18 : Int32)) &&& (1 : Int32)) = (0 : Int32) then (0 : Int32) else (1 : Int32))), .val (.int (if ((XT.ushr p1 (19 : Int32)) &&& (1 : Int32)) = (0 : Int32) then (0 : Int32) else (1 : Int32))), .val (.int (if ((XT.ushr p1 (20 : Int32)) &&& (1 : Int32)) = (0 : Int32) then (0 : Int32) else (1 : Int32))), .val (.int nB), .val (.int da), .val (.int db), .val (.int sA), .val (.int sB), .val (.int fA), .val (.int fB), .val (.ref b20), .val (.ref b90), .val (.int (own_eqv nA nB ca da cb db)), .val (.int (0 : Int32))] [(.int (1 : Int32))]) t → Steps p.tables e below E0 t := by
            intro t k
            refine pre_138 t ?_
            show Sp p e below T136 (mkF m 300 #[.val (.int p1), .val (.int p2), .val (.long p3), .second, .val (.long p4), .second, .val (.long p5), .second, .val (.int nA), .val (.int ca), .val (.int cb), .val (.int (if ((XT.ushr p1 (18 : Int32)) &&& (1 : Int32)) = (0 : Int32) then (0 : Int32) else (1 : Int32))), .val (.int (if ((XT.ushr p1 (19 : Int32)) &&& (1 : Int32)) = (0 : Int32) then (0 : Int32) else (1 : Int32))), .val (.int (if ((XT.ushr p1 (20 : Int32)) &&& (1 : Int32)) = (0 : Int32) then (0 : Int32) else (1 : Int32))), .val (.int nB), .val (.int da), .val (.int db), .val (.int sA), .val (.int sB), .val (.int fA), .val (.int fB), .val (.ref b20), .val (.ref b90), .val (.int (own_eqv nA nB ca da cb db)), .val (.int (0 : Int32))] [(.int (0 : Int32)), (.int (if fA = fB then (if sA = sB then (own_eqv nA nB ca da cb db) else (0 : Int32)) else (0 : Int32)))]) _
            refine XS.icmpNo X136.here hx rfl (hb hby at_300) rfl (XT.ii_ne_f (by simp only [if_neg hc139] <;> decide)) ?_
            refine XS.iconst X136.here hx rfl (hb hby at_303) ?_
            refine XS.goto X136.here hx rfl (pc0 := 304) (pc' := 308) rfl (hb hby at_304) (by decide) (by decide) ?_
            exact k
          obtain ⟨fs, hr, hrun, hended, hEnd⟩ := X136.leaveW hS98 (by rw [e136]; exact (Nat.le_trans (Nat.le_refl _) (Nat.le_trans (Nat.le_refl _) K101.1))) (v := some (.int (1 : Int32))) (fun h => by rw [Bd.returns] at h; cases h)
          refine ⟨_, _, pre_141 _ ?_, hrun, hended, _, _, rfl, ?_, hEnd.1, hEnd.2.1, hEnd.2.2.1, hEnd.2.2.2.mono (by decide) (by decide)⟩
          · show Sp p e below T136 (mkF m 308 #[.val (.int p1), .val (.int p2), .val (.long p3), .second, .val (.long p4), .second, .val (.long p5), .second, .val (.int nA), .val (.int ca), .val (.int cb), .val (.int (if ((XT.ushr p1 (18 : Int32)) &&& (1 : Int32)) = (0 : Int32) then (0 : Int32) else (1 : Int32))), .val (.int (if ((XT.ushr p1 (19 : Int32)) &&& (1 : Int32)) = (0 : Int32) then (0 : Int32) else (1 : Int32))), .val (.int (if ((XT.ushr p1 (20 : Int32)) &&& (1 : Int32)) = (0 : Int32) then (0 : Int32) else (1 : Int32))), .val (.int nB), .val (.int da), .val (.int db), .val (.int sA), .val (.int sB), .val (.int fA), .val (.int fB), .val (.ref b20), .val (.ref b90), .val (.int (own_eqv nA nB ca da cb db)), .val (.int (0 : Int32))] [(.int (1 : Int32))]) _
            exact retN X136 hx (t := .boolean) Bd.returns (by simp) (hb hby at_308) hr
          · show Q_law Z _ _ _ _ _ _ h0 n0 _ T136.vm T136.heap _
            rw [e136]
            exact ⟨rfl, N136⟩
set_option maxRecDepth 65536 in
set_option maxHeartbeats 40000000 in
theorem comes_1 {Post : Tables → Env → Array Value → State → Outcome → State → Prop} (hpost : ∀ tb e args s v u, (limb_1_1.after args s (.returned v) u = true ∧ limb_1_2.after args s (.returned v) u = true ∧ True) → ReturnedEndW s (.returned v) u (Jvm.fieldLocs frame_1_writes args s ++ Jvm.arrayLocs frame_1_arrays args s ++ Jvm.staticLocs frame_1_statics s) 32 1152 → Post tb e args s (.returned v) u) :
    ArmFor flags0 classFile x code maxLocals ret World_1 tables_1 room_1 Calls_1 rest_1 Pre_1 Post := by
  intro l hfl _ _ p e ha hc hk s m args below hf hA hF happ hP
  obtain ⟨hcalls, hrest, hpre⟩ := hP
  obtain ⟨-, -, -, hnamed, -, -, -, hat⟩ := (Spec.applies_iff hf).mp happ
  obtain ⟨hg, hn⟩ := and_e (Cond.before_iff.mp (show (Jvm.Cond.and given_1 narrow_1).before args s = true from hpre))
  obtain ⟨hg0, hgs⟩ := and_e hg
  obtain ⟨w0, w1, w2, w3, w4, rfl⟩ : ∃ w0 w1 w2 w3 w4 : Value, args = #[w0, w1, w2, w3, w4] := by
    have hs : args.size = 5 := by simpa [Cond.value, given_1] using hg0
    obtain ⟨L⟩ := args
    match L, hs with
    | [w0, w1, w2, w3, w4], _ => exact ⟨w0, w1, w2, w3, w4, rfl⟩
  have hw := fun d (hd : d ∈ tables_1) => atoms_spec (ws := Jvm.Cond.code x code maxLocals ret :: tables_1) hat d (List.mem_cons_of_mem _ hd)
  have hfit : Fit s := fun {y c} hc i hi => by
    obtain ⟨ha, rfl⟩ := Array.getElem?_eq_some_iff.mp hc
    have q := List.all_eq_true.mp ((Array.all_eq_true_iff_forall_mem.mp hF) _ (Array.getElem_mem ha)) i (List.mem_range.mpr hi)
    simpa [Array.getElem?_eq_getElem hi] using q
  obtain ⟨ha0, hgs0⟩ := and_e hgs
  obtain ⟨i0, ei0⟩ := is_v ha0
  obtain rfl : w0 = (.int i0) := Option.some.inj ei0
  obtain ⟨ha1, hgs1⟩ := and_e hgs0
  obtain ⟨i1, ei1⟩ := is_v ha1
  obtain rfl : w1 = (.int i1) := Option.some.inj ei1
  obtain ⟨ha2, hgs2⟩ := and_e hgs1
  obtain ⟨i2, ei2⟩ := isL_v ha2
  obtain rfl : w2 = (.long i2) := Option.some.inj ei2
  obtain ⟨ha3, hgs3⟩ := and_e hgs2
  obtain ⟨i3, ei3⟩ := isL_v ha3
  obtain rfl : w3 = (.long i3) := Option.some.inj ei3
  obtain ⟨i4, ei4⟩ := isL_v hgs3
  obtain rfl : w4 = (.long i4) := Option.some.inj ei4
  obtain ⟨hsets, hown0⟩ := atoms_of _ (rest_1_c_eq ▸ (show rest_1_c.before _ s = true from hrest))
  obtain ⟨G1, evG⟩ := is_v (Cond.before_iff.mp (hsets _ (List.mem_of_getElem? (i := 1) rfl)))
  have SC := Sta.start evG (Or.inl (hsets _ (List.mem_of_getElem? (i := 0) rfl)))
  have hG : ¬ (G1 = (0 : Int32)) := gotF (Cond.eq_ints evG (Term.int_eval (0))) (not_v (Cond.before_iff.mp (hsets _ (List.mem_of_getElem? (i := 2) rfl))))
  have hHC : Jvm.Lit.constHeld s "java/lang/String" 7 := hcalls.1 ("java/lang/String", 7) (List.mem_of_getElem? (i := 0) rfl)
  have hCW := hsets _ (List.mem_of_getElem? (i := 2) rfl)
  obtain ⟨n, o, h1, h2, h3, _, L, rfl, ⟨rfl, N⟩, hq⟩ := rm_law l s _ hw tables_1 i0 i1 i2 i3 i4 G1 s.heap s.heap.size (Old.start s) SC hG hHC hCW p e ha hc hk s m _ below hf ((Spec.applies_iff_loose hf).mp happ).1 ⟨rfl, State.Warmed39.refl s, rfl, IB.start⟩ trivial
  refine ⟨n, _, h1, h2, h3, hpost _ _ _ _ _ _ ⟨Cond.after_iff.mpr rfl, Cond.after_iff.mpr (eq_i res_at (Term.int_eval (1)) rfl), trivial⟩ ⟨hq.1, hq.2.1, hq.2.2.1, (hq.2.2.2.sift fun y hy => Or.inr (N y hy)).mono (by decide) (by decide)⟩⟩
theorem main_1_1 : Claimed_1_1 := comes_1 fun _ _ _ _ _ _ h hF => ⟨h.1, hF⟩
theorem main_1_2 : Claimed_1_2 := comes_1 fun _ _ _ _ _ _ h hF => ⟨h.2.1, hF⟩
end Jvm.Pilot.@@N@@
namespace Jvm.Pilot.@@N@@
open Jvm Jvm.ClassFile Sem Op Lib Jvm.Free Jvm.Stand Jvm.Pilot.@@N@@.Jvm.D
/-! MADE BY PROGRAM (witnessworld.py) out of the Statement's table words and the real class files: 21 classes; the members and pool entries that the words name. The judged class is class 1, her method 2. -/
namespace start1
open Jvm.ClassFile
def u (s : String) : CpInfo := .utf8 (stringToUtf16 s)
/-- a pool by its gaps: so many unusable entries, then the entry; so many at the end -/
def gap : Nat → List CpInfo → List CpInfo
  | 0, r => r
  | n + 1, r => .unusable :: gap n r
def poolList (es : List (Nat × CpInfo)) (last : Nat) : List CpInfo := es.foldr (fun e r => gap e.1 (e.2 :: r)) (gap last [])
def pool (es : List (Nat × CpInfo)) (last : Nat) : Array CpInfo := ⟨poolList es last⟩
def fileOf (pool : Array CpInfo) (this : Nat) (attrs : Array Attribute := #[]) (ms : Array MethodInfo := #[]) (fl : Nat := 33) (sup : Nat := 0) (ifs : Array Nat := #[]) (fds : Array FieldInfo := #[]) : ClassFile where
  minorVersion := 0
  majorVersion := 65
  constantPool := pool
  accessFlags := fl
  thisClass := this
  superClass := sup
  interfaces := ifs
  fields := fds
  methods := ms
  attributes := attrs
def plain (name : String) (sup : Option ClassId) : Class where
  name := name
  kind := .ordinary
  loader := none
  accessFlags := 33
  super := sup
  interfaces := #[]
  cf := none
  fields := #[]
  methods := #[]
  instanceTypes := #[]
  staticTypes := #[]
  resolved := #[]
  callSites := []
  init := .initialized
  statics := none
  mirror := none

def pool0 : Array CpInfo := pool [(5, u "<init>"), (0, u "()V"), (1, .class_ 10), (1, u "java/lang/Object")] 113

def k0c0 : Code := { maxStack := 0, maxLocals := 1, code := object_method_1_code, exceptionTable := #[], attributes := #[] }
def k0m0 : Method := { name := "<init>", desc := "()V", sig := { parameters := [], returnType := none }, accessFlags := 1, code := some k0c0 }
/-- java/lang/Object -/
def k0 : Class := { plain "java/lang/Object" none with
  accessFlags := 33
  interfaces := #[]
  cf := some (fileOf pool0 8 #[] #[{ accessFlags := 1, nameIndex := 5, descriptorIndex := 6, attributes := #[] }] 33 0 #[] #[])
  fields := #[]
  methods := #[k0m0]
  instanceTypes := #[]
  staticTypes := #[]
  resolved := Array.replicate 124 none
  statics := none }

def pool1 : Array CpInfo := pool [(2, .class_ 4), (1, u "java/lang/Object"), (0, u "<init>"), (0, u "()V"), (0, .class_ 8), (0, u "java/lang/String"), (0, .methodref 7 10), (0, .nameAndType 5 11), (0, u "([C)V"), (0, .class_ 13), (0, u "com/example/vaxwire/vaxwire/hl7/Location"), (0, .methodref 15 16), (0, .class_ 17), (0, .nameAndType 18 19), (0, u "com/example/vaxwire/vaxwire/hl7/LocationInFieldOfPinLaw"), (0, u "str"), (0, u "(ICC)Ljava/lang/String;"), (0, .methodref 12 21), (0, .nameAndType 5 22), (0, u "(Ljava/lang/String;IIII)V"), (0, .methodref 12 24), (0, .nameAndType 25 26), (0, u "inFieldOf"), (0, u "(Lcom/example/vaxwire/vaxwire/hl7/Location;)Z"), (3, u "law"), (0, u "(IIJJJ)Z")] 2

def k1m0 : Method := { name := "<init>", desc := "()V", sig := { parameters := [], returnType := none }, accessFlags := 1, code := none }
def k1c1 : Code := { maxStack := 6, maxLocals := 3, code := method_2_code, exceptionTable := #[], attributes := #[] }
def k1m1 : Method := { name := "str", desc := "(ICC)Ljava/lang/String;", sig := { parameters := [.int, .char, .char], returnType := some (.object "java/lang/String") }, accessFlags := 10, code := some k1c1 }
def k1c2 : Code := { maxStack := 9, maxLocals := 25, code := code, exceptionTable := #[], attributes := #[] }
def k1m2 : Method := { name := "law", desc := "(IIJJJ)Z", sig := { parameters := [.int, .int, .long, .long, .long], returnType := some .boolean }, accessFlags := 9, code := some k1c2 }
/-- com/example/vaxwire/vaxwire/hl7/LocationInFieldOfPinLaw -/
def k1 : Class := { plain "com/example/vaxwire/vaxwire/hl7/LocationInFieldOfPinLaw" (some 0) with
  accessFlags := 49
  interfaces := #[]
  cf := some (fileOf pool1 15 #[] #[{ accessFlags := 1, nameIndex := 5, descriptorIndex := 6, attributes := #[] }, { accessFlags := 10, nameIndex := 18, descriptorIndex := 19, attributes := #[] }, { accessFlags := 9, nameIndex := 30, descriptorIndex := 31, attributes := #[] }] 49 2 #[] #[])
  fields := #[]
  methods := #[k1m0, k1m1, k1m2]
  instanceTypes := #[]
  staticTypes := #[]
  resolved := Array.replicate 34 none
  statics := none }

def pool2 : Array CpInfo := pool [(1, .methodref 2 3), (0, .class_ 4), (0, .nameAndType 5 6), (0, u "java/lang/Object"), (0, u "<init>"), (0, u "()V"), (0, .class_ 8), (0, u "java/lang/Record")] 13

def k2c0 : Code := { maxStack := 1, maxLocals := 1, code := jdk_30_method_1_code, exceptionTable := #[], attributes := #[] }
def k2m0 : Method := { name := "<init>", desc := "()V", sig := { parameters := [], returnType := none }, accessFlags := 4, code := some k2c0 }
/-- java/lang/Record -/
def k2 : Class := { plain "java/lang/Record" (some 0) with
  accessFlags := 1057
  interfaces := #[]
  cf := some (fileOf pool2 7 #[] #[{ accessFlags := 4, nameIndex := 5, descriptorIndex := 6, attributes := #[] }] 1057 2 #[] #[])
  fields := #[]
  methods := #[k2m0]
  instanceTypes := #[]
  staticTypes := #[]
  resolved := Array.replicate 22 none
  statics := none }

def pool3 : Array CpInfo := pool [(1, .methodref 2 3), (0, .class_ 4), (0, .nameAndType 5 6), (0, u "java/lang/Record"), (0, u "<init>"), (0, u "()V"), (0, .fieldref 8 9), (0, .class_ 10), (0, .nameAndType 11 12), (0, u "com/example/vaxwire/vaxwire/hl7/Location"), (0, u "segment"), (0, u "Ljava/lang/String;"), (0, .fieldref 8 14), (0, .nameAndType 15 16), (0, u "sequence"), (0, u "I"), (0, .fieldref 8 18), (0, .nameAndType 19 16), (0, u "field"), (0, .fieldref 8 21), (0, .nameAndType 22 16), (0, u "repetition"), (0, .fieldref 8 24), (0, .nameAndType 25 16), (0, u "component"), (5, u "(Ljava/lang/String;IIII)V"), (9, .methodref 42 43), (0, .class_ 44), (0, .nameAndType 45 46), (0, u "java/lang/String"), (0, u "equals"), (0, u "(Ljava/lang/Object;)Z"), (24, u "inFieldOf"), (0, u "(Lcom/example/vaxwire/vaxwire/hl7/Location;)Z")] 43

def k3c0 : Code := { maxStack := 2, maxLocals := 6, code := prog_63_method_3_code, exceptionTable := #[], attributes := #[] }
def k3m0 : Method := { name := "<init>", desc := "(Ljava/lang/String;IIII)V", sig := { parameters := [(.object "java/lang/String"), .int, .int, .int, .int], returnType := none }, accessFlags := 1, code := some k3c0 }
def k3c1 : Code := { maxStack := 2, maxLocals := 2, code := prog_63_method_6_code, exceptionTable := #[], attributes := #[] }
def k3m1 : Method := { name := "inFieldOf", desc := "(Lcom/example/vaxwire/vaxwire/hl7/Location;)Z", sig := { parameters := [(.object "com/example/vaxwire/vaxwire/hl7/Location")], returnType := some .boolean }, accessFlags := 1, code := some k3c1 }
/-- com/example/vaxwire/vaxwire/hl7/Location -/
def k3 : Class := { plain "com/example/vaxwire/vaxwire/hl7/Location" (some 2) with
  accessFlags := 49
  interfaces := #[]
  cf := some (fileOf pool3 8 #[] #[{ accessFlags := 1, nameIndex := 5, descriptorIndex := 31, attributes := #[] }, { accessFlags := 1, nameIndex := 71, descriptorIndex := 72, attributes := #[] }] 49 2 #[] #[{ accessFlags := 18, nameIndex := 11, descriptorIndex := 12, attributes := #[] }, { accessFlags := 18, nameIndex := 15, descriptorIndex := 16, attributes := #[] }, { accessFlags := 18, nameIndex := 19, descriptorIndex := 16, attributes := #[] }, { accessFlags := 18, nameIndex := 22, descriptorIndex := 16, attributes := #[] }, { accessFlags := 18, nameIndex := 25, descriptorIndex := 16, attributes := #[] }])
  fields := #[{ name := "segment", type := (.object "java/lang/String"), accessFlags := 18, slot := 0, constantValue := 0 }, { name := "sequence", type := .int, accessFlags := 18, slot := 1, constantValue := 0 }, { name := "field", type := .int, accessFlags := 18, slot := 2, constantValue := 0 }, { name := "repetition", type := .int, accessFlags := 18, slot := 3, constantValue := 0 }, { name := "component", type := .int, accessFlags := 18, slot := 4, constantValue := 0 }]
  methods := #[k3m0, k3m1]
  instanceTypes := #[(.object "java/lang/String"), .int, .int, .int, .int]
  staticTypes := #[]
  resolved := Array.replicate 116 none
  statics := none }

def pool4 : Array CpInfo := pool [(1, .class_ 2), (0, u "java/io/Serializable"), (0, .class_ 4), (0, u "java/lang/Object")] 2

/-- java/io/Serializable -/
def k4 : Class := { plain "java/io/Serializable" (some 0) with
  accessFlags := 1537
  interfaces := #[]
  cf := some (fileOf pool4 1 #[] #[] 1537 3 #[] #[])
  fields := #[]
  methods := #[]
  instanceTypes := #[]
  staticTypes := #[]
  resolved := Array.replicate 7 none
  statics := none }

def pool5 : Array CpInfo := pool [(1, .class_ 2), (0, u "java/lang/Comparable"), (0, .class_ 4), (0, u "java/lang/Object")] 7

/-- java/lang/Comparable -/
def k5 : Class := { plain "java/lang/Comparable" (some 0) with
  accessFlags := 1537
  interfaces := #[]
  cf := some (fileOf pool5 1 #[] #[] 1537 3 #[] #[])
  fields := #[]
  methods := #[]
  instanceTypes := #[]
  staticTypes := #[]
  resolved := Array.replicate 12 none
  statics := none }

def pool6 : Array CpInfo := pool [(2, .class_ 4), (1, u "java/lang/CharSequence"), (42, .class_ 48), (0, u "java/lang/CharSequence$1CodePointIterator"), (10, .class_ 60), (0, u "java/lang/CharSequence$1CharIterator"), (5, .class_ 67), (0, u "java/lang/Object")] 63

/-- java/lang/CharSequence -/
def k6 : Class := { plain "java/lang/CharSequence" (some 0) with
  accessFlags := 1537
  interfaces := #[]
  cf := some (fileOf pool6 2 #[.nestMembers #[47, 59]] #[] 1537 66 #[] #[])
  fields := #[]
  methods := #[]
  instanceTypes := #[]
  staticTypes := #[]
  resolved := Array.replicate 131 none
  statics := none }

def pool7 : Array CpInfo := pool [(1, .class_ 2), (0, u "java/lang/constant/Constable"), (0, .class_ 4), (0, u "java/lang/Object")] 6

/-- java/lang/constant/Constable -/
def k7 : Class := { plain "java/lang/constant/Constable" (some 0) with
  accessFlags := 1537
  interfaces := #[]
  cf := some (fileOf pool7 1 #[] #[] 1537 3 #[] #[])
  fields := #[]
  methods := #[]
  instanceTypes := #[]
  staticTypes := #[]
  resolved := Array.replicate 11 none
  statics := none }

def pool8 : Array CpInfo := pool [(1, .class_ 2), (0, u "java/lang/constant/ConstantDesc"), (0, .class_ 4), (0, u "java/lang/Object")] 32

/-- java/lang/constant/ConstantDesc -/
def k8 : Class := { plain "java/lang/constant/ConstantDesc" (some 0) with
  accessFlags := 1537
  interfaces := #[]
  cf := some (fileOf pool8 1 #[] #[] 1537 3 #[] #[])
  fields := #[]
  methods := #[]
  instanceTypes := #[]
  staticTypes := #[]
  resolved := Array.replicate 37 none
  statics := none }

def pool9 : Array CpInfo := pool [(1, .methodref 2 3), (0, .class_ 4), (0, .nameAndType 5 6), (0, u "java/lang/Object"), (0, u "<init>"), (0, u "()V"), (0, .string 8), (0, u ""), (0, .fieldref 10 11), (0, .class_ 12), (0, .nameAndType 13 14), (0, u "java/lang/String"), (0, u "value"), (0, u "[B"), (0, .fieldref 10 16), (0, .nameAndType 17 18), (0, u "coder"), (0, u "B"), (2, u "hash"), (0, u "I"), (2, u "hashIsZero"), (0, u "Z"), (0, .methodref 10 28), (0, .nameAndType 5 29), (0, u "([CIILjava/lang/Void;)V"), (8, .fieldref 10 39), (0, .nameAndType 40 26), (0, u "COMPACT_STRINGS"), (1, .class_ 44), (1, u "java/lang/StringUTF16"), (0, u "compress"), (1, .methodref 42 48), (0, .nameAndType 49 50), (0, u "coderFromArrayLen"), (0, u "([BI)B"), (56, .class_ 109), (1, u "java/lang/StringLatin1"), (67, .methodref 42 178), (0, .nameAndType 45 179), (0, u "([CII)[B"), (361, .methodref 107 542), (0, .nameAndType 543 544), (0, u "equals"), (0, u "([B[B)Z"), (28, u "(Ljava/lang/Object;)Z"), (1, .class_ 576), (0, u "java/lang/CharSequence"), (22, u "CASE_INSENSITIVE_ORDER"), (0, u "Ljava/util/Comparator;"), (409, u "([C)V"), (90, u "serialPersistentFields"), (0, u "[Ljava/io/ObjectStreamField;"), (0, .class_ 1104), (0, u "java/lang/String$CaseInsensitiveComparator"), (1, .class_ 1107), (0, u "java/io/Serializable"), (0, .class_ 1109), (0, u "java/lang/Comparable"), (0, .class_ 1111), (0, u "java/lang/constant/Constable"), (0, .class_ 1113), (0, u "java/lang/constant/ConstantDesc"), (2, u "serialVersionUID"), (0, u "J"), (3, u "REPL"), (0, u "C"), (2, u "LATIN1"), (1, u "UTF16")] 323

def k9m0 : Method := { name := "<init>", desc := "()V", sig := { parameters := [], returnType := none }, accessFlags := 1, code := none }
def k9c1 : Code := { maxStack := 5, maxLocals := 2, code := jdk_42_method_3_code, exceptionTable := #[], attributes := #[] }
def k9m1 : Method := { name := "<init>", desc := "([C)V", sig := { parameters := [(.array .char)], returnType := none }, accessFlags := 1, code := some k9c1 }
def k9c2 : Code := { maxStack := 2, maxLocals := 3, code := jdk_42_method_66_code, exceptionTable := #[], attributes := #[] }
def k9m2 : Method := { name := "equals", desc := "(Ljava/lang/Object;)Z", sig := { parameters := [(.object "java/lang/Object")], returnType := some .boolean }, accessFlags := 1, code := some k9c2 }
def k9c3 : Code := { maxStack := 4, maxLocals := 6, code := jdk_42_method_149_code, exceptionTable := #[], attributes := #[] }
def k9m3 : Method := { name := "<init>", desc := "([CIILjava/lang/Void;)V", sig := { parameters := [(.array .char), .int, .int, (.object "java/lang/Void")], returnType := none }, accessFlags := 2, code := some k9c3 }
/-- java/lang/String -/
def k9 : Class := { plain "java/lang/String" (some 0) with
  accessFlags := 49
  interfaces := #[4, 5, 6, 7, 8]
  cf := some (fileOf pool9 10 #[.nestMembers #[1103]] #[{ accessFlags := 1, nameIndex := 5, descriptorIndex := 6, attributes := #[] }, { accessFlags := 1, nameIndex := 5, descriptorIndex := 1010, attributes := #[] }, { accessFlags := 1, nameIndex := 543, descriptorIndex := 573, attributes := #[] }, { accessFlags := 2, nameIndex := 5, descriptorIndex := 29, attributes := #[] }] 49 2 #[1106, 1108, 575, 1110, 1112] #[{ accessFlags := 18, nameIndex := 13, descriptorIndex := 14, attributes := #[] }, { accessFlags := 18, nameIndex := 17, descriptorIndex := 18, attributes := #[] }, { accessFlags := 2, nameIndex := 21, descriptorIndex := 22, attributes := #[] }, { accessFlags := 2, nameIndex := 25, descriptorIndex := 26, attributes := #[] }, { accessFlags := 26, nameIndex := 1116, descriptorIndex := 1117, attributes := #[] }, { accessFlags := 24, nameIndex := 40, descriptorIndex := 26, attributes := #[] }, { accessFlags := 26, nameIndex := 1101, descriptorIndex := 1102, attributes := #[] }, { accessFlags := 26, nameIndex := 1121, descriptorIndex := 1122, attributes := #[] }, { accessFlags := 25, nameIndex := 599, descriptorIndex := 600, attributes := #[] }, { accessFlags := 24, nameIndex := 1125, descriptorIndex := 18, attributes := #[] }, { accessFlags := 24, nameIndex := 1127, descriptorIndex := 18, attributes := #[] }])
  fields := #[{ name := "value", type := (.array .byte), accessFlags := 18, slot := 0, constantValue := 0 }, { name := "coder", type := .byte, accessFlags := 18, slot := 1, constantValue := 0 }, { name := "hash", type := .int, accessFlags := 2, slot := 2, constantValue := 0 }, { name := "hashIsZero", type := .boolean, accessFlags := 2, slot := 3, constantValue := 0 }, { name := "serialVersionUID", type := .long, accessFlags := 26, slot := 0, constantValue := 0 }, { name := "COMPACT_STRINGS", type := .boolean, accessFlags := 24, slot := 1, constantValue := 0 }, { name := "serialPersistentFields", type := (.array (.object "java/io/ObjectStreamField")), accessFlags := 26, slot := 2, constantValue := 0 }, { name := "REPL", type := .char, accessFlags := 26, slot := 3, constantValue := 0 }, { name := "CASE_INSENSITIVE_ORDER", type := (.object "java/util/Comparator"), accessFlags := 25, slot := 4, constantValue := 0 }, { name := "LATIN1", type := .byte, accessFlags := 24, slot := 5, constantValue := 0 }, { name := "UTF16", type := .byte, accessFlags := 24, slot := 6, constantValue := 0 }]
  methods := #[k9m0, k9m1, k9m2, k9m3]
  instanceTypes := #[(.array .byte), .byte, .int, .boolean]
  staticTypes := #[.long, .boolean, (.array (.object "java/io/ObjectStreamField")), .char, (.object "java/util/Comparator"), .byte, .byte]
  resolved := Array.replicate 1451 none
  statics := some 0 }

def pool10 : Array CpInfo := pool [(6, .class_ 8), (1, u "java/lang/Object"), (0, u "<init>"), (0, u "()V"), (1, .class_ 14), (1, u "java/lang/StringUTF16"), (31, u "$assertionsDisabled"), (0, u "Z"), (13, u "HI_BYTE_SHIFT"), (0, u "I"), (2, u "LO_BYTE_SHIFT"), (49, .methodref 12 116), (0, .nameAndType 117 118), (0, u "compress"), (0, u "([CI[BII)I"), (3, u "([CII)[B"), (138, u "coderFromArrayLen"), (0, u "([BI)B"), (106, .class_ 371), (1, u "java/lang/StringUTF16$LinesSpliterator"), (58, u "MAX_LENGTH"), (196, .class_ 628), (0, u "java/lang/StringUTF16$CodePointsSpliterator"), (0, .class_ 630), (0, u "java/lang/StringUTF16$CharsSpliterator")] 4

def k10m0 : Method := { name := "<init>", desc := "()V", sig := { parameters := [], returnType := none }, accessFlags := 0, code := none }
def k10c1 : Code := { maxStack := 2, maxLocals := 2, code := jdk_52_method_15_code, exceptionTable := #[], attributes := #[] }
def k10m1 : Method := { name := "coderFromArrayLen", desc := "([BI)B", sig := { parameters := [(.array .byte), .int], returnType := some .byte }, accessFlags := 8, code := some k10c1 }
def k10c2 : Code := { maxStack := 5, maxLocals := 6, code := jdk_52_method_16_code, exceptionTable := #[], attributes := #[] }
def k10m2 : Method := { name := "compress", desc := "([CII)[B", sig := { parameters := [(.array .char), .int, .int], returnType := some (.array .byte) }, accessFlags := 9, code := some k10c2 }
def k10c3 : Code := { maxStack := 3, maxLocals := 7, code := jdk_52_method_21_code, exceptionTable := #[], attributes := #[] }
def k10m3 : Method := { name := "compress", desc := "([CI[BII)I", sig := { parameters := [(.array .char), .int, (.array .byte), .int, .int], returnType := some .int }, accessFlags := 9, code := some k10c3 }
/-- java/lang/StringUTF16 -/
def k10 : Class := { plain "java/lang/StringUTF16" (some 0) with
  accessFlags := 48
  interfaces := #[]
  cf := some (fileOf pool10 12 #[.nestMembers #[627, 629, 369]] #[{ accessFlags := 0, nameIndex := 9, descriptorIndex := 10, attributes := #[] }, { accessFlags := 8, nameIndex := 261, descriptorIndex := 262, attributes := #[] }, { accessFlags := 9, nameIndex := 117, descriptorIndex := 122, attributes := #[] }, { accessFlags := 9, nameIndex := 117, descriptorIndex := 118, attributes := #[] }] 48 6 #[] #[{ accessFlags := 26, nameIndex := 61, descriptorIndex := 62, attributes := #[] }, { accessFlags := 26, nameIndex := 65, descriptorIndex := 62, attributes := #[] }, { accessFlags := 24, nameIndex := 430, descriptorIndex := 62, attributes := #[] }, { accessFlags := 4120, nameIndex := 46, descriptorIndex := 47, attributes := #[] }])
  fields := #[{ name := "HI_BYTE_SHIFT", type := .int, accessFlags := 26, slot := 0, constantValue := 0 }, { name := "LO_BYTE_SHIFT", type := .int, accessFlags := 26, slot := 1, constantValue := 0 }, { name := "MAX_LENGTH", type := .int, accessFlags := 24, slot := 2, constantValue := 0 }, { name := "$assertionsDisabled", type := .boolean, accessFlags := 4120, slot := 3, constantValue := 0 }]
  methods := #[k10m0, k10m1, k10m2, k10m3]
  instanceTypes := #[]
  staticTypes := #[.int, .int, .int, .boolean]
  resolved := Array.replicate 635 none
  statics := none }

def pool11 : Array CpInfo := pool [(4, .class_ 6), (1, u "java/lang/Object"), (0, u "<init>"), (0, u "()V"), (5, .class_ 16), (1, u "java/lang/StringLatin1"), (104, u "$assertionsDisabled"), (0, u "Z"), (98, .class_ 223), (1, u "java/lang/StringLatin1$LinesSpliterator"), (57, u "equals"), (0, u "([B[B)Z"), (107, .class_ 391), (0, u "java/lang/StringLatin1$CharsSpliterator")] 3

def k11m0 : Method := { name := "<init>", desc := "()V", sig := { parameters := [], returnType := none }, accessFlags := 0, code := none }
def k11c1 : Code := { maxStack := 3, maxLocals := 3, code := jdk_43_method_13_code, exceptionTable := #[], attributes := #[] }
def k11m1 : Method := { name := "equals", desc := "([B[B)Z", sig := { parameters := [(.array .byte), (.array .byte)], returnType := some .boolean }, accessFlags := 9, code := some k11c1 }
/-- java/lang/StringLatin1 -/
def k11 : Class := { plain "java/lang/StringLatin1" (some 0) with
  accessFlags := 48
  interfaces := #[]
  cf := some (fileOf pool11 14 #[.nestMembers #[390, 221]] #[{ accessFlags := 0, nameIndex := 7, descriptorIndex := 8, attributes := #[] }, { accessFlags := 9, nameIndex := 281, descriptorIndex := 282, attributes := #[] }] 48 4 #[] #[{ accessFlags := 4120, nameIndex := 121, descriptorIndex := 122, attributes := #[] }])
  fields := #[{ name := "$assertionsDisabled", type := .boolean, accessFlags := 4120, slot := 0, constantValue := 0 }]
  methods := #[k11m0, k11m1]
  instanceTypes := #[]
  staticTypes := #[.boolean]
  resolved := Array.replicate 395 none
  statics := none }

def pool12 : Array CpInfo := pool [(2, .class_ 4), (1, u "java/lang/Object"), (0, u "<init>"), (0, u "()V"), (17, .class_ 26), (1, u "jdk/internal/util/Preconditions"), (28, .class_ 56), (0, u "jdk/internal/util/Preconditions$4"), (57, .class_ 115), (0, u "jdk/internal/util/Preconditions$1"), (7, u "SIOOBE_FORMATTER"), (0, u "Ljava/util/function/BiFunction;"), (0, .class_ 126), (0, u "jdk/internal/util/Preconditions$2"), (3, u "AIOOBE_FORMATTER"), (0, .class_ 132), (0, u "jdk/internal/util/Preconditions$3"), (3, u "IOOBE_FORMATTER")] 57

def k12m0 : Method := { name := "<init>", desc := "()V", sig := { parameters := [], returnType := none }, accessFlags := 1, code := none }
/-- jdk/internal/util/Preconditions -/
def k12 : Class := { plain "jdk/internal/util/Preconditions" (some 0) with
  accessFlags := 33
  interfaces := #[]
  cf := some (fileOf pool12 24 #[.nestMembers #[55, 131, 125, 114]] #[{ accessFlags := 1, nameIndex := 5, descriptorIndex := 6, attributes := #[] }] 33 2 #[] #[{ accessFlags := 25, nameIndex := 123, descriptorIndex := 124, attributes := #[] }, { accessFlags := 25, nameIndex := 130, descriptorIndex := 124, attributes := #[] }, { accessFlags := 25, nameIndex := 136, descriptorIndex := 124, attributes := #[] }])
  fields := #[{ name := "SIOOBE_FORMATTER", type := (.object "java/util/function/BiFunction"), accessFlags := 25, slot := 0, constantValue := 0 }, { name := "AIOOBE_FORMATTER", type := (.object "java/util/function/BiFunction"), accessFlags := 25, slot := 1, constantValue := 0 }, { name := "IOOBE_FORMATTER", type := (.object "java/util/function/BiFunction"), accessFlags := 25, slot := 2, constantValue := 0 }]
  methods := #[k12m0]
  instanceTypes := #[]
  staticTypes := #[(.object "java/util/function/BiFunction"), (.object "java/util/function/BiFunction"), (.object "java/util/function/BiFunction")]
  resolved := Array.replicate 194 none
  statics := some 1 }

def pool13 : Array CpInfo := pool [(9, u "<init>"), (6, .class_ 18), (1, u "java/lang/Object"), (0, u "()V"), (1, .class_ 23), (1, u "jdk/internal/util/ArraysSupport"), (0, u "LOG2_ARRAY_LONG_INDEX_SCALE"), (0, u "I"), (2, u "U"), (0, u "Ljdk/internal/misc/Unsafe;"), (8, u "BIG_ENDIAN"), (0, u "Z"), (8, u "LOG2_BYTE_BIT_SIZE"), (4, u "LOG2_ARRAY_INT_INDEX_SCALE"), (54, u "JLA"), (0, u "Ljdk/internal/access/JavaLangAccess;"), (11, u "LOG2_ARRAY_BOOLEAN_INDEX_SCALE"), (9, u "LOG2_ARRAY_BYTE_INDEX_SCALE"), (5, u "LOG2_ARRAY_CHAR_INDEX_SCALE"), (5, u "LOG2_ARRAY_SHORT_INDEX_SCALE"), (18, u "LOG2_ARRAY_FLOAT_INDEX_SCALE"), (24, u "LOG2_ARRAY_DOUBLE_INDEX_SCALE"), (89, u "T_BOOLEAN"), (2, u "T_CHAR"), (1, u "T_FLOAT"), (1, u "T_DOUBLE"), (1, u "T_BYTE"), (1, u "T_SHORT"), (1, u "T_INT"), (1, u "T_LONG"), (1, u "SOFT_MAX_ARRAY_LENGTH")] 83

def k13m0 : Method := { name := "<init>", desc := "()V", sig := { parameters := [], returnType := none }, accessFlags := 2, code := none }
/-- jdk/internal/util/ArraysSupport -/
def k13 : Class := { plain "jdk/internal/util/ArraysSupport" (some 0) with
  accessFlags := 33
  interfaces := #[]
  cf := some (fileOf pool13 21 #[] #[{ accessFlags := 2, nameIndex := 9, descriptorIndex := 19, attributes := #[] }] 33 16 #[] #[{ accessFlags := 24, nameIndex := 28, descriptorIndex := 29, attributes := #[] }, { accessFlags := 26, nameIndex := 38, descriptorIndex := 39, attributes := #[] }, { accessFlags := 25, nameIndex := 121, descriptorIndex := 25, attributes := #[] }, { accessFlags := 25, nameIndex := 131, descriptorIndex := 25, attributes := #[] }, { accessFlags := 25, nameIndex := 137, descriptorIndex := 25, attributes := #[] }, { accessFlags := 25, nameIndex := 143, descriptorIndex := 25, attributes := #[] }, { accessFlags := 25, nameIndex := 53, descriptorIndex := 25, attributes := #[] }, { accessFlags := 25, nameIndex := 24, descriptorIndex := 25, attributes := #[] }, { accessFlags := 25, nameIndex := 162, descriptorIndex := 25, attributes := #[] }, { accessFlags := 25, nameIndex := 187, descriptorIndex := 25, attributes := #[] }, { accessFlags := 26, nameIndex := 48, descriptorIndex := 25, attributes := #[] }, { accessFlags := 25, nameIndex := 277, descriptorIndex := 25, attributes := #[] }, { accessFlags := 25, nameIndex := 280, descriptorIndex := 25, attributes := #[] }, { accessFlags := 25, nameIndex := 282, descriptorIndex := 25, attributes := #[] }, { accessFlags := 25, nameIndex := 284, descriptorIndex := 25, attributes := #[] }, { accessFlags := 25, nameIndex := 286, descriptorIndex := 25, attributes := #[] }, { accessFlags := 25, nameIndex := 288, descriptorIndex := 25, attributes := #[] }, { accessFlags := 25, nameIndex := 290, descriptorIndex := 25, attributes := #[] }, { accessFlags := 25, nameIndex := 292, descriptorIndex := 25, attributes := #[] }, { accessFlags := 26, nameIndex := 108, descriptorIndex := 109, attributes := #[] }, { accessFlags := 25, nameIndex := 294, descriptorIndex := 25, attributes := #[] }])
  fields := #[{ name := "U", type := (.object "jdk/internal/misc/Unsafe"), accessFlags := 24, slot := 0, constantValue := 0 }, { name := "BIG_ENDIAN", type := .boolean, accessFlags := 26, slot := 1, constantValue := 0 }, { name := "LOG2_ARRAY_BOOLEAN_INDEX_SCALE", type := .int, accessFlags := 25, slot := 2, constantValue := 0 }, { name := "LOG2_ARRAY_BYTE_INDEX_SCALE", type := .int, accessFlags := 25, slot := 3, constantValue := 0 }, { name := "LOG2_ARRAY_CHAR_INDEX_SCALE", type := .int, accessFlags := 25, slot := 4, constantValue := 0 }, { name := "LOG2_ARRAY_SHORT_INDEX_SCALE", type := .int, accessFlags := 25, slot := 5, constantValue := 0 }, { name := "LOG2_ARRAY_INT_INDEX_SCALE", type := .int, accessFlags := 25, slot := 6, constantValue := 0 }, { name := "LOG2_ARRAY_LONG_INDEX_SCALE", type := .int, accessFlags := 25, slot := 7, constantValue := 0 }, { name := "LOG2_ARRAY_FLOAT_INDEX_SCALE", type := .int, accessFlags := 25, slot := 8, constantValue := 0 }, { name := "LOG2_ARRAY_DOUBLE_INDEX_SCALE", type := .int, accessFlags := 25, slot := 9, constantValue := 0 }, { name := "LOG2_BYTE_BIT_SIZE", type := .int, accessFlags := 26, slot := 10, constantValue := 0 }, { name := "T_BOOLEAN", type := .int, accessFlags := 25, slot := 11, constantValue := 0 }, { name := "T_CHAR", type := .int, accessFlags := 25, slot := 12, constantValue := 0 }, { name := "T_FLOAT", type := .int, accessFlags := 25, slot := 13, constantValue := 0 }, { name := "T_DOUBLE", type := .int, accessFlags := 25, slot := 14, constantValue := 0 }, { name := "T_BYTE", type := .int, accessFlags := 25, slot := 15, constantValue := 0 }, { name := "T_SHORT", type := .int, accessFlags := 25, slot := 16, constantValue := 0 }, { name := "T_INT", type := .int, accessFlags := 25, slot := 17, constantValue := 0 }, { name := "T_LONG", type := .int, accessFlags := 25, slot := 18, constantValue := 0 }, { name := "JLA", type := (.object "jdk/internal/access/JavaLangAccess"), accessFlags := 26, slot := 19, constantValue := 0 }, { name := "SOFT_MAX_ARRAY_LENGTH", type := .int, accessFlags := 25, slot := 20, constantValue := 0 }]
  methods := #[k13m0]
  instanceTypes := #[]
  staticTypes := #[(.object "jdk/internal/misc/Unsafe"), .boolean, .int, .int, .int, .int, .int, .int, .int, .int, .int, .int, .int, .int, .int, .int, .int, .int, .int, (.object "jdk/internal/access/JavaLangAccess"), .int]
  resolved := Array.replicate 378 none
  statics := none }

def pool14 : Array CpInfo := pool [(1, u "java/lang/Cloneable"), (0, .class_ 1), (0, u "java/lang/Object"), (0, .class_ 3)] 3

/-- java/lang/Cloneable -/
def k14 : Class := { plain "java/lang/Cloneable" (some 0) with
  accessFlags := 1537
  interfaces := #[]
  cf := some (fileOf pool14 2 #[] #[] 1537 4 #[] #[])
  fields := #[]
  methods := #[]
  instanceTypes := #[]
  staticTypes := #[]
  resolved := Array.replicate 8 none
  statics := none }

/-- the primitive byte -/
def k15 : Class := { plain "byte" none with kind := .primitive 'B', accessFlags := 0x411 }
/-- [B -/
def k16 : Class := { plain "[B" (some 0) with kind := .array 15 .byte, interfaces := #[14, 4], accessFlags := 1041 }

/-- the primitive char -/
def k17 : Class := { plain "char" none with kind := .primitive 'C', accessFlags := 0x411 }
/-- [C -/
def k18 : Class := { plain "[C" (some 0) with kind := .array 17 .char, interfaces := #[14, 4], accessFlags := 1041 }

/-- the primitive int -/
def k19 : Class := { plain "int" none with kind := .primitive 'I', accessFlags := 0x411 }
/-- [I -/
def k20 : Class := { plain "[I" (some 0) with kind := .array 19 .int, interfaces := #[14, 4], accessFlags := 1041 }

def heap : Heap := #[{ cls := 9, slots := #[.long 0, .int 1, .null, .int 0, .null, .int 0, .int 0], vm := .statics 9 },
  { cls := 12, slots := #[.null, .null, .null], vm := .statics 12 }]
def classes : Array Class := #[k0, k1, k2, k3, k4, k5, k6, k7, k8, k9, k10, k11, k12, k13, k14, k15, k16, k17, k18, k19, k20]
def interned : List (Array UInt16 × Addr) := []
def slotsUsed : Nat := 10
def theMethod : MethodId := ⟨1, 2⟩
def args0 : Array Value := #[.int 5, .int 6, .long 2, .long 3, .long 4]
def aboutOver (below : List Frame) : State where
  vm := { classes := classes, interned := interned.toArray }
  heap := heap
  slotsUsed := slotsUsed
  threads := #[{ frames := .invoking theMethod args0 :: below }]
def below0 : List Frame := [.native { method := ⟨0, 0⟩, args := #[] }]
def about1 : State := aboutOver below0
def p0 : Program := .bare "" "" ""
def e0 : Env := launch0.env 0 0 0
theorem w_frames : about1.frames = Frame.invoking theMethod args0 :: below0 := rfl
set_option maxRecDepth 65536 in
theorem w_args : argsFit about1.vm theMethod args0 = true := by decide +kernel
set_option maxRecDepth 65536 in
theorem w_heap : heapFits about1 = true := by decide +kernel
set_option maxRecDepth 65536 in
theorem w_runnable : about1.curStatus? = some .runnable := by decide +kernel
set_option maxRecDepth 65536 in
theorem w_alone : about1.alone = true := by decide +kernel
set_option maxRecDepth 65536 in
theorem w_named : about1.methodNamed? x = some theMethod := by decide +kernel
set_option maxRecDepth 65536 in
theorem w_hears : about1.hears theMethod below0 = true := by decide +kernel
set_option maxRecDepth 65536 in
theorem w_ripe : about1.ripe theMethod args0 below0 = true := by decide +kernel
theorem w_running : about1.status = .running := rfl
set_option maxRecDepth 65536 in
theorem w_room : about1.hasRoom e0.platform room_1 = true :=
  launch0.hasRoom_least _ room_1 (by decide +kernel) (by decide +kernel) (by decide +kernel) (by decide +kernel) (by decide +kernel) (by decide +kernel)
theorem allAtoms_all (ts : List Jvm.Cond) (a : Array Jvm.Value) (st : Jvm.State) : (allAtoms ts).before a st = ts.all (fun c => c.before a st) := by
  induction ts with
  | nil => rfl
  | cons c t ih =>
    show (Jvm.Cond.and c (allAtoms t)).before a st = _
    rw [Jvm.Cond.before_and, ih, List.all_cons]
def words1 : List Jvm.Cond := Jvm.Cond.code x code maxLocals ret :: tables_1
/-- a 'code' word, met by the world's own term for the bytes: nothing is compared byte by byte -/
theorem code_word {y : MethodName} {bytes : ByteArray} {mx : Nat} {rt : Option FieldType} {a : Array Value} {s : State} {m : MethodId} {meth : Method} {c : Code} (h1 : s.methodNamed? y = some m) (h2 : s.vm.method? m = some meth) (h3 : meth.code = some c) (h4 : c.code = bytes)
    (h5 : (c.maxLocals == mx && c.exceptionTable.isEmpty && decide (c.maxStack ≤ mostOperands) && decide (meth.sig.returnType = rt) && !meth.locks && decide (parseMethodDescriptor y.desc = some meth.sig)) = true) : (Jvm.Cond.code y bytes mx rt).before a s = true := by
  simp only [Bool.and_eq_true, beq_iff_eq, Bool.not_eq_true', decide_eq_true_eq] at h5
  obtain ⟨⟨⟨⟨⟨g1, g2⟩, g3⟩, g4⟩, g5⟩, g6⟩ := h5
  simp [Cond.before, Cond.holds, Cond.value, h1, h2, h3, h4, g1, g2, g3, g4, g5, g6]
def isCode : Jvm.Cond → Bool
  | .code _ _ _ _ => true
  | _ => false
theorem all_split {L : List Jvm.Cond} {P : Jvm.Cond → Bool} (h1 : L.all (fun c => isCode c || P c) = true) (h2 : ∀ c ∈ L.filter isCode, P c = true) : L.all P = true := by
  refine List.all_eq_true.mpr fun c hc => ?_
  have h := List.all_eq_true.mp h1 c hc
  rcases Bool.eq_false_or_eq_true (isCode c) with hi | hi
  · exact h2 c (List.mem_filter.mpr ⟨hc, hi⟩)
  · simpa [hi] using h
set_option maxRecDepth 65536 in
theorem w_c0 : (Jvm.Cond.code x code maxLocals ret).before args0 about1 = true := code_word (m := ⟨1, 2⟩) (meth := k1m2) (c := k1c2) (by decide +kernel) rfl rfl rfl (by decide +kernel)
set_option maxRecDepth 65536 in
theorem w_c1 : (Jvm.Cond.code ({ cls := "com/example/vaxwire/vaxwire/hl7/LocationInFieldOfPinLaw", name := "str", desc := "(ICC)Ljava/lang/String;" } : Jvm.MethodName) method_2_code (3 : Nat) (Option.some (Jvm.ClassFile.FieldType.object "java/lang/String"))).before args0 about1 = true := code_word (m := ⟨1, 1⟩) (meth := k1m1) (c := k1c1) (by decide +kernel) rfl rfl rfl (by decide +kernel)
set_option maxRecDepth 65536 in
theorem w_c2 : (Jvm.Cond.code ({ cls := "java/lang/String", name := "<init>", desc := "([C)V" } : Jvm.MethodName) jdk_42_method_3_code (2 : Nat) (Option.none : Option Jvm.ClassFile.FieldType)).before args0 about1 = true := code_word (m := ⟨9, 1⟩) (meth := k9m1) (c := k9c1) (by decide +kernel) rfl rfl rfl (by decide +kernel)
set_option maxRecDepth 65536 in
theorem w_c3 : (Jvm.Cond.code ({ cls := "java/lang/String", name := "<init>", desc := "([CIILjava/lang/Void;)V" } : Jvm.MethodName) jdk_42_method_149_code (6 : Nat) (Option.none : Option Jvm.ClassFile.FieldType)).before args0 about1 = true := code_word (m := ⟨9, 3⟩) (meth := k9m3) (c := k9c3) (by decide +kernel) rfl rfl rfl (by decide +kernel)
set_option maxRecDepth 65536 in
theorem w_c4 : (Jvm.Cond.code ({ cls := "java/lang/Object", name := "<init>", desc := "()V" } : Jvm.MethodName) object_method_1_code (1 : Nat) (Option.none : Option Jvm.ClassFile.FieldType)).before args0 about1 = true := code_word (m := ⟨0, 0⟩) (meth := k0m0) (c := k0c0) (by decide +kernel) rfl rfl rfl (by decide +kernel)
set_option maxRecDepth 65536 in
theorem w_c5 : (Jvm.Cond.code ({ cls := "com/example/vaxwire/vaxwire/hl7/Location", name := "<init>", desc := "(Ljava/lang/String;IIII)V" } : Jvm.MethodName) prog_63_method_3_code (6 : Nat) (Option.none : Option Jvm.ClassFile.FieldType)).before args0 about1 = true := code_word (m := ⟨3, 0⟩) (meth := k3m0) (c := k3c0) (by decide +kernel) rfl rfl rfl (by decide +kernel)
set_option maxRecDepth 65536 in
theorem w_c6 : (Jvm.Cond.code ({ cls := "java/lang/Record", name := "<init>", desc := "()V" } : Jvm.MethodName) jdk_30_method_1_code (1 : Nat) (Option.none : Option Jvm.ClassFile.FieldType)).before args0 about1 = true := code_word (m := ⟨2, 0⟩) (meth := k2m0) (c := k2c0) (by decide +kernel) rfl rfl rfl (by decide +kernel)
set_option maxRecDepth 65536 in
theorem w_c7 : (Jvm.Cond.code ({ cls := "com/example/vaxwire/vaxwire/hl7/Location", name := "inFieldOf", desc := "(Lcom/example/vaxwire/vaxwire/hl7/Location;)Z" } : Jvm.MethodName) prog_63_method_6_code (2 : Nat) (Option.some Jvm.ClassFile.FieldType.boolean)).before args0 about1 = true := code_word (m := ⟨3, 1⟩) (meth := k3m1) (c := k3c1) (by decide +kernel) rfl rfl rfl (by decide +kernel)
set_option maxRecDepth 65536 in
theorem w_c8 : (Jvm.Cond.code ({ cls := "java/lang/StringUTF16", name := "compress", desc := "([CII)[B" } : Jvm.MethodName) jdk_52_method_16_code (6 : Nat) (Option.some (Jvm.ClassFile.FieldType.array Jvm.ClassFile.FieldType.byte))).before args0 about1 = true := code_word (m := ⟨10, 2⟩) (meth := k10m2) (c := k10c2) (by decide +kernel) rfl rfl rfl (by decide +kernel)
set_option maxRecDepth 65536 in
theorem w_c9 : (Jvm.Cond.code ({ cls := "java/lang/StringUTF16", name := "compress", desc := "([CI[BII)I" } : Jvm.MethodName) jdk_52_method_21_code (7 : Nat) (Option.some Jvm.ClassFile.FieldType.int)).before args0 about1 = true := code_word (m := ⟨10, 3⟩) (meth := k10m3) (c := k10c3) (by decide +kernel) rfl rfl rfl (by decide +kernel)
set_option maxRecDepth 65536 in
theorem w_c10 : (Jvm.Cond.code ({ cls := "java/lang/StringUTF16", name := "coderFromArrayLen", desc := "([BI)B" } : Jvm.MethodName) jdk_52_method_15_code (2 : Nat) (Option.some Jvm.ClassFile.FieldType.byte)).before args0 about1 = true := code_word (m := ⟨10, 1⟩) (meth := k10m1) (c := k10c1) (by decide +kernel) rfl rfl rfl (by decide +kernel)
set_option maxRecDepth 65536 in
theorem w_c11 : (Jvm.Cond.code ({ cls := "java/lang/String", name := "equals", desc := "(Ljava/lang/Object;)Z" } : Jvm.MethodName) jdk_42_method_66_code (3 : Nat) (Option.some Jvm.ClassFile.FieldType.boolean)).before args0 about1 = true := code_word (m := ⟨9, 2⟩) (meth := k9m2) (c := k9c2) (by decide +kernel) rfl rfl rfl (by decide +kernel)
set_option maxRecDepth 65536 in
theorem w_c12 : (Jvm.Cond.code ({ cls := "java/lang/StringLatin1", name := "equals", desc := "([B[B)Z" } : Jvm.MethodName) jdk_43_method_13_code (3 : Nat) (Option.some Jvm.ClassFile.FieldType.boolean)).before args0 about1 = true := code_word (m := ⟨11, 1⟩) (meth := k11m1) (c := k11c1) (by decide +kernel) rfl rfl rfl (by decide +kernel)
def codes1 : List Jvm.Cond := [Jvm.Cond.code x code maxLocals ret, Jvm.Cond.code ({ cls := "com/example/vaxwire/vaxwire/hl7/LocationInFieldOfPinLaw", name := "str", desc := "(ICC)Ljava/lang/String;" } : Jvm.MethodName) method_2_code (3 : Nat) (Option.some (Jvm.ClassFile.FieldType.object "java/lang/String")), Jvm.Cond.code ({ cls := "java/lang/String", name := "<init>", desc := "([C)V" } : Jvm.MethodName) jdk_42_method_3_code (2 : Nat) (Option.none : Option Jvm.ClassFile.FieldType), Jvm.Cond.code ({ cls := "java/lang/String", name := "<init>", desc := "([CIILjava/lang/Void;)V" } : Jvm.MethodName) jdk_42_method_149_code (6 : Nat) (Option.none : Option Jvm.ClassFile.FieldType), Jvm.Cond.code ({ cls := "java/lang/Object", name := "<init>", desc := "()V" } : Jvm.MethodName) object_method_1_code (1 : Nat) (Option.none : Option Jvm.ClassFile.FieldType), Jvm.Cond.code ({ cls := "com/example/vaxwire/vaxwire/hl7/Location", name := "<init>", desc := "(Ljava/lang/String;IIII)V" } : Jvm.MethodName) prog_63_method_3_code (6 : Nat) (Option.none : Option Jvm.ClassFile.FieldType), Jvm.Cond.code ({ cls := "java/lang/Record", name := "<init>", desc := "()V" } : Jvm.MethodName) jdk_30_method_1_code (1 : Nat) (Option.none : Option Jvm.ClassFile.FieldType), Jvm.Cond.code ({ cls := "com/example/vaxwire/vaxwire/hl7/Location", name := "inFieldOf", desc := "(Lcom/example/vaxwire/vaxwire/hl7/Location;)Z" } : Jvm.MethodName) prog_63_method_6_code (2 : Nat) (Option.some Jvm.ClassFile.FieldType.boolean), Jvm.Cond.code ({ cls := "java/lang/StringUTF16", name := "compress", desc := "([CII)[B" } : Jvm.MethodName) jdk_52_method_16_code (6 : Nat) (Option.some (Jvm.ClassFile.FieldType.array Jvm.ClassFile.FieldType.byte)), Jvm.Cond.code ({ cls := "java/lang/StringUTF16", name := "compress", desc := "([CI[BII)I" } : Jvm.MethodName) jdk_52_method_21_code (7 : Nat) (Option.some Jvm.ClassFile.FieldType.int), Jvm.Cond.code ({ cls := "java/lang/StringUTF16", name := "coderFromArrayLen", desc := "([BI)B" } : Jvm.MethodName) jdk_52_method_15_code (2 : Nat) (Option.some Jvm.ClassFile.FieldType.byte), Jvm.Cond.code ({ cls := "java/lang/String", name := "equals", desc := "(Ljava/lang/Object;)Z" } : Jvm.MethodName) jdk_42_method_66_code (3 : Nat) (Option.some Jvm.ClassFile.FieldType.boolean), Jvm.Cond.code ({ cls := "java/lang/StringLatin1", name := "equals", desc := "([B[B)Z" } : Jvm.MethodName) jdk_43_method_13_code (3 : Nat) (Option.some Jvm.ClassFile.FieldType.boolean)]
set_option maxRecDepth 65536 in
theorem codes_eq : words1.filter isCode = codes1 := rfl
theorem w_codes : ∀ c ∈ words1.filter isCode, c.before args0 about1 = true := by
  rw [codes_eq]
  intro c hc
  simp only [codes1, List.mem_cons, List.not_mem_nil, or_false] at hc
  rcases hc with rfl | rfl | rfl | rfl | rfl | rfl | rfl | rfl | rfl | rfl | rfl | rfl | rfl
  · exact w_c0
  · exact w_c1
  · exact w_c2
  · exact w_c3
  · exact w_c4
  · exact w_c5
  · exact w_c6
  · exact w_c7
  · exact w_c8
  · exact w_c9
  · exact w_c10
  · exact w_c11
  · exact w_c12
set_option maxRecDepth 65536 in
theorem w_t1 : (words1.take 24).all (fun c => isCode c || c.before args0 about1) = true := by decide +kernel
set_option maxRecDepth 65536 in
theorem w_t2 : ((words1.drop 24).take 24).all (fun c => isCode c || c.before args0 about1) = true := by decide +kernel
set_option maxRecDepth 65536 in
theorem w_t3 : (((words1.drop 24).drop 24).take 24).all (fun c => isCode c || c.before args0 about1) = true := by decide +kernel
set_option maxRecDepth 65536 in
theorem w_t4 : (((words1.drop 24).drop 24).drop 24).all (fun c => isCode c || c.before args0 about1) = true := by decide +kernel
theorem w_tables : (allAtoms (Jvm.Cond.code x code maxLocals ret :: tables_1)).before args0 about1 = true := by
  rw [allAtoms_all]
  show words1.all (fun c => c.before args0 about1) = true
  refine all_split ?_ w_codes
  rw [← List.take_append_drop 24 words1, List.all_append, w_t1, ← List.take_append_drop 24 (words1.drop 24), List.all_append, w_t2, ← List.take_append_drop 24 ((words1.drop 24).drop 24), List.all_append, w_t3, w_t4]
  rfl
set_option maxRecDepth 65536 in
theorem w_rest : rest_1_c.before args0 about1 = true := by decide +kernel
set_option maxRecDepth 65536 in
theorem w_case : (Jvm.Cond.and given_1 narrow_1).before args0 about1 = true := by decide +kernel
set_option maxRecDepth 65536 in
theorem w_consts : constsHeld consts_1 about1 := Jvm.Lit.constsHeldB_iff.mp (by decide +kernel)
theorem w_applies : (headSpec (Jvm.Cond.code x code maxLocals ret :: tables_1) room_1).applies x e0.platform about1 = true :=
  (Spec.applies_iff w_frames).mpr ⟨w_running, w_runnable, w_alone, w_named, w_hears, w_ripe, w_room, w_tables⟩
theorem atStart : AtStart classFile x code maxLocals ret World_1 tables_1 room_1 Calls_1 rest_1 Pre_1 launch0 p0 e0 about1 theMethod args0 below0 :=
  ⟨lists_1, trivial, launch0.admits_env _ _ _, launch0.least_env, fairChoices_fair.cas, fairChoices_fair.clock, w_frames, w_args, w_heap, w_applies, ⟨w_consts, trivial⟩, w_rest, w_case⟩
end start1
theorem witness_1 : WitnessClaimed_1 := ⟨start1.p0, start1.e0, start1.about1, start1.theMethod, start1.args0, start1.below0, start1.atStart⟩
end Jvm.Pilot.@@N@@
