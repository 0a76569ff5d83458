import JvmDerived
import JvmDerived.Pilot.@@N@@Statement
import JvmDerived.Pilot.@@N@@Code
set_option linter.unusedVariables false
set_option linter.unusedSimpArgs false
namespace Jvm.RoadKit
open Sem ClassFile Op Lib Jvm.Stand Jvm.Free Jvm.LawKit
section New
variable {p : Program} {l : Launch} {e : Env} {R : Room} {s : State} {m : MethodId} {args : Array Value} {below : List Frame} {meth : Method} {c : Code} {T : State} {locs : List Loc} {cells slots : Nat}
theorem retI (X : Stand p l e R s m args below meth c T locs cells slots) (hx : p.tables.exec = Jvm.exec) {pc : Nat} {Ls : Array Slot} {z : Int32} {rest : List Value} (hret : meth.sig.returnType = some .int) (hd : decode c.code pc = .ok (.ireturn, 1)) {fs : List Frame}
    (hl : ∀ (f : JFrame) (acts : List Action), f.method = m → f.locked = none → f.entered = [] → (doReturn e (T.setTop f) acts (some (.int z))).1 = T.setFrames fs) : Steps p.tables e below (T.setTop (mkF m pc Ls (.int z :: rest))) (T.setFrames fs) := by
  have hm' : T.vm.method? m = some meth := X.method'
  have hn : narrow .int (.int z) = .int z := rfl
  show Steps p.tables e below (T.setTop { method := m, pc := pc, locals := Ls, stack := _ :: rest, locked := none }) _
  jvm_step X.here [X.here.top, hx, hd, hm', hret, hn]
  first | (intro acts; rw [hl _ acts rfl rfl rfl]) | rw [hl _ _ rfl rfl rfl]
  exact Steps.refl _
end New
end Jvm.RoadKit

namespace Jvm.Pilot.@@N@@
open Jvm Jvm.ClassFile Sem Op Lib Jvm.Free Jvm.Stand Jvm.LawKit Jvm.RoadKit Bundle Jvm.Pilot.@@N@@.Jvm.D
theorem own_w {a0 : Array Value} {Z : State} (hw : ∀ d ∈ tables_1, d.before a0 Z = true) {d : Jvm.Cond} (i : Nat) (h : tables_1[i]? = some d) : d.before a0 Z = true := hw d (List.mem_of_getElem? h)
abbrev Sp (p : Program) (e : Env) (b : List Frame) (T : State) (g : JFrame) (t : State) : Prop := Steps p.tables e b (T.setTop g) t
theorem own_le {Z : State} {n0 : Nat} {h : Heap} (O : Old Z n0 h) : n0 ≤ h.size := O.1 ▸ O.2.1
theorem own_narb {c : Prop} [Decidable c] : nar .boolean (if c then (1 : Int32) else 0) = if c then (1 : Int32) else 0 := by split <;> rfl
theorem own_narb' {c : Prop} [Decidable c] : nar .boolean (if c then (0 : Int32) else 1) = if c then (0 : Int32) else 1 := by split <;> rfl
theorem own_eqc {t : Term} {k : Int32} {a0 : Array Value} {Z : State} (h : (Jvm.Cond.eq t (.int k)).value a0 Z none Z [] = some true) : t.eval a0 Z none [] Z = some (.int k) := by
  obtain ⟨x, y, e1, e2, k1, -⟩ := cmp_v (Or.inl h)
  obtain rfl : Value.int k = y := Option.some.inj ((Term.int_eval k).symm.trans e2)
  cases x <;> simp [Kin, Value.isRef] at k1
  simp [Jvm.Cond.value, e1, Term.int_eval] at h
  rw [e1, h]

theorem own_IBw {Z s : State} {vm0 vm : Vm} {Ts : List String} (I : IB Z vm0 Ts) (h : (s.setVm vm0).WarmedH vm) : IB Z vm Ts := by
  obtain ⟨more, h1, h2⟩ := I
  exact ⟨more, h.interned_eq.trans h1, h2⟩
theorem own_sa {a0 : Array Value} {Z : State} (hw : ∀ d ∈ tables_1, d.before a0 Z = true) : ∀ d ∈ Bundle.stringAtoms, d.before a0 Z = true := fun d hd => hw d ((by decide +kernel : ∀ d ∈ Bundle.stringAtoms, d ∈ tables_1) d hd)
theorem own_backS {p : Program} {l : Launch} {e : Env} {R : Room} {s : State} {args : Array Value} {below : List Frame} {Z : State} {a0 : Array Value} {h : Heap} {y : MethodName} {bytes : ByteArray} {maxL : Nat} {ret : Option FieldType} {rm : Room} {len W : Nat} {as' : Array Value} {PV : Vm → Prop} {Q : Option Value → Vm → Heap → List Loc → Prop}
    (hM : MetFree l y (head1 [Jvm.Cond.code y bytes maxL ret] rm) (fun a U => a = as' ∧ Z.Warmed39 U.vm ∧ U.heap = h ∧ PV U.vm) (fun _ _ _ _ _ => True) (fun _ U o U' => ∃ v L, o = .returned v ∧ Q v U'.vm U'.heap L ∧ ReturnedEndW U o U' L rm.cells rm.slots))
    (hZ : Z.Warmed39 s.vm) (wc : (Jvm.Cond.code y bytes maxL ret).before a0 Z = true) (wz : (Jvm.Cond.initialized y.cls).before a0 Z = true) (hf : rm.frames + 1 ≤ R.frames) (hl : W + (maxL + 11) + rm.locals ≤ R.locals) (hPV : ∀ vm, s.WarmedH vm → PV vm) :
    BackS l R p e below s args y len W (fun A a => a = as' ∧ A.U.heap = h ∧ A.cells + rm.cells ≤ R.cells ∧ A.slots + rm.slots ≤ R.slots)
      (fun A _ v B => ∃ L, Q v B.U.vm B.U.heap L ∧ B.locs = A.locs ++ L ∧ B.cells = A.cells + rm.cells ∧ B.slots = A.slots + rm.slots) :=
  BackS.of_freeW (bytes := bytes) (maxL := maxL) (ret := ret) (E := fun _ _ o t L k n => k = rm.cells ∧ n = rm.slots ∧ ∃ v, o = .returned v ∧ Q v t.vm t.heap L) hM hf hl
    (fun m meth c A a Y hp => have hU : Z.Warmed39 A.U.vm := wtrans hZ Y.warmed
      ⟨by show (Cond.and _ .tt).before a A.U = true; rw [Cond.before_and, mv hU wc]; rfl, mv hU wc, mv hU wz, hp.2.2.1, hp.2.2.2⟩)
    (fun m meth c A a g mk Y hp => ⟨hp.1, wtrans hZ Y.warmed, hp.2.1, hPV _ Y.warmed⟩) (fun _ _ _ _ _ _ _ _ _ => trivial)
    (fun _ _ _ _ ⟨v, L, h1, h2, h3⟩ => ⟨L, _, _, h3, rfl, rfl, v, h1, h2⟩)
    (fun m meth c A a g mk v t L k n Y hp _ _ ⟨e1, e2, v', e3, e4⟩ => by cases e3; subst e1 e2; exact ⟨L, e4, rfl, rfl, rfl⟩)

theorem own_nb (x : Int32) : nar .byte (x.toInt8.toInt32) = x.toInt8.toInt32 := by simp [nar]

theorem own_i2c_id (z : Int32) (h0 : 0 ≤ z.toInt) (h1 : z.toInt < 65536) : z.toUInt32.toUInt16.toUInt32.toInt32 = z := by
  apply Int32.toInt_inj.mp
  have := c_i2c z
  omega
theorem own_and255 (x : Int32) : 0 ≤ (x &&& (255 : Int32)).toInt ∧ (x &&& (255 : Int32)).toInt ≤ 255 := by
  have := c_and x (255 : Int32) (by decide)
  have e : (255 : Int32).toInt = 255 := rfl
  omega
theorem own_c255 (x : Int32) : nar .char ((x &&& (255 : Int32)).toUInt32.toUInt16.toUInt32.toInt32) = (x &&& (255 : Int32)).toUInt32.toUInt16.toUInt32.toInt32 ∧ ¬ (255 : Int32) < (x &&& (255 : Int32)).toUInt32.toUInt16.toUInt32.toInt32 := by
  have h := own_and255 x
  have e : (255 : Int32).toInt = 255 := rfl
  rw [own_i2c_id _ h.1 (by omega)]
  refine ⟨own_i2c_id _ h.1 (by omega), ?_⟩
  rw [Int32.lt_iff_toInt_lt]
  omega

def own_Ar (Z : State) (h : Heap) (b : Addr) (kB : ClassId) (n c0 c1 c2 : Int32) : Prop := (n = (0 : Int32) ∧ Arv Z h b kB .byte (0 : Int32) [] (.int (0 : Int32))) ∨ (n = (1 : Int32) ∧ Arv Z h b kB .byte (1 : Int32) [(.int (c0).toInt8.toInt32)] (.int (0 : Int32))) ∨ (n = (2 : Int32) ∧ Arv Z h b kB .byte (2 : Int32) [(.int (c0).toInt8.toInt32), (.int (c1).toInt8.toInt32)] (.int (0 : Int32))) ∨ (n = (3 : Int32) ∧ Arv Z h b kB .byte (3 : Int32) [(.int (c0).toInt8.toInt32), (.int (c1).toInt8.toInt32), (.int (c2).toInt8.toInt32)] (.int (0 : Int32)))
theorem own_Ar.ext {Z : State} {h h' : Heap} {b : Addr} {kB : ClassId} {n c0 c1 c2 : Int32} (F : own_Ar Z h b kB n c0 c1 c2) (E : Ext h h') : own_Ar Z h' b kB n c0 c1 c2 := by
  rcases F with ⟨e, V⟩ | ⟨e, V⟩ | ⟨e, V⟩ | ⟨e, V⟩
  · exact Or.inl ⟨e, V.ext E⟩
  · exact Or.inr (Or.inl ⟨e, V.ext E⟩)
  · exact Or.inr (Or.inr (Or.inl ⟨e, V.ext E⟩))
  · exact Or.inr (Or.inr (Or.inr (⟨e, V.ext E⟩)))
theorem own_Ar.keep {Z : State} {h h' : Heap} {b : Addr} {kB : ClassId} {n c0 c1 c2 : Int32} {ws : List Addr} (F : own_Ar Z h b kB n c0 c1 c2) (K : Keep h h' ws) (q : b ∉ ws) : own_Ar Z h' b kB n c0 c1 c2 := by
  rcases F with ⟨e, V⟩ | ⟨e, V⟩ | ⟨e, V⟩ | ⟨e, V⟩
  · exact Or.inl ⟨e, V.keep K q⟩
  · exact Or.inr (Or.inl ⟨e, V.keep K q⟩)
  · exact Or.inr (Or.inr (Or.inl ⟨e, V.keep K q⟩))
  · exact Or.inr (Or.inr (Or.inr (⟨e, V.keep K q⟩)))
theorem own_Ar.lt {Z : State} {h : Heap} {b : Addr} {kB : ClassId} {n c0 c1 c2 : Int32} (F : own_Ar Z h b kB n c0 c1 c2) : b < h.size := by
  rcases F with ⟨e, V⟩ | ⟨e, V⟩ | ⟨e, V⟩ | ⟨e, V⟩
  · exact V.lt
  · exact V.lt
  · exact V.lt
  · exact V.lt
theorem own_neAr {Z : State} {h : Heap} {b : Addr} {kB : ClassId} {n c0 c1 c2 : Int32} {a0 : Array Value} {x : Addr} {C : String} {q : Nat} (E : Exa Z h x C) (F : own_Ar Z h b kB n c0 c1 c2) (w : (Jvm.Cond.instantiable C q).before a0 Z = true) : x ≠ b := by
  rcases F with ⟨e, V⟩ | ⟨e, V⟩ | ⟨e, V⟩ | ⟨e, V⟩
  · exact Exa.neArv E V w
  · exact Exa.neArv E V w
  · exact Exa.neArv E V w
  · exact Exa.neArv E V w
def own_eqv (n m c0 d0 c1 d1 c2 d2 : Int32) : Int32 := (if n = m then (if n < (1 : Int32) then (if n < (2 : Int32) then (if n < (3 : Int32) then (1 : Int32) else (if c2 = d2 then (1 : Int32) else (0 : Int32))) else (if c1 = d1 then (if n < (3 : Int32) then (1 : Int32) else (if c2 = d2 then (1 : Int32) else (0 : Int32))) else (0 : Int32))) else (if c0 = d0 then (if n < (2 : Int32) then (if n < (3 : Int32) then (1 : Int32) else (if c2 = d2 then (1 : Int32) else (0 : Int32))) else (if c1 = d1 then (if n < (3 : Int32) then (1 : Int32) else (if c2 = d2 then (1 : Int32) else (0 : Int32))) else (0 : Int32))) else (0 : Int32))) else (0 : Int32))
theorem own_eqv01 (n m c0 d0 c1 d1 c2 d2 : Int32) : own_eqv n m c0 d0 c1 d1 c2 d2 = (0 : Int32) ∨ own_eqv n m c0 d0 c1 d1 c2 d2 = (1 : Int32) := by
  unfold own_eqv
  repeat' split
  all_goals first | exact Or.inl rfl | exact Or.inr rfl
theorem own_byeq {c d : Int32} (hc : ¬ (255 : Int32) < c ∧ ¬ c < (0 : Int32)) (hd : ¬ (255 : Int32) < d ∧ ¬ d < (0 : Int32)) : c.toInt8.toInt32 = d.toInt8.toInt32 ↔ c = d := by
  have q1 := c_i2b c
  have q2 := c_i2b d
  have e1 : (255 : Int32).toInt = 255 := rfl
  have e2 : (0 : Int32).toInt = 0 := rfl
  simp only [Int32.lt_iff_toInt_lt, e1, e2] at hc hd
  refine ⟨fun h => ?_, fun h => by rw [h]⟩
  rw [h] at q1
  apply Int32.toInt_inj.mp
  omega
def own_L (Z : State) (h : Heap) (vm : Vm) : Prop := IB Z vm [] ∨ ∃ aE bE kE, Exa Z h aE "java/lang/String" ∧ Fld Z h aE "java/lang/String" "value" "[B" (.ref bE) ∧ Fld Z h aE "java/lang/String" "coder" "B" (.int (0 : Int32)) ∧ Arv Z h bE kE .byte (0 : Int32) [] (.int (0 : Int32)) ∧ Lit (Z.setVm vm) "java/lang/String" 7 aE
theorem own_cr (x : Int32) : nar .char ((x &&& (255 : Int32)).toUInt32.toUInt16.toUInt32.toInt32) = (x &&& (255 : Int32)).toUInt32.toUInt16.toUInt32.toInt32 ∧ ¬ (255 : Int32) < (x &&& (255 : Int32)).toUInt32.toUInt16.toUInt32.toInt32 ∧ ¬ (x &&& (255 : Int32)).toUInt32.toUInt16.toUInt32.toInt32 < (0 : Int32) := by
  refine ⟨(own_c255 x).1, (own_c255 x).2, ?_⟩
  have h := own_and255 x
  rw [own_i2c_id _ h.1 (by omega), Int32.lt_iff_toInt_lt]
  have e : (0 : Int32).toInt = 0 := rfl
  omega
def own_ch (b i : Int32) : Int32 := ((XT.ushr b ((8 : Int32) * i)) &&& (255 : Int32)).toUInt32.toUInt16.toUInt32.toInt32
theorem own_chr (b i : Int32) : nar .char (own_ch b i) = own_ch b i ∧ ¬ (255 : Int32) < own_ch b i ∧ ¬ own_ch b i < (0 : Int32) := own_cr _
theorem own_four (x : Int32) : (x &&& (3 : Int32)) = (0 : Int32) ∨ (x &&& (3 : Int32)) = (1 : Int32) ∨ (x &&& (3 : Int32)) = (2 : Int32) ∨ (x &&& (3 : Int32)) = (3 : Int32) := by
  have h := c_and x (3 : Int32) (by decide)
  have e0 : (0 : Int32).toInt = 0 := rfl
  have e1 : (1 : Int32).toInt = 1 := rfl
  have e2 : (2 : Int32).toInt = 2 := rfl
  have e3 : (3 : Int32).toInt = 3 := rfl
  simp only [← Int32.toInt_inj, e0, e1, e2, e3] at *
  omega
theorem own_eqv_symm (n m c0 d0 c1 d1 c2 d2 : Int32) : own_eqv m n d0 c0 d1 c1 d2 c2 = own_eqv n m c0 d0 c1 d1 c2 d2 := by
  unfold own_eqv
  by_cases h : n = m
  · subst h
    by_cases h0 : c0 = d0 <;> by_cases h1 : c1 = d1 <;> by_cases h2 : c2 = d2 <;> simp [h0, h1, h2, Ne.symm, eq_comm]
  · rw [if_neg h, if_neg (Ne.symm h)]
theorem own_rootI {Z : State} {a0 : Array Value} {O K : String} {n : Nat} (w : (Jvm.Cond.noSuperclass O).before a0 Z = true) (wk : (Jvm.Cond.instantiable K n).before a0 Z = true) (hn : O ≠ K) : NS Z O K := by
  obtain ⟨c, k, h1, h2, h3, -, -⟩ := Cond.noSuperclass_spec w
  obtain ⟨t, k2, g1, -⟩ := Cond.instantiable_spec wk
  have ne := ids_ne h1 g1 hn
  refine ⟨c, t, h1, g1, fun fuel => ?_⟩
  cases fuel with
  | zero => rfl
  | succ f => simp [Vm.isSubclassAux, ne, h2, h3]
theorem own_noI {Z : State} {a0 : Array Value} {C S K : String} {m : Nat} (w : (Jvm.Cond.superclass C S).before a0 Z = true) (wk : (Jvm.Cond.instantiable K m).before a0 Z = true) (n : NS Z C K) (hn : C ≠ K) : ∃ c t, Z.vm.findClass C = some c ∧ Z.vm.findClass K = some t ∧ Z.vm.assignable c t = false := by
  obtain ⟨c, t, h0, g0, n3⟩ := n
  obtain ⟨p, k, kp, h1, h2, h3, h4, h5, -, h7⟩ := Cond.superclass_spec h0 w
  obtain ⟨t', k', g1, g2, g5, g7, -⟩ := Cond.instantiable_spec wk
  cases g0.symm.trans g1
  have g8 : k'.isInterface = false := by cases hq : k'.isInterface <;> simp [hq] at g7 ⊢
  have ne := ids_ne h0 g0 hn
  refine ⟨c, t, h0, g0, ?_⟩
  show Z.vm.assignableAux (255 + 1) c t = false
  simp [Vm.assignableAux, ne, h2, g2, h5, g5, g8, Vm.isSubclass, n3]

theorem d_jdk_52_21_0 : decode jdk_52_method_21_code 0 = .ok (.iconst 0, 1) := by decide +kernel
theorem d_jdk_52_21_1 : decode jdk_52_method_21_code 1 = .ok (.istore 5, 2) := by decide +kernel
theorem d_jdk_52_21_3 : decode jdk_52_method_21_code 3 = .ok (.iload 5, 2) := by decide +kernel
theorem d_jdk_52_21_5 : decode jdk_52_method_21_code 5 = .ok (.iload 4, 2) := by decide +kernel
theorem d_jdk_52_21_7 : decode jdk_52_method_21_code 7 = .ok (.if_icmp .ge 37, 3) := by decide +kernel
theorem d_jdk_52_21_10 : decode jdk_52_method_21_code 10 = .ok (.aload_n 0, 1) := by decide +kernel
theorem d_jdk_52_21_11 : decode jdk_52_method_21_code 11 = .ok (.iload_n 1, 1) := by decide +kernel
theorem d_jdk_52_21_12 : decode jdk_52_method_21_code 12 = .ok (.caload, 1) := by decide +kernel
theorem d_jdk_52_21_13 : decode jdk_52_method_21_code 13 = .ok (.istore 6, 2) := by decide +kernel
theorem d_jdk_52_21_15 : decode jdk_52_method_21_code 15 = .ok (.iload 6, 2) := by decide +kernel
theorem d_jdk_52_21_17 : decode jdk_52_method_21_code 17 = .ok (.sipush 255, 3) := by decide +kernel
theorem d_jdk_52_21_20 : decode jdk_52_method_21_code 20 = .ok (.if_icmp .le 6, 3) := by decide +kernel
theorem d_jdk_52_21_26 : decode jdk_52_method_21_code 26 = .ok (.aload_n 2, 1) := by decide +kernel
theorem d_jdk_52_21_27 : decode jdk_52_method_21_code 27 = .ok (.iload_n 3, 1) := by decide +kernel
theorem d_jdk_52_21_28 : decode jdk_52_method_21_code 28 = .ok (.iload 6, 2) := by decide +kernel
theorem d_jdk_52_21_30 : decode jdk_52_method_21_code 30 = .ok (.i2b, 1) := by decide +kernel
theorem d_jdk_52_21_31 : decode jdk_52_method_21_code 31 = .ok (.bastore, 1) := by decide +kernel
theorem d_jdk_52_21_32 : decode jdk_52_method_21_code 32 = .ok (.iinc 1 1, 3) := by decide +kernel
theorem d_jdk_52_21_35 : decode jdk_52_method_21_code 35 = .ok (.iinc 3 1, 3) := by decide +kernel
theorem d_jdk_52_21_38 : decode jdk_52_method_21_code 38 = .ok (.iinc 5 1, 3) := by decide +kernel
theorem d_jdk_52_21_41 : decode jdk_52_method_21_code 41 = .ok (.goto (-38), 3) := by decide +kernel
theorem d_jdk_52_21_44 : decode jdk_52_method_21_code 44 = .ok (.iload 4, 2) := by decide +kernel
theorem d_jdk_52_21_46 : decode jdk_52_method_21_code 46 = .ok (.ireturn, 1) := by decide +kernel
theorem pn_cmpa1 : plainName "java/lang/StringUTF16" = true := by first | (simp [plainName, overriddenIn]; done) | decide +kernel
theorem ef_cmpa1 (m : MethodId) (a1 : Addr) (a3 : Addr) : entryFrame m #[(.ref a1), (.int (0 : Int32)), (.ref a3), (.int (0 : Int32)), (.int (1 : Int32))] 7 = (mkF m 0 #[.val (.ref a1), .val (.int (0 : Int32)), .val (.ref a3), .val (.int (0 : Int32)), .val (.int (1 : Int32)), .unset, .unset] []) := by first | (simp [entryFrame, mkF, argsToLocals, Value.category]; done) | rfl
def Q_cmpa1 (Z : State) (a1 : Addr) (a3 : Addr) (kC kB : ClassId) (c0 : Int32) (h0 : Heap) (n0 : Nat) (v : Option Value) (h : Heap) (L : List Loc) : Prop := v = some (.int (1 : Int32)) ∧ Fr n0 L ∧ Keep h0 h [a3] ∧ Arv Z h a3 kB .byte (1 : Int32) [(.int (c0).toInt8.toInt32)] (.int (0 : Int32))
set_option maxRecDepth 65536 in
set_option maxHeartbeats 40000000 in
theorem rm_cmpa1 (l : Launch) (Z : State) (a0 : Array Value) (hw : ∀ d ∈ tables_1, d.before a0 Z = true) (ws : List Jvm.Cond) (a1 : Addr) (a3 : Addr) (kC kB : ClassId) (c0 : Int32) (h0 : Heap) (n0 : Nat) (O0 : Old Z n0 h0) (VC : Arv Z h0 a1 kC .char (1 : Int32) [(.int c0)] (.int (0 : Int32))) (VB : Arv Z h0 a3 kB .byte (1 : Int32) [(.int (0 : Int32))] (.int (0 : Int32))) (g3 : n0 ≤ a3) (ne13 : a1 ≠ a3) (hc0 : ¬ (255 : Int32) < c0) :
    MetFree l (⟨"java/lang/StringUTF16", "compress", "([CI[BII)I"⟩ : MethodName) (head1 (Jvm.Cond.code (⟨"java/lang/StringUTF16", "compress", "([CI[BII)I"⟩ : MethodName) jdk_52_method_21_code 7 (some .int) :: ws) ({ frames := 0, cells := 0, slots := 0, locals := 0 } : Room)) (fun a U => a = #[(.ref a1), (.int (0 : Int32)), (.ref a3), (.int (0 : Int32)), (.int (1 : Int32))] ∧ Z.Warmed39 U.vm ∧ U.heap = h0) (fun _ _ _ _ _ => True) (fun _ U o U' => ∃ v L, o = .returned v ∧ Q_cmpa1 Z a1 a3 kC kB c0 h0 n0 v U'.heap L ∧ FrameEnd U o U' L ({ frames := 0, cells := 0, slots := 0, locals := 0 } : Room).cells ({ frames := 0, cells := 0, slots := 0, locals := 0 } : Room).slots) := by
  refine MetFree.of_bodySF (plainFor_of_name pn_cmpa1) hisR ?_
  intro p e s m args below meth c s₁ Bd hml0 hP hK
  obtain ⟨rfl, hZ, hh⟩ := hP
  have hx := Bd.exec
  have hby := Bd.bytes
  have hml : c.maxLocals = 7 := hml0
  have hown : s.vm.findClass "java/lang/StringUTF16" = some m.cls := findClass_of_methodNamed Bd.named
  have hnm := (name_of_methodNamed Bd.named Bd.method).1
  have X0 : Stand p l e ({ frames := 0, cells := 0, slots := 0, locals := 0 } : Room) s m #[(.ref a1), (.int (0 : Int32)), (.ref a3), (.int (0 : Int32)), (.int (1 : Int32))] below meth c s₁ [] 0 0 := Stand.of_body Bd
  have e0 : s₁.heap = h0 := by rw [← hh, Bd.state]; rfl
  have N0 := Fr.nil n0
  have pre0 : ∀ t, Steps p.tables e below (s₁.setTop (mkF m 0 #[.val (.ref a1), .val (.int (0 : Int32)), .val (.ref a3), .val (.int (0 : Int32)), .val (.int (1 : Int32)), .unset, .unset] [])) t → Steps p.tables e below (s₁.setTop (entryFrame m #[(.ref a1), (.int (0 : Int32)), (.ref a3), (.int (0 : Int32)), (.int (1 : Int32))] 7)) t := fun t k => castTop (ef_cmpa1 m a1 a3) k
  generalize s₁.setTop (entryFrame m #[(.ref a1), (.int (0 : Int32)), (.ref a3), (.int (0 : Int32)), (.int (1 : Int32))] 7) = E0 at pre0 ⊢
  have pre_2 : ∀ t, Sp p e below s₁ (mkF m 31 #[.val (.ref a1), .val (.int (0 : Int32)), .val (.ref a3), .val (.int (0 : Int32)), .val (.int (1 : Int32)), .val (.int (0 : Int32)), .val (.int c0)] [(.int ((c0).toInt8.toInt32)), (.int (0 : Int32)), (.ref a3)]) t → Steps p.tables e below E0 t := by
    intro t k
    refine pre0 t ?_
    show Sp p e below s₁ (mkF m 0 #[.val (.ref a1), .val (.int (0 : Int32)), .val (.ref a3), .val (.int (0 : Int32)), .val (.int (1 : Int32)), .unset, .unset] []) _
    refine XS.iconst X0.here hx rfl (hb hby d_jdk_52_21_0) ?_
    refine XS.istore X0.here hx rfl (hb hby d_jdk_52_21_1) rfl (l' := #[.val (.ref a1), .val (.int (0 : Int32)), .val (.ref a3), .val (.int (0 : Int32)), .val (.int (1 : Int32)), .val (.int (0 : Int32)), .unset]) rfl ?_
    refine XS.iload X0.here hx rfl (hb hby d_jdk_52_21_3) rfl ?_
    refine XS.iload X0.here hx rfl (hb hby d_jdk_52_21_5) rfl ?_
    show Sp p e below s₁ (mkF m 7 #[.val (.ref a1), .val (.int (0 : Int32)), .val (.ref a3), .val (.int (0 : Int32)), .val (.int (1 : Int32)), .val (.int (0 : Int32)), .unset] [(.int (1 : Int32)), (.int (0 : Int32))]) _
    refine XS.icmpNo X0.here hx rfl (hb hby d_jdk_52_21_7) rfl (XT.ii_ge_f (by decide)) ?_
    refine XS.aloadN X0.here hx rfl (hb hby d_jdk_52_21_10) rfl rfl ?_
    refine XS.iloadN X0.here hx rfl (hb hby d_jdk_52_21_11) rfl ?_
    obtain ⟨cl1, Ar1, -, S1, -, H1, -⟩ := id VC
    have hin1 : ¬ ((0 : Int32) < 0 ∨ cl1.slots.size ≤ ((0 : Int32)).toNatClampNeg) := inb_of S1 (by decide)
    refine X0.caload hx (j := (0 : Int32)) (v := (.int c0)) (by rw [e0]; exact Ar1.1) (State.isArrayOf_alike hZ.alike Ar1.2.1) Ar1.2.2 hin1 (H1.at hin1 rfl) (g := (mkF m 12 #[.val (.ref a1), .val (.int (0 : Int32)), .val (.ref a3), .val (.int (0 : Int32)), .val (.int (1 : Int32)), .val (.int (0 : Int32)), .unset] [(.int (0 : Int32)), (.ref a1)])) rfl rfl (hb hby d_jdk_52_21_12) _ ?_
    show Sp p e below s₁ (mkF m 13 #[.val (.ref a1), .val (.int (0 : Int32)), .val (.ref a3), .val (.int (0 : Int32)), .val (.int (1 : Int32)), .val (.int (0 : Int32)), .unset] [(.int c0)]) _
    refine XS.istore X0.here hx rfl (hb hby d_jdk_52_21_13) rfl (l' := #[.val (.ref a1), .val (.int (0 : Int32)), .val (.ref a3), .val (.int (0 : Int32)), .val (.int (1 : Int32)), .val (.int (0 : Int32)), .val (.int c0)]) rfl ?_
    refine XS.iload X0.here hx rfl (hb hby d_jdk_52_21_15) rfl ?_
    refine XS.sipush X0.here hx rfl (hb hby d_jdk_52_21_17) ?_
    refine XS.icmpYes X0.here hx rfl (pc0 := 20) (pc' := 26) rfl (hb hby d_jdk_52_21_20) rfl (XT.ii_le_t hc0) (by decide) (by decide) ?_
    show Sp p e below s₁ (mkF m 26 #[.val (.ref a1), .val (.int (0 : Int32)), .val (.ref a3), .val (.int (0 : Int32)), .val (.int (1 : Int32)), .val (.int (0 : Int32)), .val (.int c0)] []) _
    refine XS.aloadN X0.here hx rfl (hb hby d_jdk_52_21_26) rfl rfl ?_
    refine XS.iloadN X0.here hx rfl (hb hby d_jdk_52_21_27) rfl ?_
    refine XS.iload X0.here hx rfl (hb hby d_jdk_52_21_28) rfl ?_
    refine XT.i2b X0.here hx rfl (hb hby d_jdk_52_21_30) rfl ?_
    show Sp p e below s₁ (mkF m 31 #[.val (.ref a1), .val (.int (0 : Int32)), .val (.ref a3), .val (.int (0 : Int32)), .val (.int (1 : Int32)), .val (.int (0 : Int32)), .val (.int c0)] [(.int ((c0).toInt8.toInt32)), (.int (0 : Int32)), (.ref a3)]) _
    exact k
  obtain ⟨cl3, Ar3, q3, S3, M3, H3, G3⟩ := id VB
  obtain ⟨T3, h3, X3, e3, W3, st3⟩ := stB X0 hx hZ e0 Ar3 (j := (0 : Int32)) (inb_of S3 (by decide)) (g := (mkF m 31 #[.val (.ref a1), .val (.int (0 : Int32)), .val (.ref a3), .val (.int (0 : Int32)), .val (.int (1 : Int32)), .val (.int (0 : Int32)), .val (.int c0)] [(.int ((c0).toInt8.toInt32)), (.int (0 : Int32)), (.ref a3)])) rfl rfl (hb hby d_jdk_52_21_31)
  have N3 := Fr.snoc X3 N0 g3
  have O3 : Old Z n0 h3 := O0.wr W3 g3
  rw [(own_nb c0)] at W3
  have V3 : Arv Z h3 a3 kB .byte (1 : Int32) [(.int ((c0).toInt8.toInt32))] (.int (0 : Int32)) := Arv.set Ar3 q3 S3 M3 H3 G3 (by rw [← (own_nb c0)]; exact (fits_nar_byte _)) W3 0 rfl (Nat.le_of_ble_eq_true rfl)
  have pre_4 : ∀ t, Sp p e below T3 (mkF m 32 #[.val (.ref a1), .val (.int (0 : Int32)), .val (.ref a3), .val (.int (0 : Int32)), .val (.int (1 : Int32)), .val (.int (0 : Int32)), .val (.int c0)] []) t → Steps p.tables e below E0 t := fun t k => pre_2 t (st3 t k)
  have pre_5 : ∀ t, Sp p e below T3 (mkF m 46 #[.val (.ref a1), .val (.int (1 : Int32)), .val (.ref a3), .val (.int (1 : Int32)), .val (.int (1 : Int32)), .val (.int (1 : Int32)), .val (.int c0)] [(.int (1 : Int32))]) t → Steps p.tables e below E0 t := by
    intro t k
    refine pre_4 t ?_
    show Sp p e below T3 (mkF m 32 #[.val (.ref a1), .val (.int (0 : Int32)), .val (.ref a3), .val (.int (0 : Int32)), .val (.int (1 : Int32)), .val (.int (0 : Int32)), .val (.int c0)] []) _
    refine XS.iinc X3.here hx rfl (hb hby d_jdk_52_21_32) rfl (l' := #[.val (.ref a1), .val (.int (1 : Int32)), .val (.ref a3), .val (.int (0 : Int32)), .val (.int (1 : Int32)), .val (.int (0 : Int32)), .val (.int c0)]) rfl ?_
    refine XS.iinc X3.here hx rfl (hb hby d_jdk_52_21_35) rfl (l' := #[.val (.ref a1), .val (.int (1 : Int32)), .val (.ref a3), .val (.int (1 : Int32)), .val (.int (1 : Int32)), .val (.int (0 : Int32)), .val (.int c0)]) rfl ?_
    refine XS.iinc X3.here hx rfl (hb hby d_jdk_52_21_38) rfl (l' := #[.val (.ref a1), .val (.int (1 : Int32)), .val (.ref a3), .val (.int (1 : Int32)), .val (.int (1 : Int32)), .val (.int (1 : Int32)), .val (.int c0)]) rfl ?_
    refine XS.goto X3.here hx rfl (pc0 := 41) (pc' := 3) rfl (hb hby d_jdk_52_21_41) (by decide) (by decide) ?_
    show Sp p e below T3 (mkF m 3 #[.val (.ref a1), .val (.int (1 : Int32)), .val (.ref a3), .val (.int (1 : Int32)), .val (.int (1 : Int32)), .val (.int (1 : Int32)), .val (.int c0)] []) _
    refine XS.iload X3.here hx rfl (hb hby d_jdk_52_21_3) rfl ?_
    refine XS.iload X3.here hx rfl (hb hby d_jdk_52_21_5) rfl ?_
    refine XS.icmpYes X3.here hx rfl (pc0 := 7) (pc' := 44) rfl (hb hby d_jdk_52_21_7) rfl (XT.ii_ge_t (by decide)) (by decide) (by decide) ?_
    refine XS.iload X3.here hx rfl (hb hby d_jdk_52_21_44) rfl ?_
    show Sp p e below T3 (mkF m 46 #[.val (.ref a1), .val (.int (1 : Int32)), .val (.ref a3), .val (.int (1 : Int32)), .val (.int (1 : Int32)), .val (.int (1 : Int32)), .val (.int c0)] [(.int (1 : Int32))]) _
    exact k
  obtain ⟨fs, hr, hrun, hended, hW, hsame⟩ := X3.leave (v := some (.int (1 : Int32))) (fun h => by rw [Bd.returns] at h; cases h)
  refine ⟨_, _, pre_5 _ ?_, hrun, hended, _, _, rfl, ?_, ⟨_, rfl⟩, hW, hsame.mono (by decide) (by decide)⟩
  · show Sp p e below T3 (mkF m 46 #[.val (.ref a1), .val (.int (1 : Int32)), .val (.ref a3), .val (.int (1 : Int32)), .val (.int (1 : Int32)), .val (.int (1 : Int32)), .val (.int c0)] [(.int (1 : Int32))]) _
    exact retI X3 hx Bd.returns (hb hby d_jdk_52_21_46) hr
  · show Q_cmpa1 Z _ _ _ _ _ h0 n0 _ T3.heap _
    rw [e3]
    exact ⟨rfl, N3, ((Keep.refl h0 [a3]).wr W3 (Or.inl (List.mem_of_getElem? (i := 0) rfl))), V3⟩
theorem d_jdk_52_16_0 : decode jdk_52_method_16_code 0 = .ok (.iload_n 2, 1) := by decide +kernel
theorem d_jdk_52_16_1 : decode jdk_52_method_16_code 1 = .ok (.newarray .byte, 2) := by decide +kernel
theorem d_jdk_52_16_3 : decode jdk_52_method_16_code 3 = .ok (.astore_n 3, 1) := by decide +kernel
theorem d_jdk_52_16_4 : decode jdk_52_method_16_code 4 = .ok (.aload_n 0, 1) := by decide +kernel
theorem d_jdk_52_16_5 : decode jdk_52_method_16_code 5 = .ok (.iload_n 1, 1) := by decide +kernel
theorem d_jdk_52_16_6 : decode jdk_52_method_16_code 6 = .ok (.aload_n 3, 1) := by decide +kernel
theorem d_jdk_52_16_7 : decode jdk_52_method_16_code 7 = .ok (.iconst 0, 1) := by decide +kernel
theorem d_jdk_52_16_8 : decode jdk_52_method_16_code 8 = .ok (.iload_n 2, 1) := by decide +kernel
theorem d_jdk_52_16_9 : decode jdk_52_method_16_code 9 = .ok (.invokestatic 115, 3) := by decide +kernel
theorem d_jdk_52_16_12 : decode jdk_52_method_16_code 12 = .ok (.istore 4, 2) := by decide +kernel
theorem d_jdk_52_16_14 : decode jdk_52_method_16_code 14 = .ok (.iload 4, 2) := by decide +kernel
theorem d_jdk_52_16_16 : decode jdk_52_method_16_code 16 = .ok (.iload_n 2, 1) := by decide +kernel
theorem d_jdk_52_16_17 : decode jdk_52_method_16_code 17 = .ok (.if_icmp .eq 40, 3) := by decide +kernel
theorem d_jdk_52_16_57 : decode jdk_52_method_16_code 57 = .ok (.aload_n 3, 1) := by decide +kernel
theorem d_jdk_52_16_58 : decode jdk_52_method_16_code 58 = .ok (.areturn, 1) := by decide +kernel
theorem pn_cmpb1 : plainName "java/lang/StringUTF16" = true := by first | (simp [plainName, overriddenIn]; done) | decide +kernel
theorem pd_cmpb1_0 : parseMethodDescriptor "([CI[BII)I" = some ⟨[(.array .char), .int, (.array .byte), .int, .int], some .int⟩ := by decide +kernel
theorem ef_cmpb1 (m : MethodId) (a1 : Addr) : entryFrame m #[(.ref a1), (.int (0 : Int32)), (.int (1 : Int32))] 6 = (mkF m 0 #[.val (.ref a1), .val (.int (0 : Int32)), .val (.int (1 : Int32)), .unset, .unset, .unset] []) := by first | (simp [entryFrame, mkF, argsToLocals, Value.category]; done) | rfl
def Q_cmpb1 (Z : State) (a1 : Addr) (kC : ClassId) (c0 : Int32) (h0 : Heap) (n0 : Nat) (v : Option Value) (h : Heap) (L : List Loc) : Prop := ∃ b kB, v = some (.ref b) ∧ Fr n0 L ∧ Keep h0 h [] ∧ h0.size ≤ b ∧ Arv Z h b kB .byte (1 : Int32) [(.int (c0).toInt8.toInt32)] (.int (0 : Int32))
set_option maxRecDepth 65536 in
set_option maxHeartbeats 40000000 in
theorem rm_cmpb1 (l : Launch) (Z : State) (a0 : Array Value) (hw : ∀ d ∈ tables_1, d.before a0 Z = true) (ws : List Jvm.Cond) (a1 : Addr) (kC : ClassId) (c0 : Int32) (h0 : Heap) (n0 : Nat) (O0 : Old Z n0 h0) (VC : Arv Z h0 a1 kC .char (1 : Int32) [(.int c0)] (.int (0 : Int32))) (hc0 : ¬ (255 : Int32) < c0) :
    MetFree l (⟨"java/lang/StringUTF16", "compress", "([CII)[B"⟩ : MethodName) (head1 (Jvm.Cond.code (⟨"java/lang/StringUTF16", "compress", "([CII)[B"⟩ : MethodName) jdk_52_method_16_code 6 (some (.array .byte)) :: ws) ({ frames := 1, cells := 1, slots := 1, locals := 18 } : Room)) (fun a U => a = #[(.ref a1), (.int (0 : Int32)), (.int (1 : Int32))] ∧ Z.Warmed39 U.vm ∧ U.heap = h0) (fun _ _ _ _ _ => True) (fun _ U o U' => ∃ v L, o = .returned v ∧ Q_cmpb1 Z a1 kC c0 h0 n0 v U'.heap L ∧ FrameEnd U o U' L ({ frames := 1, cells := 1, slots := 1, locals := 18 } : Room).cells ({ frames := 1, cells := 1, slots := 1, locals := 18 } : Room).slots) := by
  refine MetFree.of_bodySF (plainFor_of_name pn_cmpb1) hisR ?_
  intro p e s m args below meth c s₁ Bd hml0 hP hK
  obtain ⟨rfl, hZ, hh⟩ := hP
  have hx := Bd.exec
  have hby := Bd.bytes
  have hml : c.maxLocals = 6 := hml0
  have hown : s.vm.findClass "java/lang/StringUTF16" = some m.cls := findClass_of_methodNamed Bd.named
  have hnm := (name_of_methodNamed Bd.named Bd.method).1
  have X0 : Stand p l e ({ frames := 1, cells := 1, slots := 1, locals := 18 } : Room) s m #[(.ref a1), (.int (0 : Int32)), (.int (1 : Int32))] below meth c s₁ [] 0 0 := Stand.of_body Bd
  have e0 : s₁.heap = h0 := by rw [← hh, Bd.state]; rfl
  have N0 := Fr.nil n0
  have pre0 : ∀ t, Steps p.tables e below (s₁.setTop (mkF m 0 #[.val (.ref a1), .val (.int (0 : Int32)), .val (.int (1 : Int32)), .unset, .unset, .unset] [])) t → Steps p.tables e below (s₁.setTop (entryFrame m #[(.ref a1), (.int (0 : Int32)), (.int (1 : Int32))] 6)) t := fun t k => castTop (ef_cmpb1 m a1) k
  generalize s₁.setTop (entryFrame m #[(.ref a1), (.int (0 : Int32)), (.int (1 : Int32))] 6) = E0 at pre0 ⊢
  have pre_1 : ∀ t, Sp p e below s₁ (mkF m 1 #[.val (.ref a1), .val (.int (0 : Int32)), .val (.int (1 : Int32)), .unset, .unset, .unset] [(.int (1 : Int32))]) t → Steps p.tables e below E0 t := by
    intro t k
    refine pre0 t ?_
    show Sp p e below s₁ (mkF m 0 #[.val (.ref a1), .val (.int (0 : Int32)), .val (.int (1 : Int32)), .unset, .unset, .unset] []) _
    refine XS.iloadN X0.here hx rfl (hb hby d_jdk_52_16_0) rfl ?_
    exact k
  obtain ⟨T2, h2, cA2, X2, e2, E2, A2, st2⟩ := newP X0 hx hZ (own_w hw 19 rfl) e0 (g := (mkF m 1 #[.val (.ref a1), .val (.int (0 : Int32)), .val (.int (1 : Int32)), .unset, .unset, .unset] [(.int (1 : Int32))])) rfl (hb hby d_jdk_52_16_1) rfl (by decide) (cap := 1) (by decide) (by decide) (by decide) (by decide)
  obtain ⟨b2, g2⟩ : ∃ z, z = h0.size := ⟨_, rfl⟩
  rw [← g2] at A2 st2
  have O2 : Old Z n0 h2 := O0.ext E2
  have V2 : Arv Z h2 b2 cA2 .byte (1 : Int32) [(.int (0 : Int32))] (.int (0 : Int32)) := (Arv.new A2 (by decide)).pad (pad_rep [] _ 1)
  have pre_3 : ∀ t, Sp p e below T2 (mkF m 3 #[.val (.ref a1), .val (.int (0 : Int32)), .val (.int (1 : Int32)), .unset, .unset, .unset] [(.ref b2)]) t → Steps p.tables e below E0 t := fun t k => pre_1 t (st2 t k)
  have pre_4 : ∀ t, Sp p e below T2 (mkF m 9 #[.val (.ref a1), .val (.int (0 : Int32)), .val (.int (1 : Int32)), .val (.ref b2), .unset, .unset] [(.int (1 : Int32)), (.int (0 : Int32)), (.ref b2), (.int (0 : Int32)), (.ref a1)]) t → Steps p.tables e below E0 t := by
    intro t k
    refine pre_3 t ?_
    show Sp p e below T2 (mkF m 3 #[.val (.ref a1), .val (.int (0 : Int32)), .val (.int (1 : Int32)), .unset, .unset, .unset] [(.ref b2)]) _
    refine XS.astoreN X2.here hx rfl (hb hby d_jdk_52_16_3) rfl rfl (l' := #[.val (.ref a1), .val (.int (0 : Int32)), .val (.int (1 : Int32)), .val (.ref b2), .unset, .unset]) rfl ?_
    refine XS.aloadN X2.here hx rfl (hb hby d_jdk_52_16_4) rfl rfl ?_
    refine XS.iloadN X2.here hx rfl (hb hby d_jdk_52_16_5) rfl ?_
    show Sp p e below T2 (mkF m 6 #[.val (.ref a1), .val (.int (0 : Int32)), .val (.int (1 : Int32)), .val (.ref b2), .unset, .unset] [(.int (0 : Int32)), (.ref a1)]) _
    refine XS.aloadN X2.here hx rfl (hb hby d_jdk_52_16_6) rfl rfl ?_
    refine XS.iconst X2.here hx rfl (hb hby d_jdk_52_16_7) ?_
    refine XS.iloadN X2.here hx rfl (hb hby d_jdk_52_16_8) rfl ?_
    exact k
  obtain ⟨_, _, ⟨T5, L5, k5, n5⟩, -, X5, ⟨Lc5, hQ5, l5, y5, z5⟩, st5⟩ := Jvm.LawKit.callS X2 hx (y := (⟨"java/lang/StringUTF16", "compress", "([CI[BII)I"⟩ : MethodName)) hown (mvT hZ (own_w hw 34 rfl)) (mvT hZ (own_w hw 35 rfl)) (mvT hZ (own_w hw 32 rfl)) (mvT hZ (own_w hw 36 rfl)) (by decide) (backOf (W := 0) (rm_cmpa1 l Z a0 hw [] a1 b2 kC cA2 c0 h2 n0 O2 (VC.ext E2) V2 (Nat.le_trans (own_le O0) (Nat.le_of_eq g2.symm)) (Nat.ne_of_lt (Nat.lt_of_lt_of_le VC.lt (Nat.le_of_eq g2.symm))) hc0) hZ (own_w hw 36 rfl) (own_w hw 32 rfl) (by decide) (by decide)) (g := (mkF m 9 #[.val (.ref a1), .val (.int (0 : Int32)), .val (.int (1 : Int32)), .val (.ref b2), .unset, .unset] [(.int (1 : Int32)), (.int (0 : Int32)), (.ref b2), (.int (0 : Int32)), (.ref a1)])) rfl (by rw [hml]; rfl) (argsL := [(.ref a1), (.int (0 : Int32)), (.ref b2), (.int (0 : Int32)), (.int (1 : Int32))]) (rest := []) (lenOf pd_cmpb1_0 rfl) rfl (by show 2 * 0 + _ ≤ _; exact Nat.le_of_eq rfl) (hb hby d_jdk_52_16_9) (fun _ _ => ⟨rfl, e2, (by decide : 1 + 0 ≤ _), (by decide : 1 + 0 ≤ _)⟩)
  dsimp only [Pt.U, Pt.locs, Pt.cells, Pt.slots] at X5 l5 y5 z5 st5 hQ5
  subst l5 y5 z5
  obtain ⟨rfl, N5q, K5, Vb5⟩ := hQ5
  have N5 := Fr.app N0 N5q
  have O5 : Old Z n0 T5.heap := O2.keep K5 (allS (Nat.le_trans (own_le O0) (Nat.le_of_eq g2.symm)) all0)
  have pre_6 : ∀ t, Sp p e below T5 (mkF m 12 #[.val (.ref a1), .val (.int (0 : Int32)), .val (.int (1 : Int32)), .val (.ref b2), .unset, .unset] [(.int (1 : Int32))]) t → Steps p.tables e below E0 t := fun t k => pre_4 t (st5 t k)
  have pre_7 : ∀ t, Sp p e below T5 (mkF m 58 #[.val (.ref a1), .val (.int (0 : Int32)), .val (.int (1 : Int32)), .val (.ref b2), .val (.int (1 : Int32)), .unset] [(.ref b2)]) t → Steps p.tables e below E0 t := by
    intro t k
    refine pre_6 t ?_
    show Sp p e below T5 (mkF m 12 #[.val (.ref a1), .val (.int (0 : Int32)), .val (.int (1 : Int32)), .val (.ref b2), .unset, .unset] [(.int (1 : Int32))]) _
    refine XS.istore X5.here hx rfl (hb hby d_jdk_52_16_12) rfl (l' := #[.val (.ref a1), .val (.int (0 : Int32)), .val (.int (1 : Int32)), .val (.ref b2), .val (.int (1 : Int32)), .unset]) rfl ?_
    show Sp p e below T5 (mkF m 14 #[.val (.ref a1), .val (.int (0 : Int32)), .val (.int (1 : Int32)), .val (.ref b2), .val (.int (1 : Int32)), .unset] []) _
    refine XS.iload X5.here hx rfl (hb hby d_jdk_52_16_14) rfl ?_
    refine XS.iloadN X5.here hx rfl (hb hby d_jdk_52_16_16) rfl ?_
    refine XS.icmpYes X5.here hx rfl (pc0 := 17) (pc' := 57) rfl (hb hby d_jdk_52_16_17) rfl (XT.ii_eq_t (by decide)) (by decide) (by decide) ?_
    refine XS.aloadN X5.here hx rfl (hb hby d_jdk_52_16_57) rfl rfl ?_
    show Sp p e below T5 (mkF m 58 #[.val (.ref a1), .val (.int (0 : Int32)), .val (.int (1 : Int32)), .val (.ref b2), .val (.int (1 : Int32)), .unset] [(.ref b2)]) _
    exact k
  obtain ⟨fs, hr, hrun, hended, hW, hsame⟩ := X5.leave (v := some (.ref b2)) (fun h => by rw [Bd.returns] at h; cases h)
  refine ⟨_, _, pre_7 _ ?_, hrun, hended, _, _, rfl, ?_, ⟨_, rfl⟩, hW, hsame.mono (by decide) (by decide)⟩
  · show Sp p e below T5 (mkF m 58 #[.val (.ref a1), .val (.int (0 : Int32)), .val (.int (1 : Int32)), .val (.ref b2), .val (.int (1 : Int32)), .unset] [(.ref b2)]) _
    exact retOut X5 hx (t := (.array .byte)) Bd.returns rfl (Or.inr (Or.inr (Or.inr (Or.inr ⟨rfl, rfl, rfl⟩)))) (hb hby d_jdk_52_16_58) hr
  · show Q_cmpb1 Z _ _ _ h0 n0 _ T5.heap _
    exact ⟨b2, cA2, rfl, N5, (((Keep.refl h0 []).ext E2).trans K5 (allS (Or.inr (Nat.le_trans (Keep.refl h0 []).1 (Nat.le_of_eq g2.symm))) all0)), (Nat.le_trans (Keep.refl h0 []).1 (Nat.le_of_eq g2.symm)), Vb5⟩
theorem d_jdk_52_15_0 : decode jdk_52_method_15_code 0 = .ok (.iload_n 1, 1) := by decide +kernel
theorem d_jdk_52_15_1 : decode jdk_52_method_15_code 1 = .ok (.aload_n 0, 1) := by decide +kernel
theorem d_jdk_52_15_2 : decode jdk_52_method_15_code 2 = .ok (.arraylength, 1) := by decide +kernel
theorem d_jdk_52_15_3 : decode jdk_52_method_15_code 3 = .ok (.isub, 1) := by decide +kernel
theorem d_jdk_52_15_4 : decode jdk_52_method_15_code 4 = .ok (.bipush 31, 2) := by decide +kernel
theorem d_jdk_52_15_6 : decode jdk_52_method_15_code 6 = .ok (.iushr, 1) := by decide +kernel
theorem d_jdk_52_15_7 : decode jdk_52_method_15_code 7 = .ok (.i2b, 1) := by decide +kernel
theorem d_jdk_52_15_8 : decode jdk_52_method_15_code 8 = .ok (.ireturn, 1) := by decide +kernel
theorem pn_cfa1 : plainName "java/lang/StringUTF16" = true := by first | (simp [plainName, overriddenIn]; done) | decide +kernel
theorem ef_cfa1 (m : MethodId) (a1 : Addr) : entryFrame m #[(.ref a1), (.int (1 : Int32))] 2 = (mkF m 0 #[.val (.ref a1), .val (.int (1 : Int32))] []) := by first | (simp [entryFrame, mkF, argsToLocals, Value.category]; done) | rfl
def Q_cfa1 (Z : State) (a1 : Addr) (kB : ClassId) (c0 : Int32) (h0 : Heap) (n0 : Nat) (v : Option Value) (h : Heap) (L : List Loc) : Prop := v = some (.int (0 : Int32)) ∧ Fr n0 L ∧ h = h0
set_option maxRecDepth 65536 in
set_option maxHeartbeats 40000000 in
theorem rm_cfa1 (l : Launch) (Z : State) (a0 : Array Value) (hw : ∀ d ∈ tables_1, d.before a0 Z = true) (ws : List Jvm.Cond) (a1 : Addr) (kB : ClassId) (c0 : Int32) (h0 : Heap) (n0 : Nat) (O0 : Old Z n0 h0) (VB : Arv Z h0 a1 kB .byte (1 : Int32) [(.int (c0).toInt8.toInt32)] (.int (0 : Int32))) :
    MetFree l (⟨"java/lang/StringUTF16", "coderFromArrayLen", "([BI)B"⟩ : MethodName) (head1 (Jvm.Cond.code (⟨"java/lang/StringUTF16", "coderFromArrayLen", "([BI)B"⟩ : MethodName) jdk_52_method_15_code 2 (some .byte) :: ws) ({ frames := 0, cells := 0, slots := 0, locals := 0 } : Room)) (fun a U => a = #[(.ref a1), (.int (1 : Int32))] ∧ Z.Warmed39 U.vm ∧ U.heap = h0) (fun _ _ _ _ _ => True) (fun _ U o U' => ∃ v L, o = .returned v ∧ Q_cfa1 Z a1 kB c0 h0 n0 v U'.heap L ∧ FrameEnd U o U' L ({ frames := 0, cells := 0, slots := 0, locals := 0 } : Room).cells ({ frames := 0, cells := 0, slots := 0, locals := 0 } : Room).slots) := by
  refine MetFree.of_bodySF (plainFor_of_name pn_cfa1) hisR ?_
  intro p e s m args below meth c s₁ Bd hml0 hP hK
  obtain ⟨rfl, hZ, hh⟩ := hP
  have hx := Bd.exec
  have hby := Bd.bytes
  have hml : c.maxLocals = 2 := hml0
  have hown : s.vm.findClass "java/lang/StringUTF16" = some m.cls := findClass_of_methodNamed Bd.named
  have hnm := (name_of_methodNamed Bd.named Bd.method).1
  have X0 : Stand p l e ({ frames := 0, cells := 0, slots := 0, locals := 0 } : Room) s m #[(.ref a1), (.int (1 : Int32))] below meth c s₁ [] 0 0 := Stand.of_body Bd
  have e0 : s₁.heap = h0 := by rw [← hh, Bd.state]; rfl
  have N0 := Fr.nil n0
  have pre0 : ∀ t, Steps p.tables e below (s₁.setTop (mkF m 0 #[.val (.ref a1), .val (.int (1 : Int32))] [])) t → Steps p.tables e below (s₁.setTop (entryFrame m #[(.ref a1), (.int (1 : Int32))] 2)) t := fun t k => castTop (ef_cfa1 m a1) k
  generalize s₁.setTop (entryFrame m #[(.ref a1), (.int (1 : Int32))] 2) = E0 at pre0 ⊢
  have pre_2 : ∀ t, Sp p e below s₁ (mkF m 8 #[.val (.ref a1), .val (.int (1 : Int32))] [(.int (0 : Int32))]) t → Steps p.tables e below E0 t := by
    intro t k
    refine pre0 t ?_
    show Sp p e below s₁ (mkF m 0 #[.val (.ref a1), .val (.int (1 : Int32))] []) _
    refine XS.iloadN X0.here hx rfl (hb hby d_jdk_52_15_0) rfl ?_
    refine XS.aloadN X0.here hx rfl (hb hby d_jdk_52_15_1) rfl rfl ?_
    obtain ⟨cl1, Ar1, -, S1, M1, -, -⟩ := id VB
    refine X0.arraylength hx (cell := cl1) (by rw [e0]; exact Ar1.1) (State.isArrayOf_alike hZ.alike Ar1.2.1) (g := (mkF m 2 #[.val (.ref a1), .val (.int (1 : Int32))] [(.ref a1), (.int (1 : Int32))])) rfl (rest := [(.int (1 : Int32))]) rfl (hb hby d_jdk_52_15_2) _ ?_
    rw [len_of S1 M1]
    show Sp p e below s₁ (mkF m 3 #[.val (.ref a1), .val (.int (1 : Int32))] [(.int (1 : Int32)), (.int (1 : Int32))]) _
    refine XS.isub X0.here hx rfl (hb hby d_jdk_52_15_3) rfl ?_
    refine XS.bipush X0.here hx rfl (hb hby d_jdk_52_15_4) ?_
    show Sp p e below s₁ (mkF m 6 #[.val (.ref a1), .val (.int (1 : Int32))] [(.int (31 : Int32)), (.int (0 : Int32))]) _
    refine XT.iushr X0.here hx rfl (hb hby d_jdk_52_15_6) rfl ?_
    refine XT.i2b X0.here hx rfl (hb hby d_jdk_52_15_7) rfl ?_
    exact k
  obtain ⟨fs, hr, hrun, hended, hW, hsame⟩ := X0.leave (v := some (.int (0 : Int32))) (fun h => by rw [Bd.returns] at h; cases h)
  refine ⟨_, _, pre_2 _ ?_, hrun, hended, _, _, rfl, ?_, ⟨_, rfl⟩, hW, hsame.mono (by decide) (by decide)⟩
  · show Sp p e below s₁ (mkF m 8 #[.val (.ref a1), .val (.int (1 : Int32))] [(.int (0 : Int32))]) _
    exact retN X0 hx (t := .byte) Bd.returns (by simp) (hb hby d_jdk_52_15_8) hr
  · show Q_cfa1 Z _ _ _ h0 n0 _ s₁.heap _
    rw [e0]
    exact ⟨rfl, N0, rfl⟩
theorem d_jdk_42_149_0 : decode jdk_42_method_149_code 0 = .ok (.aload_n 0, 1) := by decide +kernel
theorem d_jdk_42_149_1 : decode jdk_42_method_149_code 1 = .ok (.invokespecial 1, 3) := by decide +kernel
theorem d_jdk_42_149_4 : decode jdk_42_method_149_code 4 = .ok (.iload_n 3, 1) := by decide +kernel
theorem d_jdk_42_149_5 : decode jdk_42_method_149_code 5 = .ok (.ifCond .ne 22, 3) := by decide +kernel
theorem d_jdk_42_149_27 : decode jdk_42_method_149_code 27 = .ok (.getstatic 38, 3) := by decide +kernel
theorem d_jdk_42_149_30 : decode jdk_42_method_149_code 30 = .ok (.ifCond .eq 28, 3) := by decide +kernel
theorem d_jdk_42_149_33 : decode jdk_42_method_149_code 33 = .ok (.aload_n 1, 1) := by decide +kernel
theorem d_jdk_42_149_34 : decode jdk_42_method_149_code 34 = .ok (.iload_n 2, 1) := by decide +kernel
theorem d_jdk_42_149_35 : decode jdk_42_method_149_code 35 = .ok (.iload_n 3, 1) := by decide +kernel
theorem d_jdk_42_149_36 : decode jdk_42_method_149_code 36 = .ok (.invokestatic 177, 3) := by decide +kernel
theorem d_jdk_42_149_39 : decode jdk_42_method_149_code 39 = .ok (.astore 5, 2) := by decide +kernel
theorem d_jdk_42_149_41 : decode jdk_42_method_149_code 41 = .ok (.aload_n 0, 1) := by decide +kernel
theorem d_jdk_42_149_42 : decode jdk_42_method_149_code 42 = .ok (.aload 5, 2) := by decide +kernel
theorem d_jdk_42_149_44 : decode jdk_42_method_149_code 44 = .ok (.iload_n 3, 1) := by decide +kernel
theorem d_jdk_42_149_45 : decode jdk_42_method_149_code 45 = .ok (.invokestatic 47, 3) := by decide +kernel
theorem d_jdk_42_149_48 : decode jdk_42_method_149_code 48 = .ok (.putfield 15, 3) := by decide +kernel
theorem d_jdk_42_149_51 : decode jdk_42_method_149_code 51 = .ok (.aload_n 0, 1) := by decide +kernel
theorem d_jdk_42_149_52 : decode jdk_42_method_149_code 52 = .ok (.aload 5, 2) := by decide +kernel
theorem d_jdk_42_149_54 : decode jdk_42_method_149_code 54 = .ok (.putfield 9, 3) := by decide +kernel
theorem d_jdk_42_149_57 : decode jdk_42_method_149_code 57 = .ok (.return_, 1) := by decide +kernel
theorem pn_sti1 : plainName "java/lang/String" = true := by first | (simp [plainName, overriddenIn]; done) | decide +kernel
theorem pd_sti1_0 : parseMethodDescriptor "([CII)[B" = some ⟨[(.array .char), .int, .int], some (.array .byte)⟩ := by decide +kernel
theorem pd_sti1_1 : parseMethodDescriptor "([BI)B" = some ⟨[(.array .byte), .int], some .byte⟩ := by decide +kernel
theorem ef_sti1 (m : MethodId) (a1 : Addr) (a2 : Addr) : entryFrame m #[(.ref a1), (.ref a2), (.int (0 : Int32)), (.int (1 : Int32)), .null] 6 = (mkF m 0 #[.val (.ref a1), .val (.ref a2), .val (.int (0 : Int32)), .val (.int (1 : Int32)), .val .null, .unset] []) := by first | (simp [entryFrame, mkF, argsToLocals, Value.category]; done) | rfl
def Q_sti1 (Z : State) (a1 : Addr) (a2 : Addr) (u1 u2 : Value) (G1 : Int32) (kC : ClassId) (c0 : Int32) (h0 : Heap) (n0 : Nat) (v : Option Value) (h : Heap) (L : List Loc) : Prop := v = none ∧ Fr n0 L ∧ Keep h0 h [a1] ∧ Fld Z h a1 "java/lang/String" "coder" "B" (.int (0 : Int32)) ∧ ∃ b kB, h0.size ≤ b ∧ Fld Z h a1 "java/lang/String" "value" "[B" (.ref b) ∧ Arv Z h b kB .byte (1 : Int32) [(.int (c0).toInt8.toInt32)] (.int (0 : Int32))
set_option maxRecDepth 65536 in
set_option maxHeartbeats 40000000 in
theorem rm_sti1 (l : Launch) (Z : State) (a0 : Array Value) (hw : ∀ d ∈ tables_1, d.before a0 Z = true) (ws : List Jvm.Cond) (a1 : Addr) (a2 : Addr) (u1 u2 : Value) (G1 : Int32) (kC : ClassId) (c0 : Int32) (h0 : Heap) (n0 : Nat) (O0 : Old Z n0 h0) (E1 : Exa Z h0 a1 "java/lang/String") (F1 : Fld Z h0 a1 "java/lang/String" "value" "[B" u1) (F2 : Fld Z h0 a1 "java/lang/String" "coder" "B" u2) (g1 : n0 ≤ a1) (SC : Sta Z Z.heap "java/lang/String" "COMPACT_STRINGS" "Z" (.int G1)) (hG : ¬ G1 = (0 : Int32)) (VC : Arv Z h0 a2 kC .char (1 : Int32) [(.int c0)] (.int (0 : Int32))) (hc0 : ¬ (255 : Int32) < c0) :
    MetFree l (⟨"java/lang/String", "<init>", "([CIILjava/lang/Void;)V"⟩ : MethodName) (head1 (Jvm.Cond.code (⟨"java/lang/String", "<init>", "([CIILjava/lang/Void;)V"⟩ : MethodName) jdk_42_method_149_code 6 none :: ws) ({ frames := 2, cells := 1, slots := 1, locals := 36 } : Room)) (fun a U => a = #[(.ref a1), (.ref a2), (.int (0 : Int32)), (.int (1 : Int32)), .null] ∧ Z.Warmed39 U.vm ∧ U.heap = h0) (fun _ _ _ _ _ => True) (fun _ U o U' => ∃ v L, o = .returned v ∧ Q_sti1 Z a1 a2 u1 u2 G1 kC c0 h0 n0 v U'.heap L ∧ FrameEnd U o U' L ({ frames := 2, cells := 1, slots := 1, locals := 36 } : Room).cells ({ frames := 2, cells := 1, slots := 1, locals := 36 } : Room).slots) := by
  refine MetFree.of_bodySF (plainFor_of_name pn_sti1) hisR ?_
  intro p e s m args below meth c s₁ Bd hml0 hP hK
  obtain ⟨rfl, hZ, hh⟩ := hP
  have hx := Bd.exec
  have hby := Bd.bytes
  have hml : c.maxLocals = 6 := hml0
  have hown : s.vm.findClass "java/lang/String" = some m.cls := findClass_of_methodNamed Bd.named
  have hnm := (name_of_methodNamed Bd.named Bd.method).1
  have X0 : Stand p l e ({ frames := 2, cells := 1, slots := 1, locals := 36 } : Room) s m #[(.ref a1), (.ref a2), (.int (0 : Int32)), (.int (1 : Int32)), .null] below meth c s₁ [] 0 0 := Stand.of_body Bd
  have e0 : s₁.heap = h0 := by rw [← hh, Bd.state]; rfl
  have N0 := Fr.nil n0
  have pre0 : ∀ t, Steps p.tables e below (s₁.setTop (mkF m 0 #[.val (.ref a1), .val (.ref a2), .val (.int (0 : Int32)), .val (.int (1 : Int32)), .val .null, .unset] [])) t → Steps p.tables e below (s₁.setTop (entryFrame m #[(.ref a1), (.ref a2), (.int (0 : Int32)), (.int (1 : Int32)), .null] 6)) t := fun t k => castTop (ef_sti1 m a1 a2) k
  generalize s₁.setTop (entryFrame m #[(.ref a1), (.ref a2), (.int (0 : Int32)), (.int (1 : Int32)), .null] 6) = E0 at pre0 ⊢
  have pre_1 : ∀ t, Sp p e below s₁ (mkF m 1 #[.val (.ref a1), .val (.ref a2), .val (.int (0 : Int32)), .val (.int (1 : Int32)), .val .null, .unset] [(.ref a1)]) t → Steps p.tables e below E0 t := by
    intro t k
    refine pre0 t ?_
    show Sp p e below s₁ (mkF m 0 #[.val (.ref a1), .val (.ref a2), .val (.int (0 : Int32)), .val (.int (1 : Int32)), .val .null, .unset] []) _
    refine XS.aloadN X0.here hx rfl (hb hby d_jdk_42_149_0) rfl rfl ?_
    exact k
  obtain ⟨T2, X2, e2, st2⟩ := initO X0 hx hZ hown (own_w hw 15 rfl) (own_w hw 16 rfl) (own_w hw 17 rfl) e0 (g := (mkF m 1 #[.val (.ref a1), .val (.ref a2), .val (.int (0 : Int32)), .val (.int (1 : Int32)), .val .null, .unset] [(.ref a1)])) rfl (by rw [hml]; rfl) rfl (hb hby d_jdk_42_149_1) (by decide) (W := 0) (by show 2 * 0 + _ ≤ _; exact Nat.le_of_eq rfl) (by decide)
  have pre_3 : ∀ t, Sp p e below T2 (mkF m 4 #[.val (.ref a1), .val (.ref a2), .val (.int (0 : Int32)), .val (.int (1 : Int32)), .val .null, .unset] []) t → Steps p.tables e below E0 t := fun t k => pre_1 t (st2 t k)
  have pre_4 : ∀ t, Sp p e below T2 (mkF m 27 #[.val (.ref a1), .val (.ref a2), .val (.int (0 : Int32)), .val (.int (1 : Int32)), .val .null, .unset] []) t → Steps p.tables e below E0 t := by
    intro t k
    refine pre_3 t ?_
    show Sp p e below T2 (mkF m 4 #[.val (.ref a1), .val (.ref a2), .val (.int (0 : Int32)), .val (.int (1 : Int32)), .val .null, .unset] []) _
    refine XS.iloadN X2.here hx rfl (hb hby d_jdk_42_149_4) rfl ?_
    refine XS.ifYes X2.here hx rfl (pc0 := 5) (pc' := 27) rfl (hb hby d_jdk_42_149_5) rfl (XT.i0_ne_t (by decide)) (by decide) (by decide) ?_
    exact k
  obtain ⟨T5, X5, e5, st5⟩ := getS X2 hx hZ hown (host := "") (own_w hw 29 rfl) Via.refl e2 (SC.ext O0.2) (g := (mkF m 27 #[.val (.ref a1), .val (.ref a2), .val (.int (0 : Int32)), .val (.int (1 : Int32)), .val .null, .unset] [])) rfl (hb hby d_jdk_42_149_27)
  have pre_6 : ∀ t, Sp p e below T5 (mkF m 30 #[.val (.ref a1), .val (.ref a2), .val (.int (0 : Int32)), .val (.int (1 : Int32)), .val .null, .unset] [(.int G1)]) t → Steps p.tables e below E0 t := fun t k => pre_4 t (st5 t k)
  have pre_7 : ∀ t, Sp p e below T5 (mkF m 36 #[.val (.ref a1), .val (.ref a2), .val (.int (0 : Int32)), .val (.int (1 : Int32)), .val .null, .unset] [(.int (1 : Int32)), (.int (0 : Int32)), (.ref a2)]) t → Steps p.tables e below E0 t := by
    intro t k
    refine pre_6 t ?_
    show Sp p e below T5 (mkF m 30 #[.val (.ref a1), .val (.ref a2), .val (.int (0 : Int32)), .val (.int (1 : Int32)), .val .null, .unset] [(.int G1)]) _
    refine XS.ifNo X5.here hx rfl (hb hby d_jdk_42_149_30) rfl (XT.i0_eq_f hG) ?_
    show Sp p e below T5 (mkF m 33 #[.val (.ref a1), .val (.ref a2), .val (.int (0 : Int32)), .val (.int (1 : Int32)), .val .null, .unset] []) _
    refine XS.aloadN X5.here hx rfl (hb hby d_jdk_42_149_33) rfl rfl ?_
    refine XS.iloadN X5.here hx rfl (hb hby d_jdk_42_149_34) rfl ?_
    refine XS.iloadN X5.here hx rfl (hb hby d_jdk_42_149_35) rfl ?_
    exact k
  obtain ⟨_, _, ⟨T8, L8, k8, n8⟩, -, X8, ⟨Lc8, hQ8, l8, y8, z8⟩, st8⟩ := Jvm.LawKit.callS X5 hx (y := (⟨"java/lang/StringUTF16", "compress", "([CII)[B"⟩ : MethodName)) hown (mvT hZ (own_w hw 30 rfl)) (mvT hZ (own_w hw 31 rfl)) (mvT hZ (own_w hw 32 rfl)) (mvT hZ (own_w hw 33 rfl)) (by decide) (backOf (W := 0) (rm_cmpb1 l Z a0 hw [] a2 kC c0 h0 n0 O0 VC hc0) hZ (own_w hw 33 rfl) (own_w hw 32 rfl) (by decide) (by decide)) (g := (mkF m 36 #[.val (.ref a1), .val (.ref a2), .val (.int (0 : Int32)), .val (.int (1 : Int32)), .val .null, .unset] [(.int (1 : Int32)), (.int (0 : Int32)), (.ref a2)])) rfl (by rw [hml]; rfl) (argsL := [(.ref a2), (.int (0 : Int32)), (.int (1 : Int32))]) (rest := []) (lenOf pd_sti1_0 rfl) rfl (by show 2 * 0 + _ ≤ _; exact Nat.le_of_eq rfl) (hb hby d_jdk_42_149_36) (fun _ _ => ⟨rfl, e5, (by decide : 0 + 1 ≤ _), (by decide : 0 + 1 ≤ _)⟩)
  dsimp only [Pt.U, Pt.locs, Pt.cells, Pt.slots] at X8 l8 y8 z8 st8 hQ8
  subst l8 y8 z8
  obtain ⟨b8, kB8, rfl, N8q, K8, sb8, Vb8⟩ := hQ8
  have N8 := Fr.app N0 N8q
  have O8 : Old Z n0 T8.heap := O0.keep K8 all0
  have pre_9 : ∀ t, Sp p e below T8 (mkF m 39 #[.val (.ref a1), .val (.ref a2), .val (.int (0 : Int32)), .val (.int (1 : Int32)), .val .null, .unset] [(.ref b8)]) t → Steps p.tables e below E0 t := fun t k => pre_7 t (st8 t k)
  have pre_10 : ∀ t, Sp p e below T8 (mkF m 45 #[.val (.ref a1), .val (.ref a2), .val (.int (0 : Int32)), .val (.int (1 : Int32)), .val .null, .val (.ref b8)] [(.int (1 : Int32)), (.ref b8), (.ref a1)]) t → Steps p.tables e below E0 t := by
    intro t k
    refine pre_9 t ?_
    show Sp p e below T8 (mkF m 39 #[.val (.ref a1), .val (.ref a2), .val (.int (0 : Int32)), .val (.int (1 : Int32)), .val .null, .unset] [(.ref b8)]) _
    refine XS.astore X8.here hx rfl (hb hby d_jdk_42_149_39) rfl rfl (l' := #[.val (.ref a1), .val (.ref a2), .val (.int (0 : Int32)), .val (.int (1 : Int32)), .val .null, .val (.ref b8)]) rfl ?_
    show Sp p e below T8 (mkF m 41 #[.val (.ref a1), .val (.ref a2), .val (.int (0 : Int32)), .val (.int (1 : Int32)), .val .null, .val (.ref b8)] []) _
    refine XS.aloadN X8.here hx rfl (hb hby d_jdk_42_149_41) rfl rfl ?_
    refine XS.aload X8.here hx rfl (hb hby d_jdk_42_149_42) rfl rfl ?_
    refine XS.iloadN X8.here hx rfl (hb hby d_jdk_42_149_44) rfl ?_
    exact k
  obtain ⟨_, _, ⟨T11, L11, k11, n11⟩, -, X11, ⟨Lc11, hQ11, l11, y11, z11⟩, st11⟩ := Jvm.LawKit.callS X8 hx (y := (⟨"java/lang/StringUTF16", "coderFromArrayLen", "([BI)B"⟩ : MethodName)) hown (mvT hZ (own_w hw 37 rfl)) (mvT hZ (own_w hw 38 rfl)) (mvT hZ (own_w hw 32 rfl)) (mvT hZ (own_w hw 39 rfl)) (by decide) (backOf (W := 1) (rm_cfa1 l Z a0 hw [] b8 kB8 c0 T8.heap n0 O8 Vb8) hZ (own_w hw 39 rfl) (own_w hw 32 rfl) (by decide) (by decide)) (g := (mkF m 45 #[.val (.ref a1), .val (.ref a2), .val (.int (0 : Int32)), .val (.int (1 : Int32)), .val .null, .val (.ref b8)] [(.int (1 : Int32)), (.ref b8), (.ref a1)])) rfl (by rw [hml]; rfl) (argsL := [(.ref b8), (.int (1 : Int32))]) (rest := [(.ref a1)]) (lenOf pd_sti1_1 rfl) rfl (by show 2 * 0 + _ ≤ _; exact Nat.le_of_eq rfl) (hb hby d_jdk_42_149_45) (fun _ _ => ⟨rfl, rfl, (by decide : 1 + 0 ≤ _), (by decide : 1 + 0 ≤ _)⟩)
  dsimp only [Pt.U, Pt.locs, Pt.cells, Pt.slots] at X11 l11 y11 z11 st11 hQ11
  subst l11 y11 z11
  obtain ⟨rfl, N11q, e11⟩ := hQ11
  have N11 := Fr.app N8 N11q
  have pre_12 : ∀ t, Sp p e below T11 (mkF m 48 #[.val (.ref a1), .val (.ref a2), .val (.int (0 : Int32)), .val (.int (1 : Int32)), .val .null, .val (.ref b8)] [(.int (0 : Int32)), (.ref a1)]) t → Steps p.tables e below E0 t := fun t k => pre_10 t (st11 t k)
  obtain ⟨T13, h13, X13, e13, W13, st13⟩ := putF X11 hx hZ hown (host := "") (Or.inl (own_w hw 25 rfl)) Via.refl e11 (F2.keep K8 nin0) (E1.keep K8) (Or.inr ⟨(own_w hw 21 rfl), rfl, hnm⟩) (own_w hw 5 rfl) (ty := .byte) (by decide) rfl rfl (g := (mkF m 48 #[.val (.ref a1), .val (.ref a2), .val (.int (0 : Int32)), .val (.int (1 : Int32)), .val .null, .val (.ref b8)] [(.int (0 : Int32)), (.ref a1)])) rfl rfl (hb hby d_jdk_42_149_48)
  have Fw13 := (F2.keep K8 nin0).same W13
  have N13 := Fr.snoc X13 N11 g1
  have O13 : Old Z n0 h13 := O8.wr W13 g1
  have pre_14 : ∀ t, Sp p e below T13 (mkF m 51 #[.val (.ref a1), .val (.ref a2), .val (.int (0 : Int32)), .val (.int (1 : Int32)), .val .null, .val (.ref b8)] []) t → Steps p.tables e below E0 t := fun t k => pre_12 t (st13 t k)
  have pre_15 : ∀ t, Sp p e below T13 (mkF m 54 #[.val (.ref a1), .val (.ref a2), .val (.int (0 : Int32)), .val (.int (1 : Int32)), .val .null, .val (.ref b8)] [(.ref b8), (.ref a1)]) t → Steps p.tables e below E0 t := by
    intro t k
    refine pre_14 t ?_
    show Sp p e below T13 (mkF m 51 #[.val (.ref a1), .val (.ref a2), .val (.int (0 : Int32)), .val (.int (1 : Int32)), .val .null, .val (.ref b8)] []) _
    refine XS.aloadN X13.here hx rfl (hb hby d_jdk_42_149_51) rfl rfl ?_
    show Sp p e below T13 (mkF m 52 #[.val (.ref a1), .val (.ref a2), .val (.int (0 : Int32)), .val (.int (1 : Int32)), .val .null, .val (.ref b8)] [(.ref a1)]) _
    refine XS.aload X13.here hx rfl (hb hby d_jdk_42_149_52) rfl rfl ?_
    exact k
  obtain ⟨T16, h16, X16, e16, W16, st16⟩ := putF X13 hx hZ hown (host := "") (Or.inl (own_w hw 24 rfl)) Via.refl e13 ((F1.keep K8 nin0).other W13 (Or.inr (slot_ne (Or.inr (own_w hw 20 rfl)) (Or.inr (own_w hw 21 rfl)) (by decide) (t := (.array .byte)) (t' := .byte) (by decide) (by decide)))) ((E1.keep K8).wr W13) (Or.inr ⟨(own_w hw 20 rfl), rfl, hnm⟩) (own_w hw 5 rfl) (ty := (.array .byte)) (by decide) rfl rfl (g := (mkF m 54 #[.val (.ref a1), .val (.ref a2), .val (.int (0 : Int32)), .val (.int (1 : Int32)), .val .null, .val (.ref b8)] [(.ref b8), (.ref a1)])) rfl rfl (hb hby d_jdk_42_149_54)
  have Fw16 := ((F1.keep K8 nin0).other W13 (Or.inr (slot_ne (Or.inr (own_w hw 20 rfl)) (Or.inr (own_w hw 21 rfl)) (by decide) (t := (.array .byte)) (t' := .byte) (by decide) (by decide)))).same W16
  have N16 := Fr.snoc X16 N13 g1
  have O16 : Old Z n0 h16 := O13.wr W16 g1
  have pre_17 : ∀ t, Sp p e below T16 (mkF m 57 #[.val (.ref a1), .val (.ref a2), .val (.int (0 : Int32)), .val (.int (1 : Int32)), .val .null, .val (.ref b8)] []) t → Steps p.tables e below E0 t := fun t k => pre_15 t (st16 t k)
  obtain ⟨fs, hr, hrun, hended, hW, hsame⟩ := X16.leave (v := none) (fun _ => rfl)
  refine ⟨_, _, pre_17 _ ?_, hrun, hended, _, _, rfl, ?_, ⟨_, rfl⟩, hW, hsame.mono (by decide) (by decide)⟩
  · show Sp p e below T16 (mkF m 57 #[.val (.ref a1), .val (.ref a2), .val (.int (0 : Int32)), .val (.int (1 : Int32)), .val .null, .val (.ref b8)] []) _
    exact X16.returnOut hx Bd.returns (hb hby d_jdk_42_149_57) hr
  · show Q_sti1 Z _ _ _ _ _ _ _ h0 n0 _ T16.heap _
    rw [e16]
    exact ⟨rfl, N16, ((((Keep.refl h0 [a1]).trans K8 all0).wr W13 (Or.inl (List.mem_of_getElem? (i := 0) rfl))).wr W16 (Or.inl (List.mem_of_getElem? (i := 0) rfl))), (Fw13.other W16 (Or.inr (slot_ne (Or.inr (own_w hw 21 rfl)) (Or.inr (own_w hw 20 rfl)) (by decide) (t := .byte) (t' := (.array .byte)) (by decide) (by decide)))), b8, kB8, (Nat.le_trans (Keep.refl h0 [a1]).1 sb8), Fw16, ((Vb8.other W13 (Ne.symm (Nat.ne_of_lt (Nat.lt_of_lt_of_le E1.lt sb8)))).other W16 (Ne.symm (Nat.ne_of_lt (Nat.lt_of_lt_of_le E1.lt sb8))))⟩
theorem d_jdk_42_3_0 : decode jdk_42_method_3_code 0 = .ok (.aload_n 0, 1) := by decide +kernel
theorem d_jdk_42_3_1 : decode jdk_42_method_3_code 1 = .ok (.aload_n 1, 1) := by decide +kernel
theorem d_jdk_42_3_2 : decode jdk_42_method_3_code 2 = .ok (.iconst 0, 1) := by decide +kernel
theorem d_jdk_42_3_3 : decode jdk_42_method_3_code 3 = .ok (.aload_n 1, 1) := by decide +kernel
theorem d_jdk_42_3_4 : decode jdk_42_method_3_code 4 = .ok (.arraylength, 1) := by decide +kernel
theorem d_jdk_42_3_5 : decode jdk_42_method_3_code 5 = .ok (.aconst_null, 1) := by decide +kernel
theorem d_jdk_42_3_6 : decode jdk_42_method_3_code 6 = .ok (.invokespecial 27, 3) := by decide +kernel
theorem d_jdk_42_3_9 : decode jdk_42_method_3_code 9 = .ok (.return_, 1) := by decide +kernel
theorem pn_str1 : plainName "java/lang/String" = true := by first | (simp [plainName, overriddenIn]; done) | decide +kernel
theorem pd_str1_0 : parseMethodDescriptor "([CIILjava/lang/Void;)V" = some ⟨[(.array .char), .int, .int, (.object "java/lang/Void")], none⟩ := by decide +kernel
theorem ef_str1 (m : MethodId) (a1 : Addr) (a2 : Addr) : entryFrame m #[(.ref a1), (.ref a2)] 2 = (mkF m 0 #[.val (.ref a1), .val (.ref a2)] []) := by first | (simp [entryFrame, mkF, argsToLocals, Value.category]; done) | rfl
def Q_str1 (Z : State) (a1 : Addr) (a2 : Addr) (u1 u2 : Value) (G1 : Int32) (kC : ClassId) (c0 : Int32) (h0 : Heap) (n0 : Nat) (v : Option Value) (h : Heap) (L : List Loc) : Prop := v = none ∧ Fr n0 L ∧ Keep h0 h [a1] ∧ Fld Z h a1 "java/lang/String" "coder" "B" (.int (0 : Int32)) ∧ ∃ b kB, h0.size ≤ b ∧ Fld Z h a1 "java/lang/String" "value" "[B" (.ref b) ∧ Arv Z h b kB .byte (1 : Int32) [(.int (c0).toInt8.toInt32)] (.int (0 : Int32))
set_option maxRecDepth 65536 in
set_option maxHeartbeats 40000000 in
theorem rm_str1 (l : Launch) (Z : State) (a0 : Array Value) (hw : ∀ d ∈ tables_1, d.before a0 Z = true) (ws : List Jvm.Cond) (a1 : Addr) (a2 : Addr) (u1 u2 : Value) (G1 : Int32) (kC : ClassId) (c0 : Int32) (h0 : Heap) (n0 : Nat) (O0 : Old Z n0 h0) (E1 : Exa Z h0 a1 "java/lang/String") (F1 : Fld Z h0 a1 "java/lang/String" "value" "[B" u1) (F2 : Fld Z h0 a1 "java/lang/String" "coder" "B" u2) (g1 : n0 ≤ a1) (SC : Sta Z Z.heap "java/lang/String" "COMPACT_STRINGS" "Z" (.int G1)) (hG : ¬ G1 = (0 : Int32)) (VC : Arv Z h0 a2 kC .char (1 : Int32) [(.int c0)] (.int (0 : Int32))) (hc0 : ¬ (255 : Int32) < c0) :
    MetFree l (⟨"java/lang/String", "<init>", "([C)V"⟩ : MethodName) (head1 (Jvm.Cond.code (⟨"java/lang/String", "<init>", "([C)V"⟩ : MethodName) jdk_42_method_3_code 2 none :: ws) ({ frames := 3, cells := 1, slots := 1, locals := 53 } : Room)) (fun a U => a = #[(.ref a1), (.ref a2)] ∧ Z.Warmed39 U.vm ∧ U.heap = h0) (fun _ _ _ _ _ => True) (fun _ U o U' => ∃ v L, o = .returned v ∧ Q_str1 Z a1 a2 u1 u2 G1 kC c0 h0 n0 v U'.heap L ∧ FrameEnd U o U' L ({ frames := 3, cells := 1, slots := 1, locals := 53 } : Room).cells ({ frames := 3, cells := 1, slots := 1, locals := 53 } : Room).slots) := by
  refine MetFree.of_bodySF (plainFor_of_name pn_str1) hisR ?_
  intro p e s m args below meth c s₁ Bd hml0 hP hK
  obtain ⟨rfl, hZ, hh⟩ := hP
  have hx := Bd.exec
  have hby := Bd.bytes
  have hml : c.maxLocals = 2 := hml0
  have hown : s.vm.findClass "java/lang/String" = some m.cls := findClass_of_methodNamed Bd.named
  have hnm := (name_of_methodNamed Bd.named Bd.method).1
  have X0 : Stand p l e ({ frames := 3, cells := 1, slots := 1, locals := 53 } : Room) s m #[(.ref a1), (.ref a2)] below meth c s₁ [] 0 0 := Stand.of_body Bd
  have e0 : s₁.heap = h0 := by rw [← hh, Bd.state]; rfl
  have N0 := Fr.nil n0
  have pre0 : ∀ t, Steps p.tables e below (s₁.setTop (mkF m 0 #[.val (.ref a1), .val (.ref a2)] [])) t → Steps p.tables e below (s₁.setTop (entryFrame m #[(.ref a1), (.ref a2)] 2)) t := fun t k => castTop (ef_str1 m a1 a2) k
  generalize s₁.setTop (entryFrame m #[(.ref a1), (.ref a2)] 2) = E0 at pre0 ⊢
  have pre_2 : ∀ t, Sp p e below s₁ (mkF m 6 #[.val (.ref a1), .val (.ref a2)] [.null, (.int (1 : Int32)), (.int (0 : Int32)), (.ref a2), (.ref a1)]) t → Steps p.tables e below E0 t := by
    intro t k
    refine pre0 t ?_
    show Sp p e below s₁ (mkF m 0 #[.val (.ref a1), .val (.ref a2)] []) _
    refine XS.aloadN X0.here hx rfl (hb hby d_jdk_42_3_0) rfl rfl ?_
    refine XS.aloadN X0.here hx rfl (hb hby d_jdk_42_3_1) rfl rfl ?_
    refine XS.iconst X0.here hx rfl (hb hby d_jdk_42_3_2) ?_
    refine XS.aloadN X0.here hx rfl (hb hby d_jdk_42_3_3) rfl rfl ?_
    show Sp p e below s₁ (mkF m 4 #[.val (.ref a1), .val (.ref a2)] [(.ref a2), (.int (0 : Int32)), (.ref a2), (.ref a1)]) _
    obtain ⟨cl1, Ar1, -, S1, M1, -, -⟩ := id VC
    refine X0.arraylength hx (cell := cl1) (by rw [e0]; exact Ar1.1) (State.isArrayOf_alike hZ.alike Ar1.2.1) (g := (mkF m 4 #[.val (.ref a1), .val (.ref a2)] [(.ref a2), (.int (0 : Int32)), (.ref a2), (.ref a1)])) rfl (rest := [(.int (0 : Int32)), (.ref a2), (.ref a1)]) rfl (hb hby d_jdk_42_3_4) _ ?_
    rw [len_of S1 M1]
    show Sp p e below s₁ (mkF m 5 #[.val (.ref a1), .val (.ref a2)] [(.int (1 : Int32)), (.int (0 : Int32)), (.ref a2), (.ref a1)]) _
    refine XS.aconstNull X0.here hx rfl (hb hby d_jdk_42_3_5) ?_
    exact k
  obtain ⟨_, _, ⟨T3, L3, k3, n3⟩, -, X3, ⟨Lc3, hQ3, l3, y3, z3⟩, st3⟩ := X0.specialBack hx (y := (⟨"java/lang/String", "<init>", "([CIILjava/lang/Void;)V"⟩ : MethodName)) rfl hown (mvT hZ (own_w hw 11 rfl)) (mvT hZ (own_w hw 12 rfl)) (mvT hZ (own_w hw 14 rfl)) (by decide) (backOf (W := 0) (rm_sti1 l Z a0 hw [] a1 a2 u1 u2 G1 kC c0 h0 n0 O0 E1 F1 F2 g1 SC hG VC hc0) hZ (own_w hw 14 rfl) (own_w hw 6 rfl) (by decide) (by decide)) (g := (mkF m 6 #[.val (.ref a1), .val (.ref a2)] [.null, (.int (1 : Int32)), (.int (0 : Int32)), (.ref a2), (.ref a1)])) rfl (by rw [hml]; rfl) (Steps.refl _) (a := a1) (argsL := [(.ref a2), (.int (0 : Int32)), (.int (1 : Int32)), .null]) (rest := []) (lenOf pd_str1_0 rfl) rfl (by show 2 * 0 + _ ≤ _; exact Nat.le_of_eq rfl) (hb hby d_jdk_42_3_6) (fun _ _ => ⟨rfl, e0, (by decide : 0 + 1 ≤ _), (by decide : 0 + 1 ≤ _)⟩)
  dsimp only [Pt.U, Pt.locs, Pt.cells, Pt.slots] at X3 l3 y3 z3 st3 hQ3
  subst l3 y3 z3
  obtain ⟨rfl, N3q, K3, Fc3, b3, kB3, sb3, Fv3, Vb3⟩ := hQ3
  have N3 := Fr.app N0 N3q
  have O3 : Old Z n0 T3.heap := O0.keep K3 (allS g1 all0)
  have pre_4 : ∀ t, Sp p e below T3 (mkF m 9 #[.val (.ref a1), .val (.ref a2)] []) t → Steps p.tables e below E0 t := fun t k => pre_2 t (st3.trans k)
  obtain ⟨fs, hr, hrun, hended, hW, hsame⟩ := X3.leave (v := none) (fun _ => rfl)
  refine ⟨_, _, pre_4 _ ?_, hrun, hended, _, _, rfl, ?_, ⟨_, rfl⟩, hW, hsame.mono (by decide) (by decide)⟩
  · show Sp p e below T3 (mkF m 9 #[.val (.ref a1), .val (.ref a2)] []) _
    exact X3.returnOut hx Bd.returns (hb hby d_jdk_42_3_9) hr
  · show Q_str1 Z _ _ _ _ _ _ _ h0 n0 _ T3.heap _
    exact ⟨rfl, N3, ((Keep.refl h0 [a1]).trans K3 (allS (Or.inl (List.mem_of_getElem? (i := 0) rfl)) all0)), Fc3, b3, kB3, sb3, Fv3, Vb3⟩
theorem pn_cmpa2 : plainName "java/lang/StringUTF16" = true := by first | (simp [plainName, overriddenIn]; done) | decide +kernel
theorem ef_cmpa2 (m : MethodId) (a1 : Addr) (a3 : Addr) : entryFrame m #[(.ref a1), (.int (0 : Int32)), (.ref a3), (.int (0 : Int32)), (.int (2 : Int32))] 7 = (mkF m 0 #[.val (.ref a1), .val (.int (0 : Int32)), .val (.ref a3), .val (.int (0 : Int32)), .val (.int (2 : Int32)), .unset, .unset] []) := by first | (simp [entryFrame, mkF, argsToLocals, Value.category]; done) | rfl
def Q_cmpa2 (Z : State) (a1 : Addr) (a3 : Addr) (kC kB : ClassId) (c0 c1 : Int32) (h0 : Heap) (n0 : Nat) (v : Option Value) (h : Heap) (L : List Loc) : Prop := v = some (.int (2 : Int32)) ∧ Fr n0 L ∧ Keep h0 h [a3] ∧ Arv Z h a3 kB .byte (2 : Int32) [(.int (c0).toInt8.toInt32), (.int (c1).toInt8.toInt32)] (.int (0 : Int32))
set_option maxRecDepth 65536 in
set_option maxHeartbeats 40000000 in
theorem rm_cmpa2 (l : Launch) (Z : State) (a0 : Array Value) (hw : ∀ d ∈ tables_1, d.before a0 Z = true) (ws : List Jvm.Cond) (a1 : Addr) (a3 : Addr) (kC kB : ClassId) (c0 c1 : Int32) (h0 : Heap) (n0 : Nat) (O0 : Old Z n0 h0) (VC : Arv Z h0 a1 kC .char (2 : Int32) [(.int c0), (.int c1)] (.int (0 : Int32))) (VB : Arv Z h0 a3 kB .byte (2 : Int32) [(.int (0 : Int32)), (.int (0 : Int32))] (.int (0 : Int32))) (g3 : n0 ≤ a3) (ne13 : a1 ≠ a3) (hc0 : ¬ (255 : Int32) < c0) (hc1 : ¬ (255 : Int32) < c1) :
    MetFree l (⟨"java/lang/StringUTF16", "compress", "([CI[BII)I"⟩ : MethodName) (head1 (Jvm.Cond.code (⟨"java/lang/StringUTF16", "compress", "([CI[BII)I"⟩ : MethodName) jdk_52_method_21_code 7 (some .int) :: ws) ({ frames := 0, cells := 0, slots := 0, locals := 0 } : Room)) (fun a U => a = #[(.ref a1), (.int (0 : Int32)), (.ref a3), (.int (0 : Int32)), (.int (2 : Int32))] ∧ Z.Warmed39 U.vm ∧ U.heap = h0) (fun _ _ _ _ _ => True) (fun _ U o U' => ∃ v L, o = .returned v ∧ Q_cmpa2 Z a1 a3 kC kB c0 c1 h0 n0 v U'.heap L ∧ FrameEnd U o U' L ({ frames := 0, cells := 0, slots := 0, locals := 0 } : Room).cells ({ frames := 0, cells := 0, slots := 0, locals := 0 } : Room).slots) := by
  refine MetFree.of_bodySF (plainFor_of_name pn_cmpa2) hisR ?_
  intro p e s m args below meth c s₁ Bd hml0 hP hK
  obtain ⟨rfl, hZ, hh⟩ := hP
  have hx := Bd.exec
  have hby := Bd.bytes
  have hml : c.maxLocals = 7 := hml0
  have hown : s.vm.findClass "java/lang/StringUTF16" = some m.cls := findClass_of_methodNamed Bd.named
  have hnm := (name_of_methodNamed Bd.named Bd.method).1
  have X0 : Stand p l e ({ frames := 0, cells := 0, slots := 0, locals := 0 } : Room) s m #[(.ref a1), (.int (0 : Int32)), (.ref a3), (.int (0 : Int32)), (.int (2 : Int32))] below meth c s₁ [] 0 0 := Stand.of_body Bd
  have e0 : s₁.heap = h0 := by rw [← hh, Bd.state]; rfl
  have N0 := Fr.nil n0
  have pre0 : ∀ t, Steps p.tables e below (s₁.setTop (mkF m 0 #[.val (.ref a1), .val (.int (0 : Int32)), .val (.ref a3), .val (.int (0 : Int32)), .val (.int (2 : Int32)), .unset, .unset] [])) t → Steps p.tables e below (s₁.setTop (entryFrame m #[(.ref a1), (.int (0 : Int32)), (.ref a3), (.int (0 : Int32)), (.int (2 : Int32))] 7)) t := fun t k => castTop (ef_cmpa2 m a1 a3) k
  generalize s₁.setTop (entryFrame m #[(.ref a1), (.int (0 : Int32)), (.ref a3), (.int (0 : Int32)), (.int (2 : Int32))] 7) = E0 at pre0 ⊢
  have pre_2 : ∀ t, Sp p e below s₁ (mkF m 31 #[.val (.ref a1), .val (.int (0 : Int32)), .val (.ref a3), .val (.int (0 : Int32)), .val (.int (2 : Int32)), .val (.int (0 : Int32)), .val (.int c0)] [(.int ((c0).toInt8.toInt32)), (.int (0 : Int32)), (.ref a3)]) t → Steps p.tables e below E0 t := by
    intro t k
    refine pre0 t ?_
    show Sp p e below s₁ (mkF m 0 #[.val (.ref a1), .val (.int (0 : Int32)), .val (.ref a3), .val (.int (0 : Int32)), .val (.int (2 : Int32)), .unset, .unset] []) _
    refine XS.iconst X0.here hx rfl (hb hby d_jdk_52_21_0) ?_
    refine XS.istore X0.here hx rfl (hb hby d_jdk_52_21_1) rfl (l' := #[.val (.ref a1), .val (.int (0 : Int32)), .val (.ref a3), .val (.int (0 : Int32)), .val (.int (2 : Int32)), .val (.int (0 : Int32)), .unset]) rfl ?_
    refine XS.iload X0.here hx rfl (hb hby d_jdk_52_21_3) rfl ?_
    refine XS.iload X0.here hx rfl (hb hby d_jdk_52_21_5) rfl ?_
    show Sp p e below s₁ (mkF m 7 #[.val (.ref a1), .val (.int (0 : Int32)), .val (.ref a3), .val (.int (0 : Int32)), .val (.int (2 : Int32)), .val (.int (0 : Int32)), .unset] [(.int (2 : Int32)), (.int (0 : Int32))]) _
    refine XS.icmpNo X0.here hx rfl (hb hby d_jdk_52_21_7) rfl (XT.ii_ge_f (by decide)) ?_
    refine XS.aloadN X0.here hx rfl (hb hby d_jdk_52_21_10) rfl rfl ?_
    refine XS.iloadN X0.here hx rfl (hb hby d_jdk_52_21_11) rfl ?_
    obtain ⟨cl1, Ar1, -, S1, -, H1, -⟩ := id VC
    have hin1 : ¬ ((0 : Int32) < 0 ∨ cl1.slots.size ≤ ((0 : Int32)).toNatClampNeg) := inb_of S1 (by decide)
    refine X0.caload hx (j := (0 : Int32)) (v := (.int c0)) (by rw [e0]; exact Ar1.1) (State.isArrayOf_alike hZ.alike Ar1.2.1) Ar1.2.2 hin1 (H1.at hin1 rfl) (g := (mkF m 12 #[.val (.ref a1), .val (.int (0 : Int32)), .val (.ref a3), .val (.int (0 : Int32)), .val (.int (2 : Int32)), .val (.int (0 : Int32)), .unset] [(.int (0 : Int32)), (.ref a1)])) rfl rfl (hb hby d_jdk_52_21_12) _ ?_
    show Sp p e below s₁ (mkF m 13 #[.val (.ref a1), .val (.int (0 : Int32)), .val (.ref a3), .val (.int (0 : Int32)), .val (.int (2 : Int32)), .val (.int (0 : Int32)), .unset] [(.int c0)]) _
    refine XS.istore X0.here hx rfl (hb hby d_jdk_52_21_13) rfl (l' := #[.val (.ref a1), .val (.int (0 : Int32)), .val (.ref a3), .val (.int (0 : Int32)), .val (.int (2 : Int32)), .val (.int (0 : Int32)), .val (.int c0)]) rfl ?_
    refine XS.iload X0.here hx rfl (hb hby d_jdk_52_21_15) rfl ?_
    refine XS.sipush X0.here hx rfl (hb hby d_jdk_52_21_17) ?_
    refine XS.icmpYes X0.here hx rfl (pc0 := 20) (pc' := 26) rfl (hb hby d_jdk_52_21_20) rfl (XT.ii_le_t hc0) (by decide) (by decide) ?_
    show Sp p e below s₁ (mkF m 26 #[.val (.ref a1), .val (.int (0 : Int32)), .val (.ref a3), .val (.int (0 : Int32)), .val (.int (2 : Int32)), .val (.int (0 : Int32)), .val (.int c0)] []) _
    refine XS.aloadN X0.here hx rfl (hb hby d_jdk_52_21_26) rfl rfl ?_
    refine XS.iloadN X0.here hx rfl (hb hby d_jdk_52_21_27) rfl ?_
    refine XS.iload X0.here hx rfl (hb hby d_jdk_52_21_28) rfl ?_
    refine XT.i2b X0.here hx rfl (hb hby d_jdk_52_21_30) rfl ?_
    show Sp p e below s₁ (mkF m 31 #[.val (.ref a1), .val (.int (0 : Int32)), .val (.ref a3), .val (.int (0 : Int32)), .val (.int (2 : Int32)), .val (.int (0 : Int32)), .val (.int c0)] [(.int ((c0).toInt8.toInt32)), (.int (0 : Int32)), (.ref a3)]) _
    exact k
  obtain ⟨cl3, Ar3, q3, S3, M3, H3, G3⟩ := id VB
  obtain ⟨T3, h3, X3, e3, W3, st3⟩ := stB X0 hx hZ e0 Ar3 (j := (0 : Int32)) (inb_of S3 (by decide)) (g := (mkF m 31 #[.val (.ref a1), .val (.int (0 : Int32)), .val (.ref a3), .val (.int (0 : Int32)), .val (.int (2 : Int32)), .val (.int (0 : Int32)), .val (.int c0)] [(.int ((c0).toInt8.toInt32)), (.int (0 : Int32)), (.ref a3)])) rfl rfl (hb hby d_jdk_52_21_31)
  have N3 := Fr.snoc X3 N0 g3
  have O3 : Old Z n0 h3 := O0.wr W3 g3
  rw [(own_nb c0)] at W3
  have V3 : Arv Z h3 a3 kB .byte (2 : Int32) [(.int ((c0).toInt8.toInt32)), (.int (0 : Int32))] (.int (0 : Int32)) := Arv.set Ar3 q3 S3 M3 H3 G3 (by rw [← (own_nb c0)]; exact (fits_nar_byte _)) W3 0 rfl (Nat.le_of_ble_eq_true rfl)
  have pre_4 : ∀ t, Sp p e below T3 (mkF m 32 #[.val (.ref a1), .val (.int (0 : Int32)), .val (.ref a3), .val (.int (0 : Int32)), .val (.int (2 : Int32)), .val (.int (0 : Int32)), .val (.int c0)] []) t → Steps p.tables e below E0 t := fun t k => pre_2 t (st3 t k)
  have pre_6 : ∀ t, Sp p e below T3 (mkF m 31 #[.val (.ref a1), .val (.int (1 : Int32)), .val (.ref a3), .val (.int (1 : Int32)), .val (.int (2 : Int32)), .val (.int (1 : Int32)), .val (.int c1)] [(.int ((c1).toInt8.toInt32)), (.int (1 : Int32)), (.ref a3)]) t → Steps p.tables e below E0 t := by
    intro t k
    refine pre_4 t ?_
    show Sp p e below T3 (mkF m 32 #[.val (.ref a1), .val (.int (0 : Int32)), .val (.ref a3), .val (.int (0 : Int32)), .val (.int (2 : Int32)), .val (.int (0 : Int32)), .val (.int c0)] []) _
    refine XS.iinc X3.here hx rfl (hb hby d_jdk_52_21_32) rfl (l' := #[.val (.ref a1), .val (.int (1 : Int32)), .val (.ref a3), .val (.int (0 : Int32)), .val (.int (2 : Int32)), .val (.int (0 : Int32)), .val (.int c0)]) rfl ?_
    refine XS.iinc X3.here hx rfl (hb hby d_jdk_52_21_35) rfl (l' := #[.val (.ref a1), .val (.int (1 : Int32)), .val (.ref a3), .val (.int (1 : Int32)), .val (.int (2 : Int32)), .val (.int (0 : Int32)), .val (.int c0)]) rfl ?_
    refine XS.iinc X3.here hx rfl (hb hby d_jdk_52_21_38) rfl (l' := #[.val (.ref a1), .val (.int (1 : Int32)), .val (.ref a3), .val (.int (1 : Int32)), .val (.int (2 : Int32)), .val (.int (1 : Int32)), .val (.int c0)]) rfl ?_
    refine XS.goto X3.here hx rfl (pc0 := 41) (pc' := 3) rfl (hb hby d_jdk_52_21_41) (by decide) (by decide) ?_
    show Sp p e below T3 (mkF m 3 #[.val (.ref a1), .val (.int (1 : Int32)), .val (.ref a3), .val (.int (1 : Int32)), .val (.int (2 : Int32)), .val (.int (1 : Int32)), .val (.int c0)] []) _
    refine XS.iload X3.here hx rfl (hb hby d_jdk_52_21_3) rfl ?_
    refine XS.iload X3.here hx rfl (hb hby d_jdk_52_21_5) rfl ?_
    refine XS.icmpNo X3.here hx rfl (hb hby d_jdk_52_21_7) rfl (XT.ii_ge_f (by decide)) ?_
    refine XS.aloadN X3.here hx rfl (hb hby d_jdk_52_21_10) rfl rfl ?_
    show Sp p e below T3 (mkF m 11 #[.val (.ref a1), .val (.int (1 : Int32)), .val (.ref a3), .val (.int (1 : Int32)), .val (.int (2 : Int32)), .val (.int (1 : Int32)), .val (.int c0)] [(.ref a1)]) _
    refine XS.iloadN X3.here hx rfl (hb hby d_jdk_52_21_11) rfl ?_
    obtain ⟨cl5, Ar5, -, S5, -, H5, -⟩ := id (VC.other W3 ne13)
    have hin5 : ¬ ((1 : Int32) < 0 ∨ cl5.slots.size ≤ ((1 : Int32)).toNatClampNeg) := inb_of S5 (by decide)
    refine X3.caload hx (j := (1 : Int32)) (v := (.int c1)) (by rw [e3]; exact Ar5.1) (State.isArrayOf_alike hZ.alike Ar5.2.1) Ar5.2.2 hin5 (H5.at hin5 rfl) (g := (mkF m 12 #[.val (.ref a1), .val (.int (1 : Int32)), .val (.ref a3), .val (.int (1 : Int32)), .val (.int (2 : Int32)), .val (.int (1 : Int32)), .val (.int c0)] [(.int (1 : Int32)), (.ref a1)])) rfl rfl (hb hby d_jdk_52_21_12) _ ?_
    refine XS.istore X3.here hx rfl (hb hby d_jdk_52_21_13) rfl (l' := #[.val (.ref a1), .val (.int (1 : Int32)), .val (.ref a3), .val (.int (1 : Int32)), .val (.int (2 : Int32)), .val (.int (1 : Int32)), .val (.int c1)]) rfl ?_
    refine XS.iload X3.here hx rfl (hb hby d_jdk_52_21_15) rfl ?_
    show Sp p e below T3 (mkF m 17 #[.val (.ref a1), .val (.int (1 : Int32)), .val (.ref a3), .val (.int (1 : Int32)), .val (.int (2 : Int32)), .val (.int (1 : Int32)), .val (.int c1)] [(.int c1)]) _
    refine XS.sipush X3.here hx rfl (hb hby d_jdk_52_21_17) ?_
    refine XS.icmpYes X3.here hx rfl (pc0 := 20) (pc' := 26) rfl (hb hby d_jdk_52_21_20) rfl (XT.ii_le_t hc1) (by decide) (by decide) ?_
    refine XS.aloadN X3.here hx rfl (hb hby d_jdk_52_21_26) rfl rfl ?_
    refine XS.iloadN X3.here hx rfl (hb hby d_jdk_52_21_27) rfl ?_
    show Sp p e below T3 (mkF m 28 #[.val (.ref a1), .val (.int (1 : Int32)), .val (.ref a3), .val (.int (1 : Int32)), .val (.int (2 : Int32)), .val (.int (1 : Int32)), .val (.int c1)] [(.int (1 : Int32)), (.ref a3)]) _
    refine XS.iload X3.here hx rfl (hb hby d_jdk_52_21_28) rfl ?_
    refine XT.i2b X3.here hx rfl (hb hby d_jdk_52_21_30) rfl ?_
    exact k
  obtain ⟨cl7, Ar7, q7, S7, M7, H7, G7⟩ := id V3
  obtain ⟨T7, h7, X7, e7, W7, st7⟩ := stB X3 hx hZ e3 Ar7 (j := (1 : Int32)) (inb_of S7 (by decide)) (g := (mkF m 31 #[.val (.ref a1), .val (.int (1 : Int32)), .val (.ref a3), .val (.int (1 : Int32)), .val (.int (2 : Int32)), .val (.int (1 : Int32)), .val (.int c1)] [(.int ((c1).toInt8.toInt32)), (.int (1 : Int32)), (.ref a3)])) rfl rfl (hb hby d_jdk_52_21_31)
  have N7 := Fr.snoc X7 N3 g3
  have O7 : Old Z n0 h7 := O3.wr W7 g3
  rw [(own_nb c1)] at W7
  have V7 : Arv Z h7 a3 kB .byte (2 : Int32) [(.int ((c0).toInt8.toInt32)), (.int ((c1).toInt8.toInt32))] (.int (0 : Int32)) := Arv.set Ar7 q7 S7 M7 H7 G7 (by rw [← (own_nb c1)]; exact (fits_nar_byte _)) W7 1 rfl (Nat.le_of_ble_eq_true rfl)
  have pre_8 : ∀ t, Sp p e below T7 (mkF m 32 #[.val (.ref a1), .val (.int (1 : Int32)), .val (.ref a3), .val (.int (1 : Int32)), .val (.int (2 : Int32)), .val (.int (1 : Int32)), .val (.int c1)] []) t → Steps p.tables e below E0 t := fun t k => pre_6 t (st7 t k)
  have pre_9 : ∀ t, Sp p e below T7 (mkF m 46 #[.val (.ref a1), .val (.int (2 : Int32)), .val (.ref a3), .val (.int (2 : Int32)), .val (.int (2 : Int32)), .val (.int (2 : Int32)), .val (.int c1)] [(.int (2 : Int32))]) t → Steps p.tables e below E0 t := by
    intro t k
    refine pre_8 t ?_
    show Sp p e below T7 (mkF m 32 #[.val (.ref a1), .val (.int (1 : Int32)), .val (.ref a3), .val (.int (1 : Int32)), .val (.int (2 : Int32)), .val (.int (1 : Int32)), .val (.int c1)] []) _
    refine XS.iinc X7.here hx rfl (hb hby d_jdk_52_21_32) rfl (l' := #[.val (.ref a1), .val (.int (2 : Int32)), .val (.ref a3), .val (.int (1 : Int32)), .val (.int (2 : Int32)), .val (.int (1 : Int32)), .val (.int c1)]) rfl ?_
    refine XS.iinc X7.here hx rfl (hb hby d_jdk_52_21_35) rfl (l' := #[.val (.ref a1), .val (.int (2 : Int32)), .val (.ref a3), .val (.int (2 : Int32)), .val (.int (2 : Int32)), .val (.int (1 : Int32)), .val (.int c1)]) rfl ?_
    show Sp p e below T7 (mkF m 38 #[.val (.ref a1), .val (.int (2 : Int32)), .val (.ref a3), .val (.int (2 : Int32)), .val (.int (2 : Int32)), .val (.int (1 : Int32)), .val (.int c1)] []) _
    refine XS.iinc X7.here hx rfl (hb hby d_jdk_52_21_38) rfl (l' := #[.val (.ref a1), .val (.int (2 : Int32)), .val (.ref a3), .val (.int (2 : Int32)), .val (.int (2 : Int32)), .val (.int (2 : Int32)), .val (.int c1)]) rfl ?_
    refine XS.goto X7.here hx rfl (pc0 := 41) (pc' := 3) rfl (hb hby d_jdk_52_21_41) (by decide) (by decide) ?_
    refine XS.iload X7.here hx rfl (hb hby d_jdk_52_21_3) rfl ?_
    refine XS.iload X7.here hx rfl (hb hby d_jdk_52_21_5) rfl ?_
    show Sp p e below T7 (mkF m 7 #[.val (.ref a1), .val (.int (2 : Int32)), .val (.ref a3), .val (.int (2 : Int32)), .val (.int (2 : Int32)), .val (.int (2 : Int32)), .val (.int c1)] [(.int (2 : Int32)), (.int (2 : Int32))]) _
    refine XS.icmpYes X7.here hx rfl (pc0 := 7) (pc' := 44) rfl (hb hby d_jdk_52_21_7) rfl (XT.ii_ge_t (by decide)) (by decide) (by decide) ?_
    refine XS.iload X7.here hx rfl (hb hby d_jdk_52_21_44) rfl ?_
    exact k
  obtain ⟨fs, hr, hrun, hended, hW, hsame⟩ := X7.leave (v := some (.int (2 : Int32))) (fun h => by rw [Bd.returns] at h; cases h)
  refine ⟨_, _, pre_9 _ ?_, hrun, hended, _, _, rfl, ?_, ⟨_, rfl⟩, hW, hsame.mono (by decide) (by decide)⟩
  · show Sp p e below T7 (mkF m 46 #[.val (.ref a1), .val (.int (2 : Int32)), .val (.ref a3), .val (.int (2 : Int32)), .val (.int (2 : Int32)), .val (.int (2 : Int32)), .val (.int c1)] [(.int (2 : Int32))]) _
    exact retI X7 hx Bd.returns (hb hby d_jdk_52_21_46) hr
  · show Q_cmpa2 Z _ _ _ _ _ _ h0 n0 _ T7.heap _
    rw [e7]
    exact ⟨rfl, N7, (((Keep.refl h0 [a3]).wr W3 (Or.inl (List.mem_of_getElem? (i := 0) rfl))).wr W7 (Or.inl (List.mem_of_getElem? (i := 0) rfl))), V7⟩
theorem pn_cmpb2 : plainName "java/lang/StringUTF16" = true := by first | (simp [plainName, overriddenIn]; done) | decide +kernel
theorem pd_cmpb2_0 : parseMethodDescriptor "([CI[BII)I" = some ⟨[(.array .char), .int, (.array .byte), .int, .int], some .int⟩ := by decide +kernel
theorem ef_cmpb2 (m : MethodId) (a1 : Addr) : entryFrame m #[(.ref a1), (.int (0 : Int32)), (.int (2 : Int32))] 6 = (mkF m 0 #[.val (.ref a1), .val (.int (0 : Int32)), .val (.int (2 : Int32)), .unset, .unset, .unset] []) := by first | (simp [entryFrame, mkF, argsToLocals, Value.category]; done) | rfl
def Q_cmpb2 (Z : State) (a1 : Addr) (kC : ClassId) (c0 c1 : Int32) (h0 : Heap) (n0 : Nat) (v : Option Value) (h : Heap) (L : List Loc) : Prop := ∃ b kB, v = some (.ref b) ∧ Fr n0 L ∧ Keep h0 h [] ∧ h0.size ≤ b ∧ Arv Z h b kB .byte (2 : Int32) [(.int (c0).toInt8.toInt32), (.int (c1).toInt8.toInt32)] (.int (0 : Int32))
set_option maxRecDepth 65536 in
set_option maxHeartbeats 40000000 in
theorem rm_cmpb2 (l : Launch) (Z : State) (a0 : Array Value) (hw : ∀ d ∈ tables_1, d.before a0 Z = true) (ws : List Jvm.Cond) (a1 : Addr) (kC : ClassId) (c0 c1 : Int32) (h0 : Heap) (n0 : Nat) (O0 : Old Z n0 h0) (VC : Arv Z h0 a1 kC .char (2 : Int32) [(.int c0), (.int c1)] (.int (0 : Int32))) (hc0 : ¬ (255 : Int32) < c0) (hc1 : ¬ (255 : Int32) < c1) :
    MetFree l (⟨"java/lang/StringUTF16", "compress", "([CII)[B"⟩ : MethodName) (head1 (Jvm.Cond.code (⟨"java/lang/StringUTF16", "compress", "([CII)[B"⟩ : MethodName) jdk_52_method_16_code 6 (some (.array .byte)) :: ws) ({ frames := 1, cells := 1, slots := 2, locals := 18 } : Room)) (fun a U => a = #[(.ref a1), (.int (0 : Int32)), (.int (2 : Int32))] ∧ Z.Warmed39 U.vm ∧ U.heap = h0) (fun _ _ _ _ _ => True) (fun _ U o U' => ∃ v L, o = .returned v ∧ Q_cmpb2 Z a1 kC c0 c1 h0 n0 v U'.heap L ∧ FrameEnd U o U' L ({ frames := 1, cells := 1, slots := 2, locals := 18 } : Room).cells ({ frames := 1, cells := 1, slots := 2, locals := 18 } : Room).slots) := by
  refine MetFree.of_bodySF (plainFor_of_name pn_cmpb2) hisR ?_
  intro p e s m args below meth c s₁ Bd hml0 hP hK
  obtain ⟨rfl, hZ, hh⟩ := hP
  have hx := Bd.exec
  have hby := Bd.bytes
  have hml : c.maxLocals = 6 := hml0
  have hown : s.vm.findClass "java/lang/StringUTF16" = some m.cls := findClass_of_methodNamed Bd.named
  have hnm := (name_of_methodNamed Bd.named Bd.method).1
  have X0 : Stand p l e ({ frames := 1, cells := 1, slots := 2, locals := 18 } : Room) s m #[(.ref a1), (.int (0 : Int32)), (.int (2 : Int32))] below meth c s₁ [] 0 0 := Stand.of_body Bd
  have e0 : s₁.heap = h0 := by rw [← hh, Bd.state]; rfl
  have N0 := Fr.nil n0
  have pre0 : ∀ t, Steps p.tables e below (s₁.setTop (mkF m 0 #[.val (.ref a1), .val (.int (0 : Int32)), .val (.int (2 : Int32)), .unset, .unset, .unset] [])) t → Steps p.tables e below (s₁.setTop (entryFrame m #[(.ref a1), (.int (0 : Int32)), (.int (2 : Int32))] 6)) t := fun t k => castTop (ef_cmpb2 m a1) k
  generalize s₁.setTop (entryFrame m #[(.ref a1), (.int (0 : Int32)), (.int (2 : Int32))] 6) = E0 at pre0 ⊢
  have pre_1 : ∀ t, Sp p e below s₁ (mkF m 1 #[.val (.ref a1), .val (.int (0 : Int32)), .val (.int (2 : Int32)), .unset, .unset, .unset] [(.int (2 : Int32))]) t → Steps p.tables e below E0 t := by
    intro t k
    refine pre0 t ?_
    show Sp p e below s₁ (mkF m 0 #[.val (.ref a1), .val (.int (0 : Int32)), .val (.int (2 : Int32)), .unset, .unset, .unset] []) _
    refine XS.iloadN X0.here hx rfl (hb hby d_jdk_52_16_0) rfl ?_
    exact k
  obtain ⟨T2, h2, cA2, X2, e2, E2, A2, st2⟩ := newP X0 hx hZ (own_w hw 19 rfl) e0 (g := (mkF m 1 #[.val (.ref a1), .val (.int (0 : Int32)), .val (.int (2 : Int32)), .unset, .unset, .unset] [(.int (2 : Int32))])) rfl (hb hby d_jdk_52_16_1) rfl (by decide) (cap := 2) (by decide) (by decide) (by decide) (by decide)
  obtain ⟨b2, g2⟩ : ∃ z, z = h0.size := ⟨_, rfl⟩
  rw [← g2] at A2 st2
  have O2 : Old Z n0 h2 := O0.ext E2
  have V2 : Arv Z h2 b2 cA2 .byte (2 : Int32) [(.int (0 : Int32)), (.int (0 : Int32))] (.int (0 : Int32)) := (Arv.new A2 (by decide)).pad (pad_rep [] _ 2)
  have pre_3 : ∀ t, Sp p e below T2 (mkF m 3 #[.val (.ref a1), .val (.int (0 : Int32)), .val (.int (2 : Int32)), .unset, .unset, .unset] [(.ref b2)]) t → Steps p.tables e below E0 t := fun t k => pre_1 t (st2 t k)
  have pre_4 : ∀ t, Sp p e below T2 (mkF m 9 #[.val (.ref a1), .val (.int (0 : Int32)), .val (.int (2 : Int32)), .val (.ref b2), .unset, .unset] [(.int (2 : Int32)), (.int (0 : Int32)), (.ref b2), (.int (0 : Int32)), (.ref a1)]) t → Steps p.tables e below E0 t := by
    intro t k
    refine pre_3 t ?_
    show Sp p e below T2 (mkF m 3 #[.val (.ref a1), .val (.int (0 : Int32)), .val (.int (2 : Int32)), .unset, .unset, .unset] [(.ref b2)]) _
    refine XS.astoreN X2.here hx rfl (hb hby d_jdk_52_16_3) rfl rfl (l' := #[.val (.ref a1), .val (.int (0 : Int32)), .val (.int (2 : Int32)), .val (.ref b2), .unset, .unset]) rfl ?_
    refine XS.aloadN X2.here hx rfl (hb hby d_jdk_52_16_4) rfl rfl ?_
    refine XS.iloadN X2.here hx rfl (hb hby d_jdk_52_16_5) rfl ?_
    show Sp p e below T2 (mkF m 6 #[.val (.ref a1), .val (.int (0 : Int32)), .val (.int (2 : Int32)), .val (.ref b2), .unset, .unset] [(.int (0 : Int32)), (.ref a1)]) _
    refine XS.aloadN X2.here hx rfl (hb hby d_jdk_52_16_6) rfl rfl ?_
    refine XS.iconst X2.here hx rfl (hb hby d_jdk_52_16_7) ?_
    refine XS.iloadN X2.here hx rfl (hb hby d_jdk_52_16_8) rfl ?_
    exact k
  obtain ⟨_, _, ⟨T5, L5, k5, n5⟩, -, X5, ⟨Lc5, hQ5, l5, y5, z5⟩, st5⟩ := Jvm.LawKit.callS X2 hx (y := (⟨"java/lang/StringUTF16", "compress", "([CI[BII)I"⟩ : MethodName)) hown (mvT hZ (own_w hw 34 rfl)) (mvT hZ (own_w hw 35 rfl)) (mvT hZ (own_w hw 32 rfl)) (mvT hZ (own_w hw 36 rfl)) (by decide) (backOf (W := 0) (rm_cmpa2 l Z a0 hw [] a1 b2 kC cA2 c0 c1 h2 n0 O2 (VC.ext E2) V2 (Nat.le_trans (own_le O0) (Nat.le_of_eq g2.symm)) (Nat.ne_of_lt (Nat.lt_of_lt_of_le VC.lt (Nat.le_of_eq g2.symm))) hc0 hc1) hZ (own_w hw 36 rfl) (own_w hw 32 rfl) (by decide) (by decide)) (g := (mkF m 9 #[.val (.ref a1), .val (.int (0 : Int32)), .val (.int (2 : Int32)), .val (.ref b2), .unset, .unset] [(.int (2 : Int32)), (.int (0 : Int32)), (.ref b2), (.int (0 : Int32)), (.ref a1)])) rfl (by rw [hml]; rfl) (argsL := [(.ref a1), (.int (0 : Int32)), (.ref b2), (.int (0 : Int32)), (.int (2 : Int32))]) (rest := []) (lenOf pd_cmpb2_0 rfl) rfl (by show 2 * 0 + _ ≤ _; exact Nat.le_of_eq rfl) (hb hby d_jdk_52_16_9) (fun _ _ => ⟨rfl, e2, (by decide : 1 + 0 ≤ _), (by decide : 2 + 0 ≤ _)⟩)
  dsimp only [Pt.U, Pt.locs, Pt.cells, Pt.slots] at X5 l5 y5 z5 st5 hQ5
  subst l5 y5 z5
  obtain ⟨rfl, N5q, K5, Vb5⟩ := hQ5
  have N5 := Fr.app N0 N5q
  have O5 : Old Z n0 T5.heap := O2.keep K5 (allS (Nat.le_trans (own_le O0) (Nat.le_of_eq g2.symm)) all0)
  have pre_6 : ∀ t, Sp p e below T5 (mkF m 12 #[.val (.ref a1), .val (.int (0 : Int32)), .val (.int (2 : Int32)), .val (.ref b2), .unset, .unset] [(.int (2 : Int32))]) t → Steps p.tables e below E0 t := fun t k => pre_4 t (st5 t k)
  have pre_7 : ∀ t, Sp p e below T5 (mkF m 58 #[.val (.ref a1), .val (.int (0 : Int32)), .val (.int (2 : Int32)), .val (.ref b2), .val (.int (2 : Int32)), .unset] [(.ref b2)]) t → Steps p.tables e below E0 t := by
    intro t k
    refine pre_6 t ?_
    show Sp p e below T5 (mkF m 12 #[.val (.ref a1), .val (.int (0 : Int32)), .val (.int (2 : Int32)), .val (.ref b2), .unset, .unset] [(.int (2 : Int32))]) _
    refine XS.istore X5.here hx rfl (hb hby d_jdk_52_16_12) rfl (l' := #[.val (.ref a1), .val (.int (0 : Int32)), .val (.int (2 : Int32)), .val (.ref b2), .val (.int (2 : Int32)), .unset]) rfl ?_
    show Sp p e below T5 (mkF m 14 #[.val (.ref a1), .val (.int (0 : Int32)), .val (.int (2 : Int32)), .val (.ref b2), .val (.int (2 : Int32)), .unset] []) _
    refine XS.iload X5.here hx rfl (hb hby d_jdk_52_16_14) rfl ?_
    refine XS.iloadN X5.here hx rfl (hb hby d_jdk_52_16_16) rfl ?_
    refine XS.icmpYes X5.here hx rfl (pc0 := 17) (pc' := 57) rfl (hb hby d_jdk_52_16_17) rfl (XT.ii_eq_t (by decide)) (by decide) (by decide) ?_
    refine XS.aloadN X5.here hx rfl (hb hby d_jdk_52_16_57) rfl rfl ?_
    show Sp p e below T5 (mkF m 58 #[.val (.ref a1), .val (.int (0 : Int32)), .val (.int (2 : Int32)), .val (.ref b2), .val (.int (2 : Int32)), .unset] [(.ref b2)]) _
    exact k
  obtain ⟨fs, hr, hrun, hended, hW, hsame⟩ := X5.leave (v := some (.ref b2)) (fun h => by rw [Bd.returns] at h; cases h)
  refine ⟨_, _, pre_7 _ ?_, hrun, hended, _, _, rfl, ?_, ⟨_, rfl⟩, hW, hsame.mono (by decide) (by decide)⟩
  · show Sp p e below T5 (mkF m 58 #[.val (.ref a1), .val (.int (0 : Int32)), .val (.int (2 : Int32)), .val (.ref b2), .val (.int (2 : Int32)), .unset] [(.ref b2)]) _
    exact retOut X5 hx (t := (.array .byte)) Bd.returns rfl (Or.inr (Or.inr (Or.inr (Or.inr ⟨rfl, rfl, rfl⟩)))) (hb hby d_jdk_52_16_58) hr
  · show Q_cmpb2 Z _ _ _ _ h0 n0 _ T5.heap _
    exact ⟨b2, cA2, rfl, N5, (((Keep.refl h0 []).ext E2).trans K5 (allS (Or.inr (Nat.le_trans (Keep.refl h0 []).1 (Nat.le_of_eq g2.symm))) all0)), (Nat.le_trans (Keep.refl h0 []).1 (Nat.le_of_eq g2.symm)), Vb5⟩
theorem pn_cfa2 : plainName "java/lang/StringUTF16" = true := by first | (simp [plainName, overriddenIn]; done) | decide +kernel
theorem ef_cfa2 (m : MethodId) (a1 : Addr) : entryFrame m #[(.ref a1), (.int (2 : Int32))] 2 = (mkF m 0 #[.val (.ref a1), .val (.int (2 : Int32))] []) := by first | (simp [entryFrame, mkF, argsToLocals, Value.category]; done) | rfl
def Q_cfa2 (Z : State) (a1 : Addr) (kB : ClassId) (c0 c1 : Int32) (h0 : Heap) (n0 : Nat) (v : Option Value) (h : Heap) (L : List Loc) : Prop := v = some (.int (0 : Int32)) ∧ Fr n0 L ∧ h = h0
set_option maxRecDepth 65536 in
set_option maxHeartbeats 40000000 in
theorem rm_cfa2 (l : Launch) (Z : State) (a0 : Array Value) (hw : ∀ d ∈ tables_1, d.before a0 Z = true) (ws : List Jvm.Cond) (a1 : Addr) (kB : ClassId) (c0 c1 : Int32) (h0 : Heap) (n0 : Nat) (O0 : Old Z n0 h0) (VB : Arv Z h0 a1 kB .byte (2 : Int32) [(.int (c0).toInt8.toInt32), (.int (c1).toInt8.toInt32)] (.int (0 : Int32))) :
    MetFree l (⟨"java/lang/StringUTF16", "coderFromArrayLen", "([BI)B"⟩ : MethodName) (head1 (Jvm.Cond.code (⟨"java/lang/StringUTF16", "coderFromArrayLen", "([BI)B"⟩ : MethodName) jdk_52_method_15_code 2 (some .byte) :: ws) ({ frames := 0, cells := 0, slots := 0, locals := 0 } : Room)) (fun a U => a = #[(.ref a1), (.int (2 : Int32))] ∧ Z.Warmed39 U.vm ∧ U.heap = h0) (fun _ _ _ _ _ => True) (fun _ U o U' => ∃ v L, o = .returned v ∧ Q_cfa2 Z a1 kB c0 c1 h0 n0 v U'.heap L ∧ FrameEnd U o U' L ({ frames := 0, cells := 0, slots := 0, locals := 0 } : Room).cells ({ frames := 0, cells := 0, slots := 0, locals := 0 } : Room).slots) := by
  refine MetFree.of_bodySF (plainFor_of_name pn_cfa2) hisR ?_
  intro p e s m args below meth c s₁ Bd hml0 hP hK
  obtain ⟨rfl, hZ, hh⟩ := hP
  have hx := Bd.exec
  have hby := Bd.bytes
  have hml : c.maxLocals = 2 := hml0
  have hown : s.vm.findClass "java/lang/StringUTF16" = some m.cls := findClass_of_methodNamed Bd.named
  have hnm := (name_of_methodNamed Bd.named Bd.method).1
  have X0 : Stand p l e ({ frames := 0, cells := 0, slots := 0, locals := 0 } : Room) s m #[(.ref a1), (.int (2 : Int32))] below meth c s₁ [] 0 0 := Stand.of_body Bd
  have e0 : s₁.heap = h0 := by rw [← hh, Bd.state]; rfl
  have N0 := Fr.nil n0
  have pre0 : ∀ t, Steps p.tables e below (s₁.setTop (mkF m 0 #[.val (.ref a1), .val (.int (2 : Int32))] [])) t → Steps p.tables e below (s₁.setTop (entryFrame m #[(.ref a1), (.int (2 : Int32))] 2)) t := fun t k => castTop (ef_cfa2 m a1) k
  generalize s₁.setTop (entryFrame m #[(.ref a1), (.int (2 : Int32))] 2) = E0 at pre0 ⊢
  have pre_2 : ∀ t, Sp p e below s₁ (mkF m 8 #[.val (.ref a1), .val (.int (2 : Int32))] [(.int (0 : Int32))]) t → Steps p.tables e below E0 t := by
    intro t k
    refine pre0 t ?_
    show Sp p e below s₁ (mkF m 0 #[.val (.ref a1), .val (.int (2 : Int32))] []) _
    refine XS.iloadN X0.here hx rfl (hb hby d_jdk_52_15_0) rfl ?_
    refine XS.aloadN X0.here hx rfl (hb hby d_jdk_52_15_1) rfl rfl ?_
    obtain ⟨cl1, Ar1, -, S1, M1, -, -⟩ := id VB
    refine X0.arraylength hx (cell := cl1) (by rw [e0]; exact Ar1.1) (State.isArrayOf_alike hZ.alike Ar1.2.1) (g := (mkF m 2 #[.val (.ref a1), .val (.int (2 : Int32))] [(.ref a1), (.int (2 : Int32))])) rfl (rest := [(.int (2 : Int32))]) rfl (hb hby d_jdk_52_15_2) _ ?_
    rw [len_of S1 M1]
    show Sp p e below s₁ (mkF m 3 #[.val (.ref a1), .val (.int (2 : Int32))] [(.int (2 : Int32)), (.int (2 : Int32))]) _
    refine XS.isub X0.here hx rfl (hb hby d_jdk_52_15_3) rfl ?_
    refine XS.bipush X0.here hx rfl (hb hby d_jdk_52_15_4) ?_
    show Sp p e below s₁ (mkF m 6 #[.val (.ref a1), .val (.int (2 : Int32))] [(.int (31 : Int32)), (.int (0 : Int32))]) _
    refine XT.iushr X0.here hx rfl (hb hby d_jdk_52_15_6) rfl ?_
    refine XT.i2b X0.here hx rfl (hb hby d_jdk_52_15_7) rfl ?_
    exact k
  obtain ⟨fs, hr, hrun, hended, hW, hsame⟩ := X0.leave (v := some (.int (0 : Int32))) (fun h => by rw [Bd.returns] at h; cases h)
  refine ⟨_, _, pre_2 _ ?_, hrun, hended, _, _, rfl, ?_, ⟨_, rfl⟩, hW, hsame.mono (by decide) (by decide)⟩
  · show Sp p e below s₁ (mkF m 8 #[.val (.ref a1), .val (.int (2 : Int32))] [(.int (0 : Int32))]) _
    exact retN X0 hx (t := .byte) Bd.returns (by simp) (hb hby d_jdk_52_15_8) hr
  · show Q_cfa2 Z _ _ _ _ h0 n0 _ s₁.heap _
    rw [e0]
    exact ⟨rfl, N0, rfl⟩
theorem pn_sti2 : plainName "java/lang/String" = true := by first | (simp [plainName, overriddenIn]; done) | decide +kernel
theorem pd_sti2_0 : parseMethodDescriptor "([CII)[B" = some ⟨[(.array .char), .int, .int], some (.array .byte)⟩ := by decide +kernel
theorem pd_sti2_1 : parseMethodDescriptor "([BI)B" = some ⟨[(.array .byte), .int], some .byte⟩ := by decide +kernel
theorem ef_sti2 (m : MethodId) (a1 : Addr) (a2 : Addr) : entryFrame m #[(.ref a1), (.ref a2), (.int (0 : Int32)), (.int (2 : Int32)), .null] 6 = (mkF m 0 #[.val (.ref a1), .val (.ref a2), .val (.int (0 : Int32)), .val (.int (2 : Int32)), .val .null, .unset] []) := by first | (simp [entryFrame, mkF, argsToLocals, Value.category]; done) | rfl
def Q_sti2 (Z : State) (a1 : Addr) (a2 : Addr) (u1 u2 : Value) (G1 : Int32) (kC : ClassId) (c0 c1 : Int32) (h0 : Heap) (n0 : Nat) (v : Option Value) (h : Heap) (L : List Loc) : Prop := v = none ∧ Fr n0 L ∧ Keep h0 h [a1] ∧ Fld Z h a1 "java/lang/String" "coder" "B" (.int (0 : Int32)) ∧ ∃ b kB, h0.size ≤ b ∧ Fld Z h a1 "java/lang/String" "value" "[B" (.ref b) ∧ Arv Z h b kB .byte (2 : Int32) [(.int (c0).toInt8.toInt32), (.int (c1).toInt8.toInt32)] (.int (0 : Int32))
set_option maxRecDepth 65536 in
set_option maxHeartbeats 40000000 in
theorem rm_sti2 (l : Launch) (Z : State) (a0 : Array Value) (hw : ∀ d ∈ tables_1, d.before a0 Z = true) (ws : List Jvm.Cond) (a1 : Addr) (a2 : Addr) (u1 u2 : Value) (G1 : Int32) (kC : ClassId) (c0 c1 : Int32) (h0 : Heap) (n0 : Nat) (O0 : Old Z n0 h0) (E1 : Exa Z h0 a1 "java/lang/String") (F1 : Fld Z h0 a1 "java/lang/String" "value" "[B" u1) (F2 : Fld Z h0 a1 "java/lang/String" "coder" "B" u2) (g1 : n0 ≤ a1) (SC : Sta Z Z.heap "java/lang/String" "COMPACT_STRINGS" "Z" (.int G1)) (hG : ¬ G1 = (0 : Int32)) (VC : Arv Z h0 a2 kC .char (2 : Int32) [(.int c0), (.int c1)] (.int (0 : Int32))) (hc0 : ¬ (255 : Int32) < c0) (hc1 : ¬ (255 : Int32) < c1) :
    MetFree l (⟨"java/lang/String", "<init>", "([CIILjava/lang/Void;)V"⟩ : MethodName) (head1 (Jvm.Cond.code (⟨"java/lang/String", "<init>", "([CIILjava/lang/Void;)V"⟩ : MethodName) jdk_42_method_149_code 6 none :: ws) ({ frames := 2, cells := 1, slots := 2, locals := 36 } : Room)) (fun a U => a = #[(.ref a1), (.ref a2), (.int (0 : Int32)), (.int (2 : Int32)), .null] ∧ Z.Warmed39 U.vm ∧ U.heap = h0) (fun _ _ _ _ _ => True) (fun _ U o U' => ∃ v L, o = .returned v ∧ Q_sti2 Z a1 a2 u1 u2 G1 kC c0 c1 h0 n0 v U'.heap L ∧ FrameEnd U o U' L ({ frames := 2, cells := 1, slots := 2, locals := 36 } : Room).cells ({ frames := 2, cells := 1, slots := 2, locals := 36 } : Room).slots) := by
  refine MetFree.of_bodySF (plainFor_of_name pn_sti2) hisR ?_
  intro p e s m args below meth c s₁ Bd hml0 hP hK
  obtain ⟨rfl, hZ, hh⟩ := hP
  have hx := Bd.exec
  have hby := Bd.bytes
  have hml : c.maxLocals = 6 := hml0
  have hown : s.vm.findClass "java/lang/String" = some m.cls := findClass_of_methodNamed Bd.named
  have hnm := (name_of_methodNamed Bd.named Bd.method).1
  have X0 : Stand p l e ({ frames := 2, cells := 1, slots := 2, locals := 36 } : Room) s m #[(.ref a1), (.ref a2), (.int (0 : Int32)), (.int (2 : Int32)), .null] below meth c s₁ [] 0 0 := Stand.of_body Bd
  have e0 : s₁.heap = h0 := by rw [← hh, Bd.state]; rfl
  have N0 := Fr.nil n0
  have pre0 : ∀ t, Steps p.tables e below (s₁.setTop (mkF m 0 #[.val (.ref a1), .val (.ref a2), .val (.int (0 : Int32)), .val (.int (2 : Int32)), .val .null, .unset] [])) t → Steps p.tables e below (s₁.setTop (entryFrame m #[(.ref a1), (.ref a2), (.int (0 : Int32)), (.int (2 : Int32)), .null] 6)) t := fun t k => castTop (ef_sti2 m a1 a2) k
  generalize s₁.setTop (entryFrame m #[(.ref a1), (.ref a2), (.int (0 : Int32)), (.int (2 : Int32)), .null] 6) = E0 at pre0 ⊢
  have pre_1 : ∀ t, Sp p e below s₁ (mkF m 1 #[.val (.ref a1), .val (.ref a2), .val (.int (0 : Int32)), .val (.int (2 : Int32)), .val .null, .unset] [(.ref a1)]) t → Steps p.tables e below E0 t := by
    intro t k
    refine pre0 t ?_
    show Sp p e below s₁ (mkF m 0 #[.val (.ref a1), .val (.ref a2), .val (.int (0 : Int32)), .val (.int (2 : Int32)), .val .null, .unset] []) _
    refine XS.aloadN X0.here hx rfl (hb hby d_jdk_42_149_0) rfl rfl ?_
    exact k
  obtain ⟨T2, X2, e2, st2⟩ := initO X0 hx hZ hown (own_w hw 15 rfl) (own_w hw 16 rfl) (own_w hw 17 rfl) e0 (g := (mkF m 1 #[.val (.ref a1), .val (.ref a2), .val (.int (0 : Int32)), .val (.int (2 : Int32)), .val .null, .unset] [(.ref a1)])) rfl (by rw [hml]; rfl) rfl (hb hby d_jdk_42_149_1) (by decide) (W := 0) (by show 2 * 0 + _ ≤ _; exact Nat.le_of_eq rfl) (by decide)
  have pre_3 : ∀ t, Sp p e below T2 (mkF m 4 #[.val (.ref a1), .val (.ref a2), .val (.int (0 : Int32)), .val (.int (2 : Int32)), .val .null, .unset] []) t → Steps p.tables e below E0 t := fun t k => pre_1 t (st2 t k)
  have pre_4 : ∀ t, Sp p e below T2 (mkF m 27 #[.val (.ref a1), .val (.ref a2), .val (.int (0 : Int32)), .val (.int (2 : Int32)), .val .null, .unset] []) t → Steps p.tables e below E0 t := by
    intro t k
    refine pre_3 t ?_
    show Sp p e below T2 (mkF m 4 #[.val (.ref a1), .val (.ref a2), .val (.int (0 : Int32)), .val (.int (2 : Int32)), .val .null, .unset] []) _
    refine XS.iloadN X2.here hx rfl (hb hby d_jdk_42_149_4) rfl ?_
    refine XS.ifYes X2.here hx rfl (pc0 := 5) (pc' := 27) rfl (hb hby d_jdk_42_149_5) rfl (XT.i0_ne_t (by decide)) (by decide) (by decide) ?_
    exact k
  obtain ⟨T5, X5, e5, st5⟩ := getS X2 hx hZ hown (host := "") (own_w hw 29 rfl) Via.refl e2 (SC.ext O0.2) (g := (mkF m 27 #[.val (.ref a1), .val (.ref a2), .val (.int (0 : Int32)), .val (.int (2 : Int32)), .val .null, .unset] [])) rfl (hb hby d_jdk_42_149_27)
  have pre_6 : ∀ t, Sp p e below T5 (mkF m 30 #[.val (.ref a1), .val (.ref a2), .val (.int (0 : Int32)), .val (.int (2 : Int32)), .val .null, .unset] [(.int G1)]) t → Steps p.tables e below E0 t := fun t k => pre_4 t (st5 t k)
  have pre_7 : ∀ t, Sp p e below T5 (mkF m 36 #[.val (.ref a1), .val (.ref a2), .val (.int (0 : Int32)), .val (.int (2 : Int32)), .val .null, .unset] [(.int (2 : Int32)), (.int (0 : Int32)), (.ref a2)]) t → Steps p.tables e below E0 t := by
    intro t k
    refine pre_6 t ?_
    show Sp p e below T5 (mkF m 30 #[.val (.ref a1), .val (.ref a2), .val (.int (0 : Int32)), .val (.int (2 : Int32)), .val .null, .unset] [(.int G1)]) _
    refine XS.ifNo X5.here hx rfl (hb hby d_jdk_42_149_30) rfl (XT.i0_eq_f hG) ?_
    show Sp p e below T5 (mkF m 33 #[.val (.ref a1), .val (.ref a2), .val (.int (0 : Int32)), .val (.int (2 : Int32)), .val .null, .unset] []) _
    refine XS.aloadN X5.here hx rfl (hb hby d_jdk_42_149_33) rfl rfl ?_
    refine XS.iloadN X5.here hx rfl (hb hby d_jdk_42_149_34) rfl ?_
    refine XS.iloadN X5.here hx rfl (hb hby d_jdk_42_149_35) rfl ?_
    exact k
  obtain ⟨_, _, ⟨T8, L8, k8, n8⟩, -, X8, ⟨Lc8, hQ8, l8, y8, z8⟩, st8⟩ := Jvm.LawKit.callS X5 hx (y := (⟨"java/lang/StringUTF16", "compress", "([CII)[B"⟩ : MethodName)) hown (mvT hZ (own_w hw 30 rfl)) (mvT hZ (own_w hw 31 rfl)) (mvT hZ (own_w hw 32 rfl)) (mvT hZ (own_w hw 33 rfl)) (by decide) (backOf (W := 0) (rm_cmpb2 l Z a0 hw [] a2 kC c0 c1 h0 n0 O0 VC hc0 hc1) hZ (own_w hw 33 rfl) (own_w hw 32 rfl) (by decide) (by decide)) (g := (mkF m 36 #[.val (.ref a1), .val (.ref a2), .val (.int (0 : Int32)), .val (.int (2 : Int32)), .val .null, .unset] [(.int (2 : Int32)), (.int (0 : Int32)), (.ref a2)])) rfl (by rw [hml]; rfl) (argsL := [(.ref a2), (.int (0 : Int32)), (.int (2 : Int32))]) (rest := []) (lenOf pd_sti2_0 rfl) rfl (by show 2 * 0 + _ ≤ _; exact Nat.le_of_eq rfl) (hb hby d_jdk_42_149_36) (fun _ _ => ⟨rfl, e5, (by decide : 0 + 1 ≤ _), (by decide : 0 + 2 ≤ _)⟩)
  dsimp only [Pt.U, Pt.locs, Pt.cells, Pt.slots] at X8 l8 y8 z8 st8 hQ8
  subst l8 y8 z8
  obtain ⟨b8, kB8, rfl, N8q, K8, sb8, Vb8⟩ := hQ8
  have N8 := Fr.app N0 N8q
  have O8 : Old Z n0 T8.heap := O0.keep K8 all0
  have pre_9 : ∀ t, Sp p e below T8 (mkF m 39 #[.val (.ref a1), .val (.ref a2), .val (.int (0 : Int32)), .val (.int (2 : Int32)), .val .null, .unset] [(.ref b8)]) t → Steps p.tables e below E0 t := fun t k => pre_7 t (st8 t k)
  have pre_10 : ∀ t, Sp p e below T8 (mkF m 45 #[.val (.ref a1), .val (.ref a2), .val (.int (0 : Int32)), .val (.int (2 : Int32)), .val .null, .val (.ref b8)] [(.int (2 : Int32)), (.ref b8), (.ref a1)]) t → Steps p.tables e below E0 t := by
    intro t k
    refine pre_9 t ?_
    show Sp p e below T8 (mkF m 39 #[.val (.ref a1), .val (.ref a2), .val (.int (0 : Int32)), .val (.int (2 : Int32)), .val .null, .unset] [(.ref b8)]) _
    refine XS.astore X8.here hx rfl (hb hby d_jdk_42_149_39) rfl rfl (l' := #[.val (.ref a1), .val (.ref a2), .val (.int (0 : Int32)), .val (.int (2 : Int32)), .val .null, .val (.ref b8)]) rfl ?_
    show Sp p e below T8 (mkF m 41 #[.val (.ref a1), .val (.ref a2), .val (.int (0 : Int32)), .val (.int (2 : Int32)), .val .null, .val (.ref b8)] []) _
    refine XS.aloadN X8.here hx rfl (hb hby d_jdk_42_149_41) rfl rfl ?_
    refine XS.aload X8.here hx rfl (hb hby d_jdk_42_149_42) rfl rfl ?_
    refine XS.iloadN X8.here hx rfl (hb hby d_jdk_42_149_44) rfl ?_
    exact k
  obtain ⟨_, _, ⟨T11, L11, k11, n11⟩, -, X11, ⟨Lc11, hQ11, l11, y11, z11⟩, st11⟩ := Jvm.LawKit.callS X8 hx (y := (⟨"java/lang/StringUTF16", "coderFromArrayLen", "([BI)B"⟩ : MethodName)) hown (mvT hZ (own_w hw 37 rfl)) (mvT hZ (own_w hw 38 rfl)) (mvT hZ (own_w hw 32 rfl)) (mvT hZ (own_w hw 39 rfl)) (by decide) (backOf (W := 1) (rm_cfa2 l Z a0 hw [] b8 kB8 c0 c1 T8.heap n0 O8 Vb8) hZ (own_w hw 39 rfl) (own_w hw 32 rfl) (by decide) (by decide)) (g := (mkF m 45 #[.val (.ref a1), .val (.ref a2), .val (.int (0 : Int32)), .val (.int (2 : Int32)), .val .null, .val (.ref b8)] [(.int (2 : Int32)), (.ref b8), (.ref a1)])) rfl (by rw [hml]; rfl) (argsL := [(.ref b8), (.int (2 : Int32))]) (rest := [(.ref a1)]) (lenOf pd_sti2_1 rfl) rfl (by show 2 * 0 + _ ≤ _; exact Nat.le_of_eq rfl) (hb hby d_jdk_42_149_45) (fun _ _ => ⟨rfl, rfl, (by decide : 1 + 0 ≤ _), (by decide : 2 + 0 ≤ _)⟩)
  dsimp only [Pt.U, Pt.locs, Pt.cells, Pt.slots] at X11 l11 y11 z11 st11 hQ11
  subst l11 y11 z11
  obtain ⟨rfl, N11q, e11⟩ := hQ11
  have N11 := Fr.app N8 N11q
  have pre_12 : ∀ t, Sp p e below T11 (mkF m 48 #[.val (.ref a1), .val (.ref a2), .val (.int (0 : Int32)), .val (.int (2 : Int32)), .val .null, .val (.ref b8)] [(.int (0 : Int32)), (.ref a1)]) t → Steps p.tables e below E0 t := fun t k => pre_10 t (st11 t k)
  obtain ⟨T13, h13, X13, e13, W13, st13⟩ := putF X11 hx hZ hown (host := "") (Or.inl (own_w hw 25 rfl)) Via.refl e11 (F2.keep K8 nin0) (E1.keep K8) (Or.inr ⟨(own_w hw 21 rfl), rfl, hnm⟩) (own_w hw 5 rfl) (ty := .byte) (by decide) rfl rfl (g := (mkF m 48 #[.val (.ref a1), .val (.ref a2), .val (.int (0 : Int32)), .val (.int (2 : Int32)), .val .null, .val (.ref b8)] [(.int (0 : Int32)), (.ref a1)])) rfl rfl (hb hby d_jdk_42_149_48)
  have Fw13 := (F2.keep K8 nin0).same W13
  have N13 := Fr.snoc X13 N11 g1
  have O13 : Old Z n0 h13 := O8.wr W13 g1
  have pre_14 : ∀ t, Sp p e below T13 (mkF m 51 #[.val (.ref a1), .val (.ref a2), .val (.int (0 : Int32)), .val (.int (2 : Int32)), .val .null, .val (.ref b8)] []) t → Steps p.tables e below E0 t := fun t k => pre_12 t (st13 t k)
  have pre_15 : ∀ t, Sp p e below T13 (mkF m 54 #[.val (.ref a1), .val (.ref a2), .val (.int (0 : Int32)), .val (.int (2 : Int32)), .val .null, .val (.ref b8)] [(.ref b8), (.ref a1)]) t → Steps p.tables e below E0 t := by
    intro t k
    refine pre_14 t ?_
    show Sp p e below T13 (mkF m 51 #[.val (.ref a1), .val (.ref a2), .val (.int (0 : Int32)), .val (.int (2 : Int32)), .val .null, .val (.ref b8)] []) _
    refine XS.aloadN X13.here hx rfl (hb hby d_jdk_42_149_51) rfl rfl ?_
    show Sp p e below T13 (mkF m 52 #[.val (.ref a1), .val (.ref a2), .val (.int (0 : Int32)), .val (.int (2 : Int32)), .val .null, .val (.ref b8)] [(.ref a1)]) _
    refine XS.aload X13.here hx rfl (hb hby d_jdk_42_149_52) rfl rfl ?_
    exact k
  obtain ⟨T16, h16, X16, e16, W16, st16⟩ := putF X13 hx hZ hown (host := "") (Or.inl (own_w hw 24 rfl)) Via.refl e13 ((F1.keep K8 nin0).other W13 (Or.inr (slot_ne (Or.inr (own_w hw 20 rfl)) (Or.inr (own_w hw 21 rfl)) (by decide) (t := (.array .byte)) (t' := .byte) (by decide) (by decide)))) ((E1.keep K8).wr W13) (Or.inr ⟨(own_w hw 20 rfl), rfl, hnm⟩) (own_w hw 5 rfl) (ty := (.array .byte)) (by decide) rfl rfl (g := (mkF m 54 #[.val (.ref a1), .val (.ref a2), .val (.int (0 : Int32)), .val (.int (2 : Int32)), .val .null, .val (.ref b8)] [(.ref b8), (.ref a1)])) rfl rfl (hb hby d_jdk_42_149_54)
  have Fw16 := ((F1.keep K8 nin0).other W13 (Or.inr (slot_ne (Or.inr (own_w hw 20 rfl)) (Or.inr (own_w hw 21 rfl)) (by decide) (t := (.array .byte)) (t' := .byte) (by decide) (by decide)))).same W16
  have N16 := Fr.snoc X16 N13 g1
  have O16 : Old Z n0 h16 := O13.wr W16 g1
  have pre_17 : ∀ t, Sp p e below T16 (mkF m 57 #[.val (.ref a1), .val (.ref a2), .val (.int (0 : Int32)), .val (.int (2 : Int32)), .val .null, .val (.ref b8)] []) t → Steps p.tables e below E0 t := fun t k => pre_15 t (st16 t k)
  obtain ⟨fs, hr, hrun, hended, hW, hsame⟩ := X16.leave (v := none) (fun _ => rfl)
  refine ⟨_, _, pre_17 _ ?_, hrun, hended, _, _, rfl, ?_, ⟨_, rfl⟩, hW, hsame.mono (by decide) (by decide)⟩
  · show Sp p e below T16 (mkF m 57 #[.val (.ref a1), .val (.ref a2), .val (.int (0 : Int32)), .val (.int (2 : Int32)), .val .null, .val (.ref b8)] []) _
    exact X16.returnOut hx Bd.returns (hb hby d_jdk_42_149_57) hr
  · show Q_sti2 Z _ _ _ _ _ _ _ _ h0 n0 _ T16.heap _
    rw [e16]
    exact ⟨rfl, N16, ((((Keep.refl h0 [a1]).trans K8 all0).wr W13 (Or.inl (List.mem_of_getElem? (i := 0) rfl))).wr W16 (Or.inl (List.mem_of_getElem? (i := 0) rfl))), (Fw13.other W16 (Or.inr (slot_ne (Or.inr (own_w hw 21 rfl)) (Or.inr (own_w hw 20 rfl)) (by decide) (t := .byte) (t' := (.array .byte)) (by decide) (by decide)))), b8, kB8, (Nat.le_trans (Keep.refl h0 [a1]).1 sb8), Fw16, ((Vb8.other W13 (Ne.symm (Nat.ne_of_lt (Nat.lt_of_lt_of_le E1.lt sb8)))).other W16 (Ne.symm (Nat.ne_of_lt (Nat.lt_of_lt_of_le E1.lt sb8))))⟩
theorem pn_str2 : plainName "java/lang/String" = true := by first | (simp [plainName, overriddenIn]; done) | decide +kernel
theorem pd_str2_0 : parseMethodDescriptor "([CIILjava/lang/Void;)V" = some ⟨[(.array .char), .int, .int, (.object "java/lang/Void")], none⟩ := by decide +kernel
theorem ef_str2 (m : MethodId) (a1 : Addr) (a2 : Addr) : entryFrame m #[(.ref a1), (.ref a2)] 2 = (mkF m 0 #[.val (.ref a1), .val (.ref a2)] []) := by first | (simp [entryFrame, mkF, argsToLocals, Value.category]; done) | rfl
def Q_str2 (Z : State) (a1 : Addr) (a2 : Addr) (u1 u2 : Value) (G1 : Int32) (kC : ClassId) (c0 c1 : Int32) (h0 : Heap) (n0 : Nat) (v : Option Value) (h : Heap) (L : List Loc) : Prop := v = none ∧ Fr n0 L ∧ Keep h0 h [a1] ∧ Fld Z h a1 "java/lang/String" "coder" "B" (.int (0 : Int32)) ∧ ∃ b kB, h0.size ≤ b ∧ Fld Z h a1 "java/lang/String" "value" "[B" (.ref b) ∧ Arv Z h b kB .byte (2 : Int32) [(.int (c0).toInt8.toInt32), (.int (c1).toInt8.toInt32)] (.int (0 : Int32))
set_option maxRecDepth 65536 in
set_option maxHeartbeats 40000000 in
theorem rm_str2 (l : Launch) (Z : State) (a0 : Array Value) (hw : ∀ d ∈ tables_1, d.before a0 Z = true) (ws : List Jvm.Cond) (a1 : Addr) (a2 : Addr) (u1 u2 : Value) (G1 : Int32) (kC : ClassId) (c0 c1 : Int32) (h0 : Heap) (n0 : Nat) (O0 : Old Z n0 h0) (E1 : Exa Z h0 a1 "java/lang/String") (F1 : Fld Z h0 a1 "java/lang/String" "value" "[B" u1) (F2 : Fld Z h0 a1 "java/lang/String" "coder" "B" u2) (g1 : n0 ≤ a1) (SC : Sta Z Z.heap "java/lang/String" "COMPACT_STRINGS" "Z" (.int G1)) (hG : ¬ G1 = (0 : Int32)) (VC : Arv Z h0 a2 kC .char (2 : Int32) [(.int c0), (.int c1)] (.int (0 : Int32))) (hc0 : ¬ (255 : Int32) < c0) (hc1 : ¬ (255 : Int32) < c1) :
    MetFree l (⟨"java/lang/String", "<init>", "([C)V"⟩ : MethodName) (head1 (Jvm.Cond.code (⟨"java/lang/String", "<init>", "([C)V"⟩ : MethodName) jdk_42_method_3_code 2 none :: ws) ({ frames := 3, cells := 1, slots := 2, locals := 53 } : Room)) (fun a U => a = #[(.ref a1), (.ref a2)] ∧ Z.Warmed39 U.vm ∧ U.heap = h0) (fun _ _ _ _ _ => True) (fun _ U o U' => ∃ v L, o = .returned v ∧ Q_str2 Z a1 a2 u1 u2 G1 kC c0 c1 h0 n0 v U'.heap L ∧ FrameEnd U o U' L ({ frames := 3, cells := 1, slots := 2, locals := 53 } : Room).cells ({ frames := 3, cells := 1, slots := 2, locals := 53 } : Room).slots) := by
  refine MetFree.of_bodySF (plainFor_of_name pn_str2) hisR ?_
  intro p e s m args below meth c s₁ Bd hml0 hP hK
  obtain ⟨rfl, hZ, hh⟩ := hP
  have hx := Bd.exec
  have hby := Bd.bytes
  have hml : c.maxLocals = 2 := hml0
  have hown : s.vm.findClass "java/lang/String" = some m.cls := findClass_of_methodNamed Bd.named
  have hnm := (name_of_methodNamed Bd.named Bd.method).1
  have X0 : Stand p l e ({ frames := 3, cells := 1, slots := 2, locals := 53 } : Room) s m #[(.ref a1), (.ref a2)] below meth c s₁ [] 0 0 := Stand.of_body Bd
  have e0 : s₁.heap = h0 := by rw [← hh, Bd.state]; rfl
  have N0 := Fr.nil n0
  have pre0 : ∀ t, Steps p.tables e below (s₁.setTop (mkF m 0 #[.val (.ref a1), .val (.ref a2)] [])) t → Steps p.tables e below (s₁.setTop (entryFrame m #[(.ref a1), (.ref a2)] 2)) t := fun t k => castTop (ef_str2 m a1 a2) k
  generalize s₁.setTop (entryFrame m #[(.ref a1), (.ref a2)] 2) = E0 at pre0 ⊢
  have pre_2 : ∀ t, Sp p e below s₁ (mkF m 6 #[.val (.ref a1), .val (.ref a2)] [.null, (.int (2 : Int32)), (.int (0 : Int32)), (.ref a2), (.ref a1)]) t → Steps p.tables e below E0 t := by
    intro t k
    refine pre0 t ?_
    show Sp p e below s₁ (mkF m 0 #[.val (.ref a1), .val (.ref a2)] []) _
    refine XS.aloadN X0.here hx rfl (hb hby d_jdk_42_3_0) rfl rfl ?_
    refine XS.aloadN X0.here hx rfl (hb hby d_jdk_42_3_1) rfl rfl ?_
    refine XS.iconst X0.here hx rfl (hb hby d_jdk_42_3_2) ?_
    refine XS.aloadN X0.here hx rfl (hb hby d_jdk_42_3_3) rfl rfl ?_
    show Sp p e below s₁ (mkF m 4 #[.val (.ref a1), .val (.ref a2)] [(.ref a2), (.int (0 : Int32)), (.ref a2), (.ref a1)]) _
    obtain ⟨cl1, Ar1, -, S1, M1, -, -⟩ := id VC
    refine X0.arraylength hx (cell := cl1) (by rw [e0]; exact Ar1.1) (State.isArrayOf_alike hZ.alike Ar1.2.1) (g := (mkF m 4 #[.val (.ref a1), .val (.ref a2)] [(.ref a2), (.int (0 : Int32)), (.ref a2), (.ref a1)])) rfl (rest := [(.int (0 : Int32)), (.ref a2), (.ref a1)]) rfl (hb hby d_jdk_42_3_4) _ ?_
    rw [len_of S1 M1]
    show Sp p e below s₁ (mkF m 5 #[.val (.ref a1), .val (.ref a2)] [(.int (2 : Int32)), (.int (0 : Int32)), (.ref a2), (.ref a1)]) _
    refine XS.aconstNull X0.here hx rfl (hb hby d_jdk_42_3_5) ?_
    exact k
  obtain ⟨_, _, ⟨T3, L3, k3, n3⟩, -, X3, ⟨Lc3, hQ3, l3, y3, z3⟩, st3⟩ := X0.specialBack hx (y := (⟨"java/lang/String", "<init>", "([CIILjava/lang/Void;)V"⟩ : MethodName)) rfl hown (mvT hZ (own_w hw 11 rfl)) (mvT hZ (own_w hw 12 rfl)) (mvT hZ (own_w hw 14 rfl)) (by decide) (backOf (W := 0) (rm_sti2 l Z a0 hw [] a1 a2 u1 u2 G1 kC c0 c1 h0 n0 O0 E1 F1 F2 g1 SC hG VC hc0 hc1) hZ (own_w hw 14 rfl) (own_w hw 6 rfl) (by decide) (by decide)) (g := (mkF m 6 #[.val (.ref a1), .val (.ref a2)] [.null, (.int (2 : Int32)), (.int (0 : Int32)), (.ref a2), (.ref a1)])) rfl (by rw [hml]; rfl) (Steps.refl _) (a := a1) (argsL := [(.ref a2), (.int (0 : Int32)), (.int (2 : Int32)), .null]) (rest := []) (lenOf pd_str2_0 rfl) rfl (by show 2 * 0 + _ ≤ _; exact Nat.le_of_eq rfl) (hb hby d_jdk_42_3_6) (fun _ _ => ⟨rfl, e0, (by decide : 0 + 1 ≤ _), (by decide : 0 + 2 ≤ _)⟩)
  dsimp only [Pt.U, Pt.locs, Pt.cells, Pt.slots] at X3 l3 y3 z3 st3 hQ3
  subst l3 y3 z3
  obtain ⟨rfl, N3q, K3, Fc3, b3, kB3, sb3, Fv3, Vb3⟩ := hQ3
  have N3 := Fr.app N0 N3q
  have O3 : Old Z n0 T3.heap := O0.keep K3 (allS g1 all0)
  have pre_4 : ∀ t, Sp p e below T3 (mkF m 9 #[.val (.ref a1), .val (.ref a2)] []) t → Steps p.tables e below E0 t := fun t k => pre_2 t (st3.trans k)
  obtain ⟨fs, hr, hrun, hended, hW, hsame⟩ := X3.leave (v := none) (fun _ => rfl)
  refine ⟨_, _, pre_4 _ ?_, hrun, hended, _, _, rfl, ?_, ⟨_, rfl⟩, hW, hsame.mono (by decide) (by decide)⟩
  · show Sp p e below T3 (mkF m 9 #[.val (.ref a1), .val (.ref a2)] []) _
    exact X3.returnOut hx Bd.returns (hb hby d_jdk_42_3_9) hr
  · show Q_str2 Z _ _ _ _ _ _ _ _ h0 n0 _ T3.heap _
    exact ⟨rfl, N3, ((Keep.refl h0 [a1]).trans K3 (allS (Or.inl (List.mem_of_getElem? (i := 0) rfl)) all0)), Fc3, b3, kB3, sb3, Fv3, Vb3⟩
theorem pn_cmpa3 : plainName "java/lang/StringUTF16" = true := by first | (simp [plainName, overriddenIn]; done) | decide +kernel
theorem ef_cmpa3 (m : MethodId) (a1 : Addr) (a3 : Addr) : entryFrame m #[(.ref a1), (.int (0 : Int32)), (.ref a3), (.int (0 : Int32)), (.int (3 : Int32))] 7 = (mkF m 0 #[.val (.ref a1), .val (.int (0 : Int32)), .val (.ref a3), .val (.int (0 : Int32)), .val (.int (3 : Int32)), .unset, .unset] []) := by first | (simp [entryFrame, mkF, argsToLocals, Value.category]; done) | rfl
def Q_cmpa3 (Z : State) (a1 : Addr) (a3 : Addr) (kC kB : ClassId) (c0 c1 c2 : Int32) (h0 : Heap) (n0 : Nat) (v : Option Value) (h : Heap) (L : List Loc) : Prop := v = some (.int (3 : Int32)) ∧ Fr n0 L ∧ Keep h0 h [a3] ∧ Arv Z h a3 kB .byte (3 : Int32) [(.int (c0).toInt8.toInt32), (.int (c1).toInt8.toInt32), (.int (c2).toInt8.toInt32)] (.int (0 : Int32))
set_option maxRecDepth 65536 in
set_option maxHeartbeats 40000000 in
theorem rm_cmpa3 (l : Launch) (Z : State) (a0 : Array Value) (hw : ∀ d ∈ tables_1, d.before a0 Z = true) (ws : List Jvm.Cond) (a1 : Addr) (a3 : Addr) (kC kB : ClassId) (c0 c1 c2 : Int32) (h0 : Heap) (n0 : Nat) (O0 : Old Z n0 h0) (VC : Arv Z h0 a1 kC .char (3 : Int32) [(.int c0), (.int c1), (.int c2)] (.int (0 : Int32))) (VB : Arv Z h0 a3 kB .byte (3 : Int32) [(.int (0 : Int32)), (.int (0 : Int32)), (.int (0 : Int32))] (.int (0 : Int32))) (g3 : n0 ≤ a3) (ne13 : a1 ≠ a3) (hc0 : ¬ (255 : Int32) < c0) (hc1 : ¬ (255 : Int32) < c1) (hc2 : ¬ (255 : Int32) < c2) :
    MetFree l (⟨"java/lang/StringUTF16", "compress", "([CI[BII)I"⟩ : MethodName) (head1 (Jvm.Cond.code (⟨"java/lang/StringUTF16", "compress", "([CI[BII)I"⟩ : MethodName) jdk_52_method_21_code 7 (some .int) :: ws) ({ frames := 0, cells := 0, slots := 0, locals := 0 } : Room)) (fun a U => a = #[(.ref a1), (.int (0 : Int32)), (.ref a3), (.int (0 : Int32)), (.int (3 : Int32))] ∧ Z.Warmed39 U.vm ∧ U.heap = h0) (fun _ _ _ _ _ => True) (fun _ U o U' => ∃ v L, o = .returned v ∧ Q_cmpa3 Z a1 a3 kC kB c0 c1 c2 h0 n0 v U'.heap L ∧ FrameEnd U o U' L ({ frames := 0, cells := 0, slots := 0, locals := 0 } : Room).cells ({ frames := 0, cells := 0, slots := 0, locals := 0 } : Room).slots) := by
  refine MetFree.of_bodySF (plainFor_of_name pn_cmpa3) hisR ?_
  intro p e s m args below meth c s₁ Bd hml0 hP hK
  obtain ⟨rfl, hZ, hh⟩ := hP
  have hx := Bd.exec
  have hby := Bd.bytes
  have hml : c.maxLocals = 7 := hml0
  have hown : s.vm.findClass "java/lang/StringUTF16" = some m.cls := findClass_of_methodNamed Bd.named
  have hnm := (name_of_methodNamed Bd.named Bd.method).1
  have X0 : Stand p l e ({ frames := 0, cells := 0, slots := 0, locals := 0 } : Room) s m #[(.ref a1), (.int (0 : Int32)), (.ref a3), (.int (0 : Int32)), (.int (3 : Int32))] below meth c s₁ [] 0 0 := Stand.of_body Bd
  have e0 : s₁.heap = h0 := by rw [← hh, Bd.state]; rfl
  have N0 := Fr.nil n0
  have pre0 : ∀ t, Steps p.tables e below (s₁.setTop (mkF m 0 #[.val (.ref a1), .val (.int (0 : Int32)), .val (.ref a3), .val (.int (0 : Int32)), .val (.int (3 : Int32)), .unset, .unset] [])) t → Steps p.tables e below (s₁.setTop (entryFrame m #[(.ref a1), (.int (0 : Int32)), (.ref a3), (.int (0 : Int32)), (.int (3 : Int32))] 7)) t := fun t k => castTop (ef_cmpa3 m a1 a3) k
  generalize s₁.setTop (entryFrame m #[(.ref a1), (.int (0 : Int32)), (.ref a3), (.int (0 : Int32)), (.int (3 : Int32))] 7) = E0 at pre0 ⊢
  have pre_2 : ∀ t, Sp p e below s₁ (mkF m 31 #[.val (.ref a1), .val (.int (0 : Int32)), .val (.ref a3), .val (.int (0 : Int32)), .val (.int (3 : Int32)), .val (.int (0 : Int32)), .val (.int c0)] [(.int ((c0).toInt8.toInt32)), (.int (0 : Int32)), (.ref a3)]) t → Steps p.tables e below E0 t := by
    intro t k
    refine pre0 t ?_
    show Sp p e below s₁ (mkF m 0 #[.val (.ref a1), .val (.int (0 : Int32)), .val (.ref a3), .val (.int (0 : Int32)), .val (.int (3 : Int32)), .unset, .unset] []) _
    refine XS.iconst X0.here hx rfl (hb hby d_jdk_52_21_0) ?_
    refine XS.istore X0.here hx rfl (hb hby d_jdk_52_21_1) rfl (l' := #[.val (.ref a1), .val (.int (0 : Int32)), .val (.ref a3), .val (.int (0 : Int32)), .val (.int (3 : Int32)), .val (.int (0 : Int32)), .unset]) rfl ?_
    refine XS.iload X0.here hx rfl (hb hby d_jdk_52_21_3) rfl ?_
    refine XS.iload X0.here hx rfl (hb hby d_jdk_52_21_5) rfl ?_
    show Sp p e below s₁ (mkF m 7 #[.val (.ref a1), .val (.int (0 : Int32)), .val (.ref a3), .val (.int (0 : Int32)), .val (.int (3 : Int32)), .val (.int (0 : Int32)), .unset] [(.int (3 : Int32)), (.int (0 : Int32))]) _
    refine XS.icmpNo X0.here hx rfl (hb hby d_jdk_52_21_7) rfl (XT.ii_ge_f (by decide)) ?_
    refine XS.aloadN X0.here hx rfl (hb hby d_jdk_52_21_10) rfl rfl ?_
    refine XS.iloadN X0.here hx rfl (hb hby d_jdk_52_21_11) rfl ?_
    obtain ⟨cl1, Ar1, -, S1, -, H1, -⟩ := id VC
    have hin1 : ¬ ((0 : Int32) < 0 ∨ cl1.slots.size ≤ ((0 : Int32)).toNatClampNeg) := inb_of S1 (by decide)
    refine X0.caload hx (j := (0 : Int32)) (v := (.int c0)) (by rw [e0]; exact Ar1.1) (State.isArrayOf_alike hZ.alike Ar1.2.1) Ar1.2.2 hin1 (H1.at hin1 rfl) (g := (mkF m 12 #[.val (.ref a1), .val (.int (0 : Int32)), .val (.ref a3), .val (.int (0 : Int32)), .val (.int (3 : Int32)), .val (.int (0 : Int32)), .unset] [(.int (0 : Int32)), (.ref a1)])) rfl rfl (hb hby d_jdk_52_21_12) _ ?_
    show Sp p e below s₁ (mkF m 13 #[.val (.ref a1), .val (.int (0 : Int32)), .val (.ref a3), .val (.int (0 : Int32)), .val (.int (3 : Int32)), .val (.int (0 : Int32)), .unset] [(.int c0)]) _
    refine XS.istore X0.here hx rfl (hb hby d_jdk_52_21_13) rfl (l' := #[.val (.ref a1), .val (.int (0 : Int32)), .val (.ref a3), .val (.int (0 : Int32)), .val (.int (3 : Int32)), .val (.int (0 : Int32)), .val (.int c0)]) rfl ?_
    refine XS.iload X0.here hx rfl (hb hby d_jdk_52_21_15) rfl ?_
    refine XS.sipush X0.here hx rfl (hb hby d_jdk_52_21_17) ?_
    refine XS.icmpYes X0.here hx rfl (pc0 := 20) (pc' := 26) rfl (hb hby d_jdk_52_21_20) rfl (XT.ii_le_t hc0) (by decide) (by decide) ?_
    show Sp p e below s₁ (mkF m 26 #[.val (.ref a1), .val (.int (0 : Int32)), .val (.ref a3), .val (.int (0 : Int32)), .val (.int (3 : Int32)), .val (.int (0 : Int32)), .val (.int c0)] []) _
    refine XS.aloadN X0.here hx rfl (hb hby d_jdk_52_21_26) rfl rfl ?_
    refine XS.iloadN X0.here hx rfl (hb hby d_jdk_52_21_27) rfl ?_
    refine XS.iload X0.here hx rfl (hb hby d_jdk_52_21_28) rfl ?_
    refine XT.i2b X0.here hx rfl (hb hby d_jdk_52_21_30) rfl ?_
    show Sp p e below s₁ (mkF m 31 #[.val (.ref a1), .val (.int (0 : Int32)), .val (.ref a3), .val (.int (0 : Int32)), .val (.int (3 : Int32)), .val (.int (0 : Int32)), .val (.int c0)] [(.int ((c0).toInt8.toInt32)), (.int (0 : Int32)), (.ref a3)]) _
    exact k
  obtain ⟨cl3, Ar3, q3, S3, M3, H3, G3⟩ := id VB
  obtain ⟨T3, h3, X3, e3, W3, st3⟩ := stB X0 hx hZ e0 Ar3 (j := (0 : Int32)) (inb_of S3 (by decide)) (g := (mkF m 31 #[.val (.ref a1), .val (.int (0 : Int32)), .val (.ref a3), .val (.int (0 : Int32)), .val (.int (3 : Int32)), .val (.int (0 : Int32)), .val (.int c0)] [(.int ((c0).toInt8.toInt32)), (.int (0 : Int32)), (.ref a3)])) rfl rfl (hb hby d_jdk_52_21_31)
  have N3 := Fr.snoc X3 N0 g3
  have O3 : Old Z n0 h3 := O0.wr W3 g3
  rw [(own_nb c0)] at W3
  have V3 : Arv Z h3 a3 kB .byte (3 : Int32) [(.int ((c0).toInt8.toInt32)), (.int (0 : Int32)), (.int (0 : Int32))] (.int (0 : Int32)) := Arv.set Ar3 q3 S3 M3 H3 G3 (by rw [← (own_nb c0)]; exact (fits_nar_byte _)) W3 0 rfl (Nat.le_of_ble_eq_true rfl)
  have pre_4 : ∀ t, Sp p e below T3 (mkF m 32 #[.val (.ref a1), .val (.int (0 : Int32)), .val (.ref a3), .val (.int (0 : Int32)), .val (.int (3 : Int32)), .val (.int (0 : Int32)), .val (.int c0)] []) t → Steps p.tables e below E0 t := fun t k => pre_2 t (st3 t k)
  have pre_6 : ∀ t, Sp p e below T3 (mkF m 31 #[.val (.ref a1), .val (.int (1 : Int32)), .val (.ref a3), .val (.int (1 : Int32)), .val (.int (3 : Int32)), .val (.int (1 : Int32)), .val (.int c1)] [(.int ((c1).toInt8.toInt32)), (.int (1 : Int32)), (.ref a3)]) t → Steps p.tables e below E0 t := by
    intro t k
    refine pre_4 t ?_
    show Sp p e below T3 (mkF m 32 #[.val (.ref a1), .val (.int (0 : Int32)), .val (.ref a3), .val (.int (0 : Int32)), .val (.int (3 : Int32)), .val (.int (0 : Int32)), .val (.int c0)] []) _
    refine XS.iinc X3.here hx rfl (hb hby d_jdk_52_21_32) rfl (l' := #[.val (.ref a1), .val (.int (1 : Int32)), .val (.ref a3), .val (.int (0 : Int32)), .val (.int (3 : Int32)), .val (.int (0 : Int32)), .val (.int c0)]) rfl ?_
    refine XS.iinc X3.here hx rfl (hb hby d_jdk_52_21_35) rfl (l' := #[.val (.ref a1), .val (.int (1 : Int32)), .val (.ref a3), .val (.int (1 : Int32)), .val (.int (3 : Int32)), .val (.int (0 : Int32)), .val (.int c0)]) rfl ?_
    refine XS.iinc X3.here hx rfl (hb hby d_jdk_52_21_38) rfl (l' := #[.val (.ref a1), .val (.int (1 : Int32)), .val (.ref a3), .val (.int (1 : Int32)), .val (.int (3 : Int32)), .val (.int (1 : Int32)), .val (.int c0)]) rfl ?_
    refine XS.goto X3.here hx rfl (pc0 := 41) (pc' := 3) rfl (hb hby d_jdk_52_21_41) (by decide) (by decide) ?_
    show Sp p e below T3 (mkF m 3 #[.val (.ref a1), .val (.int (1 : Int32)), .val (.ref a3), .val (.int (1 : Int32)), .val (.int (3 : Int32)), .val (.int (1 : Int32)), .val (.int c0)] []) _
    refine XS.iload X3.here hx rfl (hb hby d_jdk_52_21_3) rfl ?_
    refine XS.iload X3.here hx rfl (hb hby d_jdk_52_21_5) rfl ?_
    refine XS.icmpNo X3.here hx rfl (hb hby d_jdk_52_21_7) rfl (XT.ii_ge_f (by decide)) ?_
    refine XS.aloadN X3.here hx rfl (hb hby d_jdk_52_21_10) rfl rfl ?_
    show Sp p e below T3 (mkF m 11 #[.val (.ref a1), .val (.int (1 : Int32)), .val (.ref a3), .val (.int (1 : Int32)), .val (.int (3 : Int32)), .val (.int (1 : Int32)), .val (.int c0)] [(.ref a1)]) _
    refine XS.iloadN X3.here hx rfl (hb hby d_jdk_52_21_11) rfl ?_
    obtain ⟨cl5, Ar5, -, S5, -, H5, -⟩ := id (VC.other W3 ne13)
    have hin5 : ¬ ((1 : Int32) < 0 ∨ cl5.slots.size ≤ ((1 : Int32)).toNatClampNeg) := inb_of S5 (by decide)
    refine X3.caload hx (j := (1 : Int32)) (v := (.int c1)) (by rw [e3]; exact Ar5.1) (State.isArrayOf_alike hZ.alike Ar5.2.1) Ar5.2.2 hin5 (H5.at hin5 rfl) (g := (mkF m 12 #[.val (.ref a1), .val (.int (1 : Int32)), .val (.ref a3), .val (.int (1 : Int32)), .val (.int (3 : Int32)), .val (.int (1 : Int32)), .val (.int c0)] [(.int (1 : Int32)), (.ref a1)])) rfl rfl (hb hby d_jdk_52_21_12) _ ?_
    refine XS.istore X3.here hx rfl (hb hby d_jdk_52_21_13) rfl (l' := #[.val (.ref a1), .val (.int (1 : Int32)), .val (.ref a3), .val (.int (1 : Int32)), .val (.int (3 : Int32)), .val (.int (1 : Int32)), .val (.int c1)]) rfl ?_
    refine XS.iload X3.here hx rfl (hb hby d_jdk_52_21_15) rfl ?_
    show Sp p e below T3 (mkF m 17 #[.val (.ref a1), .val (.int (1 : Int32)), .val (.ref a3), .val (.int (1 : Int32)), .val (.int (3 : Int32)), .val (.int (1 : Int32)), .val (.int c1)] [(.int c1)]) _
    refine XS.sipush X3.here hx rfl (hb hby d_jdk_52_21_17) ?_
    refine XS.icmpYes X3.here hx rfl (pc0 := 20) (pc' := 26) rfl (hb hby d_jdk_52_21_20) rfl (XT.ii_le_t hc1) (by decide) (by decide) ?_
    refine XS.aloadN X3.here hx rfl (hb hby d_jdk_52_21_26) rfl rfl ?_
    refine XS.iloadN X3.here hx rfl (hb hby d_jdk_52_21_27) rfl ?_
    show Sp p e below T3 (mkF m 28 #[.val (.ref a1), .val (.int (1 : Int32)), .val (.ref a3), .val (.int (1 : Int32)), .val (.int (3 : Int32)), .val (.int (1 : Int32)), .val (.int c1)] [(.int (1 : Int32)), (.ref a3)]) _
    refine XS.iload X3.here hx rfl (hb hby d_jdk_52_21_28) rfl ?_
    refine XT.i2b X3.here hx rfl (hb hby d_jdk_52_21_30) rfl ?_
    exact k
  obtain ⟨cl7, Ar7, q7, S7, M7, H7, G7⟩ := id V3
  obtain ⟨T7, h7, X7, e7, W7, st7⟩ := stB X3 hx hZ e3 Ar7 (j := (1 : Int32)) (inb_of S7 (by decide)) (g := (mkF m 31 #[.val (.ref a1), .val (.int (1 : Int32)), .val (.ref a3), .val (.int (1 : Int32)), .val (.int (3 : Int32)), .val (.int (1 : Int32)), .val (.int c1)] [(.int ((c1).toInt8.toInt32)), (.int (1 : Int32)), (.ref a3)])) rfl rfl (hb hby d_jdk_52_21_31)
  have N7 := Fr.snoc X7 N3 g3
  have O7 : Old Z n0 h7 := O3.wr W7 g3
  rw [(own_nb c1)] at W7
  have V7 : Arv Z h7 a3 kB .byte (3 : Int32) [(.int ((c0).toInt8.toInt32)), (.int ((c1).toInt8.toInt32)), (.int (0 : Int32))] (.int (0 : Int32)) := Arv.set Ar7 q7 S7 M7 H7 G7 (by rw [← (own_nb c1)]; exact (fits_nar_byte _)) W7 1 rfl (Nat.le_of_ble_eq_true rfl)
  have pre_8 : ∀ t, Sp p e below T7 (mkF m 32 #[.val (.ref a1), .val (.int (1 : Int32)), .val (.ref a3), .val (.int (1 : Int32)), .val (.int (3 : Int32)), .val (.int (1 : Int32)), .val (.int c1)] []) t → Steps p.tables e below E0 t := fun t k => pre_6 t (st7 t k)
  have pre_10 : ∀ t, Sp p e below T7 (mkF m 31 #[.val (.ref a1), .val (.int (2 : Int32)), .val (.ref a3), .val (.int (2 : Int32)), .val (.int (3 : Int32)), .val (.int (2 : Int32)), .val (.int c2)] [(.int ((c2).toInt8.toInt32)), (.int (2 : Int32)), (.ref a3)]) t → Steps p.tables e below E0 t := by
    intro t k
    refine pre_8 t ?_
    show Sp p e below T7 (mkF m 32 #[.val (.ref a1), .val (.int (1 : Int32)), .val (.ref a3), .val (.int (1 : Int32)), .val (.int (3 : Int32)), .val (.int (1 : Int32)), .val (.int c1)] []) _
    refine XS.iinc X7.here hx rfl (hb hby d_jdk_52_21_32) rfl (l' := #[.val (.ref a1), .val (.int (2 : Int32)), .val (.ref a3), .val (.int (1 : Int32)), .val (.int (3 : Int32)), .val (.int (1 : Int32)), .val (.int c1)]) rfl ?_
    refine XS.iinc X7.here hx rfl (hb hby d_jdk_52_21_35) rfl (l' := #[.val (.ref a1), .val (.int (2 : Int32)), .val (.ref a3), .val (.int (2 : Int32)), .val (.int (3 : Int32)), .val (.int (1 : Int32)), .val (.int c1)]) rfl ?_
    show Sp p e below T7 (mkF m 38 #[.val (.ref a1), .val (.int (2 : Int32)), .val (.ref a3), .val (.int (2 : Int32)), .val (.int (3 : Int32)), .val (.int (1 : Int32)), .val (.int c1)] []) _
    refine XS.iinc X7.here hx rfl (hb hby d_jdk_52_21_38) rfl (l' := #[.val (.ref a1), .val (.int (2 : Int32)), .val (.ref a3), .val (.int (2 : Int32)), .val (.int (3 : Int32)), .val (.int (2 : Int32)), .val (.int c1)]) rfl ?_
    refine XS.goto X7.here hx rfl (pc0 := 41) (pc' := 3) rfl (hb hby d_jdk_52_21_41) (by decide) (by decide) ?_
    refine XS.iload X7.here hx rfl (hb hby d_jdk_52_21_3) rfl ?_
    refine XS.iload X7.here hx rfl (hb hby d_jdk_52_21_5) rfl ?_
    show Sp p e below T7 (mkF m 7 #[.val (.ref a1), .val (.int (2 : Int32)), .val (.ref a3), .val (.int (2 : Int32)), .val (.int (3 : Int32)), .val (.int (2 : Int32)), .val (.int c1)] [(.int (3 : Int32)), (.int (2 : Int32))]) _
    refine XS.icmpNo X7.here hx rfl (hb hby d_jdk_52_21_7) rfl (XT.ii_ge_f (by decide)) ?_
    refine XS.aloadN X7.here hx rfl (hb hby d_jdk_52_21_10) rfl rfl ?_
    refine XS.iloadN X7.here hx rfl (hb hby d_jdk_52_21_11) rfl ?_
    obtain ⟨cl9, Ar9, -, S9, -, H9, -⟩ := id ((VC.other W3 ne13).other W7 ne13)
    have hin9 : ¬ ((2 : Int32) < 0 ∨ cl9.slots.size ≤ ((2 : Int32)).toNatClampNeg) := inb_of S9 (by decide)
    refine X7.caload hx (j := (2 : Int32)) (v := (.int c2)) (by rw [e7]; exact Ar9.1) (State.isArrayOf_alike hZ.alike Ar9.2.1) Ar9.2.2 hin9 (H9.at hin9 rfl) (g := (mkF m 12 #[.val (.ref a1), .val (.int (2 : Int32)), .val (.ref a3), .val (.int (2 : Int32)), .val (.int (3 : Int32)), .val (.int (2 : Int32)), .val (.int c1)] [(.int (2 : Int32)), (.ref a1)])) rfl rfl (hb hby d_jdk_52_21_12) _ ?_
    show Sp p e below T7 (mkF m 13 #[.val (.ref a1), .val (.int (2 : Int32)), .val (.ref a3), .val (.int (2 : Int32)), .val (.int (3 : Int32)), .val (.int (2 : Int32)), .val (.int c1)] [(.int c2)]) _
    refine XS.istore X7.here hx rfl (hb hby d_jdk_52_21_13) rfl (l' := #[.val (.ref a1), .val (.int (2 : Int32)), .val (.ref a3), .val (.int (2 : Int32)), .val (.int (3 : Int32)), .val (.int (2 : Int32)), .val (.int c2)]) rfl ?_
    refine XS.iload X7.here hx rfl (hb hby d_jdk_52_21_15) rfl ?_
    refine XS.sipush X7.here hx rfl (hb hby d_jdk_52_21_17) ?_
    refine XS.icmpYes X7.here hx rfl (pc0 := 20) (pc' := 26) rfl (hb hby d_jdk_52_21_20) rfl (XT.ii_le_t hc2) (by decide) (by decide) ?_
    show Sp p e below T7 (mkF m 26 #[.val (.ref a1), .val (.int (2 : Int32)), .val (.ref a3), .val (.int (2 : Int32)), .val (.int (3 : Int32)), .val (.int (2 : Int32)), .val (.int c2)] []) _
    refine XS.aloadN X7.here hx rfl (hb hby d_jdk_52_21_26) rfl rfl ?_
    refine XS.iloadN X7.here hx rfl (hb hby d_jdk_52_21_27) rfl ?_
    refine XS.iload X7.here hx rfl (hb hby d_jdk_52_21_28) rfl ?_
    refine XT.i2b X7.here hx rfl (hb hby d_jdk_52_21_30) rfl ?_
    show Sp p e below T7 (mkF m 31 #[.val (.ref a1), .val (.int (2 : Int32)), .val (.ref a3), .val (.int (2 : Int32)), .val (.int (3 : Int32)), .val (.int (2 : Int32)), .val (.int c2)] [(.int ((c2).toInt8.toInt32)), (.int (2 : Int32)), (.ref a3)]) _
    exact k
  obtain ⟨cl11, Ar11, q11, S11, M11, H11, G11⟩ := id V7
  obtain ⟨T11, h11, X11, e11, W11, st11⟩ := stB X7 hx hZ e7 Ar11 (j := (2 : Int32)) (inb_of S11 (by decide)) (g := (mkF m 31 #[.val (.ref a1), .val (.int (2 : Int32)), .val (.ref a3), .val (.int (2 : Int32)), .val (.int (3 : Int32)), .val (.int (2 : Int32)), .val (.int c2)] [(.int ((c2).toInt8.toInt32)), (.int (2 : Int32)), (.ref a3)])) rfl rfl (hb hby d_jdk_52_21_31)
  have N11 := Fr.snoc X11 N7 g3
  have O11 : Old Z n0 h11 := O7.wr W11 g3
  rw [(own_nb c2)] at W11
  have V11 : Arv Z h11 a3 kB .byte (3 : Int32) [(.int ((c0).toInt8.toInt32)), (.int ((c1).toInt8.toInt32)), (.int ((c2).toInt8.toInt32))] (.int (0 : Int32)) := Arv.set Ar11 q11 S11 M11 H11 G11 (by rw [← (own_nb c2)]; exact (fits_nar_byte _)) W11 2 rfl (Nat.le_of_ble_eq_true rfl)
  have pre_12 : ∀ t, Sp p e below T11 (mkF m 32 #[.val (.ref a1), .val (.int (2 : Int32)), .val (.ref a3), .val (.int (2 : Int32)), .val (.int (3 : Int32)), .val (.int (2 : Int32)), .val (.int c2)] []) t → Steps p.tables e below E0 t := fun t k => pre_10 t (st11 t k)
  have pre_13 : ∀ t, Sp p e below T11 (mkF m 46 #[.val (.ref a1), .val (.int (3 : Int32)), .val (.ref a3), .val (.int (3 : Int32)), .val (.int (3 : Int32)), .val (.int (3 : Int32)), .val (.int c2)] [(.int (3 : Int32))]) t → Steps p.tables e below E0 t := by
    intro t k
    refine pre_12 t ?_
    show Sp p e below T11 (mkF m 32 #[.val (.ref a1), .val (.int (2 : Int32)), .val (.ref a3), .val (.int (2 : Int32)), .val (.int (3 : Int32)), .val (.int (2 : Int32)), .val (.int c2)] []) _
    refine XS.iinc X11.here hx rfl (hb hby d_jdk_52_21_32) rfl (l' := #[.val (.ref a1), .val (.int (3 : Int32)), .val (.ref a3), .val (.int (2 : Int32)), .val (.int (3 : Int32)), .val (.int (2 : Int32)), .val (.int c2)]) rfl ?_
    refine XS.iinc X11.here hx rfl (hb hby d_jdk_52_21_35) rfl (l' := #[.val (.ref a1), .val (.int (3 : Int32)), .val (.ref a3), .val (.int (3 : Int32)), .val (.int (3 : Int32)), .val (.int (2 : Int32)), .val (.int c2)]) rfl ?_
    refine XS.iinc X11.here hx rfl (hb hby d_jdk_52_21_38) rfl (l' := #[.val (.ref a1), .val (.int (3 : Int32)), .val (.ref a3), .val (.int (3 : Int32)), .val (.int (3 : Int32)), .val (.int (3 : Int32)), .val (.int c2)]) rfl ?_
    refine XS.goto X11.here hx rfl (pc0 := 41) (pc' := 3) rfl (hb hby d_jdk_52_21_41) (by decide) (by decide) ?_
    show Sp p e below T11 (mkF m 3 #[.val (.ref a1), .val (.int (3 : Int32)), .val (.ref a3), .val (.int (3 : Int32)), .val (.int (3 : Int32)), .val (.int (3 : Int32)), .val (.int c2)] []) _
    refine XS.iload X11.here hx rfl (hb hby d_jdk_52_21_3) rfl ?_
    refine XS.iload X11.here hx rfl (hb hby d_jdk_52_21_5) rfl ?_
    refine XS.icmpYes X11.here hx rfl (pc0 := 7) (pc' := 44) rfl (hb hby d_jdk_52_21_7) rfl (XT.ii_ge_t (by decide)) (by decide) (by decide) ?_
    refine XS.iload X11.here hx rfl (hb hby d_jdk_52_21_44) rfl ?_
    show Sp p e below T11 (mkF m 46 #[.val (.ref a1), .val (.int (3 : Int32)), .val (.ref a3), .val (.int (3 : Int32)), .val (.int (3 : Int32)), .val (.int (3 : Int32)), .val (.int c2)] [(.int (3 : Int32))]) _
    exact k
  obtain ⟨fs, hr, hrun, hended, hW, hsame⟩ := X11.leave (v := some (.int (3 : Int32))) (fun h => by rw [Bd.returns] at h; cases h)
  refine ⟨_, _, pre_13 _ ?_, hrun, hended, _, _, rfl, ?_, ⟨_, rfl⟩, hW, hsame.mono (by decide) (by decide)⟩
  · show Sp p e below T11 (mkF m 46 #[.val (.ref a1), .val (.int (3 : Int32)), .val (.ref a3), .val (.int (3 : Int32)), .val (.int (3 : Int32)), .val (.int (3 : Int32)), .val (.int c2)] [(.int (3 : Int32))]) _
    exact retI X11 hx Bd.returns (hb hby d_jdk_52_21_46) hr
  · show Q_cmpa3 Z _ _ _ _ _ _ _ h0 n0 _ T11.heap _
    rw [e11]
    exact ⟨rfl, N11, ((((Keep.refl h0 [a3]).wr W3 (Or.inl (List.mem_of_getElem? (i := 0) rfl))).wr W7 (Or.inl (List.mem_of_getElem? (i := 0) rfl))).wr W11 (Or.inl (List.mem_of_getElem? (i := 0) rfl))), V11⟩
theorem pn_cmpb3 : plainName "java/lang/StringUTF16" = true := by first | (simp [plainName, overriddenIn]; done) | decide +kernel
theorem pd_cmpb3_0 : parseMethodDescriptor "([CI[BII)I" = some ⟨[(.array .char), .int, (.array .byte), .int, .int], some .int⟩ := by decide +kernel
theorem ef_cmpb3 (m : MethodId) (a1 : Addr) : entryFrame m #[(.ref a1), (.int (0 : Int32)), (.int (3 : Int32))] 6 = (mkF m 0 #[.val (.ref a1), .val (.int (0 : Int32)), .val (.int (3 : Int32)), .unset, .unset, .unset] []) := by first | (simp [entryFrame, mkF, argsToLocals, Value.category]; done) | rfl
def Q_cmpb3 (Z : State) (a1 : Addr) (kC : ClassId) (c0 c1 c2 : Int32) (h0 : Heap) (n0 : Nat) (v : Option Value) (h : Heap) (L : List Loc) : Prop := ∃ b kB, v = some (.ref b) ∧ Fr n0 L ∧ Keep h0 h [] ∧ h0.size ≤ b ∧ Arv Z h b kB .byte (3 : Int32) [(.int (c0).toInt8.toInt32), (.int (c1).toInt8.toInt32), (.int (c2).toInt8.toInt32)] (.int (0 : Int32))
set_option maxRecDepth 65536 in
set_option maxHeartbeats 40000000 in
theorem rm_cmpb3 (l : Launch) (Z : State) (a0 : Array Value) (hw : ∀ d ∈ tables_1, d.before a0 Z = true) (ws : List Jvm.Cond) (a1 : Addr) (kC : ClassId) (c0 c1 c2 : Int32) (h0 : Heap) (n0 : Nat) (O0 : Old Z n0 h0) (VC : Arv Z h0 a1 kC .char (3 : Int32) [(.int c0), (.int c1), (.int c2)] (.int (0 : Int32))) (hc0 : ¬ (255 : Int32) < c0) (hc1 : ¬ (255 : Int32) < c1) (hc2 : ¬ (255 : Int32) < c2) :
    MetFree l (⟨"java/lang/StringUTF16", "compress", "([CII)[B"⟩ : MethodName) (head1 (Jvm.Cond.code (⟨"java/lang/StringUTF16", "compress", "([CII)[B"⟩ : MethodName) jdk_52_method_16_code 6 (some (.array .byte)) :: ws) ({ frames := 1, cells := 1, slots := 3, locals := 18 } : Room)) (fun a U => a = #[(.ref a1), (.int (0 : Int32)), (.int (3 : Int32))] ∧ Z.Warmed39 U.vm ∧ U.heap = h0) (fun _ _ _ _ _ => True) (fun _ U o U' => ∃ v L, o = .returned v ∧ Q_cmpb3 Z a1 kC c0 c1 c2 h0 n0 v U'.heap L ∧ FrameEnd U o U' L ({ frames := 1, cells := 1, slots := 3, locals := 18 } : Room).cells ({ frames := 1, cells := 1, slots := 3, locals := 18 } : Room).slots) := by
  refine MetFree.of_bodySF (plainFor_of_name pn_cmpb3) hisR ?_
  intro p e s m args below meth c s₁ Bd hml0 hP hK
  obtain ⟨rfl, hZ, hh⟩ := hP
  have hx := Bd.exec
  have hby := Bd.bytes
  have hml : c.maxLocals = 6 := hml0
  have hown : s.vm.findClass "java/lang/StringUTF16" = some m.cls := findClass_of_methodNamed Bd.named
  have hnm := (name_of_methodNamed Bd.named Bd.method).1
  have X0 : Stand p l e ({ frames := 1, cells := 1, slots := 3, locals := 18 } : Room) s m #[(.ref a1), (.int (0 : Int32)), (.int (3 : Int32))] below meth c s₁ [] 0 0 := Stand.of_body Bd
  have e0 : s₁.heap = h0 := by rw [← hh, Bd.state]; rfl
  have N0 := Fr.nil n0
  have pre0 : ∀ t, Steps p.tables e below (s₁.setTop (mkF m 0 #[.val (.ref a1), .val (.int (0 : Int32)), .val (.int (3 : Int32)), .unset, .unset, .unset] [])) t → Steps p.tables e below (s₁.setTop (entryFrame m #[(.ref a1), (.int (0 : Int32)), (.int (3 : Int32))] 6)) t := fun t k => castTop (ef_cmpb3 m a1) k
  generalize s₁.setTop (entryFrame m #[(.ref a1), (.int (0 : Int32)), (.int (3 : Int32))] 6) = E0 at pre0 ⊢
  have pre_1 : ∀ t, Sp p e below s₁ (mkF m 1 #[.val (.ref a1), .val (.int (0 : Int32)), .val (.int (3 : Int32)), .unset, .unset, .unset] [(.int (3 : Int32))]) t → Steps p.tables e below E0 t := by
    intro t k
    refine pre0 t ?_
    show Sp p e below s₁ (mkF m 0 #[.val (.ref a1), .val (.int (0 : Int32)), .val (.int (3 : Int32)), .unset, .unset, .unset] []) _
    refine XS.iloadN X0.here hx rfl (hb hby d_jdk_52_16_0) rfl ?_
    exact k
  obtain ⟨T2, h2, cA2, X2, e2, E2, A2, st2⟩ := newP X0 hx hZ (own_w hw 19 rfl) e0 (g := (mkF m 1 #[.val (.ref a1), .val (.int (0 : Int32)), .val (.int (3 : Int32)), .unset, .unset, .unset] [(.int (3 : Int32))])) rfl (hb hby d_jdk_52_16_1) rfl (by decide) (cap := 3) (by decide) (by decide) (by decide) (by decide)
  obtain ⟨b2, g2⟩ : ∃ z, z = h0.size := ⟨_, rfl⟩
  rw [← g2] at A2 st2
  have O2 : Old Z n0 h2 := O0.ext E2
  have V2 : Arv Z h2 b2 cA2 .byte (3 : Int32) [(.int (0 : Int32)), (.int (0 : Int32)), (.int (0 : Int32))] (.int (0 : Int32)) := (Arv.new A2 (by decide)).pad (pad_rep [] _ 3)
  have pre_3 : ∀ t, Sp p e below T2 (mkF m 3 #[.val (.ref a1), .val (.int (0 : Int32)), .val (.int (3 : Int32)), .unset, .unset, .unset] [(.ref b2)]) t → Steps p.tables e below E0 t := fun t k => pre_1 t (st2 t k)
  have pre_4 : ∀ t, Sp p e below T2 (mkF m 9 #[.val (.ref a1), .val (.int (0 : Int32)), .val (.int (3 : Int32)), .val (.ref b2), .unset, .unset] [(.int (3 : Int32)), (.int (0 : Int32)), (.ref b2), (.int (0 : Int32)), (.ref a1)]) t → Steps p.tables e below E0 t := by
    intro t k
    refine pre_3 t ?_
    show Sp p e below T2 (mkF m 3 #[.val (.ref a1), .val (.int (0 : Int32)), .val (.int (3 : Int32)), .unset, .unset, .unset] [(.ref b2)]) _
    refine XS.astoreN X2.here hx rfl (hb hby d_jdk_52_16_3) rfl rfl (l' := #[.val (.ref a1), .val (.int (0 : Int32)), .val (.int (3 : Int32)), .val (.ref b2), .unset, .unset]) rfl ?_
    refine XS.aloadN X2.here hx rfl (hb hby d_jdk_52_16_4) rfl rfl ?_
    refine XS.iloadN X2.here hx rfl (hb hby d_jdk_52_16_5) rfl ?_
    show Sp p e below T2 (mkF m 6 #[.val (.ref a1), .val (.int (0 : Int32)), .val (.int (3 : Int32)), .val (.ref b2), .unset, .unset] [(.int (0 : Int32)), (.ref a1)]) _
    refine XS.aloadN X2.here hx rfl (hb hby d_jdk_52_16_6) rfl rfl ?_
    refine XS.iconst X2.here hx rfl (hb hby d_jdk_52_16_7) ?_
    refine XS.iloadN X2.here hx rfl (hb hby d_jdk_52_16_8) rfl ?_
    exact k
  obtain ⟨_, _, ⟨T5, L5, k5, n5⟩, -, X5, ⟨Lc5, hQ5, l5, y5, z5⟩, st5⟩ := Jvm.LawKit.callS X2 hx (y := (⟨"java/lang/StringUTF16", "compress", "([CI[BII)I"⟩ : MethodName)) hown (mvT hZ (own_w hw 34 rfl)) (mvT hZ (own_w hw 35 rfl)) (mvT hZ (own_w hw 32 rfl)) (mvT hZ (own_w hw 36 rfl)) (by decide) (backOf (W := 0) (rm_cmpa3 l Z a0 hw [] a1 b2 kC cA2 c0 c1 c2 h2 n0 O2 (VC.ext E2) V2 (Nat.le_trans (own_le O0) (Nat.le_of_eq g2.symm)) (Nat.ne_of_lt (Nat.lt_of_lt_of_le VC.lt (Nat.le_of_eq g2.symm))) hc0 hc1 hc2) hZ (own_w hw 36 rfl) (own_w hw 32 rfl) (by decide) (by decide)) (g := (mkF m 9 #[.val (.ref a1), .val (.int (0 : Int32)), .val (.int (3 : Int32)), .val (.ref b2), .unset, .unset] [(.int (3 : Int32)), (.int (0 : Int32)), (.ref b2), (.int (0 : Int32)), (.ref a1)])) rfl (by rw [hml]; rfl) (argsL := [(.ref a1), (.int (0 : Int32)), (.ref b2), (.int (0 : Int32)), (.int (3 : Int32))]) (rest := []) (lenOf pd_cmpb3_0 rfl) rfl (by show 2 * 0 + _ ≤ _; exact Nat.le_of_eq rfl) (hb hby d_jdk_52_16_9) (fun _ _ => ⟨rfl, e2, (by decide : 1 + 0 ≤ _), (by decide : 3 + 0 ≤ _)⟩)
  dsimp only [Pt.U, Pt.locs, Pt.cells, Pt.slots] at X5 l5 y5 z5 st5 hQ5
  subst l5 y5 z5
  obtain ⟨rfl, N5q, K5, Vb5⟩ := hQ5
  have N5 := Fr.app N0 N5q
  have O5 : Old Z n0 T5.heap := O2.keep K5 (allS (Nat.le_trans (own_le O0) (Nat.le_of_eq g2.symm)) all0)
  have pre_6 : ∀ t, Sp p e below T5 (mkF m 12 #[.val (.ref a1), .val (.int (0 : Int32)), .val (.int (3 : Int32)), .val (.ref b2), .unset, .unset] [(.int (3 : Int32))]) t → Steps p.tables e below E0 t := fun t k => pre_4 t (st5 t k)
  have pre_7 : ∀ t, Sp p e below T5 (mkF m 58 #[.val (.ref a1), .val (.int (0 : Int32)), .val (.int (3 : Int32)), .val (.ref b2), .val (.int (3 : Int32)), .unset] [(.ref b2)]) t → Steps p.tables e below E0 t := by
    intro t k
    refine pre_6 t ?_
    show Sp p e below T5 (mkF m 12 #[.val (.ref a1), .val (.int (0 : Int32)), .val (.int (3 : Int32)), .val (.ref b2), .unset, .unset] [(.int (3 : Int32))]) _
    refine XS.istore X5.here hx rfl (hb hby d_jdk_52_16_12) rfl (l' := #[.val (.ref a1), .val (.int (0 : Int32)), .val (.int (3 : Int32)), .val (.ref b2), .val (.int (3 : Int32)), .unset]) rfl ?_
    show Sp p e below T5 (mkF m 14 #[.val (.ref a1), .val (.int (0 : Int32)), .val (.int (3 : Int32)), .val (.ref b2), .val (.int (3 : Int32)), .unset] []) _
    refine XS.iload X5.here hx rfl (hb hby d_jdk_52_16_14) rfl ?_
    refine XS.iloadN X5.here hx rfl (hb hby d_jdk_52_16_16) rfl ?_
    refine XS.icmpYes X5.here hx rfl (pc0 := 17) (pc' := 57) rfl (hb hby d_jdk_52_16_17) rfl (XT.ii_eq_t (by decide)) (by decide) (by decide) ?_
    refine XS.aloadN X5.here hx rfl (hb hby d_jdk_52_16_57) rfl rfl ?_
    show Sp p e below T5 (mkF m 58 #[.val (.ref a1), .val (.int (0 : Int32)), .val (.int (3 : Int32)), .val (.ref b2), .val (.int (3 : Int32)), .unset] [(.ref b2)]) _
    exact k
  obtain ⟨fs, hr, hrun, hended, hW, hsame⟩ := X5.leave (v := some (.ref b2)) (fun h => by rw [Bd.returns] at h; cases h)
  refine ⟨_, _, pre_7 _ ?_, hrun, hended, _, _, rfl, ?_, ⟨_, rfl⟩, hW, hsame.mono (by decide) (by decide)⟩
  · show Sp p e below T5 (mkF m 58 #[.val (.ref a1), .val (.int (0 : Int32)), .val (.int (3 : Int32)), .val (.ref b2), .val (.int (3 : Int32)), .unset] [(.ref b2)]) _
    exact retOut X5 hx (t := (.array .byte)) Bd.returns rfl (Or.inr (Or.inr (Or.inr (Or.inr ⟨rfl, rfl, rfl⟩)))) (hb hby d_jdk_52_16_58) hr
  · show Q_cmpb3 Z _ _ _ _ _ h0 n0 _ T5.heap _
    exact ⟨b2, cA2, rfl, N5, (((Keep.refl h0 []).ext E2).trans K5 (allS (Or.inr (Nat.le_trans (Keep.refl h0 []).1 (Nat.le_of_eq g2.symm))) all0)), (Nat.le_trans (Keep.refl h0 []).1 (Nat.le_of_eq g2.symm)), Vb5⟩
theorem pn_cfa3 : plainName "java/lang/StringUTF16" = true := by first | (simp [plainName, overriddenIn]; done) | decide +kernel
theorem ef_cfa3 (m : MethodId) (a1 : Addr) : entryFrame m #[(.ref a1), (.int (3 : Int32))] 2 = (mkF m 0 #[.val (.ref a1), .val (.int (3 : Int32))] []) := by first | (simp [entryFrame, mkF, argsToLocals, Value.category]; done) | rfl
def Q_cfa3 (Z : State) (a1 : Addr) (kB : ClassId) (c0 c1 c2 : Int32) (h0 : Heap) (n0 : Nat) (v : Option Value) (h : Heap) (L : List Loc) : Prop := v = some (.int (0 : Int32)) ∧ Fr n0 L ∧ h = h0
set_option maxRecDepth 65536 in
set_option maxHeartbeats 40000000 in
theorem rm_cfa3 (l : Launch) (Z : State) (a0 : Array Value) (hw : ∀ d ∈ tables_1, d.before a0 Z = true) (ws : List Jvm.Cond) (a1 : Addr) (kB : ClassId) (c0 c1 c2 : Int32) (h0 : Heap) (n0 : Nat) (O0 : Old Z n0 h0) (VB : Arv Z h0 a1 kB .byte (3 : Int32) [(.int (c0).toInt8.toInt32), (.int (c1).toInt8.toInt32), (.int (c2).toInt8.toInt32)] (.int (0 : Int32))) :
    MetFree l (⟨"java/lang/StringUTF16", "coderFromArrayLen", "([BI)B"⟩ : MethodName) (head1 (Jvm.Cond.code (⟨"java/lang/StringUTF16", "coderFromArrayLen", "([BI)B"⟩ : MethodName) jdk_52_method_15_code 2 (some .byte) :: ws) ({ frames := 0, cells := 0, slots := 0, locals := 0 } : Room)) (fun a U => a = #[(.ref a1), (.int (3 : Int32))] ∧ Z.Warmed39 U.vm ∧ U.heap = h0) (fun _ _ _ _ _ => True) (fun _ U o U' => ∃ v L, o = .returned v ∧ Q_cfa3 Z a1 kB c0 c1 c2 h0 n0 v U'.heap L ∧ FrameEnd U o U' L ({ frames := 0, cells := 0, slots := 0, locals := 0 } : Room).cells ({ frames := 0, cells := 0, slots := 0, locals := 0 } : Room).slots) := by
  refine MetFree.of_bodySF (plainFor_of_name pn_cfa3) hisR ?_
  intro p e s m args below meth c s₁ Bd hml0 hP hK
  obtain ⟨rfl, hZ, hh⟩ := hP
  have hx := Bd.exec
  have hby := Bd.bytes
  have hml : c.maxLocals = 2 := hml0
  have hown : s.vm.findClass "java/lang/StringUTF16" = some m.cls := findClass_of_methodNamed Bd.named
  have hnm := (name_of_methodNamed Bd.named Bd.method).1
  have X0 : Stand p l e ({ frames := 0, cells := 0, slots := 0, locals := 0 } : Room) s m #[(.ref a1), (.int (3 : Int32))] below meth c s₁ [] 0 0 := Stand.of_body Bd
  have e0 : s₁.heap = h0 := by rw [← hh, Bd.state]; rfl
  have N0 := Fr.nil n0
  have pre0 : ∀ t, Steps p.tables e below (s₁.setTop (mkF m 0 #[.val (.ref a1), .val (.int (3 : Int32))] [])) t → Steps p.tables e below (s₁.setTop (entryFrame m #[(.ref a1), (.int (3 : Int32))] 2)) t := fun t k => castTop (ef_cfa3 m a1) k
  generalize s₁.setTop (entryFrame m #[(.ref a1), (.int (3 : Int32))] 2) = E0 at pre0 ⊢
  have pre_2 : ∀ t, Sp p e below s₁ (mkF m 8 #[.val (.ref a1), .val (.int (3 : Int32))] [(.int (0 : Int32))]) t → Steps p.tables e below E0 t := by
    intro t k
    refine pre0 t ?_
    show Sp p e below s₁ (mkF m 0 #[.val (.ref a1), .val (.int (3 : Int32))] []) _
    refine XS.iloadN X0.here hx rfl (hb hby d_jdk_52_15_0) rfl ?_
    refine XS.aloadN X0.here hx rfl (hb hby d_jdk_52_15_1) rfl rfl ?_
    obtain ⟨cl1, Ar1, -, S1, M1, -, -⟩ := id VB
    refine X0.arraylength hx (cell := cl1) (by rw [e0]; exact Ar1.1) (State.isArrayOf_alike hZ.alike Ar1.2.1) (g := (mkF m 2 #[.val (.ref a1), .val (.int (3 : Int32))] [(.ref a1), (.int (3 : Int32))])) rfl (rest := [(.int (3 : Int32))]) rfl (hb hby d_jdk_52_15_2) _ ?_
    rw [len_of S1 M1]
    show Sp p e below s₁ (mkF m 3 #[.val (.ref a1), .val (.int (3 : Int32))] [(.int (3 : Int32)), (.int (3 : Int32))]) _
    refine XS.isub X0.here hx rfl (hb hby d_jdk_52_15_3) rfl ?_
    refine XS.bipush X0.here hx rfl (hb hby d_jdk_52_15_4) ?_
    show Sp p e below s₁ (mkF m 6 #[.val (.ref a1), .val (.int (3 : Int32))] [(.int (31 : Int32)), (.int (0 : Int32))]) _
    refine XT.iushr X0.here hx rfl (hb hby d_jdk_52_15_6) rfl ?_
    refine XT.i2b X0.here hx rfl (hb hby d_jdk_52_15_7) rfl ?_
    exact k
  obtain ⟨fs, hr, hrun, hended, hW, hsame⟩ := X0.leave (v := some (.int (0 : Int32))) (fun h => by rw [Bd.returns] at h; cases h)
  refine ⟨_, _, pre_2 _ ?_, hrun, hended, _, _, rfl, ?_, ⟨_, rfl⟩, hW, hsame.mono (by decide) (by decide)⟩
  · show Sp p e below s₁ (mkF m 8 #[.val (.ref a1), .val (.int (3 : Int32))] [(.int (0 : Int32))]) _
    exact retN X0 hx (t := .byte) Bd.returns (by simp) (hb hby d_jdk_52_15_8) hr
  · show Q_cfa3 Z _ _ _ _ _ h0 n0 _ s₁.heap _
    rw [e0]
    exact ⟨rfl, N0, rfl⟩
theorem pn_sti3 : plainName "java/lang/String" = true := by first | (simp [plainName, overriddenIn]; done) | decide +kernel
theorem pd_sti3_0 : parseMethodDescriptor "([CII)[B" = some ⟨[(.array .char), .int, .int], some (.array .byte)⟩ := by decide +kernel
theorem pd_sti3_1 : parseMethodDescriptor "([BI)B" = some ⟨[(.array .byte), .int], some .byte⟩ := by decide +kernel
theorem ef_sti3 (m : MethodId) (a1 : Addr) (a2 : Addr) : entryFrame m #[(.ref a1), (.ref a2), (.int (0 : Int32)), (.int (3 : Int32)), .null] 6 = (mkF m 0 #[.val (.ref a1), .val (.ref a2), .val (.int (0 : Int32)), .val (.int (3 : Int32)), .val .null, .unset] []) := by first | (simp [entryFrame, mkF, argsToLocals, Value.category]; done) | rfl
def Q_sti3 (Z : State) (a1 : Addr) (a2 : Addr) (u1 u2 : Value) (G1 : Int32) (kC : ClassId) (c0 c1 c2 : Int32) (h0 : Heap) (n0 : Nat) (v : Option Value) (h : Heap) (L : List Loc) : Prop := v = none ∧ Fr n0 L ∧ Keep h0 h [a1] ∧ Fld Z h a1 "java/lang/String" "coder" "B" (.int (0 : Int32)) ∧ ∃ b kB, h0.size ≤ b ∧ Fld Z h a1 "java/lang/String" "value" "[B" (.ref b) ∧ Arv Z h b kB .byte (3 : Int32) [(.int (c0).toInt8.toInt32), (.int (c1).toInt8.toInt32), (.int (c2).toInt8.toInt32)] (.int (0 : Int32))
set_option maxRecDepth 65536 in
set_option maxHeartbeats 40000000 in
theorem rm_sti3 (l : Launch) (Z : State) (a0 : Array Value) (hw : ∀ d ∈ tables_1, d.before a0 Z = true) (ws : List Jvm.Cond) (a1 : Addr) (a2 : Addr) (u1 u2 : Value) (G1 : Int32) (kC : ClassId) (c0 c1 c2 : Int32) (h0 : Heap) (n0 : Nat) (O0 : Old Z n0 h0) (E1 : Exa Z h0 a1 "java/lang/String") (F1 : Fld Z h0 a1 "java/lang/String" "value" "[B" u1) (F2 : Fld Z h0 a1 "java/lang/String" "coder" "B" u2) (g1 : n0 ≤ a1) (SC : Sta Z Z.heap "java/lang/String" "COMPACT_STRINGS" "Z" (.int G1)) (hG : ¬ G1 = (0 : Int32)) (VC : Arv Z h0 a2 kC .char (3 : Int32) [(.int c0), (.int c1), (.int c2)] (.int (0 : Int32))) (hc0 : ¬ (255 : Int32) < c0) (hc1 : ¬ (255 : Int32) < c1) (hc2 : ¬ (255 : Int32) < c2) :
    MetFree l (⟨"java/lang/String", "<init>", "([CIILjava/lang/Void;)V"⟩ : MethodName) (head1 (Jvm.Cond.code (⟨"java/lang/String", "<init>", "([CIILjava/lang/Void;)V"⟩ : MethodName) jdk_42_method_149_code 6 none :: ws) ({ frames := 2, cells := 1, slots := 3, locals := 36 } : Room)) (fun a U => a = #[(.ref a1), (.ref a2), (.int (0 : Int32)), (.int (3 : Int32)), .null] ∧ Z.Warmed39 U.vm ∧ U.heap = h0) (fun _ _ _ _ _ => True) (fun _ U o U' => ∃ v L, o = .returned v ∧ Q_sti3 Z a1 a2 u1 u2 G1 kC c0 c1 c2 h0 n0 v U'.heap L ∧ FrameEnd U o U' L ({ frames := 2, cells := 1, slots := 3, locals := 36 } : Room).cells ({ frames := 2, cells := 1, slots := 3, locals := 36 } : Room).slots) := by
  refine MetFree.of_bodySF (plainFor_of_name pn_sti3) hisR ?_
  intro p e s m args below meth c s₁ Bd hml0 hP hK
  obtain ⟨rfl, hZ, hh⟩ := hP
  have hx := Bd.exec
  have hby := Bd.bytes
  have hml : c.maxLocals = 6 := hml0
  have hown : s.vm.findClass "java/lang/String" = some m.cls := findClass_of_methodNamed Bd.named
  have hnm := (name_of_methodNamed Bd.named Bd.method).1
  have X0 : Stand p l e ({ frames := 2, cells := 1, slots := 3, locals := 36 } : Room) s m #[(.ref a1), (.ref a2), (.int (0 : Int32)), (.int (3 : Int32)), .null] below meth c s₁ [] 0 0 := Stand.of_body Bd
  have e0 : s₁.heap = h0 := by rw [← hh, Bd.state]; rfl
  have N0 := Fr.nil n0
  have pre0 : ∀ t, Steps p.tables e below (s₁.setTop (mkF m 0 #[.val (.ref a1), .val (.ref a2), .val (.int (0 : Int32)), .val (.int (3 : Int32)), .val .null, .unset] [])) t → Steps p.tables e below (s₁.setTop (entryFrame m #[(.ref a1), (.ref a2), (.int (0 : Int32)), (.int (3 : Int32)), .null] 6)) t := fun t k => castTop (ef_sti3 m a1 a2) k
  generalize s₁.setTop (entryFrame m #[(.ref a1), (.ref a2), (.int (0 : Int32)), (.int (3 : Int32)), .null] 6) = E0 at pre0 ⊢
  have pre_1 : ∀ t, Sp p e below s₁ (mkF m 1 #[.val (.ref a1), .val (.ref a2), .val (.int (0 : Int32)), .val (.int (3 : Int32)), .val .null, .unset] [(.ref a1)]) t → Steps p.tables e below E0 t := by
    intro t k
    refine pre0 t ?_
    show Sp p e below s₁ (mkF m 0 #[.val (.ref a1), .val (.ref a2), .val (.int (0 : Int32)), .val (.int (3 : Int32)), .val .null, .unset] []) _
    refine XS.aloadN X0.here hx rfl (hb hby d_jdk_42_149_0) rfl rfl ?_
    exact k
  obtain ⟨T2, X2, e2, st2⟩ := initO X0 hx hZ hown (own_w hw 15 rfl) (own_w hw 16 rfl) (own_w hw 17 rfl) e0 (g := (mkF m 1 #[.val (.ref a1), .val (.ref a2), .val (.int (0 : Int32)), .val (.int (3 : Int32)), .val .null, .unset] [(.ref a1)])) rfl (by rw [hml]; rfl) rfl (hb hby d_jdk_42_149_1) (by decide) (W := 0) (by show 2 * 0 + _ ≤ _; exact Nat.le_of_eq rfl) (by decide)
  have pre_3 : ∀ t, Sp p e below T2 (mkF m 4 #[.val (.ref a1), .val (.ref a2), .val (.int (0 : Int32)), .val (.int (3 : Int32)), .val .null, .unset] []) t → Steps p.tables e below E0 t := fun t k => pre_1 t (st2 t k)
  have pre_4 : ∀ t, Sp p e below T2 (mkF m 27 #[.val (.ref a1), .val (.ref a2), .val (.int (0 : Int32)), .val (.int (3 : Int32)), .val .null, .unset] []) t → Steps p.tables e below E0 t := by
    intro t k
    refine pre_3 t ?_
    show Sp p e below T2 (mkF m 4 #[.val (.ref a1), .val (.ref a2), .val (.int (0 : Int32)), .val (.int (3 : Int32)), .val .null, .unset] []) _
    refine XS.iloadN X2.here hx rfl (hb hby d_jdk_42_149_4) rfl ?_
    refine XS.ifYes X2.here hx rfl (pc0 := 5) (pc' := 27) rfl (hb hby d_jdk_42_149_5) rfl (XT.i0_ne_t (by decide)) (by decide) (by decide) ?_
    exact k
  obtain ⟨T5, X5, e5, st5⟩ := getS X2 hx hZ hown (host := "") (own_w hw 29 rfl) Via.refl e2 (SC.ext O0.2) (g := (mkF m 27 #[.val (.ref a1), .val (.ref a2), .val (.int (0 : Int32)), .val (.int (3 : Int32)), .val .null, .unset] [])) rfl (hb hby d_jdk_42_149_27)
  have pre_6 : ∀ t, Sp p e below T5 (mkF m 30 #[.val (.ref a1), .val (.ref a2), .val (.int (0 : Int32)), .val (.int (3 : Int32)), .val .null, .unset] [(.int G1)]) t → Steps p.tables e below E0 t := fun t k => pre_4 t (st5 t k)
  have pre_7 : ∀ t, Sp p e below T5 (mkF m 36 #[.val (.ref a1), .val (.ref a2), .val (.int (0 : Int32)), .val (.int (3 : Int32)), .val .null, .unset] [(.int (3 : Int32)), (.int (0 : Int32)), (.ref a2)]) t → Steps p.tables e below E0 t := by
    intro t k
    refine pre_6 t ?_
    show Sp p e below T5 (mkF m 30 #[.val (.ref a1), .val (.ref a2), .val (.int (0 : Int32)), .val (.int (3 : Int32)), .val .null, .unset] [(.int G1)]) _
    refine XS.ifNo X5.here hx rfl (hb hby d_jdk_42_149_30) rfl (XT.i0_eq_f hG) ?_
    show Sp p e below T5 (mkF m 33 #[.val (.ref a1), .val (.ref a2), .val (.int (0 : Int32)), .val (.int (3 : Int32)), .val .null, .unset] []) _
    refine XS.aloadN X5.here hx rfl (hb hby d_jdk_42_149_33) rfl rfl ?_
    refine XS.iloadN X5.here hx rfl (hb hby d_jdk_42_149_34) rfl ?_
    refine XS.iloadN X5.here hx rfl (hb hby d_jdk_42_149_35) rfl ?_
    exact k
  obtain ⟨_, _, ⟨T8, L8, k8, n8⟩, -, X8, ⟨Lc8, hQ8, l8, y8, z8⟩, st8⟩ := Jvm.LawKit.callS X5 hx (y := (⟨"java/lang/StringUTF16", "compress", "([CII)[B"⟩ : MethodName)) hown (mvT hZ (own_w hw 30 rfl)) (mvT hZ (own_w hw 31 rfl)) (mvT hZ (own_w hw 32 rfl)) (mvT hZ (own_w hw 33 rfl)) (by decide) (backOf (W := 0) (rm_cmpb3 l Z a0 hw [] a2 kC c0 c1 c2 h0 n0 O0 VC hc0 hc1 hc2) hZ (own_w hw 33 rfl) (own_w hw 32 rfl) (by decide) (by decide)) (g := (mkF m 36 #[.val (.ref a1), .val (.ref a2), .val (.int (0 : Int32)), .val (.int (3 : Int32)), .val .null, .unset] [(.int (3 : Int32)), (.int (0 : Int32)), (.ref a2)])) rfl (by rw [hml]; rfl) (argsL := [(.ref a2), (.int (0 : Int32)), (.int (3 : Int32))]) (rest := []) (lenOf pd_sti3_0 rfl) rfl (by show 2 * 0 + _ ≤ _; exact Nat.le_of_eq rfl) (hb hby d_jdk_42_149_36) (fun _ _ => ⟨rfl, e5, (by decide : 0 + 1 ≤ _), (by decide : 0 + 3 ≤ _)⟩)
  dsimp only [Pt.U, Pt.locs, Pt.cells, Pt.slots] at X8 l8 y8 z8 st8 hQ8
  subst l8 y8 z8
  obtain ⟨b8, kB8, rfl, N8q, K8, sb8, Vb8⟩ := hQ8
  have N8 := Fr.app N0 N8q
  have O8 : Old Z n0 T8.heap := O0.keep K8 all0
  have pre_9 : ∀ t, Sp p e below T8 (mkF m 39 #[.val (.ref a1), .val (.ref a2), .val (.int (0 : Int32)), .val (.int (3 : Int32)), .val .null, .unset] [(.ref b8)]) t → Steps p.tables e below E0 t := fun t k => pre_7 t (st8 t k)
  have pre_10 : ∀ t, Sp p e below T8 (mkF m 45 #[.val (.ref a1), .val (.ref a2), .val (.int (0 : Int32)), .val (.int (3 : Int32)), .val .null, .val (.ref b8)] [(.int (3 : Int32)), (.ref b8), (.ref a1)]) t → Steps p.tables e below E0 t := by
    intro t k
    refine pre_9 t ?_
    show Sp p e below T8 (mkF m 39 #[.val (.ref a1), .val (.ref a2), .val (.int (0 : Int32)), .val (.int (3 : Int32)), .val .null, .unset] [(.ref b8)]) _
    refine XS.astore X8.here hx rfl (hb hby d_jdk_42_149_39) rfl rfl (l' := #[.val (.ref a1), .val (.ref a2), .val (.int (0 : Int32)), .val (.int (3 : Int32)), .val .null, .val (.ref b8)]) rfl ?_
    show Sp p e below T8 (mkF m 41 #[.val (.ref a1), .val (.ref a2), .val (.int (0 : Int32)), .val (.int (3 : Int32)), .val .null, .val (.ref b8)] []) _
    refine XS.aloadN X8.here hx rfl (hb hby d_jdk_42_149_41) rfl rfl ?_
    refine XS.aload X8.here hx rfl (hb hby d_jdk_42_149_42) rfl rfl ?_
    refine XS.iloadN X8.here hx rfl (hb hby d_jdk_42_149_44) rfl ?_
    exact k
  obtain ⟨_, _, ⟨T11, L11, k11, n11⟩, -, X11, ⟨Lc11, hQ11, l11, y11, z11⟩, st11⟩ := Jvm.LawKit.callS X8 hx (y := (⟨"java/lang/StringUTF16", "coderFromArrayLen", "([BI)B"⟩ : MethodName)) hown (mvT hZ (own_w hw 37 rfl)) (mvT hZ (own_w hw 38 rfl)) (mvT hZ (own_w hw 32 rfl)) (mvT hZ (own_w hw 39 rfl)) (by decide) (backOf (W := 1) (rm_cfa3 l Z a0 hw [] b8 kB8 c0 c1 c2 T8.heap n0 O8 Vb8) hZ (own_w hw 39 rfl) (own_w hw 32 rfl) (by decide) (by decide)) (g := (mkF m 45 #[.val (.ref a1), .val (.ref a2), .val (.int (0 : Int32)), .val (.int (3 : Int32)), .val .null, .val (.ref b8)] [(.int (3 : Int32)), (.ref b8), (.ref a1)])) rfl (by rw [hml]; rfl) (argsL := [(.ref b8), (.int (3 : Int32))]) (rest := [(.ref a1)]) (lenOf pd_sti3_1 rfl) rfl (by show 2 * 0 + _ ≤ _; exact Nat.le_of_eq rfl) (hb hby d_jdk_42_149_45) (fun _ _ => ⟨rfl, rfl, (by decide : 1 + 0 ≤ _), (by decide : 3 + 0 ≤ _)⟩)
  dsimp only [Pt.U, Pt.locs, Pt.cells, Pt.slots] at X11 l11 y11 z11 st11 hQ11
  subst l11 y11 z11
  obtain ⟨rfl, N11q, e11⟩ := hQ11
  have N11 := Fr.app N8 N11q
  have pre_12 : ∀ t, Sp p e below T11 (mkF m 48 #[.val (.ref a1), .val (.ref a2), .val (.int (0 : Int32)), .val (.int (3 : Int32)), .val .null, .val (.ref b8)] [(.int (0 : Int32)), (.ref a1)]) t → Steps p.tables e below E0 t := fun t k => pre_10 t (st11 t k)
  obtain ⟨T13, h13, X13, e13, W13, st13⟩ := putF X11 hx hZ hown (host := "") (Or.inl (own_w hw 25 rfl)) Via.refl e11 (F2.keep K8 nin0) (E1.keep K8) (Or.inr ⟨(own_w hw 21 rfl), rfl, hnm⟩) (own_w hw 5 rfl) (ty := .byte) (by decide) rfl rfl (g := (mkF m 48 #[.val (.ref a1), .val (.ref a2), .val (.int (0 : Int32)), .val (.int (3 : Int32)), .val .null, .val (.ref b8)] [(.int (0 : Int32)), (.ref a1)])) rfl rfl (hb hby d_jdk_42_149_48)
  have Fw13 := (F2.keep K8 nin0).same W13
  have N13 := Fr.snoc X13 N11 g1
  have O13 : Old Z n0 h13 := O8.wr W13 g1
  have pre_14 : ∀ t, Sp p e below T13 (mkF m 51 #[.val (.ref a1), .val (.ref a2), .val (.int (0 : Int32)), .val (.int (3 : Int32)), .val .null, .val (.ref b8)] []) t → Steps p.tables e below E0 t := fun t k => pre_12 t (st13 t k)
  have pre_15 : ∀ t, Sp p e below T13 (mkF m 54 #[.val (.ref a1), .val (.ref a2), .val (.int (0 : Int32)), .val (.int (3 : Int32)), .val .null, .val (.ref b8)] [(.ref b8), (.ref a1)]) t → Steps p.tables e below E0 t := by
    intro t k
    refine pre_14 t ?_
    show Sp p e below T13 (mkF m 51 #[.val (.ref a1), .val (.ref a2), .val (.int (0 : Int32)), .val (.int (3 : Int32)), .val .null, .val (.ref b8)] []) _
    refine XS.aloadN X13.here hx rfl (hb hby d_jdk_42_149_51) rfl rfl ?_
    show Sp p e below T13 (mkF m 52 #[.val (.ref a1), .val (.ref a2), .val (.int (0 : Int32)), .val (.int (3 : Int32)), .val .null, .val (.ref b8)] [(.ref a1)]) _
    refine XS.aload X13.here hx rfl (hb hby d_jdk_42_149_52) rfl rfl ?_
    exact k
  obtain ⟨T16, h16, X16, e16, W16, st16⟩ := putF X13 hx hZ hown (host := "") (Or.inl (own_w hw 24 rfl)) Via.refl e13 ((F1.keep K8 nin0).other W13 (Or.inr (slot_ne (Or.inr (own_w hw 20 rfl)) (Or.inr (own_w hw 21 rfl)) (by decide) (t := (.array .byte)) (t' := .byte) (by decide) (by decide)))) ((E1.keep K8).wr W13) (Or.inr ⟨(own_w hw 20 rfl), rfl, hnm⟩) (own_w hw 5 rfl) (ty := (.array .byte)) (by decide) rfl rfl (g := (mkF m 54 #[.val (.ref a1), .val (.ref a2), .val (.int (0 : Int32)), .val (.int (3 : Int32)), .val .null, .val (.ref b8)] [(.ref b8), (.ref a1)])) rfl rfl (hb hby d_jdk_42_149_54)
  have Fw16 := ((F1.keep K8 nin0).other W13 (Or.inr (slot_ne (Or.inr (own_w hw 20 rfl)) (Or.inr (own_w hw 21 rfl)) (by decide) (t := (.array .byte)) (t' := .byte) (by decide) (by decide)))).same W16
  have N16 := Fr.snoc X16 N13 g1
  have O16 : Old Z n0 h16 := O13.wr W16 g1
  have pre_17 : ∀ t, Sp p e below T16 (mkF m 57 #[.val (.ref a1), .val (.ref a2), .val (.int (0 : Int32)), .val (.int (3 : Int32)), .val .null, .val (.ref b8)] []) t → Steps p.tables e below E0 t := fun t k => pre_15 t (st16 t k)
  obtain ⟨fs, hr, hrun, hended, hW, hsame⟩ := X16.leave (v := none) (fun _ => rfl)
  refine ⟨_, _, pre_17 _ ?_, hrun, hended, _, _, rfl, ?_, ⟨_, rfl⟩, hW, hsame.mono (by decide) (by decide)⟩
  · show Sp p e below T16 (mkF m 57 #[.val (.ref a1), .val (.ref a2), .val (.int (0 : Int32)), .val (.int (3 : Int32)), .val .null, .val (.ref b8)] []) _
    exact X16.returnOut hx Bd.returns (hb hby d_jdk_42_149_57) hr
  · show Q_sti3 Z _ _ _ _ _ _ _ _ _ h0 n0 _ T16.heap _
    rw [e16]
    exact ⟨rfl, N16, ((((Keep.refl h0 [a1]).trans K8 all0).wr W13 (Or.inl (List.mem_of_getElem? (i := 0) rfl))).wr W16 (Or.inl (List.mem_of_getElem? (i := 0) rfl))), (Fw13.other W16 (Or.inr (slot_ne (Or.inr (own_w hw 21 rfl)) (Or.inr (own_w hw 20 rfl)) (by decide) (t := .byte) (t' := (.array .byte)) (by decide) (by decide)))), b8, kB8, (Nat.le_trans (Keep.refl h0 [a1]).1 sb8), Fw16, ((Vb8.other W13 (Ne.symm (Nat.ne_of_lt (Nat.lt_of_lt_of_le E1.lt sb8)))).other W16 (Ne.symm (Nat.ne_of_lt (Nat.lt_of_lt_of_le E1.lt sb8))))⟩
theorem pn_str3 : plainName "java/lang/String" = true := by first | (simp [plainName, overriddenIn]; done) | decide +kernel
theorem pd_str3_0 : parseMethodDescriptor "([CIILjava/lang/Void;)V" = some ⟨[(.array .char), .int, .int, (.object "java/lang/Void")], none⟩ := by decide +kernel
theorem ef_str3 (m : MethodId) (a1 : Addr) (a2 : Addr) : entryFrame m #[(.ref a1), (.ref a2)] 2 = (mkF m 0 #[.val (.ref a1), .val (.ref a2)] []) := by first | (simp [entryFrame, mkF, argsToLocals, Value.category]; done) | rfl
def Q_str3 (Z : State) (a1 : Addr) (a2 : Addr) (u1 u2 : Value) (G1 : Int32) (kC : ClassId) (c0 c1 c2 : Int32) (h0 : Heap) (n0 : Nat) (v : Option Value) (h : Heap) (L : List Loc) : Prop := v = none ∧ Fr n0 L ∧ Keep h0 h [a1] ∧ Fld Z h a1 "java/lang/String" "coder" "B" (.int (0 : Int32)) ∧ ∃ b kB, h0.size ≤ b ∧ Fld Z h a1 "java/lang/String" "value" "[B" (.ref b) ∧ Arv Z h b kB .byte (3 : Int32) [(.int (c0).toInt8.toInt32), (.int (c1).toInt8.toInt32), (.int (c2).toInt8.toInt32)] (.int (0 : Int32))
set_option maxRecDepth 65536 in
set_option maxHeartbeats 40000000 in
theorem rm_str3 (l : Launch) (Z : State) (a0 : Array Value) (hw : ∀ d ∈ tables_1, d.before a0 Z = true) (ws : List Jvm.Cond) (a1 : Addr) (a2 : Addr) (u1 u2 : Value) (G1 : Int32) (kC : ClassId) (c0 c1 c2 : Int32) (h0 : Heap) (n0 : Nat) (O0 : Old Z n0 h0) (E1 : Exa Z h0 a1 "java/lang/String") (F1 : Fld Z h0 a1 "java/lang/String" "value" "[B" u1) (F2 : Fld Z h0 a1 "java/lang/String" "coder" "B" u2) (g1 : n0 ≤ a1) (SC : Sta Z Z.heap "java/lang/String" "COMPACT_STRINGS" "Z" (.int G1)) (hG : ¬ G1 = (0 : Int32)) (VC : Arv Z h0 a2 kC .char (3 : Int32) [(.int c0), (.int c1), (.int c2)] (.int (0 : Int32))) (hc0 : ¬ (255 : Int32) < c0) (hc1 : ¬ (255 : Int32) < c1) (hc2 : ¬ (255 : Int32) < c2) :
    MetFree l (⟨"java/lang/String", "<init>", "([C)V"⟩ : MethodName) (head1 (Jvm.Cond.code (⟨"java/lang/String", "<init>", "([C)V"⟩ : MethodName) jdk_42_method_3_code 2 none :: ws) ({ frames := 3, cells := 1, slots := 3, locals := 53 } : Room)) (fun a U => a = #[(.ref a1), (.ref a2)] ∧ Z.Warmed39 U.vm ∧ U.heap = h0) (fun _ _ _ _ _ => True) (fun _ U o U' => ∃ v L, o = .returned v ∧ Q_str3 Z a1 a2 u1 u2 G1 kC c0 c1 c2 h0 n0 v U'.heap L ∧ FrameEnd U o U' L ({ frames := 3, cells := 1, slots := 3, locals := 53 } : Room).cells ({ frames := 3, cells := 1, slots := 3, locals := 53 } : Room).slots) := by
  refine MetFree.of_bodySF (plainFor_of_name pn_str3) hisR ?_
  intro p e s m args below meth c s₁ Bd hml0 hP hK
  obtain ⟨rfl, hZ, hh⟩ := hP
  have hx := Bd.exec
  have hby := Bd.bytes
  have hml : c.maxLocals = 2 := hml0
  have hown : s.vm.findClass "java/lang/String" = some m.cls := findClass_of_methodNamed Bd.named
  have hnm := (name_of_methodNamed Bd.named Bd.method).1
  have X0 : Stand p l e ({ frames := 3, cells := 1, slots := 3, locals := 53 } : Room) s m #[(.ref a1), (.ref a2)] below meth c s₁ [] 0 0 := Stand.of_body Bd
  have e0 : s₁.heap = h0 := by rw [← hh, Bd.state]; rfl
  have N0 := Fr.nil n0
  have pre0 : ∀ t, Steps p.tables e below (s₁.setTop (mkF m 0 #[.val (.ref a1), .val (.ref a2)] [])) t → Steps p.tables e below (s₁.setTop (entryFrame m #[(.ref a1), (.ref a2)] 2)) t := fun t k => castTop (ef_str3 m a1 a2) k
  generalize s₁.setTop (entryFrame m #[(.ref a1), (.ref a2)] 2) = E0 at pre0 ⊢
  have pre_2 : ∀ t, Sp p e below s₁ (mkF m 6 #[.val (.ref a1), .val (.ref a2)] [.null, (.int (3 : Int32)), (.int (0 : Int32)), (.ref a2), (.ref a1)]) t → Steps p.tables e below E0 t := by
    intro t k
    refine pre0 t ?_
    show Sp p e below s₁ (mkF m 0 #[.val (.ref a1), .val (.ref a2)] []) _
    refine XS.aloadN X0.here hx rfl (hb hby d_jdk_42_3_0) rfl rfl ?_
    refine XS.aloadN X0.here hx rfl (hb hby d_jdk_42_3_1) rfl rfl ?_
    refine XS.iconst X0.here hx rfl (hb hby d_jdk_42_3_2) ?_
    refine XS.aloadN X0.here hx rfl (hb hby d_jdk_42_3_3) rfl rfl ?_
    show Sp p e below s₁ (mkF m 4 #[.val (.ref a1), .val (.ref a2)] [(.ref a2), (.int (0 : Int32)), (.ref a2), (.ref a1)]) _
    obtain ⟨cl1, Ar1, -, S1, M1, -, -⟩ := id VC
    refine X0.arraylength hx (cell := cl1) (by rw [e0]; exact Ar1.1) (State.isArrayOf_alike hZ.alike Ar1.2.1) (g := (mkF m 4 #[.val (.ref a1), .val (.ref a2)] [(.ref a2), (.int (0 : Int32)), (.ref a2), (.ref a1)])) rfl (rest := [(.int (0 : Int32)), (.ref a2), (.ref a1)]) rfl (hb hby d_jdk_42_3_4) _ ?_
    rw [len_of S1 M1]
    show Sp p e below s₁ (mkF m 5 #[.val (.ref a1), .val (.ref a2)] [(.int (3 : Int32)), (.int (0 : Int32)), (.ref a2), (.ref a1)]) _
    refine XS.aconstNull X0.here hx rfl (hb hby d_jdk_42_3_5) ?_
    exact k
  obtain ⟨_, _, ⟨T3, L3, k3, n3⟩, -, X3, ⟨Lc3, hQ3, l3, y3, z3⟩, st3⟩ := X0.specialBack hx (y := (⟨"java/lang/String", "<init>", "([CIILjava/lang/Void;)V"⟩ : MethodName)) rfl hown (mvT hZ (own_w hw 11 rfl)) (mvT hZ (own_w hw 12 rfl)) (mvT hZ (own_w hw 14 rfl)) (by decide) (backOf (W := 0) (rm_sti3 l Z a0 hw [] a1 a2 u1 u2 G1 kC c0 c1 c2 h0 n0 O0 E1 F1 F2 g1 SC hG VC hc0 hc1 hc2) hZ (own_w hw 14 rfl) (own_w hw 6 rfl) (by decide) (by decide)) (g := (mkF m 6 #[.val (.ref a1), .val (.ref a2)] [.null, (.int (3 : Int32)), (.int (0 : Int32)), (.ref a2), (.ref a1)])) rfl (by rw [hml]; rfl) (Steps.refl _) (a := a1) (argsL := [(.ref a2), (.int (0 : Int32)), (.int (3 : Int32)), .null]) (rest := []) (lenOf pd_str3_0 rfl) rfl (by show 2 * 0 + _ ≤ _; exact Nat.le_of_eq rfl) (hb hby d_jdk_42_3_6) (fun _ _ => ⟨rfl, e0, (by decide : 0 + 1 ≤ _), (by decide : 0 + 3 ≤ _)⟩)
  dsimp only [Pt.U, Pt.locs, Pt.cells, Pt.slots] at X3 l3 y3 z3 st3 hQ3
  subst l3 y3 z3
  obtain ⟨rfl, N3q, K3, Fc3, b3, kB3, sb3, Fv3, Vb3⟩ := hQ3
  have N3 := Fr.app N0 N3q
  have O3 : Old Z n0 T3.heap := O0.keep K3 (allS g1 all0)
  have pre_4 : ∀ t, Sp p e below T3 (mkF m 9 #[.val (.ref a1), .val (.ref a2)] []) t → Steps p.tables e below E0 t := fun t k => pre_2 t (st3.trans k)
  obtain ⟨fs, hr, hrun, hended, hW, hsame⟩ := X3.leave (v := none) (fun _ => rfl)
  refine ⟨_, _, pre_4 _ ?_, hrun, hended, _, _, rfl, ?_, ⟨_, rfl⟩, hW, hsame.mono (by decide) (by decide)⟩
  · show Sp p e below T3 (mkF m 9 #[.val (.ref a1), .val (.ref a2)] []) _
    exact X3.returnOut hx Bd.returns (hb hby d_jdk_42_3_9) hr
  · show Q_str3 Z _ _ _ _ _ _ _ _ _ h0 n0 _ T3.heap _
    exact ⟨rfl, N3, ((Keep.refl h0 [a1]).trans K3 (allS (Or.inl (List.mem_of_getElem? (i := 0) rfl)) all0)), Fc3, b3, kB3, sb3, Fv3, Vb3⟩
theorem d_jdk_42_149_8 : decode jdk_42_method_149_code 8 = .ok (.aload_n 0, 1) := by decide +kernel
theorem d_jdk_42_149_9 : decode jdk_42_method_149_code 9 = .ok (.ldc 7, 2) := by decide +kernel
theorem d_jdk_42_149_11 : decode jdk_42_method_149_code 11 = .ok (.getfield 9, 3) := by decide +kernel
theorem d_jdk_42_149_14 : decode jdk_42_method_149_code 14 = .ok (.putfield 9, 3) := by decide +kernel
theorem d_jdk_42_149_17 : decode jdk_42_method_149_code 17 = .ok (.aload_n 0, 1) := by decide +kernel
theorem d_jdk_42_149_18 : decode jdk_42_method_149_code 18 = .ok (.ldc 7, 2) := by decide +kernel
theorem d_jdk_42_149_20 : decode jdk_42_method_149_code 20 = .ok (.getfield 15, 3) := by decide +kernel
theorem d_jdk_42_149_23 : decode jdk_42_method_149_code 23 = .ok (.putfield 15, 3) := by decide +kernel
theorem d_jdk_42_149_26 : decode jdk_42_method_149_code 26 = .ok (.return_, 1) := by decide +kernel
theorem pn_sti0A : plainName "java/lang/String" = true := by first | (simp [plainName, overriddenIn]; done) | decide +kernel
theorem ef_sti0A (m : MethodId) (a1 : Addr) (a2 : Addr) : entryFrame m #[(.ref a1), (.ref a2), (.int (0 : Int32)), (.int (0 : Int32)), .null] 6 = (mkF m 0 #[.val (.ref a1), .val (.ref a2), .val (.int (0 : Int32)), .val (.int (0 : Int32)), .val .null, .unset] []) := by first | (simp [entryFrame, mkF, argsToLocals, Value.category]; done) | rfl
def Q_sti0A (Z : State) (a1 : Addr) (a2 : Addr) (u2 : Value) (h0 : Heap) (n0 : Nat) (v : Option Value) (vm : Vm) (h : Heap) (L : List Loc) : Prop := v = none ∧ Fr n0 L ∧ Keep h0 h [a1] ∧ Fld Z h a1 "java/lang/String" "coder" "B" (.int (0 : Int32)) ∧ ∃ aE bE kE, Fld Z h a1 "java/lang/String" "value" "[B" (.ref bE) ∧ Arv Z h bE kE .byte (0 : Int32) [] (.int (0 : Int32)) ∧ Exa Z h aE "java/lang/String" ∧ Fld Z h aE "java/lang/String" "value" "[B" (.ref bE) ∧ Fld Z h aE "java/lang/String" "coder" "B" (.int (0 : Int32)) ∧ Lit (Z.setVm vm) "java/lang/String" 7 aE
set_option maxRecDepth 65536 in
set_option maxHeartbeats 40000000 in
theorem rm_sti0A (l : Launch) (Z : State) (a0 : Array Value) (hw : ∀ d ∈ tables_1, d.before a0 Z = true) (ws : List Jvm.Cond) (a1 : Addr) (a2 : Addr) (u2 : Value) (h0 : Heap) (n0 : Nat) (O0 : Old Z n0 h0) (E1 : Exa Z h0 a1 "java/lang/String") (F1 : Fld Z h0 a1 "java/lang/String" "value" "[B" .null) (F2 : Fld Z h0 a1 "java/lang/String" "coder" "B" u2) (g1 : n0 ≤ a1) (hHC : Jvm.Lit.constHeld Z "java/lang/String" 7) (hCW : Jvm.Lit.compactW.before a0 Z = true) :
    MetFree l (⟨"java/lang/String", "<init>", "([CIILjava/lang/Void;)V"⟩ : MethodName) (head1 (Jvm.Cond.code (⟨"java/lang/String", "<init>", "([CIILjava/lang/Void;)V"⟩ : MethodName) jdk_42_method_149_code 6 none :: ws) ({ frames := 1, cells := 2, slots := 4, locals := 12 } : Room)) (fun a U => a = #[(.ref a1), (.ref a2), (.int (0 : Int32)), (.int (0 : Int32)), .null] ∧ Z.Warmed39 U.vm ∧ U.heap = h0 ∧ IB Z U.vm []) (fun _ _ _ _ _ => True) (fun _ U o U' => ∃ v L, o = .returned v ∧ Q_sti0A Z a1 a2 u2 h0 n0 v U'.vm U'.heap L ∧ ReturnedEndW U o U' L ({ frames := 1, cells := 2, slots := 4, locals := 12 } : Room).cells ({ frames := 1, cells := 2, slots := 4, locals := 12 } : Room).slots) := by
  refine MetFree.of_bodySF (plainFor_of_name pn_sti0A) hisR ?_
  intro p e s m args below meth c s₁ Bd hml0 hP hK
  obtain ⟨rfl, hZ, hh, hPV⟩ := hP
  have hx := Bd.exec
  have hby := Bd.bytes
  have hml : c.maxLocals = 6 := hml0
  have hown : s.vm.findClass "java/lang/String" = some m.cls := findClass_of_methodNamed Bd.named
  have hnm := (name_of_methodNamed Bd.named Bd.method).1
  have X0 : Stand p l e ({ frames := 1, cells := 2, slots := 4, locals := 12 } : Room) (s.setVm s.vm) m #[(.ref a1), (.ref a2), (.int (0 : Int32)), (.int (0 : Int32)), .null] below meth c s₁ [] 0 0 := Stand.of_body Bd
  have e0 : s₁.heap = h0 := by rw [← hh, Bd.state]; rfl
  have N0 := Fr.nil n0
  have pre0 : ∀ t, Steps p.tables e below (s₁.setTop (mkF m 0 #[.val (.ref a1), .val (.ref a2), .val (.int (0 : Int32)), .val (.int (0 : Int32)), .val .null, .unset] [])) t → Steps p.tables e below (s₁.setTop (entryFrame m #[(.ref a1), (.ref a2), (.int (0 : Int32)), (.int (0 : Int32)), .null] 6)) t := fun t k => castTop (ef_sti0A m a1 a2) k
  generalize s₁.setTop (entryFrame m #[(.ref a1), (.ref a2), (.int (0 : Int32)), (.int (0 : Int32)), .null] 6) = E0 at pre0 ⊢
  have pre_1 : ∀ t, Sp p e below s₁ (mkF m 1 #[.val (.ref a1), .val (.ref a2), .val (.int (0 : Int32)), .val (.int (0 : Int32)), .val .null, .unset] [(.ref a1)]) t → Steps p.tables e below E0 t := by
    intro t k
    refine pre0 t ?_
    show Sp p e below s₁ (mkF m 0 #[.val (.ref a1), .val (.ref a2), .val (.int (0 : Int32)), .val (.int (0 : Int32)), .val .null, .unset] []) _
    refine XS.aloadN X0.here hx rfl (hb hby d_jdk_42_149_0) rfl rfl ?_
    exact k
  obtain ⟨T2, X2, e2, st2⟩ := initO X0 hx hZ hown (own_w hw 15 rfl) (own_w hw 16 rfl) (own_w hw 17 rfl) e0 (g := (mkF m 1 #[.val (.ref a1), .val (.ref a2), .val (.int (0 : Int32)), .val (.int (0 : Int32)), .val .null, .unset] [(.ref a1)])) rfl (by rw [hml]; rfl) rfl (hb hby d_jdk_42_149_1) (by decide) (W := 0) (by show 2 * 0 + _ ≤ _; exact Nat.le_of_eq rfl) (by decide)
  have pre_3 : ∀ t, Sp p e below T2 (mkF m 4 #[.val (.ref a1), .val (.ref a2), .val (.int (0 : Int32)), .val (.int (0 : Int32)), .val .null, .unset] []) t → Steps p.tables e below E0 t := fun t k => pre_1 t (st2 t k)
  have pre_4 : ∀ t, Sp p e below T2 (mkF m 9 #[.val (.ref a1), .val (.ref a2), .val (.int (0 : Int32)), .val (.int (0 : Int32)), .val .null, .unset] [(.ref a1)]) t → Steps p.tables e below E0 t := by
    intro t k
    refine pre_3 t ?_
    show Sp p e below T2 (mkF m 4 #[.val (.ref a1), .val (.ref a2), .val (.int (0 : Int32)), .val (.int (0 : Int32)), .val .null, .unset] []) _
    refine XS.iloadN X2.here hx rfl (hb hby d_jdk_42_149_4) rfl ?_
    refine XS.ifNo X2.here hx rfl (hb hby d_jdk_42_149_5) rfl (XT.i0_ne_f (by decide)) ?_
    refine XS.aloadN X2.here hx rfl (hb hby d_jdk_42_149_8) rfl rfl ?_
    show Sp p e below T2 (mkF m 9 #[.val (.ref a1), .val (.ref a2), .val (.int (0 : Int32)), .val (.int (0 : Int32)), .val .null, .unset] [(.ref a1)]) _
    exact k
  obtain ⟨aE5, T5, h5, kq5, bE5, kE5, X5, e5, E5, hS5, hk5, hZ5, ho5, xE5, cE5, vE5, AE5, -, -, hI5, hL5, st5⟩ := ldcSVL (vm0 := s.vm) X2 hx hZ hown (own_w hw 18 rfl) (own_sa hw) e2 ((State.WarmedH.refl s).since 0) (Nat.le_trans (Nat.zero_le _) (Nat.le_refl _)) (Fr.nil _) (fun b cl q => by rw [hh]; exact O0.2.2 b cl q) hPV (by simp) hHC hCW (vs := []) (z := (0 : Int32)) ⟨by simp, rfl⟩ (by decide) rfl (g := (mkF m 9 #[.val (.ref a1), .val (.ref a2), .val (.int (0 : Int32)), .val (.int (0 : Int32)), .val .null, .unset] [(.ref a1)])) rfl (hb hby d_jdk_42_149_9) (n := 0) (by decide) (by decide) (by decide) (by decide)
  have O5 : Old Z n0 h5 := O0.ext E5
  have pre_6 : ∀ t, Sp p e below T5 (mkF m 11 #[.val (.ref a1), .val (.ref a2), .val (.int (0 : Int32)), .val (.int (0 : Int32)), .val .null, .unset] [(.ref aE5), (.ref a1)]) t → Steps p.tables e below E0 t := fun t k => pre_4 t (st5 t k)
  have neE : a1 ≠ aE5 := (F1.ext E5).ne vE5 (by simp)
  have neB : bE5 ≠ a1 := Ne.symm (Exa.neArv (E1.ext E5) AE5 (own_w hw 5 rfl))
  obtain ⟨T7, X7, e7, st7⟩ := getF X5 hx hZ5 ho5 (host := "") (Or.inl (own_w hw 24 rfl)) Via.refl e5 vE5 (g := (mkF m 11 #[.val (.ref a1), .val (.ref a2), .val (.int (0 : Int32)), .val (.int (0 : Int32)), .val .null, .unset] [(.ref aE5), (.ref a1)])) rfl rfl (hb hby d_jdk_42_149_11)
  have pre_8 : ∀ t, Sp p e below T7 (mkF m 14 #[.val (.ref a1), .val (.ref a2), .val (.int (0 : Int32)), .val (.int (0 : Int32)), .val .null, .unset] [(.ref bE5), (.ref a1)]) t → Steps p.tables e below E0 t := fun t k => pre_6 t (st7 t k)
  obtain ⟨T9, h9, X9, e9, W9, st9⟩ := putF X7 hx hZ5 ho5 (host := "") (Or.inl (own_w hw 24 rfl)) Via.refl e7 (F1.ext E5) (E1.ext E5) (Or.inr ⟨(own_w hw 20 rfl), rfl, hnm⟩) (own_w hw 5 rfl) (ty := (.array .byte)) (by decide) rfl rfl (g := (mkF m 14 #[.val (.ref a1), .val (.ref a2), .val (.int (0 : Int32)), .val (.int (0 : Int32)), .val .null, .unset] [(.ref bE5), (.ref a1)])) rfl rfl (hb hby d_jdk_42_149_14)
  have Fw9 := (F1.ext E5).same W9
  have N9 := Fr.snoc X9 N0 g1
  have O9 : Old Z n0 h9 := O5.wr W9 g1
  have pre_10 : ∀ t, Sp p e below T9 (mkF m 17 #[.val (.ref a1), .val (.ref a2), .val (.int (0 : Int32)), .val (.int (0 : Int32)), .val .null, .unset] []) t → Steps p.tables e below E0 t := fun t k => pre_8 t (st9 t k)
  have pre_11 : ∀ t, Sp p e below T9 (mkF m 20 #[.val (.ref a1), .val (.ref a2), .val (.int (0 : Int32)), .val (.int (0 : Int32)), .val .null, .unset] [(.ref aE5), (.ref a1)]) t → Steps p.tables e below E0 t := by
    intro t k
    refine pre_10 t ?_
    show Sp p e below T9 (mkF m 17 #[.val (.ref a1), .val (.ref a2), .val (.int (0 : Int32)), .val (.int (0 : Int32)), .val .null, .unset] []) _
    refine XS.aloadN X9.here hx rfl (hb hby d_jdk_42_149_17) rfl rfl ?_
    refine ldcAgain (vm0 := T5.vm) X9 hx hZ5 ho5 (own_w hw 18 rfl) hL5 (g := (mkF m 18 #[.val (.ref a1), .val (.ref a2), .val (.int (0 : Int32)), .val (.int (0 : Int32)), .val .null, .unset] [(.ref a1)])) rfl (hb hby d_jdk_42_149_18) _ ?_
    exact k
  obtain ⟨T12, X12, e12, st12⟩ := getF X9 hx hZ5 ho5 (host := "") (Or.inl (own_w hw 25 rfl)) Via.refl e9 (cE5.other W9 (Or.inl (Ne.symm neE))) (g := (mkF m 20 #[.val (.ref a1), .val (.ref a2), .val (.int (0 : Int32)), .val (.int (0 : Int32)), .val .null, .unset] [(.ref aE5), (.ref a1)])) rfl rfl (hb hby d_jdk_42_149_20)
  have pre_13 : ∀ t, Sp p e below T12 (mkF m 23 #[.val (.ref a1), .val (.ref a2), .val (.int (0 : Int32)), .val (.int (0 : Int32)), .val .null, .unset] [(.int (0 : Int32)), (.ref a1)]) t → Steps p.tables e below E0 t := fun t k => pre_11 t (st12 t k)
  obtain ⟨T14, h14, X14, e14, W14, st14⟩ := putF X12 hx hZ5 ho5 (host := "") (Or.inl (own_w hw 25 rfl)) Via.refl e12 ((F2.ext E5).other W9 (Or.inr (slot_ne (Or.inr (own_w hw 21 rfl)) (Or.inr (own_w hw 20 rfl)) (by decide) (t := .byte) (t' := (.array .byte)) (by decide) (by decide)))) ((E1.ext E5).wr W9) (Or.inr ⟨(own_w hw 21 rfl), rfl, hnm⟩) (own_w hw 5 rfl) (ty := .byte) (by decide) rfl rfl (g := (mkF m 23 #[.val (.ref a1), .val (.ref a2), .val (.int (0 : Int32)), .val (.int (0 : Int32)), .val .null, .unset] [(.int (0 : Int32)), (.ref a1)])) rfl rfl (hb hby d_jdk_42_149_23)
  have Fw14 := ((F2.ext E5).other W9 (Or.inr (slot_ne (Or.inr (own_w hw 21 rfl)) (Or.inr (own_w hw 20 rfl)) (by decide) (t := .byte) (t' := (.array .byte)) (by decide) (by decide)))).same W14
  have N14 := Fr.snoc X14 N9 g1
  have O14 : Old Z n0 h14 := O9.wr W14 g1
  have pre_15 : ∀ t, Sp p e below T14 (mkF m 26 #[.val (.ref a1), .val (.ref a2), .val (.int (0 : Int32)), .val (.int (0 : Int32)), .val .null, .unset] []) t → Steps p.tables e below E0 t := fun t k => pre_13 t (st14 t k)
  obtain ⟨fs, hr, hrun, hended, hEnd⟩ := X14.leaveW hS5 (by rw [e14]; exact (Nat.le_trans hk5 (Nat.le_trans (Nat.le_trans (Nat.le_refl _) (Nat.le_of_eq W9.size.symm)) (Nat.le_of_eq W14.size.symm)))) (v := none) (fun _ => rfl)
  refine ⟨_, _, pre_15 _ ?_, hrun, hended, _, _, rfl, ?_, hEnd.1, hEnd.2.1, hEnd.2.2.1, hEnd.2.2.2.mono (by decide) (by decide)⟩
  · show Sp p e below T14 (mkF m 26 #[.val (.ref a1), .val (.ref a2), .val (.int (0 : Int32)), .val (.int (0 : Int32)), .val .null, .unset] []) _
    exact X14.returnOut hx Bd.returns (hb hby d_jdk_42_149_26) hr
  · show Q_sti0A Z _ _ _ h0 n0 _ T14.vm T14.heap _
    rw [e14]
    exact ⟨rfl, N14, ((((Keep.refl h0 [a1]).ext E5).wr W9 (Or.inl (List.mem_of_getElem? (i := 0) rfl))).wr W14 (Or.inl (List.mem_of_getElem? (i := 0) rfl))), Fw14, aE5, bE5, kE5, (Fw9.other W14 (Or.inr (slot_ne (Or.inr (own_w hw 20 rfl)) (Or.inr (own_w hw 21 rfl)) (by decide) (t := (.array .byte)) (t' := .byte) (by decide) (by decide)))), ((AE5.other W9 neB).other W14 neB), ((xE5.wr W9).wr W14), ((vE5.other W9 (Or.inl (Ne.symm neE))).other W14 (Or.inl (Ne.symm neE))), ((cE5.other W9 (Or.inl (Ne.symm neE))).other W14 (Or.inl (Ne.symm neE))), (Lit.stays hL5 X14.warmed.wide)⟩
theorem pn_str0A : plainName "java/lang/String" = true := by first | (simp [plainName, overriddenIn]; done) | decide +kernel
theorem pd_str0A_0 : parseMethodDescriptor "([CIILjava/lang/Void;)V" = some ⟨[(.array .char), .int, .int, (.object "java/lang/Void")], none⟩ := by decide +kernel
theorem ef_str0A (m : MethodId) (a1 : Addr) (a2 : Addr) : entryFrame m #[(.ref a1), (.ref a2)] 2 = (mkF m 0 #[.val (.ref a1), .val (.ref a2)] []) := by first | (simp [entryFrame, mkF, argsToLocals, Value.category]; done) | rfl
def Q_str0A (Z : State) (a1 : Addr) (a2 : Addr) (u2 : Value) (kC : ClassId) (h0 : Heap) (n0 : Nat) (v : Option Value) (vm : Vm) (h : Heap) (L : List Loc) : Prop := v = none ∧ Fr n0 L ∧ Keep h0 h [a1] ∧ Fld Z h a1 "java/lang/String" "coder" "B" (.int (0 : Int32)) ∧ ∃ aE bE kE, Fld Z h a1 "java/lang/String" "value" "[B" (.ref bE) ∧ Arv Z h bE kE .byte (0 : Int32) [] (.int (0 : Int32)) ∧ Exa Z h aE "java/lang/String" ∧ Fld Z h aE "java/lang/String" "value" "[B" (.ref bE) ∧ Fld Z h aE "java/lang/String" "coder" "B" (.int (0 : Int32)) ∧ Lit (Z.setVm vm) "java/lang/String" 7 aE
set_option maxRecDepth 65536 in
set_option maxHeartbeats 40000000 in
theorem rm_str0A (l : Launch) (Z : State) (a0 : Array Value) (hw : ∀ d ∈ tables_1, d.before a0 Z = true) (ws : List Jvm.Cond) (a1 : Addr) (a2 : Addr) (u2 : Value) (kC : ClassId) (h0 : Heap) (n0 : Nat) (O0 : Old Z n0 h0) (E1 : Exa Z h0 a1 "java/lang/String") (F1 : Fld Z h0 a1 "java/lang/String" "value" "[B" .null) (F2 : Fld Z h0 a1 "java/lang/String" "coder" "B" u2) (g1 : n0 ≤ a1) (hHC : Jvm.Lit.constHeld Z "java/lang/String" 7) (hCW : Jvm.Lit.compactW.before a0 Z = true) (VC : Arv Z h0 a2 kC .char (0 : Int32) [] (.int (0 : Int32))) :
    MetFree l (⟨"java/lang/String", "<init>", "([C)V"⟩ : MethodName) (head1 (Jvm.Cond.code (⟨"java/lang/String", "<init>", "([C)V"⟩ : MethodName) jdk_42_method_3_code 2 none :: ws) ({ frames := 2, cells := 2, slots := 4, locals := 29 } : Room)) (fun a U => a = #[(.ref a1), (.ref a2)] ∧ Z.Warmed39 U.vm ∧ U.heap = h0 ∧ IB Z U.vm []) (fun _ _ _ _ _ => True) (fun _ U o U' => ∃ v L, o = .returned v ∧ Q_str0A Z a1 a2 u2 kC h0 n0 v U'.vm U'.heap L ∧ ReturnedEndW U o U' L ({ frames := 2, cells := 2, slots := 4, locals := 29 } : Room).cells ({ frames := 2, cells := 2, slots := 4, locals := 29 } : Room).slots) := by
  refine MetFree.of_bodySF (plainFor_of_name pn_str0A) hisR ?_
  intro p e s m args below meth c s₁ Bd hml0 hP hK
  obtain ⟨rfl, hZ, hh, hPV⟩ := hP
  have hx := Bd.exec
  have hby := Bd.bytes
  have hml : c.maxLocals = 2 := hml0
  have hown : s.vm.findClass "java/lang/String" = some m.cls := findClass_of_methodNamed Bd.named
  have hnm := (name_of_methodNamed Bd.named Bd.method).1
  have X0 : Stand p l e ({ frames := 2, cells := 2, slots := 4, locals := 29 } : Room) (s.setVm s.vm) m #[(.ref a1), (.ref a2)] below meth c s₁ [] 0 0 := Stand.of_body Bd
  have e0 : s₁.heap = h0 := by rw [← hh, Bd.state]; rfl
  have N0 := Fr.nil n0
  have pre0 : ∀ t, Steps p.tables e below (s₁.setTop (mkF m 0 #[.val (.ref a1), .val (.ref a2)] [])) t → Steps p.tables e below (s₁.setTop (entryFrame m #[(.ref a1), (.ref a2)] 2)) t := fun t k => castTop (ef_str0A m a1 a2) k
  generalize s₁.setTop (entryFrame m #[(.ref a1), (.ref a2)] 2) = E0 at pre0 ⊢
  have pre_2 : ∀ t, Sp p e below s₁ (mkF m 6 #[.val (.ref a1), .val (.ref a2)] [.null, (.int (0 : Int32)), (.int (0 : Int32)), (.ref a2), (.ref a1)]) t → Steps p.tables e below E0 t := by
    intro t k
    refine pre0 t ?_
    show Sp p e below s₁ (mkF m 0 #[.val (.ref a1), .val (.ref a2)] []) _
    refine XS.aloadN X0.here hx rfl (hb hby d_jdk_42_3_0) rfl rfl ?_
    refine XS.aloadN X0.here hx rfl (hb hby d_jdk_42_3_1) rfl rfl ?_
    refine XS.iconst X0.here hx rfl (hb hby d_jdk_42_3_2) ?_
    refine XS.aloadN X0.here hx rfl (hb hby d_jdk_42_3_3) rfl rfl ?_
    show Sp p e below s₁ (mkF m 4 #[.val (.ref a1), .val (.ref a2)] [(.ref a2), (.int (0 : Int32)), (.ref a2), (.ref a1)]) _
    obtain ⟨cl1, Ar1, -, S1, M1, -, -⟩ := id VC
    refine X0.arraylength hx (cell := cl1) (by rw [e0]; exact Ar1.1) (State.isArrayOf_alike hZ.alike Ar1.2.1) (g := (mkF m 4 #[.val (.ref a1), .val (.ref a2)] [(.ref a2), (.int (0 : Int32)), (.ref a2), (.ref a1)])) rfl (rest := [(.int (0 : Int32)), (.ref a2), (.ref a1)]) rfl (hb hby d_jdk_42_3_4) _ ?_
    rw [len_of S1 M1]
    show Sp p e below s₁ (mkF m 5 #[.val (.ref a1), .val (.ref a2)] [(.int (0 : Int32)), (.int (0 : Int32)), (.ref a2), (.ref a1)]) _
    refine XS.aconstNull X0.here hx rfl (hb hby d_jdk_42_3_5) ?_
    exact k
  obtain ⟨_, _, ⟨T3, L3, k3, n3⟩, -, Y3, hs3, hg3, ⟨Lc3, hQ3, l3, y3, z3⟩, st3⟩ := X0.specialBackS hx (y := (⟨"java/lang/String", "<init>", "([CIILjava/lang/Void;)V"⟩ : MethodName)) rfl hown (mvT hZ (own_w hw 11 rfl)) (mvT hZ (own_w hw 12 rfl)) (mvT hZ (own_w hw 14 rfl)) (by decide) (own_backS (W := 0) (rm_sti0A l Z a0 hw [] a1 a2 u2  h0 n0 O0 E1 F1 F2 g1 hHC hCW) hZ (own_w hw 14 rfl) (own_w hw 6 rfl) (by decide) (by decide) (fun _ q => own_IBw hPV q)) (g := (mkF m 6 #[.val (.ref a1), .val (.ref a2)] [.null, (.int (0 : Int32)), (.int (0 : Int32)), (.ref a2), (.ref a1)])) rfl (by rw [hml]; rfl) (Steps.refl _) (a := a1) (argsL := [(.ref a2), (.int (0 : Int32)), (.int (0 : Int32)), .null]) (rest := []) (lenOf pd_str0A_0 rfl) rfl (by show 2 * 0 + _ ≤ _; exact Nat.le_of_eq rfl) (hb hby d_jdk_42_3_6) (fun _ _ => ⟨rfl, e0, (by decide : 0 + 2 ≤ _), (by decide : 0 + 4 ≤ _)⟩)
  dsimp only [Pt.U, Pt.locs, Pt.cells, Pt.slots] at Y3 hs3 hg3 l3 y3 z3 st3 hQ3
  subst l3 y3 z3
  obtain ⟨X3, hS3, hZ3, ho3⟩ := rebS ((State.WarmedH.refl s).since 0) (by rw [e0]; exact (Nat.le_trans (Nat.zero_le _) (Nat.le_refl _))) Y3 hs3 hg3 hZ hown
  obtain ⟨rfl, N3q, K3, Fc3, aE3, bE3, kE3, Fv3, Ab3, xE3, vE3, cE3, hL3⟩ := hQ3
  have N3 := Fr.app N0 N3q
  have O3 : Old Z n0 T3.heap := O0.keep K3 (allS g1 all0)
  have pre_4 : ∀ t, Sp p e below T3 (mkF m 9 #[.val (.ref a1), .val (.ref a2)] []) t → Steps p.tables e below E0 t := fun t k => pre_2 t (st3.trans k)
  obtain ⟨fs, hr, hrun, hended, hEnd⟩ := X3.leaveW hS3 (Nat.le_trans (Nat.le_refl _) (Nat.le_refl _)) (v := none) (fun _ => rfl)
  refine ⟨_, _, pre_4 _ ?_, hrun, hended, _, _, rfl, ?_, hEnd.1, hEnd.2.1, hEnd.2.2.1, hEnd.2.2.2.mono (by decide) (by decide)⟩
  · show Sp p e below T3 (mkF m 9 #[.val (.ref a1), .val (.ref a2)] []) _
    exact X3.returnOut hx Bd.returns (hb hby d_jdk_42_3_9) hr
  · show Q_str0A Z _ _ _ _ h0 n0 _ T3.vm T3.heap _
    exact ⟨rfl, N3, ((Keep.refl h0 [a1]).trans K3 (allS (Or.inl (List.mem_of_getElem? (i := 0) rfl)) all0)), Fc3, aE3, bE3, kE3, Fv3, Ab3, xE3, vE3, cE3, (Lit.stays (hL3 : Lit (s.setVm T3.vm) "java/lang/String" 7 aE3) X3.warmed.wide)⟩
theorem pn_sti0B : plainName "java/lang/String" = true := by first | (simp [plainName, overriddenIn]; done) | decide +kernel
theorem ef_sti0B (m : MethodId) (a1 : Addr) (a2 : Addr) : entryFrame m #[(.ref a1), (.ref a2), (.int (0 : Int32)), (.int (0 : Int32)), .null] 6 = (mkF m 0 #[.val (.ref a1), .val (.ref a2), .val (.int (0 : Int32)), .val (.int (0 : Int32)), .val .null, .unset] []) := by first | (simp [entryFrame, mkF, argsToLocals, Value.category]; done) | rfl
def Q_sti0B (Z : State) (a1 : Addr) (a2 : Addr) (u2 : Value) (aE bE : Addr) (kE : ClassId) (h0 : Heap) (n0 : Nat) (v : Option Value) (vm : Vm) (h : Heap) (L : List Loc) : Prop := v = none ∧ Fr n0 L ∧ Keep h0 h [a1] ∧ Fld Z h a1 "java/lang/String" "coder" "B" (.int (0 : Int32)) ∧ ∃ aE bE kE, Fld Z h a1 "java/lang/String" "value" "[B" (.ref bE) ∧ Arv Z h bE kE .byte (0 : Int32) [] (.int (0 : Int32)) ∧ Exa Z h aE "java/lang/String" ∧ Fld Z h aE "java/lang/String" "value" "[B" (.ref bE) ∧ Fld Z h aE "java/lang/String" "coder" "B" (.int (0 : Int32)) ∧ Lit (Z.setVm vm) "java/lang/String" 7 aE
set_option maxRecDepth 65536 in
set_option maxHeartbeats 40000000 in
theorem rm_sti0B (l : Launch) (Z : State) (a0 : Array Value) (hw : ∀ d ∈ tables_1, d.before a0 Z = true) (ws : List Jvm.Cond) (a1 : Addr) (a2 : Addr) (u2 : Value) (aE bE : Addr) (kE : ClassId) (h0 : Heap) (n0 : Nat) (O0 : Old Z n0 h0) (E1 : Exa Z h0 a1 "java/lang/String") (F1 : Fld Z h0 a1 "java/lang/String" "value" "[B" .null) (F2 : Fld Z h0 a1 "java/lang/String" "coder" "B" u2) (g1 : n0 ≤ a1) (xE : Exa Z h0 aE "java/lang/String") (vE : Fld Z h0 aE "java/lang/String" "value" "[B" (.ref bE)) (cE : Fld Z h0 aE "java/lang/String" "coder" "B" (.int (0 : Int32))) (AE : Arv Z h0 bE kE .byte (0 : Int32) [] (.int (0 : Int32))) :
    MetFree l (⟨"java/lang/String", "<init>", "([CIILjava/lang/Void;)V"⟩ : MethodName) (head1 (Jvm.Cond.code (⟨"java/lang/String", "<init>", "([CIILjava/lang/Void;)V"⟩ : MethodName) jdk_42_method_149_code 6 none :: ws) ({ frames := 1, cells := 2, slots := 4, locals := 12 } : Room)) (fun a U => a = #[(.ref a1), (.ref a2), (.int (0 : Int32)), (.int (0 : Int32)), .null] ∧ Z.Warmed39 U.vm ∧ U.heap = h0 ∧ Lit (Z.setVm U.vm) "java/lang/String" 7 aE) (fun _ _ _ _ _ => True) (fun _ U o U' => ∃ v L, o = .returned v ∧ Q_sti0B Z a1 a2 u2 aE bE kE h0 n0 v U'.vm U'.heap L ∧ ReturnedEndW U o U' L ({ frames := 1, cells := 2, slots := 4, locals := 12 } : Room).cells ({ frames := 1, cells := 2, slots := 4, locals := 12 } : Room).slots) := by
  refine MetFree.of_bodySF (plainFor_of_name pn_sti0B) hisR ?_
  intro p e s m args below meth c s₁ Bd hml0 hP hK
  obtain ⟨rfl, hZ, hh, hPV⟩ := hP
  have hx := Bd.exec
  have hby := Bd.bytes
  have hml : c.maxLocals = 6 := hml0
  have hown : s.vm.findClass "java/lang/String" = some m.cls := findClass_of_methodNamed Bd.named
  have hnm := (name_of_methodNamed Bd.named Bd.method).1
  have X0 : Stand p l e ({ frames := 1, cells := 2, slots := 4, locals := 12 } : Room) (s.setVm s.vm) m #[(.ref a1), (.ref a2), (.int (0 : Int32)), (.int (0 : Int32)), .null] below meth c s₁ [] 0 0 := Stand.of_body Bd
  have e0 : s₁.heap = h0 := by rw [← hh, Bd.state]; rfl
  have N0 := Fr.nil n0
  have pre0 : ∀ t, Steps p.tables e below (s₁.setTop (mkF m 0 #[.val (.ref a1), .val (.ref a2), .val (.int (0 : Int32)), .val (.int (0 : Int32)), .val .null, .unset] [])) t → Steps p.tables e below (s₁.setTop (entryFrame m #[(.ref a1), (.ref a2), (.int (0 : Int32)), (.int (0 : Int32)), .null] 6)) t := fun t k => castTop (ef_sti0B m a1 a2) k
  generalize s₁.setTop (entryFrame m #[(.ref a1), (.ref a2), (.int (0 : Int32)), (.int (0 : Int32)), .null] 6) = E0 at pre0 ⊢
  have pre_1 : ∀ t, Sp p e below s₁ (mkF m 1 #[.val (.ref a1), .val (.ref a2), .val (.int (0 : Int32)), .val (.int (0 : Int32)), .val .null, .unset] [(.ref a1)]) t → Steps p.tables e below E0 t := by
    intro t k
    refine pre0 t ?_
    show Sp p e below s₁ (mkF m 0 #[.val (.ref a1), .val (.ref a2), .val (.int (0 : Int32)), .val (.int (0 : Int32)), .val .null, .unset] []) _
    refine XS.aloadN X0.here hx rfl (hb hby d_jdk_42_149_0) rfl rfl ?_
    exact k
  obtain ⟨T2, X2, e2, st2⟩ := initO X0 hx hZ hown (own_w hw 15 rfl) (own_w hw 16 rfl) (own_w hw 17 rfl) e0 (g := (mkF m 1 #[.val (.ref a1), .val (.ref a2), .val (.int (0 : Int32)), .val (.int (0 : Int32)), .val .null, .unset] [(.ref a1)])) rfl (by rw [hml]; rfl) rfl (hb hby d_jdk_42_149_1) (by decide) (W := 0) (by show 2 * 0 + _ ≤ _; exact Nat.le_of_eq rfl) (by decide)
  have pre_3 : ∀ t, Sp p e below T2 (mkF m 4 #[.val (.ref a1), .val (.ref a2), .val (.int (0 : Int32)), .val (.int (0 : Int32)), .val .null, .unset] []) t → Steps p.tables e below E0 t := fun t k => pre_1 t (st2 t k)
  have pre_4 : ∀ t, Sp p e below T2 (mkF m 11 #[.val (.ref a1), .val (.ref a2), .val (.int (0 : Int32)), .val (.int (0 : Int32)), .val .null, .unset] [(.ref aE), (.ref a1)]) t → Steps p.tables e below E0 t := by
    intro t k
    refine pre_3 t ?_
    show Sp p e below T2 (mkF m 4 #[.val (.ref a1), .val (.ref a2), .val (.int (0 : Int32)), .val (.int (0 : Int32)), .val .null, .unset] []) _
    refine XS.iloadN X2.here hx rfl (hb hby d_jdk_42_149_4) rfl ?_
    refine XS.ifNo X2.here hx rfl (hb hby d_jdk_42_149_5) rfl (XT.i0_ne_f (by decide)) ?_
    refine XS.aloadN X2.here hx rfl (hb hby d_jdk_42_149_8) rfl rfl ?_
    show Sp p e below T2 (mkF m 9 #[.val (.ref a1), .val (.ref a2), .val (.int (0 : Int32)), .val (.int (0 : Int32)), .val .null, .unset] [(.ref a1)]) _
    refine ldcAgain (vm0 := s.vm) X2 hx hZ hown (own_w hw 18 rfl) (hPV : Lit (s.setVm s.vm) "java/lang/String" 7 aE) (g := (mkF m 9 #[.val (.ref a1), .val (.ref a2), .val (.int (0 : Int32)), .val (.int (0 : Int32)), .val .null, .unset] [(.ref a1)])) rfl (hb hby d_jdk_42_149_9) _ ?_
    exact k
  have neE : a1 ≠ aE := F1.ne vE (by simp)
  have neB : bE ≠ a1 := Ne.symm (Exa.neArv E1 AE (own_w hw 5 rfl))
  obtain ⟨T5, X5, e5, st5⟩ := getF X2 hx hZ hown (host := "") (Or.inl (own_w hw 24 rfl)) Via.refl e2 vE (g := (mkF m 11 #[.val (.ref a1), .val (.ref a2), .val (.int (0 : Int32)), .val (.int (0 : Int32)), .val .null, .unset] [(.ref aE), (.ref a1)])) rfl rfl (hb hby d_jdk_42_149_11)
  have pre_6 : ∀ t, Sp p e below T5 (mkF m 14 #[.val (.ref a1), .val (.ref a2), .val (.int (0 : Int32)), .val (.int (0 : Int32)), .val .null, .unset] [(.ref bE), (.ref a1)]) t → Steps p.tables e below E0 t := fun t k => pre_4 t (st5 t k)
  obtain ⟨T7, h7, X7, e7, W7, st7⟩ := putF X5 hx hZ hown (host := "") (Or.inl (own_w hw 24 rfl)) Via.refl e5 F1 E1 (Or.inr ⟨(own_w hw 20 rfl), rfl, hnm⟩) (own_w hw 5 rfl) (ty := (.array .byte)) (by decide) rfl rfl (g := (mkF m 14 #[.val (.ref a1), .val (.ref a2), .val (.int (0 : Int32)), .val (.int (0 : Int32)), .val .null, .unset] [(.ref bE), (.ref a1)])) rfl rfl (hb hby d_jdk_42_149_14)
  have Fw7 := F1.same W7
  have N7 := Fr.snoc X7 N0 g1
  have O7 : Old Z n0 h7 := O0.wr W7 g1
  have pre_8 : ∀ t, Sp p e below T7 (mkF m 17 #[.val (.ref a1), .val (.ref a2), .val (.int (0 : Int32)), .val (.int (0 : Int32)), .val .null, .unset] []) t → Steps p.tables e below E0 t := fun t k => pre_6 t (st7 t k)
  have pre_9 : ∀ t, Sp p e below T7 (mkF m 20 #[.val (.ref a1), .val (.ref a2), .val (.int (0 : Int32)), .val (.int (0 : Int32)), .val .null, .unset] [(.ref aE), (.ref a1)]) t → Steps p.tables e below E0 t := by
    intro t k
    refine pre_8 t ?_
    show Sp p e below T7 (mkF m 17 #[.val (.ref a1), .val (.ref a2), .val (.int (0 : Int32)), .val (.int (0 : Int32)), .val .null, .unset] []) _
    refine XS.aloadN X7.here hx rfl (hb hby d_jdk_42_149_17) rfl rfl ?_
    refine ldcAgain (vm0 := s.vm) X7 hx hZ hown (own_w hw 18 rfl) (hPV : Lit (s.setVm s.vm) "java/lang/String" 7 aE) (g := (mkF m 18 #[.val (.ref a1), .val (.ref a2), .val (.int (0 : Int32)), .val (.int (0 : Int32)), .val .null, .unset] [(.ref a1)])) rfl (hb hby d_jdk_42_149_18) _ ?_
    exact k
  obtain ⟨T10, X10, e10, st10⟩ := getF X7 hx hZ hown (host := "") (Or.inl (own_w hw 25 rfl)) Via.refl e7 (cE.other W7 (Or.inl (Ne.symm neE))) (g := (mkF m 20 #[.val (.ref a1), .val (.ref a2), .val (.int (0 : Int32)), .val (.int (0 : Int32)), .val .null, .unset] [(.ref aE), (.ref a1)])) rfl rfl (hb hby d_jdk_42_149_20)
  have pre_11 : ∀ t, Sp p e below T10 (mkF m 23 #[.val (.ref a1), .val (.ref a2), .val (.int (0 : Int32)), .val (.int (0 : Int32)), .val .null, .unset] [(.int (0 : Int32)), (.ref a1)]) t → Steps p.tables e below E0 t := fun t k => pre_9 t (st10 t k)
  obtain ⟨T12, h12, X12, e12, W12, st12⟩ := putF X10 hx hZ hown (host := "") (Or.inl (own_w hw 25 rfl)) Via.refl e10 (F2.other W7 (Or.inr (slot_ne (Or.inr (own_w hw 21 rfl)) (Or.inr (own_w hw 20 rfl)) (by decide) (t := .byte) (t' := (.array .byte)) (by decide) (by decide)))) (E1.wr W7) (Or.inr ⟨(own_w hw 21 rfl), rfl, hnm⟩) (own_w hw 5 rfl) (ty := .byte) (by decide) rfl rfl (g := (mkF m 23 #[.val (.ref a1), .val (.ref a2), .val (.int (0 : Int32)), .val (.int (0 : Int32)), .val .null, .unset] [(.int (0 : Int32)), (.ref a1)])) rfl rfl (hb hby d_jdk_42_149_23)
  have Fw12 := (F2.other W7 (Or.inr (slot_ne (Or.inr (own_w hw 21 rfl)) (Or.inr (own_w hw 20 rfl)) (by decide) (t := .byte) (t' := (.array .byte)) (by decide) (by decide)))).same W12
  have N12 := Fr.snoc X12 N7 g1
  have O12 : Old Z n0 h12 := O7.wr W12 g1
  have pre_13 : ∀ t, Sp p e below T12 (mkF m 26 #[.val (.ref a1), .val (.ref a2), .val (.int (0 : Int32)), .val (.int (0 : Int32)), .val .null, .unset] []) t → Steps p.tables e below E0 t := fun t k => pre_11 t (st12 t k)
  obtain ⟨fs, hr, hrun, hended, hEnd⟩ := X12.leaveW ((State.WarmedH.refl s).since 0) (by rw [e12]; exact (Nat.le_trans (Nat.zero_le _) (Nat.le_trans (Nat.le_trans (Nat.le_refl _) (Nat.le_of_eq W7.size.symm)) (Nat.le_of_eq W12.size.symm)))) (v := none) (fun _ => rfl)
  refine ⟨_, _, pre_13 _ ?_, hrun, hended, _, _, rfl, ?_, hEnd.1, hEnd.2.1, hEnd.2.2.1, hEnd.2.2.2.mono (by decide) (by decide)⟩
  · show Sp p e below T12 (mkF m 26 #[.val (.ref a1), .val (.ref a2), .val (.int (0 : Int32)), .val (.int (0 : Int32)), .val .null, .unset] []) _
    exact X12.returnOut hx Bd.returns (hb hby d_jdk_42_149_26) hr
  · show Q_sti0B Z _ _ _ _ _ _ h0 n0 _ T12.vm T12.heap _
    rw [e12]
    exact ⟨rfl, N12, (((Keep.refl h0 [a1]).wr W7 (Or.inl (List.mem_of_getElem? (i := 0) rfl))).wr W12 (Or.inl (List.mem_of_getElem? (i := 0) rfl))), Fw12, aE, bE, kE, (Fw7.other W12 (Or.inr (slot_ne (Or.inr (own_w hw 20 rfl)) (Or.inr (own_w hw 21 rfl)) (by decide) (t := (.array .byte)) (t' := .byte) (by decide) (by decide)))), ((AE.other W7 neB).other W12 neB), ((xE.wr W7).wr W12), ((vE.other W7 (Or.inl (Ne.symm neE))).other W12 (Or.inl (Ne.symm neE))), ((cE.other W7 (Or.inl (Ne.symm neE))).other W12 (Or.inl (Ne.symm neE))), (Lit.stays (hPV : Lit (s.setVm s.vm) "java/lang/String" 7 aE) X12.warmed.wide)⟩
theorem pn_str0B : plainName "java/lang/String" = true := by first | (simp [plainName, overriddenIn]; done) | decide +kernel
theorem pd_str0B_0 : parseMethodDescriptor "([CIILjava/lang/Void;)V" = some ⟨[(.array .char), .int, .int, (.object "java/lang/Void")], none⟩ := by decide +kernel
theorem ef_str0B (m : MethodId) (a1 : Addr) (a2 : Addr) : entryFrame m #[(.ref a1), (.ref a2)] 2 = (mkF m 0 #[.val (.ref a1), .val (.ref a2)] []) := by first | (simp [entryFrame, mkF, argsToLocals, Value.category]; done) | rfl
def Q_str0B (Z : State) (a1 : Addr) (a2 : Addr) (u2 : Value) (aE bE : Addr) (kE : ClassId) (kC : ClassId) (h0 : Heap) (n0 : Nat) (v : Option Value) (vm : Vm) (h : Heap) (L : List Loc) : Prop := v = none ∧ Fr n0 L ∧ Keep h0 h [a1] ∧ Fld Z h a1 "java/lang/String" "coder" "B" (.int (0 : Int32)) ∧ ∃ aE bE kE, Fld Z h a1 "java/lang/String" "value" "[B" (.ref bE) ∧ Arv Z h bE kE .byte (0 : Int32) [] (.int (0 : Int32)) ∧ Exa Z h aE "java/lang/String" ∧ Fld Z h aE "java/lang/String" "value" "[B" (.ref bE) ∧ Fld Z h aE "java/lang/String" "coder" "B" (.int (0 : Int32)) ∧ Lit (Z.setVm vm) "java/lang/String" 7 aE
set_option maxRecDepth 65536 in
set_option maxHeartbeats 40000000 in
theorem rm_str0B (l : Launch) (Z : State) (a0 : Array Value) (hw : ∀ d ∈ tables_1, d.before a0 Z = true) (ws : List Jvm.Cond) (a1 : Addr) (a2 : Addr) (u2 : Value) (aE bE : Addr) (kE : ClassId) (kC : ClassId) (h0 : Heap) (n0 : Nat) (O0 : Old Z n0 h0) (E1 : Exa Z h0 a1 "java/lang/String") (F1 : Fld Z h0 a1 "java/lang/String" "value" "[B" .null) (F2 : Fld Z h0 a1 "java/lang/String" "coder" "B" u2) (g1 : n0 ≤ a1) (xE : Exa Z h0 aE "java/lang/String") (vE : Fld Z h0 aE "java/lang/String" "value" "[B" (.ref bE)) (cE : Fld Z h0 aE "java/lang/String" "coder" "B" (.int (0 : Int32))) (AE : Arv Z h0 bE kE .byte (0 : Int32) [] (.int (0 : Int32))) (VC : Arv Z h0 a2 kC .char (0 : Int32) [] (.int (0 : Int32))) :
    MetFree l (⟨"java/lang/String", "<init>", "([C)V"⟩ : MethodName) (head1 (Jvm.Cond.code (⟨"java/lang/String", "<init>", "([C)V"⟩ : MethodName) jdk_42_method_3_code 2 none :: ws) ({ frames := 2, cells := 2, slots := 4, locals := 29 } : Room)) (fun a U => a = #[(.ref a1), (.ref a2)] ∧ Z.Warmed39 U.vm ∧ U.heap = h0 ∧ Lit (Z.setVm U.vm) "java/lang/String" 7 aE) (fun _ _ _ _ _ => True) (fun _ U o U' => ∃ v L, o = .returned v ∧ Q_str0B Z a1 a2 u2 aE bE kE kC h0 n0 v U'.vm U'.heap L ∧ ReturnedEndW U o U' L ({ frames := 2, cells := 2, slots := 4, locals := 29 } : Room).cells ({ frames := 2, cells := 2, slots := 4, locals := 29 } : Room).slots) := by
  refine MetFree.of_bodySF (plainFor_of_name pn_str0B) hisR ?_
  intro p e s m args below meth c s₁ Bd hml0 hP hK
  obtain ⟨rfl, hZ, hh, hPV⟩ := hP
  have hx := Bd.exec
  have hby := Bd.bytes
  have hml : c.maxLocals = 2 := hml0
  have hown : s.vm.findClass "java/lang/String" = some m.cls := findClass_of_methodNamed Bd.named
  have hnm := (name_of_methodNamed Bd.named Bd.method).1
  have X0 : Stand p l e ({ frames := 2, cells := 2, slots := 4, locals := 29 } : Room) (s.setVm s.vm) m #[(.ref a1), (.ref a2)] below meth c s₁ [] 0 0 := Stand.of_body Bd
  have e0 : s₁.heap = h0 := by rw [← hh, Bd.state]; rfl
  have N0 := Fr.nil n0
  have pre0 : ∀ t, Steps p.tables e below (s₁.setTop (mkF m 0 #[.val (.ref a1), .val (.ref a2)] [])) t → Steps p.tables e below (s₁.setTop (entryFrame m #[(.ref a1), (.ref a2)] 2)) t := fun t k => castTop (ef_str0B m a1 a2) k
  generalize s₁.setTop (entryFrame m #[(.ref a1), (.ref a2)] 2) = E0 at pre0 ⊢
  have pre_2 : ∀ t, Sp p e below s₁ (mkF m 6 #[.val (.ref a1), .val (.ref a2)] [.null, (.int (0 : Int32)), (.int (0 : Int32)), (.ref a2), (.ref a1)]) t → Steps p.tables e below E0 t := by
    intro t k
    refine pre0 t ?_
    show Sp p e below s₁ (mkF m 0 #[.val (.ref a1), .val (.ref a2)] []) _
    refine XS.aloadN X0.here hx rfl (hb hby d_jdk_42_3_0) rfl rfl ?_
    refine XS.aloadN X0.here hx rfl (hb hby d_jdk_42_3_1) rfl rfl ?_
    refine XS.iconst X0.here hx rfl (hb hby d_jdk_42_3_2) ?_
    refine XS.aloadN X0.here hx rfl (hb hby d_jdk_42_3_3) rfl rfl ?_
    show Sp p e below s₁ (mkF m 4 #[.val (.ref a1), .val (.ref a2)] [(.ref a2), (.int (0 : Int32)), (.ref a2), (.ref a1)]) _
    obtain ⟨cl1, Ar1, -, S1, M1, -, -⟩ := id VC
    refine X0.arraylength hx (cell := cl1) (by rw [e0]; exact Ar1.1) (State.isArrayOf_alike hZ.alike Ar1.2.1) (g := (mkF m 4 #[.val (.ref a1), .val (.ref a2)] [(.ref a2), (.int (0 : Int32)), (.ref a2), (.ref a1)])) rfl (rest := [(.int (0 : Int32)), (.ref a2), (.ref a1)]) rfl (hb hby d_jdk_42_3_4) _ ?_
    rw [len_of S1 M1]
    show Sp p e below s₁ (mkF m 5 #[.val (.ref a1), .val (.ref a2)] [(.int (0 : Int32)), (.int (0 : Int32)), (.ref a2), (.ref a1)]) _
    refine XS.aconstNull X0.here hx rfl (hb hby d_jdk_42_3_5) ?_
    exact k
  obtain ⟨_, _, ⟨T3, L3, k3, n3⟩, -, Y3, hs3, hg3, ⟨Lc3, hQ3, l3, y3, z3⟩, st3⟩ := X0.specialBackS hx (y := (⟨"java/lang/String", "<init>", "([CIILjava/lang/Void;)V"⟩ : MethodName)) rfl hown (mvT hZ (own_w hw 11 rfl)) (mvT hZ (own_w hw 12 rfl)) (mvT hZ (own_w hw 14 rfl)) (by decide) (own_backS (W := 0) (rm_sti0B l Z a0 hw [] a1 a2 u2 aE bE kE h0 n0 O0 E1 F1 F2 g1 xE vE cE AE) hZ (own_w hw 14 rfl) (own_w hw 6 rfl) (by decide) (by decide) (fun _ q => Lit.stays (hPV : Lit (s.setVm s.vm) "java/lang/String" 7 aE) q.wide)) (g := (mkF m 6 #[.val (.ref a1), .val (.ref a2)] [.null, (.int (0 : Int32)), (.int (0 : Int32)), (.ref a2), (.ref a1)])) rfl (by rw [hml]; rfl) (Steps.refl _) (a := a1) (argsL := [(.ref a2), (.int (0 : Int32)), (.int (0 : Int32)), .null]) (rest := []) (lenOf pd_str0B_0 rfl) rfl (by show 2 * 0 + _ ≤ _; exact Nat.le_of_eq rfl) (hb hby d_jdk_42_3_6) (fun _ _ => ⟨rfl, e0, (by decide : 0 + 2 ≤ _), (by decide : 0 + 4 ≤ _)⟩)
  dsimp only [Pt.U, Pt.locs, Pt.cells, Pt.slots] at Y3 hs3 hg3 l3 y3 z3 st3 hQ3
  subst l3 y3 z3
  obtain ⟨X3, hS3, hZ3, ho3⟩ := rebS ((State.WarmedH.refl s).since 0) (by rw [e0]; exact (Nat.le_trans (Nat.zero_le _) (Nat.le_refl _))) Y3 hs3 hg3 hZ hown
  obtain ⟨rfl, N3q, K3, Fc3, aE3, bE3, kE3, Fv3, Ab3, xE3, vE3, cE3, hL3⟩ := hQ3
  have N3 := Fr.app N0 N3q
  have O3 : Old Z n0 T3.heap := O0.keep K3 (allS g1 all0)
  have pre_4 : ∀ t, Sp p e below T3 (mkF m 9 #[.val (.ref a1), .val (.ref a2)] []) t → Steps p.tables e below E0 t := fun t k => pre_2 t (st3.trans k)
  obtain ⟨fs, hr, hrun, hended, hEnd⟩ := X3.leaveW hS3 (Nat.le_trans (Nat.le_refl _) (Nat.le_refl _)) (v := none) (fun _ => rfl)
  refine ⟨_, _, pre_4 _ ?_, hrun, hended, _, _, rfl, ?_, hEnd.1, hEnd.2.1, hEnd.2.2.1, hEnd.2.2.2.mono (by decide) (by decide)⟩
  · show Sp p e below T3 (mkF m 9 #[.val (.ref a1), .val (.ref a2)] []) _
    exact X3.returnOut hx Bd.returns (hb hby d_jdk_42_3_9) hr
  · show Q_str0B Z _ _ _ _ _ _ _ h0 n0 _ T3.vm T3.heap _
    exact ⟨rfl, N3, ((Keep.refl h0 [a1]).trans K3 (allS (Or.inl (List.mem_of_getElem? (i := 0) rfl)) all0)), Fc3, aE3, bE3, kE3, Fv3, Ab3, xE3, vE3, cE3, (Lit.stays (hL3 : Lit (s.setVm T3.vm) "java/lang/String" 7 aE3) X3.warmed.wide)⟩
theorem d_jdk_43_13_0 : decode jdk_43_method_13_code 0 = .ok (.aload_n 0, 1) := by decide +kernel
theorem d_jdk_43_13_1 : decode jdk_43_method_13_code 1 = .ok (.arraylength, 1) := by decide +kernel
theorem d_jdk_43_13_2 : decode jdk_43_method_13_code 2 = .ok (.aload_n 1, 1) := by decide +kernel
theorem d_jdk_43_13_3 : decode jdk_43_method_13_code 3 = .ok (.arraylength, 1) := by decide +kernel
theorem d_jdk_43_13_4 : decode jdk_43_method_13_code 4 = .ok (.if_icmp .ne 30, 3) := by decide +kernel
theorem d_jdk_43_13_7 : decode jdk_43_method_13_code 7 = .ok (.iconst 0, 1) := by decide +kernel
theorem d_jdk_43_13_8 : decode jdk_43_method_13_code 8 = .ok (.istore_n 2, 1) := by decide +kernel
theorem d_jdk_43_13_9 : decode jdk_43_method_13_code 9 = .ok (.iload_n 2, 1) := by decide +kernel
theorem d_jdk_43_13_10 : decode jdk_43_method_13_code 10 = .ok (.aload_n 0, 1) := by decide +kernel
theorem d_jdk_43_13_11 : decode jdk_43_method_13_code 11 = .ok (.arraylength, 1) := by decide +kernel
theorem d_jdk_43_13_12 : decode jdk_43_method_13_code 12 = .ok (.if_icmp .ge 20, 3) := by decide +kernel
theorem d_jdk_43_13_15 : decode jdk_43_method_13_code 15 = .ok (.aload_n 0, 1) := by decide +kernel
theorem d_jdk_43_13_16 : decode jdk_43_method_13_code 16 = .ok (.iload_n 2, 1) := by decide +kernel
theorem d_jdk_43_13_17 : decode jdk_43_method_13_code 17 = .ok (.baload, 1) := by decide +kernel
theorem d_jdk_43_13_18 : decode jdk_43_method_13_code 18 = .ok (.aload_n 1, 1) := by decide +kernel
theorem d_jdk_43_13_19 : decode jdk_43_method_13_code 19 = .ok (.iload_n 2, 1) := by decide +kernel
theorem d_jdk_43_13_20 : decode jdk_43_method_13_code 20 = .ok (.baload, 1) := by decide +kernel
theorem d_jdk_43_13_21 : decode jdk_43_method_13_code 21 = .ok (.if_icmp .eq 5, 3) := by decide +kernel
theorem d_jdk_43_13_24 : decode jdk_43_method_13_code 24 = .ok (.iconst 0, 1) := by decide +kernel
theorem d_jdk_43_13_25 : decode jdk_43_method_13_code 25 = .ok (.ireturn, 1) := by decide +kernel
theorem d_jdk_43_13_26 : decode jdk_43_method_13_code 26 = .ok (.iinc 2 1, 3) := by decide +kernel
theorem d_jdk_43_13_29 : decode jdk_43_method_13_code 29 = .ok (.goto (-20), 3) := by decide +kernel
theorem d_jdk_43_13_32 : decode jdk_43_method_13_code 32 = .ok (.iconst 1, 1) := by decide +kernel
theorem d_jdk_43_13_33 : decode jdk_43_method_13_code 33 = .ok (.ireturn, 1) := by decide +kernel
theorem d_jdk_43_13_34 : decode jdk_43_method_13_code 34 = .ok (.iconst 0, 1) := by decide +kernel
theorem d_jdk_43_13_35 : decode jdk_43_method_13_code 35 = .ok (.ireturn, 1) := by decide +kernel
theorem pn_lat : plainName "java/lang/StringLatin1" = true := by first | (simp [plainName, overriddenIn]; done) | decide +kernel
theorem ef_lat (m : MethodId) (a1 : Addr) (a2 : Addr) : entryFrame m #[(.ref a1), (.ref a2)] 3 = (mkF m 0 #[.val (.ref a1), .val (.ref a2), .unset] []) := by first | (simp [entryFrame, mkF, argsToLocals, Value.category]; done) | rfl
def Q_lat (Z : State) (a1 : Addr) (a2 : Addr) (k1 k2 : ClassId) (nn mm c0 c1 c2 d0 d1 d2 : Int32) (h0 : Heap) (n0 : Nat) (v : Option Value) (h : Heap) (L : List Loc) : Prop := v = some (.int (own_eqv nn mm c0 d0 c1 d1 c2 d2)) ∧ Fr n0 L ∧ h = h0
set_option maxRecDepth 65536 in
set_option maxHeartbeats 40000000 in
theorem rm_lat (l : Launch) (Z : State) (a0 : Array Value) (hw : ∀ d ∈ tables_1, d.before a0 Z = true) (ws : List Jvm.Cond) (a1 : Addr) (a2 : Addr) (k1 k2 : ClassId) (nn mm c0 c1 c2 d0 d1 d2 : Int32) (h0 : Heap) (n0 : Nat) (O0 : Old Z n0 h0) (A1 : own_Ar Z h0 a1 k1 nn c0 c1 c2) (A2 : own_Ar Z h0 a2 k2 mm d0 d1 d2) (hc0 : ¬ (255 : Int32) < c0 ∧ ¬ c0 < (0 : Int32)) (hc1 : ¬ (255 : Int32) < c1 ∧ ¬ c1 < (0 : Int32)) (hc2 : ¬ (255 : Int32) < c2 ∧ ¬ c2 < (0 : Int32)) (hd0 : ¬ (255 : Int32) < d0 ∧ ¬ d0 < (0 : Int32)) (hd1 : ¬ (255 : Int32) < d1 ∧ ¬ d1 < (0 : Int32)) (hd2 : ¬ (255 : Int32) < d2 ∧ ¬ d2 < (0 : Int32)) :
    MetFree l (⟨"java/lang/StringLatin1", "equals", "([B[B)Z"⟩ : MethodName) (head1 (Jvm.Cond.code (⟨"java/lang/StringLatin1", "equals", "([B[B)Z"⟩ : MethodName) jdk_43_method_13_code 3 (some .boolean) :: ws) ({ frames := 0, cells := 0, slots := 0, locals := 0 } : Room)) (fun a U => a = #[(.ref a1), (.ref a2)] ∧ Z.Warmed39 U.vm ∧ U.heap = h0) (fun _ _ _ _ _ => True) (fun _ U o U' => ∃ v L, o = .returned v ∧ Q_lat Z a1 a2 k1 k2 nn mm c0 c1 c2 d0 d1 d2 h0 n0 v U'.heap L ∧ FrameEnd U o U' L ({ frames := 0, cells := 0, slots := 0, locals := 0 } : Room).cells ({ frames := 0, cells := 0, slots := 0, locals := 0 } : Room).slots) := by
  refine MetFree.of_bodySF (plainFor_of_name pn_lat) hisR ?_
  intro p e s m args below meth c s₁ Bd hml0 hP hK
  obtain ⟨rfl, hZ, hh⟩ := hP
  have hx := Bd.exec
  have hby := Bd.bytes
  have hml : c.maxLocals = 3 := hml0
  have hown : s.vm.findClass "java/lang/StringLatin1" = some m.cls := findClass_of_methodNamed Bd.named
  have hnm := (name_of_methodNamed Bd.named Bd.method).1
  have X0 : Stand p l e ({ frames := 0, cells := 0, slots := 0, locals := 0 } : Room) s m #[(.ref a1), (.ref a2)] below meth c s₁ [] 0 0 := Stand.of_body Bd
  have e0 : s₁.heap = h0 := by rw [← hh, Bd.state]; rfl
  have N0 := Fr.nil n0
  have pre0 : ∀ t, Steps p.tables e below (s₁.setTop (mkF m 0 #[.val (.ref a1), .val (.ref a2), .unset] [])) t → Steps p.tables e below (s₁.setTop (entryFrame m #[(.ref a1), (.ref a2)] 3)) t := fun t k => castTop (ef_lat m a1 a2) k
  generalize s₁.setTop (entryFrame m #[(.ref a1), (.ref a2)] 3) = E0 at pre0 ⊢
  rcases A1 with ⟨rfl, V1⟩ | ⟨rfl, V1⟩ | ⟨rfl, V1⟩ | ⟨rfl, V1⟩
  · rcases A2 with ⟨rfl, V2⟩ | ⟨rfl, V2⟩ | ⟨rfl, V2⟩ | ⟨rfl, V2⟩
    · skip
      have pre_4 : ∀ t, Sp p e below s₁ (mkF m 33 #[.val (.ref a1), .val (.ref a2), .val (.int (0 : Int32))] [(.int (1 : Int32))]) t → Steps p.tables e below E0 t := by
        intro t k
        refine pre0 t ?_
        show Sp p e below s₁ (mkF m 0 #[.val (.ref a1), .val (.ref a2), .unset] []) _
        refine XS.aloadN X0.here hx rfl (hb hby d_jdk_43_13_0) rfl rfl ?_
        obtain ⟨cl1, Ar1, -, S1, M1, -, -⟩ := id V1
        refine X0.arraylength hx (cell := cl1) (by rw [e0]; exact Ar1.1) (State.isArrayOf_alike hZ.alike Ar1.2.1) (g := (mkF m 1 #[.val (.ref a1), .val (.ref a2), .unset] [(.ref a1)])) rfl (rest := []) rfl (hb hby d_jdk_43_13_1) _ ?_
        rw [len_of S1 M1]
        show Sp p e below s₁ (mkF m 2 #[.val (.ref a1), .val (.ref a2), .unset] [(.int (0 : Int32))]) _
        refine XS.aloadN X0.here hx rfl (hb hby d_jdk_43_13_2) rfl rfl ?_
        obtain ⟨cl2, Ar2, -, S2, M2, -, -⟩ := id V2
        refine X0.arraylength hx (cell := cl2) (by rw [e0]; exact Ar2.1) (State.isArrayOf_alike hZ.alike Ar2.2.1) (g := (mkF m 3 #[.val (.ref a1), .val (.ref a2), .unset] [(.ref a2), (.int (0 : Int32))])) rfl (rest := [(.int (0 : Int32))]) rfl (hb hby d_jdk_43_13_3) _ ?_
        rw [len_of S2 M2]
        show Sp p e below s₁ (mkF m 4 #[.val (.ref a1), .val (.ref a2), .unset] [(.int (0 : Int32)), (.int (0 : Int32))]) _
        refine XS.icmpNo X0.here hx rfl (hb hby d_jdk_43_13_4) rfl (XT.ii_ne_f (by decide)) ?_
        refine XS.iconst X0.here hx rfl (hb hby d_jdk_43_13_7) ?_
        show Sp p e below s₁ (mkF m 8 #[.val (.ref a1), .val (.ref a2), .unset] [(.int (0 : Int32))]) _
        refine XS.istoreN X0.here hx rfl (hb hby d_jdk_43_13_8) rfl (l' := #[.val (.ref a1), .val (.ref a2), .val (.int (0 : Int32))]) rfl ?_
        refine XS.iloadN X0.here hx rfl (hb hby d_jdk_43_13_9) rfl ?_
        refine XS.aloadN X0.here hx rfl (hb hby d_jdk_43_13_10) rfl rfl ?_
        obtain ⟨cl3, Ar3, -, S3, M3, -, -⟩ := id V1
        refine X0.arraylength hx (cell := cl3) (by rw [e0]; exact Ar3.1) (State.isArrayOf_alike hZ.alike Ar3.2.1) (g := (mkF m 11 #[.val (.ref a1), .val (.ref a2), .val (.int (0 : Int32))] [(.ref a1), (.int (0 : Int32))])) rfl (rest := [(.int (0 : Int32))]) rfl (hb hby d_jdk_43_13_11) _ ?_
        rw [len_of S3 M3]
        show Sp p e below s₁ (mkF m 12 #[.val (.ref a1), .val (.ref a2), .val (.int (0 : Int32))] [(.int (0 : Int32)), (.int (0 : Int32))]) _
        refine XS.icmpYes X0.here hx rfl (pc0 := 12) (pc' := 32) rfl (hb hby d_jdk_43_13_12) rfl (XT.ii_ge_t (by decide)) (by decide) (by decide) ?_
        show Sp p e below s₁ (mkF m 32 #[.val (.ref a1), .val (.ref a2), .val (.int (0 : Int32))] []) _
        refine XS.iconst X0.here hx rfl (hb hby d_jdk_43_13_32) ?_
        exact k
      obtain ⟨fs, hr, hrun, hended, hW, hsame⟩ := X0.leave (v := some (.int (1 : Int32))) (fun h => by rw [Bd.returns] at h; cases h)
      refine ⟨_, _, pre_4 _ ?_, hrun, hended, _, _, rfl, ?_, ⟨_, rfl⟩, hW, hsame.mono (by decide) (by decide)⟩
      · show Sp p e below s₁ (mkF m 33 #[.val (.ref a1), .val (.ref a2), .val (.int (0 : Int32))] [(.int (1 : Int32))]) _
        exact retN X0 hx (t := .boolean) Bd.returns (by simp) (hb hby d_jdk_43_13_33) hr
      · show Q_lat Z _ _ _ _ _ _ _ _ _ _ _ _ h0 n0 _ s₁.heap _
        rw [e0]
        exact ⟨by unfold own_eqv; rw [if_pos rfl, if_pos (by decide), if_pos (by decide), if_pos (by decide)], N0, rfl⟩
    · skip
      have pre_7 : ∀ t, Sp p e below s₁ (mkF m 35 #[.val (.ref a1), .val (.ref a2), .unset] [(.int (0 : Int32))]) t → Steps p.tables e below E0 t := by
        intro t k
        refine pre0 t ?_
        show Sp p e below s₁ (mkF m 0 #[.val (.ref a1), .val (.ref a2), .unset] []) _
        refine XS.aloadN X0.here hx rfl (hb hby d_jdk_43_13_0) rfl rfl ?_
        obtain ⟨cl5, Ar5, -, S5, M5, -, -⟩ := id V1
        refine X0.arraylength hx (cell := cl5) (by rw [e0]; exact Ar5.1) (State.isArrayOf_alike hZ.alike Ar5.2.1) (g := (mkF m 1 #[.val (.ref a1), .val (.ref a2), .unset] [(.ref a1)])) rfl (rest := []) rfl (hb hby d_jdk_43_13_1) _ ?_
        rw [len_of S5 M5]
        show Sp p e below s₁ (mkF m 2 #[.val (.ref a1), .val (.ref a2), .unset] [(.int (0 : Int32))]) _
        refine XS.aloadN X0.here hx rfl (hb hby d_jdk_43_13_2) rfl rfl ?_
        obtain ⟨cl6, Ar6, -, S6, M6, -, -⟩ := id V2
        refine X0.arraylength hx (cell := cl6) (by rw [e0]; exact Ar6.1) (State.isArrayOf_alike hZ.alike Ar6.2.1) (g := (mkF m 3 #[.val (.ref a1), .val (.ref a2), .unset] [(.ref a2), (.int (0 : Int32))])) rfl (rest := [(.int (0 : Int32))]) rfl (hb hby d_jdk_43_13_3) _ ?_
        rw [len_of S6 M6]
        show Sp p e below s₁ (mkF m 4 #[.val (.ref a1), .val (.ref a2), .unset] [(.int (1 : Int32)), (.int (0 : Int32))]) _
        refine XS.icmpYes X0.here hx rfl (pc0 := 4) (pc' := 34) rfl (hb hby d_jdk_43_13_4) rfl (XT.ii_ne_t (by decide)) (by decide) (by decide) ?_
        refine XS.iconst X0.here hx rfl (hb hby d_jdk_43_13_34) ?_
        show Sp p e below s₁ (mkF m 35 #[.val (.ref a1), .val (.ref a2), .unset] [(.int (0 : Int32))]) _
        exact k
      obtain ⟨fs, hr, hrun, hended, hW, hsame⟩ := X0.leave (v := some (.int (0 : Int32))) (fun h => by rw [Bd.returns] at h; cases h)
      refine ⟨_, _, pre_7 _ ?_, hrun, hended, _, _, rfl, ?_, ⟨_, rfl⟩, hW, hsame.mono (by decide) (by decide)⟩
      · show Sp p e below s₁ (mkF m 35 #[.val (.ref a1), .val (.ref a2), .unset] [(.int (0 : Int32))]) _
        exact retN X0 hx (t := .boolean) Bd.returns (by simp) (hb hby d_jdk_43_13_35) hr
      · show Q_lat Z _ _ _ _ _ _ _ _ _ _ _ _ h0 n0 _ s₁.heap _
        rw [e0]
        exact ⟨by unfold own_eqv; rw [if_neg (by decide)], N0, rfl⟩
    · skip
      have pre_10 : ∀ t, Sp p e below s₁ (mkF m 35 #[.val (.ref a1), .val (.ref a2), .unset] [(.int (0 : Int32))]) t → Steps p.tables e below E0 t := by
        intro t k
        refine pre0 t ?_
        show Sp p e below s₁ (mkF m 0 #[.val (.ref a1), .val (.ref a2), .unset] []) _
        refine XS.aloadN X0.here hx rfl (hb hby d_jdk_43_13_0) rfl rfl ?_
        obtain ⟨cl8, Ar8, -, S8, M8, -, -⟩ := id V1
        refine X0.arraylength hx (cell := cl8) (by rw [e0]; exact Ar8.1) (State.isArrayOf_alike hZ.alike Ar8.2.1) (g := (mkF m 1 #[.val (.ref a1), .val (.ref a2), .unset] [(.ref a1)])) rfl (rest := []) rfl (hb hby d_jdk_43_13_1) _ ?_
        rw [len_of S8 M8]
        show Sp p e below s₁ (mkF m 2 #[.val (.ref a1), .val (.ref a2), .unset] [(.int (0 : Int32))]) _
        refine XS.aloadN X0.here hx rfl (hb hby d_jdk_43_13_2) rfl rfl ?_
        obtain ⟨cl9, Ar9, -, S9, M9, -, -⟩ := id V2
        refine X0.arraylength hx (cell := cl9) (by rw [e0]; exact Ar9.1) (State.isArrayOf_alike hZ.alike Ar9.2.1) (g := (mkF m 3 #[.val (.ref a1), .val (.ref a2), .unset] [(.ref a2), (.int (0 : Int32))])) rfl (rest := [(.int (0 : Int32))]) rfl (hb hby d_jdk_43_13_3) _ ?_
        rw [len_of S9 M9]
        show Sp p e below s₁ (mkF m 4 #[.val (.ref a1), .val (.ref a2), .unset] [(.int (2 : Int32)), (.int (0 : Int32))]) _
        refine XS.icmpYes X0.here hx rfl (pc0 := 4) (pc' := 34) rfl (hb hby d_jdk_43_13_4) rfl (XT.ii_ne_t (by decide)) (by decide) (by decide) ?_
        refine XS.iconst X0.here hx rfl (hb hby d_jdk_43_13_34) ?_
        show Sp p e below s₁ (mkF m 35 #[.val (.ref a1), .val (.ref a2), .unset] [(.int (0 : Int32))]) _
        exact k
      obtain ⟨fs, hr, hrun, hended, hW, hsame⟩ := X0.leave (v := some (.int (0 : Int32))) (fun h => by rw [Bd.returns] at h; cases h)
      refine ⟨_, _, pre_10 _ ?_, hrun, hended, _, _, rfl, ?_, ⟨_, rfl⟩, hW, hsame.mono (by decide) (by decide)⟩
      · show Sp p e below s₁ (mkF m 35 #[.val (.ref a1), .val (.ref a2), .unset] [(.int (0 : Int32))]) _
        exact retN X0 hx (t := .boolean) Bd.returns (by simp) (hb hby d_jdk_43_13_35) hr
      · show Q_lat Z _ _ _ _ _ _ _ _ _ _ _ _ h0 n0 _ s₁.heap _
        rw [e0]
        exact ⟨by unfold own_eqv; rw [if_neg (by decide)], N0, rfl⟩
    · skip
      have pre_13 : ∀ t, Sp p e below s₁ (mkF m 35 #[.val (.ref a1), .val (.ref a2), .unset] [(.int (0 : Int32))]) t → Steps p.tables e below E0 t := by
        intro t k
        refine pre0 t ?_
        show Sp p e below s₁ (mkF m 0 #[.val (.ref a1), .val (.ref a2), .unset] []) _
        refine XS.aloadN X0.here hx rfl (hb hby d_jdk_43_13_0) rfl rfl ?_
        obtain ⟨cl11, Ar11, -, S11, M11, -, -⟩ := id V1
        refine X0.arraylength hx (cell := cl11) (by rw [e0]; exact Ar11.1) (State.isArrayOf_alike hZ.alike Ar11.2.1) (g := (mkF m 1 #[.val (.ref a1), .val (.ref a2), .unset] [(.ref a1)])) rfl (rest := []) rfl (hb hby d_jdk_43_13_1) _ ?_
        rw [len_of S11 M11]
        show Sp p e below s₁ (mkF m 2 #[.val (.ref a1), .val (.ref a2), .unset] [(.int (0 : Int32))]) _
        refine XS.aloadN X0.here hx rfl (hb hby d_jdk_43_13_2) rfl rfl ?_
        obtain ⟨cl12, Ar12, -, S12, M12, -, -⟩ := id V2
        refine X0.arraylength hx (cell := cl12) (by rw [e0]; exact Ar12.1) (State.isArrayOf_alike hZ.alike Ar12.2.1) (g := (mkF m 3 #[.val (.ref a1), .val (.ref a2), .unset] [(.ref a2), (.int (0 : Int32))])) rfl (rest := [(.int (0 : Int32))]) rfl (hb hby d_jdk_43_13_3) _ ?_
        rw [len_of S12 M12]
        show Sp p e below s₁ (mkF m 4 #[.val (.ref a1), .val (.ref a2), .unset] [(.int (3 : Int32)), (.int (0 : Int32))]) _
        refine XS.icmpYes X0.here hx rfl (pc0 := 4) (pc' := 34) rfl (hb hby d_jdk_43_13_4) rfl (XT.ii_ne_t (by decide)) (by decide) (by decide) ?_
        refine XS.iconst X0.here hx rfl (hb hby d_jdk_43_13_34) ?_
        show Sp p e below s₁ (mkF m 35 #[.val (.ref a1), .val (.ref a2), .unset] [(.int (0 : Int32))]) _
        exact k
      obtain ⟨fs, hr, hrun, hended, hW, hsame⟩ := X0.leave (v := some (.int (0 : Int32))) (fun h => by rw [Bd.returns] at h; cases h)
      refine ⟨_, _, pre_13 _ ?_, hrun, hended, _, _, rfl, ?_, ⟨_, rfl⟩, hW, hsame.mono (by decide) (by decide)⟩
      · show Sp p e below s₁ (mkF m 35 #[.val (.ref a1), .val (.ref a2), .unset] [(.int (0 : Int32))]) _
        exact retN X0 hx (t := .boolean) Bd.returns (by simp) (hb hby d_jdk_43_13_35) hr
      · show Q_lat Z _ _ _ _ _ _ _ _ _ _ _ _ h0 n0 _ s₁.heap _
        rw [e0]
        exact ⟨by unfold own_eqv; rw [if_neg (by decide)], N0, rfl⟩
  · rcases A2 with ⟨rfl, V2⟩ | ⟨rfl, V2⟩ | ⟨rfl, V2⟩ | ⟨rfl, V2⟩
    · skip
      have pre_16 : ∀ t, Sp p e below s₁ (mkF m 35 #[.val (.ref a1), .val (.ref a2), .unset] [(.int (0 : Int32))]) t → Steps p.tables e below E0 t := by
        intro t k
        refine pre0 t ?_
        show Sp p e below s₁ (mkF m 0 #[.val (.ref a1), .val (.ref a2), .unset] []) _
        refine XS.aloadN X0.here hx rfl (hb hby d_jdk_43_13_0) rfl rfl ?_
        obtain ⟨cl14, Ar14, -, S14, M14, -, -⟩ := id V1
        refine X0.arraylength hx (cell := cl14) (by rw [e0]; exact Ar14.1) (State.isArrayOf_alike hZ.alike Ar14.2.1) (g := (mkF m 1 #[.val (.ref a1), .val (.ref a2), .unset] [(.ref a1)])) rfl (rest := []) rfl (hb hby d_jdk_43_13_1) _ ?_
        rw [len_of S14 M14]
        show Sp p e below s₁ (mkF m 2 #[.val (.ref a1), .val (.ref a2), .unset] [(.int (1 : Int32))]) _
        refine XS.aloadN X0.here hx rfl (hb hby d_jdk_43_13_2) rfl rfl ?_
        obtain ⟨cl15, Ar15, -, S15, M15, -, -⟩ := id V2
        refine X0.arraylength hx (cell := cl15) (by rw [e0]; exact Ar15.1) (State.isArrayOf_alike hZ.alike Ar15.2.1) (g := (mkF m 3 #[.val (.ref a1), .val (.ref a2), .unset] [(.ref a2), (.int (1 : Int32))])) rfl (rest := [(.int (1 : Int32))]) rfl (hb hby d_jdk_43_13_3) _ ?_
        rw [len_of S15 M15]
        show Sp p e below s₁ (mkF m 4 #[.val (.ref a1), .val (.ref a2), .unset] [(.int (0 : Int32)), (.int (1 : Int32))]) _
        refine XS.icmpYes X0.here hx rfl (pc0 := 4) (pc' := 34) rfl (hb hby d_jdk_43_13_4) rfl (XT.ii_ne_t (by decide)) (by decide) (by decide) ?_
        refine XS.iconst X0.here hx rfl (hb hby d_jdk_43_13_34) ?_
        show Sp p e below s₁ (mkF m 35 #[.val (.ref a1), .val (.ref a2), .unset] [(.int (0 : Int32))]) _
        exact k
      obtain ⟨fs, hr, hrun, hended, hW, hsame⟩ := X0.leave (v := some (.int (0 : Int32))) (fun h => by rw [Bd.returns] at h; cases h)
      refine ⟨_, _, pre_16 _ ?_, hrun, hended, _, _, rfl, ?_, ⟨_, rfl⟩, hW, hsame.mono (by decide) (by decide)⟩
      · show Sp p e below s₁ (mkF m 35 #[.val (.ref a1), .val (.ref a2), .unset] [(.int (0 : Int32))]) _
        exact retN X0 hx (t := .boolean) Bd.returns (by simp) (hb hby d_jdk_43_13_35) hr
      · show Q_lat Z _ _ _ _ _ _ _ _ _ _ _ _ h0 n0 _ s₁.heap _
        rw [e0]
        exact ⟨by unfold own_eqv; rw [if_neg (by decide)], N0, rfl⟩
    · skip
      have pre_22 : ∀ t, Sp p e below s₁ (mkF m 21 #[.val (.ref a1), .val (.ref a2), .val (.int (0 : Int32))] [(.int (d0).toInt8.toInt32), (.int (c0).toInt8.toInt32)]) t → Steps p.tables e below E0 t := by
        intro t k
        refine pre0 t ?_
        show Sp p e below s₁ (mkF m 0 #[.val (.ref a1), .val (.ref a2), .unset] []) _
        refine XS.aloadN X0.here hx rfl (hb hby d_jdk_43_13_0) rfl rfl ?_
        obtain ⟨cl17, Ar17, -, S17, M17, -, -⟩ := id V1
        refine X0.arraylength hx (cell := cl17) (by rw [e0]; exact Ar17.1) (State.isArrayOf_alike hZ.alike Ar17.2.1) (g := (mkF m 1 #[.val (.ref a1), .val (.ref a2), .unset] [(.ref a1)])) rfl (rest := []) rfl (hb hby d_jdk_43_13_1) _ ?_
        rw [len_of S17 M17]
        show Sp p e below s₁ (mkF m 2 #[.val (.ref a1), .val (.ref a2), .unset] [(.int (1 : Int32))]) _
        refine XS.aloadN X0.here hx rfl (hb hby d_jdk_43_13_2) rfl rfl ?_
        obtain ⟨cl18, Ar18, -, S18, M18, -, -⟩ := id V2
        refine X0.arraylength hx (cell := cl18) (by rw [e0]; exact Ar18.1) (State.isArrayOf_alike hZ.alike Ar18.2.1) (g := (mkF m 3 #[.val (.ref a1), .val (.ref a2), .unset] [(.ref a2), (.int (1 : Int32))])) rfl (rest := [(.int (1 : Int32))]) rfl (hb hby d_jdk_43_13_3) _ ?_
        rw [len_of S18 M18]
        show Sp p e below s₁ (mkF m 4 #[.val (.ref a1), .val (.ref a2), .unset] [(.int (1 : Int32)), (.int (1 : Int32))]) _
        refine XS.icmpNo X0.here hx rfl (hb hby d_jdk_43_13_4) rfl (XT.ii_ne_f (by decide)) ?_
        refine XS.iconst X0.here hx rfl (hb hby d_jdk_43_13_7) ?_
        show Sp p e below s₁ (mkF m 8 #[.val (.ref a1), .val (.ref a2), .unset] [(.int (0 : Int32))]) _
        refine XS.istoreN X0.here hx rfl (hb hby d_jdk_43_13_8) rfl (l' := #[.val (.ref a1), .val (.ref a2), .val (.int (0 : Int32))]) rfl ?_
        refine XS.iloadN X0.here hx rfl (hb hby d_jdk_43_13_9) rfl ?_
        refine XS.aloadN X0.here hx rfl (hb hby d_jdk_43_13_10) rfl rfl ?_
        obtain ⟨cl19, Ar19, -, S19, M19, -, -⟩ := id V1
        refine X0.arraylength hx (cell := cl19) (by rw [e0]; exact Ar19.1) (State.isArrayOf_alike hZ.alike Ar19.2.1) (g := (mkF m 11 #[.val (.ref a1), .val (.ref a2), .val (.int (0 : Int32))] [(.ref a1), (.int (0 : Int32))])) rfl (rest := [(.int (0 : Int32))]) rfl (hb hby d_jdk_43_13_11) _ ?_
        rw [len_of S19 M19]
        show Sp p e below s₁ (mkF m 12 #[.val (.ref a1), .val (.ref a2), .val (.int (0 : Int32))] [(.int (1 : Int32)), (.int (0 : Int32))]) _
        refine XS.icmpNo X0.here hx rfl (hb hby d_jdk_43_13_12) rfl (XT.ii_ge_f (by decide)) ?_
        show Sp p e below s₁ (mkF m 15 #[.val (.ref a1), .val (.ref a2), .val (.int (0 : Int32))] []) _
        refine XS.aloadN X0.here hx rfl (hb hby d_jdk_43_13_15) rfl rfl ?_
        refine XS.iloadN X0.here hx rfl (hb hby d_jdk_43_13_16) rfl ?_
        obtain ⟨cl20, Ar20, -, S20, -, H20, -⟩ := id V1
        have hin20 : ¬ ((0 : Int32) < 0 ∨ cl20.slots.size ≤ ((0 : Int32)).toNatClampNeg) := inb_of S20 (by decide)
        refine X0.baloadBytes hx (j := (0 : Int32)) (v := (.int (c0).toInt8.toInt32)) (by rw [e0]; exact Ar20.1) (State.isArrayOf_alike hZ.alike Ar20.2.1) Ar20.2.2 hin20 (H20.at hin20 rfl) (g := (mkF m 17 #[.val (.ref a1), .val (.ref a2), .val (.int (0 : Int32))] [(.int (0 : Int32)), (.ref a1)])) rfl rfl (hb hby d_jdk_43_13_17) _ ?_
        refine XS.aloadN X0.here hx rfl (hb hby d_jdk_43_13_18) rfl rfl ?_
        show Sp p e below s₁ (mkF m 19 #[.val (.ref a1), .val (.ref a2), .val (.int (0 : Int32))] [(.ref a2), (.int (c0).toInt8.toInt32)]) _
        refine XS.iloadN X0.here hx rfl (hb hby d_jdk_43_13_19) rfl ?_
        obtain ⟨cl21, Ar21, -, S21, -, H21, -⟩ := id V2
        have hin21 : ¬ ((0 : Int32) < 0 ∨ cl21.slots.size ≤ ((0 : Int32)).toNatClampNeg) := inb_of S21 (by decide)
        refine X0.baloadBytes hx (j := (0 : Int32)) (v := (.int (d0).toInt8.toInt32)) (by rw [e0]; exact Ar21.1) (State.isArrayOf_alike hZ.alike Ar21.2.1) Ar21.2.2 hin21 (H21.at hin21 rfl) (g := (mkF m 20 #[.val (.ref a1), .val (.ref a2), .val (.int (0 : Int32))] [(.int (0 : Int32)), (.ref a2), (.int (c0).toInt8.toInt32)])) rfl rfl (hb hby d_jdk_43_13_20) _ ?_
        exact k
      by_cases hc23 : (c0).toInt8.toInt32 = (d0).toInt8.toInt32
      · skip
        have pre_25 : ∀ t, Sp p e below s₁ (mkF m 33 #[.val (.ref a1), .val (.ref a2), .val (.int (1 : Int32))] [(.int (1 : Int32))]) t → Steps p.tables e below E0 t := by
          intro t k
          refine pre_22 t ?_
          show Sp p e below s₁ (mkF m 21 #[.val (.ref a1), .val (.ref a2), .val (.int (0 : Int32))] [(.int (d0).toInt8.toInt32), (.int (c0).toInt8.toInt32)]) _
          refine XS.icmpYes X0.here hx rfl (pc0 := 21) (pc' := 26) rfl (hb hby d_jdk_43_13_21) rfl (XT.ii_eq_t hc23) (by decide) (by decide) ?_
          refine XS.iinc X0.here hx rfl (hb hby d_jdk_43_13_26) rfl (l' := #[.val (.ref a1), .val (.ref a2), .val (.int (1 : Int32))]) rfl ?_
          show Sp p e below s₁ (mkF m 29 #[.val (.ref a1), .val (.ref a2), .val (.int (1 : Int32))] []) _
          refine XS.goto X0.here hx rfl (pc0 := 29) (pc' := 9) rfl (hb hby d_jdk_43_13_29) (by decide) (by decide) ?_
          refine XS.iloadN X0.here hx rfl (hb hby d_jdk_43_13_9) rfl ?_
          refine XS.aloadN X0.here hx rfl (hb hby d_jdk_43_13_10) rfl rfl ?_
          obtain ⟨cl24, Ar24, -, S24, M24, -, -⟩ := id V1
          refine X0.arraylength hx (cell := cl24) (by rw [e0]; exact Ar24.1) (State.isArrayOf_alike hZ.alike Ar24.2.1) (g := (mkF m 11 #[.val (.ref a1), .val (.ref a2), .val (.int (1 : Int32))] [(.ref a1), (.int (1 : Int32))])) rfl (rest := [(.int (1 : Int32))]) rfl (hb hby d_jdk_43_13_11) _ ?_
          rw [len_of S24 M24]
          show Sp p e below s₁ (mkF m 12 #[.val (.ref a1), .val (.ref a2), .val (.int (1 : Int32))] [(.int (1 : Int32)), (.int (1 : Int32))]) _
          refine XS.icmpYes X0.here hx rfl (pc0 := 12) (pc' := 32) rfl (hb hby d_jdk_43_13_12) rfl (XT.ii_ge_t (by decide)) (by decide) (by decide) ?_
          show Sp p e below s₁ (mkF m 32 #[.val (.ref a1), .val (.ref a2), .val (.int (1 : Int32))] []) _
          refine XS.iconst X0.here hx rfl (hb hby d_jdk_43_13_32) ?_
          exact k
        obtain ⟨fs, hr, hrun, hended, hW, hsame⟩ := X0.leave (v := some (.int (1 : Int32))) (fun h => by rw [Bd.returns] at h; cases h)
        refine ⟨_, _, pre_25 _ ?_, hrun, hended, _, _, rfl, ?_, ⟨_, rfl⟩, hW, hsame.mono (by decide) (by decide)⟩
        · show Sp p e below s₁ (mkF m 33 #[.val (.ref a1), .val (.ref a2), .val (.int (1 : Int32))] [(.int (1 : Int32))]) _
          exact retN X0 hx (t := .boolean) Bd.returns (by simp) (hb hby d_jdk_43_13_33) hr
        · show Q_lat Z _ _ _ _ _ _ _ _ _ _ _ _ h0 n0 _ s₁.heap _
          rw [e0]
          exact ⟨by unfold own_eqv; rw [if_pos rfl, if_neg (by decide), if_pos ((own_byeq hc0 hd0).mp hc23), if_pos (by decide), if_pos (by decide)], N0, rfl⟩
      · skip
        have pre_26 : ∀ t, Sp p e below s₁ (mkF m 25 #[.val (.ref a1), .val (.ref a2), .val (.int (0 : Int32))] [(.int (0 : Int32))]) t → Steps p.tables e below E0 t := by
          intro t k
          refine pre_22 t ?_
          show Sp p e below s₁ (mkF m 21 #[.val (.ref a1), .val (.ref a2), .val (.int (0 : Int32))] [(.int (d0).toInt8.toInt32), (.int (c0).toInt8.toInt32)]) _
          refine XS.icmpNo X0.here hx rfl (hb hby d_jdk_43_13_21) rfl (XT.ii_eq_f hc23) ?_
          refine XS.iconst X0.here hx rfl (hb hby d_jdk_43_13_24) ?_
          show Sp p e below s₁ (mkF m 25 #[.val (.ref a1), .val (.ref a2), .val (.int (0 : Int32))] [(.int (0 : Int32))]) _
          exact k
        obtain ⟨fs, hr, hrun, hended, hW, hsame⟩ := X0.leave (v := some (.int (0 : Int32))) (fun h => by rw [Bd.returns] at h; cases h)
        refine ⟨_, _, pre_26 _ ?_, hrun, hended, _, _, rfl, ?_, ⟨_, rfl⟩, hW, hsame.mono (by decide) (by decide)⟩
        · show Sp p e below s₁ (mkF m 25 #[.val (.ref a1), .val (.ref a2), .val (.int (0 : Int32))] [(.int (0 : Int32))]) _
          exact retN X0 hx (t := .boolean) Bd.returns (by simp) (hb hby d_jdk_43_13_25) hr
        · show Q_lat Z _ _ _ _ _ _ _ _ _ _ _ _ h0 n0 _ s₁.heap _
          rw [e0]
          exact ⟨by unfold own_eqv; rw [if_pos rfl, if_neg (by decide), if_neg (fun q => hc23 ((own_byeq hc0 hd0).mpr q))], N0, rfl⟩
    · skip
      have pre_29 : ∀ t, Sp p e below s₁ (mkF m 35 #[.val (.ref a1), .val (.ref a2), .unset] [(.int (0 : Int32))]) t → Steps p.tables e below E0 t := by
        intro t k
        refine pre0 t ?_
        show Sp p e below s₁ (mkF m 0 #[.val (.ref a1), .val (.ref a2), .unset] []) _
        refine XS.aloadN X0.here hx rfl (hb hby d_jdk_43_13_0) rfl rfl ?_
        obtain ⟨cl27, Ar27, -, S27, M27, -, -⟩ := id V1
        refine X0.arraylength hx (cell := cl27) (by rw [e0]; exact Ar27.1) (State.isArrayOf_alike hZ.alike Ar27.2.1) (g := (mkF m 1 #[.val (.ref a1), .val (.ref a2), .unset] [(.ref a1)])) rfl (rest := []) rfl (hb hby d_jdk_43_13_1) _ ?_
        rw [len_of S27 M27]
        show Sp p e below s₁ (mkF m 2 #[.val (.ref a1), .val (.ref a2), .unset] [(.int (1 : Int32))]) _
        refine XS.aloadN X0.here hx rfl (hb hby d_jdk_43_13_2) rfl rfl ?_
        obtain ⟨cl28, Ar28, -, S28, M28, -, -⟩ := id V2
        refine X0.arraylength hx (cell := cl28) (by rw [e0]; exact Ar28.1) (State.isArrayOf_alike hZ.alike Ar28.2.1) (g := (mkF m 3 #[.val (.ref a1), .val (.ref a2), .unset] [(.ref a2), (.int (1 : Int32))])) rfl (rest := [(.int (1 : Int32))]) rfl (hb hby d_jdk_43_13_3) _ ?_
        rw [len_of S28 M28]
        show Sp p e below s₁ (mkF m 4 #[.val (.ref a1), .val (.ref a2), .unset] [(.int (2 : Int32)), (.int (1 : Int32))]) _
        refine XS.icmpYes X0.here hx rfl (pc0 := 4) (pc' := 34) rfl (hb hby d_jdk_43_13_4) rfl (XT.ii_ne_t (by decide)) (by decide) (by decide) ?_
        refine XS.iconst X0.here hx rfl (hb hby d_jdk_43_13_34) ?_
        show Sp p e below s₁ (mkF m 35 #[.val (.ref a1), .val (.ref a2), .unset] [(.int (0 : Int32))]) _
        exact k
      obtain ⟨fs, hr, hrun, hended, hW, hsame⟩ := X0.leave (v := some (.int (0 : Int32))) (fun h => by rw [Bd.returns] at h; cases h)
      refine ⟨_, _, pre_29 _ ?_, hrun, hended, _, _, rfl, ?_, ⟨_, rfl⟩, hW, hsame.mono (by decide) (by decide)⟩
      · show Sp p e below s₁ (mkF m 35 #[.val (.ref a1), .val (.ref a2), .unset] [(.int (0 : Int32))]) _
        exact retN X0 hx (t := .boolean) Bd.returns (by simp) (hb hby d_jdk_43_13_35) hr
      · show Q_lat Z _ _ _ _ _ _ _ _ _ _ _ _ h0 n0 _ s₁.heap _
        rw [e0]
        exact ⟨by unfold own_eqv; rw [if_neg (by decide)], N0, rfl⟩
    · skip
      have pre_32 : ∀ t, Sp p e below s₁ (mkF m 35 #[.val (.ref a1), .val (.ref a2), .unset] [(.int (0 : Int32))]) t → Steps p.tables e below E0 t := by
        intro t k
        refine pre0 t ?_
        show Sp p e below s₁ (mkF m 0 #[.val (.ref a1), .val (.ref a2), .unset] []) _
        refine XS.aloadN X0.here hx rfl (hb hby d_jdk_43_13_0) rfl rfl ?_
        obtain ⟨cl30, Ar30, -, S30, M30, -, -⟩ := id V1
        refine X0.arraylength hx (cell := cl30) (by rw [e0]; exact Ar30.1) (State.isArrayOf_alike hZ.alike Ar30.2.1) (g := (mkF m 1 #[.val (.ref a1), .val (.ref a2), .unset] [(.ref a1)])) rfl (rest := []) rfl (hb hby d_jdk_43_13_1) _ ?_
        rw [len_of S30 M30]
        show Sp p e below s₁ (mkF m 2 #[.val (.ref a1), .val (.ref a2), .unset] [(.int (1 : Int32))]) _
        refine XS.aloadN X0.here hx rfl (hb hby d_jdk_43_13_2) rfl rfl ?_
        obtain ⟨cl31, Ar31, -, S31, M31, -, -⟩ := id V2
        refine X0.arraylength hx (cell := cl31) (by rw [e0]; exact Ar31.1) (State.isArrayOf_alike hZ.alike Ar31.2.1) (g := (mkF m 3 #[.val (.ref a1), .val (.ref a2), .unset] [(.ref a2), (.int (1 : Int32))])) rfl (rest := [(.int (1 : Int32))]) rfl (hb hby d_jdk_43_13_3) _ ?_
        rw [len_of S31 M31]
        show Sp p e below s₁ (mkF m 4 #[.val (.ref a1), .val (.ref a2), .unset] [(.int (3 : Int32)), (.int (1 : Int32))]) _
        refine XS.icmpYes X0.here hx rfl (pc0 := 4) (pc' := 34) rfl (hb hby d_jdk_43_13_4) rfl (XT.ii_ne_t (by decide)) (by decide) (by decide) ?_
        refine XS.iconst X0.here hx rfl (hb hby d_jdk_43_13_34) ?_
        show Sp p e below s₁ (mkF m 35 #[.val (.ref a1), .val (.ref a2), .unset] [(.int (0 : Int32))]) _
        exact k
      obtain ⟨fs, hr, hrun, hended, hW, hsame⟩ := X0.leave (v := some (.int (0 : Int32))) (fun h => by rw [Bd.returns] at h; cases h)
      refine ⟨_, _, pre_32 _ ?_, hrun, hended, _, _, rfl, ?_, ⟨_, rfl⟩, hW, hsame.mono (by decide) (by decide)⟩
      · show Sp p e below s₁ (mkF m 35 #[.val (.ref a1), .val (.ref a2), .unset] [(.int (0 : Int32))]) _
        exact retN X0 hx (t := .boolean) Bd.returns (by simp) (hb hby d_jdk_43_13_35) hr
      · show Q_lat Z _ _ _ _ _ _ _ _ _ _ _ _ h0 n0 _ s₁.heap _
        rw [e0]
        exact ⟨by unfold own_eqv; rw [if_neg (by decide)], N0, rfl⟩
  · rcases A2 with ⟨rfl, V2⟩ | ⟨rfl, V2⟩ | ⟨rfl, V2⟩ | ⟨rfl, V2⟩
    · skip
      have pre_35 : ∀ t, Sp p e below s₁ (mkF m 35 #[.val (.ref a1), .val (.ref a2), .unset] [(.int (0 : Int32))]) t → Steps p.tables e below E0 t := by
        intro t k
        refine pre0 t ?_
        show Sp p e below s₁ (mkF m 0 #[.val (.ref a1), .val (.ref a2), .unset] []) _
        refine XS.aloadN X0.here hx rfl (hb hby d_jdk_43_13_0) rfl rfl ?_
        obtain ⟨cl33, Ar33, -, S33, M33, -, -⟩ := id V1
        refine X0.arraylength hx (cell := cl33) (by rw [e0]; exact Ar33.1) (State.isArrayOf_alike hZ.alike Ar33.2.1) (g := (mkF m 1 #[.val (.ref a1), .val (.ref a2), .unset] [(.ref a1)])) rfl (rest := []) rfl (hb hby d_jdk_43_13_1) _ ?_
        rw [len_of S33 M33]
        show Sp p e below s₁ (mkF m 2 #[.val (.ref a1), .val (.ref a2), .unset] [(.int (2 : Int32))]) _
        refine XS.aloadN X0.here hx rfl (hb hby d_jdk_43_13_2) rfl rfl ?_
        obtain ⟨cl34, Ar34, -, S34, M34, -, -⟩ := id V2
        refine X0.arraylength hx (cell := cl34) (by rw [e0]; exact Ar34.1) (State.isArrayOf_alike hZ.alike Ar34.2.1) (g := (mkF m 3 #[.val (.ref a1), .val (.ref a2), .unset] [(.ref a2), (.int (2 : Int32))])) rfl (rest := [(.int (2 : Int32))]) rfl (hb hby d_jdk_43_13_3) _ ?_
        rw [len_of S34 M34]
        show Sp p e below s₁ (mkF m 4 #[.val (.ref a1), .val (.ref a2), .unset] [(.int (0 : Int32)), (.int (2 : Int32))]) _
        refine XS.icmpYes X0.here hx rfl (pc0 := 4) (pc' := 34) rfl (hb hby d_jdk_43_13_4) rfl (XT.ii_ne_t (by decide)) (by decide) (by decide) ?_
        refine XS.iconst X0.here hx rfl (hb hby d_jdk_43_13_34) ?_
        show Sp p e below s₁ (mkF m 35 #[.val (.ref a1), .val (.ref a2), .unset] [(.int (0 : Int32))]) _
        exact k
      obtain ⟨fs, hr, hrun, hended, hW, hsame⟩ := X0.leave (v := some (.int (0 : Int32))) (fun h => by rw [Bd.returns] at h; cases h)
      refine ⟨_, _, pre_35 _ ?_, hrun, hended, _, _, rfl, ?_, ⟨_, rfl⟩, hW, hsame.mono (by decide) (by decide)⟩
      · show Sp p e below s₁ (mkF m 35 #[.val (.ref a1), .val (.ref a2), .unset] [(.int (0 : Int32))]) _
        exact retN X0 hx (t := .boolean) Bd.returns (by simp) (hb hby d_jdk_43_13_35) hr
      · show Q_lat Z _ _ _ _ _ _ _ _ _ _ _ _ h0 n0 _ s₁.heap _
        rw [e0]
        exact ⟨by unfold own_eqv; rw [if_neg (by decide)], N0, rfl⟩
    · skip
      have pre_38 : ∀ t, Sp p e below s₁ (mkF m 35 #[.val (.ref a1), .val (.ref a2), .unset] [(.int (0 : Int32))]) t → Steps p.tables e below E0 t := by
        intro t k
        refine pre0 t ?_
        show Sp p e below s₁ (mkF m 0 #[.val (.ref a1), .val (.ref a2), .unset] []) _
        refine XS.aloadN X0.here hx rfl (hb hby d_jdk_43_13_0) rfl rfl ?_
        obtain ⟨cl36, Ar36, -, S36, M36, -, -⟩ := id V1
        refine X0.arraylength hx (cell := cl36) (by rw [e0]; exact Ar36.1) (State.isArrayOf_alike hZ.alike Ar36.2.1) (g := (mkF m 1 #[.val (.ref a1), .val (.ref a2), .unset] [(.ref a1)])) rfl (rest := []) rfl (hb hby d_jdk_43_13_1) _ ?_
        rw [len_of S36 M36]
        show Sp p e below s₁ (mkF m 2 #[.val (.ref a1), .val (.ref a2), .unset] [(.int (2 : Int32))]) _
        refine XS.aloadN X0.here hx rfl (hb hby d_jdk_43_13_2) rfl rfl ?_
        obtain ⟨cl37, Ar37, -, S37, M37, -, -⟩ := id V2
        refine X0.arraylength hx (cell := cl37) (by rw [e0]; exact Ar37.1) (State.isArrayOf_alike hZ.alike Ar37.2.1) (g := (mkF m 3 #[.val (.ref a1), .val (.ref a2), .unset] [(.ref a2), (.int (2 : Int32))])) rfl (rest := [(.int (2 : Int32))]) rfl (hb hby d_jdk_43_13_3) _ ?_
        rw [len_of S37 M37]
        show Sp p e below s₁ (mkF m 4 #[.val (.ref a1), .val (.ref a2), .unset] [(.int (1 : Int32)), (.int (2 : Int32))]) _
        refine XS.icmpYes X0.here hx rfl (pc0 := 4) (pc' := 34) rfl (hb hby d_jdk_43_13_4) rfl (XT.ii_ne_t (by decide)) (by decide) (by decide) ?_
        refine XS.iconst X0.here hx rfl (hb hby d_jdk_43_13_34) ?_
        show Sp p e below s₁ (mkF m 35 #[.val (.ref a1), .val (.ref a2), .unset] [(.int (0 : Int32))]) _
        exact k
      obtain ⟨fs, hr, hrun, hended, hW, hsame⟩ := X0.leave (v := some (.int (0 : Int32))) (fun h => by rw [Bd.returns] at h; cases h)
      refine ⟨_, _, pre_38 _ ?_, hrun, hended, _, _, rfl, ?_, ⟨_, rfl⟩, hW, hsame.mono (by decide) (by decide)⟩
      · show Sp p e below s₁ (mkF m 35 #[.val (.ref a1), .val (.ref a2), .unset] [(.int (0 : Int32))]) _
        exact retN X0 hx (t := .boolean) Bd.returns (by simp) (hb hby d_jdk_43_13_35) hr
      · show Q_lat Z _ _ _ _ _ _ _ _ _ _ _ _ h0 n0 _ s₁.heap _
        rw [e0]
        exact ⟨by unfold own_eqv; rw [if_neg (by decide)], N0, rfl⟩
    · skip
      have pre_44 : ∀ t, Sp p e below s₁ (mkF m 21 #[.val (.ref a1), .val (.ref a2), .val (.int (0 : Int32))] [(.int (d0).toInt8.toInt32), (.int (c0).toInt8.toInt32)]) t → Steps p.tables e below E0 t := by
        intro t k
        refine pre0 t ?_
        show Sp p e below s₁ (mkF m 0 #[.val (.ref a1), .val (.ref a2), .unset] []) _
        refine XS.aloadN X0.here hx rfl (hb hby d_jdk_43_13_0) rfl rfl ?_
        obtain ⟨cl39, Ar39, -, S39, M39, -, -⟩ := id V1
        refine X0.arraylength hx (cell := cl39) (by rw [e0]; exact Ar39.1) (State.isArrayOf_alike hZ.alike Ar39.2.1) (g := (mkF m 1 #[.val (.ref a1), .val (.ref a2), .unset] [(.ref a1)])) rfl (rest := []) rfl (hb hby d_jdk_43_13_1) _ ?_
        rw [len_of S39 M39]
        show Sp p e below s₁ (mkF m 2 #[.val (.ref a1), .val (.ref a2), .unset] [(.int (2 : Int32))]) _
        refine XS.aloadN X0.here hx rfl (hb hby d_jdk_43_13_2) rfl rfl ?_
        obtain ⟨cl40, Ar40, -, S40, M40, -, -⟩ := id V2
        refine X0.arraylength hx (cell := cl40) (by rw [e0]; exact Ar40.1) (State.isArrayOf_alike hZ.alike Ar40.2.1) (g := (mkF m 3 #[.val (.ref a1), .val (.ref a2), .unset] [(.ref a2), (.int (2 : Int32))])) rfl (rest := [(.int (2 : Int32))]) rfl (hb hby d_jdk_43_13_3) _ ?_
        rw [len_of S40 M40]
        show Sp p e below s₁ (mkF m 4 #[.val (.ref a1), .val (.ref a2), .unset] [(.int (2 : Int32)), (.int (2 : Int32))]) _
        refine XS.icmpNo X0.here hx rfl (hb hby d_jdk_43_13_4) rfl (XT.ii_ne_f (by decide)) ?_
        refine XS.iconst X0.here hx rfl (hb hby d_jdk_43_13_7) ?_
        show Sp p e below s₁ (mkF m 8 #[.val (.ref a1), .val (.ref a2), .unset] [(.int (0 : Int32))]) _
        refine XS.istoreN X0.here hx rfl (hb hby d_jdk_43_13_8) rfl (l' := #[.val (.ref a1), .val (.ref a2), .val (.int (0 : Int32))]) rfl ?_
        refine XS.iloadN X0.here hx rfl (hb hby d_jdk_43_13_9) rfl ?_
        refine XS.aloadN X0.here hx rfl (hb hby d_jdk_43_13_10) rfl rfl ?_
        obtain ⟨cl41, Ar41, -, S41, M41, -, -⟩ := id V1
        refine X0.arraylength hx (cell := cl41) (by rw [e0]; exact Ar41.1) (State.isArrayOf_alike hZ.alike Ar41.2.1) (g := (mkF m 11 #[.val (.ref a1), .val (.ref a2), .val (.int (0 : Int32))] [(.ref a1), (.int (0 : Int32))])) rfl (rest := [(.int (0 : Int32))]) rfl (hb hby d_jdk_43_13_11) _ ?_
        rw [len_of S41 M41]
        show Sp p e below s₁ (mkF m 12 #[.val (.ref a1), .val (.ref a2), .val (.int (0 : Int32))] [(.int (2 : Int32)), (.int (0 : Int32))]) _
        refine XS.icmpNo X0.here hx rfl (hb hby d_jdk_43_13_12) rfl (XT.ii_ge_f (by decide)) ?_
        show Sp p e below s₁ (mkF m 15 #[.val (.ref a1), .val (.ref a2), .val (.int (0 : Int32))] []) _
        refine XS.aloadN X0.here hx rfl (hb hby d_jdk_43_13_15) rfl rfl ?_
        refine XS.iloadN X0.here hx rfl (hb hby d_jdk_43_13_16) rfl ?_
        obtain ⟨cl42, Ar42, -, S42, -, H42, -⟩ := id V1
        have hin42 : ¬ ((0 : Int32) < 0 ∨ cl42.slots.size ≤ ((0 : Int32)).toNatClampNeg) := inb_of S42 (by decide)
        refine X0.baloadBytes hx (j := (0 : Int32)) (v := (.int (c0).toInt8.toInt32)) (by rw [e0]; exact Ar42.1) (State.isArrayOf_alike hZ.alike Ar42.2.1) Ar42.2.2 hin42 (H42.at hin42 rfl) (g := (mkF m 17 #[.val (.ref a1), .val (.ref a2), .val (.int (0 : Int32))] [(.int (0 : Int32)), (.ref a1)])) rfl rfl (hb hby d_jdk_43_13_17) _ ?_
        refine XS.aloadN X0.here hx rfl (hb hby d_jdk_43_13_18) rfl rfl ?_
        show Sp p e below s₁ (mkF m 19 #[.val (.ref a1), .val (.ref a2), .val (.int (0 : Int32))] [(.ref a2), (.int (c0).toInt8.toInt32)]) _
        refine XS.iloadN X0.here hx rfl (hb hby d_jdk_43_13_19) rfl ?_
        obtain ⟨cl43, Ar43, -, S43, -, H43, -⟩ := id V2
        have hin43 : ¬ ((0 : Int32) < 0 ∨ cl43.slots.size ≤ ((0 : Int32)).toNatClampNeg) := inb_of S43 (by decide)
        refine X0.baloadBytes hx (j := (0 : Int32)) (v := (.int (d0).toInt8.toInt32)) (by rw [e0]; exact Ar43.1) (State.isArrayOf_alike hZ.alike Ar43.2.1) Ar43.2.2 hin43 (H43.at hin43 rfl) (g := (mkF m 20 #[.val (.ref a1), .val (.ref a2), .val (.int (0 : Int32))] [(.int (0 : Int32)), (.ref a2), (.int (c0).toInt8.toInt32)])) rfl rfl (hb hby d_jdk_43_13_20) _ ?_
        exact k
      by_cases hc45 : (c0).toInt8.toInt32 = (d0).toInt8.toInt32
      · skip
        have pre_49 : ∀ t, Sp p e below s₁ (mkF m 21 #[.val (.ref a1), .val (.ref a2), .val (.int (1 : Int32))] [(.int (d1).toInt8.toInt32), (.int (c1).toInt8.toInt32)]) t → Steps p.tables e below E0 t := by
          intro t k
          refine pre_44 t ?_
          show Sp p e below s₁ (mkF m 21 #[.val (.ref a1), .val (.ref a2), .val (.int (0 : Int32))] [(.int (d0).toInt8.toInt32), (.int (c0).toInt8.toInt32)]) _
          refine XS.icmpYes X0.here hx rfl (pc0 := 21) (pc' := 26) rfl (hb hby d_jdk_43_13_21) rfl (XT.ii_eq_t hc45) (by decide) (by decide) ?_
          refine XS.iinc X0.here hx rfl (hb hby d_jdk_43_13_26) rfl (l' := #[.val (.ref a1), .val (.ref a2), .val (.int (1 : Int32))]) rfl ?_
          show Sp p e below s₁ (mkF m 29 #[.val (.ref a1), .val (.ref a2), .val (.int (1 : Int32))] []) _
          refine XS.goto X0.here hx rfl (pc0 := 29) (pc' := 9) rfl (hb hby d_jdk_43_13_29) (by decide) (by decide) ?_
          refine XS.iloadN X0.here hx rfl (hb hby d_jdk_43_13_9) rfl ?_
          refine XS.aloadN X0.here hx rfl (hb hby d_jdk_43_13_10) rfl rfl ?_
          obtain ⟨cl46, Ar46, -, S46, M46, -, -⟩ := id V1
          refine X0.arraylength hx (cell := cl46) (by rw [e0]; exact Ar46.1) (State.isArrayOf_alike hZ.alike Ar46.2.1) (g := (mkF m 11 #[.val (.ref a1), .val (.ref a2), .val (.int (1 : Int32))] [(.ref a1), (.int (1 : Int32))])) rfl (rest := [(.int (1 : Int32))]) rfl (hb hby d_jdk_43_13_11) _ ?_
          rw [len_of S46 M46]
          show Sp p e below s₁ (mkF m 12 #[.val (.ref a1), .val (.ref a2), .val (.int (1 : Int32))] [(.int (2 : Int32)), (.int (1 : Int32))]) _
          refine XS.icmpNo X0.here hx rfl (hb hby d_jdk_43_13_12) rfl (XT.ii_ge_f (by decide)) ?_
          show Sp p e below s₁ (mkF m 15 #[.val (.ref a1), .val (.ref a2), .val (.int (1 : Int32))] []) _
          refine XS.aloadN X0.here hx rfl (hb hby d_jdk_43_13_15) rfl rfl ?_
          refine XS.iloadN X0.here hx rfl (hb hby d_jdk_43_13_16) rfl ?_
          obtain ⟨cl47, Ar47, -, S47, -, H47, -⟩ := id V1
          have hin47 : ¬ ((1 : Int32) < 0 ∨ cl47.slots.size ≤ ((1 : Int32)).toNatClampNeg) := inb_of S47 (by decide)
          refine X0.baloadBytes hx (j := (1 : Int32)) (v := (.int (c1).toInt8.toInt32)) (by rw [e0]; exact Ar47.1) (State.isArrayOf_alike hZ.alike Ar47.2.1) Ar47.2.2 hin47 (H47.at hin47 rfl) (g := (mkF m 17 #[.val (.ref a1), .val (.ref a2), .val (.int (1 : Int32))] [(.int (1 : Int32)), (.ref a1)])) rfl rfl (hb hby d_jdk_43_13_17) _ ?_
          refine XS.aloadN X0.here hx rfl (hb hby d_jdk_43_13_18) rfl rfl ?_
          show Sp p e below s₁ (mkF m 19 #[.val (.ref a1), .val (.ref a2), .val (.int (1 : Int32))] [(.ref a2), (.int (c1).toInt8.toInt32)]) _
          refine XS.iloadN X0.here hx rfl (hb hby d_jdk_43_13_19) rfl ?_
          obtain ⟨cl48, Ar48, -, S48, -, H48, -⟩ := id V2
          have hin48 : ¬ ((1 : Int32) < 0 ∨ cl48.slots.size ≤ ((1 : Int32)).toNatClampNeg) := inb_of S48 (by decide)
          refine X0.baloadBytes hx (j := (1 : Int32)) (v := (.int (d1).toInt8.toInt32)) (by rw [e0]; exact Ar48.1) (State.isArrayOf_alike hZ.alike Ar48.2.1) Ar48.2.2 hin48 (H48.at hin48 rfl) (g := (mkF m 20 #[.val (.ref a1), .val (.ref a2), .val (.int (1 : Int32))] [(.int (1 : Int32)), (.ref a2), (.int (c1).toInt8.toInt32)])) rfl rfl (hb hby d_jdk_43_13_20) _ ?_
          exact k
        by_cases hc50 : (c1).toInt8.toInt32 = (d1).toInt8.toInt32
        · skip
          have pre_52 : ∀ t, Sp p e below s₁ (mkF m 33 #[.val (.ref a1), .val (.ref a2), .val (.int (2 : Int32))] [(.int (1 : Int32))]) t → Steps p.tables e below E0 t := by
            intro t k
            refine pre_49 t ?_
            show Sp p e below s₁ (mkF m 21 #[.val (.ref a1), .val (.ref a2), .val (.int (1 : Int32))] [(.int (d1).toInt8.toInt32), (.int (c1).toInt8.toInt32)]) _
            refine XS.icmpYes X0.here hx rfl (pc0 := 21) (pc' := 26) rfl (hb hby d_jdk_43_13_21) rfl (XT.ii_eq_t hc50) (by decide) (by decide) ?_
            refine XS.iinc X0.here hx rfl (hb hby d_jdk_43_13_26) rfl (l' := #[.val (.ref a1), .val (.ref a2), .val (.int (2 : Int32))]) rfl ?_
            show Sp p e below s₁ (mkF m 29 #[.val (.ref a1), .val (.ref a2), .val (.int (2 : Int32))] []) _
            refine XS.goto X0.here hx rfl (pc0 := 29) (pc' := 9) rfl (hb hby d_jdk_43_13_29) (by decide) (by decide) ?_
            refine XS.iloadN X0.here hx rfl (hb hby d_jdk_43_13_9) rfl ?_
            refine XS.aloadN X0.here hx rfl (hb hby d_jdk_43_13_10) rfl rfl ?_
            obtain ⟨cl51, Ar51, -, S51, M51, -, -⟩ := id V1
            refine X0.arraylength hx (cell := cl51) (by rw [e0]; exact Ar51.1) (State.isArrayOf_alike hZ.alike Ar51.2.1) (g := (mkF m 11 #[.val (.ref a1), .val (.ref a2), .val (.int (2 : Int32))] [(.ref a1), (.int (2 : Int32))])) rfl (rest := [(.int (2 : Int32))]) rfl (hb hby d_jdk_43_13_11) _ ?_
            rw [len_of S51 M51]
            show Sp p e below s₁ (mkF m 12 #[.val (.ref a1), .val (.ref a2), .val (.int (2 : Int32))] [(.int (2 : Int32)), (.int (2 : Int32))]) _
            refine XS.icmpYes X0.here hx rfl (pc0 := 12) (pc' := 32) rfl (hb hby d_jdk_43_13_12) rfl (XT.ii_ge_t (by decide)) (by decide) (by decide) ?_
            show Sp p e below s₁ (mkF m 32 #[.val (.ref a1), .val (.ref a2), .val (.int (2 : Int32))] []) _
            refine XS.iconst X0.here hx rfl (hb hby d_jdk_43_13_32) ?_
            exact k
          obtain ⟨fs, hr, hrun, hended, hW, hsame⟩ := X0.leave (v := some (.int (1 : Int32))) (fun h => by rw [Bd.returns] at h; cases h)
          refine ⟨_, _, pre_52 _ ?_, hrun, hended, _, _, rfl, ?_, ⟨_, rfl⟩, hW, hsame.mono (by decide) (by decide)⟩
          · show Sp p e below s₁ (mkF m 33 #[.val (.ref a1), .val (.ref a2), .val (.int (2 : Int32))] [(.int (1 : Int32))]) _
            exact retN X0 hx (t := .boolean) Bd.returns (by simp) (hb hby d_jdk_43_13_33) hr
          · show Q_lat Z _ _ _ _ _ _ _ _ _ _ _ _ h0 n0 _ s₁.heap _
            rw [e0]
            exact ⟨by unfold own_eqv; rw [if_pos rfl, if_neg (by decide), if_pos ((own_byeq hc0 hd0).mp hc45), if_neg (by decide), if_pos ((own_byeq hc1 hd1).mp hc50), if_pos (by decide)], N0, rfl⟩
        · skip
          have pre_53 : ∀ t, Sp p e below s₁ (mkF m 25 #[.val (.ref a1), .val (.ref a2), .val (.int (1 : Int32))] [(.int (0 : Int32))]) t → Steps p.tables e below E0 t := by
            intro t k
            refine pre_49 t ?_
            show Sp p e below s₁ (mkF m 21 #[.val (.ref a1), .val (.ref a2), .val (.int (1 : Int32))] [(.int (d1).toInt8.toInt32), (.int (c1).toInt8.toInt32)]) _
            refine XS.icmpNo X0.here hx rfl (hb hby d_jdk_43_13_21) rfl (XT.ii_eq_f hc50) ?_
            refine XS.iconst X0.here hx rfl (hb hby d_jdk_43_13_24) ?_
            show Sp p e below s₁ (mkF m 25 #[.val (.ref a1), .val (.ref a2), .val (.int (1 : Int32))] [(.int (0 : Int32))]) _
            exact k
          obtain ⟨fs, hr, hrun, hended, hW, hsame⟩ := X0.leave (v := some (.int (0 : Int32))) (fun h => by rw [Bd.returns] at h; cases h)
          refine ⟨_, _, pre_53 _ ?_, hrun, hended, _, _, rfl, ?_, ⟨_, rfl⟩, hW, hsame.mono (by decide) (by decide)⟩
          · show Sp p e below s₁ (mkF m 25 #[.val (.ref a1), .val (.ref a2), .val (.int (1 : Int32))] [(.int (0 : Int32))]) _
            exact retN X0 hx (t := .boolean) Bd.returns (by simp) (hb hby d_jdk_43_13_25) hr
          · show Q_lat Z _ _ _ _ _ _ _ _ _ _ _ _ h0 n0 _ s₁.heap _
            rw [e0]
            exact ⟨by unfold own_eqv; rw [if_pos rfl, if_neg (by decide), if_pos ((own_byeq hc0 hd0).mp hc45), if_neg (by decide), if_neg (fun q => hc50 ((own_byeq hc1 hd1).mpr q))], N0, rfl⟩
      · skip
        have pre_54 : ∀ t, Sp p e below s₁ (mkF m 25 #[.val (.ref a1), .val (.ref a2), .val (.int (0 : Int32))] [(.int (0 : Int32))]) t → Steps p.tables e below E0 t := by
          intro t k
          refine pre_44 t ?_
          show Sp p e below s₁ (mkF m 21 #[.val (.ref a1), .val (.ref a2), .val (.int (0 : Int32))] [(.int (d0).toInt8.toInt32), (.int (c0).toInt8.toInt32)]) _
          refine XS.icmpNo X0.here hx rfl (hb hby d_jdk_43_13_21) rfl (XT.ii_eq_f hc45) ?_
          refine XS.iconst X0.here hx rfl (hb hby d_jdk_43_13_24) ?_
          show Sp p e below s₁ (mkF m 25 #[.val (.ref a1), .val (.ref a2), .val (.int (0 : Int32))] [(.int (0 : Int32))]) _
          exact k
        obtain ⟨fs, hr, hrun, hended, hW, hsame⟩ := X0.leave (v := some (.int (0 : Int32))) (fun h => by rw [Bd.returns] at h; cases h)
        refine ⟨_, _, pre_54 _ ?_, hrun, hended, _, _, rfl, ?_, ⟨_, rfl⟩, hW, hsame.mono (by decide) (by decide)⟩
        · show Sp p e below s₁ (mkF m 25 #[.val (.ref a1), .val (.ref a2), .val (.int (0 : Int32))] [(.int (0 : Int32))]) _
          exact retN X0 hx (t := .boolean) Bd.returns (by simp) (hb hby d_jdk_43_13_25) hr
        · show Q_lat Z _ _ _ _ _ _ _ _ _ _ _ _ h0 n0 _ s₁.heap _
          rw [e0]
          exact ⟨by unfold own_eqv; rw [if_pos rfl, if_neg (by decide), if_neg (fun q => hc45 ((own_byeq hc0 hd0).mpr q))], N0, rfl⟩
    · skip
      have pre_57 : ∀ t, Sp p e below s₁ (mkF m 35 #[.val (.ref a1), .val (.ref a2), .unset] [(.int (0 : Int32))]) t → Steps p.tables e below E0 t := by
        intro t k
        refine pre0 t ?_
        show Sp p e below s₁ (mkF m 0 #[.val (.ref a1), .val (.ref a2), .unset] []) _
        refine XS.aloadN X0.here hx rfl (hb hby d_jdk_43_13_0) rfl rfl ?_
        obtain ⟨cl55, Ar55, -, S55, M55, -, -⟩ := id V1
        refine X0.arraylength hx (cell := cl55) (by rw [e0]; exact Ar55.1) (State.isArrayOf_alike hZ.alike Ar55.2.1) (g := (mkF m 1 #[.val (.ref a1), .val (.ref a2), .unset] [(.ref a1)])) rfl (rest := []) rfl (hb hby d_jdk_43_13_1) _ ?_
        rw [len_of S55 M55]
        show Sp p e below s₁ (mkF m 2 #[.val (.ref a1), .val (.ref a2), .unset] [(.int (2 : Int32))]) _
        refine XS.aloadN X0.here hx rfl (hb hby d_jdk_43_13_2) rfl rfl ?_
        obtain ⟨cl56, Ar56, -, S56, M56, -, -⟩ := id V2
        refine X0.arraylength hx (cell := cl56) (by rw [e0]; exact Ar56.1) (State.isArrayOf_alike hZ.alike Ar56.2.1) (g := (mkF m 3 #[.val (.ref a1), .val (.ref a2), .unset] [(.ref a2), (.int (2 : Int32))])) rfl (rest := [(.int (2 : Int32))]) rfl (hb hby d_jdk_43_13_3) _ ?_
        rw [len_of S56 M56]
        show Sp p e below s₁ (mkF m 4 #[.val (.ref a1), .val (.ref a2), .unset] [(.int (3 : Int32)), (.int (2 : Int32))]) _
        refine XS.icmpYes X0.here hx rfl (pc0 := 4) (pc' := 34) rfl (hb hby d_jdk_43_13_4) rfl (XT.ii_ne_t (by decide)) (by decide) (by decide) ?_
        refine XS.iconst X0.here hx rfl (hb hby d_jdk_43_13_34) ?_
        show Sp p e below s₁ (mkF m 35 #[.val (.ref a1), .val (.ref a2), .unset] [(.int (0 : Int32))]) _
        exact k
      obtain ⟨fs, hr, hrun, hended, hW, hsame⟩ := X0.leave (v := some (.int (0 : Int32))) (fun h => by rw [Bd.returns] at h; cases h)
      refine ⟨_, _, pre_57 _ ?_, hrun, hended, _, _, rfl, ?_, ⟨_, rfl⟩, hW, hsame.mono (by decide) (by decide)⟩
      · show Sp p e below s₁ (mkF m 35 #[.val (.ref a1), .val (.ref a2), .unset] [(.int (0 : Int32))]) _
        exact retN X0 hx (t := .boolean) Bd.returns (by simp) (hb hby d_jdk_43_13_35) hr
      · show Q_lat Z _ _ _ _ _ _ _ _ _ _ _ _ h0 n0 _ s₁.heap _
        rw [e0]
        exact ⟨by unfold own_eqv; rw [if_neg (by decide)], N0, rfl⟩
  · rcases A2 with ⟨rfl, V2⟩ | ⟨rfl, V2⟩ | ⟨rfl, V2⟩ | ⟨rfl, V2⟩
    · skip
      have pre_60 : ∀ t, Sp p e below s₁ (mkF m 35 #[.val (.ref a1), .val (.ref a2), .unset] [(.int (0 : Int32))]) t → Steps p.tables e below E0 t := by
        intro t k
        refine pre0 t ?_
        show Sp p e below s₁ (mkF m 0 #[.val (.ref a1), .val (.ref a2), .unset] []) _
        refine XS.aloadN X0.here hx rfl (hb hby d_jdk_43_13_0) rfl rfl ?_
        obtain ⟨cl58, Ar58, -, S58, M58, -, -⟩ := id V1
        refine X0.arraylength hx (cell := cl58) (by rw [e0]; exact Ar58.1) (State.isArrayOf_alike hZ.alike Ar58.2.1) (g := (mkF m 1 #[.val (.ref a1), .val (.ref a2), .unset] [(.ref a1)])) rfl (rest := []) rfl (hb hby d_jdk_43_13_1) _ ?_
        rw [len_of S58 M58]
        show Sp p e below s₁ (mkF m 2 #[.val (.ref a1), .val (.ref a2), .unset] [(.int (3 : Int32))]) _
        refine XS.aloadN X0.here hx rfl (hb hby d_jdk_43_13_2) rfl rfl ?_
        obtain ⟨cl59, Ar59, -, S59, M59, -, -⟩ := id V2
        refine X0.arraylength hx (cell := cl59) (by rw [e0]; exact Ar59.1) (State.isArrayOf_alike hZ.alike Ar59.2.1) (g := (mkF m 3 #[.val (.ref a1), .val (.ref a2), .unset] [(.ref a2), (.int (3 : Int32))])) rfl (rest := [(.int (3 : Int32))]) rfl (hb hby d_jdk_43_13_3) _ ?_
        rw [len_of S59 M59]
        show Sp p e below s₁ (mkF m 4 #[.val (.ref a1), .val (.ref a2), .unset] [(.int (0 : Int32)), (.int (3 : Int32))]) _
        refine XS.icmpYes X0.here hx rfl (pc0 := 4) (pc' := 34) rfl (hb hby d_jdk_43_13_4) rfl (XT.ii_ne_t (by decide)) (by decide) (by decide) ?_
        refine XS.iconst X0.here hx rfl (hb hby d_jdk_43_13_34) ?_
        show Sp p e below s₁ (mkF m 35 #[.val (.ref a1), .val (.ref a2), .unset] [(.int (0 : Int32))]) _
        exact k
      obtain ⟨fs, hr, hrun, hended, hW, hsame⟩ := X0.leave (v := some (.int (0 : Int32))) (fun h => by rw [Bd.returns] at h; cases h)
      refine ⟨_, _, pre_60 _ ?_, hrun, hended, _, _, rfl, ?_, ⟨_, rfl⟩, hW, hsame.mono (by decide) (by decide)⟩
      · show Sp p e below s₁ (mkF m 35 #[.val (.ref a1), .val (.ref a2), .unset] [(.int (0 : Int32))]) _
        exact retN X0 hx (t := .boolean) Bd.returns (by simp) (hb hby d_jdk_43_13_35) hr
      · show Q_lat Z _ _ _ _ _ _ _ _ _ _ _ _ h0 n0 _ s₁.heap _
        rw [e0]
        exact ⟨by unfold own_eqv; rw [if_neg (by decide)], N0, rfl⟩
    · skip
      have pre_63 : ∀ t, Sp p e below s₁ (mkF m 35 #[.val (.ref a1), .val (.ref a2), .unset] [(.int (0 : Int32))]) t → Steps p.tables e below E0 t := by
        intro t k
        refine pre0 t ?_
        show Sp p e below s₁ (mkF m 0 #[.val (.ref a1), .val (.ref a2), .unset] []) _
        refine XS.aloadN X0.here hx rfl (hb hby d_jdk_43_13_0) rfl rfl ?_
        obtain ⟨cl61, Ar61, -, S61, M61, -, -⟩ := id V1
        refine X0.arraylength hx (cell := cl61) (by rw [e0]; exact Ar61.1) (State.isArrayOf_alike hZ.alike Ar61.2.1) (g := (mkF m 1 #[.val (.ref a1), .val (.ref a2), .unset] [(.ref a1)])) rfl (rest := []) rfl (hb hby d_jdk_43_13_1) _ ?_
        rw [len_of S61 M61]
        show Sp p e below s₁ (mkF m 2 #[.val (.ref a1), .val (.ref a2), .unset] [(.int (3 : Int32))]) _
        refine XS.aloadN X0.here hx rfl (hb hby d_jdk_43_13_2) rfl rfl ?_
        obtain ⟨cl62, Ar62, -, S62, M62, -, -⟩ := id V2
        refine X0.arraylength hx (cell := cl62) (by rw [e0]; exact Ar62.1) (State.isArrayOf_alike hZ.alike Ar62.2.1) (g := (mkF m 3 #[.val (.ref a1), .val (.ref a2), .unset] [(.ref a2), (.int (3 : Int32))])) rfl (rest := [(.int (3 : Int32))]) rfl (hb hby d_jdk_43_13_3) _ ?_
        rw [len_of S62 M62]
        show Sp p e below s₁ (mkF m 4 #[.val (.ref a1), .val (.ref a2), .unset] [(.int (1 : Int32)), (.int (3 : Int32))]) _
        refine XS.icmpYes X0.here hx rfl (pc0 := 4) (pc' := 34) rfl (hb hby d_jdk_43_13_4) rfl (XT.ii_ne_t (by decide)) (by decide) (by decide) ?_
        refine XS.iconst X0.here hx rfl (hb hby d_jdk_43_13_34) ?_
        show Sp p e below s₁ (mkF m 35 #[.val (.ref a1), .val (.ref a2), .unset] [(.int (0 : Int32))]) _
        exact k
      obtain ⟨fs, hr, hrun, hended, hW, hsame⟩ := X0.leave (v := some (.int (0 : Int32))) (fun h => by rw [Bd.returns] at h; cases h)
      refine ⟨_, _, pre_63 _ ?_, hrun, hended, _, _, rfl, ?_, ⟨_, rfl⟩, hW, hsame.mono (by decide) (by decide)⟩
      · show Sp p e below s₁ (mkF m 35 #[.val (.ref a1), .val (.ref a2), .unset] [(.int (0 : Int32))]) _
        exact retN X0 hx (t := .boolean) Bd.returns (by simp) (hb hby d_jdk_43_13_35) hr
      · show Q_lat Z _ _ _ _ _ _ _ _ _ _ _ _ h0 n0 _ s₁.heap _
        rw [e0]
        exact ⟨by unfold own_eqv; rw [if_neg (by decide)], N0, rfl⟩
    · skip
      have pre_66 : ∀ t, Sp p e below s₁ (mkF m 35 #[.val (.ref a1), .val (.ref a2), .unset] [(.int (0 : Int32))]) t → Steps p.tables e below E0 t := by
        intro t k
        refine pre0 t ?_
        show Sp p e below s₁ (mkF m 0 #[.val (.ref a1), .val (.ref a2), .unset] []) _
        refine XS.aloadN X0.here hx rfl (hb hby d_jdk_43_13_0) rfl rfl ?_
        obtain ⟨cl64, Ar64, -, S64, M64, -, -⟩ := id V1
        refine X0.arraylength hx (cell := cl64) (by rw [e0]; exact Ar64.1) (State.isArrayOf_alike hZ.alike Ar64.2.1) (g := (mkF m 1 #[.val (.ref a1), .val (.ref a2), .unset] [(.ref a1)])) rfl (rest := []) rfl (hb hby d_jdk_43_13_1) _ ?_
        rw [len_of S64 M64]
        show Sp p e below s₁ (mkF m 2 #[.val (.ref a1), .val (.ref a2), .unset] [(.int (3 : Int32))]) _
        refine XS.aloadN X0.here hx rfl (hb hby d_jdk_43_13_2) rfl rfl ?_
        obtain ⟨cl65, Ar65, -, S65, M65, -, -⟩ := id V2
        refine X0.arraylength hx (cell := cl65) (by rw [e0]; exact Ar65.1) (State.isArrayOf_alike hZ.alike Ar65.2.1) (g := (mkF m 3 #[.val (.ref a1), .val (.ref a2), .unset] [(.ref a2), (.int (3 : Int32))])) rfl (rest := [(.int (3 : Int32))]) rfl (hb hby d_jdk_43_13_3) _ ?_
        rw [len_of S65 M65]
        show Sp p e below s₁ (mkF m 4 #[.val (.ref a1), .val (.ref a2), .unset] [(.int (2 : Int32)), (.int (3 : Int32))]) _
        refine XS.icmpYes X0.here hx rfl (pc0 := 4) (pc' := 34) rfl (hb hby d_jdk_43_13_4) rfl (XT.ii_ne_t (by decide)) (by decide) (by decide) ?_
        refine XS.iconst X0.here hx rfl (hb hby d_jdk_43_13_34) ?_
        show Sp p e below s₁ (mkF m 35 #[.val (.ref a1), .val (.ref a2), .unset] [(.int (0 : Int32))]) _
        exact k
      obtain ⟨fs, hr, hrun, hended, hW, hsame⟩ := X0.leave (v := some (.int (0 : Int32))) (fun h => by rw [Bd.returns] at h; cases h)
      refine ⟨_, _, pre_66 _ ?_, hrun, hended, _, _, rfl, ?_, ⟨_, rfl⟩, hW, hsame.mono (by decide) (by decide)⟩
      · show Sp p e below s₁ (mkF m 35 #[.val (.ref a1), .val (.ref a2), .unset] [(.int (0 : Int32))]) _
        exact retN X0 hx (t := .boolean) Bd.returns (by simp) (hb hby d_jdk_43_13_35) hr
      · show Q_lat Z _ _ _ _ _ _ _ _ _ _ _ _ h0 n0 _ s₁.heap _
        rw [e0]
        exact ⟨by unfold own_eqv; rw [if_neg (by decide)], N0, rfl⟩
    · skip
      have pre_72 : ∀ t, Sp p e below s₁ (mkF m 21 #[.val (.ref a1), .val (.ref a2), .val (.int (0 : Int32))] [(.int (d0).toInt8.toInt32), (.int (c0).toInt8.toInt32)]) t → Steps p.tables e below E0 t := by
        intro t k
        refine pre0 t ?_
        show Sp p e below s₁ (mkF m 0 #[.val (.ref a1), .val (.ref a2), .unset] []) _
        refine XS.aloadN X0.here hx rfl (hb hby d_jdk_43_13_0) rfl rfl ?_
        obtain ⟨cl67, Ar67, -, S67, M67, -, -⟩ := id V1
        refine X0.arraylength hx (cell := cl67) (by rw [e0]; exact Ar67.1) (State.isArrayOf_alike hZ.alike Ar67.2.1) (g := (mkF m 1 #[.val (.ref a1), .val (.ref a2), .unset] [(.ref a1)])) rfl (rest := []) rfl (hb hby d_jdk_43_13_1) _ ?_
        rw [len_of S67 M67]
        show Sp p e below s₁ (mkF m 2 #[.val (.ref a1), .val (.ref a2), .unset] [(.int (3 : Int32))]) _
        refine XS.aloadN X0.here hx rfl (hb hby d_jdk_43_13_2) rfl rfl ?_
        obtain ⟨cl68, Ar68, -, S68, M68, -, -⟩ := id V2
        refine X0.arraylength hx (cell := cl68) (by rw [e0]; exact Ar68.1) (State.isArrayOf_alike hZ.alike Ar68.2.1) (g := (mkF m 3 #[.val (.ref a1), .val (.ref a2), .unset] [(.ref a2), (.int (3 : Int32))])) rfl (rest := [(.int (3 : Int32))]) rfl (hb hby d_jdk_43_13_3) _ ?_
        rw [len_of S68 M68]
        show Sp p e below s₁ (mkF m 4 #[.val (.ref a1), .val (.ref a2), .unset] [(.int (3 : Int32)), (.int (3 : Int32))]) _
        refine XS.icmpNo X0.here hx rfl (hb hby d_jdk_43_13_4) rfl (XT.ii_ne_f (by decide)) ?_
        refine XS.iconst X0.here hx rfl (hb hby d_jdk_43_13_7) ?_
        show Sp p e below s₁ (mkF m 8 #[.val (.ref a1), .val (.ref a2), .unset] [(.int (0 : Int32))]) _
        refine XS.istoreN X0.here hx rfl (hb hby d_jdk_43_13_8) rfl (l' := #[.val (.ref a1), .val (.ref a2), .val (.int (0 : Int32))]) rfl ?_
        refine XS.iloadN X0.here hx rfl (hb hby d_jdk_43_13_9) rfl ?_
        refine XS.aloadN X0.here hx rfl (hb hby d_jdk_43_13_10) rfl rfl ?_
        obtain ⟨cl69, Ar69, -, S69, M69, -, -⟩ := id V1
        refine X0.arraylength hx (cell := cl69) (by rw [e0]; exact Ar69.1) (State.isArrayOf_alike hZ.alike Ar69.2.1) (g := (mkF m 11 #[.val (.ref a1), .val (.ref a2), .val (.int (0 : Int32))] [(.ref a1), (.int (0 : Int32))])) rfl (rest := [(.int (0 : Int32))]) rfl (hb hby d_jdk_43_13_11) _ ?_
        rw [len_of S69 M69]
        show Sp p e below s₁ (mkF m 12 #[.val (.ref a1), .val (.ref a2), .val (.int (0 : Int32))] [(.int (3 : Int32)), (.int (0 : Int32))]) _
        refine XS.icmpNo X0.here hx rfl (hb hby d_jdk_43_13_12) rfl (XT.ii_ge_f (by decide)) ?_
        show Sp p e below s₁ (mkF m 15 #[.val (.ref a1), .val (.ref a2), .val (.int (0 : Int32))] []) _
        refine XS.aloadN X0.here hx rfl (hb hby d_jdk_43_13_15) rfl rfl ?_
        refine XS.iloadN X0.here hx rfl (hb hby d_jdk_43_13_16) rfl ?_
        obtain ⟨cl70, Ar70, -, S70, -, H70, -⟩ := id V1
        have hin70 : ¬ ((0 : Int32) < 0 ∨ cl70.slots.size ≤ ((0 : Int32)).toNatClampNeg) := inb_of S70 (by decide)
        refine X0.baloadBytes hx (j := (0 : Int32)) (v := (.int (c0).toInt8.toInt32)) (by rw [e0]; exact Ar70.1) (State.isArrayOf_alike hZ.alike Ar70.2.1) Ar70.2.2 hin70 (H70.at hin70 rfl) (g := (mkF m 17 #[.val (.ref a1), .val (.ref a2), .val (.int (0 : Int32))] [(.int (0 : Int32)), (.ref a1)])) rfl rfl (hb hby d_jdk_43_13_17) _ ?_
        refine XS.aloadN X0.here hx rfl (hb hby d_jdk_43_13_18) rfl rfl ?_
        show Sp p e below s₁ (mkF m 19 #[.val (.ref a1), .val (.ref a2), .val (.int (0 : Int32))] [(.ref a2), (.int (c0).toInt8.toInt32)]) _
        refine XS.iloadN X0.here hx rfl (hb hby d_jdk_43_13_19) rfl ?_
        obtain ⟨cl71, Ar71, -, S71, -, H71, -⟩ := id V2
        have hin71 : ¬ ((0 : Int32) < 0 ∨ cl71.slots.size ≤ ((0 : Int32)).toNatClampNeg) := inb_of S71 (by decide)
        refine X0.baloadBytes hx (j := (0 : Int32)) (v := (.int (d0).toInt8.toInt32)) (by rw [e0]; exact Ar71.1) (State.isArrayOf_alike hZ.alike Ar71.2.1) Ar71.2.2 hin71 (H71.at hin71 rfl) (g := (mkF m 20 #[.val (.ref a1), .val (.ref a2), .val (.int (0 : Int32))] [(.int (0 : Int32)), (.ref a2), (.int (c0).toInt8.toInt32)])) rfl rfl (hb hby d_jdk_43_13_20) _ ?_
        exact k
      by_cases hc73 : (c0).toInt8.toInt32 = (d0).toInt8.toInt32
      · skip
        have pre_77 : ∀ t, Sp p e below s₁ (mkF m 21 #[.val (.ref a1), .val (.ref a2), .val (.int (1 : Int32))] [(.int (d1).toInt8.toInt32), (.int (c1).toInt8.toInt32)]) t → Steps p.tables e below E0 t := by
          intro t k
          refine pre_72 t ?_
          show Sp p e below s₁ (mkF m 21 #[.val (.ref a1), .val (.ref a2), .val (.int (0 : Int32))] [(.int (d0).toInt8.toInt32), (.int (c0).toInt8.toInt32)]) _
          refine XS.icmpYes X0.here hx rfl (pc0 := 21) (pc' := 26) rfl (hb hby d_jdk_43_13_21) rfl (XT.ii_eq_t hc73) (by decide) (by decide) ?_
          refine XS.iinc X0.here hx rfl (hb hby d_jdk_43_13_26) rfl (l' := #[.val (.ref a1), .val (.ref a2), .val (.int (1 : Int32))]) rfl ?_
          show Sp p e below s₁ (mkF m 29 #[.val (.ref a1), .val (.ref a2), .val (.int (1 : Int32))] []) _
          refine XS.goto X0.here hx rfl (pc0 := 29) (pc' := 9) rfl (hb hby d_jdk_43_13_29) (by decide) (by decide) ?_
          refine XS.iloadN X0.here hx rfl (hb hby d_jdk_43_13_9) rfl ?_
          refine XS.aloadN X0.here hx rfl (hb hby d_jdk_43_13_10) rfl rfl ?_
          obtain ⟨cl74, Ar74, -, S74, M74, -, -⟩ := id V1
          refine X0.arraylength hx (cell := cl74) (by rw [e0]; exact Ar74.1) (State.isArrayOf_alike hZ.alike Ar74.2.1) (g := (mkF m 11 #[.val (.ref a1), .val (.ref a2), .val (.int (1 : Int32))] [(.ref a1), (.int (1 : Int32))])) rfl (rest := [(.int (1 : Int32))]) rfl (hb hby d_jdk_43_13_11) _ ?_
          rw [len_of S74 M74]
          show Sp p e below s₁ (mkF m 12 #[.val (.ref a1), .val (.ref a2), .val (.int (1 : Int32))] [(.int (3 : Int32)), (.int (1 : Int32))]) _
          refine XS.icmpNo X0.here hx rfl (hb hby d_jdk_43_13_12) rfl (XT.ii_ge_f (by decide)) ?_
          show Sp p e below s₁ (mkF m 15 #[.val (.ref a1), .val (.ref a2), .val (.int (1 : Int32))] []) _
          refine XS.aloadN X0.here hx rfl (hb hby d_jdk_43_13_15) rfl rfl ?_
          refine XS.iloadN X0.here hx rfl (hb hby d_jdk_43_13_16) rfl ?_
          obtain ⟨cl75, Ar75, -, S75, -, H75, -⟩ := id V1
          have hin75 : ¬ ((1 : Int32) < 0 ∨ cl75.slots.size ≤ ((1 : Int32)).toNatClampNeg) := inb_of S75 (by decide)
          refine X0.baloadBytes hx (j := (1 : Int32)) (v := (.int (c1).toInt8.toInt32)) (by rw [e0]; exact Ar75.1) (State.isArrayOf_alike hZ.alike Ar75.2.1) Ar75.2.2 hin75 (H75.at hin75 rfl) (g := (mkF m 17 #[.val (.ref a1), .val (.ref a2), .val (.int (1 : Int32))] [(.int (1 : Int32)), (.ref a1)])) rfl rfl (hb hby d_jdk_43_13_17) _ ?_
          refine XS.aloadN X0.here hx rfl (hb hby d_jdk_43_13_18) rfl rfl ?_
          show Sp p e below s₁ (mkF m 19 #[.val (.ref a1), .val (.ref a2), .val (.int (1 : Int32))] [(.ref a2), (.int (c1).toInt8.toInt32)]) _
          refine XS.iloadN X0.here hx rfl (hb hby d_jdk_43_13_19) rfl ?_
          obtain ⟨cl76, Ar76, -, S76, -, H76, -⟩ := id V2
          have hin76 : ¬ ((1 : Int32) < 0 ∨ cl76.slots.size ≤ ((1 : Int32)).toNatClampNeg) := inb_of S76 (by decide)
          refine X0.baloadBytes hx (j := (1 : Int32)) (v := (.int (d1).toInt8.toInt32)) (by rw [e0]; exact Ar76.1) (State.isArrayOf_alike hZ.alike Ar76.2.1) Ar76.2.2 hin76 (H76.at hin76 rfl) (g := (mkF m 20 #[.val (.ref a1), .val (.ref a2), .val (.int (1 : Int32))] [(.int (1 : Int32)), (.ref a2), (.int (c1).toInt8.toInt32)])) rfl rfl (hb hby d_jdk_43_13_20) _ ?_
          exact k
        by_cases hc78 : (c1).toInt8.toInt32 = (d1).toInt8.toInt32
        · skip
          have pre_82 : ∀ t, Sp p e below s₁ (mkF m 21 #[.val (.ref a1), .val (.ref a2), .val (.int (2 : Int32))] [(.int (d2).toInt8.toInt32), (.int (c2).toInt8.toInt32)]) t → Steps p.tables e below E0 t := by
            intro t k
            refine pre_77 t ?_
            show Sp p e below s₁ (mkF m 21 #[.val (.ref a1), .val (.ref a2), .val (.int (1 : Int32))] [(.int (d1).toInt8.toInt32), (.int (c1).toInt8.toInt32)]) _
            refine XS.icmpYes X0.here hx rfl (pc0 := 21) (pc' := 26) rfl (hb hby d_jdk_43_13_21) rfl (XT.ii_eq_t hc78) (by decide) (by decide) ?_
            refine XS.iinc X0.here hx rfl (hb hby d_jdk_43_13_26) rfl (l' := #[.val (.ref a1), .val (.ref a2), .val (.int (2 : Int32))]) rfl ?_
            show Sp p e below s₁ (mkF m 29 #[.val (.ref a1), .val (.ref a2), .val (.int (2 : Int32))] []) _
            refine XS.goto X0.here hx rfl (pc0 := 29) (pc' := 9) rfl (hb hby d_jdk_43_13_29) (by decide) (by decide) ?_
            refine XS.iloadN X0.here hx rfl (hb hby d_jdk_43_13_9) rfl ?_
            refine XS.aloadN X0.here hx rfl (hb hby d_jdk_43_13_10) rfl rfl ?_
            obtain ⟨cl79, Ar79, -, S79, M79, -, -⟩ := id V1
            refine X0.arraylength hx (cell := cl79) (by rw [e0]; exact Ar79.1) (State.isArrayOf_alike hZ.alike Ar79.2.1) (g := (mkF m 11 #[.val (.ref a1), .val (.ref a2), .val (.int (2 : Int32))] [(.ref a1), (.int (2 : Int32))])) rfl (rest := [(.int (2 : Int32))]) rfl (hb hby d_jdk_43_13_11) _ ?_
            rw [len_of S79 M79]
            show Sp p e below s₁ (mkF m 12 #[.val (.ref a1), .val (.ref a2), .val (.int (2 : Int32))] [(.int (3 : Int32)), (.int (2 : Int32))]) _
            refine XS.icmpNo X0.here hx rfl (hb hby d_jdk_43_13_12) rfl (XT.ii_ge_f (by decide)) ?_
            show Sp p e below s₁ (mkF m 15 #[.val (.ref a1), .val (.ref a2), .val (.int (2 : Int32))] []) _
            refine XS.aloadN X0.here hx rfl (hb hby d_jdk_43_13_15) rfl rfl ?_
            refine XS.iloadN X0.here hx rfl (hb hby d_jdk_43_13_16) rfl ?_
            obtain ⟨cl80, Ar80, -, S80, -, H80, -⟩ := id V1
            have hin80 : ¬ ((2 : Int32) < 0 ∨ cl80.slots.size ≤ ((2 : Int32)).toNatClampNeg) := inb_of S80 (by decide)
            refine X0.baloadBytes hx (j := (2 : Int32)) (v := (.int (c2).toInt8.toInt32)) (by rw [e0]; exact Ar80.1) (State.isArrayOf_alike hZ.alike Ar80.2.1) Ar80.2.2 hin80 (H80.at hin80 rfl) (g := (mkF m 17 #[.val (.ref a1), .val (.ref a2), .val (.int (2 : Int32))] [(.int (2 : Int32)), (.ref a1)])) rfl rfl (hb hby d_jdk_43_13_17) _ ?_
            refine XS.aloadN X0.here hx rfl (hb hby d_jdk_43_13_18) rfl rfl ?_
            show Sp p e below s₁ (mkF m 19 #[.val (.ref a1), .val (.ref a2), .val (.int (2 : Int32))] [(.ref a2), (.int (c2).toInt8.toInt32)]) _
            refine XS.iloadN X0.here hx rfl (hb hby d_jdk_43_13_19) rfl ?_
            obtain ⟨cl81, Ar81, -, S81, -, H81, -⟩ := id V2
            have hin81 : ¬ ((2 : Int32) < 0 ∨ cl81.slots.size ≤ ((2 : Int32)).toNatClampNeg) := inb_of S81 (by decide)
            refine X0.baloadBytes hx (j := (2 : Int32)) (v := (.int (d2).toInt8.toInt32)) (by rw [e0]; exact Ar81.1) (State.isArrayOf_alike hZ.alike Ar81.2.1) Ar81.2.2 hin81 (H81.at hin81 rfl) (g := (mkF m 20 #[.val (.ref a1), .val (.ref a2), .val (.int (2 : Int32))] [(.int (2 : Int32)), (.ref a2), (.int (c2).toInt8.toInt32)])) rfl rfl (hb hby d_jdk_43_13_20) _ ?_
            exact k
          by_cases hc83 : (c2).toInt8.toInt32 = (d2).toInt8.toInt32
          · skip
            have pre_85 : ∀ t, Sp p e below s₁ (mkF m 33 #[.val (.ref a1), .val (.ref a2), .val (.int (3 : Int32))] [(.int (1 : Int32))]) t → Steps p.tables e below E0 t := by
              intro t k
              refine pre_82 t ?_
              show Sp p e below s₁ (mkF m 21 #[.val (.ref a1), .val (.ref a2), .val (.int (2 : Int32))] [(.int (d2).toInt8.toInt32), (.int (c2).toInt8.toInt32)]) _
              refine XS.icmpYes X0.here hx rfl (pc0 := 21) (pc' := 26) rfl (hb hby d_jdk_43_13_21) rfl (XT.ii_eq_t hc83) (by decide) (by decide) ?_
              refine XS.iinc X0.here hx rfl (hb hby d_jdk_43_13_26) rfl (l' := #[.val (.ref a1), .val (.ref a2), .val (.int (3 : Int32))]) rfl ?_
              show Sp p e below s₁ (mkF m 29 #[.val (.ref a1), .val (.ref a2), .val (.int (3 : Int32))] []) _
              refine XS.goto X0.here hx rfl (pc0 := 29) (pc' := 9) rfl (hb hby d_jdk_43_13_29) (by decide) (by decide) ?_
              refine XS.iloadN X0.here hx rfl (hb hby d_jdk_43_13_9) rfl ?_
              refine XS.aloadN X0.here hx rfl (hb hby d_jdk_43_13_10) rfl rfl ?_
              obtain ⟨cl84, Ar84, -, S84, M84, -, -⟩ := id V1
              refine X0.arraylength hx (cell := cl84) (by rw [e0]; exact Ar84.1) (State.isArrayOf_alike hZ.alike Ar84.2.1) (g := (mkF m 11 #[.val (.ref a1), .val (.ref a2), .val (.int (3 : Int32))] [(.ref a1), (.int (3 : Int32))])) rfl (rest := [(.int (3 : Int32))]) rfl (hb hby d_jdk_43_13_11) _ ?_
              rw [len_of S84 M84]
              show Sp p e below s₁ (mkF m 12 #[.val (.ref a1), .val (.ref a2), .val (.int (3 : Int32))] [(.int (3 : Int32)), (.int (3 : Int32))]) _
              refine XS.icmpYes X0.here hx rfl (pc0 := 12) (pc' := 32) rfl (hb hby d_jdk_43_13_12) rfl (XT.ii_ge_t (by decide)) (by decide) (by decide) ?_
              show Sp p e below s₁ (mkF m 32 #[.val (.ref a1), .val (.ref a2), .val (.int (3 : Int32))] []) _
              refine XS.iconst X0.here hx rfl (hb hby d_jdk_43_13_32) ?_
              exact k
            obtain ⟨fs, hr, hrun, hended, hW, hsame⟩ := X0.leave (v := some (.int (1 : Int32))) (fun h => by rw [Bd.returns] at h; cases h)
            refine ⟨_, _, pre_85 _ ?_, hrun, hended, _, _, rfl, ?_, ⟨_, rfl⟩, hW, hsame.mono (by decide) (by decide)⟩
            · show Sp p e below s₁ (mkF m 33 #[.val (.ref a1), .val (.ref a2), .val (.int (3 : Int32))] [(.int (1 : Int32))]) _
              exact retN X0 hx (t := .boolean) Bd.returns (by simp) (hb hby d_jdk_43_13_33) hr
            · show Q_lat Z _ _ _ _ _ _ _ _ _ _ _ _ h0 n0 _ s₁.heap _
              rw [e0]
              exact ⟨by unfold own_eqv; rw [if_pos rfl, if_neg (by decide), if_pos ((own_byeq hc0 hd0).mp hc73), if_neg (by decide), if_pos ((own_byeq hc1 hd1).mp hc78), if_neg (by decide), if_pos ((own_byeq hc2 hd2).mp hc83)], N0, rfl⟩
          · skip
            have pre_86 : ∀ t, Sp p e below s₁ (mkF m 25 #[.val (.ref a1), .val (.ref a2), .val (.int (2 : Int32))] [(.int (0 : Int32))]) t → Steps p.tables e below E0 t := by
              intro t k
              refine pre_82 t ?_
              show Sp p e below s₁ (mkF m 21 #[.val (.ref a1), .val (.ref a2), .val (.int (2 : Int32))] [(.int (d2).toInt8.toInt32), (.int (c2).toInt8.toInt32)]) _
              refine XS.icmpNo X0.here hx rfl (hb hby d_jdk_43_13_21) rfl (XT.ii_eq_f hc83) ?_
              refine XS.iconst X0.here hx rfl (hb hby d_jdk_43_13_24) ?_
              show Sp p e below s₁ (mkF m 25 #[.val (.ref a1), .val (.ref a2), .val (.int (2 : Int32))] [(.int (0 : Int32))]) _
              exact k
            obtain ⟨fs, hr, hrun, hended, hW, hsame⟩ := X0.leave (v := some (.int (0 : Int32))) (fun h => by rw [Bd.returns] at h; cases h)
            refine ⟨_, _, pre_86 _ ?_, hrun, hended, _, _, rfl, ?_, ⟨_, rfl⟩, hW, hsame.mono (by decide) (by decide)⟩
            · show Sp p e below s₁ (mkF m 25 #[.val (.ref a1), .val (.ref a2), .val (.int (2 : Int32))] [(.int (0 : Int32))]) _
              exact retN X0 hx (t := .boolean) Bd.returns (by simp) (hb hby d_jdk_43_13_25) hr
            · show Q_lat Z _ _ _ _ _ _ _ _ _ _ _ _ h0 n0 _ s₁.heap _
              rw [e0]
              exact ⟨by unfold own_eqv; rw [if_pos rfl, if_neg (by decide), if_pos ((own_byeq hc0 hd0).mp hc73), if_neg (by decide), if_pos ((own_byeq hc1 hd1).mp hc78), if_neg (by decide), if_neg (fun q => hc83 ((own_byeq hc2 hd2).mpr q))], N0, rfl⟩
        · skip
          have pre_87 : ∀ t, Sp p e below s₁ (mkF m 25 #[.val (.ref a1), .val (.ref a2), .val (.int (1 : Int32))] [(.int (0 : Int32))]) t → Steps p.tables e below E0 t := by
            intro t k
            refine pre_77 t ?_
            show Sp p e below s₁ (mkF m 21 #[.val (.ref a1), .val (.ref a2), .val (.int (1 : Int32))] [(.int (d1).toInt8.toInt32), (.int (c1).toInt8.toInt32)]) _
            refine XS.icmpNo X0.here hx rfl (hb hby d_jdk_43_13_21) rfl (XT.ii_eq_f hc78) ?_
            refine XS.iconst X0.here hx rfl (hb hby d_jdk_43_13_24) ?_
            show Sp p e below s₁ (mkF m 25 #[.val (.ref a1), .val (.ref a2), .val (.int (1 : Int32))] [(.int (0 : Int32))]) _
            exact k
          obtain ⟨fs, hr, hrun, hended, hW, hsame⟩ := X0.leave (v := some (.int (0 : Int32))) (fun h => by rw [Bd.returns] at h; cases h)
          refine ⟨_, _, pre_87 _ ?_, hrun, hended, _, _, rfl, ?_, ⟨_, rfl⟩, hW, hsame.mono (by decide) (by decide)⟩
          · show Sp p e below s₁ (mkF m 25 #[.val (.ref a1), .val (.ref a2), .val (.int (1 : Int32))] [(.int (0 : Int32))]) _
            exact retN X0 hx (t := .boolean) Bd.returns (by simp) (hb hby d_jdk_43_13_25) hr
          · show Q_lat Z _ _ _ _ _ _ _ _ _ _ _ _ h0 n0 _ s₁.heap _
            rw [e0]
            exact ⟨by unfold own_eqv; rw [if_pos rfl, if_neg (by decide), if_pos ((own_byeq hc0 hd0).mp hc73), if_neg (by decide), if_neg (fun q => hc78 ((own_byeq hc1 hd1).mpr q))], N0, rfl⟩
      · skip
        have pre_88 : ∀ t, Sp p e below s₁ (mkF m 25 #[.val (.ref a1), .val (.ref a2), .val (.int (0 : Int32))] [(.int (0 : Int32))]) t → Steps p.tables e below E0 t := by
          intro t k
          refine pre_72 t ?_
          show Sp p e below s₁ (mkF m 21 #[.val (.ref a1), .val (.ref a2), .val (.int (0 : Int32))] [(.int (d0).toInt8.toInt32), (.int (c0).toInt8.toInt32)]) _
          refine XS.icmpNo X0.here hx rfl (hb hby d_jdk_43_13_21) rfl (XT.ii_eq_f hc73) ?_
          refine XS.iconst X0.here hx rfl (hb hby d_jdk_43_13_24) ?_
          show Sp p e below s₁ (mkF m 25 #[.val (.ref a1), .val (.ref a2), .val (.int (0 : Int32))] [(.int (0 : Int32))]) _
          exact k
        obtain ⟨fs, hr, hrun, hended, hW, hsame⟩ := X0.leave (v := some (.int (0 : Int32))) (fun h => by rw [Bd.returns] at h; cases h)
        refine ⟨_, _, pre_88 _ ?_, hrun, hended, _, _, rfl, ?_, ⟨_, rfl⟩, hW, hsame.mono (by decide) (by decide)⟩
        · show Sp p e below s₁ (mkF m 25 #[.val (.ref a1), .val (.ref a2), .val (.int (0 : Int32))] [(.int (0 : Int32))]) _
          exact retN X0 hx (t := .boolean) Bd.returns (by simp) (hb hby d_jdk_43_13_25) hr
        · show Q_lat Z _ _ _ _ _ _ _ _ _ _ _ _ h0 n0 _ s₁.heap _
          rw [e0]
          exact ⟨by unfold own_eqv; rw [if_pos rfl, if_neg (by decide), if_neg (fun q => hc73 ((own_byeq hc0 hd0).mpr q))], N0, rfl⟩
theorem d_jdk_42_66_0 : decode jdk_42_method_66_code 0 = .ok (.aload_n 0, 1) := by decide +kernel
theorem d_jdk_42_66_1 : decode jdk_42_method_66_code 1 = .ok (.aload_n 1, 1) := by decide +kernel
theorem d_jdk_42_66_2 : decode jdk_42_method_66_code 2 = .ok (.if_acmp .ne 5, 3) := by decide +kernel
theorem d_jdk_42_66_7 : decode jdk_42_method_66_code 7 = .ok (.aload_n 1, 1) := by decide +kernel
theorem d_jdk_42_66_8 : decode jdk_42_method_66_code 8 = .ok (.instanceof 10, 3) := by decide +kernel
theorem d_jdk_42_66_11 : decode jdk_42_method_66_code 11 = .ok (.ifCond .eq 43, 3) := by decide +kernel
theorem d_jdk_42_66_14 : decode jdk_42_method_66_code 14 = .ok (.aload_n 1, 1) := by decide +kernel
theorem d_jdk_42_66_15 : decode jdk_42_method_66_code 15 = .ok (.checkcast 10, 3) := by decide +kernel
theorem d_jdk_42_66_18 : decode jdk_42_method_66_code 18 = .ok (.astore_n 2, 1) := by decide +kernel
theorem d_jdk_42_66_19 : decode jdk_42_method_66_code 19 = .ok (.getstatic 38, 3) := by decide +kernel
theorem d_jdk_42_66_22 : decode jdk_42_method_66_code 22 = .ok (.ifCond .eq 14, 3) := by decide +kernel
theorem d_jdk_42_66_25 : decode jdk_42_method_66_code 25 = .ok (.aload_n 0, 1) := by decide +kernel
theorem d_jdk_42_66_26 : decode jdk_42_method_66_code 26 = .ok (.getfield 15, 3) := by decide +kernel
theorem d_jdk_42_66_29 : decode jdk_42_method_66_code 29 = .ok (.aload_n 2, 1) := by decide +kernel
theorem d_jdk_42_66_30 : decode jdk_42_method_66_code 30 = .ok (.getfield 15, 3) := by decide +kernel
theorem d_jdk_42_66_33 : decode jdk_42_method_66_code 33 = .ok (.if_icmp .ne 21, 3) := by decide +kernel
theorem d_jdk_42_66_36 : decode jdk_42_method_66_code 36 = .ok (.aload_n 0, 1) := by decide +kernel
theorem d_jdk_42_66_37 : decode jdk_42_method_66_code 37 = .ok (.getfield 9, 3) := by decide +kernel
theorem d_jdk_42_66_40 : decode jdk_42_method_66_code 40 = .ok (.aload_n 2, 1) := by decide +kernel
theorem d_jdk_42_66_41 : decode jdk_42_method_66_code 41 = .ok (.getfield 9, 3) := by decide +kernel
theorem d_jdk_42_66_44 : decode jdk_42_method_66_code 44 = .ok (.invokestatic 541, 3) := by decide +kernel
theorem d_jdk_42_66_47 : decode jdk_42_method_66_code 47 = .ok (.ifCond .eq 7, 3) := by decide +kernel
theorem d_jdk_42_66_50 : decode jdk_42_method_66_code 50 = .ok (.iconst 1, 1) := by decide +kernel
theorem d_jdk_42_66_51 : decode jdk_42_method_66_code 51 = .ok (.goto 4, 3) := by decide +kernel
theorem d_jdk_42_66_54 : decode jdk_42_method_66_code 54 = .ok (.iconst 0, 1) := by decide +kernel
theorem d_jdk_42_66_55 : decode jdk_42_method_66_code 55 = .ok (.ireturn, 1) := by decide +kernel
theorem pn_seq : plainName "java/lang/String" = true := by first | (simp [plainName, overriddenIn]; done) | decide +kernel
theorem pd_seq_0 : parseMethodDescriptor "([B[B)Z" = some ⟨[(.array .byte), (.array .byte)], some .boolean⟩ := by decide +kernel
theorem ef_seq (m : MethodId) (a1 : Addr) (a2 : Addr) : entryFrame m #[(.ref a1), (.ref a2)] 3 = (mkF m 0 #[.val (.ref a1), .val (.ref a2), .unset] []) := by first | (simp [entryFrame, mkF, argsToLocals, Value.category]; done) | rfl
def Q_seq (Z : State) (a1 : Addr) (a2 : Addr) (b1 b2 : Addr) (G1 : Int32) (k1 k2 : ClassId) (nn mm c0 c1 c2 d0 d1 d2 : Int32) (h0 : Heap) (n0 : Nat) (v : Option Value) (h : Heap) (L : List Loc) : Prop := v = some (.int (own_eqv nn mm c0 d0 c1 d1 c2 d2)) ∧ Fr n0 L ∧ h = h0
set_option maxRecDepth 65536 in
set_option maxHeartbeats 40000000 in
theorem rm_seq (l : Launch) (Z : State) (a0 : Array Value) (hw : ∀ d ∈ tables_1, d.before a0 Z = true) (ws : List Jvm.Cond) (a1 : Addr) (a2 : Addr) (b1 b2 : Addr) (G1 : Int32) (k1 k2 : ClassId) (nn mm c0 c1 c2 d0 d1 d2 : Int32) (h0 : Heap) (n0 : Nat) (O0 : Old Z n0 h0) (E2 : Exa Z h0 a2 "java/lang/String") (FC1 : Fld Z h0 a1 "java/lang/String" "coder" "B" (.int (0 : Int32))) (FC2 : Fld Z h0 a2 "java/lang/String" "coder" "B" (.int (0 : Int32))) (FV1 : Fld Z h0 a1 "java/lang/String" "value" "[B" (.ref b1)) (FV2 : Fld Z h0 a2 "java/lang/String" "value" "[B" (.ref b2)) (A1 : own_Ar Z h0 b1 k1 nn c0 c1 c2) (A2 : own_Ar Z h0 b2 k2 mm d0 d1 d2) (ne12 : ¬ a1 = a2) (SC : Sta Z Z.heap "java/lang/String" "COMPACT_STRINGS" "Z" (.int G1)) (hG : ¬ G1 = (0 : Int32)) (hc0 : ¬ (255 : Int32) < c0 ∧ ¬ c0 < (0 : Int32)) (hc1 : ¬ (255 : Int32) < c1 ∧ ¬ c1 < (0 : Int32)) (hc2 : ¬ (255 : Int32) < c2 ∧ ¬ c2 < (0 : Int32)) (hd0 : ¬ (255 : Int32) < d0 ∧ ¬ d0 < (0 : Int32)) (hd1 : ¬ (255 : Int32) < d1 ∧ ¬ d1 < (0 : Int32)) (hd2 : ¬ (255 : Int32) < d2 ∧ ¬ d2 < (0 : Int32)) :
    MetFree l (⟨"java/lang/String", "equals", "(Ljava/lang/Object;)Z"⟩ : MethodName) (head1 (Jvm.Cond.code (⟨"java/lang/String", "equals", "(Ljava/lang/Object;)Z"⟩ : MethodName) jdk_42_method_66_code 3 (some .boolean) :: ws) ({ frames := 1, cells := 0, slots := 0, locals := 14 } : Room)) (fun a U => a = #[(.ref a1), (.ref a2)] ∧ Z.Warmed39 U.vm ∧ U.heap = h0) (fun _ _ _ _ _ => True) (fun _ U o U' => ∃ v L, o = .returned v ∧ Q_seq Z a1 a2 b1 b2 G1 k1 k2 nn mm c0 c1 c2 d0 d1 d2 h0 n0 v U'.heap L ∧ FrameEnd U o U' L ({ frames := 1, cells := 0, slots := 0, locals := 14 } : Room).cells ({ frames := 1, cells := 0, slots := 0, locals := 14 } : Room).slots) := by
  refine MetFree.of_bodySF (plainFor_of_name pn_seq) hisR ?_
  intro p e s m args below meth c s₁ Bd hml0 hP hK
  obtain ⟨rfl, hZ, hh⟩ := hP
  have hx := Bd.exec
  have hby := Bd.bytes
  have hml : c.maxLocals = 3 := hml0
  have hown : s.vm.findClass "java/lang/String" = some m.cls := findClass_of_methodNamed Bd.named
  have hnm := (name_of_methodNamed Bd.named Bd.method).1
  have X0 : Stand p l e ({ frames := 1, cells := 0, slots := 0, locals := 14 } : Room) s m #[(.ref a1), (.ref a2)] below meth c s₁ [] 0 0 := Stand.of_body Bd
  have e0 : s₁.heap = h0 := by rw [← hh, Bd.state]; rfl
  have N0 := Fr.nil n0
  have pre0 : ∀ t, Steps p.tables e below (s₁.setTop (mkF m 0 #[.val (.ref a1), .val (.ref a2), .unset] [])) t → Steps p.tables e below (s₁.setTop (entryFrame m #[(.ref a1), (.ref a2)] 3)) t := fun t k => castTop (ef_seq m a1 a2) k
  generalize s₁.setTop (entryFrame m #[(.ref a1), (.ref a2)] 3) = E0 at pre0 ⊢
  have pre_1 : ∀ t, Sp p e below s₁ (mkF m 8 #[.val (.ref a1), .val (.ref a2), .unset] [(.ref a2)]) t → Steps p.tables e below E0 t := by
    intro t k
    refine pre0 t ?_
    show Sp p e below s₁ (mkF m 0 #[.val (.ref a1), .val (.ref a2), .unset] []) _
    refine XS.aloadN X0.here hx rfl (hb hby d_jdk_42_66_0) rfl rfl ?_
    refine XS.aloadN X0.here hx rfl (hb hby d_jdk_42_66_1) rfl rfl ?_
    refine XT.acmpYes X0.here hx rfl (pc0 := 2) (pc' := 7) rfl (hb hby d_jdk_42_66_2) rfl rfl rfl (XT.aa_ne_t (fun q => ne12 (Value.ref.inj q))) (by decide) (by decide) ?_
    refine XS.aloadN X0.here hx rfl (hb hby d_jdk_42_66_7) rfl rfl ?_
    show Sp p e below s₁ (mkF m 8 #[.val (.ref a1), .val (.ref a2), .unset] [(.ref a2)]) _
    exact k
  obtain ⟨T2, X2, e2, st2⟩ := instY X0 hx hZ hown (own_w hw 69 rfl) e0 (Ins.self E2) (g := (mkF m 8 #[.val (.ref a1), .val (.ref a2), .unset] [(.ref a2)])) rfl rfl (hb hby d_jdk_42_66_8)
  have pre_3 : ∀ t, Sp p e below T2 (mkF m 11 #[.val (.ref a1), .val (.ref a2), .unset] [(.int (1 : Int32))]) t → Steps p.tables e below E0 t := fun t k => pre_1 t (st2 t k)
  have pre_4 : ∀ t, Sp p e below T2 (mkF m 15 #[.val (.ref a1), .val (.ref a2), .unset] [(.ref a2)]) t → Steps p.tables e below E0 t := by
    intro t k
    refine pre_3 t ?_
    show Sp p e below T2 (mkF m 11 #[.val (.ref a1), .val (.ref a2), .unset] [(.int (1 : Int32))]) _
    refine XS.ifNo X2.here hx rfl (hb hby d_jdk_42_66_11) rfl (XT.i0_eq_f (by decide)) ?_
    refine XS.aloadN X2.here hx rfl (hb hby d_jdk_42_66_14) rfl rfl ?_
    exact k
  obtain ⟨T5, X5, e5, st5⟩ := castY X2 hx hZ hown (own_w hw 69 rfl) e2 (Ins.self E2) (g := (mkF m 15 #[.val (.ref a1), .val (.ref a2), .unset] [(.ref a2)])) rfl rfl (hb hby d_jdk_42_66_15)
  have pre_6 : ∀ t, Sp p e below T5 (mkF m 18 #[.val (.ref a1), .val (.ref a2), .unset] [(.ref a2)]) t → Steps p.tables e below E0 t := fun t k => pre_4 t (st5 t k)
  have pre_7 : ∀ t, Sp p e below T5 (mkF m 19 #[.val (.ref a1), .val (.ref a2), .val (.ref a2)] []) t → Steps p.tables e below E0 t := by
    intro t k
    refine pre_6 t ?_
    show Sp p e below T5 (mkF m 18 #[.val (.ref a1), .val (.ref a2), .unset] [(.ref a2)]) _
    refine XS.astoreN X5.here hx rfl (hb hby d_jdk_42_66_18) rfl rfl (l' := #[.val (.ref a1), .val (.ref a2), .val (.ref a2)]) rfl ?_
    exact k
  obtain ⟨T8, X8, e8, st8⟩ := getS X5 hx hZ hown (host := "") (own_w hw 29 rfl) Via.refl e5 (SC.ext O0.2) (g := (mkF m 19 #[.val (.ref a1), .val (.ref a2), .val (.ref a2)] [])) rfl (hb hby d_jdk_42_66_19)
  have pre_9 : ∀ t, Sp p e below T8 (mkF m 22 #[.val (.ref a1), .val (.ref a2), .val (.ref a2)] [(.int G1)]) t → Steps p.tables e below E0 t := fun t k => pre_7 t (st8 t k)
  have pre_10 : ∀ t, Sp p e below T8 (mkF m 26 #[.val (.ref a1), .val (.ref a2), .val (.ref a2)] [(.ref a1)]) t → Steps p.tables e below E0 t := by
    intro t k
    refine pre_9 t ?_
    show Sp p e below T8 (mkF m 22 #[.val (.ref a1), .val (.ref a2), .val (.ref a2)] [(.int G1)]) _
    refine XS.ifNo X8.here hx rfl (hb hby d_jdk_42_66_22) rfl (XT.i0_eq_f hG) ?_
    show Sp p e below T8 (mkF m 25 #[.val (.ref a1), .val (.ref a2), .val (.ref a2)] []) _
    refine XS.aloadN X8.here hx rfl (hb hby d_jdk_42_66_25) rfl rfl ?_
    exact k
  obtain ⟨T11, X11, e11, st11⟩ := getF X8 hx hZ hown (host := "") (Or.inl (own_w hw 25 rfl)) Via.refl e8 FC1 (g := (mkF m 26 #[.val (.ref a1), .val (.ref a2), .val (.ref a2)] [(.ref a1)])) rfl rfl (hb hby d_jdk_42_66_26)
  have pre_12 : ∀ t, Sp p e below T11 (mkF m 29 #[.val (.ref a1), .val (.ref a2), .val (.ref a2)] [(.int (0 : Int32))]) t → Steps p.tables e below E0 t := fun t k => pre_10 t (st11 t k)
  have pre_13 : ∀ t, Sp p e below T11 (mkF m 30 #[.val (.ref a1), .val (.ref a2), .val (.ref a2)] [(.ref a2), (.int (0 : Int32))]) t → Steps p.tables e below E0 t := by
    intro t k
    refine pre_12 t ?_
    show Sp p e below T11 (mkF m 29 #[.val (.ref a1), .val (.ref a2), .val (.ref a2)] [(.int (0 : Int32))]) _
    refine XS.aloadN X11.here hx rfl (hb hby d_jdk_42_66_29) rfl rfl ?_
    exact k
  obtain ⟨T14, X14, e14, st14⟩ := getF X11 hx hZ hown (host := "") (Or.inl (own_w hw 25 rfl)) Via.refl e11 FC2 (g := (mkF m 30 #[.val (.ref a1), .val (.ref a2), .val (.ref a2)] [(.ref a2), (.int (0 : Int32))])) rfl rfl (hb hby d_jdk_42_66_30)
  have pre_15 : ∀ t, Sp p e below T14 (mkF m 33 #[.val (.ref a1), .val (.ref a2), .val (.ref a2)] [(.int (0 : Int32)), (.int (0 : Int32))]) t → Steps p.tables e below E0 t := fun t k => pre_13 t (st14 t k)
  have pre_16 : ∀ t, Sp p e below T14 (mkF m 37 #[.val (.ref a1), .val (.ref a2), .val (.ref a2)] [(.ref a1)]) t → Steps p.tables e below E0 t := by
    intro t k
    refine pre_15 t ?_
    show Sp p e below T14 (mkF m 33 #[.val (.ref a1), .val (.ref a2), .val (.ref a2)] [(.int (0 : Int32)), (.int (0 : Int32))]) _
    refine XS.icmpNo X14.here hx rfl (hb hby d_jdk_42_66_33) rfl (XT.ii_ne_f (by decide)) ?_
    refine XS.aloadN X14.here hx rfl (hb hby d_jdk_42_66_36) rfl rfl ?_
    show Sp p e below T14 (mkF m 37 #[.val (.ref a1), .val (.ref a2), .val (.ref a2)] [(.ref a1)]) _
    exact k
  obtain ⟨T17, X17, e17, st17⟩ := getF X14 hx hZ hown (host := "") (Or.inl (own_w hw 24 rfl)) Via.refl e14 FV1 (g := (mkF m 37 #[.val (.ref a1), .val (.ref a2), .val (.ref a2)] [(.ref a1)])) rfl rfl (hb hby d_jdk_42_66_37)
  have pre_18 : ∀ t, Sp p e below T17 (mkF m 40 #[.val (.ref a1), .val (.ref a2), .val (.ref a2)] [(.ref b1)]) t → Steps p.tables e below E0 t := fun t k => pre_16 t (st17 t k)
  have pre_19 : ∀ t, Sp p e below T17 (mkF m 41 #[.val (.ref a1), .val (.ref a2), .val (.ref a2)] [(.ref a2), (.ref b1)]) t → Steps p.tables e below E0 t := by
    intro t k
    refine pre_18 t ?_
    show Sp p e below T17 (mkF m 40 #[.val (.ref a1), .val (.ref a2), .val (.ref a2)] [(.ref b1)]) _
    refine XS.aloadN X17.here hx rfl (hb hby d_jdk_42_66_40) rfl rfl ?_
    exact k
  obtain ⟨T20, X20, e20, st20⟩ := getF X17 hx hZ hown (host := "") (Or.inl (own_w hw 24 rfl)) Via.refl e17 FV2 (g := (mkF m 41 #[.val (.ref a1), .val (.ref a2), .val (.ref a2)] [(.ref a2), (.ref b1)])) rfl rfl (hb hby d_jdk_42_66_41)
  have pre_21 : ∀ t, Sp p e below T20 (mkF m 44 #[.val (.ref a1), .val (.ref a2), .val (.ref a2)] [(.ref b2), (.ref b1)]) t → Steps p.tables e below E0 t := fun t k => pre_19 t (st20 t k)
  obtain ⟨_, _, ⟨T22, L22, k22, n22⟩, -, X22, ⟨Lc22, hQ22, l22, y22, z22⟩, st22⟩ := Jvm.LawKit.callS X20 hx (y := (⟨"java/lang/StringLatin1", "equals", "([B[B)Z"⟩ : MethodName)) hown (mvT hZ (own_w hw 70 rfl)) (mvT hZ (own_w hw 71 rfl)) (mvT hZ (own_w hw 72 rfl)) (mvT hZ (own_w hw 73 rfl)) (by decide) (backOf (W := 0) (rm_lat l Z a0 hw [] b1 b2 k1 k2 nn mm c0 c1 c2 d0 d1 d2 h0 n0 O0 A1 A2 hc0 hc1 hc2 hd0 hd1 hd2) hZ (own_w hw 73 rfl) (own_w hw 72 rfl) (by decide) (by decide)) (g := (mkF m 44 #[.val (.ref a1), .val (.ref a2), .val (.ref a2)] [(.ref b2), (.ref b1)])) rfl (by rw [hml]; rfl) (argsL := [(.ref b1), (.ref b2)]) (rest := []) (lenOf pd_seq_0 rfl) rfl (by show 2 * 0 + _ ≤ _; exact Nat.le_of_eq rfl) (hb hby d_jdk_42_66_44) (fun _ _ => ⟨rfl, e20, (by decide : 0 + 0 ≤ _), (by decide : 0 + 0 ≤ _)⟩)
  dsimp only [Pt.U, Pt.locs, Pt.cells, Pt.slots] at X22 l22 y22 z22 st22 hQ22
  subst l22 y22 z22
  obtain ⟨rfl, N22q, e22⟩ := hQ22
  have N22 := Fr.app N0 N22q
  have pre_23 : ∀ t, Sp p e below T22 (mkF m 47 #[.val (.ref a1), .val (.ref a2), .val (.ref a2)] [(.int (own_eqv nn mm c0 d0 c1 d1 c2 d2))]) t → Steps p.tables e below E0 t := fun t k => pre_21 t (st22 t k)
  rcases own_eqv01 nn mm c0 d0 c1 d1 c2 d2 with hv | hv
  · skip
    have pre_24 : ∀ t, Sp p e below T22 (mkF m 55 #[.val (.ref a1), .val (.ref a2), .val (.ref a2)] [(.int (0 : Int32))]) t → Steps p.tables e below E0 t := by
      intro t k
      refine pre_23 t ?_
      show Sp p e below T22 (mkF m 47 #[.val (.ref a1), .val (.ref a2), .val (.ref a2)] [(.int (own_eqv nn mm c0 d0 c1 d1 c2 d2))]) _
      refine XS.ifYes X22.here hx rfl (pc0 := 47) (pc' := 54) rfl (hb hby d_jdk_42_66_47) rfl (XT.i0_eq_t hv) (by decide) (by decide) ?_
      refine XS.iconst X22.here hx rfl (hb hby d_jdk_42_66_54) ?_
      exact k
    obtain ⟨fs, hr, hrun, hended, hW, hsame⟩ := X22.leave (v := some (.int (0 : Int32))) (fun h => by rw [Bd.returns] at h; cases h)
    refine ⟨_, _, pre_24 _ ?_, hrun, hended, _, _, rfl, ?_, ⟨_, rfl⟩, hW, hsame.mono (by decide) (by decide)⟩
    · show Sp p e below T22 (mkF m 55 #[.val (.ref a1), .val (.ref a2), .val (.ref a2)] [(.int (0 : Int32))]) _
      exact retN X22 hx (t := .boolean) Bd.returns (by simp) (hb hby d_jdk_42_66_55) hr
    · show Q_seq Z _ _ _ _ _ _ _ _ _ _ _ _ _ _ _ h0 n0 _ T22.heap _
      rw [e22]
      exact ⟨by rw [hv], N22, rfl⟩
  · skip
    have pre_25 : ∀ t, Sp p e below T22 (mkF m 55 #[.val (.ref a1), .val (.ref a2), .val (.ref a2)] [(.int (1 : Int32))]) t → Steps p.tables e below E0 t := by
      intro t k
      refine pre_23 t ?_
      show Sp p e below T22 (mkF m 47 #[.val (.ref a1), .val (.ref a2), .val (.ref a2)] [(.int (own_eqv nn mm c0 d0 c1 d1 c2 d2))]) _
      refine XS.ifNo X22.here hx rfl (hb hby d_jdk_42_66_47) rfl (XT.i0_eq_f (by rw [hv]; decide)) ?_
      refine XS.iconst X22.here hx rfl (hb hby d_jdk_42_66_50) ?_
      refine XS.goto X22.here hx rfl (pc0 := 51) (pc' := 55) rfl (hb hby d_jdk_42_66_51) (by decide) (by decide) ?_
      show Sp p e below T22 (mkF m 55 #[.val (.ref a1), .val (.ref a2), .val (.ref a2)] [(.int (1 : Int32))]) _
      exact k
    obtain ⟨fs, hr, hrun, hended, hW, hsame⟩ := X22.leave (v := some (.int (1 : Int32))) (fun h => by rw [Bd.returns] at h; cases h)
    refine ⟨_, _, pre_25 _ ?_, hrun, hended, _, _, rfl, ?_, ⟨_, rfl⟩, hW, hsame.mono (by decide) (by decide)⟩
    · show Sp p e below T22 (mkF m 55 #[.val (.ref a1), .val (.ref a2), .val (.ref a2)] [(.int (1 : Int32))]) _
      exact retN X22 hx (t := .boolean) Bd.returns (by simp) (hb hby d_jdk_42_66_55) hr
    · show Q_seq Z _ _ _ _ _ _ _ _ _ _ _ _ _ _ _ h0 n0 _ T22.heap _
      rw [e22]
      exact ⟨by rw [hv], N22, rfl⟩
theorem d_method_3_0 : decode method_3_code 0 = .ok (.iload_n 0, 1) := by decide +kernel
theorem d_method_3_1 : decode method_3_code 1 = .ok (.bipush 8, 2) := by decide +kernel
theorem d_method_3_3 : decode method_3_code 3 = .ok (.iload_n 1, 1) := by decide +kernel
theorem d_method_3_4 : decode method_3_code 4 = .ok (.imul, 1) := by decide +kernel
theorem d_method_3_5 : decode method_3_code 5 = .ok (.iushr, 1) := by decide +kernel
theorem d_method_3_6 : decode method_3_code 6 = .ok (.sipush 255, 3) := by decide +kernel
theorem d_method_3_9 : decode method_3_code 9 = .ok (.iand, 1) := by decide +kernel
theorem d_method_3_10 : decode method_3_code 10 = .ok (.i2c, 1) := by decide +kernel
theorem d_method_3_11 : decode method_3_code 11 = .ok (.ireturn, 1) := by decide +kernel
theorem pn_ch : plainName "com/example/foretell/foretell/core/ModelValueEqualsPinLaw" = true := by first | (simp [plainName, overriddenIn]; done) | decide +kernel
theorem ef_ch (m : MethodId) (p1 : Int32) (p2 : Int32) : entryFrame m #[(.int p1), (.int p2)] 2 = (mkF m 0 #[.val (.int p1), .val (.int p2)] []) := by first | (simp [entryFrame, mkF, argsToLocals, Value.category]; done) | rfl
def Q_ch (Z : State) (p1 : Int32) (p2 : Int32)  (h0 : Heap) (n0 : Nat) (v : Option Value) (h : Heap) (L : List Loc) : Prop := v = some (.int (own_ch p1 p2)) ∧ Fr n0 L ∧ h = h0
set_option maxRecDepth 65536 in
set_option maxHeartbeats 40000000 in
theorem rm_ch (l : Launch) (Z : State) (a0 : Array Value) (hw : ∀ d ∈ tables_1, d.before a0 Z = true) (ws : List Jvm.Cond) (p1 : Int32) (p2 : Int32)  (h0 : Heap) (n0 : Nat) (O0 : Old Z n0 h0)  :
    MetFree l (⟨"com/example/foretell/foretell/core/ModelValueEqualsPinLaw", "ch", "(II)C"⟩ : MethodName) (head1 (Jvm.Cond.code (⟨"com/example/foretell/foretell/core/ModelValueEqualsPinLaw", "ch", "(II)C"⟩ : MethodName) method_3_code 2 (some .char) :: ws) ({ frames := 0, cells := 0, slots := 0, locals := 0 } : Room)) (fun a U => a = #[(.int p1), (.int p2)] ∧ Z.Warmed39 U.vm ∧ U.heap = h0) (fun _ _ _ _ _ => True) (fun _ U o U' => ∃ v L, o = .returned v ∧ Q_ch Z p1 p2  h0 n0 v U'.heap L ∧ FrameEnd U o U' L ({ frames := 0, cells := 0, slots := 0, locals := 0 } : Room).cells ({ frames := 0, cells := 0, slots := 0, locals := 0 } : Room).slots) := by
  refine MetFree.of_bodySF (plainFor_of_name pn_ch) hisR ?_
  intro p e s m args below meth c s₁ Bd hml0 hP hK
  obtain ⟨rfl, hZ, hh⟩ := hP
  have hx := Bd.exec
  have hby := Bd.bytes
  have hml : c.maxLocals = 2 := hml0
  have hown : s.vm.findClass "com/example/foretell/foretell/core/ModelValueEqualsPinLaw" = some m.cls := findClass_of_methodNamed Bd.named
  have hnm := (name_of_methodNamed Bd.named Bd.method).1
  have X0 : Stand p l e ({ frames := 0, cells := 0, slots := 0, locals := 0 } : Room) s m #[(.int p1), (.int p2)] below meth c s₁ [] 0 0 := Stand.of_body Bd
  have e0 : s₁.heap = h0 := by rw [← hh, Bd.state]; rfl
  have N0 := Fr.nil n0
  have pre0 : ∀ t, Steps p.tables e below (s₁.setTop (mkF m 0 #[.val (.int p1), .val (.int p2)] [])) t → Steps p.tables e below (s₁.setTop (entryFrame m #[(.int p1), (.int p2)] 2)) t := fun t k => castTop (ef_ch m p1 p2) k
  generalize s₁.setTop (entryFrame m #[(.int p1), (.int p2)] 2) = E0 at pre0 ⊢
  have pre_1 : ∀ t, Sp p e below s₁ (mkF m 11 #[.val (.int p1), .val (.int p2)] [(.int ((((XT.ushr p1 ((8 : Int32) * p2)) &&& (255 : Int32))).toUInt32.toUInt16.toUInt32.toInt32))]) t → Steps p.tables e below E0 t := by
    intro t k
    refine pre0 t ?_
    show Sp p e below s₁ (mkF m 0 #[.val (.int p1), .val (.int p2)] []) _
    refine XS.iloadN X0.here hx rfl (hb hby d_method_3_0) rfl ?_
    refine XS.bipush X0.here hx rfl (hb hby d_method_3_1) ?_
    refine XS.iloadN X0.here hx rfl (hb hby d_method_3_3) rfl ?_
    refine XS.imul X0.here hx rfl (hb hby d_method_3_4) rfl ?_
    show Sp p e below s₁ (mkF m 5 #[.val (.int p1), .val (.int p2)] [(.int ((8 : Int32) * p2)), (.int p1)]) _
    refine XT.iushr X0.here hx rfl (hb hby d_method_3_5) rfl ?_
    refine XS.sipush X0.here hx rfl (hb hby d_method_3_6) ?_
    refine XS.iand X0.here hx rfl (hb hby d_method_3_9) rfl ?_
    refine XT.i2c X0.here hx rfl (hb hby d_method_3_10) rfl ?_
    show Sp p e below s₁ (mkF m 11 #[.val (.int p1), .val (.int p2)] [(.int ((((XT.ushr p1 ((8 : Int32) * p2)) &&& (255 : Int32))).toUInt32.toUInt16.toUInt32.toInt32))]) _
    exact k
  obtain ⟨fs, hr, hrun, hended, hW, hsame⟩ := X0.leave (v := some (.int (nar .char ((((XT.ushr p1 ((8 : Int32) * p2)) &&& (255 : Int32))).toUInt32.toUInt16.toUInt32.toInt32)))) (fun h => by rw [Bd.returns] at h; cases h)
  refine ⟨_, _, pre_1 _ ?_, hrun, hended, _, _, rfl, ?_, ⟨_, rfl⟩, hW, hsame.mono (by decide) (by decide)⟩
  · show Sp p e below s₁ (mkF m 11 #[.val (.int p1), .val (.int p2)] [(.int ((((XT.ushr p1 ((8 : Int32) * p2)) &&& (255 : Int32))).toUInt32.toUInt16.toUInt32.toInt32))]) _
    exact retN X0 hx (t := .char) Bd.returns (by simp) (hb hby d_method_3_11) hr
  · show Q_ch Z _ _ h0 n0 _ s₁.heap _
    rw [e0]
    exact ⟨by rw [show ((((XT.ushr p1 ((8 : Int32) * p2)) &&& (255 : Int32))).toUInt32.toUInt16.toUInt32.toInt32) = own_ch p1 p2 from rfl, (own_chr p1 p2).1], N0, rfl⟩
theorem d_method_4_0 : decode method_4_code 0 = .ok (.iload_n 0, 1) := by decide +kernel
theorem d_method_4_1 : decode method_4_code 1 = .ok (.ifCond .ne 14, 3) := by decide +kernel
theorem d_method_4_4 : decode method_4_code 4 = .ok (.new 29, 3) := by decide +kernel
theorem d_method_4_7 : decode method_4_code 7 = .ok (.dup, 1) := by decide +kernel
theorem d_method_4_8 : decode method_4_code 8 = .ok (.iconst 0, 1) := by decide +kernel
theorem d_method_4_9 : decode method_4_code 9 = .ok (.newarray .char, 2) := by decide +kernel
theorem d_method_4_11 : decode method_4_code 11 = .ok (.invokespecial 31, 3) := by decide +kernel
theorem d_method_4_14 : decode method_4_code 14 = .ok (.areturn, 1) := by decide +kernel
theorem d_method_4_15 : decode method_4_code 15 = .ok (.iload_n 0, 1) := by decide +kernel
theorem d_method_4_16 : decode method_4_code 16 = .ok (.iconst 1, 1) := by decide +kernel
theorem d_method_4_17 : decode method_4_code 17 = .ok (.if_icmp .ne 22, 3) := by decide +kernel
theorem d_method_4_20 : decode method_4_code 20 = .ok (.new 29, 3) := by decide +kernel
theorem d_method_4_23 : decode method_4_code 23 = .ok (.dup, 1) := by decide +kernel
theorem d_method_4_24 : decode method_4_code 24 = .ok (.iconst 1, 1) := by decide +kernel
theorem d_method_4_25 : decode method_4_code 25 = .ok (.newarray .char, 2) := by decide +kernel
theorem d_method_4_27 : decode method_4_code 27 = .ok (.dup, 1) := by decide +kernel
theorem d_method_4_28 : decode method_4_code 28 = .ok (.iconst 0, 1) := by decide +kernel
theorem d_method_4_29 : decode method_4_code 29 = .ok (.iload_n 1, 1) := by decide +kernel
theorem d_method_4_30 : decode method_4_code 30 = .ok (.iconst 0, 1) := by decide +kernel
theorem d_method_4_31 : decode method_4_code 31 = .ok (.invokestatic 34, 3) := by decide +kernel
theorem d_method_4_34 : decode method_4_code 34 = .ok (.castore, 1) := by decide +kernel
theorem d_method_4_35 : decode method_4_code 35 = .ok (.invokespecial 31, 3) := by decide +kernel
theorem d_method_4_38 : decode method_4_code 38 = .ok (.areturn, 1) := by decide +kernel
theorem d_method_4_39 : decode method_4_code 39 = .ok (.iload_n 0, 1) := by decide +kernel
theorem d_method_4_40 : decode method_4_code 40 = .ok (.iconst 2, 1) := by decide +kernel
theorem d_method_4_41 : decode method_4_code 41 = .ok (.if_icmp .ne 30, 3) := by decide +kernel
theorem d_method_4_44 : decode method_4_code 44 = .ok (.new 29, 3) := by decide +kernel
theorem d_method_4_47 : decode method_4_code 47 = .ok (.dup, 1) := by decide +kernel
theorem d_method_4_48 : decode method_4_code 48 = .ok (.iconst 2, 1) := by decide +kernel
theorem d_method_4_49 : decode method_4_code 49 = .ok (.newarray .char, 2) := by decide +kernel
theorem d_method_4_51 : decode method_4_code 51 = .ok (.dup, 1) := by decide +kernel
theorem d_method_4_52 : decode method_4_code 52 = .ok (.iconst 0, 1) := by decide +kernel
theorem d_method_4_53 : decode method_4_code 53 = .ok (.iload_n 1, 1) := by decide +kernel
theorem d_method_4_54 : decode method_4_code 54 = .ok (.iconst 0, 1) := by decide +kernel
theorem d_method_4_55 : decode method_4_code 55 = .ok (.invokestatic 34, 3) := by decide +kernel
theorem d_method_4_58 : decode method_4_code 58 = .ok (.castore, 1) := by decide +kernel
theorem d_method_4_59 : decode method_4_code 59 = .ok (.dup, 1) := by decide +kernel
theorem d_method_4_60 : decode method_4_code 60 = .ok (.iconst 1, 1) := by decide +kernel
theorem d_method_4_61 : decode method_4_code 61 = .ok (.iload_n 1, 1) := by decide +kernel
theorem d_method_4_62 : decode method_4_code 62 = .ok (.iconst 1, 1) := by decide +kernel
theorem d_method_4_63 : decode method_4_code 63 = .ok (.invokestatic 34, 3) := by decide +kernel
theorem d_method_4_66 : decode method_4_code 66 = .ok (.castore, 1) := by decide +kernel
theorem d_method_4_67 : decode method_4_code 67 = .ok (.invokespecial 31, 3) := by decide +kernel
theorem d_method_4_70 : decode method_4_code 70 = .ok (.areturn, 1) := by decide +kernel
theorem d_method_4_71 : decode method_4_code 71 = .ok (.new 29, 3) := by decide +kernel
theorem d_method_4_74 : decode method_4_code 74 = .ok (.dup, 1) := by decide +kernel
theorem d_method_4_75 : decode method_4_code 75 = .ok (.iconst 3, 1) := by decide +kernel
theorem d_method_4_76 : decode method_4_code 76 = .ok (.newarray .char, 2) := by decide +kernel
theorem d_method_4_78 : decode method_4_code 78 = .ok (.dup, 1) := by decide +kernel
theorem d_method_4_79 : decode method_4_code 79 = .ok (.iconst 0, 1) := by decide +kernel
theorem d_method_4_80 : decode method_4_code 80 = .ok (.iload_n 1, 1) := by decide +kernel
theorem d_method_4_81 : decode method_4_code 81 = .ok (.iconst 0, 1) := by decide +kernel
theorem d_method_4_82 : decode method_4_code 82 = .ok (.invokestatic 34, 3) := by decide +kernel
theorem d_method_4_85 : decode method_4_code 85 = .ok (.castore, 1) := by decide +kernel
theorem d_method_4_86 : decode method_4_code 86 = .ok (.dup, 1) := by decide +kernel
theorem d_method_4_87 : decode method_4_code 87 = .ok (.iconst 1, 1) := by decide +kernel
theorem d_method_4_88 : decode method_4_code 88 = .ok (.iload_n 1, 1) := by decide +kernel
theorem d_method_4_89 : decode method_4_code 89 = .ok (.iconst 1, 1) := by decide +kernel
theorem d_method_4_90 : decode method_4_code 90 = .ok (.invokestatic 34, 3) := by decide +kernel
theorem d_method_4_93 : decode method_4_code 93 = .ok (.castore, 1) := by decide +kernel
theorem d_method_4_94 : decode method_4_code 94 = .ok (.dup, 1) := by decide +kernel
theorem d_method_4_95 : decode method_4_code 95 = .ok (.iconst 2, 1) := by decide +kernel
theorem d_method_4_96 : decode method_4_code 96 = .ok (.iload_n 1, 1) := by decide +kernel
theorem d_method_4_97 : decode method_4_code 97 = .ok (.iconst 2, 1) := by decide +kernel
theorem d_method_4_98 : decode method_4_code 98 = .ok (.invokestatic 34, 3) := by decide +kernel
theorem d_method_4_101 : decode method_4_code 101 = .ok (.castore, 1) := by decide +kernel
theorem d_method_4_102 : decode method_4_code 102 = .ok (.invokespecial 31, 3) := by decide +kernel
theorem d_method_4_105 : decode method_4_code 105 = .ok (.areturn, 1) := by decide +kernel
theorem pn_name : plainName "com/example/foretell/foretell/core/ModelValueEqualsPinLaw" = true := by first | (simp [plainName, overriddenIn]; done) | decide +kernel
theorem pd_name_0 : parseMethodDescriptor "([C)V" = some ⟨[(.array .char)], none⟩ := by decide +kernel
theorem pd_name_1 : parseMethodDescriptor "(II)C" = some ⟨[.int, .int], some .char⟩ := by decide +kernel
theorem ef_name (m : MethodId) (p1 : Int32) (p2 : Int32) : entryFrame m #[(.int p1), (.int p2)] 2 = (mkF m 0 #[.val (.int p1), .val (.int p2)] []) := by first | (simp [entryFrame, mkF, argsToLocals, Value.category]; done) | rfl
def Q_name (Z : State) (p1 : Int32) (p2 : Int32) (G1 : Int32) (h0 : Heap) (n0 : Nat) (v : Option Value) (vm : Vm) (h : Heap) (L : List Loc) : Prop := ∃ a b kB, v = some (.ref a) ∧ Fr n0 L ∧ Keep h0 h [] ∧ h0.size ≤ a ∧ Exa Z h a "java/lang/String" ∧ Fld Z h a "java/lang/String" "coder" "B" (.int (0 : Int32)) ∧ Fld Z h a "java/lang/String" "value" "[B" (.ref b) ∧ own_Ar Z h b kB p1 (own_ch p2 (0 : Int32)) (own_ch p2 (1 : Int32)) (own_ch p2 (2 : Int32)) ∧ own_L Z h vm
set_option maxRecDepth 65536 in
set_option maxHeartbeats 40000000 in
theorem rm_name (l : Launch) (Z : State) (a0 : Array Value) (hw : ∀ d ∈ tables_1, d.before a0 Z = true) (ws : List Jvm.Cond) (p1 : Int32) (p2 : Int32) (G1 : Int32) (h0 : Heap) (n0 : Nat) (O0 : Old Z n0 h0) (SC : Sta Z Z.heap "java/lang/String" "COMPACT_STRINGS" "Z" (.int G1)) (hG : ¬ G1 = (0 : Int32)) (hHC : Jvm.Lit.constHeld Z "java/lang/String" 7) (hCW : Jvm.Lit.compactW.before a0 Z = true) (hn : p1 = (0 : Int32) ∨ p1 = (1 : Int32) ∨ p1 = (2 : Int32) ∨ p1 = (3 : Int32)) :
    MetFree l (⟨"com/example/foretell/foretell/core/ModelValueEqualsPinLaw", "name", "(II)Ljava/lang/String;"⟩ : MethodName) (head1 (Jvm.Cond.code (⟨"com/example/foretell/foretell/core/ModelValueEqualsPinLaw", "name", "(II)Ljava/lang/String;"⟩ : MethodName) method_4_code 2 (some (.object "java/lang/String")) :: ws) ({ frames := 4, cells := 4, slots := 11, locals := 67 } : Room)) (fun a U => a = #[(.int p1), (.int p2)] ∧ Z.Warmed39 U.vm ∧ U.heap = h0 ∧ own_L Z h0 U.vm) (fun _ _ _ _ _ => True) (fun _ U o U' => ∃ v L, o = .returned v ∧ Q_name Z p1 p2 G1 h0 n0 v U'.vm U'.heap L ∧ ReturnedEndW U o U' L ({ frames := 4, cells := 4, slots := 11, locals := 67 } : Room).cells ({ frames := 4, cells := 4, slots := 11, locals := 67 } : Room).slots) := by
  refine MetFree.of_bodySF (plainFor_of_name pn_name) hisR ?_
  intro p e s m args below meth c s₁ Bd hml0 hP hK
  obtain ⟨rfl, hZ, hh, hPV⟩ := hP
  have hx := Bd.exec
  have hby := Bd.bytes
  have hml : c.maxLocals = 2 := hml0
  have hown : s.vm.findClass "com/example/foretell/foretell/core/ModelValueEqualsPinLaw" = some m.cls := findClass_of_methodNamed Bd.named
  have hnm := (name_of_methodNamed Bd.named Bd.method).1
  have X0 : Stand p l e ({ frames := 4, cells := 4, slots := 11, locals := 67 } : Room) (s.setVm s.vm) m #[(.int p1), (.int p2)] below meth c s₁ [] 0 0 := Stand.of_body Bd
  have e0 : s₁.heap = h0 := by rw [← hh, Bd.state]; rfl
  have N0 := Fr.nil n0
  have pre0 : ∀ t, Steps p.tables e below (s₁.setTop (mkF m 0 #[.val (.int p1), .val (.int p2)] [])) t → Steps p.tables e below (s₁.setTop (entryFrame m #[(.int p1), (.int p2)] 2)) t := fun t k => castTop (ef_name m p1 p2) k
  generalize s₁.setTop (entryFrame m #[(.int p1), (.int p2)] 2) = E0 at pre0 ⊢
  rcases hPV with I0 | ⟨aE, bE, kE, xE, vE, cE, AE, hL⟩
  · skip
    rcases hn with rfl | rfl | rfl | rfl
    · skip
      have pre_1 : ∀ t, Sp p e below s₁ (mkF m 4 #[.val (.int (0 : Int32)), .val (.int p2)] []) t → Steps p.tables e below E0 t := by
        intro t k
        refine pre0 t ?_
        show Sp p e below s₁ (mkF m 0 #[.val (.int (0 : Int32)), .val (.int p2)] []) _
        refine XS.iloadN X0.here hx rfl (hb hby d_method_4_0) rfl ?_
        refine XS.ifNo X0.here hx rfl (hb hby d_method_4_1) rfl (XT.i0_ne_f (by decide)) ?_
        exact k
      obtain ⟨T2, h2, X2, e2, E2, A2, D2, -, st2⟩ := newO X0 hx hZ hown (own_w hw 4 rfl) (own_w hw 5 rfl) (own_w hw 6 rfl) e0 (g := (mkF m 4 #[.val (.int (0 : Int32)), .val (.int p2)] [])) rfl (hb hby d_method_4_4) (by decide) (by decide)
      obtain ⟨b2, g2⟩ : ∃ z, z = h0.size := ⟨_, rfl⟩
      rw [← g2] at A2 D2 st2
      have O2 : Old Z n0 h2 := O0.ext E2
      have F3 : Fld Z h2 b2 "java/lang/String" "value" "[B" .null := D2 (Or.inr (own_w hw 20 rfl)) (ty := (.array .byte)) (by decide)
      have F4 : Fld Z h2 b2 "java/lang/String" "coder" "B" (.int (0 : Int32)) := D2 (Or.inr (own_w hw 21 rfl)) (ty := .byte) (by decide)
      have pre_5 : ∀ t, Sp p e below T2 (mkF m 7 #[.val (.int (0 : Int32)), .val (.int p2)] [(.ref b2)]) t → Steps p.tables e below E0 t := fun t k => pre_1 t (st2 t k)
      have pre_6 : ∀ t, Sp p e below T2 (mkF m 9 #[.val (.int (0 : Int32)), .val (.int p2)] [(.int (0 : Int32)), (.ref b2), (.ref b2)]) t → Steps p.tables e below E0 t := by
        intro t k
        refine pre_5 t ?_
        show Sp p e below T2 (mkF m 7 #[.val (.int (0 : Int32)), .val (.int p2)] [(.ref b2)]) _
        refine XS.dup X2.here hx rfl (hb hby d_method_4_7) rfl rfl ?_
        refine XS.iconst X2.here hx rfl (hb hby d_method_4_8) ?_
        show Sp p e below T2 (mkF m 9 #[.val (.int (0 : Int32)), .val (.int p2)] [(.int (0 : Int32)), (.ref b2), (.ref b2)]) _
        exact k
      obtain ⟨T7, h7, cA7, X7, e7, E7, A7, st7⟩ := newP X2 hx hZ (own_w hw 7 rfl) e2 (g := (mkF m 9 #[.val (.int (0 : Int32)), .val (.int p2)] [(.int (0 : Int32)), (.ref b2), (.ref b2)])) rfl (hb hby d_method_4_9) rfl (by decide) (cap := 0) (by decide) (by decide) (by decide) (by decide)
      obtain ⟨b7, g7⟩ : ∃ z, z = h2.size := ⟨_, rfl⟩
      rw [← g7] at A7 st7
      have O7 : Old Z n0 h7 := O2.ext E7
      have V7 : Arv Z h7 b7 cA7 .char (0 : Int32) [] (.int (0 : Int32)) := (Arv.new A7 (by decide)).pad (pad_rep [] _ 0)
      have pre_8 : ∀ t, Sp p e below T7 (mkF m 11 #[.val (.int (0 : Int32)), .val (.int p2)] [(.ref b7), (.ref b2), (.ref b2)]) t → Steps p.tables e below E0 t := fun t k => pre_6 t (st7 t k)
      obtain ⟨_, _, ⟨T9, L9, k9, n9⟩, -, Y9, hs9, hg9, ⟨Lc9, hQ9, l9, y9, z9⟩, st9⟩ := X7.specialBackS hx (y := (⟨"java/lang/String", "<init>", "([C)V"⟩ : MethodName)) rfl hown (mvT hZ (own_w hw 8 rfl)) (mvT hZ (own_w hw 9 rfl)) (mvT hZ (own_w hw 10 rfl)) (by decide) (own_backS (W := 1) (rm_str0A l Z a0 hw [] b2 b7 (.int (0 : Int32))  cA7 h7 n0 O7 (A2.ext E7) (F3.ext E7) (F4.ext E7) (Nat.le_trans (own_le O0) (Nat.le_of_eq g2.symm)) hHC hCW V7) hZ (own_w hw 10 rfl) (own_w hw 6 rfl) (by decide) (by decide) (fun _ q => own_IBw I0 q)) (g := (mkF m 11 #[.val (.int (0 : Int32)), .val (.int p2)] [(.ref b7), (.ref b2), (.ref b2)])) rfl (by rw [hml]; rfl) (Steps.refl _) (a := b2) (argsL := [(.ref b7)]) (rest := [(.ref b2)]) (lenOf pd_name_0 rfl) rfl (by show 2 * 0 + _ ≤ _; exact Nat.le_of_eq rfl) (hb hby d_method_4_11) (fun _ _ => ⟨rfl, e7, (by decide : 2 + 2 ≤ _), (by decide : 4 + 4 ≤ _)⟩)
      dsimp only [Pt.U, Pt.locs, Pt.cells, Pt.slots] at Y9 hs9 hg9 l9 y9 z9 st9 hQ9
      subst l9 y9 z9
      obtain ⟨X9, hS9, hZ9, ho9⟩ := rebS ((State.WarmedH.refl s).since 0) (by rw [e7]; exact (Nat.le_trans (Nat.zero_le _) (Nat.le_trans (Nat.le_trans (Nat.le_refl _) E2.1) E7.1))) Y9 hs9 hg9 hZ hown
      obtain ⟨rfl, N9q, K9, Fc9, aE9, bE9, kE9, Fv9, Ab9, xE9, vE9, cE9, hL9⟩ := hQ9
      have N9 := Fr.app N0 N9q
      have O9 : Old Z n0 T9.heap := O7.keep K9 (allS (Nat.le_trans (own_le O0) (Nat.le_of_eq g2.symm)) all0)
      have pre_10 : ∀ t, Sp p e below T9 (mkF m 14 #[.val (.int (0 : Int32)), .val (.int p2)] [(.ref b2)]) t → Steps p.tables e below E0 t := fun t k => pre_8 t (st9.trans k)
      obtain ⟨fs, hr, hrun, hended, hEnd⟩ := X9.leaveW hS9 (Nat.le_trans (Nat.le_refl _) (Nat.le_refl _)) (v := some (.ref b2)) (fun h => by rw [Bd.returns] at h; cases h)
      refine ⟨_, _, pre_10 _ ?_, hrun, hended, _, _, rfl, ?_, hEnd.1, hEnd.2.1, hEnd.2.2.1, hEnd.2.2.2.mono (by decide) (by decide)⟩
      · show Sp p e below T9 (mkF m 14 #[.val (.int (0 : Int32)), .val (.int p2)] [(.ref b2)]) _
        exact retOut X9 hx (t := (.object "java/lang/String")) Bd.returns rfl (Or.inr (Or.inr (Or.inr (Or.inr ⟨rfl, rfl, rfl⟩)))) (hb hby d_method_4_14) hr
      · show Q_name Z _ _ _ h0 n0 _ T9.vm T9.heap _
        exact ⟨b2, bE9, kE9, rfl, N9, ((((Keep.refl h0 []).ext E2).ext E7).trans K9 (allS (Or.inr (Nat.le_trans (Keep.refl h0 []).1 (Nat.le_of_eq g2.symm))) all0)), (Nat.le_trans (Keep.refl h0 []).1 (Nat.le_of_eq g2.symm)), ((A2.ext E7).keep K9), Fc9, Fv9, (Or.inl ⟨rfl, Ab9⟩), (Or.inr ⟨aE9, bE9, kE9, xE9, vE9, cE9, Ab9, (Lit.stays (hL9 : Lit (s.setVm T9.vm) "java/lang/String" 7 aE9) X9.warmed.wide)⟩)⟩
    · skip
      have pre_11 : ∀ t, Sp p e below s₁ (mkF m 20 #[.val (.int (1 : Int32)), .val (.int p2)] []) t → Steps p.tables e below E0 t := by
        intro t k
        refine pre0 t ?_
        show Sp p e below s₁ (mkF m 0 #[.val (.int (1 : Int32)), .val (.int p2)] []) _
        refine XS.iloadN X0.here hx rfl (hb hby d_method_4_0) rfl ?_
        refine XS.ifYes X0.here hx rfl (pc0 := 1) (pc' := 15) rfl (hb hby d_method_4_1) rfl (XT.i0_ne_t (by decide)) (by decide) (by decide) ?_
        refine XS.iloadN X0.here hx rfl (hb hby d_method_4_15) rfl ?_
        refine XS.iconst X0.here hx rfl (hb hby d_method_4_16) ?_
        show Sp p e below s₁ (mkF m 17 #[.val (.int (1 : Int32)), .val (.int p2)] [(.int (1 : Int32)), (.int (1 : Int32))]) _
        refine XS.icmpNo X0.here hx rfl (hb hby d_method_4_17) rfl (XT.ii_ne_f (by decide)) ?_
        exact k
      obtain ⟨T12, h12, X12, e12, E12, A12, D12, -, st12⟩ := newO X0 hx hZ hown (own_w hw 4 rfl) (own_w hw 5 rfl) (own_w hw 6 rfl) e0 (g := (mkF m 20 #[.val (.int (1 : Int32)), .val (.int p2)] [])) rfl (hb hby d_method_4_20) (by decide) (by decide)
      obtain ⟨b12, g12⟩ : ∃ z, z = h0.size := ⟨_, rfl⟩
      rw [← g12] at A12 D12 st12
      have O12 : Old Z n0 h12 := O0.ext E12
      have F13 : Fld Z h12 b12 "java/lang/String" "value" "[B" .null := D12 (Or.inr (own_w hw 20 rfl)) (ty := (.array .byte)) (by decide)
      have F14 : Fld Z h12 b12 "java/lang/String" "coder" "B" (.int (0 : Int32)) := D12 (Or.inr (own_w hw 21 rfl)) (ty := .byte) (by decide)
      have pre_15 : ∀ t, Sp p e below T12 (mkF m 23 #[.val (.int (1 : Int32)), .val (.int p2)] [(.ref b12)]) t → Steps p.tables e below E0 t := fun t k => pre_11 t (st12 t k)
      have pre_16 : ∀ t, Sp p e below T12 (mkF m 25 #[.val (.int (1 : Int32)), .val (.int p2)] [(.int (1 : Int32)), (.ref b12), (.ref b12)]) t → Steps p.tables e below E0 t := by
        intro t k
        refine pre_15 t ?_
        show Sp p e below T12 (mkF m 23 #[.val (.int (1 : Int32)), .val (.int p2)] [(.ref b12)]) _
        refine XS.dup X12.here hx rfl (hb hby d_method_4_23) rfl rfl ?_
        refine XS.iconst X12.here hx rfl (hb hby d_method_4_24) ?_
        exact k
      obtain ⟨T17, h17, cA17, X17, e17, E17, A17, st17⟩ := newP X12 hx hZ (own_w hw 7 rfl) e12 (g := (mkF m 25 #[.val (.int (1 : Int32)), .val (.int p2)] [(.int (1 : Int32)), (.ref b12), (.ref b12)])) rfl (hb hby d_method_4_25) rfl (by decide) (cap := 1) (by decide) (by decide) (by decide) (by decide)
      obtain ⟨b17, g17⟩ : ∃ z, z = h12.size := ⟨_, rfl⟩
      rw [← g17] at A17 st17
      have O17 : Old Z n0 h17 := O12.ext E17
      have V17 : Arv Z h17 b17 cA17 .char (1 : Int32) [(.int (0 : Int32))] (.int (0 : Int32)) := (Arv.new A17 (by decide)).pad (pad_rep [] _ 1)
      have pre_18 : ∀ t, Sp p e below T17 (mkF m 27 #[.val (.int (1 : Int32)), .val (.int p2)] [(.ref b17), (.ref b12), (.ref b12)]) t → Steps p.tables e below E0 t := fun t k => pre_16 t (st17 t k)
      have pre_19 : ∀ t, Sp p e below T17 (mkF m 31 #[.val (.int (1 : Int32)), .val (.int p2)] [(.int (0 : Int32)), (.int p2), (.int (0 : Int32)), (.ref b17), (.ref b17), (.ref b12), (.ref b12)]) t → Steps p.tables e below E0 t := by
        intro t k
        refine pre_18 t ?_
        show Sp p e below T17 (mkF m 27 #[.val (.int (1 : Int32)), .val (.int p2)] [(.ref b17), (.ref b12), (.ref b12)]) _
        refine XS.dup X17.here hx rfl (hb hby d_method_4_27) rfl rfl ?_
        show Sp p e below T17 (mkF m 28 #[.val (.int (1 : Int32)), .val (.int p2)] [(.ref b17), (.ref b17), (.ref b12), (.ref b12)]) _
        refine XS.iconst X17.here hx rfl (hb hby d_method_4_28) ?_
        refine XS.iloadN X17.here hx rfl (hb hby d_method_4_29) rfl ?_
        refine XS.iconst X17.here hx rfl (hb hby d_method_4_30) ?_
        exact k
      obtain ⟨_, _, ⟨T20, L20, k20, n20⟩, -, X20, ⟨Lc20, hQ20, l20, y20, z20⟩, st20⟩ := Jvm.LawKit.callS X17 hx (y := (⟨"com/example/foretell/foretell/core/ModelValueEqualsPinLaw", "ch", "(II)C"⟩ : MethodName)) hown (mvT hZ (own_w hw 26 rfl)) (mvT hZ (own_w hw 27 rfl)) (mvT hZ (own_w hw 2 rfl)) (mvT hZ (own_w hw 28 rfl)) (by decide) (backOf (W := 5) (rm_ch l Z a0 hw [] p2 (0 : Int32) h17 n0 O17) hZ (own_w hw 28 rfl) (own_w hw 2 rfl) (by decide) (by decide)) (g := (mkF m 31 #[.val (.int (1 : Int32)), .val (.int p2)] [(.int (0 : Int32)), (.int p2), (.int (0 : Int32)), (.ref b17), (.ref b17), (.ref b12), (.ref b12)])) rfl (by rw [hml]; rfl) (argsL := [(.int p2), (.int (0 : Int32))]) (rest := [(.int (0 : Int32)), (.ref b17), (.ref b17), (.ref b12), (.ref b12)]) (lenOf pd_name_1 rfl) rfl (by show 2 * 0 + _ ≤ _; exact Nat.le_of_eq rfl) (hb hby d_method_4_31) (fun _ _ => ⟨rfl, e17, (by decide : 2 + 0 ≤ _), (by decide : 5 + 0 ≤ _)⟩)
      dsimp only [Pt.U, Pt.locs, Pt.cells, Pt.slots] at X20 l20 y20 z20 st20 hQ20
      subst l20 y20 z20
      obtain ⟨rfl, N20q, e20⟩ := hQ20
      have N20 := Fr.app N0 N20q
      have pre_21 : ∀ t, Sp p e below T20 (mkF m 34 #[.val (.int (1 : Int32)), .val (.int p2)] [(.int (own_ch p2 (0 : Int32))), (.int (0 : Int32)), (.ref b17), (.ref b17), (.ref b12), (.ref b12)]) t → Steps p.tables e below E0 t := fun t k => pre_19 t (st20 t k)
      obtain ⟨cl22, Ar22, q22, S22, M22, H22, G22⟩ := id V17
      obtain ⟨T22, h22, X22, e22, W22, st22⟩ := stC X20 hx hZ e20 Ar22 (j := (0 : Int32)) (inb_of S22 (by decide)) (g := (mkF m 34 #[.val (.int (1 : Int32)), .val (.int p2)] [(.int (own_ch p2 (0 : Int32))), (.int (0 : Int32)), (.ref b17), (.ref b17), (.ref b12), (.ref b12)])) rfl rfl (hb hby d_method_4_34)
      have N22 := Fr.snoc X22 N20 (Nat.le_trans (own_le O12) (Nat.le_of_eq g17.symm))
      have O22 : Old Z n0 h22 := O17.wr W22 (Nat.le_trans (own_le O12) (Nat.le_of_eq g17.symm))
      rw [(own_chr p2 (0 : Int32)).1] at W22
      have V22 : Arv Z h22 b17 cA17 .char (1 : Int32) [(.int (own_ch p2 (0 : Int32)))] (.int (0 : Int32)) := Arv.set Ar22 q22 S22 M22 H22 G22 (by rw [← (own_chr p2 (0 : Int32)).1]; exact (fits_nar_char _)) W22 0 rfl (Nat.le_of_ble_eq_true rfl)
      have pre_23 : ∀ t, Sp p e below T22 (mkF m 35 #[.val (.int (1 : Int32)), .val (.int p2)] [(.ref b17), (.ref b12), (.ref b12)]) t → Steps p.tables e below E0 t := fun t k => pre_21 t (st22 t k)
      obtain ⟨_, _, ⟨T24, L24, k24, n24⟩, -, X24, ⟨Lc24, hQ24, l24, y24, z24⟩, st24⟩ := X22.specialBack hx (y := (⟨"java/lang/String", "<init>", "([C)V"⟩ : MethodName)) rfl hown (mvT hZ (own_w hw 8 rfl)) (mvT hZ (own_w hw 9 rfl)) (mvT hZ (own_w hw 10 rfl)) (by decide) (backOf (W := 1) (rm_str1 l Z a0 hw [] b12 b17 .null (.int (0 : Int32)) G1 cA17 (own_ch p2 (0 : Int32)) h22 n0 O22 ((A12.ext E17).wr W22) ((F13.ext E17).other W22 (Or.inl (Nat.ne_of_lt (Nat.lt_of_lt_of_le A12.lt (Nat.le_of_eq g17.symm))))) ((F14.ext E17).other W22 (Or.inl (Nat.ne_of_lt (Nat.lt_of_lt_of_le A12.lt (Nat.le_of_eq g17.symm))))) (Nat.le_trans (own_le O0) (Nat.le_of_eq g12.symm)) SC hG V22 (own_chr p2 (0 : Int32)).2.1) hZ (own_w hw 10 rfl) (own_w hw 6 rfl) (by decide) (by decide)) (g := (mkF m 35 #[.val (.int (1 : Int32)), .val (.int p2)] [(.ref b17), (.ref b12), (.ref b12)])) rfl (by rw [hml]; rfl) (Steps.refl _) (a := b12) (argsL := [(.ref b17)]) (rest := [(.ref b12)]) (lenOf pd_name_0 rfl) rfl (by show 2 * 0 + _ ≤ _; exact Nat.le_of_eq rfl) (hb hby d_method_4_35) (fun _ _ => ⟨rfl, e22, (by decide : 2 + 1 ≤ _), (by decide : 5 + 1 ≤ _)⟩)
      dsimp only [Pt.U, Pt.locs, Pt.cells, Pt.slots] at X24 l24 y24 z24 st24 hQ24
      subst l24 y24 z24
      obtain ⟨rfl, N24q, K24, Fc24, b24, kB24, sb24, Fv24, Vb24⟩ := hQ24
      have N24 := Fr.app N22 N24q
      have O24 : Old Z n0 T24.heap := O22.keep K24 (allS (Nat.le_trans (own_le O0) (Nat.le_of_eq g12.symm)) all0)
      have pre_25 : ∀ t, Sp p e below T24 (mkF m 38 #[.val (.int (1 : Int32)), .val (.int p2)] [(.ref b12)]) t → Steps p.tables e below E0 t := fun t k => pre_23 t (st24.trans k)
      obtain ⟨fs, hr, hrun, hended, hEnd⟩ := X24.leaveW ((State.WarmedH.refl s).since 0) (Nat.le_trans (Nat.zero_le _) (Nat.le_trans (Nat.le_trans (Nat.le_trans (Nat.le_trans (Nat.le_refl _) E12.1) E17.1) (Nat.le_of_eq W22.size.symm)) K24.1)) (v := some (.ref b12)) (fun h => by rw [Bd.returns] at h; cases h)
      refine ⟨_, _, pre_25 _ ?_, hrun, hended, _, _, rfl, ?_, hEnd.1, hEnd.2.1, hEnd.2.2.1, hEnd.2.2.2.mono (by decide) (by decide)⟩
      · show Sp p e below T24 (mkF m 38 #[.val (.int (1 : Int32)), .val (.int p2)] [(.ref b12)]) _
        exact retOut X24 hx (t := (.object "java/lang/String")) Bd.returns rfl (Or.inr (Or.inr (Or.inr (Or.inr ⟨rfl, rfl, rfl⟩)))) (hb hby d_method_4_38) hr
      · show Q_name Z _ _ _ h0 n0 _ T24.vm T24.heap _
        exact ⟨b12, b24, kB24, rfl, N24, (((((Keep.refl h0 []).ext E12).ext E17).wr W22 (Or.inr (Nat.le_trans ((Keep.refl h0 []).ext E12).1 (Nat.le_of_eq g17.symm)))).trans K24 (allS (Or.inr (Nat.le_trans (Keep.refl h0 []).1 (Nat.le_of_eq g12.symm))) all0)), (Nat.le_trans (Keep.refl h0 []).1 (Nat.le_of_eq g12.symm)), (((A12.ext E17).wr W22).keep K24), Fc24, Fv24, (Or.inr (Or.inl ⟨rfl, Vb24⟩)), (Or.inl (own_IBw I0 X24.warmed))⟩
    · skip
      have pre_26 : ∀ t, Sp p e below s₁ (mkF m 44 #[.val (.int (2 : Int32)), .val (.int p2)] []) t → Steps p.tables e below E0 t := by
        intro t k
        refine pre0 t ?_
        show Sp p e below s₁ (mkF m 0 #[.val (.int (2 : Int32)), .val (.int p2)] []) _
        refine XS.iloadN X0.here hx rfl (hb hby d_method_4_0) rfl ?_
        refine XS.ifYes X0.here hx rfl (pc0 := 1) (pc' := 15) rfl (hb hby d_method_4_1) rfl (XT.i0_ne_t (by decide)) (by decide) (by decide) ?_
        refine XS.iloadN X0.here hx rfl (hb hby d_method_4_15) rfl ?_
        refine XS.iconst X0.here hx rfl (hb hby d_method_4_16) ?_
        show Sp p e below s₁ (mkF m 17 #[.val (.int (2 : Int32)), .val (.int p2)] [(.int (1 : Int32)), (.int (2 : Int32))]) _
        refine XS.icmpYes X0.here hx rfl (pc0 := 17) (pc' := 39) rfl (hb hby d_method_4_17) rfl (XT.ii_ne_t (by decide)) (by decide) (by decide) ?_
        refine XS.iloadN X0.here hx rfl (hb hby d_method_4_39) rfl ?_
        refine XS.iconst X0.here hx rfl (hb hby d_method_4_40) ?_
        refine XS.icmpNo X0.here hx rfl (hb hby d_method_4_41) rfl (XT.ii_ne_f (by decide)) ?_
        show Sp p e below s₁ (mkF m 44 #[.val (.int (2 : Int32)), .val (.int p2)] []) _
        exact k
      obtain ⟨T27, h27, X27, e27, E27, A27, D27, -, st27⟩ := newO X0 hx hZ hown (own_w hw 4 rfl) (own_w hw 5 rfl) (own_w hw 6 rfl) e0 (g := (mkF m 44 #[.val (.int (2 : Int32)), .val (.int p2)] [])) rfl (hb hby d_method_4_44) (by decide) (by decide)
      obtain ⟨b27, g27⟩ : ∃ z, z = h0.size := ⟨_, rfl⟩
      rw [← g27] at A27 D27 st27
      have O27 : Old Z n0 h27 := O0.ext E27
      have F28 : Fld Z h27 b27 "java/lang/String" "value" "[B" .null := D27 (Or.inr (own_w hw 20 rfl)) (ty := (.array .byte)) (by decide)
      have F29 : Fld Z h27 b27 "java/lang/String" "coder" "B" (.int (0 : Int32)) := D27 (Or.inr (own_w hw 21 rfl)) (ty := .byte) (by decide)
      have pre_30 : ∀ t, Sp p e below T27 (mkF m 47 #[.val (.int (2 : Int32)), .val (.int p2)] [(.ref b27)]) t → Steps p.tables e below E0 t := fun t k => pre_26 t (st27 t k)
      have pre_31 : ∀ t, Sp p e below T27 (mkF m 49 #[.val (.int (2 : Int32)), .val (.int p2)] [(.int (2 : Int32)), (.ref b27), (.ref b27)]) t → Steps p.tables e below E0 t := by
        intro t k
        refine pre_30 t ?_
        show Sp p e below T27 (mkF m 47 #[.val (.int (2 : Int32)), .val (.int p2)] [(.ref b27)]) _
        refine XS.dup X27.here hx rfl (hb hby d_method_4_47) rfl rfl ?_
        refine XS.iconst X27.here hx rfl (hb hby d_method_4_48) ?_
        exact k
      obtain ⟨T32, h32, cA32, X32, e32, E32, A32, st32⟩ := newP X27 hx hZ (own_w hw 7 rfl) e27 (g := (mkF m 49 #[.val (.int (2 : Int32)), .val (.int p2)] [(.int (2 : Int32)), (.ref b27), (.ref b27)])) rfl (hb hby d_method_4_49) rfl (by decide) (cap := 2) (by decide) (by decide) (by decide) (by decide)
      obtain ⟨b32, g32⟩ : ∃ z, z = h27.size := ⟨_, rfl⟩
      rw [← g32] at A32 st32
      have O32 : Old Z n0 h32 := O27.ext E32
      have V32 : Arv Z h32 b32 cA32 .char (2 : Int32) [(.int (0 : Int32)), (.int (0 : Int32))] (.int (0 : Int32)) := (Arv.new A32 (by decide)).pad (pad_rep [] _ 2)
      have pre_33 : ∀ t, Sp p e below T32 (mkF m 51 #[.val (.int (2 : Int32)), .val (.int p2)] [(.ref b32), (.ref b27), (.ref b27)]) t → Steps p.tables e below E0 t := fun t k => pre_31 t (st32 t k)
      have pre_34 : ∀ t, Sp p e below T32 (mkF m 55 #[.val (.int (2 : Int32)), .val (.int p2)] [(.int (0 : Int32)), (.int p2), (.int (0 : Int32)), (.ref b32), (.ref b32), (.ref b27), (.ref b27)]) t → Steps p.tables e below E0 t := by
        intro t k
        refine pre_33 t ?_
        show Sp p e below T32 (mkF m 51 #[.val (.int (2 : Int32)), .val (.int p2)] [(.ref b32), (.ref b27), (.ref b27)]) _
        refine XS.dup X32.here hx rfl (hb hby d_method_4_51) rfl rfl ?_
        refine XS.iconst X32.here hx rfl (hb hby d_method_4_52) ?_
        show Sp p e below T32 (mkF m 53 #[.val (.int (2 : Int32)), .val (.int p2)] [(.int (0 : Int32)), (.ref b32), (.ref b32), (.ref b27), (.ref b27)]) _
        refine XS.iloadN X32.here hx rfl (hb hby d_method_4_53) rfl ?_
        refine XS.iconst X32.here hx rfl (hb hby d_method_4_54) ?_
        exact k
      obtain ⟨_, _, ⟨T35, L35, k35, n35⟩, -, X35, ⟨Lc35, hQ35, l35, y35, z35⟩, st35⟩ := Jvm.LawKit.callS X32 hx (y := (⟨"com/example/foretell/foretell/core/ModelValueEqualsPinLaw", "ch", "(II)C"⟩ : MethodName)) hown (mvT hZ (own_w hw 26 rfl)) (mvT hZ (own_w hw 27 rfl)) (mvT hZ (own_w hw 2 rfl)) (mvT hZ (own_w hw 28 rfl)) (by decide) (backOf (W := 5) (rm_ch l Z a0 hw [] p2 (0 : Int32) h32 n0 O32) hZ (own_w hw 28 rfl) (own_w hw 2 rfl) (by decide) (by decide)) (g := (mkF m 55 #[.val (.int (2 : Int32)), .val (.int p2)] [(.int (0 : Int32)), (.int p2), (.int (0 : Int32)), (.ref b32), (.ref b32), (.ref b27), (.ref b27)])) rfl (by rw [hml]; rfl) (argsL := [(.int p2), (.int (0 : Int32))]) (rest := [(.int (0 : Int32)), (.ref b32), (.ref b32), (.ref b27), (.ref b27)]) (lenOf pd_name_1 rfl) rfl (by show 2 * 0 + _ ≤ _; exact Nat.le_of_eq rfl) (hb hby d_method_4_55) (fun _ _ => ⟨rfl, e32, (by decide : 2 + 0 ≤ _), (by decide : 6 + 0 ≤ _)⟩)
      dsimp only [Pt.U, Pt.locs, Pt.cells, Pt.slots] at X35 l35 y35 z35 st35 hQ35
      subst l35 y35 z35
      obtain ⟨rfl, N35q, e35⟩ := hQ35
      have N35 := Fr.app N0 N35q
      have pre_36 : ∀ t, Sp p e below T35 (mkF m 58 #[.val (.int (2 : Int32)), .val (.int p2)] [(.int (own_ch p2 (0 : Int32))), (.int (0 : Int32)), (.ref b32), (.ref b32), (.ref b27), (.ref b27)]) t → Steps p.tables e below E0 t := fun t k => pre_34 t (st35 t k)
      obtain ⟨cl37, Ar37, q37, S37, M37, H37, G37⟩ := id V32
      obtain ⟨T37, h37, X37, e37, W37, st37⟩ := stC X35 hx hZ e35 Ar37 (j := (0 : Int32)) (inb_of S37 (by decide)) (g := (mkF m 58 #[.val (.int (2 : Int32)), .val (.int p2)] [(.int (own_ch p2 (0 : Int32))), (.int (0 : Int32)), (.ref b32), (.ref b32), (.ref b27), (.ref b27)])) rfl rfl (hb hby d_method_4_58)
      have N37 := Fr.snoc X37 N35 (Nat.le_trans (own_le O27) (Nat.le_of_eq g32.symm))
      have O37 : Old Z n0 h37 := O32.wr W37 (Nat.le_trans (own_le O27) (Nat.le_of_eq g32.symm))
      rw [(own_chr p2 (0 : Int32)).1] at W37
      have V37 : Arv Z h37 b32 cA32 .char (2 : Int32) [(.int (own_ch p2 (0 : Int32))), (.int (0 : Int32))] (.int (0 : Int32)) := Arv.set Ar37 q37 S37 M37 H37 G37 (by rw [← (own_chr p2 (0 : Int32)).1]; exact (fits_nar_char _)) W37 0 rfl (Nat.le_of_ble_eq_true rfl)
      have pre_38 : ∀ t, Sp p e below T37 (mkF m 59 #[.val (.int (2 : Int32)), .val (.int p2)] [(.ref b32), (.ref b27), (.ref b27)]) t → Steps p.tables e below E0 t := fun t k => pre_36 t (st37 t k)
      have pre_39 : ∀ t, Sp p e below T37 (mkF m 63 #[.val (.int (2 : Int32)), .val (.int p2)] [(.int (1 : Int32)), (.int p2), (.int (1 : Int32)), (.ref b32), (.ref b32), (.ref b27), (.ref b27)]) t → Steps p.tables e below E0 t := by
        intro t k
        refine pre_38 t ?_
        show Sp p e below T37 (mkF m 59 #[.val (.int (2 : Int32)), .val (.int p2)] [(.ref b32), (.ref b27), (.ref b27)]) _
        refine XS.dup X37.here hx rfl (hb hby d_method_4_59) rfl rfl ?_
        refine XS.iconst X37.here hx rfl (hb hby d_method_4_60) ?_
        show Sp p e below T37 (mkF m 61 #[.val (.int (2 : Int32)), .val (.int p2)] [(.int (1 : Int32)), (.ref b32), (.ref b32), (.ref b27), (.ref b27)]) _
        refine XS.iloadN X37.here hx rfl (hb hby d_method_4_61) rfl ?_
        refine XS.iconst X37.here hx rfl (hb hby d_method_4_62) ?_
        exact k
      obtain ⟨_, _, ⟨T40, L40, k40, n40⟩, -, X40, ⟨Lc40, hQ40, l40, y40, z40⟩, st40⟩ := Jvm.LawKit.callS X37 hx (y := (⟨"com/example/foretell/foretell/core/ModelValueEqualsPinLaw", "ch", "(II)C"⟩ : MethodName)) hown (mvT hZ (own_w hw 26 rfl)) (mvT hZ (own_w hw 27 rfl)) (mvT hZ (own_w hw 2 rfl)) (mvT hZ (own_w hw 28 rfl)) (by decide) (backOf (W := 5) (rm_ch l Z a0 hw [] p2 (1 : Int32) h37 n0 O37) hZ (own_w hw 28 rfl) (own_w hw 2 rfl) (by decide) (by decide)) (g := (mkF m 63 #[.val (.int (2 : Int32)), .val (.int p2)] [(.int (1 : Int32)), (.int p2), (.int (1 : Int32)), (.ref b32), (.ref b32), (.ref b27), (.ref b27)])) rfl (by rw [hml]; rfl) (argsL := [(.int p2), (.int (1 : Int32))]) (rest := [(.int (1 : Int32)), (.ref b32), (.ref b32), (.ref b27), (.ref b27)]) (lenOf pd_name_1 rfl) rfl (by show 2 * 0 + _ ≤ _; exact Nat.le_of_eq rfl) (hb hby d_method_4_63) (fun _ _ => ⟨rfl, e37, (by decide : 2 + 0 ≤ _), (by decide : 6 + 0 ≤ _)⟩)
      dsimp only [Pt.U, Pt.locs, Pt.cells, Pt.slots] at X40 l40 y40 z40 st40 hQ40
      subst l40 y40 z40
      obtain ⟨rfl, N40q, e40⟩ := hQ40
      have N40 := Fr.app N37 N40q
      have pre_41 : ∀ t, Sp p e below T40 (mkF m 66 #[.val (.int (2 : Int32)), .val (.int p2)] [(.int (own_ch p2 (1 : Int32))), (.int (1 : Int32)), (.ref b32), (.ref b32), (.ref b27), (.ref b27)]) t → Steps p.tables e below E0 t := fun t k => pre_39 t (st40 t k)
      obtain ⟨cl42, Ar42, q42, S42, M42, H42, G42⟩ := id V37
      obtain ⟨T42, h42, X42, e42, W42, st42⟩ := stC X40 hx hZ e40 Ar42 (j := (1 : Int32)) (inb_of S42 (by decide)) (g := (mkF m 66 #[.val (.int (2 : Int32)), .val (.int p2)] [(.int (own_ch p2 (1 : Int32))), (.int (1 : Int32)), (.ref b32), (.ref b32), (.ref b27), (.ref b27)])) rfl rfl (hb hby d_method_4_66)
      have N42 := Fr.snoc X42 N40 (Nat.le_trans (own_le O27) (Nat.le_of_eq g32.symm))
      have O42 : Old Z n0 h42 := O37.wr W42 (Nat.le_trans (own_le O27) (Nat.le_of_eq g32.symm))
      rw [(own_chr p2 (1 : Int32)).1] at W42
      have V42 : Arv Z h42 b32 cA32 .char (2 : Int32) [(.int (own_ch p2 (0 : Int32))), (.int (own_ch p2 (1 : Int32)))] (.int (0 : Int32)) := Arv.set Ar42 q42 S42 M42 H42 G42 (by rw [← (own_chr p2 (1 : Int32)).1]; exact (fits_nar_char _)) W42 1 rfl (Nat.le_of_ble_eq_true rfl)
      have pre_43 : ∀ t, Sp p e below T42 (mkF m 67 #[.val (.int (2 : Int32)), .val (.int p2)] [(.ref b32), (.ref b27), (.ref b27)]) t → Steps p.tables e below E0 t := fun t k => pre_41 t (st42 t k)
      obtain ⟨_, _, ⟨T44, L44, k44, n44⟩, -, X44, ⟨Lc44, hQ44, l44, y44, z44⟩, st44⟩ := X42.specialBack hx (y := (⟨"java/lang/String", "<init>", "([C)V"⟩ : MethodName)) rfl hown (mvT hZ (own_w hw 8 rfl)) (mvT hZ (own_w hw 9 rfl)) (mvT hZ (own_w hw 10 rfl)) (by decide) (backOf (W := 1) (rm_str2 l Z a0 hw [] b27 b32 .null (.int (0 : Int32)) G1 cA32 (own_ch p2 (0 : Int32)) (own_ch p2 (1 : Int32)) h42 n0 O42 (((A27.ext E32).wr W37).wr W42) (((F28.ext E32).other W37 (Or.inl (Nat.ne_of_lt (Nat.lt_of_lt_of_le A27.lt (Nat.le_of_eq g32.symm))))).other W42 (Or.inl (Nat.ne_of_lt (Nat.lt_of_lt_of_le A27.lt (Nat.le_of_eq g32.symm))))) (((F29.ext E32).other W37 (Or.inl (Nat.ne_of_lt (Nat.lt_of_lt_of_le A27.lt (Nat.le_of_eq g32.symm))))).other W42 (Or.inl (Nat.ne_of_lt (Nat.lt_of_lt_of_le A27.lt (Nat.le_of_eq g32.symm))))) (Nat.le_trans (own_le O0) (Nat.le_of_eq g27.symm)) SC hG V42 (own_chr p2 (0 : Int32)).2.1 (own_chr p2 (1 : Int32)).2.1) hZ (own_w hw 10 rfl) (own_w hw 6 rfl) (by decide) (by decide)) (g := (mkF m 67 #[.val (.int (2 : Int32)), .val (.int p2)] [(.ref b32), (.ref b27), (.ref b27)])) rfl (by rw [hml]; rfl) (Steps.refl _) (a := b27) (argsL := [(.ref b32)]) (rest := [(.ref b27)]) (lenOf pd_name_0 rfl) rfl (by show 2 * 0 + _ ≤ _; exact Nat.le_of_eq rfl) (hb hby d_method_4_67) (fun _ _ => ⟨rfl, e42, (by decide : 2 + 1 ≤ _), (by decide : 6 + 2 ≤ _)⟩)
      dsimp only [Pt.U, Pt.locs, Pt.cells, Pt.slots] at X44 l44 y44 z44 st44 hQ44
      subst l44 y44 z44
      obtain ⟨rfl, N44q, K44, Fc44, b44, kB44, sb44, Fv44, Vb44⟩ := hQ44
      have N44 := Fr.app N42 N44q
      have O44 : Old Z n0 T44.heap := O42.keep K44 (allS (Nat.le_trans (own_le O0) (Nat.le_of_eq g27.symm)) all0)
      have pre_45 : ∀ t, Sp p e below T44 (mkF m 70 #[.val (.int (2 : Int32)), .val (.int p2)] [(.ref b27)]) t → Steps p.tables e below E0 t := fun t k => pre_43 t (st44.trans k)
      obtain ⟨fs, hr, hrun, hended, hEnd⟩ := X44.leaveW ((State.WarmedH.refl s).since 0) (Nat.le_trans (Nat.zero_le _) (Nat.le_trans (Nat.le_trans (Nat.le_trans (Nat.le_trans (Nat.le_trans (Nat.le_refl _) E27.1) E32.1) (Nat.le_of_eq W37.size.symm)) (Nat.le_of_eq W42.size.symm)) K44.1)) (v := some (.ref b27)) (fun h => by rw [Bd.returns] at h; cases h)
      refine ⟨_, _, pre_45 _ ?_, hrun, hended, _, _, rfl, ?_, hEnd.1, hEnd.2.1, hEnd.2.2.1, hEnd.2.2.2.mono (by decide) (by decide)⟩
      · show Sp p e below T44 (mkF m 70 #[.val (.int (2 : Int32)), .val (.int p2)] [(.ref b27)]) _
        exact retOut X44 hx (t := (.object "java/lang/String")) Bd.returns rfl (Or.inr (Or.inr (Or.inr (Or.inr ⟨rfl, rfl, rfl⟩)))) (hb hby d_method_4_70) hr
      · show Q_name Z _ _ _ h0 n0 _ T44.vm T44.heap _
        exact ⟨b27, b44, kB44, rfl, N44, ((((((Keep.refl h0 []).ext E27).ext E32).wr W37 (Or.inr (Nat.le_trans ((Keep.refl h0 []).ext E27).1 (Nat.le_of_eq g32.symm)))).wr W42 (Or.inr (Nat.le_trans ((Keep.refl h0 []).ext E27).1 (Nat.le_of_eq g32.symm)))).trans K44 (allS (Or.inr (Nat.le_trans (Keep.refl h0 []).1 (Nat.le_of_eq g27.symm))) all0)), (Nat.le_trans (Keep.refl h0 []).1 (Nat.le_of_eq g27.symm)), ((((A27.ext E32).wr W37).wr W42).keep K44), Fc44, Fv44, (Or.inr (Or.inr (Or.inl ⟨rfl, Vb44⟩))), (Or.inl (own_IBw I0 X44.warmed))⟩
    · skip
      have pre_46 : ∀ t, Sp p e below s₁ (mkF m 71 #[.val (.int (3 : Int32)), .val (.int p2)] []) t → Steps p.tables e below E0 t := by
        intro t k
        refine pre0 t ?_
        show Sp p e below s₁ (mkF m 0 #[.val (.int (3 : Int32)), .val (.int p2)] []) _
        refine XS.iloadN X0.here hx rfl (hb hby d_method_4_0) rfl ?_
        refine XS.ifYes X0.here hx rfl (pc0 := 1) (pc' := 15) rfl (hb hby d_method_4_1) rfl (XT.i0_ne_t (by decide)) (by decide) (by decide) ?_
        refine XS.iloadN X0.here hx rfl (hb hby d_method_4_15) rfl ?_
        refine XS.iconst X0.here hx rfl (hb hby d_method_4_16) ?_
        show Sp p e below s₁ (mkF m 17 #[.val (.int (3 : Int32)), .val (.int p2)] [(.int (1 : Int32)), (.int (3 : Int32))]) _
        refine XS.icmpYes X0.here hx rfl (pc0 := 17) (pc' := 39) rfl (hb hby d_method_4_17) rfl (XT.ii_ne_t (by decide)) (by decide) (by decide) ?_
        refine XS.iloadN X0.here hx rfl (hb hby d_method_4_39) rfl ?_
        refine XS.iconst X0.here hx rfl (hb hby d_method_4_40) ?_
        refine XS.icmpYes X0.here hx rfl (pc0 := 41) (pc' := 71) rfl (hb hby d_method_4_41) rfl (XT.ii_ne_t (by decide)) (by decide) (by decide) ?_
        show Sp p e below s₁ (mkF m 71 #[.val (.int (3 : Int32)), .val (.int p2)] []) _
        exact k
      obtain ⟨T47, h47, X47, e47, E47, A47, D47, -, st47⟩ := newO X0 hx hZ hown (own_w hw 4 rfl) (own_w hw 5 rfl) (own_w hw 6 rfl) e0 (g := (mkF m 71 #[.val (.int (3 : Int32)), .val (.int p2)] [])) rfl (hb hby d_method_4_71) (by decide) (by decide)
      obtain ⟨b47, g47⟩ : ∃ z, z = h0.size := ⟨_, rfl⟩
      rw [← g47] at A47 D47 st47
      have O47 : Old Z n0 h47 := O0.ext E47
      have F48 : Fld Z h47 b47 "java/lang/String" "value" "[B" .null := D47 (Or.inr (own_w hw 20 rfl)) (ty := (.array .byte)) (by decide)
      have F49 : Fld Z h47 b47 "java/lang/String" "coder" "B" (.int (0 : Int32)) := D47 (Or.inr (own_w hw 21 rfl)) (ty := .byte) (by decide)
      have pre_50 : ∀ t, Sp p e below T47 (mkF m 74 #[.val (.int (3 : Int32)), .val (.int p2)] [(.ref b47)]) t → Steps p.tables e below E0 t := fun t k => pre_46 t (st47 t k)
      have pre_51 : ∀ t, Sp p e below T47 (mkF m 76 #[.val (.int (3 : Int32)), .val (.int p2)] [(.int (3 : Int32)), (.ref b47), (.ref b47)]) t → Steps p.tables e below E0 t := by
        intro t k
        refine pre_50 t ?_
        show Sp p e below T47 (mkF m 74 #[.val (.int (3 : Int32)), .val (.int p2)] [(.ref b47)]) _
        refine XS.dup X47.here hx rfl (hb hby d_method_4_74) rfl rfl ?_
        refine XS.iconst X47.here hx rfl (hb hby d_method_4_75) ?_
        exact k
      obtain ⟨T52, h52, cA52, X52, e52, E52, A52, st52⟩ := newP X47 hx hZ (own_w hw 7 rfl) e47 (g := (mkF m 76 #[.val (.int (3 : Int32)), .val (.int p2)] [(.int (3 : Int32)), (.ref b47), (.ref b47)])) rfl (hb hby d_method_4_76) rfl (by decide) (cap := 3) (by decide) (by decide) (by decide) (by decide)
      obtain ⟨b52, g52⟩ : ∃ z, z = h47.size := ⟨_, rfl⟩
      rw [← g52] at A52 st52
      have O52 : Old Z n0 h52 := O47.ext E52
      have V52 : Arv Z h52 b52 cA52 .char (3 : Int32) [(.int (0 : Int32)), (.int (0 : Int32)), (.int (0 : Int32))] (.int (0 : Int32)) := (Arv.new A52 (by decide)).pad (pad_rep [] _ 3)
      have pre_53 : ∀ t, Sp p e below T52 (mkF m 78 #[.val (.int (3 : Int32)), .val (.int p2)] [(.ref b52), (.ref b47), (.ref b47)]) t → Steps p.tables e below E0 t := fun t k => pre_51 t (st52 t k)
      have pre_54 : ∀ t, Sp p e below T52 (mkF m 82 #[.val (.int (3 : Int32)), .val (.int p2)] [(.int (0 : Int32)), (.int p2), (.int (0 : Int32)), (.ref b52), (.ref b52), (.ref b47), (.ref b47)]) t → Steps p.tables e below E0 t := by
        intro t k
        refine pre_53 t ?_
        show Sp p e below T52 (mkF m 78 #[.val (.int (3 : Int32)), .val (.int p2)] [(.ref b52), (.ref b47), (.ref b47)]) _
        refine XS.dup X52.here hx rfl (hb hby d_method_4_78) rfl rfl ?_
        refine XS.iconst X52.here hx rfl (hb hby d_method_4_79) ?_
        show Sp p e below T52 (mkF m 80 #[.val (.int (3 : Int32)), .val (.int p2)] [(.int (0 : Int32)), (.ref b52), (.ref b52), (.ref b47), (.ref b47)]) _
        refine XS.iloadN X52.here hx rfl (hb hby d_method_4_80) rfl ?_
        refine XS.iconst X52.here hx rfl (hb hby d_method_4_81) ?_
        exact k
      obtain ⟨_, _, ⟨T55, L55, k55, n55⟩, -, X55, ⟨Lc55, hQ55, l55, y55, z55⟩, st55⟩ := Jvm.LawKit.callS X52 hx (y := (⟨"com/example/foretell/foretell/core/ModelValueEqualsPinLaw", "ch", "(II)C"⟩ : MethodName)) hown (mvT hZ (own_w hw 26 rfl)) (mvT hZ (own_w hw 27 rfl)) (mvT hZ (own_w hw 2 rfl)) (mvT hZ (own_w hw 28 rfl)) (by decide) (backOf (W := 5) (rm_ch l Z a0 hw [] p2 (0 : Int32) h52 n0 O52) hZ (own_w hw 28 rfl) (own_w hw 2 rfl) (by decide) (by decide)) (g := (mkF m 82 #[.val (.int (3 : Int32)), .val (.int p2)] [(.int (0 : Int32)), (.int p2), (.int (0 : Int32)), (.ref b52), (.ref b52), (.ref b47), (.ref b47)])) rfl (by rw [hml]; rfl) (argsL := [(.int p2), (.int (0 : Int32))]) (rest := [(.int (0 : Int32)), (.ref b52), (.ref b52), (.ref b47), (.ref b47)]) (lenOf pd_name_1 rfl) rfl (by show 2 * 0 + _ ≤ _; exact Nat.le_of_eq rfl) (hb hby d_method_4_82) (fun _ _ => ⟨rfl, e52, (by decide : 2 + 0 ≤ _), (by decide : 7 + 0 ≤ _)⟩)
      dsimp only [Pt.U, Pt.locs, Pt.cells, Pt.slots] at X55 l55 y55 z55 st55 hQ55
      subst l55 y55 z55
      obtain ⟨rfl, N55q, e55⟩ := hQ55
      have N55 := Fr.app N0 N55q
      have pre_56 : ∀ t, Sp p e below T55 (mkF m 85 #[.val (.int (3 : Int32)), .val (.int p2)] [(.int (own_ch p2 (0 : Int32))), (.int (0 : Int32)), (.ref b52), (.ref b52), (.ref b47), (.ref b47)]) t → Steps p.tables e below E0 t := fun t k => pre_54 t (st55 t k)
      obtain ⟨cl57, Ar57, q57, S57, M57, H57, G57⟩ := id V52
      obtain ⟨T57, h57, X57, e57, W57, st57⟩ := stC X55 hx hZ e55 Ar57 (j := (0 : Int32)) (inb_of S57 (by decide)) (g := (mkF m 85 #[.val (.int (3 : Int32)), .val (.int p2)] [(.int (own_ch p2 (0 : Int32))), (.int (0 : Int32)), (.ref b52), (.ref b52), (.ref b47), (.ref b47)])) rfl rfl (hb hby d_method_4_85)
      have N57 := Fr.snoc X57 N55 (Nat.le_trans (own_le O47) (Nat.le_of_eq g52.symm))
      have O57 : Old Z n0 h57 := O52.wr W57 (Nat.le_trans (own_le O47) (Nat.le_of_eq g52.symm))
      rw [(own_chr p2 (0 : Int32)).1] at W57
      have V57 : Arv Z h57 b52 cA52 .char (3 : Int32) [(.int (own_ch p2 (0 : Int32))), (.int (0 : Int32)), (.int (0 : Int32))] (.int (0 : Int32)) := Arv.set Ar57 q57 S57 M57 H57 G57 (by rw [← (own_chr p2 (0 : Int32)).1]; exact (fits_nar_char _)) W57 0 rfl (Nat.le_of_ble_eq_true rfl)
      have pre_58 : ∀ t, Sp p e below T57 (mkF m 86 #[.val (.int (3 : Int32)), .val (.int p2)] [(.ref b52), (.ref b47), (.ref b47)]) t → Steps p.tables e below E0 t := fun t k => pre_56 t (st57 t k)
      have pre_59 : ∀ t, Sp p e below T57 (mkF m 90 #[.val (.int (3 : Int32)), .val (.int p2)] [(.int (1 : Int32)), (.int p2), (.int (1 : Int32)), (.ref b52), (.ref b52), (.ref b47), (.ref b47)]) t → Steps p.tables e below E0 t := by
        intro t k
        refine pre_58 t ?_
        show Sp p e below T57 (mkF m 86 #[.val (.int (3 : Int32)), .val (.int p2)] [(.ref b52), (.ref b47), (.ref b47)]) _
        refine XS.dup X57.here hx rfl (hb hby d_method_4_86) rfl rfl ?_
        refine XS.iconst X57.here hx rfl (hb hby d_method_4_87) ?_
        show Sp p e below T57 (mkF m 88 #[.val (.int (3 : Int32)), .val (.int p2)] [(.int (1 : Int32)), (.ref b52), (.ref b52), (.ref b47), (.ref b47)]) _
        refine XS.iloadN X57.here hx rfl (hb hby d_method_4_88) rfl ?_
        refine XS.iconst X57.here hx rfl (hb hby d_method_4_89) ?_
        exact k
      obtain ⟨_, _, ⟨T60, L60, k60, n60⟩, -, X60, ⟨Lc60, hQ60, l60, y60, z60⟩, st60⟩ := Jvm.LawKit.callS X57 hx (y := (⟨"com/example/foretell/foretell/core/ModelValueEqualsPinLaw", "ch", "(II)C"⟩ : MethodName)) hown (mvT hZ (own_w hw 26 rfl)) (mvT hZ (own_w hw 27 rfl)) (mvT hZ (own_w hw 2 rfl)) (mvT hZ (own_w hw 28 rfl)) (by decide) (backOf (W := 5) (rm_ch l Z a0 hw [] p2 (1 : Int32) h57 n0 O57) hZ (own_w hw 28 rfl) (own_w hw 2 rfl) (by decide) (by decide)) (g := (mkF m 90 #[.val (.int (3 : Int32)), .val (.int p2)] [(.int (1 : Int32)), (.int p2), (.int (1 : Int32)), (.ref b52), (.ref b52), (.ref b47), (.ref b47)])) rfl (by rw [hml]; rfl) (argsL := [(.int p2), (.int (1 : Int32))]) (rest := [(.int (1 : Int32)), (.ref b52), (.ref b52), (.ref b47), (.ref b47)]) (lenOf pd_name_1 rfl) rfl (by show 2 * 0 + _ ≤ _; exact Nat.le_of_eq rfl) (hb hby d_method_4_90) (fun _ _ => ⟨rfl, e57, (by decide : 2 + 0 ≤ _), (by decide : 7 + 0 ≤ _)⟩)
      dsimp only [Pt.U, Pt.locs, Pt.cells, Pt.slots] at X60 l60 y60 z60 st60 hQ60
      subst l60 y60 z60
      obtain ⟨rfl, N60q, e60⟩ := hQ60
      have N60 := Fr.app N57 N60q
      have pre_61 : ∀ t, Sp p e below T60 (mkF m 93 #[.val (.int (3 : Int32)), .val (.int p2)] [(.int (own_ch p2 (1 : Int32))), (.int (1 : Int32)), (.ref b52), (.ref b52), (.ref b47), (.ref b47)]) t → Steps p.tables e below E0 t := fun t k => pre_59 t (st60 t k)
      obtain ⟨cl62, Ar62, q62, S62, M62, H62, G62⟩ := id V57
      obtain ⟨T62, h62, X62, e62, W62, st62⟩ := stC X60 hx hZ e60 Ar62 (j := (1 : Int32)) (inb_of S62 (by decide)) (g := (mkF m 93 #[.val (.int (3 : Int32)), .val (.int p2)] [(.int (own_ch p2 (1 : Int32))), (.int (1 : Int32)), (.ref b52), (.ref b52), (.ref b47), (.ref b47)])) rfl rfl (hb hby d_method_4_93)
      have N62 := Fr.snoc X62 N60 (Nat.le_trans (own_le O47) (Nat.le_of_eq g52.symm))
      have O62 : Old Z n0 h62 := O57.wr W62 (Nat.le_trans (own_le O47) (Nat.le_of_eq g52.symm))
      rw [(own_chr p2 (1 : Int32)).1] at W62
      have V62 : Arv Z h62 b52 cA52 .char (3 : Int32) [(.int (own_ch p2 (0 : Int32))), (.int (own_ch p2 (1 : Int32))), (.int (0 : Int32))] (.int (0 : Int32)) := Arv.set Ar62 q62 S62 M62 H62 G62 (by rw [← (own_chr p2 (1 : Int32)).1]; exact (fits_nar_char _)) W62 1 rfl (Nat.le_of_ble_eq_true rfl)
      have pre_63 : ∀ t, Sp p e below T62 (mkF m 94 #[.val (.int (3 : Int32)), .val (.int p2)] [(.ref b52), (.ref b47), (.ref b47)]) t → Steps p.tables e below E0 t := fun t k => pre_61 t (st62 t k)
      have pre_64 : ∀ t, Sp p e below T62 (mkF m 98 #[.val (.int (3 : Int32)), .val (.int p2)] [(.int (2 : Int32)), (.int p2), (.int (2 : Int32)), (.ref b52), (.ref b52), (.ref b47), (.ref b47)]) t → Steps p.tables e below E0 t := by
        intro t k
        refine pre_63 t ?_
        show Sp p e below T62 (mkF m 94 #[.val (.int (3 : Int32)), .val (.int p2)] [(.ref b52), (.ref b47), (.ref b47)]) _
        refine XS.dup X62.here hx rfl (hb hby d_method_4_94) rfl rfl ?_
        refine XS.iconst X62.here hx rfl (hb hby d_method_4_95) ?_
        show Sp p e below T62 (mkF m 96 #[.val (.int (3 : Int32)), .val (.int p2)] [(.int (2 : Int32)), (.ref b52), (.ref b52), (.ref b47), (.ref b47)]) _
        refine XS.iloadN X62.here hx rfl (hb hby d_method_4_96) rfl ?_
        refine XS.iconst X62.here hx rfl (hb hby d_method_4_97) ?_
        exact k
      obtain ⟨_, _, ⟨T65, L65, k65, n65⟩, -, X65, ⟨Lc65, hQ65, l65, y65, z65⟩, st65⟩ := Jvm.LawKit.callS X62 hx (y := (⟨"com/example/foretell/foretell/core/ModelValueEqualsPinLaw", "ch", "(II)C"⟩ : MethodName)) hown (mvT hZ (own_w hw 26 rfl)) (mvT hZ (own_w hw 27 rfl)) (mvT hZ (own_w hw 2 rfl)) (mvT hZ (own_w hw 28 rfl)) (by decide) (backOf (W := 5) (rm_ch l Z a0 hw [] p2 (2 : Int32) h62 n0 O62) hZ (own_w hw 28 rfl) (own_w hw 2 rfl) (by decide) (by decide)) (g := (mkF m 98 #[.val (.int (3 : Int32)), .val (.int p2)] [(.int (2 : Int32)), (.int p2), (.int (2 : Int32)), (.ref b52), (.ref b52), (.ref b47), (.ref b47)])) rfl (by rw [hml]; rfl) (argsL := [(.int p2), (.int (2 : Int32))]) (rest := [(.int (2 : Int32)), (.ref b52), (.ref b52), (.ref b47), (.ref b47)]) (lenOf pd_name_1 rfl) rfl (by show 2 * 0 + _ ≤ _; exact Nat.le_of_eq rfl) (hb hby d_method_4_98) (fun _ _ => ⟨rfl, e62, (by decide : 2 + 0 ≤ _), (by decide : 7 + 0 ≤ _)⟩)
      dsimp only [Pt.U, Pt.locs, Pt.cells, Pt.slots] at X65 l65 y65 z65 st65 hQ65
      subst l65 y65 z65
      obtain ⟨rfl, N65q, e65⟩ := hQ65
      have N65 := Fr.app N62 N65q
      have pre_66 : ∀ t, Sp p e below T65 (mkF m 101 #[.val (.int (3 : Int32)), .val (.int p2)] [(.int (own_ch p2 (2 : Int32))), (.int (2 : Int32)), (.ref b52), (.ref b52), (.ref b47), (.ref b47)]) t → Steps p.tables e below E0 t := fun t k => pre_64 t (st65 t k)
      obtain ⟨cl67, Ar67, q67, S67, M67, H67, G67⟩ := id V62
      obtain ⟨T67, h67, X67, e67, W67, st67⟩ := stC X65 hx hZ e65 Ar67 (j := (2 : Int32)) (inb_of S67 (by decide)) (g := (mkF m 101 #[.val (.int (3 : Int32)), .val (.int p2)] [(.int (own_ch p2 (2 : Int32))), (.int (2 : Int32)), (.ref b52), (.ref b52), (.ref b47), (.ref b47)])) rfl rfl (hb hby d_method_4_101)
      have N67 := Fr.snoc X67 N65 (Nat.le_trans (own_le O47) (Nat.le_of_eq g52.symm))
      have O67 : Old Z n0 h67 := O62.wr W67 (Nat.le_trans (own_le O47) (Nat.le_of_eq g52.symm))
      rw [(own_chr p2 (2 : Int32)).1] at W67
      have V67 : Arv Z h67 b52 cA52 .char (3 : Int32) [(.int (own_ch p2 (0 : Int32))), (.int (own_ch p2 (1 : Int32))), (.int (own_ch p2 (2 : Int32)))] (.int (0 : Int32)) := Arv.set Ar67 q67 S67 M67 H67 G67 (by rw [← (own_chr p2 (2 : Int32)).1]; exact (fits_nar_char _)) W67 2 rfl (Nat.le_of_ble_eq_true rfl)
      have pre_68 : ∀ t, Sp p e below T67 (mkF m 102 #[.val (.int (3 : Int32)), .val (.int p2)] [(.ref b52), (.ref b47), (.ref b47)]) t → Steps p.tables e below E0 t := fun t k => pre_66 t (st67 t k)
      obtain ⟨_, _, ⟨T69, L69, k69, n69⟩, -, X69, ⟨Lc69, hQ69, l69, y69, z69⟩, st69⟩ := X67.specialBack hx (y := (⟨"java/lang/String", "<init>", "([C)V"⟩ : MethodName)) rfl hown (mvT hZ (own_w hw 8 rfl)) (mvT hZ (own_w hw 9 rfl)) (mvT hZ (own_w hw 10 rfl)) (by decide) (backOf (W := 1) (rm_str3 l Z a0 hw [] b47 b52 .null (.int (0 : Int32)) G1 cA52 (own_ch p2 (0 : Int32)) (own_ch p2 (1 : Int32)) (own_ch p2 (2 : Int32)) h67 n0 O67 ((((A47.ext E52).wr W57).wr W62).wr W67) ((((F48.ext E52).other W57 (Or.inl (Nat.ne_of_lt (Nat.lt_of_lt_of_le A47.lt (Nat.le_of_eq g52.symm))))).other W62 (Or.inl (Nat.ne_of_lt (Nat.lt_of_lt_of_le A47.lt (Nat.le_of_eq g52.symm))))).other W67 (Or.inl (Nat.ne_of_lt (Nat.lt_of_lt_of_le A47.lt (Nat.le_of_eq g52.symm))))) ((((F49.ext E52).other W57 (Or.inl (Nat.ne_of_lt (Nat.lt_of_lt_of_le A47.lt (Nat.le_of_eq g52.symm))))).other W62 (Or.inl (Nat.ne_of_lt (Nat.lt_of_lt_of_le A47.lt (Nat.le_of_eq g52.symm))))).other W67 (Or.inl (Nat.ne_of_lt (Nat.lt_of_lt_of_le A47.lt (Nat.le_of_eq g52.symm))))) (Nat.le_trans (own_le O0) (Nat.le_of_eq g47.symm)) SC hG V67 (own_chr p2 (0 : Int32)).2.1 (own_chr p2 (1 : Int32)).2.1 (own_chr p2 (2 : Int32)).2.1) hZ (own_w hw 10 rfl) (own_w hw 6 rfl) (by decide) (by decide)) (g := (mkF m 102 #[.val (.int (3 : Int32)), .val (.int p2)] [(.ref b52), (.ref b47), (.ref b47)])) rfl (by rw [hml]; rfl) (Steps.refl _) (a := b47) (argsL := [(.ref b52)]) (rest := [(.ref b47)]) (lenOf pd_name_0 rfl) rfl (by show 2 * 0 + _ ≤ _; exact Nat.le_of_eq rfl) (hb hby d_method_4_102) (fun _ _ => ⟨rfl, e67, (by decide : 2 + 1 ≤ _), (by decide : 7 + 3 ≤ _)⟩)
      dsimp only [Pt.U, Pt.locs, Pt.cells, Pt.slots] at X69 l69 y69 z69 st69 hQ69
      subst l69 y69 z69
      obtain ⟨rfl, N69q, K69, Fc69, b69, kB69, sb69, Fv69, Vb69⟩ := hQ69
      have N69 := Fr.app N67 N69q
      have O69 : Old Z n0 T69.heap := O67.keep K69 (allS (Nat.le_trans (own_le O0) (Nat.le_of_eq g47.symm)) all0)
      have pre_70 : ∀ t, Sp p e below T69 (mkF m 105 #[.val (.int (3 : Int32)), .val (.int p2)] [(.ref b47)]) t → Steps p.tables e below E0 t := fun t k => pre_68 t (st69.trans k)
      obtain ⟨fs, hr, hrun, hended, hEnd⟩ := X69.leaveW ((State.WarmedH.refl s).since 0) (Nat.le_trans (Nat.zero_le _) (Nat.le_trans (Nat.le_trans (Nat.le_trans (Nat.le_trans (Nat.le_trans (Nat.le_trans (Nat.le_refl _) E47.1) E52.1) (Nat.le_of_eq W57.size.symm)) (Nat.le_of_eq W62.size.symm)) (Nat.le_of_eq W67.size.symm)) K69.1)) (v := some (.ref b47)) (fun h => by rw [Bd.returns] at h; cases h)
      refine ⟨_, _, pre_70 _ ?_, hrun, hended, _, _, rfl, ?_, hEnd.1, hEnd.2.1, hEnd.2.2.1, hEnd.2.2.2.mono (by decide) (by decide)⟩
      · show Sp p e below T69 (mkF m 105 #[.val (.int (3 : Int32)), .val (.int p2)] [(.ref b47)]) _
        exact retOut X69 hx (t := (.object "java/lang/String")) Bd.returns rfl (Or.inr (Or.inr (Or.inr (Or.inr ⟨rfl, rfl, rfl⟩)))) (hb hby d_method_4_105) hr
      · show Q_name Z _ _ _ h0 n0 _ T69.vm T69.heap _
        exact ⟨b47, b69, kB69, rfl, N69, (((((((Keep.refl h0 []).ext E47).ext E52).wr W57 (Or.inr (Nat.le_trans ((Keep.refl h0 []).ext E47).1 (Nat.le_of_eq g52.symm)))).wr W62 (Or.inr (Nat.le_trans ((Keep.refl h0 []).ext E47).1 (Nat.le_of_eq g52.symm)))).wr W67 (Or.inr (Nat.le_trans ((Keep.refl h0 []).ext E47).1 (Nat.le_of_eq g52.symm)))).trans K69 (allS (Or.inr (Nat.le_trans (Keep.refl h0 []).1 (Nat.le_of_eq g47.symm))) all0)), (Nat.le_trans (Keep.refl h0 []).1 (Nat.le_of_eq g47.symm)), (((((A47.ext E52).wr W57).wr W62).wr W67).keep K69), Fc69, Fv69, (Or.inr (Or.inr (Or.inr ⟨rfl, Vb69⟩))), (Or.inl (own_IBw I0 X69.warmed))⟩
  · skip
    rcases hn with rfl | rfl | rfl | rfl
    · skip
      have pre_71 : ∀ t, Sp p e below s₁ (mkF m 4 #[.val (.int (0 : Int32)), .val (.int p2)] []) t → Steps p.tables e below E0 t := by
        intro t k
        refine pre0 t ?_
        show Sp p e below s₁ (mkF m 0 #[.val (.int (0 : Int32)), .val (.int p2)] []) _
        refine XS.iloadN X0.here hx rfl (hb hby d_method_4_0) rfl ?_
        refine XS.ifNo X0.here hx rfl (hb hby d_method_4_1) rfl (XT.i0_ne_f (by decide)) ?_
        exact k
      obtain ⟨T72, h72, X72, e72, E72, A72, D72, -, st72⟩ := newO X0 hx hZ hown (own_w hw 4 rfl) (own_w hw 5 rfl) (own_w hw 6 rfl) e0 (g := (mkF m 4 #[.val (.int (0 : Int32)), .val (.int p2)] [])) rfl (hb hby d_method_4_4) (by decide) (by decide)
      obtain ⟨b72, g72⟩ : ∃ z, z = h0.size := ⟨_, rfl⟩
      rw [← g72] at A72 D72 st72
      have O72 : Old Z n0 h72 := O0.ext E72
      have F73 : Fld Z h72 b72 "java/lang/String" "value" "[B" .null := D72 (Or.inr (own_w hw 20 rfl)) (ty := (.array .byte)) (by decide)
      have F74 : Fld Z h72 b72 "java/lang/String" "coder" "B" (.int (0 : Int32)) := D72 (Or.inr (own_w hw 21 rfl)) (ty := .byte) (by decide)
      have pre_75 : ∀ t, Sp p e below T72 (mkF m 7 #[.val (.int (0 : Int32)), .val (.int p2)] [(.ref b72)]) t → Steps p.tables e below E0 t := fun t k => pre_71 t (st72 t k)
      have pre_76 : ∀ t, Sp p e below T72 (mkF m 9 #[.val (.int (0 : Int32)), .val (.int p2)] [(.int (0 : Int32)), (.ref b72), (.ref b72)]) t → Steps p.tables e below E0 t := by
        intro t k
        refine pre_75 t ?_
        show Sp p e below T72 (mkF m 7 #[.val (.int (0 : Int32)), .val (.int p2)] [(.ref b72)]) _
        refine XS.dup X72.here hx rfl (hb hby d_method_4_7) rfl rfl ?_
        refine XS.iconst X72.here hx rfl (hb hby d_method_4_8) ?_
        show Sp p e below T72 (mkF m 9 #[.val (.int (0 : Int32)), .val (.int p2)] [(.int (0 : Int32)), (.ref b72), (.ref b72)]) _
        exact k
      obtain ⟨T77, h77, cA77, X77, e77, E77, A77, st77⟩ := newP X72 hx hZ (own_w hw 7 rfl) e72 (g := (mkF m 9 #[.val (.int (0 : Int32)), .val (.int p2)] [(.int (0 : Int32)), (.ref b72), (.ref b72)])) rfl (hb hby d_method_4_9) rfl (by decide) (cap := 0) (by decide) (by decide) (by decide) (by decide)
      obtain ⟨b77, g77⟩ : ∃ z, z = h72.size := ⟨_, rfl⟩
      rw [← g77] at A77 st77
      have O77 : Old Z n0 h77 := O72.ext E77
      have V77 : Arv Z h77 b77 cA77 .char (0 : Int32) [] (.int (0 : Int32)) := (Arv.new A77 (by decide)).pad (pad_rep [] _ 0)
      have pre_78 : ∀ t, Sp p e below T77 (mkF m 11 #[.val (.int (0 : Int32)), .val (.int p2)] [(.ref b77), (.ref b72), (.ref b72)]) t → Steps p.tables e below E0 t := fun t k => pre_76 t (st77 t k)
      obtain ⟨_, _, ⟨T79, L79, k79, n79⟩, -, Y79, hs79, hg79, ⟨Lc79, hQ79, l79, y79, z79⟩, st79⟩ := X77.specialBackS hx (y := (⟨"java/lang/String", "<init>", "([C)V"⟩ : MethodName)) rfl hown (mvT hZ (own_w hw 8 rfl)) (mvT hZ (own_w hw 9 rfl)) (mvT hZ (own_w hw 10 rfl)) (by decide) (own_backS (W := 1) (rm_str0B l Z a0 hw [] b72 b77 (.int (0 : Int32)) aE bE kE cA77 h77 n0 O77 (A72.ext E77) (F73.ext E77) (F74.ext E77) (Nat.le_trans (own_le O0) (Nat.le_of_eq g72.symm)) ((xE.ext E72).ext E77) ((vE.ext E72).ext E77) ((cE.ext E72).ext E77) ((AE.ext E72).ext E77) V77) hZ (own_w hw 10 rfl) (own_w hw 6 rfl) (by decide) (by decide) (fun _ q => Lit.stays (hL : Lit (s.setVm s.vm) "java/lang/String" 7 aE) q.wide)) (g := (mkF m 11 #[.val (.int (0 : Int32)), .val (.int p2)] [(.ref b77), (.ref b72), (.ref b72)])) rfl (by rw [hml]; rfl) (Steps.refl _) (a := b72) (argsL := [(.ref b77)]) (rest := [(.ref b72)]) (lenOf pd_name_0 rfl) rfl (by show 2 * 0 + _ ≤ _; exact Nat.le_of_eq rfl) (hb hby d_method_4_11) (fun _ _ => ⟨rfl, e77, (by decide : 2 + 2 ≤ _), (by decide : 4 + 4 ≤ _)⟩)
      dsimp only [Pt.U, Pt.locs, Pt.cells, Pt.slots] at Y79 hs79 hg79 l79 y79 z79 st79 hQ79
      subst l79 y79 z79
      obtain ⟨X79, hS79, hZ79, ho79⟩ := rebS ((State.WarmedH.refl s).since 0) (by rw [e77]; exact (Nat.le_trans (Nat.zero_le _) (Nat.le_trans (Nat.le_trans (Nat.le_refl _) E72.1) E77.1))) Y79 hs79 hg79 hZ hown
      obtain ⟨rfl, N79q, K79, Fc79, aE79, bE79, kE79, Fv79, Ab79, xE79, vE79, cE79, hL79⟩ := hQ79
      have N79 := Fr.app N0 N79q
      have O79 : Old Z n0 T79.heap := O77.keep K79 (allS (Nat.le_trans (own_le O0) (Nat.le_of_eq g72.symm)) all0)
      have pre_80 : ∀ t, Sp p e below T79 (mkF m 14 #[.val (.int (0 : Int32)), .val (.int p2)] [(.ref b72)]) t → Steps p.tables e below E0 t := fun t k => pre_78 t (st79.trans k)
      obtain ⟨fs, hr, hrun, hended, hEnd⟩ := X79.leaveW hS79 (Nat.le_trans (Nat.le_refl _) (Nat.le_refl _)) (v := some (.ref b72)) (fun h => by rw [Bd.returns] at h; cases h)
      refine ⟨_, _, pre_80 _ ?_, hrun, hended, _, _, rfl, ?_, hEnd.1, hEnd.2.1, hEnd.2.2.1, hEnd.2.2.2.mono (by decide) (by decide)⟩
      · show Sp p e below T79 (mkF m 14 #[.val (.int (0 : Int32)), .val (.int p2)] [(.ref b72)]) _
        exact retOut X79 hx (t := (.object "java/lang/String")) Bd.returns rfl (Or.inr (Or.inr (Or.inr (Or.inr ⟨rfl, rfl, rfl⟩)))) (hb hby d_method_4_14) hr
      · show Q_name Z _ _ _ h0 n0 _ T79.vm T79.heap _
        exact ⟨b72, bE79, kE79, rfl, N79, ((((Keep.refl h0 []).ext E72).ext E77).trans K79 (allS (Or.inr (Nat.le_trans (Keep.refl h0 []).1 (Nat.le_of_eq g72.symm))) all0)), (Nat.le_trans (Keep.refl h0 []).1 (Nat.le_of_eq g72.symm)), ((A72.ext E77).keep K79), Fc79, Fv79, (Or.inl ⟨rfl, Ab79⟩), (Or.inr ⟨aE79, bE79, kE79, xE79, vE79, cE79, Ab79, (Lit.stays (hL79 : Lit (s.setVm T79.vm) "java/lang/String" 7 aE79) X79.warmed.wide)⟩)⟩
    · skip
      have pre_81 : ∀ t, Sp p e below s₁ (mkF m 20 #[.val (.int (1 : Int32)), .val (.int p2)] []) t → Steps p.tables e below E0 t := by
        intro t k
        refine pre0 t ?_
        show Sp p e below s₁ (mkF m 0 #[.val (.int (1 : Int32)), .val (.int p2)] []) _
        refine XS.iloadN X0.here hx rfl (hb hby d_method_4_0) rfl ?_
        refine XS.ifYes X0.here hx rfl (pc0 := 1) (pc' := 15) rfl (hb hby d_method_4_1) rfl (XT.i0_ne_t (by decide)) (by decide) (by decide) ?_
        refine XS.iloadN X0.here hx rfl (hb hby d_method_4_15) rfl ?_
        refine XS.iconst X0.here hx rfl (hb hby d_method_4_16) ?_
        show Sp p e below s₁ (mkF m 17 #[.val (.int (1 : Int32)), .val (.int p2)] [(.int (1 : Int32)), (.int (1 : Int32))]) _
        refine XS.icmpNo X0.here hx rfl (hb hby d_method_4_17) rfl (XT.ii_ne_f (by decide)) ?_
        exact k
      obtain ⟨T82, h82, X82, e82, E82, A82, D82, -, st82⟩ := newO X0 hx hZ hown (own_w hw 4 rfl) (own_w hw 5 rfl) (own_w hw 6 rfl) e0 (g := (mkF m 20 #[.val (.int (1 : Int32)), .val (.int p2)] [])) rfl (hb hby d_method_4_20) (by decide) (by decide)
      obtain ⟨b82, g82⟩ : ∃ z, z = h0.size := ⟨_, rfl⟩
      rw [← g82] at A82 D82 st82
      have O82 : Old Z n0 h82 := O0.ext E82
      have F83 : Fld Z h82 b82 "java/lang/String" "value" "[B" .null := D82 (Or.inr (own_w hw 20 rfl)) (ty := (.array .byte)) (by decide)
      have F84 : Fld Z h82 b82 "java/lang/String" "coder" "B" (.int (0 : Int32)) := D82 (Or.inr (own_w hw 21 rfl)) (ty := .byte) (by decide)
      have pre_85 : ∀ t, Sp p e below T82 (mkF m 23 #[.val (.int (1 : Int32)), .val (.int p2)] [(.ref b82)]) t → Steps p.tables e below E0 t := fun t k => pre_81 t (st82 t k)
      have pre_86 : ∀ t, Sp p e below T82 (mkF m 25 #[.val (.int (1 : Int32)), .val (.int p2)] [(.int (1 : Int32)), (.ref b82), (.ref b82)]) t → Steps p.tables e below E0 t := by
        intro t k
        refine pre_85 t ?_
        show Sp p e below T82 (mkF m 23 #[.val (.int (1 : Int32)), .val (.int p2)] [(.ref b82)]) _
        refine XS.dup X82.here hx rfl (hb hby d_method_4_23) rfl rfl ?_
        refine XS.iconst X82.here hx rfl (hb hby d_method_4_24) ?_
        exact k
      obtain ⟨T87, h87, cA87, X87, e87, E87, A87, st87⟩ := newP X82 hx hZ (own_w hw 7 rfl) e82 (g := (mkF m 25 #[.val (.int (1 : Int32)), .val (.int p2)] [(.int (1 : Int32)), (.ref b82), (.ref b82)])) rfl (hb hby d_method_4_25) rfl (by decide) (cap := 1) (by decide) (by decide) (by decide) (by decide)
      obtain ⟨b87, g87⟩ : ∃ z, z = h82.size := ⟨_, rfl⟩
      rw [← g87] at A87 st87
      have O87 : Old Z n0 h87 := O82.ext E87
      have V87 : Arv Z h87 b87 cA87 .char (1 : Int32) [(.int (0 : Int32))] (.int (0 : Int32)) := (Arv.new A87 (by decide)).pad (pad_rep [] _ 1)
      have pre_88 : ∀ t, Sp p e below T87 (mkF m 27 #[.val (.int (1 : Int32)), .val (.int p2)] [(.ref b87), (.ref b82), (.ref b82)]) t → Steps p.tables e below E0 t := fun t k => pre_86 t (st87 t k)
      have pre_89 : ∀ t, Sp p e below T87 (mkF m 31 #[.val (.int (1 : Int32)), .val (.int p2)] [(.int (0 : Int32)), (.int p2), (.int (0 : Int32)), (.ref b87), (.ref b87), (.ref b82), (.ref b82)]) t → Steps p.tables e below E0 t := by
        intro t k
        refine pre_88 t ?_
        show Sp p e below T87 (mkF m 27 #[.val (.int (1 : Int32)), .val (.int p2)] [(.ref b87), (.ref b82), (.ref b82)]) _
        refine XS.dup X87.here hx rfl (hb hby d_method_4_27) rfl rfl ?_
        show Sp p e below T87 (mkF m 28 #[.val (.int (1 : Int32)), .val (.int p2)] [(.ref b87), (.ref b87), (.ref b82), (.ref b82)]) _
        refine XS.iconst X87.here hx rfl (hb hby d_method_4_28) ?_
        refine XS.iloadN X87.here hx rfl (hb hby d_method_4_29) rfl ?_
        refine XS.iconst X87.here hx rfl (hb hby d_method_4_30) ?_
        exact k
      obtain ⟨_, _, ⟨T90, L90, k90, n90⟩, -, X90, ⟨Lc90, hQ90, l90, y90, z90⟩, st90⟩ := Jvm.LawKit.callS X87 hx (y := (⟨"com/example/foretell/foretell/core/ModelValueEqualsPinLaw", "ch", "(II)C"⟩ : MethodName)) hown (mvT hZ (own_w hw 26 rfl)) (mvT hZ (own_w hw 27 rfl)) (mvT hZ (own_w hw 2 rfl)) (mvT hZ (own_w hw 28 rfl)) (by decide) (backOf (W := 5) (rm_ch l Z a0 hw [] p2 (0 : Int32) h87 n0 O87) hZ (own_w hw 28 rfl) (own_w hw 2 rfl) (by decide) (by decide)) (g := (mkF m 31 #[.val (.int (1 : Int32)), .val (.int p2)] [(.int (0 : Int32)), (.int p2), (.int (0 : Int32)), (.ref b87), (.ref b87), (.ref b82), (.ref b82)])) rfl (by rw [hml]; rfl) (argsL := [(.int p2), (.int (0 : Int32))]) (rest := [(.int (0 : Int32)), (.ref b87), (.ref b87), (.ref b82), (.ref b82)]) (lenOf pd_name_1 rfl) rfl (by show 2 * 0 + _ ≤ _; exact Nat.le_of_eq rfl) (hb hby d_method_4_31) (fun _ _ => ⟨rfl, e87, (by decide : 2 + 0 ≤ _), (by decide : 5 + 0 ≤ _)⟩)
      dsimp only [Pt.U, Pt.locs, Pt.cells, Pt.slots] at X90 l90 y90 z90 st90 hQ90
      subst l90 y90 z90
      obtain ⟨rfl, N90q, e90⟩ := hQ90
      have N90 := Fr.app N0 N90q
      have pre_91 : ∀ t, Sp p e below T90 (mkF m 34 #[.val (.int (1 : Int32)), .val (.int p2)] [(.int (own_ch p2 (0 : Int32))), (.int (0 : Int32)), (.ref b87), (.ref b87), (.ref b82), (.ref b82)]) t → Steps p.tables e below E0 t := fun t k => pre_89 t (st90 t k)
      obtain ⟨cl92, Ar92, q92, S92, M92, H92, G92⟩ := id V87
      obtain ⟨T92, h92, X92, e92, W92, st92⟩ := stC X90 hx hZ e90 Ar92 (j := (0 : Int32)) (inb_of S92 (by decide)) (g := (mkF m 34 #[.val (.int (1 : Int32)), .val (.int p2)] [(.int (own_ch p2 (0 : Int32))), (.int (0 : Int32)), (.ref b87), (.ref b87), (.ref b82), (.ref b82)])) rfl rfl (hb hby d_method_4_34)
      have N92 := Fr.snoc X92 N90 (Nat.le_trans (own_le O82) (Nat.le_of_eq g87.symm))
      have O92 : Old Z n0 h92 := O87.wr W92 (Nat.le_trans (own_le O82) (Nat.le_of_eq g87.symm))
      rw [(own_chr p2 (0 : Int32)).1] at W92
      have V92 : Arv Z h92 b87 cA87 .char (1 : Int32) [(.int (own_ch p2 (0 : Int32)))] (.int (0 : Int32)) := Arv.set Ar92 q92 S92 M92 H92 G92 (by rw [← (own_chr p2 (0 : Int32)).1]; exact (fits_nar_char _)) W92 0 rfl (Nat.le_of_ble_eq_true rfl)
      have pre_93 : ∀ t, Sp p e below T92 (mkF m 35 #[.val (.int (1 : Int32)), .val (.int p2)] [(.ref b87), (.ref b82), (.ref b82)]) t → Steps p.tables e below E0 t := fun t k => pre_91 t (st92 t k)
      obtain ⟨_, _, ⟨T94, L94, k94, n94⟩, -, X94, ⟨Lc94, hQ94, l94, y94, z94⟩, st94⟩ := X92.specialBack hx (y := (⟨"java/lang/String", "<init>", "([C)V"⟩ : MethodName)) rfl hown (mvT hZ (own_w hw 8 rfl)) (mvT hZ (own_w hw 9 rfl)) (mvT hZ (own_w hw 10 rfl)) (by decide) (backOf (W := 1) (rm_str1 l Z a0 hw [] b82 b87 .null (.int (0 : Int32)) G1 cA87 (own_ch p2 (0 : Int32)) h92 n0 O92 ((A82.ext E87).wr W92) ((F83.ext E87).other W92 (Or.inl (Nat.ne_of_lt (Nat.lt_of_lt_of_le A82.lt (Nat.le_of_eq g87.symm))))) ((F84.ext E87).other W92 (Or.inl (Nat.ne_of_lt (Nat.lt_of_lt_of_le A82.lt (Nat.le_of_eq g87.symm))))) (Nat.le_trans (own_le O0) (Nat.le_of_eq g82.symm)) SC hG V92 (own_chr p2 (0 : Int32)).2.1) hZ (own_w hw 10 rfl) (own_w hw 6 rfl) (by decide) (by decide)) (g := (mkF m 35 #[.val (.int (1 : Int32)), .val (.int p2)] [(.ref b87), (.ref b82), (.ref b82)])) rfl (by rw [hml]; rfl) (Steps.refl _) (a := b82) (argsL := [(.ref b87)]) (rest := [(.ref b82)]) (lenOf pd_name_0 rfl) rfl (by show 2 * 0 + _ ≤ _; exact Nat.le_of_eq rfl) (hb hby d_method_4_35) (fun _ _ => ⟨rfl, e92, (by decide : 2 + 1 ≤ _), (by decide : 5 + 1 ≤ _)⟩)
      dsimp only [Pt.U, Pt.locs, Pt.cells, Pt.slots] at X94 l94 y94 z94 st94 hQ94
      subst l94 y94 z94
      obtain ⟨rfl, N94q, K94, Fc94, b94, kB94, sb94, Fv94, Vb94⟩ := hQ94
      have N94 := Fr.app N92 N94q
      have O94 : Old Z n0 T94.heap := O92.keep K94 (allS (Nat.le_trans (own_le O0) (Nat.le_of_eq g82.symm)) all0)
      have pre_95 : ∀ t, Sp p e below T94 (mkF m 38 #[.val (.int (1 : Int32)), .val (.int p2)] [(.ref b82)]) t → Steps p.tables e below E0 t := fun t k => pre_93 t (st94.trans k)
      obtain ⟨fs, hr, hrun, hended, hEnd⟩ := X94.leaveW ((State.WarmedH.refl s).since 0) (Nat.le_trans (Nat.zero_le _) (Nat.le_trans (Nat.le_trans (Nat.le_trans (Nat.le_trans (Nat.le_refl _) E82.1) E87.1) (Nat.le_of_eq W92.size.symm)) K94.1)) (v := some (.ref b82)) (fun h => by rw [Bd.returns] at h; cases h)
      refine ⟨_, _, pre_95 _ ?_, hrun, hended, _, _, rfl, ?_, hEnd.1, hEnd.2.1, hEnd.2.2.1, hEnd.2.2.2.mono (by decide) (by decide)⟩
      · show Sp p e below T94 (mkF m 38 #[.val (.int (1 : Int32)), .val (.int p2)] [(.ref b82)]) _
        exact retOut X94 hx (t := (.object "java/lang/String")) Bd.returns rfl (Or.inr (Or.inr (Or.inr (Or.inr ⟨rfl, rfl, rfl⟩)))) (hb hby d_method_4_38) hr
      · show Q_name Z _ _ _ h0 n0 _ T94.vm T94.heap _
        exact ⟨b82, b94, kB94, rfl, N94, (((((Keep.refl h0 []).ext E82).ext E87).wr W92 (Or.inr (Nat.le_trans ((Keep.refl h0 []).ext E82).1 (Nat.le_of_eq g87.symm)))).trans K94 (allS (Or.inr (Nat.le_trans (Keep.refl h0 []).1 (Nat.le_of_eq g82.symm))) all0)), (Nat.le_trans (Keep.refl h0 []).1 (Nat.le_of_eq g82.symm)), (((A82.ext E87).wr W92).keep K94), Fc94, Fv94, (Or.inr (Or.inl ⟨rfl, Vb94⟩)), (Or.inr ⟨aE, bE, kE, ((((xE.ext E82).ext E87).wr W92).keep K94), ((((vE.ext E82).ext E87).other W92 (Or.inl (Nat.ne_of_lt (Nat.lt_of_lt_of_le (xE.ext E82).lt (Nat.le_of_eq g87.symm))))).keep K94 (ninS (Nat.ne_of_lt (Nat.lt_of_lt_of_le xE.lt (Nat.le_of_eq g82.symm))) nin0)), ((((cE.ext E82).ext E87).other W92 (Or.inl (Nat.ne_of_lt (Nat.lt_of_lt_of_le (xE.ext E82).lt (Nat.le_of_eq g87.symm))))).keep K94 (ninS (Nat.ne_of_lt (Nat.lt_of_lt_of_le xE.lt (Nat.le_of_eq g82.symm))) nin0)), ((((AE.ext E82).ext E87).other W92 (Nat.ne_of_lt (Nat.lt_of_lt_of_le (AE.ext E82).lt (Nat.le_of_eq g87.symm)))).keep K94 (ninS (Nat.ne_of_lt (Nat.lt_of_lt_of_le AE.lt (Nat.le_of_eq g82.symm))) nin0)), (Lit.stays (hL : Lit (s.setVm s.vm) "java/lang/String" 7 aE) X94.warmed.wide)⟩)⟩
    · skip
      have pre_96 : ∀ t, Sp p e below s₁ (mkF m 44 #[.val (.int (2 : Int32)), .val (.int p2)] []) t → Steps p.tables e below E0 t := by
        intro t k
        refine pre0 t ?_
        show Sp p e below s₁ (mkF m 0 #[.val (.int (2 : Int32)), .val (.int p2)] []) _
        refine XS.iloadN X0.here hx rfl (hb hby d_method_4_0) rfl ?_
        refine XS.ifYes X0.here hx rfl (pc0 := 1) (pc' := 15) rfl (hb hby d_method_4_1) rfl (XT.i0_ne_t (by decide)) (by decide) (by decide) ?_
        refine XS.iloadN X0.here hx rfl (hb hby d_method_4_15) rfl ?_
        refine XS.iconst X0.here hx rfl (hb hby d_method_4_16) ?_
        show Sp p e below s₁ (mkF m 17 #[.val (.int (2 : Int32)), .val (.int p2)] [(.int (1 : Int32)), (.int (2 : Int32))]) _
        refine XS.icmpYes X0.here hx rfl (pc0 := 17) (pc' := 39) rfl (hb hby d_method_4_17) rfl (XT.ii_ne_t (by decide)) (by decide) (by decide) ?_
        refine XS.iloadN X0.here hx rfl (hb hby d_method_4_39) rfl ?_
        refine XS.iconst X0.here hx rfl (hb hby d_method_4_40) ?_
        refine XS.icmpNo X0.here hx rfl (hb hby d_method_4_41) rfl (XT.ii_ne_f (by decide)) ?_
        show Sp p e below s₁ (mkF m 44 #[.val (.int (2 : Int32)), .val (.int p2)] []) _
        exact k
      obtain ⟨T97, h97, X97, e97, E97, A97, D97, -, st97⟩ := newO X0 hx hZ hown (own_w hw 4 rfl) (own_w hw 5 rfl) (own_w hw 6 rfl) e0 (g := (mkF m 44 #[.val (.int (2 : Int32)), .val (.int p2)] [])) rfl (hb hby d_method_4_44) (by decide) (by decide)
      obtain ⟨b97, g97⟩ : ∃ z, z = h0.size := ⟨_, rfl⟩
      rw [← g97] at A97 D97 st97
      have O97 : Old Z n0 h97 := O0.ext E97
      have F98 : Fld Z h97 b97 "java/lang/String" "value" "[B" .null := D97 (Or.inr (own_w hw 20 rfl)) (ty := (.array .byte)) (by decide)
      have F99 : Fld Z h97 b97 "java/lang/String" "coder" "B" (.int (0 : Int32)) := D97 (Or.inr (own_w hw 21 rfl)) (ty := .byte) (by decide)
      have pre_100 : ∀ t, Sp p e below T97 (mkF m 47 #[.val (.int (2 : Int32)), .val (.int p2)] [(.ref b97)]) t → Steps p.tables e below E0 t := fun t k => pre_96 t (st97 t k)
      have pre_101 : ∀ t, Sp p e below T97 (mkF m 49 #[.val (.int (2 : Int32)), .val (.int p2)] [(.int (2 : Int32)), (.ref b97), (.ref b97)]) t → Steps p.tables e below E0 t := by
        intro t k
        refine pre_100 t ?_
        show Sp p e below T97 (mkF m 47 #[.val (.int (2 : Int32)), .val (.int p2)] [(.ref b97)]) _
        refine XS.dup X97.here hx rfl (hb hby d_method_4_47) rfl rfl ?_
        refine XS.iconst X97.here hx rfl (hb hby d_method_4_48) ?_
        exact k
      obtain ⟨T102, h102, cA102, X102, e102, E102, A102, st102⟩ := newP X97 hx hZ (own_w hw 7 rfl) e97 (g := (mkF m 49 #[.val (.int (2 : Int32)), .val (.int p2)] [(.int (2 : Int32)), (.ref b97), (.ref b97)])) rfl (hb hby d_method_4_49) rfl (by decide) (cap := 2) (by decide) (by decide) (by decide) (by decide)
      obtain ⟨b102, g102⟩ : ∃ z, z = h97.size := ⟨_, rfl⟩
      rw [← g102] at A102 st102
      have O102 : Old Z n0 h102 := O97.ext E102
      have V102 : Arv Z h102 b102 cA102 .char (2 : Int32) [(.int (0 : Int32)), (.int (0 : Int32))] (.int (0 : Int32)) := (Arv.new A102 (by decide)).pad (pad_rep [] _ 2)
      have pre_103 : ∀ t, Sp p e below T102 (mkF m 51 #[.val (.int (2 : Int32)), .val (.int p2)] [(.ref b102), (.ref b97), (.ref b97)]) t → Steps p.tables e below E0 t := fun t k => pre_101 t (st102 t k)
      have pre_104 : ∀ t, Sp p e below T102 (mkF m 55 #[.val (.int (2 : Int32)), .val (.int p2)] [(.int (0 : Int32)), (.int p2), (.int (0 : Int32)), (.ref b102), (.ref b102), (.ref b97), (.ref b97)]) t → Steps p.tables e below E0 t := by
        intro t k
        refine pre_103 t ?_
        show Sp p e below T102 (mkF m 51 #[.val (.int (2 : Int32)), .val (.int p2)] [(.ref b102), (.ref b97), (.ref b97)]) _
        refine XS.dup X102.here hx rfl (hb hby d_method_4_51) rfl rfl ?_
        refine XS.iconst X102.here hx rfl (hb hby d_method_4_52) ?_
        show Sp p e below T102 (mkF m 53 #[.val (.int (2 : Int32)), .val (.int p2)] [(.int (0 : Int32)), (.ref b102), (.ref b102), (.ref b97), (.ref b97)]) _
        refine XS.iloadN X102.here hx rfl (hb hby d_method_4_53) rfl ?_
        refine XS.iconst X102.here hx rfl (hb hby d_method_4_54) ?_
        exact k
      obtain ⟨_, _, ⟨T105, L105, k105, n105⟩, -, X105, ⟨Lc105, hQ105, l105, y105, z105⟩, st105⟩ := Jvm.LawKit.callS X102 hx (y := (⟨"com/example/foretell/foretell/core/ModelValueEqualsPinLaw", "ch", "(II)C"⟩ : MethodName)) hown (mvT hZ (own_w hw 26 rfl)) (mvT hZ (own_w hw 27 rfl)) (mvT hZ (own_w hw 2 rfl)) (mvT hZ (own_w hw 28 rfl)) (by decide) (backOf (W := 5) (rm_ch l Z a0 hw [] p2 (0 : Int32) h102 n0 O102) hZ (own_w hw 28 rfl) (own_w hw 2 rfl) (by decide) (by decide)) (g := (mkF m 55 #[.val (.int (2 : Int32)), .val (.int p2)] [(.int (0 : Int32)), (.int p2), (.int (0 : Int32)), (.ref b102), (.ref b102), (.ref b97), (.ref b97)])) rfl (by rw [hml]; rfl) (argsL := [(.int p2), (.int (0 : Int32))]) (rest := [(.int (0 : Int32)), (.ref b102), (.ref b102), (.ref b97), (.ref b97)]) (lenOf pd_name_1 rfl) rfl (by show 2 * 0 + _ ≤ _; exact Nat.le_of_eq rfl) (hb hby d_method_4_55) (fun _ _ => ⟨rfl, e102, (by decide : 2 + 0 ≤ _), (by decide : 6 + 0 ≤ _)⟩)
      dsimp only [Pt.U, Pt.locs, Pt.cells, Pt.slots] at X105 l105 y105 z105 st105 hQ105
      subst l105 y105 z105
      obtain ⟨rfl, N105q, e105⟩ := hQ105
      have N105 := Fr.app N0 N105q
      have pre_106 : ∀ t, Sp p e below T105 (mkF m 58 #[.val (.int (2 : Int32)), .val (.int p2)] [(.int (own_ch p2 (0 : Int32))), (.int (0 : Int32)), (.ref b102), (.ref b102), (.ref b97), (.ref b97)]) t → Steps p.tables e below E0 t := fun t k => pre_104 t (st105 t k)
      obtain ⟨cl107, Ar107, q107, S107, M107, H107, G107⟩ := id V102
      obtain ⟨T107, h107, X107, e107, W107, st107⟩ := stC X105 hx hZ e105 Ar107 (j := (0 : Int32)) (inb_of S107 (by decide)) (g := (mkF m 58 #[.val (.int (2 : Int32)), .val (.int p2)] [(.int (own_ch p2 (0 : Int32))), (.int (0 : Int32)), (.ref b102), (.ref b102), (.ref b97), (.ref b97)])) rfl rfl (hb hby d_method_4_58)
      have N107 := Fr.snoc X107 N105 (Nat.le_trans (own_le O97) (Nat.le_of_eq g102.symm))
      have O107 : Old Z n0 h107 := O102.wr W107 (Nat.le_trans (own_le O97) (Nat.le_of_eq g102.symm))
      rw [(own_chr p2 (0 : Int32)).1] at W107
      have V107 : Arv Z h107 b102 cA102 .char (2 : Int32) [(.int (own_ch p2 (0 : Int32))), (.int (0 : Int32))] (.int (0 : Int32)) := Arv.set Ar107 q107 S107 M107 H107 G107 (by rw [← (own_chr p2 (0 : Int32)).1]; exact (fits_nar_char _)) W107 0 rfl (Nat.le_of_ble_eq_true rfl)
      have pre_108 : ∀ t, Sp p e below T107 (mkF m 59 #[.val (.int (2 : Int32)), .val (.int p2)] [(.ref b102), (.ref b97), (.ref b97)]) t → Steps p.tables e below E0 t := fun t k => pre_106 t (st107 t k)
      have pre_109 : ∀ t, Sp p e below T107 (mkF m 63 #[.val (.int (2 : Int32)), .val (.int p2)] [(.int (1 : Int32)), (.int p2), (.int (1 : Int32)), (.ref b102), (.ref b102), (.ref b97), (.ref b97)]) t → Steps p.tables e below E0 t := by
        intro t k
        refine pre_108 t ?_
        show Sp p e below T107 (mkF m 59 #[.val (.int (2 : Int32)), .val (.int p2)] [(.ref b102), (.ref b97), (.ref b97)]) _
        refine XS.dup X107.here hx rfl (hb hby d_method_4_59) rfl rfl ?_
        refine XS.iconst X107.here hx rfl (hb hby d_method_4_60) ?_
        show Sp p e below T107 (mkF m 61 #[.val (.int (2 : Int32)), .val (.int p2)] [(.int (1 : Int32)), (.ref b102), (.ref b102), (.ref b97), (.ref b97)]) _
        refine XS.iloadN X107.here hx rfl (hb hby d_method_4_61) rfl ?_
        refine XS.iconst X107.here hx rfl (hb hby d_method_4_62) ?_
        exact k
      obtain ⟨_, _, ⟨T110, L110, k110, n110⟩, -, X110, ⟨Lc110, hQ110, l110, y110, z110⟩, st110⟩ := Jvm.LawKit.callS X107 hx (y := (⟨"com/example/foretell/foretell/core/ModelValueEqualsPinLaw", "ch", "(II)C"⟩ : MethodName)) hown (mvT hZ (own_w hw 26 rfl)) (mvT hZ (own_w hw 27 rfl)) (mvT hZ (own_w hw 2 rfl)) (mvT hZ (own_w hw 28 rfl)) (by decide) (backOf (W := 5) (rm_ch l Z a0 hw [] p2 (1 : Int32) h107 n0 O107) hZ (own_w hw 28 rfl) (own_w hw 2 rfl) (by decide) (by decide)) (g := (mkF m 63 #[.val (.int (2 : Int32)), .val (.int p2)] [(.int (1 : Int32)), (.int p2), (.int (1 : Int32)), (.ref b102), (.ref b102), (.ref b97), (.ref b97)])) rfl (by rw [hml]; rfl) (argsL := [(.int p2), (.int (1 : Int32))]) (rest := [(.int (1 : Int32)), (.ref b102), (.ref b102), (.ref b97), (.ref b97)]) (lenOf pd_name_1 rfl) rfl (by show 2 * 0 + _ ≤ _; exact Nat.le_of_eq rfl) (hb hby d_method_4_63) (fun _ _ => ⟨rfl, e107, (by decide : 2 + 0 ≤ _), (by decide : 6 + 0 ≤ _)⟩)
      dsimp only [Pt.U, Pt.locs, Pt.cells, Pt.slots] at X110 l110 y110 z110 st110 hQ110
      subst l110 y110 z110
      obtain ⟨rfl, N110q, e110⟩ := hQ110
      have N110 := Fr.app N107 N110q
      have pre_111 : ∀ t, Sp p e below T110 (mkF m 66 #[.val (.int (2 : Int32)), .val (.int p2)] [(.int (own_ch p2 (1 : Int32))), (.int (1 : Int32)), (.ref b102), (.ref b102), (.ref b97), (.ref b97)]) t → Steps p.tables e below E0 t := fun t k => pre_109 t (st110 t k)
      obtain ⟨cl112, Ar112, q112, S112, M112, H112, G112⟩ := id V107
      obtain ⟨T112, h112, X112, e112, W112, st112⟩ := stC X110 hx hZ e110 Ar112 (j := (1 : Int32)) (inb_of S112 (by decide)) (g := (mkF m 66 #[.val (.int (2 : Int32)), .val (.int p2)] [(.int (own_ch p2 (1 : Int32))), (.int (1 : Int32)), (.ref b102), (.ref b102), (.ref b97), (.ref b97)])) rfl rfl (hb hby d_method_4_66)
      have N112 := Fr.snoc X112 N110 (Nat.le_trans (own_le O97) (Nat.le_of_eq g102.symm))
      have O112 : Old Z n0 h112 := O107.wr W112 (Nat.le_trans (own_le O97) (Nat.le_of_eq g102.symm))
      rw [(own_chr p2 (1 : Int32)).1] at W112
      have V112 : Arv Z h112 b102 cA102 .char (2 : Int32) [(.int (own_ch p2 (0 : Int32))), (.int (own_ch p2 (1 : Int32)))] (.int (0 : Int32)) := Arv.set Ar112 q112 S112 M112 H112 G112 (by rw [← (own_chr p2 (1 : Int32)).1]; exact (fits_nar_char _)) W112 1 rfl (Nat.le_of_ble_eq_true rfl)
      have pre_113 : ∀ t, Sp p e below T112 (mkF m 67 #[.val (.int (2 : Int32)), .val (.int p2)] [(.ref b102), (.ref b97), (.ref b97)]) t → Steps p.tables e below E0 t := fun t k => pre_111 t (st112 t k)
      obtain ⟨_, _, ⟨T114, L114, k114, n114⟩, -, X114, ⟨Lc114, hQ114, l114, y114, z114⟩, st114⟩ := X112.specialBack hx (y := (⟨"java/lang/String", "<init>", "([C)V"⟩ : MethodName)) rfl hown (mvT hZ (own_w hw 8 rfl)) (mvT hZ (own_w hw 9 rfl)) (mvT hZ (own_w hw 10 rfl)) (by decide) (backOf (W := 1) (rm_str2 l Z a0 hw [] b97 b102 .null (.int (0 : Int32)) G1 cA102 (own_ch p2 (0 : Int32)) (own_ch p2 (1 : Int32)) h112 n0 O112 (((A97.ext E102).wr W107).wr W112) (((F98.ext E102).other W107 (Or.inl (Nat.ne_of_lt (Nat.lt_of_lt_of_le A97.lt (Nat.le_of_eq g102.symm))))).other W112 (Or.inl (Nat.ne_of_lt (Nat.lt_of_lt_of_le A97.lt (Nat.le_of_eq g102.symm))))) (((F99.ext E102).other W107 (Or.inl (Nat.ne_of_lt (Nat.lt_of_lt_of_le A97.lt (Nat.le_of_eq g102.symm))))).other W112 (Or.inl (Nat.ne_of_lt (Nat.lt_of_lt_of_le A97.lt (Nat.le_of_eq g102.symm))))) (Nat.le_trans (own_le O0) (Nat.le_of_eq g97.symm)) SC hG V112 (own_chr p2 (0 : Int32)).2.1 (own_chr p2 (1 : Int32)).2.1) hZ (own_w hw 10 rfl) (own_w hw 6 rfl) (by decide) (by decide)) (g := (mkF m 67 #[.val (.int (2 : Int32)), .val (.int p2)] [(.ref b102), (.ref b97), (.ref b97)])) rfl (by rw [hml]; rfl) (Steps.refl _) (a := b97) (argsL := [(.ref b102)]) (rest := [(.ref b97)]) (lenOf pd_name_0 rfl) rfl (by show 2 * 0 + _ ≤ _; exact Nat.le_of_eq rfl) (hb hby d_method_4_67) (fun _ _ => ⟨rfl, e112, (by decide : 2 + 1 ≤ _), (by decide : 6 + 2 ≤ _)⟩)
      dsimp only [Pt.U, Pt.locs, Pt.cells, Pt.slots] at X114 l114 y114 z114 st114 hQ114
      subst l114 y114 z114
      obtain ⟨rfl, N114q, K114, Fc114, b114, kB114, sb114, Fv114, Vb114⟩ := hQ114
      have N114 := Fr.app N112 N114q
      have O114 : Old Z n0 T114.heap := O112.keep K114 (allS (Nat.le_trans (own_le O0) (Nat.le_of_eq g97.symm)) all0)
      have pre_115 : ∀ t, Sp p e below T114 (mkF m 70 #[.val (.int (2 : Int32)), .val (.int p2)] [(.ref b97)]) t → Steps p.tables e below E0 t := fun t k => pre_113 t (st114.trans k)
      obtain ⟨fs, hr, hrun, hended, hEnd⟩ := X114.leaveW ((State.WarmedH.refl s).since 0) (Nat.le_trans (Nat.zero_le _) (Nat.le_trans (Nat.le_trans (Nat.le_trans (Nat.le_trans (Nat.le_trans (Nat.le_refl _) E97.1) E102.1) (Nat.le_of_eq W107.size.symm)) (Nat.le_of_eq W112.size.symm)) K114.1)) (v := some (.ref b97)) (fun h => by rw [Bd.returns] at h; cases h)
      refine ⟨_, _, pre_115 _ ?_, hrun, hended, _, _, rfl, ?_, hEnd.1, hEnd.2.1, hEnd.2.2.1, hEnd.2.2.2.mono (by decide) (by decide)⟩
      · show Sp p e below T114 (mkF m 70 #[.val (.int (2 : Int32)), .val (.int p2)] [(.ref b97)]) _
        exact retOut X114 hx (t := (.object "java/lang/String")) Bd.returns rfl (Or.inr (Or.inr (Or.inr (Or.inr ⟨rfl, rfl, rfl⟩)))) (hb hby d_method_4_70) hr
      · show Q_name Z _ _ _ h0 n0 _ T114.vm T114.heap _
        exact ⟨b97, b114, kB114, rfl, N114, ((((((Keep.refl h0 []).ext E97).ext E102).wr W107 (Or.inr (Nat.le_trans ((Keep.refl h0 []).ext E97).1 (Nat.le_of_eq g102.symm)))).wr W112 (Or.inr (Nat.le_trans ((Keep.refl h0 []).ext E97).1 (Nat.le_of_eq g102.symm)))).trans K114 (allS (Or.inr (Nat.le_trans (Keep.refl h0 []).1 (Nat.le_of_eq g97.symm))) all0)), (Nat.le_trans (Keep.refl h0 []).1 (Nat.le_of_eq g97.symm)), ((((A97.ext E102).wr W107).wr W112).keep K114), Fc114, Fv114, (Or.inr (Or.inr (Or.inl ⟨rfl, Vb114⟩))), (Or.inr ⟨aE, bE, kE, (((((xE.ext E97).ext E102).wr W107).wr W112).keep K114), (((((vE.ext E97).ext E102).other W107 (Or.inl (Nat.ne_of_lt (Nat.lt_of_lt_of_le (xE.ext E97).lt (Nat.le_of_eq g102.symm))))).other W112 (Or.inl (Nat.ne_of_lt (Nat.lt_of_lt_of_le (xE.ext E97).lt (Nat.le_of_eq g102.symm))))).keep K114 (ninS (Nat.ne_of_lt (Nat.lt_of_lt_of_le xE.lt (Nat.le_of_eq g97.symm))) nin0)), (((((cE.ext E97).ext E102).other W107 (Or.inl (Nat.ne_of_lt (Nat.lt_of_lt_of_le (xE.ext E97).lt (Nat.le_of_eq g102.symm))))).other W112 (Or.inl (Nat.ne_of_lt (Nat.lt_of_lt_of_le (xE.ext E97).lt (Nat.le_of_eq g102.symm))))).keep K114 (ninS (Nat.ne_of_lt (Nat.lt_of_lt_of_le xE.lt (Nat.le_of_eq g97.symm))) nin0)), (((((AE.ext E97).ext E102).other W107 (Nat.ne_of_lt (Nat.lt_of_lt_of_le (AE.ext E97).lt (Nat.le_of_eq g102.symm)))).other W112 (Nat.ne_of_lt (Nat.lt_of_lt_of_le (AE.ext E97).lt (Nat.le_of_eq g102.symm)))).keep K114 (ninS (Nat.ne_of_lt (Nat.lt_of_lt_of_le AE.lt (Nat.le_of_eq g97.symm))) nin0)), (Lit.stays (hL : Lit (s.setVm s.vm) "java/lang/String" 7 aE) X114.warmed.wide)⟩)⟩
    · skip
      have pre_116 : ∀ t, Sp p e below s₁ (mkF m 71 #[.val (.int (3 : Int32)), .val (.int p2)] []) t → Steps p.tables e below E0 t := by
        intro t k
        refine pre0 t ?_
        show Sp p e below s₁ (mkF m 0 #[.val (.int (3 : Int32)), .val (.int p2)] []) _
        refine XS.iloadN X0.here hx rfl (hb hby d_method_4_0) rfl ?_
        refine XS.ifYes X0.here hx rfl (pc0 := 1) (pc' := 15) rfl (hb hby d_method_4_1) rfl (XT.i0_ne_t (by decide)) (by decide) (by decide) ?_
        refine XS.iloadN X0.here hx rfl (hb hby d_method_4_15) rfl ?_
        refine XS.iconst X0.here hx rfl (hb hby d_method_4_16) ?_
        show Sp p e below s₁ (mkF m 17 #[.val (.int (3 : Int32)), .val (.int p2)] [(.int (1 : Int32)), (.int (3 : Int32))]) _
        refine XS.icmpYes X0.here hx rfl (pc0 := 17) (pc' := 39) rfl (hb hby d_method_4_17) rfl (XT.ii_ne_t (by decide)) (by decide) (by decide) ?_
        refine XS.iloadN X0.here hx rfl (hb hby d_method_4_39) rfl ?_
        refine XS.iconst X0.here hx rfl (hb hby d_method_4_40) ?_
        refine XS.icmpYes X0.here hx rfl (pc0 := 41) (pc' := 71) rfl (hb hby d_method_4_41) rfl (XT.ii_ne_t (by decide)) (by decide) (by decide) ?_
        show Sp p e below s₁ (mkF m 71 #[.val (.int (3 : Int32)), .val (.int p2)] []) _
        exact k
      obtain ⟨T117, h117, X117, e117, E117, A117, D117, -, st117⟩ := newO X0 hx hZ hown (own_w hw 4 rfl) (own_w hw 5 rfl) (own_w hw 6 rfl) e0 (g := (mkF m 71 #[.val (.int (3 : Int32)), .val (.int p2)] [])) rfl (hb hby d_method_4_71) (by decide) (by decide)
      obtain ⟨b117, g117⟩ : ∃ z, z = h0.size := ⟨_, rfl⟩
      rw [← g117] at A117 D117 st117
      have O117 : Old Z n0 h117 := O0.ext E117
      have F118 : Fld Z h117 b117 "java/lang/String" "value" "[B" .null := D117 (Or.inr (own_w hw 20 rfl)) (ty := (.array .byte)) (by decide)
      have F119 : Fld Z h117 b117 "java/lang/String" "coder" "B" (.int (0 : Int32)) := D117 (Or.inr (own_w hw 21 rfl)) (ty := .byte) (by decide)
      have pre_120 : ∀ t, Sp p e below T117 (mkF m 74 #[.val (.int (3 : Int32)), .val (.int p2)] [(.ref b117)]) t → Steps p.tables e below E0 t := fun t k => pre_116 t (st117 t k)
      have pre_121 : ∀ t, Sp p e below T117 (mkF m 76 #[.val (.int (3 : Int32)), .val (.int p2)] [(.int (3 : Int32)), (.ref b117), (.ref b117)]) t → Steps p.tables e below E0 t := by
        intro t k
        refine pre_120 t ?_
        show Sp p e below T117 (mkF m 74 #[.val (.int (3 : Int32)), .val (.int p2)] [(.ref b117)]) _
        refine XS.dup X117.here hx rfl (hb hby d_method_4_74) rfl rfl ?_
        refine XS.iconst X117.here hx rfl (hb hby d_method_4_75) ?_
        exact k
      obtain ⟨T122, h122, cA122, X122, e122, E122, A122, st122⟩ := newP X117 hx hZ (own_w hw 7 rfl) e117 (g := (mkF m 76 #[.val (.int (3 : Int32)), .val (.int p2)] [(.int (3 : Int32)), (.ref b117), (.ref b117)])) rfl (hb hby d_method_4_76) rfl (by decide) (cap := 3) (by decide) (by decide) (by decide) (by decide)
      obtain ⟨b122, g122⟩ : ∃ z, z = h117.size := ⟨_, rfl⟩
      rw [← g122] at A122 st122
      have O122 : Old Z n0 h122 := O117.ext E122
      have V122 : Arv Z h122 b122 cA122 .char (3 : Int32) [(.int (0 : Int32)), (.int (0 : Int32)), (.int (0 : Int32))] (.int (0 : Int32)) := (Arv.new A122 (by decide)).pad (pad_rep [] _ 3)
      have pre_123 : ∀ t, Sp p e below T122 (mkF m 78 #[.val (.int (3 : Int32)), .val (.int p2)] [(.ref b122), (.ref b117), (.ref b117)]) t → Steps p.tables e below E0 t := fun t k => pre_121 t (st122 t k)
      have pre_124 : ∀ t, Sp p e below T122 (mkF m 82 #[.val (.int (3 : Int32)), .val (.int p2)] [(.int (0 : Int32)), (.int p2), (.int (0 : Int32)), (.ref b122), (.ref b122), (.ref b117), (.ref b117)]) t → Steps p.tables e below E0 t := by
        intro t k
        refine pre_123 t ?_
        show Sp p e below T122 (mkF m 78 #[.val (.int (3 : Int32)), .val (.int p2)] [(.ref b122), (.ref b117), (.ref b117)]) _
        refine XS.dup X122.here hx rfl (hb hby d_method_4_78) rfl rfl ?_
        refine XS.iconst X122.here hx rfl (hb hby d_method_4_79) ?_
        show Sp p e below T122 (mkF m 80 #[.val (.int (3 : Int32)), .val (.int p2)] [(.int (0 : Int32)), (.ref b122), (.ref b122), (.ref b117), (.ref b117)]) _
        refine XS.iloadN X122.here hx rfl (hb hby d_method_4_80) rfl ?_
        refine XS.iconst X122.here hx rfl (hb hby d_method_4_81) ?_
        exact k
      obtain ⟨_, _, ⟨T125, L125, k125, n125⟩, -, X125, ⟨Lc125, hQ125, l125, y125, z125⟩, st125⟩ := Jvm.LawKit.callS X122 hx (y := (⟨"com/example/foretell/foretell/core/ModelValueEqualsPinLaw", "ch", "(II)C"⟩ : MethodName)) hown (mvT hZ (own_w hw 26 rfl)) (mvT hZ (own_w hw 27 rfl)) (mvT hZ (own_w hw 2 rfl)) (mvT hZ (own_w hw 28 rfl)) (by decide) (backOf (W := 5) (rm_ch l Z a0 hw [] p2 (0 : Int32) h122 n0 O122) hZ (own_w hw 28 rfl) (own_w hw 2 rfl) (by decide) (by decide)) (g := (mkF m 82 #[.val (.int (3 : Int32)), .val (.int p2)] [(.int (0 : Int32)), (.int p2), (.int (0 : Int32)), (.ref b122), (.ref b122), (.ref b117), (.ref b117)])) rfl (by rw [hml]; rfl) (argsL := [(.int p2), (.int (0 : Int32))]) (rest := [(.int (0 : Int32)), (.ref b122), (.ref b122), (.ref b117), (.ref b117)]) (lenOf pd_name_1 rfl) rfl (by show 2 * 0 + _ ≤ _; exact Nat.le_of_eq rfl) (hb hby d_method_4_82) (fun _ _ => ⟨rfl, e122, (by decide : 2 + 0 ≤ _), (by decide : 7 + 0 ≤ _)⟩)
      dsimp only [Pt.U, Pt.locs, Pt.cells, Pt.slots] at X125 l125 y125 z125 st125 hQ125
      subst l125 y125 z125
      obtain ⟨rfl, N125q, e125⟩ := hQ125
      have N125 := Fr.app N0 N125q
      have pre_126 : ∀ t, Sp p e below T125 (mkF m 85 #[.val (.int (3 : Int32)), .val (.int p2)] [(.int (own_ch p2 (0 : Int32))), (.int (0 : Int32)), (.ref b122), (.ref b122), (.ref b117), (.ref b117)]) t → Steps p.tables e below E0 t := fun t k => pre_124 t (st125 t k)
      obtain ⟨cl127, Ar127, q127, S127, M127, H127, G127⟩ := id V122
      obtain ⟨T127, h127, X127, e127, W127, st127⟩ := stC X125 hx hZ e125 Ar127 (j := (0 : Int32)) (inb_of S127 (by decide)) (g := (mkF m 85 #[.val (.int (3 : Int32)), .val (.int p2)] [(.int (own_ch p2 (0 : Int32))), (.int (0 : Int32)), (.ref b122), (.ref b122), (.ref b117), (.ref b117)])) rfl rfl (hb hby d_method_4_85)
      have N127 := Fr.snoc X127 N125 (Nat.le_trans (own_le O117) (Nat.le_of_eq g122.symm))
      have O127 : Old Z n0 h127 := O122.wr W127 (Nat.le_trans (own_le O117) (Nat.le_of_eq g122.symm))
      rw [(own_chr p2 (0 : Int32)).1] at W127
      have V127 : Arv Z h127 b122 cA122 .char (3 : Int32) [(.int (own_ch p2 (0 : Int32))), (.int (0 : Int32)), (.int (0 : Int32))] (.int (0 : Int32)) := Arv.set Ar127 q127 S127 M127 H127 G127 (by rw [← (own_chr p2 (0 : Int32)).1]; exact (fits_nar_char _)) W127 0 rfl (Nat.le_of_ble_eq_true rfl)
      have pre_128 : ∀ t, Sp p e below T127 (mkF m 86 #[.val (.int (3 : Int32)), .val (.int p2)] [(.ref b122), (.ref b117), (.ref b117)]) t → Steps p.tables e below E0 t := fun t k => pre_126 t (st127 t k)
      have pre_129 : ∀ t, Sp p e below T127 (mkF m 90 #[.val (.int (3 : Int32)), .val (.int p2)] [(.int (1 : Int32)), (.int p2), (.int (1 : Int32)), (.ref b122), (.ref b122), (.ref b117), (.ref b117)]) t → Steps p.tables e below E0 t := by
        intro t k
        refine pre_128 t ?_
        show Sp p e below T127 (mkF m 86 #[.val (.int (3 : Int32)), .val (.int p2)] [(.ref b122), (.ref b117), (.ref b117)]) _
        refine XS.dup X127.here hx rfl (hb hby d_method_4_86) rfl rfl ?_
        refine XS.iconst X127.here hx rfl (hb hby d_method_4_87) ?_
        show Sp p e below T127 (mkF m 88 #[.val (.int (3 : Int32)), .val (.int p2)] [(.int (1 : Int32)), (.ref b122), (.ref b122), (.ref b117), (.ref b117)]) _
        refine XS.iloadN X127.here hx rfl (hb hby d_method_4_88) rfl ?_
        refine XS.iconst X127.here hx rfl (hb hby d_method_4_89) ?_
        exact k
      obtain ⟨_, _, ⟨T130, L130, k130, n130⟩, -, X130, ⟨Lc130, hQ130, l130, y130, z130⟩, st130⟩ := Jvm.LawKit.callS X127 hx (y := (⟨"com/example/foretell/foretell/core/ModelValueEqualsPinLaw", "ch", "(II)C"⟩ : MethodName)) hown (mvT hZ (own_w hw 26 rfl)) (mvT hZ (own_w hw 27 rfl)) (mvT hZ (own_w hw 2 rfl)) (mvT hZ (own_w hw 28 rfl)) (by decide) (backOf (W := 5) (rm_ch l Z a0 hw [] p2 (1 : Int32) h127 n0 O127) hZ (own_w hw 28 rfl) (own_w hw 2 rfl) (by decide) (by decide)) (g := (mkF m 90 #[.val (.int (3 : Int32)), .val (.int p2)] [(.int (1 : Int32)), (.int p2), (.int (1 : Int32)), (.ref b122), (.ref b122), (.ref b117), (.ref b117)])) rfl (by rw [hml]; rfl) (argsL := [(.int p2), (.int (1 : Int32))]) (rest := [(.int (1 : Int32)), (.ref b122), (.ref b122), (.ref b117), (.ref b117)]) (lenOf pd_name_1 rfl) rfl (by show 2 * 0 + _ ≤ _; exact Nat.le_of_eq rfl) (hb hby d_method_4_90) (fun _ _ => ⟨rfl, e127, (by decide : 2 + 0 ≤ _), (by decide : 7 + 0 ≤ _)⟩)
      dsimp only [Pt.U, Pt.locs, Pt.cells, Pt.slots] at X130 l130 y130 z130 st130 hQ130
      subst l130 y130 z130
      obtain ⟨rfl, N130q, e130⟩ := hQ130
      have N130 := Fr.app N127 N130q
      have pre_131 : ∀ t, Sp p e below T130 (mkF m 93 #[.val (.int (3 : Int32)), .val (.int p2)] [(.int (own_ch p2 (1 : Int32))), (.int (1 : Int32)), (.ref b122), (.ref b122), (.ref b117), (.ref b117)]) t → Steps p.tables e below E0 t := fun t k => pre_129 t (st130 t k)
      obtain ⟨cl132, Ar132, q132, S132, M132, H132, G132⟩ := id V127
      obtain ⟨T132, h132, X132, e132, W132, st132⟩ := stC X130 hx hZ e130 Ar132 (j := (1 : Int32)) (inb_of S132 (by decide)) (g := (mkF m 93 #[.val (.int (3 : Int32)), .val (.int p2)] [(.int (own_ch p2 (1 : Int32))), (.int (1 : Int32)), (.ref b122), (.ref b122), (.ref b117), (.ref b117)])) rfl rfl (hb hby d_method_4_93)
      have N132 := Fr.snoc X132 N130 (Nat.le_trans (own_le O117) (Nat.le_of_eq g122.symm))
      have O132 : Old Z n0 h132 := O127.wr W132 (Nat.le_trans (own_le O117) (Nat.le_of_eq g122.symm))
      rw [(own_chr p2 (1 : Int32)).1] at W132
      have V132 : Arv Z h132 b122 cA122 .char (3 : Int32) [(.int (own_ch p2 (0 : Int32))), (.int (own_ch p2 (1 : Int32))), (.int (0 : Int32))] (.int (0 : Int32)) := Arv.set Ar132 q132 S132 M132 H132 G132 (by rw [← (own_chr p2 (1 : Int32)).1]; exact (fits_nar_char _)) W132 1 rfl (Nat.le_of_ble_eq_true rfl)
      have pre_133 : ∀ t, Sp p e below T132 (mkF m 94 #[.val (.int (3 : Int32)), .val (.int p2)] [(.ref b122), (.ref b117), (.ref b117)]) t → Steps p.tables e below E0 t := fun t k => pre_131 t (st132 t k)
      have pre_134 : ∀ t, Sp p e below T132 (mkF m 98 #[.val (.int (3 : Int32)), .val (.int p2)] [(.int (2 : Int32)), (.int p2), (.int (2 : Int32)), (.ref b122), (.ref b122), (.ref b117), (.ref b117)]) t → Steps p.tables e below E0 t := by
        intro t k
        refine pre_133 t ?_
        show Sp p e below T132 (mkF m 94 #[.val (.int (3 : Int32)), .val (.int p2)] [(.ref b122), (.ref b117), (.ref b117)]) _
        refine XS.dup X132.here hx rfl (hb hby d_method_4_94) rfl rfl ?_
        refine XS.iconst X132.here hx rfl (hb hby d_method_4_95) ?_
        show Sp p e below T132 (mkF m 96 #[.val (.int (3 : Int32)), .val (.int p2)] [(.int (2 : Int32)), (.ref b122), (.ref b122), (.ref b117), (.ref b117)]) _
        refine XS.iloadN X132.here hx rfl (hb hby d_method_4_96) rfl ?_
        refine XS.iconst X132.here hx rfl (hb hby d_method_4_97) ?_
        exact k
      obtain ⟨_, _, ⟨T135, L135, k135, n135⟩, -, X135, ⟨Lc135, hQ135, l135, y135, z135⟩, st135⟩ := Jvm.LawKit.callS X132 hx (y := (⟨"com/example/foretell/foretell/core/ModelValueEqualsPinLaw", "ch", "(II)C"⟩ : MethodName)) hown (mvT hZ (own_w hw 26 rfl)) (mvT hZ (own_w hw 27 rfl)) (mvT hZ (own_w hw 2 rfl)) (mvT hZ (own_w hw 28 rfl)) (by decide) (backOf (W := 5) (rm_ch l Z a0 hw [] p2 (2 : Int32) h132 n0 O132) hZ (own_w hw 28 rfl) (own_w hw 2 rfl) (by decide) (by decide)) (g := (mkF m 98 #[.val (.int (3 : Int32)), .val (.int p2)] [(.int (2 : Int32)), (.int p2), (.int (2 : Int32)), (.ref b122), (.ref b122), (.ref b117), (.ref b117)])) rfl (by rw [hml]; rfl) (argsL := [(.int p2), (.int (2 : Int32))]) (rest := [(.int (2 : Int32)), (.ref b122), (.ref b122), (.ref b117), (.ref b117)]) (lenOf pd_name_1 rfl) rfl (by show 2 * 0 + _ ≤ _; exact Nat.le_of_eq rfl) (hb hby d_method_4_98) (fun _ _ => ⟨rfl, e132, (by decide : 2 + 0 ≤ _), (by decide : 7 + 0 ≤ _)⟩)
      dsimp only [Pt.U, Pt.locs, Pt.cells, Pt.slots] at X135 l135 y135 z135 st135 hQ135
      subst l135 y135 z135
      obtain ⟨rfl, N135q, e135⟩ := hQ135
      have N135 := Fr.app N132 N135q
      have pre_136 : ∀ t, Sp p e below T135 (mkF m 101 #[.val (.int (3 : Int32)), .val (.int p2)] [(.int (own_ch p2 (2 : Int32))), (.int (2 : Int32)), (.ref b122), (.ref b122), (.ref b117), (.ref b117)]) t → Steps p.tables e below E0 t := fun t k => pre_134 t (st135 t k)
      obtain ⟨cl137, Ar137, q137, S137, M137, H137, G137⟩ := id V132
      obtain ⟨T137, h137, X137, e137, W137, st137⟩ := stC X135 hx hZ e135 Ar137 (j := (2 : Int32)) (inb_of S137 (by decide)) (g := (mkF m 101 #[.val (.int (3 : Int32)), .val (.int p2)] [(.int (own_ch p2 (2 : Int32))), (.int (2 : Int32)), (.ref b122), (.ref b122), (.ref b117), (.ref b117)])) rfl rfl (hb hby d_method_4_101)
      have N137 := Fr.snoc X137 N135 (Nat.le_trans (own_le O117) (Nat.le_of_eq g122.symm))
      have O137 : Old Z n0 h137 := O132.wr W137 (Nat.le_trans (own_le O117) (Nat.le_of_eq g122.symm))
      rw [(own_chr p2 (2 : Int32)).1] at W137
      have V137 : Arv Z h137 b122 cA122 .char (3 : Int32) [(.int (own_ch p2 (0 : Int32))), (.int (own_ch p2 (1 : Int32))), (.int (own_ch p2 (2 : Int32)))] (.int (0 : Int32)) := Arv.set Ar137 q137 S137 M137 H137 G137 (by rw [← (own_chr p2 (2 : Int32)).1]; exact (fits_nar_char _)) W137 2 rfl (Nat.le_of_ble_eq_true rfl)
      have pre_138 : ∀ t, Sp p e below T137 (mkF m 102 #[.val (.int (3 : Int32)), .val (.int p2)] [(.ref b122), (.ref b117), (.ref b117)]) t → Steps p.tables e below E0 t := fun t k => pre_136 t (st137 t k)
      obtain ⟨_, _, ⟨T139, L139, k139, n139⟩, -, X139, ⟨Lc139, hQ139, l139, y139, z139⟩, st139⟩ := X137.specialBack hx (y := (⟨"java/lang/String", "<init>", "([C)V"⟩ : MethodName)) rfl hown (mvT hZ (own_w hw 8 rfl)) (mvT hZ (own_w hw 9 rfl)) (mvT hZ (own_w hw 10 rfl)) (by decide) (backOf (W := 1) (rm_str3 l Z a0 hw [] b117 b122 .null (.int (0 : Int32)) G1 cA122 (own_ch p2 (0 : Int32)) (own_ch p2 (1 : Int32)) (own_ch p2 (2 : Int32)) h137 n0 O137 ((((A117.ext E122).wr W127).wr W132).wr W137) ((((F118.ext E122).other W127 (Or.inl (Nat.ne_of_lt (Nat.lt_of_lt_of_le A117.lt (Nat.le_of_eq g122.symm))))).other W132 (Or.inl (Nat.ne_of_lt (Nat.lt_of_lt_of_le A117.lt (Nat.le_of_eq g122.symm))))).other W137 (Or.inl (Nat.ne_of_lt (Nat.lt_of_lt_of_le A117.lt (Nat.le_of_eq g122.symm))))) ((((F119.ext E122).other W127 (Or.inl (Nat.ne_of_lt (Nat.lt_of_lt_of_le A117.lt (Nat.le_of_eq g122.symm))))).other W132 (Or.inl (Nat.ne_of_lt (Nat.lt_of_lt_of_le A117.lt (Nat.le_of_eq g122.symm))))).other W137 (Or.inl (Nat.ne_of_lt (Nat.lt_of_lt_of_le A117.lt (Nat.le_of_eq g122.symm))))) (Nat.le_trans (own_le O0) (Nat.le_of_eq g117.symm)) SC hG V137 (own_chr p2 (0 : Int32)).2.1 (own_chr p2 (1 : Int32)).2.1 (own_chr p2 (2 : Int32)).2.1) hZ (own_w hw 10 rfl) (own_w hw 6 rfl) (by decide) (by decide)) (g := (mkF m 102 #[.val (.int (3 : Int32)), .val (.int p2)] [(.ref b122), (.ref b117), (.ref b117)])) rfl (by rw [hml]; rfl) (Steps.refl _) (a := b117) (argsL := [(.ref b122)]) (rest := [(.ref b117)]) (lenOf pd_name_0 rfl) rfl (by show 2 * 0 + _ ≤ _; exact Nat.le_of_eq rfl) (hb hby d_method_4_102) (fun _ _ => ⟨rfl, e137, (by decide : 2 + 1 ≤ _), (by decide : 7 + 3 ≤ _)⟩)
      dsimp only [Pt.U, Pt.locs, Pt.cells, Pt.slots] at X139 l139 y139 z139 st139 hQ139
      subst l139 y139 z139
      obtain ⟨rfl, N139q, K139, Fc139, b139, kB139, sb139, Fv139, Vb139⟩ := hQ139
      have N139 := Fr.app N137 N139q
      have O139 : Old Z n0 T139.heap := O137.keep K139 (allS (Nat.le_trans (own_le O0) (Nat.le_of_eq g117.symm)) all0)
      have pre_140 : ∀ t, Sp p e below T139 (mkF m 105 #[.val (.int (3 : Int32)), .val (.int p2)] [(.ref b117)]) t → Steps p.tables e below E0 t := fun t k => pre_138 t (st139.trans k)
      obtain ⟨fs, hr, hrun, hended, hEnd⟩ := X139.leaveW ((State.WarmedH.refl s).since 0) (Nat.le_trans (Nat.zero_le _) (Nat.le_trans (Nat.le_trans (Nat.le_trans (Nat.le_trans (Nat.le_trans (Nat.le_trans (Nat.le_refl _) E117.1) E122.1) (Nat.le_of_eq W127.size.symm)) (Nat.le_of_eq W132.size.symm)) (Nat.le_of_eq W137.size.symm)) K139.1)) (v := some (.ref b117)) (fun h => by rw [Bd.returns] at h; cases h)
      refine ⟨_, _, pre_140 _ ?_, hrun, hended, _, _, rfl, ?_, hEnd.1, hEnd.2.1, hEnd.2.2.1, hEnd.2.2.2.mono (by decide) (by decide)⟩
      · show Sp p e below T139 (mkF m 105 #[.val (.int (3 : Int32)), .val (.int p2)] [(.ref b117)]) _
        exact retOut X139 hx (t := (.object "java/lang/String")) Bd.returns rfl (Or.inr (Or.inr (Or.inr (Or.inr ⟨rfl, rfl, rfl⟩)))) (hb hby d_method_4_105) hr
      · show Q_name Z _ _ _ h0 n0 _ T139.vm T139.heap _
        exact ⟨b117, b139, kB139, rfl, N139, (((((((Keep.refl h0 []).ext E117).ext E122).wr W127 (Or.inr (Nat.le_trans ((Keep.refl h0 []).ext E117).1 (Nat.le_of_eq g122.symm)))).wr W132 (Or.inr (Nat.le_trans ((Keep.refl h0 []).ext E117).1 (Nat.le_of_eq g122.symm)))).wr W137 (Or.inr (Nat.le_trans ((Keep.refl h0 []).ext E117).1 (Nat.le_of_eq g122.symm)))).trans K139 (allS (Or.inr (Nat.le_trans (Keep.refl h0 []).1 (Nat.le_of_eq g117.symm))) all0)), (Nat.le_trans (Keep.refl h0 []).1 (Nat.le_of_eq g117.symm)), (((((A117.ext E122).wr W127).wr W132).wr W137).keep K139), Fc139, Fv139, (Or.inr (Or.inr (Or.inr ⟨rfl, Vb139⟩))), (Or.inr ⟨aE, bE, kE, ((((((xE.ext E117).ext E122).wr W127).wr W132).wr W137).keep K139), ((((((vE.ext E117).ext E122).other W127 (Or.inl (Nat.ne_of_lt (Nat.lt_of_lt_of_le (xE.ext E117).lt (Nat.le_of_eq g122.symm))))).other W132 (Or.inl (Nat.ne_of_lt (Nat.lt_of_lt_of_le (xE.ext E117).lt (Nat.le_of_eq g122.symm))))).other W137 (Or.inl (Nat.ne_of_lt (Nat.lt_of_lt_of_le (xE.ext E117).lt (Nat.le_of_eq g122.symm))))).keep K139 (ninS (Nat.ne_of_lt (Nat.lt_of_lt_of_le xE.lt (Nat.le_of_eq g117.symm))) nin0)), ((((((cE.ext E117).ext E122).other W127 (Or.inl (Nat.ne_of_lt (Nat.lt_of_lt_of_le (xE.ext E117).lt (Nat.le_of_eq g122.symm))))).other W132 (Or.inl (Nat.ne_of_lt (Nat.lt_of_lt_of_le (xE.ext E117).lt (Nat.le_of_eq g122.symm))))).other W137 (Or.inl (Nat.ne_of_lt (Nat.lt_of_lt_of_le (xE.ext E117).lt (Nat.le_of_eq g122.symm))))).keep K139 (ninS (Nat.ne_of_lt (Nat.lt_of_lt_of_le xE.lt (Nat.le_of_eq g117.symm))) nin0)), ((((((AE.ext E117).ext E122).other W127 (Nat.ne_of_lt (Nat.lt_of_lt_of_le (AE.ext E117).lt (Nat.le_of_eq g122.symm)))).other W132 (Nat.ne_of_lt (Nat.lt_of_lt_of_le (AE.ext E117).lt (Nat.le_of_eq g122.symm)))).other W137 (Nat.ne_of_lt (Nat.lt_of_lt_of_le (AE.ext E117).lt (Nat.le_of_eq g122.symm)))).keep K139 (ninS (Nat.ne_of_lt (Nat.lt_of_lt_of_le AE.lt (Nat.le_of_eq g117.symm))) nin0)), (Lit.stays (hL : Lit (s.setVm s.vm) "java/lang/String" 7 aE) X139.warmed.wide)⟩)⟩
theorem d_method_5_0 : decode method_5_code 0 = .ok (.iload_n 0, 1) := by decide +kernel
theorem d_method_5_1 : decode method_5_code 1 = .ok (.iload_n 2, 1) := by decide +kernel
theorem d_method_5_2 : decode method_5_code 2 = .ok (.if_icmp .eq 5, 3) := by decide +kernel
theorem d_method_5_5 : decode method_5_code 5 = .ok (.iconst 0, 1) := by decide +kernel
theorem d_method_5_6 : decode method_5_code 6 = .ok (.ireturn, 1) := by decide +kernel
theorem d_method_5_7 : decode method_5_code 7 = .ok (.iload_n 0, 1) := by decide +kernel
theorem d_method_5_8 : decode method_5_code 8 = .ok (.ifCond .le 18, 3) := by decide +kernel
theorem d_method_5_11 : decode method_5_code 11 = .ok (.iload_n 1, 1) := by decide +kernel
theorem d_method_5_12 : decode method_5_code 12 = .ok (.iconst 0, 1) := by decide +kernel
theorem d_method_5_13 : decode method_5_code 13 = .ok (.invokestatic 34, 3) := by decide +kernel
theorem d_method_5_16 : decode method_5_code 16 = .ok (.iload_n 3, 1) := by decide +kernel
theorem d_method_5_17 : decode method_5_code 17 = .ok (.iconst 0, 1) := by decide +kernel
theorem d_method_5_18 : decode method_5_code 18 = .ok (.invokestatic 34, 3) := by decide +kernel
theorem d_method_5_21 : decode method_5_code 21 = .ok (.if_icmp .eq 5, 3) := by decide +kernel
theorem d_method_5_24 : decode method_5_code 24 = .ok (.iconst 0, 1) := by decide +kernel
theorem d_method_5_25 : decode method_5_code 25 = .ok (.ireturn, 1) := by decide +kernel
theorem d_method_5_26 : decode method_5_code 26 = .ok (.iload_n 0, 1) := by decide +kernel
theorem d_method_5_27 : decode method_5_code 27 = .ok (.iconst 1, 1) := by decide +kernel
theorem d_method_5_28 : decode method_5_code 28 = .ok (.if_icmp .le 18, 3) := by decide +kernel
theorem d_method_5_31 : decode method_5_code 31 = .ok (.iload_n 1, 1) := by decide +kernel
theorem d_method_5_32 : decode method_5_code 32 = .ok (.iconst 1, 1) := by decide +kernel
theorem d_method_5_33 : decode method_5_code 33 = .ok (.invokestatic 34, 3) := by decide +kernel
theorem d_method_5_36 : decode method_5_code 36 = .ok (.iload_n 3, 1) := by decide +kernel
theorem d_method_5_37 : decode method_5_code 37 = .ok (.iconst 1, 1) := by decide +kernel
theorem d_method_5_38 : decode method_5_code 38 = .ok (.invokestatic 34, 3) := by decide +kernel
theorem d_method_5_41 : decode method_5_code 41 = .ok (.if_icmp .eq 5, 3) := by decide +kernel
theorem d_method_5_44 : decode method_5_code 44 = .ok (.iconst 0, 1) := by decide +kernel
theorem d_method_5_45 : decode method_5_code 45 = .ok (.ireturn, 1) := by decide +kernel
theorem d_method_5_46 : decode method_5_code 46 = .ok (.iload_n 0, 1) := by decide +kernel
theorem d_method_5_47 : decode method_5_code 47 = .ok (.iconst 2, 1) := by decide +kernel
theorem d_method_5_48 : decode method_5_code 48 = .ok (.if_icmp .le 18, 3) := by decide +kernel
theorem d_method_5_51 : decode method_5_code 51 = .ok (.iload_n 1, 1) := by decide +kernel
theorem d_method_5_52 : decode method_5_code 52 = .ok (.iconst 2, 1) := by decide +kernel
theorem d_method_5_53 : decode method_5_code 53 = .ok (.invokestatic 34, 3) := by decide +kernel
theorem d_method_5_56 : decode method_5_code 56 = .ok (.iload_n 3, 1) := by decide +kernel
theorem d_method_5_57 : decode method_5_code 57 = .ok (.iconst 2, 1) := by decide +kernel
theorem d_method_5_58 : decode method_5_code 58 = .ok (.invokestatic 34, 3) := by decide +kernel
theorem d_method_5_61 : decode method_5_code 61 = .ok (.if_icmp .eq 5, 3) := by decide +kernel
theorem d_method_5_64 : decode method_5_code 64 = .ok (.iconst 0, 1) := by decide +kernel
theorem d_method_5_65 : decode method_5_code 65 = .ok (.ireturn, 1) := by decide +kernel
theorem d_method_5_66 : decode method_5_code 66 = .ok (.iconst 1, 1) := by decide +kernel
theorem d_method_5_67 : decode method_5_code 67 = .ok (.ireturn, 1) := by decide +kernel
theorem pn_same : plainName "com/example/foretell/foretell/core/ModelValueEqualsPinLaw" = true := by first | (simp [plainName, overriddenIn]; done) | decide +kernel
theorem pd_same_0 : parseMethodDescriptor "(II)C" = some ⟨[.int, .int], some .char⟩ := by decide +kernel
theorem ef_same (m : MethodId) (p1 : Int32) (p2 : Int32) (p3 : Int32) (p4 : Int32) : entryFrame m #[(.int p1), (.int p2), (.int p3), (.int p4)] 4 = (mkF m 0 #[.val (.int p1), .val (.int p2), .val (.int p3), .val (.int p4)] []) := by first | (simp [entryFrame, mkF, argsToLocals, Value.category]; done) | rfl
def Q_same (Z : State) (p1 : Int32) (p2 : Int32) (p3 : Int32) (p4 : Int32)  (h0 : Heap) (n0 : Nat) (v : Option Value) (h : Heap) (L : List Loc) : Prop := v = some (.int (own_eqv p1 p3 (own_ch p2 (0 : Int32)) (own_ch p4 (0 : Int32)) (own_ch p2 (1 : Int32)) (own_ch p4 (1 : Int32)) (own_ch p2 (2 : Int32)) (own_ch p4 (2 : Int32)))) ∧ Fr n0 L ∧ h = h0
set_option maxRecDepth 65536 in
set_option maxHeartbeats 40000000 in
theorem rm_same (l : Launch) (Z : State) (a0 : Array Value) (hw : ∀ d ∈ tables_1, d.before a0 Z = true) (ws : List Jvm.Cond) (p1 : Int32) (p2 : Int32) (p3 : Int32) (p4 : Int32)  (h0 : Heap) (n0 : Nat) (O0 : Old Z n0 h0) (hn : p1 = (0 : Int32) ∨ p1 = (1 : Int32) ∨ p1 = (2 : Int32) ∨ p1 = (3 : Int32)) :
    MetFree l (⟨"com/example/foretell/foretell/core/ModelValueEqualsPinLaw", "same", "(IIII)Z"⟩ : MethodName) (head1 (Jvm.Cond.code (⟨"com/example/foretell/foretell/core/ModelValueEqualsPinLaw", "same", "(IIII)Z"⟩ : MethodName) method_5_code 4 (some .boolean) :: ws) ({ frames := 1, cells := 0, slots := 0, locals := 14 } : Room)) (fun a U => a = #[(.int p1), (.int p2), (.int p3), (.int p4)] ∧ Z.Warmed39 U.vm ∧ U.heap = h0) (fun _ _ _ _ _ => True) (fun _ U o U' => ∃ v L, o = .returned v ∧ Q_same Z p1 p2 p3 p4  h0 n0 v U'.heap L ∧ FrameEnd U o U' L ({ frames := 1, cells := 0, slots := 0, locals := 14 } : Room).cells ({ frames := 1, cells := 0, slots := 0, locals := 14 } : Room).slots) := by
  refine MetFree.of_bodySF (plainFor_of_name pn_same) hisR ?_
  intro p e s m args below meth c s₁ Bd hml0 hP hK
  obtain ⟨rfl, hZ, hh⟩ := hP
  have hx := Bd.exec
  have hby := Bd.bytes
  have hml : c.maxLocals = 4 := hml0
  have hown : s.vm.findClass "com/example/foretell/foretell/core/ModelValueEqualsPinLaw" = some m.cls := findClass_of_methodNamed Bd.named
  have hnm := (name_of_methodNamed Bd.named Bd.method).1
  have X0 : Stand p l e ({ frames := 1, cells := 0, slots := 0, locals := 14 } : Room) s m #[(.int p1), (.int p2), (.int p3), (.int p4)] below meth c s₁ [] 0 0 := Stand.of_body Bd
  have e0 : s₁.heap = h0 := by rw [← hh, Bd.state]; rfl
  have N0 := Fr.nil n0
  have pre0 : ∀ t, Steps p.tables e below (s₁.setTop (mkF m 0 #[.val (.int p1), .val (.int p2), .val (.int p3), .val (.int p4)] [])) t → Steps p.tables e below (s₁.setTop (entryFrame m #[(.int p1), (.int p2), (.int p3), (.int p4)] 4)) t := fun t k => castTop (ef_same m p1 p2 p3 p4) k
  generalize s₁.setTop (entryFrame m #[(.int p1), (.int p2), (.int p3), (.int p4)] 4) = E0 at pre0 ⊢
  rcases hn with rfl | rfl | rfl | rfl
  · skip
    have pre_1 : ∀ t, Sp p e below s₁ (mkF m 2 #[.val (.int (0 : Int32)), .val (.int p2), .val (.int p3), .val (.int p4)] [(.int p3), (.int (0 : Int32))]) t → Steps p.tables e below E0 t := by
      intro t k
      refine pre0 t ?_
      show Sp p e below s₁ (mkF m 0 #[.val (.int (0 : Int32)), .val (.int p2), .val (.int p3), .val (.int p4)] []) _
      refine XS.iloadN X0.here hx rfl (hb hby d_method_5_0) rfl ?_
      refine XS.iloadN X0.here hx rfl (hb hby d_method_5_1) rfl ?_
      exact k
    by_cases hc2 : (0 : Int32) = p3
    · skip
      have pre_3 : ∀ t, Sp p e below s₁ (mkF m 67 #[.val (.int (0 : Int32)), .val (.int p2), .val (.int p3), .val (.int p4)] [(.int (1 : Int32))]) t → Steps p.tables e below E0 t := by
        intro t k
        refine pre_1 t ?_
        show Sp p e below s₁ (mkF m 2 #[.val (.int (0 : Int32)), .val (.int p2), .val (.int p3), .val (.int p4)] [(.int p3), (.int (0 : Int32))]) _
        refine XS.icmpYes X0.here hx rfl (pc0 := 2) (pc' := 7) rfl (hb hby d_method_5_2) rfl (XT.ii_eq_t hc2) (by decide) (by decide) ?_
        refine XS.iloadN X0.here hx rfl (hb hby d_method_5_7) rfl ?_
        show Sp p e below s₁ (mkF m 8 #[.val (.int (0 : Int32)), .val (.int p2), .val (.int p3), .val (.int p4)] [(.int (0 : Int32))]) _
        refine XS.ifYes X0.here hx rfl (pc0 := 8) (pc' := 26) rfl (hb hby d_method_5_8) rfl (XT.i0_le_t (by decide)) (by decide) (by decide) ?_
        refine XS.iloadN X0.here hx rfl (hb hby d_method_5_26) rfl ?_
        refine XS.iconst X0.here hx rfl (hb hby d_method_5_27) ?_
        refine XS.icmpYes X0.here hx rfl (pc0 := 28) (pc' := 46) rfl (hb hby d_method_5_28) rfl (XT.ii_le_t (by decide)) (by decide) (by decide) ?_
        show Sp p e below s₁ (mkF m 46 #[.val (.int (0 : Int32)), .val (.int p2), .val (.int p3), .val (.int p4)] []) _
        refine XS.iloadN X0.here hx rfl (hb hby d_method_5_46) rfl ?_
        refine XS.iconst X0.here hx rfl (hb hby d_method_5_47) ?_
        refine XS.icmpYes X0.here hx rfl (pc0 := 48) (pc' := 66) rfl (hb hby d_method_5_48) rfl (XT.ii_le_t (by decide)) (by decide) (by decide) ?_
        refine XS.iconst X0.here hx rfl (hb hby d_method_5_66) ?_
        show Sp p e below s₁ (mkF m 67 #[.val (.int (0 : Int32)), .val (.int p2), .val (.int p3), .val (.int p4)] [(.int (1 : Int32))]) _
        exact k
      obtain ⟨fs, hr, hrun, hended, hW, hsame⟩ := X0.leave (v := some (.int (1 : Int32))) (fun h => by rw [Bd.returns] at h; cases h)
      refine ⟨_, _, pre_3 _ ?_, hrun, hended, _, _, rfl, ?_, ⟨_, rfl⟩, hW, hsame.mono (by decide) (by decide)⟩
      · show Sp p e below s₁ (mkF m 67 #[.val (.int (0 : Int32)), .val (.int p2), .val (.int p3), .val (.int p4)] [(.int (1 : Int32))]) _
        exact retN X0 hx (t := .boolean) Bd.returns (by simp) (hb hby d_method_5_67) hr
      · show Q_same Z _ _ _ _ h0 n0 _ s₁.heap _
        rw [e0]
        exact ⟨by unfold own_eqv; rw [if_pos hc2, if_pos (by decide), if_pos (by decide), if_pos (by decide)], N0, rfl⟩
    · skip
      have pre_4 : ∀ t, Sp p e below s₁ (mkF m 6 #[.val (.int (0 : Int32)), .val (.int p2), .val (.int p3), .val (.int p4)] [(.int (0 : Int32))]) t → Steps p.tables e below E0 t := by
        intro t k
        refine pre_1 t ?_
        show Sp p e below s₁ (mkF m 2 #[.val (.int (0 : Int32)), .val (.int p2), .val (.int p3), .val (.int p4)] [(.int p3), (.int (0 : Int32))]) _
        refine XS.icmpNo X0.here hx rfl (hb hby d_method_5_2) rfl (XT.ii_eq_f hc2) ?_
        refine XS.iconst X0.here hx rfl (hb hby d_method_5_5) ?_
        show Sp p e below s₁ (mkF m 6 #[.val (.int (0 : Int32)), .val (.int p2), .val (.int p3), .val (.int p4)] [(.int (0 : Int32))]) _
        exact k
      obtain ⟨fs, hr, hrun, hended, hW, hsame⟩ := X0.leave (v := some (.int (0 : Int32))) (fun h => by rw [Bd.returns] at h; cases h)
      refine ⟨_, _, pre_4 _ ?_, hrun, hended, _, _, rfl, ?_, ⟨_, rfl⟩, hW, hsame.mono (by decide) (by decide)⟩
      · show Sp p e below s₁ (mkF m 6 #[.val (.int (0 : Int32)), .val (.int p2), .val (.int p3), .val (.int p4)] [(.int (0 : Int32))]) _
        exact retN X0 hx (t := .boolean) Bd.returns (by simp) (hb hby d_method_5_6) hr
      · show Q_same Z _ _ _ _ h0 n0 _ s₁.heap _
        rw [e0]
        exact ⟨by unfold own_eqv; rw [if_neg hc2], N0, rfl⟩
  · skip
    have pre_5 : ∀ t, Sp p e below s₁ (mkF m 2 #[.val (.int (1 : Int32)), .val (.int p2), .val (.int p3), .val (.int p4)] [(.int p3), (.int (1 : Int32))]) t → Steps p.tables e below E0 t := by
      intro t k
      refine pre0 t ?_
      show Sp p e below s₁ (mkF m 0 #[.val (.int (1 : Int32)), .val (.int p2), .val (.int p3), .val (.int p4)] []) _
      refine XS.iloadN X0.here hx rfl (hb hby d_method_5_0) rfl ?_
      refine XS.iloadN X0.here hx rfl (hb hby d_method_5_1) rfl ?_
      exact k
    by_cases hc6 : (1 : Int32) = p3
    · skip
      have pre_7 : ∀ t, Sp p e below s₁ (mkF m 13 #[.val (.int (1 : Int32)), .val (.int p2), .val (.int p3), .val (.int p4)] [(.int (0 : Int32)), (.int p2)]) t → Steps p.tables e below E0 t := by
        intro t k
        refine pre_5 t ?_
        show Sp p e below s₁ (mkF m 2 #[.val (.int (1 : Int32)), .val (.int p2), .val (.int p3), .val (.int p4)] [(.int p3), (.int (1 : Int32))]) _
        refine XS.icmpYes X0.here hx rfl (pc0 := 2) (pc' := 7) rfl (hb hby d_method_5_2) rfl (XT.ii_eq_t hc6) (by decide) (by decide) ?_
        refine XS.iloadN X0.here hx rfl (hb hby d_method_5_7) rfl ?_
        show Sp p e below s₁ (mkF m 8 #[.val (.int (1 : Int32)), .val (.int p2), .val (.int p3), .val (.int p4)] [(.int (1 : Int32))]) _
        refine XS.ifNo X0.here hx rfl (hb hby d_method_5_8) rfl (XT.i0_le_f (by decide)) ?_
        refine XS.iloadN X0.here hx rfl (hb hby d_method_5_11) rfl ?_
        refine XS.iconst X0.here hx rfl (hb hby d_method_5_12) ?_
        exact k
      obtain ⟨_, _, ⟨T8, L8, k8, n8⟩, -, X8, ⟨Lc8, hQ8, l8, y8, z8⟩, st8⟩ := Jvm.LawKit.callS X0 hx (y := (⟨"com/example/foretell/foretell/core/ModelValueEqualsPinLaw", "ch", "(II)C"⟩ : MethodName)) hown (mvT hZ (own_w hw 26 rfl)) (mvT hZ (own_w hw 27 rfl)) (mvT hZ (own_w hw 2 rfl)) (mvT hZ (own_w hw 28 rfl)) (by decide) (backOf (W := 0) (rm_ch l Z a0 hw [] p2 (0 : Int32) h0 n0 O0) hZ (own_w hw 28 rfl) (own_w hw 2 rfl) (by decide) (by decide)) (g := (mkF m 13 #[.val (.int (1 : Int32)), .val (.int p2), .val (.int p3), .val (.int p4)] [(.int (0 : Int32)), (.int p2)])) rfl (by rw [hml]; rfl) (argsL := [(.int p2), (.int (0 : Int32))]) (rest := []) (lenOf pd_same_0 rfl) rfl (by show 2 * 0 + _ ≤ _; exact Nat.le_of_eq rfl) (hb hby d_method_5_13) (fun _ _ => ⟨rfl, e0, (by decide : 0 + 0 ≤ _), (by decide : 0 + 0 ≤ _)⟩)
      dsimp only [Pt.U, Pt.locs, Pt.cells, Pt.slots] at X8 l8 y8 z8 st8 hQ8
      subst l8 y8 z8
      obtain ⟨rfl, N8q, e8⟩ := hQ8
      have N8 := Fr.app N0 N8q
      have pre_9 : ∀ t, Sp p e below T8 (mkF m 16 #[.val (.int (1 : Int32)), .val (.int p2), .val (.int p3), .val (.int p4)] [(.int (own_ch p2 (0 : Int32)))]) t → Steps p.tables e below E0 t := fun t k => pre_7 t (st8 t k)
      have pre_10 : ∀ t, Sp p e below T8 (mkF m 18 #[.val (.int (1 : Int32)), .val (.int p2), .val (.int p3), .val (.int p4)] [(.int (0 : Int32)), (.int p4), (.int (own_ch p2 (0 : Int32)))]) t → Steps p.tables e below E0 t := by
        intro t k
        refine pre_9 t ?_
        show Sp p e below T8 (mkF m 16 #[.val (.int (1 : Int32)), .val (.int p2), .val (.int p3), .val (.int p4)] [(.int (own_ch p2 (0 : Int32)))]) _
        refine XS.iloadN X8.here hx rfl (hb hby d_method_5_16) rfl ?_
        show Sp p e below T8 (mkF m 17 #[.val (.int (1 : Int32)), .val (.int p2), .val (.int p3), .val (.int p4)] [(.int p4), (.int (own_ch p2 (0 : Int32)))]) _
        refine XS.iconst X8.here hx rfl (hb hby d_method_5_17) ?_
        exact k
      obtain ⟨_, _, ⟨T11, L11, k11, n11⟩, -, X11, ⟨Lc11, hQ11, l11, y11, z11⟩, st11⟩ := Jvm.LawKit.callS X8 hx (y := (⟨"com/example/foretell/foretell/core/ModelValueEqualsPinLaw", "ch", "(II)C"⟩ : MethodName)) hown (mvT hZ (own_w hw 26 rfl)) (mvT hZ (own_w hw 27 rfl)) (mvT hZ (own_w hw 2 rfl)) (mvT hZ (own_w hw 28 rfl)) (by decide) (backOf (W := 1) (rm_ch l Z a0 hw [] p4 (0 : Int32) h0 n0 O0) hZ (own_w hw 28 rfl) (own_w hw 2 rfl) (by decide) (by decide)) (g := (mkF m 18 #[.val (.int (1 : Int32)), .val (.int p2), .val (.int p3), .val (.int p4)] [(.int (0 : Int32)), (.int p4), (.int (own_ch p2 (0 : Int32)))])) rfl (by rw [hml]; rfl) (argsL := [(.int p4), (.int (0 : Int32))]) (rest := [(.int (own_ch p2 (0 : Int32)))]) (lenOf pd_same_0 rfl) rfl (by show 2 * 0 + _ ≤ _; exact Nat.le_of_eq rfl) (hb hby d_method_5_18) (fun _ _ => ⟨rfl, e8, (by decide : 0 + 0 ≤ _), (by decide : 0 + 0 ≤ _)⟩)
      dsimp only [Pt.U, Pt.locs, Pt.cells, Pt.slots] at X11 l11 y11 z11 st11 hQ11
      subst l11 y11 z11
      obtain ⟨rfl, N11q, e11⟩ := hQ11
      have N11 := Fr.app N8 N11q
      have pre_12 : ∀ t, Sp p e below T11 (mkF m 21 #[.val (.int (1 : Int32)), .val (.int p2), .val (.int p3), .val (.int p4)] [(.int (own_ch p4 (0 : Int32))), (.int (own_ch p2 (0 : Int32)))]) t → Steps p.tables e below E0 t := fun t k => pre_10 t (st11 t k)
      by_cases hc13 : (own_ch p2 (0 : Int32)) = (own_ch p4 (0 : Int32))
      · skip
        have pre_14 : ∀ t, Sp p e below T11 (mkF m 67 #[.val (.int (1 : Int32)), .val (.int p2), .val (.int p3), .val (.int p4)] [(.int (1 : Int32))]) t → Steps p.tables e below E0 t := by
          intro t k
          refine pre_12 t ?_
          show Sp p e below T11 (mkF m 21 #[.val (.int (1 : Int32)), .val (.int p2), .val (.int p3), .val (.int p4)] [(.int (own_ch p4 (0 : Int32))), (.int (own_ch p2 (0 : Int32)))]) _
          refine XS.icmpYes X11.here hx rfl (pc0 := 21) (pc' := 26) rfl (hb hby d_method_5_21) rfl (XT.ii_eq_t hc13) (by decide) (by decide) ?_
          refine XS.iloadN X11.here hx rfl (hb hby d_method_5_26) rfl ?_
          refine XS.iconst X11.here hx rfl (hb hby d_method_5_27) ?_
          show Sp p e below T11 (mkF m 28 #[.val (.int (1 : Int32)), .val (.int p2), .val (.int p3), .val (.int p4)] [(.int (1 : Int32)), (.int (1 : Int32))]) _
          refine XS.icmpYes X11.here hx rfl (pc0 := 28) (pc' := 46) rfl (hb hby d_method_5_28) rfl (XT.ii_le_t (by decide)) (by decide) (by decide) ?_
          refine XS.iloadN X11.here hx rfl (hb hby d_method_5_46) rfl ?_
          refine XS.iconst X11.here hx rfl (hb hby d_method_5_47) ?_
          refine XS.icmpYes X11.here hx rfl (pc0 := 48) (pc' := 66) rfl (hb hby d_method_5_48) rfl (XT.ii_le_t (by decide)) (by decide) (by decide) ?_
          show Sp p e below T11 (mkF m 66 #[.val (.int (1 : Int32)), .val (.int p2), .val (.int p3), .val (.int p4)] []) _
          refine XS.iconst X11.here hx rfl (hb hby d_method_5_66) ?_
          exact k
        obtain ⟨fs, hr, hrun, hended, hW, hsame⟩ := X11.leave (v := some (.int (1 : Int32))) (fun h => by rw [Bd.returns] at h; cases h)
        refine ⟨_, _, pre_14 _ ?_, hrun, hended, _, _, rfl, ?_, ⟨_, rfl⟩, hW, hsame.mono (by decide) (by decide)⟩
        · show Sp p e below T11 (mkF m 67 #[.val (.int (1 : Int32)), .val (.int p2), .val (.int p3), .val (.int p4)] [(.int (1 : Int32))]) _
          exact retN X11 hx (t := .boolean) Bd.returns (by simp) (hb hby d_method_5_67) hr
        · show Q_same Z _ _ _ _ h0 n0 _ T11.heap _
          rw [e11]
          exact ⟨by unfold own_eqv; rw [if_pos hc6, if_neg (by decide), if_pos hc13, if_pos (by decide), if_pos (by decide)], N11, rfl⟩
      · skip
        have pre_15 : ∀ t, Sp p e below T11 (mkF m 25 #[.val (.int (1 : Int32)), .val (.int p2), .val (.int p3), .val (.int p4)] [(.int (0 : Int32))]) t → Steps p.tables e below E0 t := by
          intro t k
          refine pre_12 t ?_
          show Sp p e below T11 (mkF m 21 #[.val (.int (1 : Int32)), .val (.int p2), .val (.int p3), .val (.int p4)] [(.int (own_ch p4 (0 : Int32))), (.int (own_ch p2 (0 : Int32)))]) _
          refine XS.icmpNo X11.here hx rfl (hb hby d_method_5_21) rfl (XT.ii_eq_f hc13) ?_
          refine XS.iconst X11.here hx rfl (hb hby d_method_5_24) ?_
          exact k
        obtain ⟨fs, hr, hrun, hended, hW, hsame⟩ := X11.leave (v := some (.int (0 : Int32))) (fun h => by rw [Bd.returns] at h; cases h)
        refine ⟨_, _, pre_15 _ ?_, hrun, hended, _, _, rfl, ?_, ⟨_, rfl⟩, hW, hsame.mono (by decide) (by decide)⟩
        · show Sp p e below T11 (mkF m 25 #[.val (.int (1 : Int32)), .val (.int p2), .val (.int p3), .val (.int p4)] [(.int (0 : Int32))]) _
          exact retN X11 hx (t := .boolean) Bd.returns (by simp) (hb hby d_method_5_25) hr
        · show Q_same Z _ _ _ _ h0 n0 _ T11.heap _
          rw [e11]
          exact ⟨by unfold own_eqv; rw [if_pos hc6, if_neg (by decide), if_neg hc13], N11, rfl⟩
    · skip
      have pre_16 : ∀ t, Sp p e below s₁ (mkF m 6 #[.val (.int (1 : Int32)), .val (.int p2), .val (.int p3), .val (.int p4)] [(.int (0 : Int32))]) t → Steps p.tables e below E0 t := by
        intro t k
        refine pre_5 t ?_
        show Sp p e below s₁ (mkF m 2 #[.val (.int (1 : Int32)), .val (.int p2), .val (.int p3), .val (.int p4)] [(.int p3), (.int (1 : Int32))]) _
        refine XS.icmpNo X0.here hx rfl (hb hby d_method_5_2) rfl (XT.ii_eq_f hc6) ?_
        refine XS.iconst X0.here hx rfl (hb hby d_method_5_5) ?_
        show Sp p e below s₁ (mkF m 6 #[.val (.int (1 : Int32)), .val (.int p2), .val (.int p3), .val (.int p4)] [(.int (0 : Int32))]) _
        exact k
      obtain ⟨fs, hr, hrun, hended, hW, hsame⟩ := X0.leave (v := some (.int (0 : Int32))) (fun h => by rw [Bd.returns] at h; cases h)
      refine ⟨_, _, pre_16 _ ?_, hrun, hended, _, _, rfl, ?_, ⟨_, rfl⟩, hW, hsame.mono (by decide) (by decide)⟩
      · show Sp p e below s₁ (mkF m 6 #[.val (.int (1 : Int32)), .val (.int p2), .val (.int p3), .val (.int p4)] [(.int (0 : Int32))]) _
        exact retN X0 hx (t := .boolean) Bd.returns (by simp) (hb hby d_method_5_6) hr
      · show Q_same Z _ _ _ _ h0 n0 _ s₁.heap _
        rw [e0]
        exact ⟨by unfold own_eqv; rw [if_neg hc6], N0, rfl⟩
  · skip
    have pre_17 : ∀ t, Sp p e below s₁ (mkF m 2 #[.val (.int (2 : Int32)), .val (.int p2), .val (.int p3), .val (.int p4)] [(.int p3), (.int (2 : Int32))]) t → Steps p.tables e below E0 t := by
      intro t k
      refine pre0 t ?_
      show Sp p e below s₁ (mkF m 0 #[.val (.int (2 : Int32)), .val (.int p2), .val (.int p3), .val (.int p4)] []) _
      refine XS.iloadN X0.here hx rfl (hb hby d_method_5_0) rfl ?_
      refine XS.iloadN X0.here hx rfl (hb hby d_method_5_1) rfl ?_
      exact k
    by_cases hc18 : (2 : Int32) = p3
    · skip
      have pre_19 : ∀ t, Sp p e below s₁ (mkF m 13 #[.val (.int (2 : Int32)), .val (.int p2), .val (.int p3), .val (.int p4)] [(.int (0 : Int32)), (.int p2)]) t → Steps p.tables e below E0 t := by
        intro t k
        refine pre_17 t ?_
        show Sp p e below s₁ (mkF m 2 #[.val (.int (2 : Int32)), .val (.int p2), .val (.int p3), .val (.int p4)] [(.int p3), (.int (2 : Int32))]) _
        refine XS.icmpYes X0.here hx rfl (pc0 := 2) (pc' := 7) rfl (hb hby d_method_5_2) rfl (XT.ii_eq_t hc18) (by decide) (by decide) ?_
        refine XS.iloadN X0.here hx rfl (hb hby d_method_5_7) rfl ?_
        show Sp p e below s₁ (mkF m 8 #[.val (.int (2 : Int32)), .val (.int p2), .val (.int p3), .val (.int p4)] [(.int (2 : Int32))]) _
        refine XS.ifNo X0.here hx rfl (hb hby d_method_5_8) rfl (XT.i0_le_f (by decide)) ?_
        refine XS.iloadN X0.here hx rfl (hb hby d_method_5_11) rfl ?_
        refine XS.iconst X0.here hx rfl (hb hby d_method_5_12) ?_
        exact k
      obtain ⟨_, _, ⟨T20, L20, k20, n20⟩, -, X20, ⟨Lc20, hQ20, l20, y20, z20⟩, st20⟩ := Jvm.LawKit.callS X0 hx (y := (⟨"com/example/foretell/foretell/core/ModelValueEqualsPinLaw", "ch", "(II)C"⟩ : MethodName)) hown (mvT hZ (own_w hw 26 rfl)) (mvT hZ (own_w hw 27 rfl)) (mvT hZ (own_w hw 2 rfl)) (mvT hZ (own_w hw 28 rfl)) (by decide) (backOf (W := 0) (rm_ch l Z a0 hw [] p2 (0 : Int32) h0 n0 O0) hZ (own_w hw 28 rfl) (own_w hw 2 rfl) (by decide) (by decide)) (g := (mkF m 13 #[.val (.int (2 : Int32)), .val (.int p2), .val (.int p3), .val (.int p4)] [(.int (0 : Int32)), (.int p2)])) rfl (by rw [hml]; rfl) (argsL := [(.int p2), (.int (0 : Int32))]) (rest := []) (lenOf pd_same_0 rfl) rfl (by show 2 * 0 + _ ≤ _; exact Nat.le_of_eq rfl) (hb hby d_method_5_13) (fun _ _ => ⟨rfl, e0, (by decide : 0 + 0 ≤ _), (by decide : 0 + 0 ≤ _)⟩)
      dsimp only [Pt.U, Pt.locs, Pt.cells, Pt.slots] at X20 l20 y20 z20 st20 hQ20
      subst l20 y20 z20
      obtain ⟨rfl, N20q, e20⟩ := hQ20
      have N20 := Fr.app N0 N20q
      have pre_21 : ∀ t, Sp p e below T20 (mkF m 16 #[.val (.int (2 : Int32)), .val (.int p2), .val (.int p3), .val (.int p4)] [(.int (own_ch p2 (0 : Int32)))]) t → Steps p.tables e below E0 t := fun t k => pre_19 t (st20 t k)
      have pre_22 : ∀ t, Sp p e below T20 (mkF m 18 #[.val (.int (2 : Int32)), .val (.int p2), .val (.int p3), .val (.int p4)] [(.int (0 : Int32)), (.int p4), (.int (own_ch p2 (0 : Int32)))]) t → Steps p.tables e below E0 t := by
        intro t k
        refine pre_21 t ?_
        show Sp p e below T20 (mkF m 16 #[.val (.int (2 : Int32)), .val (.int p2), .val (.int p3), .val (.int p4)] [(.int (own_ch p2 (0 : Int32)))]) _
        refine XS.iloadN X20.here hx rfl (hb hby d_method_5_16) rfl ?_
        show Sp p e below T20 (mkF m 17 #[.val (.int (2 : Int32)), .val (.int p2), .val (.int p3), .val (.int p4)] [(.int p4), (.int (own_ch p2 (0 : Int32)))]) _
        refine XS.iconst X20.here hx rfl (hb hby d_method_5_17) ?_
        exact k
      obtain ⟨_, _, ⟨T23, L23, k23, n23⟩, -, X23, ⟨Lc23, hQ23, l23, y23, z23⟩, st23⟩ := Jvm.LawKit.callS X20 hx (y := (⟨"com/example/foretell/foretell/core/ModelValueEqualsPinLaw", "ch", "(II)C"⟩ : MethodName)) hown (mvT hZ (own_w hw 26 rfl)) (mvT hZ (own_w hw 27 rfl)) (mvT hZ (own_w hw 2 rfl)) (mvT hZ (own_w hw 28 rfl)) (by decide) (backOf (W := 1) (rm_ch l Z a0 hw [] p4 (0 : Int32) h0 n0 O0) hZ (own_w hw 28 rfl) (own_w hw 2 rfl) (by decide) (by decide)) (g := (mkF m 18 #[.val (.int (2 : Int32)), .val (.int p2), .val (.int p3), .val (.int p4)] [(.int (0 : Int32)), (.int p4), (.int (own_ch p2 (0 : Int32)))])) rfl (by rw [hml]; rfl) (argsL := [(.int p4), (.int (0 : Int32))]) (rest := [(.int (own_ch p2 (0 : Int32)))]) (lenOf pd_same_0 rfl) rfl (by show 2 * 0 + _ ≤ _; exact Nat.le_of_eq rfl) (hb hby d_method_5_18) (fun _ _ => ⟨rfl, e20, (by decide : 0 + 0 ≤ _), (by decide : 0 + 0 ≤ _)⟩)
      dsimp only [Pt.U, Pt.locs, Pt.cells, Pt.slots] at X23 l23 y23 z23 st23 hQ23
      subst l23 y23 z23
      obtain ⟨rfl, N23q, e23⟩ := hQ23
      have N23 := Fr.app N20 N23q
      have pre_24 : ∀ t, Sp p e below T23 (mkF m 21 #[.val (.int (2 : Int32)), .val (.int p2), .val (.int p3), .val (.int p4)] [(.int (own_ch p4 (0 : Int32))), (.int (own_ch p2 (0 : Int32)))]) t → Steps p.tables e below E0 t := fun t k => pre_22 t (st23 t k)
      by_cases hc25 : (own_ch p2 (0 : Int32)) = (own_ch p4 (0 : Int32))
      · skip
        have pre_26 : ∀ t, Sp p e below T23 (mkF m 33 #[.val (.int (2 : Int32)), .val (.int p2), .val (.int p3), .val (.int p4)] [(.int (1 : Int32)), (.int p2)]) t → Steps p.tables e below E0 t := by
          intro t k
          refine pre_24 t ?_
          show Sp p e below T23 (mkF m 21 #[.val (.int (2 : Int32)), .val (.int p2), .val (.int p3), .val (.int p4)] [(.int (own_ch p4 (0 : Int32))), (.int (own_ch p2 (0 : Int32)))]) _
          refine XS.icmpYes X23.here hx rfl (pc0 := 21) (pc' := 26) rfl (hb hby d_method_5_21) rfl (XT.ii_eq_t hc25) (by decide) (by decide) ?_
          refine XS.iloadN X23.here hx rfl (hb hby d_method_5_26) rfl ?_
          refine XS.iconst X23.here hx rfl (hb hby d_method_5_27) ?_
          show Sp p e below T23 (mkF m 28 #[.val (.int (2 : Int32)), .val (.int p2), .val (.int p3), .val (.int p4)] [(.int (1 : Int32)), (.int (2 : Int32))]) _
          refine XS.icmpNo X23.here hx rfl (hb hby d_method_5_28) rfl (XT.ii_le_f (by decide)) ?_
          refine XS.iloadN X23.here hx rfl (hb hby d_method_5_31) rfl ?_
          refine XS.iconst X23.here hx rfl (hb hby d_method_5_32) ?_
          exact k
        obtain ⟨_, _, ⟨T27, L27, k27, n27⟩, -, X27, ⟨Lc27, hQ27, l27, y27, z27⟩, st27⟩ := Jvm.LawKit.callS X23 hx (y := (⟨"com/example/foretell/foretell/core/ModelValueEqualsPinLaw", "ch", "(II)C"⟩ : MethodName)) hown (mvT hZ (own_w hw 26 rfl)) (mvT hZ (own_w hw 27 rfl)) (mvT hZ (own_w hw 2 rfl)) (mvT hZ (own_w hw 28 rfl)) (by decide) (backOf (W := 0) (rm_ch l Z a0 hw [] p2 (1 : Int32) h0 n0 O0) hZ (own_w hw 28 rfl) (own_w hw 2 rfl) (by decide) (by decide)) (g := (mkF m 33 #[.val (.int (2 : Int32)), .val (.int p2), .val (.int p3), .val (.int p4)] [(.int (1 : Int32)), (.int p2)])) rfl (by rw [hml]; rfl) (argsL := [(.int p2), (.int (1 : Int32))]) (rest := []) (lenOf pd_same_0 rfl) rfl (by show 2 * 0 + _ ≤ _; exact Nat.le_of_eq rfl) (hb hby d_method_5_33) (fun _ _ => ⟨rfl, e23, (by decide : 0 + 0 ≤ _), (by decide : 0 + 0 ≤ _)⟩)
        dsimp only [Pt.U, Pt.locs, Pt.cells, Pt.slots] at X27 l27 y27 z27 st27 hQ27
        subst l27 y27 z27
        obtain ⟨rfl, N27q, e27⟩ := hQ27
        have N27 := Fr.app N23 N27q
        have pre_28 : ∀ t, Sp p e below T27 (mkF m 36 #[.val (.int (2 : Int32)), .val (.int p2), .val (.int p3), .val (.int p4)] [(.int (own_ch p2 (1 : Int32)))]) t → Steps p.tables e below E0 t := fun t k => pre_26 t (st27 t k)
        have pre_29 : ∀ t, Sp p e below T27 (mkF m 38 #[.val (.int (2 : Int32)), .val (.int p2), .val (.int p3), .val (.int p4)] [(.int (1 : Int32)), (.int p4), (.int (own_ch p2 (1 : Int32)))]) t → Steps p.tables e below E0 t := by
          intro t k
          refine pre_28 t ?_
          show Sp p e below T27 (mkF m 36 #[.val (.int (2 : Int32)), .val (.int p2), .val (.int p3), .val (.int p4)] [(.int (own_ch p2 (1 : Int32)))]) _
          refine XS.iloadN X27.here hx rfl (hb hby d_method_5_36) rfl ?_
          show Sp p e below T27 (mkF m 37 #[.val (.int (2 : Int32)), .val (.int p2), .val (.int p3), .val (.int p4)] [(.int p4), (.int (own_ch p2 (1 : Int32)))]) _
          refine XS.iconst X27.here hx rfl (hb hby d_method_5_37) ?_
          exact k
        obtain ⟨_, _, ⟨T30, L30, k30, n30⟩, -, X30, ⟨Lc30, hQ30, l30, y30, z30⟩, st30⟩ := Jvm.LawKit.callS X27 hx (y := (⟨"com/example/foretell/foretell/core/ModelValueEqualsPinLaw", "ch", "(II)C"⟩ : MethodName)) hown (mvT hZ (own_w hw 26 rfl)) (mvT hZ (own_w hw 27 rfl)) (mvT hZ (own_w hw 2 rfl)) (mvT hZ (own_w hw 28 rfl)) (by decide) (backOf (W := 1) (rm_ch l Z a0 hw [] p4 (1 : Int32) h0 n0 O0) hZ (own_w hw 28 rfl) (own_w hw 2 rfl) (by decide) (by decide)) (g := (mkF m 38 #[.val (.int (2 : Int32)), .val (.int p2), .val (.int p3), .val (.int p4)] [(.int (1 : Int32)), (.int p4), (.int (own_ch p2 (1 : Int32)))])) rfl (by rw [hml]; rfl) (argsL := [(.int p4), (.int (1 : Int32))]) (rest := [(.int (own_ch p2 (1 : Int32)))]) (lenOf pd_same_0 rfl) rfl (by show 2 * 0 + _ ≤ _; exact Nat.le_of_eq rfl) (hb hby d_method_5_38) (fun _ _ => ⟨rfl, e27, (by decide : 0 + 0 ≤ _), (by decide : 0 + 0 ≤ _)⟩)
        dsimp only [Pt.U, Pt.locs, Pt.cells, Pt.slots] at X30 l30 y30 z30 st30 hQ30
        subst l30 y30 z30
        obtain ⟨rfl, N30q, e30⟩ := hQ30
        have N30 := Fr.app N27 N30q
        have pre_31 : ∀ t, Sp p e below T30 (mkF m 41 #[.val (.int (2 : Int32)), .val (.int p2), .val (.int p3), .val (.int p4)] [(.int (own_ch p4 (1 : Int32))), (.int (own_ch p2 (1 : Int32)))]) t → Steps p.tables e below E0 t := fun t k => pre_29 t (st30 t k)
        by_cases hc32 : (own_ch p2 (1 : Int32)) = (own_ch p4 (1 : Int32))
        · skip
          have pre_33 : ∀ t, Sp p e below T30 (mkF m 67 #[.val (.int (2 : Int32)), .val (.int p2), .val (.int p3), .val (.int p4)] [(.int (1 : Int32))]) t → Steps p.tables e below E0 t := by
            intro t k
            refine pre_31 t ?_
            show Sp p e below T30 (mkF m 41 #[.val (.int (2 : Int32)), .val (.int p2), .val (.int p3), .val (.int p4)] [(.int (own_ch p4 (1 : Int32))), (.int (own_ch p2 (1 : Int32)))]) _
            refine XS.icmpYes X30.here hx rfl (pc0 := 41) (pc' := 46) rfl (hb hby d_method_5_41) rfl (XT.ii_eq_t hc32) (by decide) (by decide) ?_
            refine XS.iloadN X30.here hx rfl (hb hby d_method_5_46) rfl ?_
            refine XS.iconst X30.here hx rfl (hb hby d_method_5_47) ?_
            show Sp p e below T30 (mkF m 48 #[.val (.int (2 : Int32)), .val (.int p2), .val (.int p3), .val (.int p4)] [(.int (2 : Int32)), (.int (2 : Int32))]) _
            refine XS.icmpYes X30.here hx rfl (pc0 := 48) (pc' := 66) rfl (hb hby d_method_5_48) rfl (XT.ii_le_t (by decide)) (by decide) (by decide) ?_
            refine XS.iconst X30.here hx rfl (hb hby d_method_5_66) ?_
            exact k
          obtain ⟨fs, hr, hrun, hended, hW, hsame⟩ := X30.leave (v := some (.int (1 : Int32))) (fun h => by rw [Bd.returns] at h; cases h)
          refine ⟨_, _, pre_33 _ ?_, hrun, hended, _, _, rfl, ?_, ⟨_, rfl⟩, hW, hsame.mono (by decide) (by decide)⟩
          · show Sp p e below T30 (mkF m 67 #[.val (.int (2 : Int32)), .val (.int p2), .val (.int p3), .val (.int p4)] [(.int (1 : Int32))]) _
            exact retN X30 hx (t := .boolean) Bd.returns (by simp) (hb hby d_method_5_67) hr
          · show Q_same Z _ _ _ _ h0 n0 _ T30.heap _
            rw [e30]
            exact ⟨by unfold own_eqv; rw [if_pos hc18, if_neg (by decide), if_pos hc25, if_neg (by decide), if_pos hc32, if_pos (by decide)], N30, rfl⟩
        · skip
          have pre_34 : ∀ t, Sp p e below T30 (mkF m 45 #[.val (.int (2 : Int32)), .val (.int p2), .val (.int p3), .val (.int p4)] [(.int (0 : Int32))]) t → Steps p.tables e below E0 t := by
            intro t k
            refine pre_31 t ?_
            show Sp p e below T30 (mkF m 41 #[.val (.int (2 : Int32)), .val (.int p2), .val (.int p3), .val (.int p4)] [(.int (own_ch p4 (1 : Int32))), (.int (own_ch p2 (1 : Int32)))]) _
            refine XS.icmpNo X30.here hx rfl (hb hby d_method_5_41) rfl (XT.ii_eq_f hc32) ?_
            refine XS.iconst X30.here hx rfl (hb hby d_method_5_44) ?_
            exact k
          obtain ⟨fs, hr, hrun, hended, hW, hsame⟩ := X30.leave (v := some (.int (0 : Int32))) (fun h => by rw [Bd.returns] at h; cases h)
          refine ⟨_, _, pre_34 _ ?_, hrun, hended, _, _, rfl, ?_, ⟨_, rfl⟩, hW, hsame.mono (by decide) (by decide)⟩
          · show Sp p e below T30 (mkF m 45 #[.val (.int (2 : Int32)), .val (.int p2), .val (.int p3), .val (.int p4)] [(.int (0 : Int32))]) _
            exact retN X30 hx (t := .boolean) Bd.returns (by simp) (hb hby d_method_5_45) hr
          · show Q_same Z _ _ _ _ h0 n0 _ T30.heap _
            rw [e30]
            exact ⟨by unfold own_eqv; rw [if_pos hc18, if_neg (by decide), if_pos hc25, if_neg (by decide), if_neg hc32], N30, rfl⟩
      · skip
        have pre_35 : ∀ t, Sp p e below T23 (mkF m 25 #[.val (.int (2 : Int32)), .val (.int p2), .val (.int p3), .val (.int p4)] [(.int (0 : Int32))]) t → Steps p.tables e below E0 t := by
          intro t k
          refine pre_24 t ?_
          show Sp p e below T23 (mkF m 21 #[.val (.int (2 : Int32)), .val (.int p2), .val (.int p3), .val (.int p4)] [(.int (own_ch p4 (0 : Int32))), (.int (own_ch p2 (0 : Int32)))]) _
          refine XS.icmpNo X23.here hx rfl (hb hby d_method_5_21) rfl (XT.ii_eq_f hc25) ?_
          refine XS.iconst X23.here hx rfl (hb hby d_method_5_24) ?_
          exact k
        obtain ⟨fs, hr, hrun, hended, hW, hsame⟩ := X23.leave (v := some (.int (0 : Int32))) (fun h => by rw [Bd.returns] at h; cases h)
        refine ⟨_, _, pre_35 _ ?_, hrun, hended, _, _, rfl, ?_, ⟨_, rfl⟩, hW, hsame.mono (by decide) (by decide)⟩
        · show Sp p e below T23 (mkF m 25 #[.val (.int (2 : Int32)), .val (.int p2), .val (.int p3), .val (.int p4)] [(.int (0 : Int32))]) _
          exact retN X23 hx (t := .boolean) Bd.returns (by simp) (hb hby d_method_5_25) hr
        · show Q_same Z _ _ _ _ h0 n0 _ T23.heap _
          rw [e23]
          exact ⟨by unfold own_eqv; rw [if_pos hc18, if_neg (by decide), if_neg hc25], N23, rfl⟩
    · skip
      have pre_36 : ∀ t, Sp p e below s₁ (mkF m 6 #[.val (.int (2 : Int32)), .val (.int p2), .val (.int p3), .val (.int p4)] [(.int (0 : Int32))]) t → Steps p.tables e below E0 t := by
        intro t k
        refine pre_17 t ?_
        show Sp p e below s₁ (mkF m 2 #[.val (.int (2 : Int32)), .val (.int p2), .val (.int p3), .val (.int p4)] [(.int p3), (.int (2 : Int32))]) _
        refine XS.icmpNo X0.here hx rfl (hb hby d_method_5_2) rfl (XT.ii_eq_f hc18) ?_
        refine XS.iconst X0.here hx rfl (hb hby d_method_5_5) ?_
        show Sp p e below s₁ (mkF m 6 #[.val (.int (2 : Int32)), .val (.int p2), .val (.int p3), .val (.int p4)] [(.int (0 : Int32))]) _
        exact k
      obtain ⟨fs, hr, hrun, hended, hW, hsame⟩ := X0.leave (v := some (.int (0 : Int32))) (fun h => by rw [Bd.returns] at h; cases h)
      refine ⟨_, _, pre_36 _ ?_, hrun, hended, _, _, rfl, ?_, ⟨_, rfl⟩, hW, hsame.mono (by decide) (by decide)⟩
      · show Sp p e below s₁ (mkF m 6 #[.val (.int (2 : Int32)), .val (.int p2), .val (.int p3), .val (.int p4)] [(.int (0 : Int32))]) _
        exact retN X0 hx (t := .boolean) Bd.returns (by simp) (hb hby d_method_5_6) hr
      · show Q_same Z _ _ _ _ h0 n0 _ s₁.heap _
        rw [e0]
        exact ⟨by unfold own_eqv; rw [if_neg hc18], N0, rfl⟩
  · skip
    have pre_37 : ∀ t, Sp p e below s₁ (mkF m 2 #[.val (.int (3 : Int32)), .val (.int p2), .val (.int p3), .val (.int p4)] [(.int p3), (.int (3 : Int32))]) t → Steps p.tables e below E0 t := by
      intro t k
      refine pre0 t ?_
      show Sp p e below s₁ (mkF m 0 #[.val (.int (3 : Int32)), .val (.int p2), .val (.int p3), .val (.int p4)] []) _
      refine XS.iloadN X0.here hx rfl (hb hby d_method_5_0) rfl ?_
      refine XS.iloadN X0.here hx rfl (hb hby d_method_5_1) rfl ?_
      exact k
    by_cases hc38 : (3 : Int32) = p3
    · skip
      have pre_39 : ∀ t, Sp p e below s₁ (mkF m 13 #[.val (.int (3 : Int32)), .val (.int p2), .val (.int p3), .val (.int p4)] [(.int (0 : Int32)), (.int p2)]) t → Steps p.tables e below E0 t := by
        intro t k
        refine pre_37 t ?_
        show Sp p e below s₁ (mkF m 2 #[.val (.int (3 : Int32)), .val (.int p2), .val (.int p3), .val (.int p4)] [(.int p3), (.int (3 : Int32))]) _
        refine XS.icmpYes X0.here hx rfl (pc0 := 2) (pc' := 7) rfl (hb hby d_method_5_2) rfl (XT.ii_eq_t hc38) (by decide) (by decide) ?_
        refine XS.iloadN X0.here hx rfl (hb hby d_method_5_7) rfl ?_
        show Sp p e below s₁ (mkF m 8 #[.val (.int (3 : Int32)), .val (.int p2), .val (.int p3), .val (.int p4)] [(.int (3 : Int32))]) _
        refine XS.ifNo X0.here hx rfl (hb hby d_method_5_8) rfl (XT.i0_le_f (by decide)) ?_
        refine XS.iloadN X0.here hx rfl (hb hby d_method_5_11) rfl ?_
        refine XS.iconst X0.here hx rfl (hb hby d_method_5_12) ?_
        exact k
      obtain ⟨_, _, ⟨T40, L40, k40, n40⟩, -, X40, ⟨Lc40, hQ40, l40, y40, z40⟩, st40⟩ := Jvm.LawKit.callS X0 hx (y := (⟨"com/example/foretell/foretell/core/ModelValueEqualsPinLaw", "ch", "(II)C"⟩ : MethodName)) hown (mvT hZ (own_w hw 26 rfl)) (mvT hZ (own_w hw 27 rfl)) (mvT hZ (own_w hw 2 rfl)) (mvT hZ (own_w hw 28 rfl)) (by decide) (backOf (W := 0) (rm_ch l Z a0 hw [] p2 (0 : Int32) h0 n0 O0) hZ (own_w hw 28 rfl) (own_w hw 2 rfl) (by decide) (by decide)) (g := (mkF m 13 #[.val (.int (3 : Int32)), .val (.int p2), .val (.int p3), .val (.int p4)] [(.int (0 : Int32)), (.int p2)])) rfl (by rw [hml]; rfl) (argsL := [(.int p2), (.int (0 : Int32))]) (rest := []) (lenOf pd_same_0 rfl) rfl (by show 2 * 0 + _ ≤ _; exact Nat.le_of_eq rfl) (hb hby d_method_5_13) (fun _ _ => ⟨rfl, e0, (by decide : 0 + 0 ≤ _), (by decide : 0 + 0 ≤ _)⟩)
      dsimp only [Pt.U, Pt.locs, Pt.cells, Pt.slots] at X40 l40 y40 z40 st40 hQ40
      subst l40 y40 z40
      obtain ⟨rfl, N40q, e40⟩ := hQ40
      have N40 := Fr.app N0 N40q
      have pre_41 : ∀ t, Sp p e below T40 (mkF m 16 #[.val (.int (3 : Int32)), .val (.int p2), .val (.int p3), .val (.int p4)] [(.int (own_ch p2 (0 : Int32)))]) t → Steps p.tables e below E0 t := fun t k => pre_39 t (st40 t k)
      have pre_42 : ∀ t, Sp p e below T40 (mkF m 18 #[.val (.int (3 : Int32)), .val (.int p2), .val (.int p3), .val (.int p4)] [(.int (0 : Int32)), (.int p4), (.int (own_ch p2 (0 : Int32)))]) t → Steps p.tables e below E0 t := by
        intro t k
        refine pre_41 t ?_
        show Sp p e below T40 (mkF m 16 #[.val (.int (3 : Int32)), .val (.int p2), .val (.int p3), .val (.int p4)] [(.int (own_ch p2 (0 : Int32)))]) _
        refine XS.iloadN X40.here hx rfl (hb hby d_method_5_16) rfl ?_
        show Sp p e below T40 (mkF m 17 #[.val (.int (3 : Int32)), .val (.int p2), .val (.int p3), .val (.int p4)] [(.int p4), (.int (own_ch p2 (0 : Int32)))]) _
        refine XS.iconst X40.here hx rfl (hb hby d_method_5_17) ?_
        exact k
      obtain ⟨_, _, ⟨T43, L43, k43, n43⟩, -, X43, ⟨Lc43, hQ43, l43, y43, z43⟩, st43⟩ := Jvm.LawKit.callS X40 hx (y := (⟨"com/example/foretell/foretell/core/ModelValueEqualsPinLaw", "ch", "(II)C"⟩ : MethodName)) hown (mvT hZ (own_w hw 26 rfl)) (mvT hZ (own_w hw 27 rfl)) (mvT hZ (own_w hw 2 rfl)) (mvT hZ (own_w hw 28 rfl)) (by decide) (backOf (W := 1) (rm_ch l Z a0 hw [] p4 (0 : Int32) h0 n0 O0) hZ (own_w hw 28 rfl) (own_w hw 2 rfl) (by decide) (by decide)) (g := (mkF m 18 #[.val (.int (3 : Int32)), .val (.int p2), .val (.int p3), .val (.int p4)] [(.int (0 : Int32)), (.int p4), (.int (own_ch p2 (0 : Int32)))])) rfl (by rw [hml]; rfl) (argsL := [(.int p4), (.int (0 : Int32))]) (rest := [(.int (own_ch p2 (0 : Int32)))]) (lenOf pd_same_0 rfl) rfl (by show 2 * 0 + _ ≤ _; exact Nat.le_of_eq rfl) (hb hby d_method_5_18) (fun _ _ => ⟨rfl, e40, (by decide : 0 + 0 ≤ _), (by decide : 0 + 0 ≤ _)⟩)
      dsimp only [Pt.U, Pt.locs, Pt.cells, Pt.slots] at X43 l43 y43 z43 st43 hQ43
      subst l43 y43 z43
      obtain ⟨rfl, N43q, e43⟩ := hQ43
      have N43 := Fr.app N40 N43q
      have pre_44 : ∀ t, Sp p e below T43 (mkF m 21 #[.val (.int (3 : Int32)), .val (.int p2), .val (.int p3), .val (.int p4)] [(.int (own_ch p4 (0 : Int32))), (.int (own_ch p2 (0 : Int32)))]) t → Steps p.tables e below E0 t := fun t k => pre_42 t (st43 t k)
      by_cases hc45 : (own_ch p2 (0 : Int32)) = (own_ch p4 (0 : Int32))
      · skip
        have pre_46 : ∀ t, Sp p e below T43 (mkF m 33 #[.val (.int (3 : Int32)), .val (.int p2), .val (.int p3), .val (.int p4)] [(.int (1 : Int32)), (.int p2)]) t → Steps p.tables e below E0 t := by
          intro t k
          refine pre_44 t ?_
          show Sp p e below T43 (mkF m 21 #[.val (.int (3 : Int32)), .val (.int p2), .val (.int p3), .val (.int p4)] [(.int (own_ch p4 (0 : Int32))), (.int (own_ch p2 (0 : Int32)))]) _
          refine XS.icmpYes X43.here hx rfl (pc0 := 21) (pc' := 26) rfl (hb hby d_method_5_21) rfl (XT.ii_eq_t hc45) (by decide) (by decide) ?_
          refine XS.iloadN X43.here hx rfl (hb hby d_method_5_26) rfl ?_
          refine XS.iconst X43.here hx rfl (hb hby d_method_5_27) ?_
          show Sp p e below T43 (mkF m 28 #[.val (.int (3 : Int32)), .val (.int p2), .val (.int p3), .val (.int p4)] [(.int (1 : Int32)), (.int (3 : Int32))]) _
          refine XS.icmpNo X43.here hx rfl (hb hby d_method_5_28) rfl (XT.ii_le_f (by decide)) ?_
          refine XS.iloadN X43.here hx rfl (hb hby d_method_5_31) rfl ?_
          refine XS.iconst X43.here hx rfl (hb hby d_method_5_32) ?_
          exact k
        obtain ⟨_, _, ⟨T47, L47, k47, n47⟩, -, X47, ⟨Lc47, hQ47, l47, y47, z47⟩, st47⟩ := Jvm.LawKit.callS X43 hx (y := (⟨"com/example/foretell/foretell/core/ModelValueEqualsPinLaw", "ch", "(II)C"⟩ : MethodName)) hown (mvT hZ (own_w hw 26 rfl)) (mvT hZ (own_w hw 27 rfl)) (mvT hZ (own_w hw 2 rfl)) (mvT hZ (own_w hw 28 rfl)) (by decide) (backOf (W := 0) (rm_ch l Z a0 hw [] p2 (1 : Int32) h0 n0 O0) hZ (own_w hw 28 rfl) (own_w hw 2 rfl) (by decide) (by decide)) (g := (mkF m 33 #[.val (.int (3 : Int32)), .val (.int p2), .val (.int p3), .val (.int p4)] [(.int (1 : Int32)), (.int p2)])) rfl (by rw [hml]; rfl) (argsL := [(.int p2), (.int (1 : Int32))]) (rest := []) (lenOf pd_same_0 rfl) rfl (by show 2 * 0 + _ ≤ _; exact Nat.le_of_eq rfl) (hb hby d_method_5_33) (fun _ _ => ⟨rfl, e43, (by decide : 0 + 0 ≤ _), (by decide : 0 + 0 ≤ _)⟩)
        dsimp only [Pt.U, Pt.locs, Pt.cells, Pt.slots] at X47 l47 y47 z47 st47 hQ47
        subst l47 y47 z47
        obtain ⟨rfl, N47q, e47⟩ := hQ47
        have N47 := Fr.app N43 N47q
        have pre_48 : ∀ t, Sp p e below T47 (mkF m 36 #[.val (.int (3 : Int32)), .val (.int p2), .val (.int p3), .val (.int p4)] [(.int (own_ch p2 (1 : Int32)))]) t → Steps p.tables e below E0 t := fun t k => pre_46 t (st47 t k)
        have pre_49 : ∀ t, Sp p e below T47 (mkF m 38 #[.val (.int (3 : Int32)), .val (.int p2), .val (.int p3), .val (.int p4)] [(.int (1 : Int32)), (.int p4), (.int (own_ch p2 (1 : Int32)))]) t → Steps p.tables e below E0 t := by
          intro t k
          refine pre_48 t ?_
          show Sp p e below T47 (mkF m 36 #[.val (.int (3 : Int32)), .val (.int p2), .val (.int p3), .val (.int p4)] [(.int (own_ch p2 (1 : Int32)))]) _
          refine XS.iloadN X47.here hx rfl (hb hby d_method_5_36) rfl ?_
          show Sp p e below T47 (mkF m 37 #[.val (.int (3 : Int32)), .val (.int p2), .val (.int p3), .val (.int p4)] [(.int p4), (.int (own_ch p2 (1 : Int32)))]) _
          refine XS.iconst X47.here hx rfl (hb hby d_method_5_37) ?_
          exact k
        obtain ⟨_, _, ⟨T50, L50, k50, n50⟩, -, X50, ⟨Lc50, hQ50, l50, y50, z50⟩, st50⟩ := Jvm.LawKit.callS X47 hx (y := (⟨"com/example/foretell/foretell/core/ModelValueEqualsPinLaw", "ch", "(II)C"⟩ : MethodName)) hown (mvT hZ (own_w hw 26 rfl)) (mvT hZ (own_w hw 27 rfl)) (mvT hZ (own_w hw 2 rfl)) (mvT hZ (own_w hw 28 rfl)) (by decide) (backOf (W := 1) (rm_ch l Z a0 hw [] p4 (1 : Int32) h0 n0 O0) hZ (own_w hw 28 rfl) (own_w hw 2 rfl) (by decide) (by decide)) (g := (mkF m 38 #[.val (.int (3 : Int32)), .val (.int p2), .val (.int p3), .val (.int p4)] [(.int (1 : Int32)), (.int p4), (.int (own_ch p2 (1 : Int32)))])) rfl (by rw [hml]; rfl) (argsL := [(.int p4), (.int (1 : Int32))]) (rest := [(.int (own_ch p2 (1 : Int32)))]) (lenOf pd_same_0 rfl) rfl (by show 2 * 0 + _ ≤ _; exact Nat.le_of_eq rfl) (hb hby d_method_5_38) (fun _ _ => ⟨rfl, e47, (by decide : 0 + 0 ≤ _), (by decide : 0 + 0 ≤ _)⟩)
        dsimp only [Pt.U, Pt.locs, Pt.cells, Pt.slots] at X50 l50 y50 z50 st50 hQ50
        subst l50 y50 z50
        obtain ⟨rfl, N50q, e50⟩ := hQ50
        have N50 := Fr.app N47 N50q
        have pre_51 : ∀ t, Sp p e below T50 (mkF m 41 #[.val (.int (3 : Int32)), .val (.int p2), .val (.int p3), .val (.int p4)] [(.int (own_ch p4 (1 : Int32))), (.int (own_ch p2 (1 : Int32)))]) t → Steps p.tables e below E0 t := fun t k => pre_49 t (st50 t k)
        by_cases hc52 : (own_ch p2 (1 : Int32)) = (own_ch p4 (1 : Int32))
        · skip
          have pre_53 : ∀ t, Sp p e below T50 (mkF m 53 #[.val (.int (3 : Int32)), .val (.int p2), .val (.int p3), .val (.int p4)] [(.int (2 : Int32)), (.int p2)]) t → Steps p.tables e below E0 t := by
            intro t k
            refine pre_51 t ?_
            show Sp p e below T50 (mkF m 41 #[.val (.int (3 : Int32)), .val (.int p2), .val (.int p3), .val (.int p4)] [(.int (own_ch p4 (1 : Int32))), (.int (own_ch p2 (1 : Int32)))]) _
            refine XS.icmpYes X50.here hx rfl (pc0 := 41) (pc' := 46) rfl (hb hby d_method_5_41) rfl (XT.ii_eq_t hc52) (by decide) (by decide) ?_
            refine XS.iloadN X50.here hx rfl (hb hby d_method_5_46) rfl ?_
            refine XS.iconst X50.here hx rfl (hb hby d_method_5_47) ?_
            show Sp p e below T50 (mkF m 48 #[.val (.int (3 : Int32)), .val (.int p2), .val (.int p3), .val (.int p4)] [(.int (2 : Int32)), (.int (3 : Int32))]) _
            refine XS.icmpNo X50.here hx rfl (hb hby d_method_5_48) rfl (XT.ii_le_f (by decide)) ?_
            refine XS.iloadN X50.here hx rfl (hb hby d_method_5_51) rfl ?_
            refine XS.iconst X50.here hx rfl (hb hby d_method_5_52) ?_
            exact k
          obtain ⟨_, _, ⟨T54, L54, k54, n54⟩, -, X54, ⟨Lc54, hQ54, l54, y54, z54⟩, st54⟩ := Jvm.LawKit.callS X50 hx (y := (⟨"com/example/foretell/foretell/core/ModelValueEqualsPinLaw", "ch", "(II)C"⟩ : MethodName)) hown (mvT hZ (own_w hw 26 rfl)) (mvT hZ (own_w hw 27 rfl)) (mvT hZ (own_w hw 2 rfl)) (mvT hZ (own_w hw 28 rfl)) (by decide) (backOf (W := 0) (rm_ch l Z a0 hw [] p2 (2 : Int32) h0 n0 O0) hZ (own_w hw 28 rfl) (own_w hw 2 rfl) (by decide) (by decide)) (g := (mkF m 53 #[.val (.int (3 : Int32)), .val (.int p2), .val (.int p3), .val (.int p4)] [(.int (2 : Int32)), (.int p2)])) rfl (by rw [hml]; rfl) (argsL := [(.int p2), (.int (2 : Int32))]) (rest := []) (lenOf pd_same_0 rfl) rfl (by show 2 * 0 + _ ≤ _; exact Nat.le_of_eq rfl) (hb hby d_method_5_53) (fun _ _ => ⟨rfl, e50, (by decide : 0 + 0 ≤ _), (by decide : 0 + 0 ≤ _)⟩)
          dsimp only [Pt.U, Pt.locs, Pt.cells, Pt.slots] at X54 l54 y54 z54 st54 hQ54
          subst l54 y54 z54
          obtain ⟨rfl, N54q, e54⟩ := hQ54
          have N54 := Fr.app N50 N54q
          have pre_55 : ∀ t, Sp p e below T54 (mkF m 56 #[.val (.int (3 : Int32)), .val (.int p2), .val (.int p3), .val (.int p4)] [(.int (own_ch p2 (2 : Int32)))]) t → Steps p.tables e below E0 t := fun t k => pre_53 t (st54 t k)
          have pre_56 : ∀ t, Sp p e below T54 (mkF m 58 #[.val (.int (3 : Int32)), .val (.int p2), .val (.int p3), .val (.int p4)] [(.int (2 : Int32)), (.int p4), (.int (own_ch p2 (2 : Int32)))]) t → Steps p.tables e below E0 t := by
            intro t k
            refine pre_55 t ?_
            show Sp p e below T54 (mkF m 56 #[.val (.int (3 : Int32)), .val (.int p2), .val (.int p3), .val (.int p4)] [(.int (own_ch p2 (2 : Int32)))]) _
            refine XS.iloadN X54.here hx rfl (hb hby d_method_5_56) rfl ?_
            show Sp p e below T54 (mkF m 57 #[.val (.int (3 : Int32)), .val (.int p2), .val (.int p3), .val (.int p4)] [(.int p4), (.int (own_ch p2 (2 : Int32)))]) _
            refine XS.iconst X54.here hx rfl (hb hby d_method_5_57) ?_
            exact k
          obtain ⟨_, _, ⟨T57, L57, k57, n57⟩, -, X57, ⟨Lc57, hQ57, l57, y57, z57⟩, st57⟩ := Jvm.LawKit.callS X54 hx (y := (⟨"com/example/foretell/foretell/core/ModelValueEqualsPinLaw", "ch", "(II)C"⟩ : MethodName)) hown (mvT hZ (own_w hw 26 rfl)) (mvT hZ (own_w hw 27 rfl)) (mvT hZ (own_w hw 2 rfl)) (mvT hZ (own_w hw 28 rfl)) (by decide) (backOf (W := 1) (rm_ch l Z a0 hw [] p4 (2 : Int32) h0 n0 O0) hZ (own_w hw 28 rfl) (own_w hw 2 rfl) (by decide) (by decide)) (g := (mkF m 58 #[.val (.int (3 : Int32)), .val (.int p2), .val (.int p3), .val (.int p4)] [(.int (2 : Int32)), (.int p4), (.int (own_ch p2 (2 : Int32)))])) rfl (by rw [hml]; rfl) (argsL := [(.int p4), (.int (2 : Int32))]) (rest := [(.int (own_ch p2 (2 : Int32)))]) (lenOf pd_same_0 rfl) rfl (by show 2 * 0 + _ ≤ _; exact Nat.le_of_eq rfl) (hb hby d_method_5_58) (fun _ _ => ⟨rfl, e54, (by decide : 0 + 0 ≤ _), (by decide : 0 + 0 ≤ _)⟩)
          dsimp only [Pt.U, Pt.locs, Pt.cells, Pt.slots] at X57 l57 y57 z57 st57 hQ57
          subst l57 y57 z57
          obtain ⟨rfl, N57q, e57⟩ := hQ57
          have N57 := Fr.app N54 N57q
          have pre_58 : ∀ t, Sp p e below T57 (mkF m 61 #[.val (.int (3 : Int32)), .val (.int p2), .val (.int p3), .val (.int p4)] [(.int (own_ch p4 (2 : Int32))), (.int (own_ch p2 (2 : Int32)))]) t → Steps p.tables e below E0 t := fun t k => pre_56 t (st57 t k)
          by_cases hc59 : (own_ch p2 (2 : Int32)) = (own_ch p4 (2 : Int32))
          · skip
            have pre_60 : ∀ t, Sp p e below T57 (mkF m 67 #[.val (.int (3 : Int32)), .val (.int p2), .val (.int p3), .val (.int p4)] [(.int (1 : Int32))]) t → Steps p.tables e below E0 t := by
              intro t k
              refine pre_58 t ?_
              show Sp p e below T57 (mkF m 61 #[.val (.int (3 : Int32)), .val (.int p2), .val (.int p3), .val (.int p4)] [(.int (own_ch p4 (2 : Int32))), (.int (own_ch p2 (2 : Int32)))]) _
              refine XS.icmpYes X57.here hx rfl (pc0 := 61) (pc' := 66) rfl (hb hby d_method_5_61) rfl (XT.ii_eq_t hc59) (by decide) (by decide) ?_
              refine XS.iconst X57.here hx rfl (hb hby d_method_5_66) ?_
              exact k
            obtain ⟨fs, hr, hrun, hended, hW, hsame⟩ := X57.leave (v := some (.int (1 : Int32))) (fun h => by rw [Bd.returns] at h; cases h)
            refine ⟨_, _, pre_60 _ ?_, hrun, hended, _, _, rfl, ?_, ⟨_, rfl⟩, hW, hsame.mono (by decide) (by decide)⟩
            · show Sp p e below T57 (mkF m 67 #[.val (.int (3 : Int32)), .val (.int p2), .val (.int p3), .val (.int p4)] [(.int (1 : Int32))]) _
              exact retN X57 hx (t := .boolean) Bd.returns (by simp) (hb hby d_method_5_67) hr
            · show Q_same Z _ _ _ _ h0 n0 _ T57.heap _
              rw [e57]
              exact ⟨by unfold own_eqv; rw [if_pos hc38, if_neg (by decide), if_pos hc45, if_neg (by decide), if_pos hc52, if_neg (by decide), if_pos hc59], N57, rfl⟩
          · skip
            have pre_61 : ∀ t, Sp p e below T57 (mkF m 65 #[.val (.int (3 : Int32)), .val (.int p2), .val (.int p3), .val (.int p4)] [(.int (0 : Int32))]) t → Steps p.tables e below E0 t := by
              intro t k
              refine pre_58 t ?_
              show Sp p e below T57 (mkF m 61 #[.val (.int (3 : Int32)), .val (.int p2), .val (.int p3), .val (.int p4)] [(.int (own_ch p4 (2 : Int32))), (.int (own_ch p2 (2 : Int32)))]) _
              refine XS.icmpNo X57.here hx rfl (hb hby d_method_5_61) rfl (XT.ii_eq_f hc59) ?_
              refine XS.iconst X57.here hx rfl (hb hby d_method_5_64) ?_
              exact k
            obtain ⟨fs, hr, hrun, hended, hW, hsame⟩ := X57.leave (v := some (.int (0 : Int32))) (fun h => by rw [Bd.returns] at h; cases h)
            refine ⟨_, _, pre_61 _ ?_, hrun, hended, _, _, rfl, ?_, ⟨_, rfl⟩, hW, hsame.mono (by decide) (by decide)⟩
            · show Sp p e below T57 (mkF m 65 #[.val (.int (3 : Int32)), .val (.int p2), .val (.int p3), .val (.int p4)] [(.int (0 : Int32))]) _
              exact retN X57 hx (t := .boolean) Bd.returns (by simp) (hb hby d_method_5_65) hr
            · show Q_same Z _ _ _ _ h0 n0 _ T57.heap _
              rw [e57]
              exact ⟨by unfold own_eqv; rw [if_pos hc38, if_neg (by decide), if_pos hc45, if_neg (by decide), if_pos hc52, if_neg (by decide), if_neg hc59], N57, rfl⟩
        · skip
          have pre_62 : ∀ t, Sp p e below T50 (mkF m 45 #[.val (.int (3 : Int32)), .val (.int p2), .val (.int p3), .val (.int p4)] [(.int (0 : Int32))]) t → Steps p.tables e below E0 t := by
            intro t k
            refine pre_51 t ?_
            show Sp p e below T50 (mkF m 41 #[.val (.int (3 : Int32)), .val (.int p2), .val (.int p3), .val (.int p4)] [(.int (own_ch p4 (1 : Int32))), (.int (own_ch p2 (1 : Int32)))]) _
            refine XS.icmpNo X50.here hx rfl (hb hby d_method_5_41) rfl (XT.ii_eq_f hc52) ?_
            refine XS.iconst X50.here hx rfl (hb hby d_method_5_44) ?_
            exact k
          obtain ⟨fs, hr, hrun, hended, hW, hsame⟩ := X50.leave (v := some (.int (0 : Int32))) (fun h => by rw [Bd.returns] at h; cases h)
          refine ⟨_, _, pre_62 _ ?_, hrun, hended, _, _, rfl, ?_, ⟨_, rfl⟩, hW, hsame.mono (by decide) (by decide)⟩
          · show Sp p e below T50 (mkF m 45 #[.val (.int (3 : Int32)), .val (.int p2), .val (.int p3), .val (.int p4)] [(.int (0 : Int32))]) _
            exact retN X50 hx (t := .boolean) Bd.returns (by simp) (hb hby d_method_5_45) hr
          · show Q_same Z _ _ _ _ h0 n0 _ T50.heap _
            rw [e50]
            exact ⟨by unfold own_eqv; rw [if_pos hc38, if_neg (by decide), if_pos hc45, if_neg (by decide), if_neg hc52], N50, rfl⟩
      · skip
        have pre_63 : ∀ t, Sp p e below T43 (mkF m 25 #[.val (.int (3 : Int32)), .val (.int p2), .val (.int p3), .val (.int p4)] [(.int (0 : Int32))]) t → Steps p.tables e below E0 t := by
          intro t k
          refine pre_44 t ?_
          show Sp p e below T43 (mkF m 21 #[.val (.int (3 : Int32)), .val (.int p2), .val (.int p3), .val (.int p4)] [(.int (own_ch p4 (0 : Int32))), (.int (own_ch p2 (0 : Int32)))]) _
          refine XS.icmpNo X43.here hx rfl (hb hby d_method_5_21) rfl (XT.ii_eq_f hc45) ?_
          refine XS.iconst X43.here hx rfl (hb hby d_method_5_24) ?_
          exact k
        obtain ⟨fs, hr, hrun, hended, hW, hsame⟩ := X43.leave (v := some (.int (0 : Int32))) (fun h => by rw [Bd.returns] at h; cases h)
        refine ⟨_, _, pre_63 _ ?_, hrun, hended, _, _, rfl, ?_, ⟨_, rfl⟩, hW, hsame.mono (by decide) (by decide)⟩
        · show Sp p e below T43 (mkF m 25 #[.val (.int (3 : Int32)), .val (.int p2), .val (.int p3), .val (.int p4)] [(.int (0 : Int32))]) _
          exact retN X43 hx (t := .boolean) Bd.returns (by simp) (hb hby d_method_5_25) hr
        · show Q_same Z _ _ _ _ h0 n0 _ T43.heap _
          rw [e43]
          exact ⟨by unfold own_eqv; rw [if_pos hc38, if_neg (by decide), if_neg hc45], N43, rfl⟩
    · skip
      have pre_64 : ∀ t, Sp p e below s₁ (mkF m 6 #[.val (.int (3 : Int32)), .val (.int p2), .val (.int p3), .val (.int p4)] [(.int (0 : Int32))]) t → Steps p.tables e below E0 t := by
        intro t k
        refine pre_37 t ?_
        show Sp p e below s₁ (mkF m 2 #[.val (.int (3 : Int32)), .val (.int p2), .val (.int p3), .val (.int p4)] [(.int p3), (.int (3 : Int32))]) _
        refine XS.icmpNo X0.here hx rfl (hb hby d_method_5_2) rfl (XT.ii_eq_f hc38) ?_
        refine XS.iconst X0.here hx rfl (hb hby d_method_5_5) ?_
        show Sp p e below s₁ (mkF m 6 #[.val (.int (3 : Int32)), .val (.int p2), .val (.int p3), .val (.int p4)] [(.int (0 : Int32))]) _
        exact k
      obtain ⟨fs, hr, hrun, hended, hW, hsame⟩ := X0.leave (v := some (.int (0 : Int32))) (fun h => by rw [Bd.returns] at h; cases h)
      refine ⟨_, _, pre_64 _ ?_, hrun, hended, _, _, rfl, ?_, ⟨_, rfl⟩, hW, hsame.mono (by decide) (by decide)⟩
      · show Sp p e below s₁ (mkF m 6 #[.val (.int (3 : Int32)), .val (.int p2), .val (.int p3), .val (.int p4)] [(.int (0 : Int32))]) _
        exact retN X0 hx (t := .boolean) Bd.returns (by simp) (hb hby d_method_5_6) hr
      · show Q_same Z _ _ _ _ h0 n0 _ s₁.heap _
        rw [e0]
        exact ⟨by unfold own_eqv; rw [if_neg hc38], N0, rfl⟩
theorem d_prog_195_1_0 : decode prog_195_method_1_code 0 = .ok (.aload_n 0, 1) := by decide +kernel
theorem d_prog_195_1_1 : decode prog_195_method_1_code 1 = .ok (.invokespecial 1, 3) := by decide +kernel
theorem d_prog_195_1_4 : decode prog_195_method_1_code 4 = .ok (.return_, 1) := by decide +kernel
theorem pn_vai : plainName "com/example/foretell/foretell/core/Value" = true := by first | (simp [plainName, overriddenIn]; done) | decide +kernel
theorem ef_vai (m : MethodId) (a1 : Addr) : entryFrame m #[(.ref a1)] 1 = (mkF m 0 #[.val (.ref a1)] []) := by first | (simp [entryFrame, mkF, argsToLocals, Value.category]; done) | rfl
def Q_vai (Z : State) (a1 : Addr)  (h0 : Heap) (n0 : Nat) (v : Option Value) (h : Heap) (L : List Loc) : Prop := v = none ∧ Fr n0 L ∧ h = h0
set_option maxRecDepth 65536 in
set_option maxHeartbeats 40000000 in
theorem rm_vai (l : Launch) (Z : State) (a0 : Array Value) (hw : ∀ d ∈ tables_1, d.before a0 Z = true) (ws : List Jvm.Cond) (a1 : Addr)  (h0 : Heap) (n0 : Nat) (O0 : Old Z n0 h0)  :
    MetFree l (⟨"com/example/foretell/foretell/core/Value", "<init>", "()V"⟩ : MethodName) (head1 (Jvm.Cond.code (⟨"com/example/foretell/foretell/core/Value", "<init>", "()V"⟩ : MethodName) prog_195_method_1_code 1 none :: ws) ({ frames := 1, cells := 0, slots := 0, locals := 12 } : Room)) (fun a U => a = #[(.ref a1)] ∧ Z.Warmed39 U.vm ∧ U.heap = h0) (fun _ _ _ _ _ => True) (fun _ U o U' => ∃ v L, o = .returned v ∧ Q_vai Z a1  h0 n0 v U'.heap L ∧ FrameEnd U o U' L ({ frames := 1, cells := 0, slots := 0, locals := 12 } : Room).cells ({ frames := 1, cells := 0, slots := 0, locals := 12 } : Room).slots) := by
  refine MetFree.of_bodySF (plainFor_of_name pn_vai) hisR ?_
  intro p e s m args below meth c s₁ Bd hml0 hP hK
  obtain ⟨rfl, hZ, hh⟩ := hP
  have hx := Bd.exec
  have hby := Bd.bytes
  have hml : c.maxLocals = 1 := hml0
  have hown : s.vm.findClass "com/example/foretell/foretell/core/Value" = some m.cls := findClass_of_methodNamed Bd.named
  have hnm := (name_of_methodNamed Bd.named Bd.method).1
  have X0 : Stand p l e ({ frames := 1, cells := 0, slots := 0, locals := 12 } : Room) s m #[(.ref a1)] below meth c s₁ [] 0 0 := Stand.of_body Bd
  have e0 : s₁.heap = h0 := by rw [← hh, Bd.state]; rfl
  have N0 := Fr.nil n0
  have pre0 : ∀ t, Steps p.tables e below (s₁.setTop (mkF m 0 #[.val (.ref a1)] [])) t → Steps p.tables e below (s₁.setTop (entryFrame m #[(.ref a1)] 1)) t := fun t k => castTop (ef_vai m a1) k
  generalize s₁.setTop (entryFrame m #[(.ref a1)] 1) = E0 at pre0 ⊢
  have pre_1 : ∀ t, Sp p e below s₁ (mkF m 1 #[.val (.ref a1)] [(.ref a1)]) t → Steps p.tables e below E0 t := by
    intro t k
    refine pre0 t ?_
    show Sp p e below s₁ (mkF m 0 #[.val (.ref a1)] []) _
    refine XS.aloadN X0.here hx rfl (hb hby d_prog_195_1_0) rfl rfl ?_
    exact k
  obtain ⟨T2, X2, e2, st2⟩ := initO X0 hx hZ hown (own_w hw 51 rfl) (own_w hw 16 rfl) (own_w hw 17 rfl) e0 (g := (mkF m 1 #[.val (.ref a1)] [(.ref a1)])) rfl (by rw [hml]; rfl) rfl (hb hby d_prog_195_1_1) (by decide) (W := 0) (by show 2 * 0 + _ ≤ _; exact Nat.le_of_eq rfl) (by decide)
  have pre_3 : ∀ t, Sp p e below T2 (mkF m 4 #[.val (.ref a1)] []) t → Steps p.tables e below E0 t := fun t k => pre_1 t (st2 t k)
  obtain ⟨fs, hr, hrun, hended, hW, hsame⟩ := X2.leave (v := none) (fun _ => rfl)
  refine ⟨_, _, pre_3 _ ?_, hrun, hended, _, _, rfl, ?_, ⟨_, rfl⟩, hW, hsame.mono (by decide) (by decide)⟩
  · show Sp p e below T2 (mkF m 4 #[.val (.ref a1)] []) _
    exact X2.returnOut hx Bd.returns (hb hby d_prog_195_1_4) hr
  · show Q_vai Z _ h0 n0 _ T2.heap _
    rw [e2]
    exact ⟨rfl, N0, rfl⟩
theorem d_prog_82_1_0 : decode prog_82_method_1_code 0 = .ok (.aload_n 0, 1) := by decide +kernel
theorem d_prog_82_1_1 : decode prog_82_method_1_code 1 = .ok (.invokespecial 1, 3) := by decide +kernel
theorem d_prog_82_1_4 : decode prog_82_method_1_code 4 = .ok (.aload_n 0, 1) := by decide +kernel
theorem d_prog_82_1_5 : decode prog_82_method_1_code 5 = .ok (.aload_n 1, 1) := by decide +kernel
theorem d_prog_82_1_6 : decode prog_82_method_1_code 6 = .ok (.putfield 7, 3) := by decide +kernel
theorem d_prog_82_1_9 : decode prog_82_method_1_code 9 = .ok (.return_, 1) := by decide +kernel
theorem pn_mvi : plainName "com/example/foretell/foretell/core/ModelValue" = true := by first | (simp [plainName, overriddenIn]; done) | decide +kernel
theorem pd_mvi_0 : parseMethodDescriptor "()V" = some ⟨[], none⟩ := by decide +kernel
theorem ef_mvi (m : MethodId) (a1 : Addr) (a2 : Addr) : entryFrame m #[(.ref a1), (.ref a2)] 2 = (mkF m 0 #[.val (.ref a1), .val (.ref a2)] []) := by first | (simp [entryFrame, mkF, argsToLocals, Value.category]; done) | rfl
def Q_mvi (Z : State) (a1 : Addr) (a2 : Addr) (u1 : Value) (h0 : Heap) (n0 : Nat) (v : Option Value) (h : Heap) (L : List Loc) : Prop := v = none ∧ Fr n0 L ∧ Keep h0 h [a1] ∧ Fld Z h a1 "com/example/foretell/foretell/core/ModelValue" "name" "Ljava/lang/String;" (.ref a2)
set_option maxRecDepth 65536 in
set_option maxHeartbeats 40000000 in
theorem rm_mvi (l : Launch) (Z : State) (a0 : Array Value) (hw : ∀ d ∈ tables_1, d.before a0 Z = true) (ws : List Jvm.Cond) (a1 : Addr) (a2 : Addr) (u1 : Value) (h0 : Heap) (n0 : Nat) (O0 : Old Z n0 h0) (E1 : Exa Z h0 a1 "com/example/foretell/foretell/core/ModelValue") (F1 : Fld Z h0 a1 "com/example/foretell/foretell/core/ModelValue" "name" "Ljava/lang/String;" u1) (g1 : n0 ≤ a1) :
    MetFree l (⟨"com/example/foretell/foretell/core/ModelValue", "<init>", "(Ljava/lang/String;)V"⟩ : MethodName) (head1 (Jvm.Cond.code (⟨"com/example/foretell/foretell/core/ModelValue", "<init>", "(Ljava/lang/String;)V"⟩ : MethodName) prog_82_method_1_code 2 none :: ws) ({ frames := 2, cells := 0, slots := 0, locals := 24 } : Room)) (fun a U => a = #[(.ref a1), (.ref a2)] ∧ Z.Warmed39 U.vm ∧ U.heap = h0) (fun _ _ _ _ _ => True) (fun _ U o U' => ∃ v L, o = .returned v ∧ Q_mvi Z a1 a2 u1 h0 n0 v U'.heap L ∧ FrameEnd U o U' L ({ frames := 2, cells := 0, slots := 0, locals := 24 } : Room).cells ({ frames := 2, cells := 0, slots := 0, locals := 24 } : Room).slots) := by
  refine MetFree.of_bodySF (plainFor_of_name pn_mvi) hisR ?_
  intro p e s m args below meth c s₁ Bd hml0 hP hK
  obtain ⟨rfl, hZ, hh⟩ := hP
  have hx := Bd.exec
  have hby := Bd.bytes
  have hml : c.maxLocals = 2 := hml0
  have hown : s.vm.findClass "com/example/foretell/foretell/core/ModelValue" = some m.cls := findClass_of_methodNamed Bd.named
  have hnm := (name_of_methodNamed Bd.named Bd.method).1
  have X0 : Stand p l e ({ frames := 2, cells := 0, slots := 0, locals := 24 } : Room) s m #[(.ref a1), (.ref a2)] below meth c s₁ [] 0 0 := Stand.of_body Bd
  have e0 : s₁.heap = h0 := by rw [← hh, Bd.state]; rfl
  have N0 := Fr.nil n0
  have pre0 : ∀ t, Steps p.tables e below (s₁.setTop (mkF m 0 #[.val (.ref a1), .val (.ref a2)] [])) t → Steps p.tables e below (s₁.setTop (entryFrame m #[(.ref a1), (.ref a2)] 2)) t := fun t k => castTop (ef_mvi m a1 a2) k
  generalize s₁.setTop (entryFrame m #[(.ref a1), (.ref a2)] 2) = E0 at pre0 ⊢
  have pre_1 : ∀ t, Sp p e below s₁ (mkF m 1 #[.val (.ref a1), .val (.ref a2)] [(.ref a1)]) t → Steps p.tables e below E0 t := by
    intro t k
    refine pre0 t ?_
    show Sp p e below s₁ (mkF m 0 #[.val (.ref a1), .val (.ref a2)] []) _
    refine XS.aloadN X0.here hx rfl (hb hby d_prog_82_1_0) rfl rfl ?_
    exact k
  obtain ⟨_, _, ⟨T2, L2, k2, n2⟩, -, X2, ⟨Lc2, hQ2, l2, y2, z2⟩, st2⟩ := X0.specialBack hx (y := (⟨"com/example/foretell/foretell/core/Value", "<init>", "()V"⟩ : MethodName)) rfl hown (mvT hZ (own_w hw 46 rfl)) (mvT hZ (own_w hw 47 rfl)) (mvT hZ (own_w hw 50 rfl)) (by decide) (backOf (W := 0) (rm_vai l Z a0 hw [] a1 h0 n0 O0) hZ (own_w hw 50 rfl) (own_w hw 49 rfl) (by decide) (by decide)) (g := (mkF m 1 #[.val (.ref a1), .val (.ref a2)] [(.ref a1)])) rfl (by rw [hml]; rfl) (Steps.refl _) (a := a1) (argsL := []) (rest := []) (lenOf pd_mvi_0 rfl) rfl (by show 2 * 0 + _ ≤ _; exact Nat.le_of_eq rfl) (hb hby d_prog_82_1_1) (fun _ _ => ⟨rfl, e0, (by decide : 0 + 0 ≤ _), (by decide : 0 + 0 ≤ _)⟩)
  dsimp only [Pt.U, Pt.locs, Pt.cells, Pt.slots] at X2 l2 y2 z2 st2 hQ2
  subst l2 y2 z2
  obtain ⟨rfl, N2q, e2⟩ := hQ2
  have N2 := Fr.app N0 N2q
  have pre_3 : ∀ t, Sp p e below T2 (mkF m 4 #[.val (.ref a1), .val (.ref a2)] []) t → Steps p.tables e below E0 t := fun t k => pre_1 t (st2.trans k)
  have pre_4 : ∀ t, Sp p e below T2 (mkF m 6 #[.val (.ref a1), .val (.ref a2)] [(.ref a2), (.ref a1)]) t → Steps p.tables e below E0 t := by
    intro t k
    refine pre_3 t ?_
    show Sp p e below T2 (mkF m 4 #[.val (.ref a1), .val (.ref a2)] []) _
    refine XS.aloadN X2.here hx rfl (hb hby d_prog_82_1_4) rfl rfl ?_
    refine XS.aloadN X2.here hx rfl (hb hby d_prog_82_1_5) rfl rfl ?_
    exact k
  obtain ⟨T5, h5, X5, e5, W5, st5⟩ := putF X2 hx hZ hown (host := "") (Or.inl (own_w hw 52 rfl)) Via.refl e2 F1 E1 (Or.inr ⟨(own_w hw 53 rfl), rfl, hnm⟩) (own_w hw 41 rfl) (ty := (.object "java/lang/String")) (by decide) rfl rfl (g := (mkF m 6 #[.val (.ref a1), .val (.ref a2)] [(.ref a2), (.ref a1)])) rfl rfl (hb hby d_prog_82_1_6)
  have Fw5 := F1.same W5
  have N5 := Fr.snoc X5 N2 g1
  have O5 : Old Z n0 h5 := O0.wr W5 g1
  have pre_6 : ∀ t, Sp p e below T5 (mkF m 9 #[.val (.ref a1), .val (.ref a2)] []) t → Steps p.tables e below E0 t := fun t k => pre_4 t (st5 t k)
  obtain ⟨fs, hr, hrun, hended, hW, hsame⟩ := X5.leave (v := none) (fun _ => rfl)
  refine ⟨_, _, pre_6 _ ?_, hrun, hended, _, _, rfl, ?_, ⟨_, rfl⟩, hW, hsame.mono (by decide) (by decide)⟩
  · show Sp p e below T5 (mkF m 9 #[.val (.ref a1), .val (.ref a2)] []) _
    exact X5.returnOut hx Bd.returns (hb hby d_prog_82_1_9) hr
  · show Q_mvi Z _ _ _ h0 n0 _ T5.heap _
    rw [e5]
    exact ⟨rfl, N5, ((Keep.refl h0 [a1]).wr W5 (Or.inl (List.mem_of_getElem? (i := 0) rfl))), Fw5⟩
theorem d_prog_132_1_0 : decode prog_132_method_1_code 0 = .ok (.aload_n 0, 1) := by decide +kernel
theorem d_prog_132_1_1 : decode prog_132_method_1_code 1 = .ok (.invokespecial 1, 3) := by decide +kernel
theorem d_prog_132_1_4 : decode prog_132_method_1_code 4 = .ok (.aload_n 0, 1) := by decide +kernel
theorem d_prog_132_1_5 : decode prog_132_method_1_code 5 = .ok (.aload_n 1, 1) := by decide +kernel
theorem d_prog_132_1_6 : decode prog_132_method_1_code 6 = .ok (.putfield 7, 3) := by decide +kernel
theorem d_prog_132_1_9 : decode prog_132_method_1_code 9 = .ok (.return_, 1) := by decide +kernel
theorem pn_svi : plainName "com/example/foretell/foretell/core/StringValue" = true := by first | (simp [plainName, overriddenIn]; done) | decide +kernel
theorem pd_svi_0 : parseMethodDescriptor "()V" = some ⟨[], none⟩ := by decide +kernel
theorem ef_svi (m : MethodId) (a1 : Addr) (a2 : Addr) : entryFrame m #[(.ref a1), (.ref a2)] 2 = (mkF m 0 #[.val (.ref a1), .val (.ref a2)] []) := by first | (simp [entryFrame, mkF, argsToLocals, Value.category]; done) | rfl
def Q_svi (Z : State) (a1 : Addr) (a2 : Addr) (u1 : Value) (h0 : Heap) (n0 : Nat) (v : Option Value) (h : Heap) (L : List Loc) : Prop := v = none ∧ Fr n0 L ∧ Keep h0 h [a1] ∧ Fld Z h a1 "com/example/foretell/foretell/core/StringValue" "value" "Ljava/lang/String;" (.ref a2)
set_option maxRecDepth 65536 in
set_option maxHeartbeats 40000000 in
theorem rm_svi (l : Launch) (Z : State) (a0 : Array Value) (hw : ∀ d ∈ tables_1, d.before a0 Z = true) (ws : List Jvm.Cond) (a1 : Addr) (a2 : Addr) (u1 : Value) (h0 : Heap) (n0 : Nat) (O0 : Old Z n0 h0) (E1 : Exa Z h0 a1 "com/example/foretell/foretell/core/StringValue") (F1 : Fld Z h0 a1 "com/example/foretell/foretell/core/StringValue" "value" "Ljava/lang/String;" u1) (g1 : n0 ≤ a1) :
    MetFree l (⟨"com/example/foretell/foretell/core/StringValue", "<init>", "(Ljava/lang/String;)V"⟩ : MethodName) (head1 (Jvm.Cond.code (⟨"com/example/foretell/foretell/core/StringValue", "<init>", "(Ljava/lang/String;)V"⟩ : MethodName) prog_132_method_1_code 2 none :: ws) ({ frames := 2, cells := 0, slots := 0, locals := 24 } : Room)) (fun a U => a = #[(.ref a1), (.ref a2)] ∧ Z.Warmed39 U.vm ∧ U.heap = h0) (fun _ _ _ _ _ => True) (fun _ U o U' => ∃ v L, o = .returned v ∧ Q_svi Z a1 a2 u1 h0 n0 v U'.heap L ∧ FrameEnd U o U' L ({ frames := 2, cells := 0, slots := 0, locals := 24 } : Room).cells ({ frames := 2, cells := 0, slots := 0, locals := 24 } : Room).slots) := by
  refine MetFree.of_bodySF (plainFor_of_name pn_svi) hisR ?_
  intro p e s m args below meth c s₁ Bd hml0 hP hK
  obtain ⟨rfl, hZ, hh⟩ := hP
  have hx := Bd.exec
  have hby := Bd.bytes
  have hml : c.maxLocals = 2 := hml0
  have hown : s.vm.findClass "com/example/foretell/foretell/core/StringValue" = some m.cls := findClass_of_methodNamed Bd.named
  have hnm := (name_of_methodNamed Bd.named Bd.method).1
  have X0 : Stand p l e ({ frames := 2, cells := 0, slots := 0, locals := 24 } : Room) s m #[(.ref a1), (.ref a2)] below meth c s₁ [] 0 0 := Stand.of_body Bd
  have e0 : s₁.heap = h0 := by rw [← hh, Bd.state]; rfl
  have N0 := Fr.nil n0
  have pre0 : ∀ t, Steps p.tables e below (s₁.setTop (mkF m 0 #[.val (.ref a1), .val (.ref a2)] [])) t → Steps p.tables e below (s₁.setTop (entryFrame m #[(.ref a1), (.ref a2)] 2)) t := fun t k => castTop (ef_svi m a1 a2) k
  generalize s₁.setTop (entryFrame m #[(.ref a1), (.ref a2)] 2) = E0 at pre0 ⊢
  have pre_1 : ∀ t, Sp p e below s₁ (mkF m 1 #[.val (.ref a1), .val (.ref a2)] [(.ref a1)]) t → Steps p.tables e below E0 t := by
    intro t k
    refine pre0 t ?_
    show Sp p e below s₁ (mkF m 0 #[.val (.ref a1), .val (.ref a2)] []) _
    refine XS.aloadN X0.here hx rfl (hb hby d_prog_132_1_0) rfl rfl ?_
    exact k
  obtain ⟨_, _, ⟨T2, L2, k2, n2⟩, -, X2, ⟨Lc2, hQ2, l2, y2, z2⟩, st2⟩ := X0.specialBack hx (y := (⟨"com/example/foretell/foretell/core/Value", "<init>", "()V"⟩ : MethodName)) rfl hown (mvT hZ (own_w hw 80 rfl)) (mvT hZ (own_w hw 47 rfl)) (mvT hZ (own_w hw 50 rfl)) (by decide) (backOf (W := 0) (rm_vai l Z a0 hw [] a1 h0 n0 O0) hZ (own_w hw 50 rfl) (own_w hw 49 rfl) (by decide) (by decide)) (g := (mkF m 1 #[.val (.ref a1), .val (.ref a2)] [(.ref a1)])) rfl (by rw [hml]; rfl) (Steps.refl _) (a := a1) (argsL := []) (rest := []) (lenOf pd_svi_0 rfl) rfl (by show 2 * 0 + _ ≤ _; exact Nat.le_of_eq rfl) (hb hby d_prog_132_1_1) (fun _ _ => ⟨rfl, e0, (by decide : 0 + 0 ≤ _), (by decide : 0 + 0 ≤ _)⟩)
  dsimp only [Pt.U, Pt.locs, Pt.cells, Pt.slots] at X2 l2 y2 z2 st2 hQ2
  subst l2 y2 z2
  obtain ⟨rfl, N2q, e2⟩ := hQ2
  have N2 := Fr.app N0 N2q
  have pre_3 : ∀ t, Sp p e below T2 (mkF m 4 #[.val (.ref a1), .val (.ref a2)] []) t → Steps p.tables e below E0 t := fun t k => pre_1 t (st2.trans k)
  have pre_4 : ∀ t, Sp p e below T2 (mkF m 6 #[.val (.ref a1), .val (.ref a2)] [(.ref a2), (.ref a1)]) t → Steps p.tables e below E0 t := by
    intro t k
    refine pre_3 t ?_
    show Sp p e below T2 (mkF m 4 #[.val (.ref a1), .val (.ref a2)] []) _
    refine XS.aloadN X2.here hx rfl (hb hby d_prog_132_1_4) rfl rfl ?_
    refine XS.aloadN X2.here hx rfl (hb hby d_prog_132_1_5) rfl rfl ?_
    exact k
  obtain ⟨T5, h5, X5, e5, W5, st5⟩ := putF X2 hx hZ hown (host := "") (Or.inl (own_w hw 81 rfl)) Via.refl e2 F1 E1 (Or.inr ⟨(own_w hw 82 rfl), rfl, hnm⟩) (own_w hw 75 rfl) (ty := (.object "java/lang/String")) (by decide) rfl rfl (g := (mkF m 6 #[.val (.ref a1), .val (.ref a2)] [(.ref a2), (.ref a1)])) rfl rfl (hb hby d_prog_132_1_6)
  have Fw5 := F1.same W5
  have N5 := Fr.snoc X5 N2 g1
  have O5 : Old Z n0 h5 := O0.wr W5 g1
  have pre_6 : ∀ t, Sp p e below T5 (mkF m 9 #[.val (.ref a1), .val (.ref a2)] []) t → Steps p.tables e below E0 t := fun t k => pre_4 t (st5 t k)
  obtain ⟨fs, hr, hrun, hended, hW, hsame⟩ := X5.leave (v := none) (fun _ => rfl)
  refine ⟨_, _, pre_6 _ ?_, hrun, hended, _, _, rfl, ?_, ⟨_, rfl⟩, hW, hsame.mono (by decide) (by decide)⟩
  · show Sp p e below T5 (mkF m 9 #[.val (.ref a1), .val (.ref a2)] []) _
    exact X5.returnOut hx Bd.returns (hb hby d_prog_132_1_9) hr
  · show Q_svi Z _ _ _ h0 n0 _ T5.heap _
    rw [e5]
    exact ⟨rfl, N5, ((Keep.refl h0 [a1]).wr W5 (Or.inl (List.mem_of_getElem? (i := 0) rfl))), Fw5⟩
theorem d_prog_82_4_0 : decode prog_82_method_4_code 0 = .ok (.aload_n 1, 1) := by decide +kernel
theorem d_prog_82_4_1 : decode prog_82_method_4_code 1 = .ok (.instanceof 8, 3) := by decide +kernel
theorem d_prog_82_4_4 : decode prog_82_method_4_code 4 = .ok (.ifCond .eq 26, 3) := by decide +kernel
theorem d_prog_82_4_7 : decode prog_82_method_4_code 7 = .ok (.aload_n 1, 1) := by decide +kernel
theorem d_prog_82_4_8 : decode prog_82_method_4_code 8 = .ok (.checkcast 8, 3) := by decide +kernel
theorem d_prog_82_4_11 : decode prog_82_method_4_code 11 = .ok (.astore_n 2, 1) := by decide +kernel
theorem d_prog_82_4_12 : decode prog_82_method_4_code 12 = .ok (.aload_n 0, 1) := by decide +kernel
theorem d_prog_82_4_13 : decode prog_82_method_4_code 13 = .ok (.getfield 7, 3) := by decide +kernel
theorem d_prog_82_4_16 : decode prog_82_method_4_code 16 = .ok (.aload_n 2, 1) := by decide +kernel
theorem d_prog_82_4_17 : decode prog_82_method_4_code 17 = .ok (.getfield 7, 3) := by decide +kernel
theorem d_prog_82_4_20 : decode prog_82_method_4_code 20 = .ok (.invokevirtual 25, 3) := by decide +kernel
theorem d_prog_82_4_23 : decode prog_82_method_4_code 23 = .ok (.ifCond .eq 7, 3) := by decide +kernel
theorem d_prog_82_4_26 : decode prog_82_method_4_code 26 = .ok (.iconst 1, 1) := by decide +kernel
theorem d_prog_82_4_27 : decode prog_82_method_4_code 27 = .ok (.goto 4, 3) := by decide +kernel
theorem d_prog_82_4_30 : decode prog_82_method_4_code 30 = .ok (.iconst 0, 1) := by decide +kernel
theorem d_prog_82_4_31 : decode prog_82_method_4_code 31 = .ok (.ireturn, 1) := by decide +kernel
theorem pn_eqm : plainName "com/example/foretell/foretell/core/ModelValue" = true := by first | (simp [plainName, overriddenIn]; done) | decide +kernel
theorem pd_eqm_0 : parseMethodDescriptor "(Ljava/lang/Object;)Z" = some ⟨[(.object "java/lang/Object")], some .boolean⟩ := by decide +kernel
theorem ef_eqm (m : MethodId) (a1 : Addr) (a2 : Addr) : entryFrame m #[(.ref a1), (.ref a2)] 3 = (mkF m 0 #[.val (.ref a1), .val (.ref a2), .unset] []) := by first | (simp [entryFrame, mkF, argsToLocals, Value.category]; done) | rfl
def Q_eqm (Z : State) (a1 : Addr) (a2 : Addr) (s1 s2 b1 b2 : Addr) (G1 : Int32) (k1 k2 : ClassId) (nn mm c0 c1 c2 d0 d1 d2 : Int32) (h0 : Heap) (n0 : Nat) (v : Option Value) (h : Heap) (L : List Loc) : Prop := v = some (.int (own_eqv nn mm c0 d0 c1 d1 c2 d2)) ∧ Fr n0 L ∧ h = h0
set_option maxRecDepth 65536 in
set_option maxHeartbeats 40000000 in
theorem rm_eqm (l : Launch) (Z : State) (a0 : Array Value) (hw : ∀ d ∈ tables_1, d.before a0 Z = true) (ws : List Jvm.Cond) (a1 : Addr) (a2 : Addr) (s1 s2 b1 b2 : Addr) (G1 : Int32) (k1 k2 : ClassId) (nn mm c0 c1 c2 d0 d1 d2 : Int32) (h0 : Heap) (n0 : Nat) (O0 : Old Z n0 h0) (EM : Exa Z h0 a2 "com/example/foretell/foretell/core/ModelValue") (G0 : Fld Z h0 a1 "com/example/foretell/foretell/core/ModelValue" "name" "Ljava/lang/String;" (.ref s1)) (H0 : Fld Z h0 a2 "com/example/foretell/foretell/core/ModelValue" "name" "Ljava/lang/String;" (.ref s2)) (E1 : Exa Z h0 s1 "java/lang/String") (E2 : Exa Z h0 s2 "java/lang/String") (FC1 : Fld Z h0 s1 "java/lang/String" "coder" "B" (.int (0 : Int32))) (FC2 : Fld Z h0 s2 "java/lang/String" "coder" "B" (.int (0 : Int32))) (FV1 : Fld Z h0 s1 "java/lang/String" "value" "[B" (.ref b1)) (FV2 : Fld Z h0 s2 "java/lang/String" "value" "[B" (.ref b2)) (A1 : own_Ar Z h0 b1 k1 nn c0 c1 c2) (A2 : own_Ar Z h0 b2 k2 mm d0 d1 d2) (ne12 : ¬ s1 = s2) (SC : Sta Z Z.heap "java/lang/String" "COMPACT_STRINGS" "Z" (.int G1)) (hG : ¬ G1 = (0 : Int32)) (hc0 : ¬ (255 : Int32) < c0 ∧ ¬ c0 < (0 : Int32)) (hc1 : ¬ (255 : Int32) < c1 ∧ ¬ c1 < (0 : Int32)) (hc2 : ¬ (255 : Int32) < c2 ∧ ¬ c2 < (0 : Int32)) (hd0 : ¬ (255 : Int32) < d0 ∧ ¬ d0 < (0 : Int32)) (hd1 : ¬ (255 : Int32) < d1 ∧ ¬ d1 < (0 : Int32)) (hd2 : ¬ (255 : Int32) < d2 ∧ ¬ d2 < (0 : Int32)) :
    MetFree l (⟨"com/example/foretell/foretell/core/ModelValue", "equals", "(Ljava/lang/Object;)Z"⟩ : MethodName) (head1 (Jvm.Cond.code (⟨"com/example/foretell/foretell/core/ModelValue", "equals", "(Ljava/lang/Object;)Z"⟩ : MethodName) prog_82_method_4_code 3 (some .boolean) :: ws) ({ frames := 2, cells := 0, slots := 0, locals := 28 } : Room)) (fun a U => a = #[(.ref a1), (.ref a2)] ∧ Z.Warmed39 U.vm ∧ U.heap = h0) (fun _ _ _ _ _ => True) (fun _ U o U' => ∃ v L, o = .returned v ∧ Q_eqm Z a1 a2 s1 s2 b1 b2 G1 k1 k2 nn mm c0 c1 c2 d0 d1 d2 h0 n0 v U'.heap L ∧ FrameEnd U o U' L ({ frames := 2, cells := 0, slots := 0, locals := 28 } : Room).cells ({ frames := 2, cells := 0, slots := 0, locals := 28 } : Room).slots) := by
  refine MetFree.of_bodySF (plainFor_of_name pn_eqm) hisR ?_
  intro p e s m args below meth c s₁ Bd hml0 hP hK
  obtain ⟨rfl, hZ, hh⟩ := hP
  have hx := Bd.exec
  have hby := Bd.bytes
  have hml : c.maxLocals = 3 := hml0
  have hown : s.vm.findClass "com/example/foretell/foretell/core/ModelValue" = some m.cls := findClass_of_methodNamed Bd.named
  have hnm := (name_of_methodNamed Bd.named Bd.method).1
  have X0 : Stand p l e ({ frames := 2, cells := 0, slots := 0, locals := 28 } : Room) s m #[(.ref a1), (.ref a2)] below meth c s₁ [] 0 0 := Stand.of_body Bd
  have e0 : s₁.heap = h0 := by rw [← hh, Bd.state]; rfl
  have N0 := Fr.nil n0
  have pre0 : ∀ t, Steps p.tables e below (s₁.setTop (mkF m 0 #[.val (.ref a1), .val (.ref a2), .unset] [])) t → Steps p.tables e below (s₁.setTop (entryFrame m #[(.ref a1), (.ref a2)] 3)) t := fun t k => castTop (ef_eqm m a1 a2) k
  generalize s₁.setTop (entryFrame m #[(.ref a1), (.ref a2)] 3) = E0 at pre0 ⊢
  have pre_1 : ∀ t, Sp p e below s₁ (mkF m 1 #[.val (.ref a1), .val (.ref a2), .unset] [(.ref a2)]) t → Steps p.tables e below E0 t := by
    intro t k
    refine pre0 t ?_
    show Sp p e below s₁ (mkF m 0 #[.val (.ref a1), .val (.ref a2), .unset] []) _
    refine XS.aloadN X0.here hx rfl (hb hby d_prog_82_4_0) rfl rfl ?_
    exact k
  obtain ⟨T2, X2, e2, st2⟩ := instY X0 hx hZ hown (own_w hw 62 rfl) e0 (Ins.self EM) (g := (mkF m 1 #[.val (.ref a1), .val (.ref a2), .unset] [(.ref a2)])) rfl rfl (hb hby d_prog_82_4_1)
  have pre_3 : ∀ t, Sp p e below T2 (mkF m 4 #[.val (.ref a1), .val (.ref a2), .unset] [(.int (1 : Int32))]) t → Steps p.tables e below E0 t := fun t k => pre_1 t (st2 t k)
  have pre_4 : ∀ t, Sp p e below T2 (mkF m 8 #[.val (.ref a1), .val (.ref a2), .unset] [(.ref a2)]) t → Steps p.tables e below E0 t := by
    intro t k
    refine pre_3 t ?_
    show Sp p e below T2 (mkF m 4 #[.val (.ref a1), .val (.ref a2), .unset] [(.int (1 : Int32))]) _
    refine XS.ifNo X2.here hx rfl (hb hby d_prog_82_4_4) rfl (XT.i0_eq_f (by decide)) ?_
    refine XS.aloadN X2.here hx rfl (hb hby d_prog_82_4_7) rfl rfl ?_
    exact k
  obtain ⟨T5, X5, e5, st5⟩ := castY X2 hx hZ hown (own_w hw 62 rfl) e2 (Ins.self EM) (g := (mkF m 8 #[.val (.ref a1), .val (.ref a2), .unset] [(.ref a2)])) rfl rfl (hb hby d_prog_82_4_8)
  have pre_6 : ∀ t, Sp p e below T5 (mkF m 11 #[.val (.ref a1), .val (.ref a2), .unset] [(.ref a2)]) t → Steps p.tables e below E0 t := fun t k => pre_4 t (st5 t k)
  have pre_7 : ∀ t, Sp p e below T5 (mkF m 13 #[.val (.ref a1), .val (.ref a2), .val (.ref a2)] [(.ref a1)]) t → Steps p.tables e below E0 t := by
    intro t k
    refine pre_6 t ?_
    show Sp p e below T5 (mkF m 11 #[.val (.ref a1), .val (.ref a2), .unset] [(.ref a2)]) _
    refine XS.astoreN X5.here hx rfl (hb hby d_prog_82_4_11) rfl rfl (l' := #[.val (.ref a1), .val (.ref a2), .val (.ref a2)]) rfl ?_
    show Sp p e below T5 (mkF m 12 #[.val (.ref a1), .val (.ref a2), .val (.ref a2)] []) _
    refine XS.aloadN X5.here hx rfl (hb hby d_prog_82_4_12) rfl rfl ?_
    exact k
  obtain ⟨T8, X8, e8, st8⟩ := getF X5 hx hZ hown (host := "") (Or.inl (own_w hw 52 rfl)) Via.refl e5 G0 (g := (mkF m 13 #[.val (.ref a1), .val (.ref a2), .val (.ref a2)] [(.ref a1)])) rfl rfl (hb hby d_prog_82_4_13)
  have pre_9 : ∀ t, Sp p e below T8 (mkF m 16 #[.val (.ref a1), .val (.ref a2), .val (.ref a2)] [(.ref s1)]) t → Steps p.tables e below E0 t := fun t k => pre_7 t (st8 t k)
  have pre_10 : ∀ t, Sp p e below T8 (mkF m 17 #[.val (.ref a1), .val (.ref a2), .val (.ref a2)] [(.ref a2), (.ref s1)]) t → Steps p.tables e below E0 t := by
    intro t k
    refine pre_9 t ?_
    show Sp p e below T8 (mkF m 16 #[.val (.ref a1), .val (.ref a2), .val (.ref a2)] [(.ref s1)]) _
    refine XS.aloadN X8.here hx rfl (hb hby d_prog_82_4_16) rfl rfl ?_
    exact k
  obtain ⟨T11, X11, e11, st11⟩ := getF X8 hx hZ hown (host := "") (Or.inl (own_w hw 52 rfl)) Via.refl e8 H0 (g := (mkF m 17 #[.val (.ref a1), .val (.ref a2), .val (.ref a2)] [(.ref a2), (.ref s1)])) rfl rfl (hb hby d_prog_82_4_17)
  have pre_12 : ∀ t, Sp p e below T11 (mkF m 20 #[.val (.ref a1), .val (.ref a2), .val (.ref a2)] [(.ref s2), (.ref s1)]) t → Steps p.tables e below E0 t := fun t k => pre_10 t (st11 t k)
  obtain ⟨cq13, kq13, qa13, qb13, qc13⟩ := isOf hZ e11 E1
  obtain ⟨_, _, ⟨T13, L13, k13, n13⟩, -, X13, ⟨Lc13, hQ13, l13, y13, z13⟩, st13⟩ := X11.virtualBack hx (y := (⟨"java/lang/String", "equals", "(Ljava/lang/Object;)Z"⟩ : MethodName)) (z := (⟨"java/lang/String", "equals", "(Ljava/lang/Object;)Z"⟩ : MethodName)) hown (mvT hZ (own_w hw 64 rfl)) (mvT hZ (own_w hw 65 rfl)) (notFace_of_selects (args := #[]) (mvT hZ (own_w hw 67 rfl))) (mvT hZ (own_w hw 67 rfl)) (mvT hZ (own_w hw 66 rfl)) (by decide) (backOf (W := 0) (rm_seq l Z a0 hw [] s1 s2 b1 b2 G1 k1 k2 nn mm c0 c1 c2 d0 d1 d2 h0 n0 O0 E2 FC1 FC2 FV1 FV2 A1 A2 ne12 SC hG hc0 hc1 hc2 hd0 hd1 hd2) hZ (own_w hw 68 rfl) (own_w hw 6 rfl) (by decide) (by decide)) qa13 qc13 (g := (mkF m 20 #[.val (.ref a1), .val (.ref a2), .val (.ref a2)] [(.ref s2), (.ref s1)])) rfl (by rw [hml]; rfl) (Steps.refl _) (argsL := [(.ref s2)]) (rest := []) (lenOf pd_eqm_0 rfl) rfl (by show 2 * 0 + _ ≤ _; exact Nat.le_of_eq rfl) (hb hby d_prog_82_4_20) (fun _ _ => ⟨rfl, e11, (by decide : 0 + 0 ≤ _), (by decide : 0 + 0 ≤ _)⟩)
  dsimp only [Pt.U, Pt.locs, Pt.cells, Pt.slots] at X13 l13 y13 z13 st13 hQ13
  subst l13 y13 z13
  obtain ⟨rfl, N13q, e13⟩ := hQ13
  have N13 := Fr.app N0 N13q
  have pre_14 : ∀ t, Sp p e below T13 (mkF m 23 #[.val (.ref a1), .val (.ref a2), .val (.ref a2)] [(.int (own_eqv nn mm c0 d0 c1 d1 c2 d2))]) t → Steps p.tables e below E0 t := fun t k => pre_12 t (st13.trans k)
  rcases own_eqv01 nn mm c0 d0 c1 d1 c2 d2 with hv | hv
  · skip
    have pre_15 : ∀ t, Sp p e below T13 (mkF m 31 #[.val (.ref a1), .val (.ref a2), .val (.ref a2)] [(.int (0 : Int32))]) t → Steps p.tables e below E0 t := by
      intro t k
      refine pre_14 t ?_
      show Sp p e below T13 (mkF m 23 #[.val (.ref a1), .val (.ref a2), .val (.ref a2)] [(.int (own_eqv nn mm c0 d0 c1 d1 c2 d2))]) _
      refine XS.ifYes X13.here hx rfl (pc0 := 23) (pc' := 30) rfl (hb hby d_prog_82_4_23) rfl (XT.i0_eq_t hv) (by decide) (by decide) ?_
      refine XS.iconst X13.here hx rfl (hb hby d_prog_82_4_30) ?_
      show Sp p e below T13 (mkF m 31 #[.val (.ref a1), .val (.ref a2), .val (.ref a2)] [(.int (0 : Int32))]) _
      exact k
    obtain ⟨fs, hr, hrun, hended, hW, hsame⟩ := X13.leave (v := some (.int (0 : Int32))) (fun h => by rw [Bd.returns] at h; cases h)
    refine ⟨_, _, pre_15 _ ?_, hrun, hended, _, _, rfl, ?_, ⟨_, rfl⟩, hW, hsame.mono (by decide) (by decide)⟩
    · show Sp p e below T13 (mkF m 31 #[.val (.ref a1), .val (.ref a2), .val (.ref a2)] [(.int (0 : Int32))]) _
      exact retN X13 hx (t := .boolean) Bd.returns (by simp) (hb hby d_prog_82_4_31) hr
    · show Q_eqm Z _ _ _ _ _ _ _ _ _ _ _ _ _ _ _ _ _ h0 n0 _ T13.heap _
      rw [e13]
      exact ⟨by rw [hv], N13, rfl⟩
  · skip
    have pre_16 : ∀ t, Sp p e below T13 (mkF m 31 #[.val (.ref a1), .val (.ref a2), .val (.ref a2)] [(.int (1 : Int32))]) t → Steps p.tables e below E0 t := by
      intro t k
      refine pre_14 t ?_
      show Sp p e below T13 (mkF m 23 #[.val (.ref a1), .val (.ref a2), .val (.ref a2)] [(.int (own_eqv nn mm c0 d0 c1 d1 c2 d2))]) _
      refine XS.ifNo X13.here hx rfl (hb hby d_prog_82_4_23) rfl (XT.i0_eq_f (by rw [hv]; decide)) ?_
      refine XS.iconst X13.here hx rfl (hb hby d_prog_82_4_26) ?_
      show Sp p e below T13 (mkF m 27 #[.val (.ref a1), .val (.ref a2), .val (.ref a2)] [(.int (1 : Int32))]) _
      refine XS.goto X13.here hx rfl (pc0 := 27) (pc' := 31) rfl (hb hby d_prog_82_4_27) (by decide) (by decide) ?_
      exact k
    obtain ⟨fs, hr, hrun, hended, hW, hsame⟩ := X13.leave (v := some (.int (1 : Int32))) (fun h => by rw [Bd.returns] at h; cases h)
    refine ⟨_, _, pre_16 _ ?_, hrun, hended, _, _, rfl, ?_, ⟨_, rfl⟩, hW, hsame.mono (by decide) (by decide)⟩
    · show Sp p e below T13 (mkF m 31 #[.val (.ref a1), .val (.ref a2), .val (.ref a2)] [(.int (1 : Int32))]) _
      exact retN X13 hx (t := .boolean) Bd.returns (by simp) (hb hby d_prog_82_4_31) hr
    · show Q_eqm Z _ _ _ _ _ _ _ _ _ _ _ _ _ _ _ _ _ h0 n0 _ T13.heap _
      rw [e13]
      exact ⟨by rw [hv], N13, rfl⟩
theorem d_jdk_42_66_5 : decode jdk_42_method_66_code 5 = .ok (.iconst 1, 1) := by decide +kernel
theorem d_jdk_42_66_6 : decode jdk_42_method_66_code 6 = .ok (.ireturn, 1) := by decide +kernel
theorem pn_seqs : plainName "java/lang/String" = true := by first | (simp [plainName, overriddenIn]; done) | decide +kernel
theorem ef_seqs (m : MethodId) (a1 : Addr) : entryFrame m #[(.ref a1), (.ref a1)] 3 = (mkF m 0 #[.val (.ref a1), .val (.ref a1), .unset] []) := by first | (simp [entryFrame, mkF, argsToLocals, Value.category]; done) | rfl
def Q_seqs (Z : State) (a1 : Addr)  (h0 : Heap) (n0 : Nat) (v : Option Value) (h : Heap) (L : List Loc) : Prop := v = some (.int (1 : Int32)) ∧ Fr n0 L ∧ h = h0
set_option maxRecDepth 65536 in
set_option maxHeartbeats 40000000 in
theorem rm_seqs (l : Launch) (Z : State) (a0 : Array Value) (hw : ∀ d ∈ tables_1, d.before a0 Z = true) (ws : List Jvm.Cond) (a1 : Addr)  (h0 : Heap) (n0 : Nat) (O0 : Old Z n0 h0)  :
    MetFree l (⟨"java/lang/String", "equals", "(Ljava/lang/Object;)Z"⟩ : MethodName) (head1 (Jvm.Cond.code (⟨"java/lang/String", "equals", "(Ljava/lang/Object;)Z"⟩ : MethodName) jdk_42_method_66_code 3 (some .boolean) :: ws) ({ frames := 0, cells := 0, slots := 0, locals := 0 } : Room)) (fun a U => a = #[(.ref a1), (.ref a1)] ∧ Z.Warmed39 U.vm ∧ U.heap = h0) (fun _ _ _ _ _ => True) (fun _ U o U' => ∃ v L, o = .returned v ∧ Q_seqs Z a1  h0 n0 v U'.heap L ∧ FrameEnd U o U' L ({ frames := 0, cells := 0, slots := 0, locals := 0 } : Room).cells ({ frames := 0, cells := 0, slots := 0, locals := 0 } : Room).slots) := by
  refine MetFree.of_bodySF (plainFor_of_name pn_seqs) hisR ?_
  intro p e s m args below meth c s₁ Bd hml0 hP hK
  obtain ⟨rfl, hZ, hh⟩ := hP
  have hx := Bd.exec
  have hby := Bd.bytes
  have hml : c.maxLocals = 3 := hml0
  have hown : s.vm.findClass "java/lang/String" = some m.cls := findClass_of_methodNamed Bd.named
  have hnm := (name_of_methodNamed Bd.named Bd.method).1
  have X0 : Stand p l e ({ frames := 0, cells := 0, slots := 0, locals := 0 } : Room) s m #[(.ref a1), (.ref a1)] below meth c s₁ [] 0 0 := Stand.of_body Bd
  have e0 : s₁.heap = h0 := by rw [← hh, Bd.state]; rfl
  have N0 := Fr.nil n0
  have pre0 : ∀ t, Steps p.tables e below (s₁.setTop (mkF m 0 #[.val (.ref a1), .val (.ref a1), .unset] [])) t → Steps p.tables e below (s₁.setTop (entryFrame m #[(.ref a1), (.ref a1)] 3)) t := fun t k => castTop (ef_seqs m a1) k
  generalize s₁.setTop (entryFrame m #[(.ref a1), (.ref a1)] 3) = E0 at pre0 ⊢
  have pre_1 : ∀ t, Sp p e below s₁ (mkF m 6 #[.val (.ref a1), .val (.ref a1), .unset] [(.int (1 : Int32))]) t → Steps p.tables e below E0 t := by
    intro t k
    refine pre0 t ?_
    show Sp p e below s₁ (mkF m 0 #[.val (.ref a1), .val (.ref a1), .unset] []) _
    refine XS.aloadN X0.here hx rfl (hb hby d_jdk_42_66_0) rfl rfl ?_
    refine XS.aloadN X0.here hx rfl (hb hby d_jdk_42_66_1) rfl rfl ?_
    refine XT.acmpNo X0.here hx rfl (hb hby d_jdk_42_66_2) rfl rfl rfl (XT.aa_ne_f rfl) ?_
    refine XS.iconst X0.here hx rfl (hb hby d_jdk_42_66_5) ?_
    show Sp p e below s₁ (mkF m 6 #[.val (.ref a1), .val (.ref a1), .unset] [(.int (1 : Int32))]) _
    exact k
  obtain ⟨fs, hr, hrun, hended, hW, hsame⟩ := X0.leave (v := some (.int (1 : Int32))) (fun h => by rw [Bd.returns] at h; cases h)
  refine ⟨_, _, pre_1 _ ?_, hrun, hended, _, _, rfl, ?_, ⟨_, rfl⟩, hW, hsame.mono (by decide) (by decide)⟩
  · show Sp p e below s₁ (mkF m 6 #[.val (.ref a1), .val (.ref a1), .unset] [(.int (1 : Int32))]) _
    exact retN X0 hx (t := .boolean) Bd.returns (by simp) (hb hby d_jdk_42_66_6) hr
  · show Q_seqs Z _ h0 n0 _ s₁.heap _
    rw [e0]
    exact ⟨rfl, N0, rfl⟩
theorem pn_eqs : plainName "com/example/foretell/foretell/core/ModelValue" = true := by first | (simp [plainName, overriddenIn]; done) | decide +kernel
theorem pd_eqs_0 : parseMethodDescriptor "(Ljava/lang/Object;)Z" = some ⟨[(.object "java/lang/Object")], some .boolean⟩ := by decide +kernel
theorem ef_eqs (m : MethodId) (a1 : Addr) : entryFrame m #[(.ref a1), (.ref a1)] 3 = (mkF m 0 #[.val (.ref a1), .val (.ref a1), .unset] []) := by first | (simp [entryFrame, mkF, argsToLocals, Value.category]; done) | rfl
def Q_eqs (Z : State) (a1 : Addr) (s1 : Addr) (h0 : Heap) (n0 : Nat) (v : Option Value) (h : Heap) (L : List Loc) : Prop := v = some (.int (1 : Int32)) ∧ Fr n0 L ∧ h = h0
set_option maxRecDepth 65536 in
set_option maxHeartbeats 40000000 in
theorem rm_eqs (l : Launch) (Z : State) (a0 : Array Value) (hw : ∀ d ∈ tables_1, d.before a0 Z = true) (ws : List Jvm.Cond) (a1 : Addr) (s1 : Addr) (h0 : Heap) (n0 : Nat) (O0 : Old Z n0 h0) (EM : Exa Z h0 a1 "com/example/foretell/foretell/core/ModelValue") (G0 : Fld Z h0 a1 "com/example/foretell/foretell/core/ModelValue" "name" "Ljava/lang/String;" (.ref s1)) (E1 : Exa Z h0 s1 "java/lang/String") :
    MetFree l (⟨"com/example/foretell/foretell/core/ModelValue", "equals", "(Ljava/lang/Object;)Z"⟩ : MethodName) (head1 (Jvm.Cond.code (⟨"com/example/foretell/foretell/core/ModelValue", "equals", "(Ljava/lang/Object;)Z"⟩ : MethodName) prog_82_method_4_code 3 (some .boolean) :: ws) ({ frames := 1, cells := 0, slots := 0, locals := 14 } : Room)) (fun a U => a = #[(.ref a1), (.ref a1)] ∧ Z.Warmed39 U.vm ∧ U.heap = h0) (fun _ _ _ _ _ => True) (fun _ U o U' => ∃ v L, o = .returned v ∧ Q_eqs Z a1 s1 h0 n0 v U'.heap L ∧ FrameEnd U o U' L ({ frames := 1, cells := 0, slots := 0, locals := 14 } : Room).cells ({ frames := 1, cells := 0, slots := 0, locals := 14 } : Room).slots) := by
  refine MetFree.of_bodySF (plainFor_of_name pn_eqs) hisR ?_
  intro p e s m args below meth c s₁ Bd hml0 hP hK
  obtain ⟨rfl, hZ, hh⟩ := hP
  have hx := Bd.exec
  have hby := Bd.bytes
  have hml : c.maxLocals = 3 := hml0
  have hown : s.vm.findClass "com/example/foretell/foretell/core/ModelValue" = some m.cls := findClass_of_methodNamed Bd.named
  have hnm := (name_of_methodNamed Bd.named Bd.method).1
  have X0 : Stand p l e ({ frames := 1, cells := 0, slots := 0, locals := 14 } : Room) s m #[(.ref a1), (.ref a1)] below meth c s₁ [] 0 0 := Stand.of_body Bd
  have e0 : s₁.heap = h0 := by rw [← hh, Bd.state]; rfl
  have N0 := Fr.nil n0
  have pre0 : ∀ t, Steps p.tables e below (s₁.setTop (mkF m 0 #[.val (.ref a1), .val (.ref a1), .unset] [])) t → Steps p.tables e below (s₁.setTop (entryFrame m #[(.ref a1), (.ref a1)] 3)) t := fun t k => castTop (ef_eqs m a1) k
  generalize s₁.setTop (entryFrame m #[(.ref a1), (.ref a1)] 3) = E0 at pre0 ⊢
  have pre_1 : ∀ t, Sp p e below s₁ (mkF m 1 #[.val (.ref a1), .val (.ref a1), .unset] [(.ref a1)]) t → Steps p.tables e below E0 t := by
    intro t k
    refine pre0 t ?_
    show Sp p e below s₁ (mkF m 0 #[.val (.ref a1), .val (.ref a1), .unset] []) _
    refine XS.aloadN X0.here hx rfl (hb hby d_prog_82_4_0) rfl rfl ?_
    exact k
  obtain ⟨T2, X2, e2, st2⟩ := instY X0 hx hZ hown (own_w hw 62 rfl) e0 (Ins.self EM) (g := (mkF m 1 #[.val (.ref a1), .val (.ref a1), .unset] [(.ref a1)])) rfl rfl (hb hby d_prog_82_4_1)
  have pre_3 : ∀ t, Sp p e below T2 (mkF m 4 #[.val (.ref a1), .val (.ref a1), .unset] [(.int (1 : Int32))]) t → Steps p.tables e below E0 t := fun t k => pre_1 t (st2 t k)
  have pre_4 : ∀ t, Sp p e below T2 (mkF m 8 #[.val (.ref a1), .val (.ref a1), .unset] [(.ref a1)]) t → Steps p.tables e below E0 t := by
    intro t k
    refine pre_3 t ?_
    show Sp p e below T2 (mkF m 4 #[.val (.ref a1), .val (.ref a1), .unset] [(.int (1 : Int32))]) _
    refine XS.ifNo X2.here hx rfl (hb hby d_prog_82_4_4) rfl (XT.i0_eq_f (by decide)) ?_
    refine XS.aloadN X2.here hx rfl (hb hby d_prog_82_4_7) rfl rfl ?_
    exact k
  obtain ⟨T5, X5, e5, st5⟩ := castY X2 hx hZ hown (own_w hw 62 rfl) e2 (Ins.self EM) (g := (mkF m 8 #[.val (.ref a1), .val (.ref a1), .unset] [(.ref a1)])) rfl rfl (hb hby d_prog_82_4_8)
  have pre_6 : ∀ t, Sp p e below T5 (mkF m 11 #[.val (.ref a1), .val (.ref a1), .unset] [(.ref a1)]) t → Steps p.tables e below E0 t := fun t k => pre_4 t (st5 t k)
  have pre_7 : ∀ t, Sp p e below T5 (mkF m 13 #[.val (.ref a1), .val (.ref a1), .val (.ref a1)] [(.ref a1)]) t → Steps p.tables e below E0 t := by
    intro t k
    refine pre_6 t ?_
    show Sp p e below T5 (mkF m 11 #[.val (.ref a1), .val (.ref a1), .unset] [(.ref a1)]) _
    refine XS.astoreN X5.here hx rfl (hb hby d_prog_82_4_11) rfl rfl (l' := #[.val (.ref a1), .val (.ref a1), .val (.ref a1)]) rfl ?_
    show Sp p e below T5 (mkF m 12 #[.val (.ref a1), .val (.ref a1), .val (.ref a1)] []) _
    refine XS.aloadN X5.here hx rfl (hb hby d_prog_82_4_12) rfl rfl ?_
    exact k
  obtain ⟨T8, X8, e8, st8⟩ := getF X5 hx hZ hown (host := "") (Or.inl (own_w hw 52 rfl)) Via.refl e5 G0 (g := (mkF m 13 #[.val (.ref a1), .val (.ref a1), .val (.ref a1)] [(.ref a1)])) rfl rfl (hb hby d_prog_82_4_13)
  have pre_9 : ∀ t, Sp p e below T8 (mkF m 16 #[.val (.ref a1), .val (.ref a1), .val (.ref a1)] [(.ref s1)]) t → Steps p.tables e below E0 t := fun t k => pre_7 t (st8 t k)
  have pre_10 : ∀ t, Sp p e below T8 (mkF m 17 #[.val (.ref a1), .val (.ref a1), .val (.ref a1)] [(.ref a1), (.ref s1)]) t → Steps p.tables e below E0 t := by
    intro t k
    refine pre_9 t ?_
    show Sp p e below T8 (mkF m 16 #[.val (.ref a1), .val (.ref a1), .val (.ref a1)] [(.ref s1)]) _
    refine XS.aloadN X8.here hx rfl (hb hby d_prog_82_4_16) rfl rfl ?_
    exact k
  obtain ⟨T11, X11, e11, st11⟩ := getF X8 hx hZ hown (host := "") (Or.inl (own_w hw 52 rfl)) Via.refl e8 G0 (g := (mkF m 17 #[.val (.ref a1), .val (.ref a1), .val (.ref a1)] [(.ref a1), (.ref s1)])) rfl rfl (hb hby d_prog_82_4_17)
  have pre_12 : ∀ t, Sp p e below T11 (mkF m 20 #[.val (.ref a1), .val (.ref a1), .val (.ref a1)] [(.ref s1), (.ref s1)]) t → Steps p.tables e below E0 t := fun t k => pre_10 t (st11 t k)
  obtain ⟨cq13, kq13, qa13, qb13, qc13⟩ := isOf hZ e11 E1
  obtain ⟨_, _, ⟨T13, L13, k13, n13⟩, -, X13, ⟨Lc13, hQ13, l13, y13, z13⟩, st13⟩ := X11.virtualBack hx (y := (⟨"java/lang/String", "equals", "(Ljava/lang/Object;)Z"⟩ : MethodName)) (z := (⟨"java/lang/String", "equals", "(Ljava/lang/Object;)Z"⟩ : MethodName)) hown (mvT hZ (own_w hw 64 rfl)) (mvT hZ (own_w hw 65 rfl)) (notFace_of_selects (args := #[]) (mvT hZ (own_w hw 67 rfl))) (mvT hZ (own_w hw 67 rfl)) (mvT hZ (own_w hw 66 rfl)) (by decide) (backOf (W := 0) (rm_seqs l Z a0 hw [] s1 h0 n0 O0) hZ (own_w hw 68 rfl) (own_w hw 6 rfl) (by decide) (by decide)) qa13 qc13 (g := (mkF m 20 #[.val (.ref a1), .val (.ref a1), .val (.ref a1)] [(.ref s1), (.ref s1)])) rfl (by rw [hml]; rfl) (Steps.refl _) (argsL := [(.ref s1)]) (rest := []) (lenOf pd_eqs_0 rfl) rfl (by show 2 * 0 + _ ≤ _; exact Nat.le_of_eq rfl) (hb hby d_prog_82_4_20) (fun _ _ => ⟨rfl, e11, (by decide : 0 + 0 ≤ _), (by decide : 0 + 0 ≤ _)⟩)
  dsimp only [Pt.U, Pt.locs, Pt.cells, Pt.slots] at X13 l13 y13 z13 st13 hQ13
  subst l13 y13 z13
  obtain ⟨rfl, N13q, e13⟩ := hQ13
  have N13 := Fr.app N0 N13q
  have pre_14 : ∀ t, Sp p e below T13 (mkF m 23 #[.val (.ref a1), .val (.ref a1), .val (.ref a1)] [(.int (1 : Int32))]) t → Steps p.tables e below E0 t := fun t k => pre_12 t (st13.trans k)
  have pre_15 : ∀ t, Sp p e below T13 (mkF m 31 #[.val (.ref a1), .val (.ref a1), .val (.ref a1)] [(.int (1 : Int32))]) t → Steps p.tables e below E0 t := by
    intro t k
    refine pre_14 t ?_
    show Sp p e below T13 (mkF m 23 #[.val (.ref a1), .val (.ref a1), .val (.ref a1)] [(.int (1 : Int32))]) _
    refine XS.ifNo X13.here hx rfl (hb hby d_prog_82_4_23) rfl (XT.i0_eq_f (by decide)) ?_
    refine XS.iconst X13.here hx rfl (hb hby d_prog_82_4_26) ?_
    show Sp p e below T13 (mkF m 27 #[.val (.ref a1), .val (.ref a1), .val (.ref a1)] [(.int (1 : Int32))]) _
    refine XS.goto X13.here hx rfl (pc0 := 27) (pc' := 31) rfl (hb hby d_prog_82_4_27) (by decide) (by decide) ?_
    exact k
  obtain ⟨fs, hr, hrun, hended, hW, hsame⟩ := X13.leave (v := some (.int (1 : Int32))) (fun h => by rw [Bd.returns] at h; cases h)
  refine ⟨_, _, pre_15 _ ?_, hrun, hended, _, _, rfl, ?_, ⟨_, rfl⟩, hW, hsame.mono (by decide) (by decide)⟩
  · show Sp p e below T13 (mkF m 31 #[.val (.ref a1), .val (.ref a1), .val (.ref a1)] [(.int (1 : Int32))]) _
    exact retN X13 hx (t := .boolean) Bd.returns (by simp) (hb hby d_prog_82_4_31) hr
  · show Q_eqs Z _ _ h0 n0 _ T13.heap _
    rw [e13]
    exact ⟨rfl, N13, rfl⟩
theorem pn_eqn : plainName "com/example/foretell/foretell/core/ModelValue" = true := by first | (simp [plainName, overriddenIn]; done) | decide +kernel
theorem ef_eqn (m : MethodId) (a1 : Addr) : entryFrame m #[(.ref a1), .null] 3 = (mkF m 0 #[.val (.ref a1), .val .null, .unset] []) := by first | (simp [entryFrame, mkF, argsToLocals, Value.category]; done) | rfl
def Q_eqn (Z : State) (a1 : Addr)  (h0 : Heap) (n0 : Nat) (v : Option Value) (h : Heap) (L : List Loc) : Prop := v = some (.int (0 : Int32)) ∧ Fr n0 L ∧ h = h0
set_option maxRecDepth 65536 in
set_option maxHeartbeats 40000000 in
theorem rm_eqn (l : Launch) (Z : State) (a0 : Array Value) (hw : ∀ d ∈ tables_1, d.before a0 Z = true) (ws : List Jvm.Cond) (a1 : Addr)  (h0 : Heap) (n0 : Nat) (O0 : Old Z n0 h0)  :
    MetFree l (⟨"com/example/foretell/foretell/core/ModelValue", "equals", "(Ljava/lang/Object;)Z"⟩ : MethodName) (head1 (Jvm.Cond.code (⟨"com/example/foretell/foretell/core/ModelValue", "equals", "(Ljava/lang/Object;)Z"⟩ : MethodName) prog_82_method_4_code 3 (some .boolean) :: ws) ({ frames := 0, cells := 0, slots := 0, locals := 0 } : Room)) (fun a U => a = #[(.ref a1), .null] ∧ Z.Warmed39 U.vm ∧ U.heap = h0) (fun _ _ _ _ _ => True) (fun _ U o U' => ∃ v L, o = .returned v ∧ Q_eqn Z a1  h0 n0 v U'.heap L ∧ FrameEnd U o U' L ({ frames := 0, cells := 0, slots := 0, locals := 0 } : Room).cells ({ frames := 0, cells := 0, slots := 0, locals := 0 } : Room).slots) := by
  refine MetFree.of_bodySF (plainFor_of_name pn_eqn) hisR ?_
  intro p e s m args below meth c s₁ Bd hml0 hP hK
  obtain ⟨rfl, hZ, hh⟩ := hP
  have hx := Bd.exec
  have hby := Bd.bytes
  have hml : c.maxLocals = 3 := hml0
  have hown : s.vm.findClass "com/example/foretell/foretell/core/ModelValue" = some m.cls := findClass_of_methodNamed Bd.named
  have hnm := (name_of_methodNamed Bd.named Bd.method).1
  have X0 : Stand p l e ({ frames := 0, cells := 0, slots := 0, locals := 0 } : Room) s m #[(.ref a1), .null] below meth c s₁ [] 0 0 := Stand.of_body Bd
  have e0 : s₁.heap = h0 := by rw [← hh, Bd.state]; rfl
  have N0 := Fr.nil n0
  have pre0 : ∀ t, Steps p.tables e below (s₁.setTop (mkF m 0 #[.val (.ref a1), .val .null, .unset] [])) t → Steps p.tables e below (s₁.setTop (entryFrame m #[(.ref a1), .null] 3)) t := fun t k => castTop (ef_eqn m a1) k
  generalize s₁.setTop (entryFrame m #[(.ref a1), .null] 3) = E0 at pre0 ⊢
  have pre_1 : ∀ t, Sp p e below s₁ (mkF m 1 #[.val (.ref a1), .val .null, .unset] [.null]) t → Steps p.tables e below E0 t := by
    intro t k
    refine pre0 t ?_
    show Sp p e below s₁ (mkF m 0 #[.val (.ref a1), .val .null, .unset] []) _
    refine XS.aloadN X0.here hx rfl (hb hby d_prog_82_4_0) rfl rfl ?_
    exact k
  have pre_2 : ∀ t, Sp p e below s₁ (mkF m 31 #[.val (.ref a1), .val .null, .unset] [(.int (0 : Int32))]) t → Steps p.tables e below E0 t := by
    intro t k
    refine pre_1 t ?_
    show Sp p e below s₁ (mkF m 1 #[.val (.ref a1), .val .null, .unset] [.null]) _
    refine Stand.instanceofNull X0 hx (g := (mkF m 1 #[.val (.ref a1), .val .null, .unset] [.null])) rfl (rest := []) rfl (hb hby d_prog_82_4_1) _ ?_
    refine XS.ifYes X0.here hx rfl (pc0 := 4) (pc' := 30) rfl (hb hby d_prog_82_4_4) rfl (XT.i0_eq_t (by decide)) (by decide) (by decide) ?_
    refine XS.iconst X0.here hx rfl (hb hby d_prog_82_4_30) ?_
    show Sp p e below s₁ (mkF m 31 #[.val (.ref a1), .val .null, .unset] [(.int (0 : Int32))]) _
    exact k
  obtain ⟨fs, hr, hrun, hended, hW, hsame⟩ := X0.leave (v := some (.int (0 : Int32))) (fun h => by rw [Bd.returns] at h; cases h)
  refine ⟨_, _, pre_2 _ ?_, hrun, hended, _, _, rfl, ?_, ⟨_, rfl⟩, hW, hsame.mono (by decide) (by decide)⟩
  · show Sp p e below s₁ (mkF m 31 #[.val (.ref a1), .val .null, .unset] [(.int (0 : Int32))]) _
    exact retN X0 hx (t := .boolean) Bd.returns (by simp) (hb hby d_prog_82_4_31) hr
  · show Q_eqn Z _ h0 n0 _ s₁.heap _
    rw [e0]
    exact ⟨rfl, N0, rfl⟩
theorem own_no {Z : State} {a0 : Array Value} (hw : ∀ d ∈ tables_1, d.before a0 Z = true) : ∃ c t, Z.vm.findClass "com/example/foretell/foretell/core/StringValue" = some c ∧ Z.vm.findClass "com/example/foretell/foretell/core/ModelValue" = some t ∧ Z.vm.assignable c t = false := own_noI (own_w hw 83 rfl) (own_w hw 41 rfl) (NS.step (own_w hw 83 rfl) (NS.step (own_w hw 84 rfl) (own_rootI (own_w hw 85 rfl) (own_w hw 41 rfl) (by decide)) (by decide)) (by decide)) (by decide)
theorem pn_eqo : plainName "com/example/foretell/foretell/core/ModelValue" = true := by first | (simp [plainName, overriddenIn]; done) | decide +kernel
theorem ef_eqo (m : MethodId) (a1 : Addr) (a2 : Addr) : entryFrame m #[(.ref a1), (.ref a2)] 3 = (mkF m 0 #[.val (.ref a1), .val (.ref a2), .unset] []) := by first | (simp [entryFrame, mkF, argsToLocals, Value.category]; done) | rfl
def Q_eqo (Z : State) (a1 : Addr) (a2 : Addr)  (h0 : Heap) (n0 : Nat) (v : Option Value) (h : Heap) (L : List Loc) : Prop := v = some (.int (0 : Int32)) ∧ Fr n0 L ∧ h = h0
set_option maxRecDepth 65536 in
set_option maxHeartbeats 40000000 in
theorem rm_eqo (l : Launch) (Z : State) (a0 : Array Value) (hw : ∀ d ∈ tables_1, d.before a0 Z = true) (ws : List Jvm.Cond) (a1 : Addr) (a2 : Addr)  (h0 : Heap) (n0 : Nat) (O0 : Old Z n0 h0) (E2 : Exa Z h0 a2 "com/example/foretell/foretell/core/StringValue") :
    MetFree l (⟨"com/example/foretell/foretell/core/ModelValue", "equals", "(Ljava/lang/Object;)Z"⟩ : MethodName) (head1 (Jvm.Cond.code (⟨"com/example/foretell/foretell/core/ModelValue", "equals", "(Ljava/lang/Object;)Z"⟩ : MethodName) prog_82_method_4_code 3 (some .boolean) :: ws) ({ frames := 0, cells := 0, slots := 0, locals := 0 } : Room)) (fun a U => a = #[(.ref a1), (.ref a2)] ∧ Z.Warmed39 U.vm ∧ U.heap = h0) (fun _ _ _ _ _ => True) (fun _ U o U' => ∃ v L, o = .returned v ∧ Q_eqo Z a1 a2  h0 n0 v U'.heap L ∧ FrameEnd U o U' L ({ frames := 0, cells := 0, slots := 0, locals := 0 } : Room).cells ({ frames := 0, cells := 0, slots := 0, locals := 0 } : Room).slots) := by
  refine MetFree.of_bodySF (plainFor_of_name pn_eqo) hisR ?_
  intro p e s m args below meth c s₁ Bd hml0 hP hK
  obtain ⟨rfl, hZ, hh⟩ := hP
  have hx := Bd.exec
  have hby := Bd.bytes
  have hml : c.maxLocals = 3 := hml0
  have hown : s.vm.findClass "com/example/foretell/foretell/core/ModelValue" = some m.cls := findClass_of_methodNamed Bd.named
  have hnm := (name_of_methodNamed Bd.named Bd.method).1
  have X0 : Stand p l e ({ frames := 0, cells := 0, slots := 0, locals := 0 } : Room) s m #[(.ref a1), (.ref a2)] below meth c s₁ [] 0 0 := Stand.of_body Bd
  have e0 : s₁.heap = h0 := by rw [← hh, Bd.state]; rfl
  have N0 := Fr.nil n0
  have pre0 : ∀ t, Steps p.tables e below (s₁.setTop (mkF m 0 #[.val (.ref a1), .val (.ref a2), .unset] [])) t → Steps p.tables e below (s₁.setTop (entryFrame m #[(.ref a1), (.ref a2)] 3)) t := fun t k => castTop (ef_eqo m a1 a2) k
  generalize s₁.setTop (entryFrame m #[(.ref a1), (.ref a2)] 3) = E0 at pre0 ⊢
  have pre_1 : ∀ t, Sp p e below s₁ (mkF m 1 #[.val (.ref a1), .val (.ref a2), .unset] [(.ref a2)]) t → Steps p.tables e below E0 t := by
    intro t k
    refine pre0 t ?_
    show Sp p e below s₁ (mkF m 0 #[.val (.ref a1), .val (.ref a2), .unset] []) _
    refine XS.aloadN X0.here hx rfl (hb hby d_prog_82_4_0) rfl rfl ?_
    exact k
  obtain ⟨T2, X2, e2, st2⟩ := instNo X0 hx hZ hown (own_w hw 62 rfl) e0 E2 (own_no hw) (g := (mkF m 1 #[.val (.ref a1), .val (.ref a2), .unset] [(.ref a2)])) rfl rfl (hb hby d_prog_82_4_1)
  have pre_3 : ∀ t, Sp p e below T2 (mkF m 4 #[.val (.ref a1), .val (.ref a2), .unset] [(.int (0 : Int32))]) t → Steps p.tables e below E0 t := fun t k => pre_1 t (st2 t k)
  have pre_4 : ∀ t, Sp p e below T2 (mkF m 31 #[.val (.ref a1), .val (.ref a2), .unset] [(.int (0 : Int32))]) t → Steps p.tables e below E0 t := by
    intro t k
    refine pre_3 t ?_
    show Sp p e below T2 (mkF m 4 #[.val (.ref a1), .val (.ref a2), .unset] [(.int (0 : Int32))]) _
    refine XS.ifYes X2.here hx rfl (pc0 := 4) (pc' := 30) rfl (hb hby d_prog_82_4_4) rfl (XT.i0_eq_t (by decide)) (by decide) (by decide) ?_
    refine XS.iconst X2.here hx rfl (hb hby d_prog_82_4_30) ?_
    exact k
  obtain ⟨fs, hr, hrun, hended, hW, hsame⟩ := X2.leave (v := some (.int (0 : Int32))) (fun h => by rw [Bd.returns] at h; cases h)
  refine ⟨_, _, pre_4 _ ?_, hrun, hended, _, _, rfl, ?_, ⟨_, rfl⟩, hW, hsame.mono (by decide) (by decide)⟩
  · show Sp p e below T2 (mkF m 31 #[.val (.ref a1), .val (.ref a2), .unset] [(.int (0 : Int32))]) _
    exact retN X2 hx (t := .boolean) Bd.returns (by simp) (hb hby d_prog_82_4_31) hr
  · show Q_eqo Z _ _ h0 n0 _ T2.heap _
    rw [e2]
    exact ⟨rfl, N0, rfl⟩
theorem pn_law : plainName "com/example/foretell/foretell/core/ModelValueEqualsPinLaw" = true := by first | (simp [plainName, overriddenIn]; done) | decide +kernel
theorem pd_law_0 : parseMethodDescriptor "(II)Ljava/lang/String;" = some ⟨[.int, .int], some (.object "java/lang/String")⟩ := by decide +kernel
theorem pd_law_1 : parseMethodDescriptor "(Ljava/lang/String;)V" = some ⟨[(.object "java/lang/String")], none⟩ := by decide +kernel
theorem pd_law_2 : parseMethodDescriptor "(IIII)Z" = some ⟨[.int, .int, .int, .int], some .boolean⟩ := by decide +kernel
theorem pd_law_3 : parseMethodDescriptor "(Ljava/lang/Object;)Z" = some ⟨[(.object "java/lang/Object")], some .boolean⟩ := by decide +kernel
theorem ef_law (m : MethodId) (p1 : Int32) (p2 : Int32) (p3 : Int32) (p4 : Int32) (p5 : Int32) : entryFrame m #[(.int p1), (.int p2), (.int p3), (.int p4), (.int p5)] maxLocals = (mkF m 0 #[.val (.int p1), .val (.int p2), .val (.int p3), .val (.int p4), .val (.int p5), .unset, .unset, .unset, .unset, .unset, .unset, .unset, .unset, .unset] []) := by first | (simp [entryFrame, mkF, argsToLocals, Value.category, maxLocals]; done) | rfl
def Q_law (Z : State) (p1 : Int32) (p2 : Int32) (p3 : Int32) (p4 : Int32) (p5 : Int32) (G1 : Int32) (h0 : Heap) (n0 : Nat) (v : Option Value) (vm : Vm) (h : Heap) (L : List Loc) : Prop := v = some (.int 1) ∧ Fr n0 L
set_option maxRecDepth 65536 in
set_option maxHeartbeats 40000000 in
theorem rm_law (l : Launch) (Z : State) (a0 : Array Value) (hw : ∀ d ∈ tables_1, d.before a0 Z = true) (ws : List Jvm.Cond) (p1 : Int32) (p2 : Int32) (p3 : Int32) (p4 : Int32) (p5 : Int32) (G1 : Int32) (h0 : Heap) (n0 : Nat) (O0 : Old Z n0 h0) (SC : Sta Z Z.heap "java/lang/String" "COMPACT_STRINGS" "Z" (.int G1)) (hG : ¬ G1 = (0 : Int32)) (hHC : Jvm.Lit.constHeld Z "java/lang/String" 7) (hCW : Jvm.Lit.compactW.before a0 Z = true) :
    MetFree l x (head1 (Jvm.Cond.code x code maxLocals ret :: ws) room_1) (fun a U => a = #[(.int p1), (.int p2), (.int p3), (.int p4), (.int p5)] ∧ Z.Warmed39 U.vm ∧ U.heap = h0 ∧ IB Z U.vm []) (fun _ _ _ _ _ => True) (fun _ U o U' => ∃ v L, o = .returned v ∧ Q_law Z p1 p2 p3 p4 p5 G1 h0 n0 v U'.vm U'.heap L ∧ ReturnedEndW U o U' L room_1.cells room_1.slots) := by
  refine MetFree.of_bodySF (plainFor_of_name pn_law) hisR ?_
  intro p e s m args below meth c s₁ Bd hml0 hP hK
  obtain ⟨rfl, hZ, hh, hPV⟩ := hP
  have hx := Bd.exec
  have hby := Bd.bytes
  have hml : c.maxLocals = 14 := hml0
  have hown : s.vm.findClass "com/example/foretell/foretell/core/ModelValueEqualsPinLaw" = some m.cls := findClass_of_methodNamed Bd.named
  have hnm := (name_of_methodNamed Bd.named Bd.method).1
  have X0 : Stand p l e room_1 (s.setVm s.vm) m #[(.int p1), (.int p2), (.int p3), (.int p4), (.int p5)] below meth c s₁ [] 0 0 := Stand.of_body Bd
  have e0 : s₁.heap = h0 := by rw [← hh, Bd.state]; rfl
  have N0 := Fr.nil n0
  have pre0 : ∀ t, Steps p.tables e below (s₁.setTop (mkF m 0 #[.val (.int p1), .val (.int p2), .val (.int p3), .val (.int p4), .val (.int p5), .unset, .unset, .unset, .unset, .unset, .unset, .unset, .unset, .unset] [])) t → Steps p.tables e below (s₁.setTop (entryFrame m #[(.int p1), (.int p2), (.int p3), (.int p4), (.int p5)] maxLocals)) t := fun t k => castTop (ef_law m p1 p2 p3 p4 p5) k
  generalize s₁.setTop (entryFrame m #[(.int p1), (.int p2), (.int p3), (.int p4), (.int p5)] maxLocals) = E0 at pre0 ⊢
  have pre_1 : ∀ t, Sp p e below s₁ (mkF m 14 #[.val (.int p1), .val (.int p2), .val (.int p3), .val (.int p4), .val (.int p5), .val (.int (p1 &&& (3 : Int32))), .val (.int (p3 &&& (3 : Int32))), .unset, .unset, .unset, .unset, .unset, .unset, .unset] [(.int (p5 &&& (4 : Int32)))]) t → Steps p.tables e below E0 t := by
    intro t k
    refine pre0 t ?_
    show Sp p e below s₁ (mkF m 0 #[.val (.int p1), .val (.int p2), .val (.int p3), .val (.int p4), .val (.int p5), .unset, .unset, .unset, .unset, .unset, .unset, .unset, .unset, .unset] []) _
    refine XS.iloadN X0.here hx rfl (hb hby at_0) rfl ?_
    refine XS.iconst X0.here hx rfl (hb hby at_1) ?_
    refine XS.iand X0.here hx rfl (hb hby at_2) rfl ?_
    refine XS.istore X0.here hx rfl (hb hby at_3) rfl (l' := #[.val (.int p1), .val (.int p2), .val (.int p3), .val (.int p4), .val (.int p5), .val (.int (p1 &&& (3 : Int32))), .unset, .unset, .unset, .unset, .unset, .unset, .unset, .unset]) rfl ?_
    show Sp p e below s₁ (mkF m 5 #[.val (.int p1), .val (.int p2), .val (.int p3), .val (.int p4), .val (.int p5), .val (.int (p1 &&& (3 : Int32))), .unset, .unset, .unset, .unset, .unset, .unset, .unset, .unset] []) _
    refine XS.iloadN X0.here hx rfl (hb hby at_5) rfl ?_
    refine XS.iconst X0.here hx rfl (hb hby at_6) ?_
    refine XS.iand X0.here hx rfl (hb hby at_7) rfl ?_
    refine XS.istore X0.here hx rfl (hb hby at_8) rfl (l' := #[.val (.int p1), .val (.int p2), .val (.int p3), .val (.int p4), .val (.int p5), .val (.int (p1 &&& (3 : Int32))), .val (.int (p3 &&& (3 : Int32))), .unset, .unset, .unset, .unset, .unset, .unset, .unset]) rfl ?_
    show Sp p e below s₁ (mkF m 10 #[.val (.int p1), .val (.int p2), .val (.int p3), .val (.int p4), .val (.int p5), .val (.int (p1 &&& (3 : Int32))), .val (.int (p3 &&& (3 : Int32))), .unset, .unset, .unset, .unset, .unset, .unset, .unset] []) _
    refine XS.iload X0.here hx rfl (hb hby at_10) rfl ?_
    refine XS.iconst X0.here hx rfl (hb hby at_12) ?_
    refine XS.iand X0.here hx rfl (hb hby at_13) rfl ?_
    exact k
  have pre_3 : ∀ t, Sp p e below s₁ (mkF m 22 #[.val (.int p1), .val (.int p2), .val (.int p3), .val (.int p4), .val (.int p5), .val (.int (p1 &&& (3 : Int32))), .val (.int (p3 &&& (3 : Int32))), .unset, .unset, .unset, .unset, .unset, .unset, .unset] [(.int (if (p5 &&& (4 : Int32)) = (0 : Int32) then p4 else p2))]) t → Steps p.tables e below E0 t := by
    intro t k
    refine pre_1 t ?_
    by_cases hm2 : (p5 &&& (4 : Int32)) = (0 : Int32)
    · skip
      show Sp p e below s₁ (mkF m 14 #[.val (.int p1), .val (.int p2), .val (.int p3), .val (.int p4), .val (.int p5), .val (.int (p1 &&& (3 : Int32))), .val (.int (p3 &&& (3 : Int32))), .unset, .unset, .unset, .unset, .unset, .unset, .unset] [(.int (p5 &&& (4 : Int32)))]) _
      refine XS.ifYes X0.here hx rfl (pc0 := 14) (pc' := 21) rfl (hb hby at_14) rfl (XT.i0_eq_t hm2) (by decide) (by decide) ?_
      show Sp p e below s₁ (mkF m 21 #[.val (.int p1), .val (.int p2), .val (.int p3), .val (.int p4), .val (.int p5), .val (.int (p1 &&& (3 : Int32))), .val (.int (p3 &&& (3 : Int32))), .unset, .unset, .unset, .unset, .unset, .unset, .unset] []) _
      refine XS.iloadN X0.here hx rfl (hb hby at_21) rfl ?_
      first | exact k | (simp only [if_pos hm2] at k; exact k) | (show Sp p e below s₁ (mkF m 22 #[.val (.int p1), .val (.int p2), .val (.int p3), .val (.int p4), .val (.int p5), .val (.int (p1 &&& (3 : Int32))), .val (.int (p3 &&& (3 : Int32))), .unset, .unset, .unset, .unset, .unset, .unset, .unset] [(.int p4)]) _; simp only [if_pos hm2] at k ⊢; exact k)
    · skip
      show Sp p e below s₁ (mkF m 14 #[.val (.int p1), .val (.int p2), .val (.int p3), .val (.int p4), .val (.int p5), .val (.int (p1 &&& (3 : Int32))), .val (.int (p3 &&& (3 : Int32))), .unset, .unset, .unset, .unset, .unset, .unset, .unset] [(.int (p5 &&& (4 : Int32)))]) _
      refine XS.ifNo X0.here hx rfl (hb hby at_14) rfl (XT.i0_eq_f hm2) ?_
      show Sp p e below s₁ (mkF m 17 #[.val (.int p1), .val (.int p2), .val (.int p3), .val (.int p4), .val (.int p5), .val (.int (p1 &&& (3 : Int32))), .val (.int (p3 &&& (3 : Int32))), .unset, .unset, .unset, .unset, .unset, .unset, .unset] []) _
      refine XS.iloadN X0.here hx rfl (hb hby at_17) rfl ?_
      refine XS.goto X0.here hx rfl (pc0 := 18) (pc' := 22) rfl (hb hby at_18) (by decide) (by decide) ?_
      first | exact k | (simp only [if_neg hm2] at k; exact k) | (show Sp p e below s₁ (mkF m 22 #[.val (.int p1), .val (.int p2), .val (.int p3), .val (.int p4), .val (.int p5), .val (.int (p1 &&& (3 : Int32))), .val (.int (p3 &&& (3 : Int32))), .unset, .unset, .unset, .unset, .unset, .unset, .unset] [(.int p2)]) _; simp only [if_neg hm2] at k ⊢; exact k)
  have pre_4 : ∀ t, Sp p e below s₁ (mkF m 24 #[.val (.int p1), .val (.int p2), .val (.int p3), .val (.int p4), .val (.int p5), .val (.int (p1 &&& (3 : Int32))), .val (.int (p3 &&& (3 : Int32))), .val (.int (if (p5 &&& (4 : Int32)) = (0 : Int32) then p4 else p2)), .unset, .unset, .unset, .unset, .unset, .unset] []) t → Steps p.tables e below E0 t := by
    intro t k
    refine pre_3 t ?_
    show Sp p e below s₁ (mkF m 22 #[.val (.int p1), .val (.int p2), .val (.int p3), .val (.int p4), .val (.int p5), .val (.int (p1 &&& (3 : Int32))), .val (.int (p3 &&& (3 : Int32))), .unset, .unset, .unset, .unset, .unset, .unset, .unset] [(.int (if (p5 &&& (4 : Int32)) = (0 : Int32) then p4 else p2))]) _
    refine XS.istore X0.here hx rfl (hb hby at_22) rfl (l' := #[.val (.int p1), .val (.int p2), .val (.int p3), .val (.int p4), .val (.int p5), .val (.int (p1 &&& (3 : Int32))), .val (.int (p3 &&& (3 : Int32))), .val (.int (if (p5 &&& (4 : Int32)) = (0 : Int32) then p4 else p2)), .unset, .unset, .unset, .unset, .unset, .unset]) rfl ?_
    show Sp p e below s₁ (mkF m 24 #[.val (.int p1), .val (.int p2), .val (.int p3), .val (.int p4), .val (.int p5), .val (.int (p1 &&& (3 : Int32))), .val (.int (p3 &&& (3 : Int32))), .val (.int (if (p5 &&& (4 : Int32)) = (0 : Int32) then p4 else p2)), .unset, .unset, .unset, .unset, .unset, .unset] []) _
    exact k
  generalize (if (p5 &&& (4 : Int32)) = (0 : Int32) then p4 else p2) = bb at pre_4
  have hnA := own_four p1
  have hnB := own_four p3
  generalize (p1 &&& (3 : Int32)) = nA at hnA pre_4
  generalize (p3 &&& (3 : Int32)) = nB at hnB pre_4
  have pre_5 : ∀ t, Sp p e below s₁ (mkF m 27 #[.val (.int p1), .val (.int p2), .val (.int p3), .val (.int p4), .val (.int p5), .val (.int nA), .val (.int nB), .val (.int bb), .unset, .unset, .unset, .unset, .unset, .unset] [(.int p2), (.int nA)]) t → Steps p.tables e below E0 t := by
    intro t k
    refine pre_4 t ?_
    show Sp p e below s₁ (mkF m 24 #[.val (.int p1), .val (.int p2), .val (.int p3), .val (.int p4), .val (.int p5), .val (.int nA), .val (.int nB), .val (.int bb), .unset, .unset, .unset, .unset, .unset, .unset] []) _
    refine XS.iload X0.here hx rfl (hb hby at_24) rfl ?_
    refine XS.iloadN X0.here hx rfl (hb hby at_26) rfl ?_
    exact k
  obtain ⟨_, _, ⟨T6, L6, k6, n6⟩, -, Y6, hs6, hg6, ⟨Lc6, hQ6, l6, y6, z6⟩, st6⟩ := callSS X0 hx (y := (⟨"com/example/foretell/foretell/core/ModelValueEqualsPinLaw", "name", "(II)Ljava/lang/String;"⟩ : MethodName)) hown (mvT hZ (own_w hw 0 rfl)) (mvT hZ (own_w hw 1 rfl)) (mvT hZ (own_w hw 2 rfl)) (mvT hZ (own_w hw 3 rfl)) (by decide) (own_backS (W := 0) (rm_name l Z a0 hw [] nA p2 G1 h0 n0 O0 SC hG hHC hCW hnA) hZ (own_w hw 3 rfl) (own_w hw 2 rfl) (by decide) (by decide) (fun _ q => Or.inl (own_IBw hPV q))) (g := (mkF m 27 #[.val (.int p1), .val (.int p2), .val (.int p3), .val (.int p4), .val (.int p5), .val (.int nA), .val (.int nB), .val (.int bb), .unset, .unset, .unset, .unset, .unset, .unset] [(.int p2), (.int nA)])) rfl (by rw [hml]; rfl) (argsL := [(.int nA), (.int p2)]) (rest := []) (lenOf pd_law_0 rfl) rfl (by show 2 * 0 + _ ≤ _; exact Nat.le_of_eq rfl) (hb hby at_27) (fun _ _ => ⟨rfl, e0, (by decide : 0 + 4 ≤ _), (by decide : 0 + 11 ≤ _)⟩)
  dsimp only [Pt.U, Pt.locs, Pt.cells, Pt.slots] at Y6 hs6 hg6 l6 y6 z6 st6 hQ6
  subst l6 y6 z6
  obtain ⟨X6, hS6, hZ6, ho6⟩ := rebS ((State.WarmedH.refl s).since 0) (by rw [e0]; exact (Nat.le_trans (Nat.zero_le _) (Nat.le_refl _))) Y6 hs6 hg6 hZ hown
  obtain ⟨a6, b6, kB6, rfl, N6q, K6, sa6, Ea6, Fc6, Fv6, Ab6, hLL6⟩ := hQ6
  have N6 := Fr.app N0 N6q
  have O6 : Old Z n0 T6.heap := O0.keep K6 all0
  have pre_7 : ∀ t, Sp p e below T6 (mkF m 30 #[.val (.int p1), .val (.int p2), .val (.int p3), .val (.int p4), .val (.int p5), .val (.int nA), .val (.int nB), .val (.int bb), .unset, .unset, .unset, .unset, .unset, .unset] [(.ref a6)]) t → Steps p.tables e below E0 t := fun t k => pre_5 t (st6.trans k)
  rcases hLL6 with I0 | ⟨aE, bE, kE, xE, vE, cE, AE, hL⟩
  · skip
    have pre_8 : ∀ t, Sp p e below T6 (mkF m 36 #[.val (.int p1), .val (.int p2), .val (.int p3), .val (.int p4), .val (.int p5), .val (.int nA), .val (.int nB), .val (.int bb), .val (.ref a6), .unset, .unset, .unset, .unset, .unset] [(.int bb), (.int nB)]) t → Steps p.tables e below E0 t := by
      intro t k
      refine pre_7 t ?_
      show Sp p e below T6 (mkF m 30 #[.val (.int p1), .val (.int p2), .val (.int p3), .val (.int p4), .val (.int p5), .val (.int nA), .val (.int nB), .val (.int bb), .unset, .unset, .unset, .unset, .unset, .unset] [(.ref a6)]) _
      refine XS.astore X6.here hx rfl (hb hby at_30) rfl rfl (l' := #[.val (.int p1), .val (.int p2), .val (.int p3), .val (.int p4), .val (.int p5), .val (.int nA), .val (.int nB), .val (.int bb), .val (.ref a6), .unset, .unset, .unset, .unset, .unset]) rfl ?_
      refine XS.iload X6.here hx rfl (hb hby at_32) rfl ?_
      show Sp p e below T6 (mkF m 34 #[.val (.int p1), .val (.int p2), .val (.int p3), .val (.int p4), .val (.int p5), .val (.int nA), .val (.int nB), .val (.int bb), .val (.ref a6), .unset, .unset, .unset, .unset, .unset] [(.int nB)]) _
      refine XS.iload X6.here hx rfl (hb hby at_34) rfl ?_
      exact k
    obtain ⟨_, _, ⟨T9, L9, k9, n9⟩, -, Y9, hs9, hg9, ⟨Lc9, hQ9, l9, y9, z9⟩, st9⟩ := callSS X6 hx (y := (⟨"com/example/foretell/foretell/core/ModelValueEqualsPinLaw", "name", "(II)Ljava/lang/String;"⟩ : MethodName)) ho6 (mvT hZ6 (own_w hw 0 rfl)) (mvT hZ6 (own_w hw 1 rfl)) (mvT hZ6 (own_w hw 2 rfl)) (mvT hZ6 (own_w hw 3 rfl)) (by decide) (own_backS (W := 0) (rm_name l Z a0 hw [] nB bb G1 T6.heap n0 O6 SC hG hHC hCW hnB) hZ6 (own_w hw 3 rfl) (own_w hw 2 rfl) (by decide) (by decide) (fun _ q => Or.inl (own_IBw I0 q))) (g := (mkF m 36 #[.val (.int p1), .val (.int p2), .val (.int p3), .val (.int p4), .val (.int p5), .val (.int nA), .val (.int nB), .val (.int bb), .val (.ref a6), .unset, .unset, .unset, .unset, .unset] [(.int bb), (.int nB)])) rfl (by rw [hml]; rfl) (argsL := [(.int nB), (.int bb)]) (rest := []) (lenOf pd_law_0 rfl) rfl (by show 2 * 0 + _ ≤ _; exact Nat.le_of_eq rfl) (hb hby at_36) (fun _ _ => ⟨rfl, rfl, (by decide : 4 + 4 ≤ _), (by decide : 11 + 11 ≤ _)⟩)
    dsimp only [Pt.U, Pt.locs, Pt.cells, Pt.slots] at Y9 hs9 hg9 l9 y9 z9 st9 hQ9
    subst l9 y9 z9
    obtain ⟨X9, hS9, hZ9, ho9⟩ := rebS hS6 (Nat.le_trans (Nat.le_refl _) (Nat.le_refl _)) Y9 hs9 hg9 hZ6 ho6
    obtain ⟨a9, b9, kB9, rfl, N9q, K9, sa9, Ea9, Fc9, Fv9, Ab9, hLL9⟩ := hQ9
    have N9 := Fr.app N6 N9q
    have O9 : Old Z n0 T9.heap := O6.keep K9 all0
    have pre_10 : ∀ t, Sp p e below T9 (mkF m 39 #[.val (.int p1), .val (.int p2), .val (.int p3), .val (.int p4), .val (.int p5), .val (.int nA), .val (.int nB), .val (.int bb), .val (.ref a6), .unset, .unset, .unset, .unset, .unset] [(.ref a9)]) t → Steps p.tables e below E0 t := fun t k => pre_8 t (st9.trans k)
    have pre_11 : ∀ t, Sp p e below T9 (mkF m 41 #[.val (.int p1), .val (.int p2), .val (.int p3), .val (.int p4), .val (.int p5), .val (.int nA), .val (.int nB), .val (.int bb), .val (.ref a6), .val (.ref a9), .unset, .unset, .unset, .unset] []) t → Steps p.tables e below E0 t := by
      intro t k
      refine pre_10 t ?_
      show Sp p e below T9 (mkF m 39 #[.val (.int p1), .val (.int p2), .val (.int p3), .val (.int p4), .val (.int p5), .val (.int nA), .val (.int nB), .val (.int bb), .val (.ref a6), .unset, .unset, .unset, .unset, .unset] [(.ref a9)]) _
      refine XS.astore X9.here hx rfl (hb hby at_39) rfl rfl (l' := #[.val (.int p1), .val (.int p2), .val (.int p3), .val (.int p4), .val (.int p5), .val (.int nA), .val (.int nB), .val (.int bb), .val (.ref a6), .val (.ref a9), .unset, .unset, .unset, .unset]) rfl ?_
      exact k
    obtain ⟨T12, h12, X12, e12, E12, A12, D12, -, st12⟩ := newO X9 hx hZ9 ho9 (own_w hw 40 rfl) (own_w hw 41 rfl) (own_w hw 42 rfl) rfl (g := (mkF m 41 #[.val (.int p1), .val (.int p2), .val (.int p3), .val (.int p4), .val (.int p5), .val (.int nA), .val (.int nB), .val (.int bb), .val (.ref a6), .val (.ref a9), .unset, .unset, .unset, .unset] [])) rfl (hb hby at_41) (by decide) (by decide)
    obtain ⟨b12, g12⟩ : ∃ z, z = T9.heap.size := ⟨_, rfl⟩
    rw [← g12] at A12 D12 st12
    have O12 : Old Z n0 h12 := O9.ext E12
    have F13 : Fld Z h12 b12 "com/example/foretell/foretell/core/ModelValue" "name" "Ljava/lang/String;" .null := D12 (Or.inr (own_w hw 53 rfl)) (ty := (.object "java/lang/String")) (by decide)
    have pre_14 : ∀ t, Sp p e below T12 (mkF m 44 #[.val (.int p1), .val (.int p2), .val (.int p3), .val (.int p4), .val (.int p5), .val (.int nA), .val (.int nB), .val (.int bb), .val (.ref a6), .val (.ref a9), .unset, .unset, .unset, .unset] [(.ref b12)]) t → Steps p.tables e below E0 t := fun t k => pre_11 t (st12 t k)
    have pre_15 : ∀ t, Sp p e below T12 (mkF m 47 #[.val (.int p1), .val (.int p2), .val (.int p3), .val (.int p4), .val (.int p5), .val (.int nA), .val (.int nB), .val (.int bb), .val (.ref a6), .val (.ref a9), .unset, .unset, .unset, .unset] [(.ref a6), (.ref b12), (.ref b12)]) t → Steps p.tables e below E0 t := by
      intro t k
      refine pre_14 t ?_
      show Sp p e below T12 (mkF m 44 #[.val (.int p1), .val (.int p2), .val (.int p3), .val (.int p4), .val (.int p5), .val (.int nA), .val (.int nB), .val (.int bb), .val (.ref a6), .val (.ref a9), .unset, .unset, .unset, .unset] [(.ref b12)]) _
      refine XS.dup X12.here hx rfl (hb hby at_44) rfl rfl ?_
      refine XS.aload X12.here hx rfl (hb hby at_45) rfl rfl ?_
      show Sp p e below T12 (mkF m 47 #[.val (.int p1), .val (.int p2), .val (.int p3), .val (.int p4), .val (.int p5), .val (.int nA), .val (.int nB), .val (.int bb), .val (.ref a6), .val (.ref a9), .unset, .unset, .unset, .unset] [(.ref a6), (.ref b12), (.ref b12)]) _
      exact k
    obtain ⟨_, _, ⟨T16, L16, k16, n16⟩, -, X16, ⟨Lc16, hQ16, l16, y16, z16⟩, st16⟩ := X12.specialBack hx (y := (⟨"com/example/foretell/foretell/core/ModelValue", "<init>", "(Ljava/lang/String;)V"⟩ : MethodName)) rfl ho9 (mvT hZ9 (own_w hw 43 rfl)) (mvT hZ9 (own_w hw 44 rfl)) (mvT hZ9 (own_w hw 45 rfl)) (by decide) (backOf (W := 1) (rm_mvi l Z a0 hw [] b12 a6 .null h12 n0 O12 A12 F13 (Nat.le_trans (own_le O9) (Nat.le_of_eq g12.symm))) hZ9 (own_w hw 45 rfl) (own_w hw 42 rfl) (by decide) (by decide)) (g := (mkF m 47 #[.val (.int p1), .val (.int p2), .val (.int p3), .val (.int p4), .val (.int p5), .val (.int nA), .val (.int nB), .val (.int bb), .val (.ref a6), .val (.ref a9), .unset, .unset, .unset, .unset] [(.ref a6), (.ref b12), (.ref b12)])) rfl (by rw [hml]; rfl) (Steps.refl _) (a := b12) (argsL := [(.ref a6)]) (rest := [(.ref b12)]) (lenOf pd_law_1 rfl) rfl (by show 2 * 0 + _ ≤ _; exact Nat.le_of_eq rfl) (hb hby at_47) (fun _ _ => ⟨rfl, e12, (by decide : 9 + 0 ≤ _), (by decide : 23 + 0 ≤ _)⟩)
    dsimp only [Pt.U, Pt.locs, Pt.cells, Pt.slots] at X16 l16 y16 z16 st16 hQ16
    subst l16 y16 z16
    obtain ⟨rfl, N16q, K16, Fa16⟩ := hQ16
    have N16 := Fr.app N9 N16q
    have O16 : Old Z n0 T16.heap := O12.keep K16 (allS (Nat.le_trans (own_le O9) (Nat.le_of_eq g12.symm)) all0)
    have pre_17 : ∀ t, Sp p e below T16 (mkF m 50 #[.val (.int p1), .val (.int p2), .val (.int p3), .val (.int p4), .val (.int p5), .val (.int nA), .val (.int nB), .val (.int bb), .val (.ref a6), .val (.ref a9), .unset, .unset, .unset, .unset] [(.ref b12)]) t → Steps p.tables e below E0 t := fun t k => pre_15 t (st16.trans k)
    have pre_18 : ∀ t, Sp p e below T16 (mkF m 60 #[.val (.int p1), .val (.int p2), .val (.int p3), .val (.int p4), .val (.int p5), .val (.int nA), .val (.int nB), .val (.int bb), .val (.ref a6), .val (.ref a9), .val (.ref b12), .val (.int (p5 &&& (3 : Int32))), .unset, .unset] [(.int (p5 &&& (3 : Int32)))]) t → Steps p.tables e below E0 t := by
      intro t k
      refine pre_17 t ?_
      show Sp p e below T16 (mkF m 50 #[.val (.int p1), .val (.int p2), .val (.int p3), .val (.int p4), .val (.int p5), .val (.int nA), .val (.int nB), .val (.int bb), .val (.ref a6), .val (.ref a9), .unset, .unset, .unset, .unset] [(.ref b12)]) _
      refine XS.astore X16.here hx rfl (hb hby at_50) rfl rfl (l' := #[.val (.int p1), .val (.int p2), .val (.int p3), .val (.int p4), .val (.int p5), .val (.int nA), .val (.int nB), .val (.int bb), .val (.ref a6), .val (.ref a9), .val (.ref b12), .unset, .unset, .unset]) rfl ?_
      refine XS.iload X16.here hx rfl (hb hby at_52) rfl ?_
      refine XS.iconst X16.here hx rfl (hb hby at_54) ?_
      refine XS.iand X16.here hx rfl (hb hby at_55) rfl ?_
      show Sp p e below T16 (mkF m 56 #[.val (.int p1), .val (.int p2), .val (.int p3), .val (.int p4), .val (.int p5), .val (.int nA), .val (.int nB), .val (.int bb), .val (.ref a6), .val (.ref a9), .val (.ref b12), .unset, .unset, .unset] [(.int (p5 &&& (3 : Int32)))]) _
      refine XS.istore X16.here hx rfl (hb hby at_56) rfl (l' := #[.val (.int p1), .val (.int p2), .val (.int p3), .val (.int p4), .val (.int p5), .val (.int nA), .val (.int nB), .val (.int bb), .val (.ref a6), .val (.ref a9), .val (.ref b12), .val (.int (p5 &&& (3 : Int32))), .unset, .unset]) rfl ?_
      refine XS.iload X16.here hx rfl (hb hby at_58) rfl ?_
      exact k
    by_cases hc19 : (p5 &&& (3 : Int32)) = (0 : Int32)
    · skip
      have pre_20 : ∀ t, Sp p e below T16 (mkF m 63 #[.val (.int p1), .val (.int p2), .val (.int p3), .val (.int p4), .val (.int p5), .val (.int nA), .val (.int nB), .val (.int bb), .val (.ref a6), .val (.ref a9), .val (.ref b12), .val (.int (p5 &&& (3 : Int32))), .unset, .unset] []) t → Steps p.tables e below E0 t := by
        intro t k
        refine pre_18 t ?_
        show Sp p e below T16 (mkF m 60 #[.val (.int p1), .val (.int p2), .val (.int p3), .val (.int p4), .val (.int p5), .val (.int nA), .val (.int nB), .val (.int bb), .val (.ref a6), .val (.ref a9), .val (.ref b12), .val (.int (p5 &&& (3 : Int32))), .unset, .unset] [(.int (p5 &&& (3 : Int32)))]) _
        refine XS.ifNo X16.here hx rfl (hb hby at_60) rfl (XT.i0_ne_f hc19) ?_
        exact k
      obtain ⟨T21, h21, X21, e21, E21, A21, D21, -, st21⟩ := newO X16 hx hZ9 ho9 (own_w hw 40 rfl) (own_w hw 41 rfl) (own_w hw 42 rfl) rfl (g := (mkF m 63 #[.val (.int p1), .val (.int p2), .val (.int p3), .val (.int p4), .val (.int p5), .val (.int nA), .val (.int nB), .val (.int bb), .val (.ref a6), .val (.ref a9), .val (.ref b12), .val (.int (p5 &&& (3 : Int32))), .unset, .unset] [])) rfl (hb hby at_63) (by decide) (by decide)
      obtain ⟨b21, g21⟩ : ∃ z, z = T16.heap.size := ⟨_, rfl⟩
      rw [← g21] at A21 D21 st21
      have O21 : Old Z n0 h21 := O16.ext E21
      have F22 : Fld Z h21 b21 "com/example/foretell/foretell/core/ModelValue" "name" "Ljava/lang/String;" .null := D21 (Or.inr (own_w hw 53 rfl)) (ty := (.object "java/lang/String")) (by decide)
      have pre_23 : ∀ t, Sp p e below T21 (mkF m 66 #[.val (.int p1), .val (.int p2), .val (.int p3), .val (.int p4), .val (.int p5), .val (.int nA), .val (.int nB), .val (.int bb), .val (.ref a6), .val (.ref a9), .val (.ref b12), .val (.int (p5 &&& (3 : Int32))), .unset, .unset] [(.ref b21)]) t → Steps p.tables e below E0 t := fun t k => pre_20 t (st21 t k)
      have pre_24 : ∀ t, Sp p e below T21 (mkF m 69 #[.val (.int p1), .val (.int p2), .val (.int p3), .val (.int p4), .val (.int p5), .val (.int nA), .val (.int nB), .val (.int bb), .val (.ref a6), .val (.ref a9), .val (.ref b12), .val (.int (p5 &&& (3 : Int32))), .unset, .unset] [(.ref a9), (.ref b21), (.ref b21)]) t → Steps p.tables e below E0 t := by
        intro t k
        refine pre_23 t ?_
        show Sp p e below T21 (mkF m 66 #[.val (.int p1), .val (.int p2), .val (.int p3), .val (.int p4), .val (.int p5), .val (.int nA), .val (.int nB), .val (.int bb), .val (.ref a6), .val (.ref a9), .val (.ref b12), .val (.int (p5 &&& (3 : Int32))), .unset, .unset] [(.ref b21)]) _
        refine XS.dup X21.here hx rfl (hb hby at_66) rfl rfl ?_
        show Sp p e below T21 (mkF m 67 #[.val (.int p1), .val (.int p2), .val (.int p3), .val (.int p4), .val (.int p5), .val (.int nA), .val (.int nB), .val (.int bb), .val (.ref a6), .val (.ref a9), .val (.ref b12), .val (.int (p5 &&& (3 : Int32))), .unset, .unset] [(.ref b21), (.ref b21)]) _
        refine XS.aload X21.here hx rfl (hb hby at_67) rfl rfl ?_
        exact k
      obtain ⟨_, _, ⟨T25, L25, k25, n25⟩, -, X25, ⟨Lc25, hQ25, l25, y25, z25⟩, st25⟩ := X21.specialBack hx (y := (⟨"com/example/foretell/foretell/core/ModelValue", "<init>", "(Ljava/lang/String;)V"⟩ : MethodName)) rfl ho9 (mvT hZ9 (own_w hw 43 rfl)) (mvT hZ9 (own_w hw 44 rfl)) (mvT hZ9 (own_w hw 45 rfl)) (by decide) (backOf (W := 1) (rm_mvi l Z a0 hw [] b21 a9 .null h21 n0 O21 A21 F22 (Nat.le_trans (own_le O16) (Nat.le_of_eq g21.symm))) hZ9 (own_w hw 45 rfl) (own_w hw 42 rfl) (by decide) (by decide)) (g := (mkF m 69 #[.val (.int p1), .val (.int p2), .val (.int p3), .val (.int p4), .val (.int p5), .val (.int nA), .val (.int nB), .val (.int bb), .val (.ref a6), .val (.ref a9), .val (.ref b12), .val (.int (p5 &&& (3 : Int32))), .unset, .unset] [(.ref a9), (.ref b21), (.ref b21)])) rfl (by rw [hml]; rfl) (Steps.refl _) (a := b21) (argsL := [(.ref a9)]) (rest := [(.ref b21)]) (lenOf pd_law_1 rfl) rfl (by show 2 * 0 + _ ≤ _; exact Nat.le_of_eq rfl) (hb hby at_69) (fun _ _ => ⟨rfl, e21, (by decide : 10 + 0 ≤ _), (by decide : 24 + 0 ≤ _)⟩)
      dsimp only [Pt.U, Pt.locs, Pt.cells, Pt.slots] at X25 l25 y25 z25 st25 hQ25
      subst l25 y25 z25
      obtain ⟨rfl, N25q, K25, Fa25⟩ := hQ25
      have N25 := Fr.app N16 N25q
      have O25 : Old Z n0 T25.heap := O21.keep K25 (allS (Nat.le_trans (own_le O16) (Nat.le_of_eq g21.symm)) all0)
      have pre_26 : ∀ t, Sp p e below T25 (mkF m 72 #[.val (.int p1), .val (.int p2), .val (.int p3), .val (.int p4), .val (.int p5), .val (.int nA), .val (.int nB), .val (.int bb), .val (.ref a6), .val (.ref a9), .val (.ref b12), .val (.int (p5 &&& (3 : Int32))), .unset, .unset] [(.ref b21)]) t → Steps p.tables e below E0 t := fun t k => pre_24 t (st25.trans k)
      have pre_27 : ∀ t, Sp p e below T25 (mkF m 81 #[.val (.int p1), .val (.int p2), .val (.int p3), .val (.int p4), .val (.int p5), .val (.int nA), .val (.int nB), .val (.int bb), .val (.ref a6), .val (.ref a9), .val (.ref b12), .val (.int (p5 &&& (3 : Int32))), .val (.ref b21), .unset] [(.int bb), (.int nB), (.int p2), (.int nA)]) t → Steps p.tables e below E0 t := by
        intro t k
        refine pre_26 t ?_
        show Sp p e below T25 (mkF m 72 #[.val (.int p1), .val (.int p2), .val (.int p3), .val (.int p4), .val (.int p5), .val (.int nA), .val (.int nB), .val (.int bb), .val (.ref a6), .val (.ref a9), .val (.ref b12), .val (.int (p5 &&& (3 : Int32))), .unset, .unset] [(.ref b21)]) _
        refine XS.astore X25.here hx rfl (hb hby at_72) rfl rfl (l' := #[.val (.int p1), .val (.int p2), .val (.int p3), .val (.int p4), .val (.int p5), .val (.int nA), .val (.int nB), .val (.int bb), .val (.ref a6), .val (.ref a9), .val (.ref b12), .val (.int (p5 &&& (3 : Int32))), .val (.ref b21), .unset]) rfl ?_
        refine XS.iload X25.here hx rfl (hb hby at_74) rfl ?_
        refine XS.iloadN X25.here hx rfl (hb hby at_76) rfl ?_
        show Sp p e below T25 (mkF m 77 #[.val (.int p1), .val (.int p2), .val (.int p3), .val (.int p4), .val (.int p5), .val (.int nA), .val (.int nB), .val (.int bb), .val (.ref a6), .val (.ref a9), .val (.ref b12), .val (.int (p5 &&& (3 : Int32))), .val (.ref b21), .unset] [(.int p2), (.int nA)]) _
        refine XS.iload X25.here hx rfl (hb hby at_77) rfl ?_
        refine XS.iload X25.here hx rfl (hb hby at_79) rfl ?_
        exact k
      obtain ⟨_, _, ⟨T28, L28, k28, n28⟩, -, X28, ⟨Lc28, hQ28, l28, y28, z28⟩, st28⟩ := Jvm.LawKit.callS X25 hx (y := (⟨"com/example/foretell/foretell/core/ModelValueEqualsPinLaw", "same", "(IIII)Z"⟩ : MethodName)) ho9 (mvT hZ9 (own_w hw 54 rfl)) (mvT hZ9 (own_w hw 55 rfl)) (mvT hZ9 (own_w hw 2 rfl)) (mvT hZ9 (own_w hw 56 rfl)) (by decide) (backOf (W := 0) (rm_same l Z a0 hw [] nA p2 nB bb T25.heap n0 O25 hnA) hZ9 (own_w hw 56 rfl) (own_w hw 2 rfl) (by decide) (by decide)) (g := (mkF m 81 #[.val (.int p1), .val (.int p2), .val (.int p3), .val (.int p4), .val (.int p5), .val (.int nA), .val (.int nB), .val (.int bb), .val (.ref a6), .val (.ref a9), .val (.ref b12), .val (.int (p5 &&& (3 : Int32))), .val (.ref b21), .unset] [(.int bb), (.int nB), (.int p2), (.int nA)])) rfl (by rw [hml]; rfl) (argsL := [(.int nA), (.int p2), (.int nB), (.int bb)]) (rest := []) (lenOf pd_law_2 rfl) rfl (by show 2 * 0 + _ ≤ _; exact Nat.le_of_eq rfl) (hb hby at_81) (fun _ _ => ⟨rfl, rfl, (by decide : 10 + 0 ≤ _), (by decide : 24 + 0 ≤ _)⟩)
      dsimp only [Pt.U, Pt.locs, Pt.cells, Pt.slots] at X28 l28 y28 z28 st28 hQ28
      subst l28 y28 z28
      obtain ⟨rfl, N28q, e28⟩ := hQ28
      have N28 := Fr.app N25 N28q
      have pre_29 : ∀ t, Sp p e below T28 (mkF m 84 #[.val (.int p1), .val (.int p2), .val (.int p3), .val (.int p4), .val (.int p5), .val (.int nA), .val (.int nB), .val (.int bb), .val (.ref a6), .val (.ref a9), .val (.ref b12), .val (.int (p5 &&& (3 : Int32))), .val (.ref b21), .unset] [(.int (own_eqv nA nB (own_ch p2 (0 : Int32)) (own_ch bb (0 : Int32)) (own_ch p2 (1 : Int32)) (own_ch bb (1 : Int32)) (own_ch p2 (2 : Int32)) (own_ch bb (2 : Int32))))]) t → Steps p.tables e below E0 t := fun t k => pre_27 t (st28 t k)
      have pre_30 : ∀ t, Sp p e below T28 (mkF m 90 #[.val (.int p1), .val (.int p2), .val (.int p3), .val (.int p4), .val (.int p5), .val (.int nA), .val (.int nB), .val (.int bb), .val (.ref a6), .val (.ref a9), .val (.ref b12), .val (.int (p5 &&& (3 : Int32))), .val (.ref b21), .val (.int (own_eqv nA nB (own_ch p2 (0 : Int32)) (own_ch bb (0 : Int32)) (own_ch p2 (1 : Int32)) (own_ch bb (1 : Int32)) (own_ch p2 (2 : Int32)) (own_ch bb (2 : Int32))))] [(.ref b21), (.ref b12)]) t → Steps p.tables e below E0 t := by
        intro t k
        refine pre_29 t ?_
        show Sp p e below T28 (mkF m 84 #[.val (.int p1), .val (.int p2), .val (.int p3), .val (.int p4), .val (.int p5), .val (.int nA), .val (.int nB), .val (.int bb), .val (.ref a6), .val (.ref a9), .val (.ref b12), .val (.int (p5 &&& (3 : Int32))), .val (.ref b21), .unset] [(.int (own_eqv nA nB (own_ch p2 (0 : Int32)) (own_ch bb (0 : Int32)) (own_ch p2 (1 : Int32)) (own_ch bb (1 : Int32)) (own_ch p2 (2 : Int32)) (own_ch bb (2 : Int32))))]) _
        refine XS.istore X28.here hx rfl (hb hby at_84) rfl (l' := #[.val (.int p1), .val (.int p2), .val (.int p3), .val (.int p4), .val (.int p5), .val (.int nA), .val (.int nB), .val (.int bb), .val (.ref a6), .val (.ref a9), .val (.ref b12), .val (.int (p5 &&& (3 : Int32))), .val (.ref b21), .val (.int (own_eqv nA nB (own_ch p2 (0 : Int32)) (own_ch bb (0 : Int32)) (own_ch p2 (1 : Int32)) (own_ch bb (1 : Int32)) (own_ch p2 (2 : Int32)) (own_ch bb (2 : Int32))))]) rfl ?_
        refine XS.aload X28.here hx rfl (hb hby at_86) rfl rfl ?_
        show Sp p e below T28 (mkF m 88 #[.val (.int p1), .val (.int p2), .val (.int p3), .val (.int p4), .val (.int p5), .val (.int nA), .val (.int nB), .val (.int bb), .val (.ref a6), .val (.ref a9), .val (.ref b12), .val (.int (p5 &&& (3 : Int32))), .val (.ref b21), .val (.int (own_eqv nA nB (own_ch p2 (0 : Int32)) (own_ch bb (0 : Int32)) (own_ch p2 (1 : Int32)) (own_ch bb (1 : Int32)) (own_ch p2 (2 : Int32)) (own_ch bb (2 : Int32))))] [(.ref b12)]) _
        refine XS.aload X28.here hx rfl (hb hby at_88) rfl rfl ?_
        exact k
      obtain ⟨cq31, kq31, qa31, qb31, qc31⟩ := isOf hZ9 e28 (((A12.keep K16).ext E21).keep K25)
      obtain ⟨_, _, ⟨T31, L31, k31, n31⟩, -, X31, ⟨Lc31, hQ31, l31, y31, z31⟩, st31⟩ := X28.virtualBack hx (y := (⟨"com/example/foretell/foretell/core/ModelValue", "equals", "(Ljava/lang/Object;)Z"⟩ : MethodName)) (z := (⟨"com/example/foretell/foretell/core/ModelValue", "equals", "(Ljava/lang/Object;)Z"⟩ : MethodName)) ho9 (mvT hZ9 (own_w hw 57 rfl)) (mvT hZ9 (own_w hw 58 rfl)) (notFace_of_selects (args := #[]) (mvT hZ9 (own_w hw 60 rfl))) (mvT hZ9 (own_w hw 60 rfl)) (mvT hZ9 (own_w hw 59 rfl)) (by decide) (backOf (W := 0) (rm_eqm l Z a0 hw [] b12 b21 a6 a9 b6 b9 G1 kB6 kB9 nA nB (own_ch p2 (0 : Int32)) (own_ch p2 (1 : Int32)) (own_ch p2 (2 : Int32)) (own_ch bb (0 : Int32)) (own_ch bb (1 : Int32)) (own_ch bb (2 : Int32)) T25.heap n0 O25 (A21.keep K25) ((Fa16.ext E21).keep K25 (ninS (Nat.ne_of_lt (Nat.lt_of_lt_of_le (A12.keep K16).lt (Nat.le_of_eq g21.symm))) nin0)) Fa25 (((((Ea6.keep K9).ext E12).keep K16).ext E21).keep K25) ((((Ea9.ext E12).keep K16).ext E21).keep K25) (((((Fc6.keep K9 nin0).ext E12).keep K16 (ninS (Nat.ne_of_lt (Nat.lt_of_lt_of_le (Ea6.keep K9).lt (Nat.le_of_eq g12.symm))) nin0)).ext E21).keep K25 (ninS (Nat.ne_of_lt (Nat.lt_of_lt_of_le (((Ea6.keep K9).ext E12).keep K16).lt (Nat.le_of_eq g21.symm))) nin0)) ((((Fc9.ext E12).keep K16 (ninS (Nat.ne_of_lt (Nat.lt_of_lt_of_le Ea9.lt (Nat.le_of_eq g12.symm))) nin0)).ext E21).keep K25 (ninS (Nat.ne_of_lt (Nat.lt_of_lt_of_le ((Ea9.ext E12).keep K16).lt (Nat.le_of_eq g21.symm))) nin0)) (((((Fv6.keep K9 nin0).ext E12).keep K16 (ninS (Nat.ne_of_lt (Nat.lt_of_lt_of_le (Ea6.keep K9).lt (Nat.le_of_eq g12.symm))) nin0)).ext E21).keep K25 (ninS (Nat.ne_of_lt (Nat.lt_of_lt_of_le (((Ea6.keep K9).ext E12).keep K16).lt (Nat.le_of_eq g21.symm))) nin0)) ((((Fv9.ext E12).keep K16 (ninS (Nat.ne_of_lt (Nat.lt_of_lt_of_le Ea9.lt (Nat.le_of_eq g12.symm))) nin0)).ext E21).keep K25 (ninS (Nat.ne_of_lt (Nat.lt_of_lt_of_le ((Ea9.ext E12).keep K16).lt (Nat.le_of_eq g21.symm))) nin0)) (((((Ab6.keep K9 nin0).ext E12).keep K16 (ninS (Nat.ne_of_lt (Nat.lt_of_lt_of_le (Ab6.keep K9 nin0).lt (Nat.le_of_eq g12.symm))) nin0)).ext E21).keep K25 (ninS (Nat.ne_of_lt (Nat.lt_of_lt_of_le (((Ab6.keep K9 nin0).ext E12).keep K16 (ninS (Nat.ne_of_lt (Nat.lt_of_lt_of_le (Ab6.keep K9 nin0).lt (Nat.le_of_eq g12.symm))) nin0)).lt (Nat.le_of_eq g21.symm))) nin0)) ((((Ab9.ext E12).keep K16 (ninS (Nat.ne_of_lt (Nat.lt_of_lt_of_le Ab9.lt (Nat.le_of_eq g12.symm))) nin0)).ext E21).keep K25 (ninS (Nat.ne_of_lt (Nat.lt_of_lt_of_le ((Ab9.ext E12).keep K16 (ninS (Nat.ne_of_lt (Nat.lt_of_lt_of_le Ab9.lt (Nat.le_of_eq g12.symm))) nin0)).lt (Nat.le_of_eq g21.symm))) nin0)) (Nat.ne_of_lt (Nat.lt_of_lt_of_le Ea6.lt sa9)) SC hG (own_chr _ _).2 (own_chr _ _).2 (own_chr _ _).2 (own_chr _ _).2 (own_chr _ _).2 (own_chr _ _).2) hZ9 (own_w hw 61 rfl) (own_w hw 42 rfl) (by decide) (by decide)) qa31 qc31 (g := (mkF m 90 #[.val (.int p1), .val (.int p2), .val (.int p3), .val (.int p4), .val (.int p5), .val (.int nA), .val (.int nB), .val (.int bb), .val (.ref a6), .val (.ref a9), .val (.ref b12), .val (.int (p5 &&& (3 : Int32))), .val (.ref b21), .val (.int (own_eqv nA nB (own_ch p2 (0 : Int32)) (own_ch bb (0 : Int32)) (own_ch p2 (1 : Int32)) (own_ch bb (1 : Int32)) (own_ch p2 (2 : Int32)) (own_ch bb (2 : Int32))))] [(.ref b21), (.ref b12)])) rfl (by rw [hml]; rfl) (Steps.refl _) (argsL := [(.ref b21)]) (rest := []) (lenOf pd_law_3 rfl) rfl (by show 2 * 0 + _ ≤ _; exact Nat.le_of_eq rfl) (hb hby at_90) (fun _ _ => ⟨rfl, e28, (by decide : 10 + 0 ≤ _), (by decide : 24 + 0 ≤ _)⟩)
      dsimp only [Pt.U, Pt.locs, Pt.cells, Pt.slots] at X31 l31 y31 z31 st31 hQ31
      subst l31 y31 z31
      obtain ⟨hv31, N31q, e31⟩ := hQ31
      subst hv31
      have N31 := Fr.app N28 N31q
      have pre_32 : ∀ t, Sp p e below T31 (mkF m 93 #[.val (.int p1), .val (.int p2), .val (.int p3), .val (.int p4), .val (.int p5), .val (.int nA), .val (.int nB), .val (.int bb), .val (.ref a6), .val (.ref a9), .val (.ref b12), .val (.int (p5 &&& (3 : Int32))), .val (.ref b21), .val (.int (own_eqv nA nB (own_ch p2 (0 : Int32)) (own_ch bb (0 : Int32)) (own_ch p2 (1 : Int32)) (own_ch bb (1 : Int32)) (own_ch p2 (2 : Int32)) (own_ch bb (2 : Int32))))] [(.int (own_eqv nA nB (own_ch p2 (0 : Int32)) (own_ch bb (0 : Int32)) (own_ch p2 (1 : Int32)) (own_ch bb (1 : Int32)) (own_ch p2 (2 : Int32)) (own_ch bb (2 : Int32))))]) t → Steps p.tables e below E0 t := fun t k => pre_30 t (st31.trans k)
      have pre_33 : ∀ t, Sp p e below T31 (mkF m 102 #[.val (.int p1), .val (.int p2), .val (.int p3), .val (.int p4), .val (.int p5), .val (.int nA), .val (.int nB), .val (.int bb), .val (.ref a6), .val (.ref a9), .val (.ref b12), .val (.int (p5 &&& (3 : Int32))), .val (.ref b21), .val (.int (own_eqv nA nB (own_ch p2 (0 : Int32)) (own_ch bb (0 : Int32)) (own_ch p2 (1 : Int32)) (own_ch bb (1 : Int32)) (own_ch p2 (2 : Int32)) (own_ch bb (2 : Int32))))] [(.ref b12), (.ref b21)]) t → Steps p.tables e below E0 t := by
        intro t k
        refine pre_32 t ?_
        show Sp p e below T31 (mkF m 93 #[.val (.int p1), .val (.int p2), .val (.int p3), .val (.int p4), .val (.int p5), .val (.int nA), .val (.int nB), .val (.int bb), .val (.ref a6), .val (.ref a9), .val (.ref b12), .val (.int (p5 &&& (3 : Int32))), .val (.ref b21), .val (.int (own_eqv nA nB (own_ch p2 (0 : Int32)) (own_ch bb (0 : Int32)) (own_ch p2 (1 : Int32)) (own_ch bb (1 : Int32)) (own_ch p2 (2 : Int32)) (own_ch bb (2 : Int32))))] [(.int (own_eqv nA nB (own_ch p2 (0 : Int32)) (own_ch bb (0 : Int32)) (own_ch p2 (1 : Int32)) (own_ch bb (1 : Int32)) (own_ch p2 (2 : Int32)) (own_ch bb (2 : Int32))))]) _
        refine XS.iload X31.here hx rfl (hb hby at_93) rfl ?_
        refine XS.icmpNo X31.here hx rfl (hb hby at_95) rfl (XT.ii_ne_f rfl) ?_
        refine XS.aload X31.here hx rfl (hb hby at_98) rfl rfl ?_
        show Sp p e below T31 (mkF m 100 #[.val (.int p1), .val (.int p2), .val (.int p3), .val (.int p4), .val (.int p5), .val (.int nA), .val (.int nB), .val (.int bb), .val (.ref a6), .val (.ref a9), .val (.ref b12), .val (.int (p5 &&& (3 : Int32))), .val (.ref b21), .val (.int (own_eqv nA nB (own_ch p2 (0 : Int32)) (own_ch bb (0 : Int32)) (own_ch p2 (1 : Int32)) (own_ch bb (1 : Int32)) (own_ch p2 (2 : Int32)) (own_ch bb (2 : Int32))))] [(.ref b21)]) _
        refine XS.aload X31.here hx rfl (hb hby at_100) rfl rfl ?_
        exact k
      obtain ⟨cq34, kq34, qa34, qb34, qc34⟩ := isOf hZ9 e31 (A21.keep K25)
      obtain ⟨_, _, ⟨T34, L34, k34, n34⟩, -, X34, ⟨Lc34, hQ34, l34, y34, z34⟩, st34⟩ := X31.virtualBack hx (y := (⟨"com/example/foretell/foretell/core/ModelValue", "equals", "(Ljava/lang/Object;)Z"⟩ : MethodName)) (z := (⟨"com/example/foretell/foretell/core/ModelValue", "equals", "(Ljava/lang/Object;)Z"⟩ : MethodName)) ho9 (mvT hZ9 (own_w hw 57 rfl)) (mvT hZ9 (own_w hw 58 rfl)) (notFace_of_selects (args := #[]) (mvT hZ9 (own_w hw 60 rfl))) (mvT hZ9 (own_w hw 60 rfl)) (mvT hZ9 (own_w hw 59 rfl)) (by decide) (backOf (W := 0) (rm_eqm l Z a0 hw [] b21 b12 a9 a6 b9 b6 G1 kB9 kB6 nB nA (own_ch bb (0 : Int32)) (own_ch bb (1 : Int32)) (own_ch bb (2 : Int32)) (own_ch p2 (0 : Int32)) (own_ch p2 (1 : Int32)) (own_ch p2 (2 : Int32)) T25.heap n0 O25 (((A12.keep K16).ext E21).keep K25) Fa25 ((Fa16.ext E21).keep K25 (ninS (Nat.ne_of_lt (Nat.lt_of_lt_of_le (A12.keep K16).lt (Nat.le_of_eq g21.symm))) nin0)) ((((Ea9.ext E12).keep K16).ext E21).keep K25) (((((Ea6.keep K9).ext E12).keep K16).ext E21).keep K25) ((((Fc9.ext E12).keep K16 (ninS (Nat.ne_of_lt (Nat.lt_of_lt_of_le Ea9.lt (Nat.le_of_eq g12.symm))) nin0)).ext E21).keep K25 (ninS (Nat.ne_of_lt (Nat.lt_of_lt_of_le ((Ea9.ext E12).keep K16).lt (Nat.le_of_eq g21.symm))) nin0)) (((((Fc6.keep K9 nin0).ext E12).keep K16 (ninS (Nat.ne_of_lt (Nat.lt_of_lt_of_le (Ea6.keep K9).lt (Nat.le_of_eq g12.symm))) nin0)).ext E21).keep K25 (ninS (Nat.ne_of_lt (Nat.lt_of_lt_of_le (((Ea6.keep K9).ext E12).keep K16).lt (Nat.le_of_eq g21.symm))) nin0)) ((((Fv9.ext E12).keep K16 (ninS (Nat.ne_of_lt (Nat.lt_of_lt_of_le Ea9.lt (Nat.le_of_eq g12.symm))) nin0)).ext E21).keep K25 (ninS (Nat.ne_of_lt (Nat.lt_of_lt_of_le ((Ea9.ext E12).keep K16).lt (Nat.le_of_eq g21.symm))) nin0)) (((((Fv6.keep K9 nin0).ext E12).keep K16 (ninS (Nat.ne_of_lt (Nat.lt_of_lt_of_le (Ea6.keep K9).lt (Nat.le_of_eq g12.symm))) nin0)).ext E21).keep K25 (ninS (Nat.ne_of_lt (Nat.lt_of_lt_of_le (((Ea6.keep K9).ext E12).keep K16).lt (Nat.le_of_eq g21.symm))) nin0)) ((((Ab9.ext E12).keep K16 (ninS (Nat.ne_of_lt (Nat.lt_of_lt_of_le Ab9.lt (Nat.le_of_eq g12.symm))) nin0)).ext E21).keep K25 (ninS (Nat.ne_of_lt (Nat.lt_of_lt_of_le ((Ab9.ext E12).keep K16 (ninS (Nat.ne_of_lt (Nat.lt_of_lt_of_le Ab9.lt (Nat.le_of_eq g12.symm))) nin0)).lt (Nat.le_of_eq g21.symm))) nin0)) (((((Ab6.keep K9 nin0).ext E12).keep K16 (ninS (Nat.ne_of_lt (Nat.lt_of_lt_of_le (Ab6.keep K9 nin0).lt (Nat.le_of_eq g12.symm))) nin0)).ext E21).keep K25 (ninS (Nat.ne_of_lt (Nat.lt_of_lt_of_le (((Ab6.keep K9 nin0).ext E12).keep K16 (ninS (Nat.ne_of_lt (Nat.lt_of_lt_of_le (Ab6.keep K9 nin0).lt (Nat.le_of_eq g12.symm))) nin0)).lt (Nat.le_of_eq g21.symm))) nin0)) (Ne.symm (Nat.ne_of_lt (Nat.lt_of_lt_of_le Ea6.lt sa9))) SC hG (own_chr _ _).2 (own_chr _ _).2 (own_chr _ _).2 (own_chr _ _).2 (own_chr _ _).2 (own_chr _ _).2) hZ9 (own_w hw 61 rfl) (own_w hw 42 rfl) (by decide) (by decide)) qa34 qc34 (g := (mkF m 102 #[.val (.int p1), .val (.int p2), .val (.int p3), .val (.int p4), .val (.int p5), .val (.int nA), .val (.int nB), .val (.int bb), .val (.ref a6), .val (.ref a9), .val (.ref b12), .val (.int (p5 &&& (3 : Int32))), .val (.ref b21), .val (.int (own_eqv nA nB (own_ch p2 (0 : Int32)) (own_ch bb (0 : Int32)) (own_ch p2 (1 : Int32)) (own_ch bb (1 : Int32)) (own_ch p2 (2 : Int32)) (own_ch bb (2 : Int32))))] [(.ref b12), (.ref b21)])) rfl (by rw [hml]; rfl) (Steps.refl _) (argsL := [(.ref b12)]) (rest := []) (lenOf pd_law_3 rfl) rfl (by show 2 * 0 + _ ≤ _; exact Nat.le_of_eq rfl) (hb hby at_102) (fun _ _ => ⟨rfl, e31, (by decide : 10 + 0 ≤ _), (by decide : 24 + 0 ≤ _)⟩)
      dsimp only [Pt.U, Pt.locs, Pt.cells, Pt.slots] at X34 l34 y34 z34 st34 hQ34
      subst l34 y34 z34
      obtain ⟨hv34, N34q, e34⟩ := hQ34
      rw [own_eqv_symm] at hv34
      subst hv34
      have N34 := Fr.app N31 N34q
      have pre_35 : ∀ t, Sp p e below T34 (mkF m 105 #[.val (.int p1), .val (.int p2), .val (.int p3), .val (.int p4), .val (.int p5), .val (.int nA), .val (.int nB), .val (.int bb), .val (.ref a6), .val (.ref a9), .val (.ref b12), .val (.int (p5 &&& (3 : Int32))), .val (.ref b21), .val (.int (own_eqv nA nB (own_ch p2 (0 : Int32)) (own_ch bb (0 : Int32)) (own_ch p2 (1 : Int32)) (own_ch bb (1 : Int32)) (own_ch p2 (2 : Int32)) (own_ch bb (2 : Int32))))] [(.int (own_eqv nA nB (own_ch p2 (0 : Int32)) (own_ch bb (0 : Int32)) (own_ch p2 (1 : Int32)) (own_ch bb (1 : Int32)) (own_ch p2 (2 : Int32)) (own_ch bb (2 : Int32))))]) t → Steps p.tables e below E0 t := fun t k => pre_33 t (st34.trans k)
      have pre_36 : ∀ t, Sp p e below T34 (mkF m 115 #[.val (.int p1), .val (.int p2), .val (.int p3), .val (.int p4), .val (.int p5), .val (.int nA), .val (.int nB), .val (.int bb), .val (.ref a6), .val (.ref a9), .val (.ref b12), .val (.int (p5 &&& (3 : Int32))), .val (.ref b21), .val (.int (own_eqv nA nB (own_ch p2 (0 : Int32)) (own_ch bb (0 : Int32)) (own_ch p2 (1 : Int32)) (own_ch bb (1 : Int32)) (own_ch p2 (2 : Int32)) (own_ch bb (2 : Int32))))] [(.int (1 : Int32))]) t → Steps p.tables e below E0 t := by
        intro t k
        refine pre_35 t ?_
        show Sp p e below T34 (mkF m 105 #[.val (.int p1), .val (.int p2), .val (.int p3), .val (.int p4), .val (.int p5), .val (.int nA), .val (.int nB), .val (.int bb), .val (.ref a6), .val (.ref a9), .val (.ref b12), .val (.int (p5 &&& (3 : Int32))), .val (.ref b21), .val (.int (own_eqv nA nB (own_ch p2 (0 : Int32)) (own_ch bb (0 : Int32)) (own_ch p2 (1 : Int32)) (own_ch bb (1 : Int32)) (own_ch p2 (2 : Int32)) (own_ch bb (2 : Int32))))] [(.int (own_eqv nA nB (own_ch p2 (0 : Int32)) (own_ch bb (0 : Int32)) (own_ch p2 (1 : Int32)) (own_ch bb (1 : Int32)) (own_ch p2 (2 : Int32)) (own_ch bb (2 : Int32))))]) _
        refine XS.iload X34.here hx rfl (hb hby at_105) rfl ?_
        refine XS.icmpNo X34.here hx rfl (hb hby at_107) rfl (XT.ii_ne_f rfl) ?_
        refine XS.iconst X34.here hx rfl (hb hby at_110) ?_
        show Sp p e below T34 (mkF m 111 #[.val (.int p1), .val (.int p2), .val (.int p3), .val (.int p4), .val (.int p5), .val (.int nA), .val (.int nB), .val (.int bb), .val (.ref a6), .val (.ref a9), .val (.ref b12), .val (.int (p5 &&& (3 : Int32))), .val (.ref b21), .val (.int (own_eqv nA nB (own_ch p2 (0 : Int32)) (own_ch bb (0 : Int32)) (own_ch p2 (1 : Int32)) (own_ch bb (1 : Int32)) (own_ch p2 (2 : Int32)) (own_ch bb (2 : Int32))))] [(.int (1 : Int32))]) _
        refine XS.goto X34.here hx rfl (pc0 := 111) (pc' := 115) rfl (hb hby at_111) (by decide) (by decide) ?_
        exact k
      obtain ⟨fs, hr, hrun, hended, hEnd⟩ := X34.leaveW hS9 (by rw [e34]; exact (Nat.le_trans (Nat.le_refl _) (Nat.le_trans (Nat.le_trans (Nat.le_trans (Nat.le_trans (Nat.le_refl _) E12.1) K16.1) E21.1) K25.1))) (v := some (.int (1 : Int32))) (fun h => by rw [Bd.returns] at h; cases h)
      refine ⟨_, _, pre_36 _ ?_, hrun, hended, _, _, rfl, ?_, hEnd.1, hEnd.2.1, hEnd.2.2.1, hEnd.2.2.2.mono (by decide) (by decide)⟩
      · show Sp p e below T34 (mkF m 115 #[.val (.int p1), .val (.int p2), .val (.int p3), .val (.int p4), .val (.int p5), .val (.int nA), .val (.int nB), .val (.int bb), .val (.ref a6), .val (.ref a9), .val (.ref b12), .val (.int (p5 &&& (3 : Int32))), .val (.ref b21), .val (.int (own_eqv nA nB (own_ch p2 (0 : Int32)) (own_ch bb (0 : Int32)) (own_ch p2 (1 : Int32)) (own_ch bb (1 : Int32)) (own_ch p2 (2 : Int32)) (own_ch bb (2 : Int32))))] [(.int (1 : Int32))]) _
        exact retN X34 hx (t := .boolean) Bd.returns (by simp) (hb hby at_115) hr
      · show Q_law Z _ _ _ _ _ _ h0 n0 _ T34.vm T34.heap _
        rw [e34]
        exact ⟨rfl, N34⟩
    · skip
      have pre_37 : ∀ t, Sp p e below T16 (mkF m 119 #[.val (.int p1), .val (.int p2), .val (.int p3), .val (.int p4), .val (.int p5), .val (.int nA), .val (.int nB), .val (.int bb), .val (.ref a6), .val (.ref a9), .val (.ref b12), .val (.int (p5 &&& (3 : Int32))), .unset, .unset] [(.int (1 : Int32)), (.int (p5 &&& (3 : Int32)))]) t → Steps p.tables e below E0 t := by
        intro t k
        refine pre_18 t ?_
        show Sp p e below T16 (mkF m 60 #[.val (.int p1), .val (.int p2), .val (.int p3), .val (.int p4), .val (.int p5), .val (.int nA), .val (.int nB), .val (.int bb), .val (.ref a6), .val (.ref a9), .val (.ref b12), .val (.int (p5 &&& (3 : Int32))), .unset, .unset] [(.int (p5 &&& (3 : Int32)))]) _
        refine XS.ifYes X16.here hx rfl (pc0 := 60) (pc' := 116) rfl (hb hby at_60) rfl (XT.i0_ne_t hc19) (by decide) (by decide) ?_
        refine XS.iload X16.here hx rfl (hb hby at_116) rfl ?_
        show Sp p e below T16 (mkF m 118 #[.val (.int p1), .val (.int p2), .val (.int p3), .val (.int p4), .val (.int p5), .val (.int nA), .val (.int nB), .val (.int bb), .val (.ref a6), .val (.ref a9), .val (.ref b12), .val (.int (p5 &&& (3 : Int32))), .unset, .unset] [(.int (p5 &&& (3 : Int32)))]) _
        refine XS.iconst X16.here hx rfl (hb hby at_118) ?_
        exact k
      by_cases hc38 : (p5 &&& (3 : Int32)) = (1 : Int32)
      · skip
        have pre_39 : ∀ t, Sp p e below T16 (mkF m 122 #[.val (.int p1), .val (.int p2), .val (.int p3), .val (.int p4), .val (.int p5), .val (.int nA), .val (.int nB), .val (.int bb), .val (.ref a6), .val (.ref a9), .val (.ref b12), .val (.int (p5 &&& (3 : Int32))), .unset, .unset] []) t → Steps p.tables e below E0 t := by
          intro t k
          refine pre_37 t ?_
          show Sp p e below T16 (mkF m 119 #[.val (.int p1), .val (.int p2), .val (.int p3), .val (.int p4), .val (.int p5), .val (.int nA), .val (.int nB), .val (.int bb), .val (.ref a6), .val (.ref a9), .val (.ref b12), .val (.int (p5 &&& (3 : Int32))), .unset, .unset] [(.int (1 : Int32)), (.int (p5 &&& (3 : Int32)))]) _
          refine XS.icmpNo X16.here hx rfl (hb hby at_119) rfl (XT.ii_ne_f hc38) ?_
          exact k
        obtain ⟨T40, h40, X40, e40, E40, A40, D40, -, st40⟩ := newO X16 hx hZ9 ho9 (own_w hw 74 rfl) (own_w hw 75 rfl) (own_w hw 76 rfl) rfl (g := (mkF m 122 #[.val (.int p1), .val (.int p2), .val (.int p3), .val (.int p4), .val (.int p5), .val (.int nA), .val (.int nB), .val (.int bb), .val (.ref a6), .val (.ref a9), .val (.ref b12), .val (.int (p5 &&& (3 : Int32))), .unset, .unset] [])) rfl (hb hby at_122) (by decide) (by decide)
        obtain ⟨b40, g40⟩ : ∃ z, z = T16.heap.size := ⟨_, rfl⟩
        rw [← g40] at A40 D40 st40
        have O40 : Old Z n0 h40 := O16.ext E40
        have F41 : Fld Z h40 b40 "com/example/foretell/foretell/core/StringValue" "value" "Ljava/lang/String;" .null := D40 (Or.inr (own_w hw 82 rfl)) (ty := (.object "java/lang/String")) (by decide)
        have pre_42 : ∀ t, Sp p e below T40 (mkF m 125 #[.val (.int p1), .val (.int p2), .val (.int p3), .val (.int p4), .val (.int p5), .val (.int nA), .val (.int nB), .val (.int bb), .val (.ref a6), .val (.ref a9), .val (.ref b12), .val (.int (p5 &&& (3 : Int32))), .unset, .unset] [(.ref b40)]) t → Steps p.tables e below E0 t := fun t k => pre_39 t (st40 t k)
        have pre_43 : ∀ t, Sp p e below T40 (mkF m 128 #[.val (.int p1), .val (.int p2), .val (.int p3), .val (.int p4), .val (.int p5), .val (.int nA), .val (.int nB), .val (.int bb), .val (.ref a6), .val (.ref a9), .val (.ref b12), .val (.int (p5 &&& (3 : Int32))), .unset, .unset] [(.ref a9), (.ref b40), (.ref b40)]) t → Steps p.tables e below E0 t := by
          intro t k
          refine pre_42 t ?_
          show Sp p e below T40 (mkF m 125 #[.val (.int p1), .val (.int p2), .val (.int p3), .val (.int p4), .val (.int p5), .val (.int nA), .val (.int nB), .val (.int bb), .val (.ref a6), .val (.ref a9), .val (.ref b12), .val (.int (p5 &&& (3 : Int32))), .unset, .unset] [(.ref b40)]) _
          refine XS.dup X40.here hx rfl (hb hby at_125) rfl rfl ?_
          refine XS.aload X40.here hx rfl (hb hby at_126) rfl rfl ?_
          show Sp p e below T40 (mkF m 128 #[.val (.int p1), .val (.int p2), .val (.int p3), .val (.int p4), .val (.int p5), .val (.int nA), .val (.int nB), .val (.int bb), .val (.ref a6), .val (.ref a9), .val (.ref b12), .val (.int (p5 &&& (3 : Int32))), .unset, .unset] [(.ref a9), (.ref b40), (.ref b40)]) _
          exact k
        obtain ⟨_, _, ⟨T44, L44, k44, n44⟩, -, X44, ⟨Lc44, hQ44, l44, y44, z44⟩, st44⟩ := X40.specialBack hx (y := (⟨"com/example/foretell/foretell/core/StringValue", "<init>", "(Ljava/lang/String;)V"⟩ : MethodName)) rfl ho9 (mvT hZ9 (own_w hw 77 rfl)) (mvT hZ9 (own_w hw 78 rfl)) (mvT hZ9 (own_w hw 79 rfl)) (by decide) (backOf (W := 1) (rm_svi l Z a0 hw [] b40 a9 .null h40 n0 O40 A40 F41 (Nat.le_trans (own_le O16) (Nat.le_of_eq g40.symm))) hZ9 (own_w hw 79 rfl) (own_w hw 76 rfl) (by decide) (by decide)) (g := (mkF m 128 #[.val (.int p1), .val (.int p2), .val (.int p3), .val (.int p4), .val (.int p5), .val (.int nA), .val (.int nB), .val (.int bb), .val (.ref a6), .val (.ref a9), .val (.ref b12), .val (.int (p5 &&& (3 : Int32))), .unset, .unset] [(.ref a9), (.ref b40), (.ref b40)])) rfl (by rw [hml]; rfl) (Steps.refl _) (a := b40) (argsL := [(.ref a9)]) (rest := [(.ref b40)]) (lenOf pd_law_1 rfl) rfl (by show 2 * 0 + _ ≤ _; exact Nat.le_of_eq rfl) (hb hby at_128) (fun _ _ => ⟨rfl, e40, (by decide : 10 + 0 ≤ _), (by decide : 24 + 0 ≤ _)⟩)
        dsimp only [Pt.U, Pt.locs, Pt.cells, Pt.slots] at X44 l44 y44 z44 st44 hQ44
        subst l44 y44 z44
        obtain ⟨rfl, N44q, K44, Fa44⟩ := hQ44
        have N44 := Fr.app N16 N44q
        have O44 : Old Z n0 T44.heap := O40.keep K44 (allS (Nat.le_trans (own_le O16) (Nat.le_of_eq g40.symm)) all0)
        have pre_45 : ∀ t, Sp p e below T44 (mkF m 131 #[.val (.int p1), .val (.int p2), .val (.int p3), .val (.int p4), .val (.int p5), .val (.int nA), .val (.int nB), .val (.int bb), .val (.ref a6), .val (.ref a9), .val (.ref b12), .val (.int (p5 &&& (3 : Int32))), .unset, .unset] [(.ref b40)]) t → Steps p.tables e below E0 t := fun t k => pre_43 t (st44.trans k)
        have pre_46 : ∀ t, Sp p e below T44 (mkF m 137 #[.val (.int p1), .val (.int p2), .val (.int p3), .val (.int p4), .val (.int p5), .val (.int nA), .val (.int nB), .val (.int bb), .val (.ref a6), .val (.ref a9), .val (.ref b12), .val (.int (p5 &&& (3 : Int32))), .val (.ref b40), .unset] [(.ref b40), (.ref b12)]) t → Steps p.tables e below E0 t := by
          intro t k
          refine pre_45 t ?_
          show Sp p e below T44 (mkF m 131 #[.val (.int p1), .val (.int p2), .val (.int p3), .val (.int p4), .val (.int p5), .val (.int nA), .val (.int nB), .val (.int bb), .val (.ref a6), .val (.ref a9), .val (.ref b12), .val (.int (p5 &&& (3 : Int32))), .unset, .unset] [(.ref b40)]) _
          refine XS.astore X44.here hx rfl (hb hby at_131) rfl rfl (l' := #[.val (.int p1), .val (.int p2), .val (.int p3), .val (.int p4), .val (.int p5), .val (.int nA), .val (.int nB), .val (.int bb), .val (.ref a6), .val (.ref a9), .val (.ref b12), .val (.int (p5 &&& (3 : Int32))), .val (.ref b40), .unset]) rfl ?_
          refine XS.aload X44.here hx rfl (hb hby at_133) rfl rfl ?_
          refine XS.aload X44.here hx rfl (hb hby at_135) rfl rfl ?_
          exact k
        obtain ⟨cq47, kq47, qa47, qb47, qc47⟩ := isOf hZ9 rfl (((A12.keep K16).ext E40).keep K44)
        obtain ⟨_, _, ⟨T47, L47, k47, n47⟩, -, X47, ⟨Lc47, hQ47, l47, y47, z47⟩, st47⟩ := X44.virtualBack hx (y := (⟨"com/example/foretell/foretell/core/ModelValue", "equals", "(Ljava/lang/Object;)Z"⟩ : MethodName)) (z := (⟨"com/example/foretell/foretell/core/ModelValue", "equals", "(Ljava/lang/Object;)Z"⟩ : MethodName)) ho9 (mvT hZ9 (own_w hw 57 rfl)) (mvT hZ9 (own_w hw 58 rfl)) (notFace_of_selects (args := #[]) (mvT hZ9 (own_w hw 60 rfl))) (mvT hZ9 (own_w hw 60 rfl)) (mvT hZ9 (own_w hw 59 rfl)) (by decide) (backOf (W := 0) (rm_eqo l Z a0 hw [] b12 b40 T44.heap n0 O44 (A40.keep K44)) hZ9 (own_w hw 61 rfl) (own_w hw 42 rfl) (by decide) (by decide)) qa47 qc47 (g := (mkF m 137 #[.val (.int p1), .val (.int p2), .val (.int p3), .val (.int p4), .val (.int p5), .val (.int nA), .val (.int nB), .val (.int bb), .val (.ref a6), .val (.ref a9), .val (.ref b12), .val (.int (p5 &&& (3 : Int32))), .val (.ref b40), .unset] [(.ref b40), (.ref b12)])) rfl (by rw [hml]; rfl) (Steps.refl _) (argsL := [(.ref b40)]) (rest := []) (lenOf pd_law_3 rfl) rfl (by show 2 * 0 + _ ≤ _; exact Nat.le_of_eq rfl) (hb hby at_137) (fun _ _ => ⟨rfl, rfl, (by decide : 10 + 0 ≤ _), (by decide : 24 + 0 ≤ _)⟩)
        dsimp only [Pt.U, Pt.locs, Pt.cells, Pt.slots] at X47 l47 y47 z47 st47 hQ47
        subst l47 y47 z47
        obtain ⟨rfl, N47q, e47⟩ := hQ47
        have N47 := Fr.app N44 N47q
        have pre_48 : ∀ t, Sp p e below T47 (mkF m 140 #[.val (.int p1), .val (.int p2), .val (.int p3), .val (.int p4), .val (.int p5), .val (.int nA), .val (.int nB), .val (.int bb), .val (.ref a6), .val (.ref a9), .val (.ref b12), .val (.int (p5 &&& (3 : Int32))), .val (.ref b40), .unset] [(.int (0 : Int32))]) t → Steps p.tables e below E0 t := fun t k => pre_46 t (st47.trans k)
        have pre_49 : ∀ t, Sp p e below T47 (mkF m 148 #[.val (.int p1), .val (.int p2), .val (.int p3), .val (.int p4), .val (.int p5), .val (.int nA), .val (.int nB), .val (.int bb), .val (.ref a6), .val (.ref a9), .val (.ref b12), .val (.int (p5 &&& (3 : Int32))), .val (.ref b40), .unset] [(.int (1 : Int32))]) t → Steps p.tables e below E0 t := by
          intro t k
          refine pre_48 t ?_
          show Sp p e below T47 (mkF m 140 #[.val (.int p1), .val (.int p2), .val (.int p3), .val (.int p4), .val (.int p5), .val (.int nA), .val (.int nB), .val (.int bb), .val (.ref a6), .val (.ref a9), .val (.ref b12), .val (.int (p5 &&& (3 : Int32))), .val (.ref b40), .unset] [(.int (0 : Int32))]) _
          refine XS.ifNo X47.here hx rfl (hb hby at_140) rfl (XT.i0_ne_f (by decide)) ?_
          show Sp p e below T47 (mkF m 143 #[.val (.int p1), .val (.int p2), .val (.int p3), .val (.int p4), .val (.int p5), .val (.int nA), .val (.int nB), .val (.int bb), .val (.ref a6), .val (.ref a9), .val (.ref b12), .val (.int (p5 &&& (3 : Int32))), .val (.ref b40), .unset] []) _
          refine XS.iconst X47.here hx rfl (hb hby at_143) ?_
          refine XS.goto X47.here hx rfl (pc0 := 144) (pc' := 148) rfl (hb hby at_144) (by decide) (by decide) ?_
          exact k
        obtain ⟨fs, hr, hrun, hended, hEnd⟩ := X47.leaveW hS9 (by rw [e47]; exact (Nat.le_trans (Nat.le_refl _) (Nat.le_trans (Nat.le_trans (Nat.le_trans (Nat.le_trans (Nat.le_refl _) E12.1) K16.1) E40.1) K44.1))) (v := some (.int (1 : Int32))) (fun h => by rw [Bd.returns] at h; cases h)
        refine ⟨_, _, pre_49 _ ?_, hrun, hended, _, _, rfl, ?_, hEnd.1, hEnd.2.1, hEnd.2.2.1, hEnd.2.2.2.mono (by decide) (by decide)⟩
        · show Sp p e below T47 (mkF m 148 #[.val (.int p1), .val (.int p2), .val (.int p3), .val (.int p4), .val (.int p5), .val (.int nA), .val (.int nB), .val (.int bb), .val (.ref a6), .val (.ref a9), .val (.ref b12), .val (.int (p5 &&& (3 : Int32))), .val (.ref b40), .unset] [(.int (1 : Int32))]) _
          exact retN X47 hx (t := .boolean) Bd.returns (by simp) (hb hby at_148) hr
        · show Q_law Z _ _ _ _ _ _ h0 n0 _ T47.vm T47.heap _
          rw [e47]
          exact ⟨rfl, N47⟩
      · skip
        have pre_50 : ∀ t, Sp p e below T16 (mkF m 152 #[.val (.int p1), .val (.int p2), .val (.int p3), .val (.int p4), .val (.int p5), .val (.int nA), .val (.int nB), .val (.int bb), .val (.ref a6), .val (.ref a9), .val (.ref b12), .val (.int (p5 &&& (3 : Int32))), .unset, .unset] [(.int (2 : Int32)), (.int (p5 &&& (3 : Int32)))]) t → Steps p.tables e below E0 t := by
          intro t k
          refine pre_37 t ?_
          show Sp p e below T16 (mkF m 119 #[.val (.int p1), .val (.int p2), .val (.int p3), .val (.int p4), .val (.int p5), .val (.int nA), .val (.int nB), .val (.int bb), .val (.ref a6), .val (.ref a9), .val (.ref b12), .val (.int (p5 &&& (3 : Int32))), .unset, .unset] [(.int (1 : Int32)), (.int (p5 &&& (3 : Int32)))]) _
          refine XS.icmpYes X16.here hx rfl (pc0 := 119) (pc' := 149) rfl (hb hby at_119) rfl (XT.ii_ne_t hc38) (by decide) (by decide) ?_
          refine XS.iload X16.here hx rfl (hb hby at_149) rfl ?_
          refine XS.iconst X16.here hx rfl (hb hby at_151) ?_
          show Sp p e below T16 (mkF m 152 #[.val (.int p1), .val (.int p2), .val (.int p3), .val (.int p4), .val (.int p5), .val (.int nA), .val (.int nB), .val (.int bb), .val (.ref a6), .val (.ref a9), .val (.ref b12), .val (.int (p5 &&& (3 : Int32))), .unset, .unset] [(.int (2 : Int32)), (.int (p5 &&& (3 : Int32)))]) _
          exact k
        by_cases hc51 : (p5 &&& (3 : Int32)) = (2 : Int32)
        · skip
          have pre_52 : ∀ t, Sp p e below T16 (mkF m 158 #[.val (.int p1), .val (.int p2), .val (.int p3), .val (.int p4), .val (.int p5), .val (.int nA), .val (.int nB), .val (.int bb), .val (.ref a6), .val (.ref a9), .val (.ref b12), .val (.int (p5 &&& (3 : Int32))), .unset, .unset] [.null, (.ref b12)]) t → Steps p.tables e below E0 t := by
            intro t k
            refine pre_50 t ?_
            show Sp p e below T16 (mkF m 152 #[.val (.int p1), .val (.int p2), .val (.int p3), .val (.int p4), .val (.int p5), .val (.int nA), .val (.int nB), .val (.int bb), .val (.ref a6), .val (.ref a9), .val (.ref b12), .val (.int (p5 &&& (3 : Int32))), .unset, .unset] [(.int (2 : Int32)), (.int (p5 &&& (3 : Int32)))]) _
            refine XS.icmpNo X16.here hx rfl (hb hby at_152) rfl (XT.ii_ne_f hc51) ?_
            refine XS.aload X16.here hx rfl (hb hby at_155) rfl rfl ?_
            refine XS.aconstNull X16.here hx rfl (hb hby at_157) ?_
            exact k
          obtain ⟨cq53, kq53, qa53, qb53, qc53⟩ := isOf hZ9 rfl (A12.keep K16)
          obtain ⟨_, _, ⟨T53, L53, k53, n53⟩, -, X53, ⟨Lc53, hQ53, l53, y53, z53⟩, st53⟩ := X16.virtualBack hx (y := (⟨"com/example/foretell/foretell/core/ModelValue", "equals", "(Ljava/lang/Object;)Z"⟩ : MethodName)) (z := (⟨"com/example/foretell/foretell/core/ModelValue", "equals", "(Ljava/lang/Object;)Z"⟩ : MethodName)) ho9 (mvT hZ9 (own_w hw 57 rfl)) (mvT hZ9 (own_w hw 58 rfl)) (notFace_of_selects (args := #[]) (mvT hZ9 (own_w hw 60 rfl))) (mvT hZ9 (own_w hw 60 rfl)) (mvT hZ9 (own_w hw 59 rfl)) (by decide) (backOf (W := 0) (rm_eqn l Z a0 hw [] b12 T16.heap n0 O16) hZ9 (own_w hw 61 rfl) (own_w hw 42 rfl) (by decide) (by decide)) qa53 qc53 (g := (mkF m 158 #[.val (.int p1), .val (.int p2), .val (.int p3), .val (.int p4), .val (.int p5), .val (.int nA), .val (.int nB), .val (.int bb), .val (.ref a6), .val (.ref a9), .val (.ref b12), .val (.int (p5 &&& (3 : Int32))), .unset, .unset] [.null, (.ref b12)])) rfl (by rw [hml]; rfl) (Steps.refl _) (argsL := [.null]) (rest := []) (lenOf pd_law_3 rfl) rfl (by show 2 * 0 + _ ≤ _; exact Nat.le_of_eq rfl) (hb hby at_158) (fun _ _ => ⟨rfl, rfl, (by decide : 9 + 0 ≤ _), (by decide : 23 + 0 ≤ _)⟩)
          dsimp only [Pt.U, Pt.locs, Pt.cells, Pt.slots] at X53 l53 y53 z53 st53 hQ53
          subst l53 y53 z53
          obtain ⟨rfl, N53q, e53⟩ := hQ53
          have N53 := Fr.app N16 N53q
          have pre_54 : ∀ t, Sp p e below T53 (mkF m 161 #[.val (.int p1), .val (.int p2), .val (.int p3), .val (.int p4), .val (.int p5), .val (.int nA), .val (.int nB), .val (.int bb), .val (.ref a6), .val (.ref a9), .val (.ref b12), .val (.int (p5 &&& (3 : Int32))), .unset, .unset] [(.int (0 : Int32))]) t → Steps p.tables e below E0 t := fun t k => pre_52 t (st53.trans k)
          have pre_55 : ∀ t, Sp p e below T53 (mkF m 169 #[.val (.int p1), .val (.int p2), .val (.int p3), .val (.int p4), .val (.int p5), .val (.int nA), .val (.int nB), .val (.int bb), .val (.ref a6), .val (.ref a9), .val (.ref b12), .val (.int (p5 &&& (3 : Int32))), .unset, .unset] [(.int (1 : Int32))]) t → Steps p.tables e below E0 t := by
            intro t k
            refine pre_54 t ?_
            show Sp p e below T53 (mkF m 161 #[.val (.int p1), .val (.int p2), .val (.int p3), .val (.int p4), .val (.int p5), .val (.int nA), .val (.int nB), .val (.int bb), .val (.ref a6), .val (.ref a9), .val (.ref b12), .val (.int (p5 &&& (3 : Int32))), .unset, .unset] [(.int (0 : Int32))]) _
            refine XS.ifNo X53.here hx rfl (hb hby at_161) rfl (XT.i0_ne_f (by decide)) ?_
            show Sp p e below T53 (mkF m 164 #[.val (.int p1), .val (.int p2), .val (.int p3), .val (.int p4), .val (.int p5), .val (.int nA), .val (.int nB), .val (.int bb), .val (.ref a6), .val (.ref a9), .val (.ref b12), .val (.int (p5 &&& (3 : Int32))), .unset, .unset] []) _
            refine XS.iconst X53.here hx rfl (hb hby at_164) ?_
            refine XS.goto X53.here hx rfl (pc0 := 165) (pc' := 169) rfl (hb hby at_165) (by decide) (by decide) ?_
            exact k
          obtain ⟨fs, hr, hrun, hended, hEnd⟩ := X53.leaveW hS9 (by rw [e53]; exact (Nat.le_trans (Nat.le_refl _) (Nat.le_trans (Nat.le_trans (Nat.le_refl _) E12.1) K16.1))) (v := some (.int (1 : Int32))) (fun h => by rw [Bd.returns] at h; cases h)
          refine ⟨_, _, pre_55 _ ?_, hrun, hended, _, _, rfl, ?_, hEnd.1, hEnd.2.1, hEnd.2.2.1, hEnd.2.2.2.mono (by decide) (by decide)⟩
          · show Sp p e below T53 (mkF m 169 #[.val (.int p1), .val (.int p2), .val (.int p3), .val (.int p4), .val (.int p5), .val (.int nA), .val (.int nB), .val (.int bb), .val (.ref a6), .val (.ref a9), .val (.ref b12), .val (.int (p5 &&& (3 : Int32))), .unset, .unset] [(.int (1 : Int32))]) _
            exact retN X53 hx (t := .boolean) Bd.returns (by simp) (hb hby at_169) hr
          · show Q_law Z _ _ _ _ _ _ h0 n0 _ T53.vm T53.heap _
            rw [e53]
            exact ⟨rfl, N53⟩
        · skip
          have pre_56 : ∀ t, Sp p e below T16 (mkF m 174 #[.val (.int p1), .val (.int p2), .val (.int p3), .val (.int p4), .val (.int p5), .val (.int nA), .val (.int nB), .val (.int bb), .val (.ref a6), .val (.ref a9), .val (.ref b12), .val (.int (p5 &&& (3 : Int32))), .unset, .unset] [(.ref b12), (.ref b12)]) t → Steps p.tables e below E0 t := by
            intro t k
            refine pre_50 t ?_
            show Sp p e below T16 (mkF m 152 #[.val (.int p1), .val (.int p2), .val (.int p3), .val (.int p4), .val (.int p5), .val (.int nA), .val (.int nB), .val (.int bb), .val (.ref a6), .val (.ref a9), .val (.ref b12), .val (.int (p5 &&& (3 : Int32))), .unset, .unset] [(.int (2 : Int32)), (.int (p5 &&& (3 : Int32)))]) _
            refine XS.icmpYes X16.here hx rfl (pc0 := 152) (pc' := 170) rfl (hb hby at_152) rfl (XT.ii_ne_t hc51) (by decide) (by decide) ?_
            refine XS.aload X16.here hx rfl (hb hby at_170) rfl rfl ?_
            refine XS.aload X16.here hx rfl (hb hby at_172) rfl rfl ?_
            exact k
          obtain ⟨cq57, kq57, qa57, qb57, qc57⟩ := isOf hZ9 rfl (A12.keep K16)
          obtain ⟨_, _, ⟨T57, L57, k57, n57⟩, -, X57, ⟨Lc57, hQ57, l57, y57, z57⟩, st57⟩ := X16.virtualBack hx (y := (⟨"com/example/foretell/foretell/core/ModelValue", "equals", "(Ljava/lang/Object;)Z"⟩ : MethodName)) (z := (⟨"com/example/foretell/foretell/core/ModelValue", "equals", "(Ljava/lang/Object;)Z"⟩ : MethodName)) ho9 (mvT hZ9 (own_w hw 57 rfl)) (mvT hZ9 (own_w hw 58 rfl)) (notFace_of_selects (args := #[]) (mvT hZ9 (own_w hw 60 rfl))) (mvT hZ9 (own_w hw 60 rfl)) (mvT hZ9 (own_w hw 59 rfl)) (by decide) (backOf (W := 0) (rm_eqs l Z a0 hw [] b12 a6 T16.heap n0 O16 (A12.keep K16) Fa16 (((Ea6.keep K9).ext E12).keep K16)) hZ9 (own_w hw 61 rfl) (own_w hw 42 rfl) (by decide) (by decide)) qa57 qc57 (g := (mkF m 174 #[.val (.int p1), .val (.int p2), .val (.int p3), .val (.int p4), .val (.int p5), .val (.int nA), .val (.int nB), .val (.int bb), .val (.ref a6), .val (.ref a9), .val (.ref b12), .val (.int (p5 &&& (3 : Int32))), .unset, .unset] [(.ref b12), (.ref b12)])) rfl (by rw [hml]; rfl) (Steps.refl _) (argsL := [(.ref b12)]) (rest := []) (lenOf pd_law_3 rfl) rfl (by show 2 * 0 + _ ≤ _; exact Nat.le_of_eq rfl) (hb hby at_174) (fun _ _ => ⟨rfl, rfl, (by decide : 9 + 0 ≤ _), (by decide : 23 + 0 ≤ _)⟩)
          dsimp only [Pt.U, Pt.locs, Pt.cells, Pt.slots] at X57 l57 y57 z57 st57 hQ57
          subst l57 y57 z57
          obtain ⟨rfl, N57q, e57⟩ := hQ57
          have N57 := Fr.app N16 N57q
          have pre_58 : ∀ t, Sp p e below T57 (mkF m 177 #[.val (.int p1), .val (.int p2), .val (.int p3), .val (.int p4), .val (.int p5), .val (.int nA), .val (.int nB), .val (.int bb), .val (.ref a6), .val (.ref a9), .val (.ref b12), .val (.int (p5 &&& (3 : Int32))), .unset, .unset] [(.int (1 : Int32))]) t → Steps p.tables e below E0 t := fun t k => pre_56 t (st57.trans k)
          obtain ⟨fs, hr, hrun, hended, hEnd⟩ := X57.leaveW hS9 (by rw [e57]; exact (Nat.le_trans (Nat.le_refl _) (Nat.le_trans (Nat.le_trans (Nat.le_refl _) E12.1) K16.1))) (v := some (.int (1 : Int32))) (fun h => by rw [Bd.returns] at h; cases h)
          refine ⟨_, _, pre_58 _ ?_, hrun, hended, _, _, rfl, ?_, hEnd.1, hEnd.2.1, hEnd.2.2.1, hEnd.2.2.2.mono (by decide) (by decide)⟩
          · show Sp p e below T57 (mkF m 177 #[.val (.int p1), .val (.int p2), .val (.int p3), .val (.int p4), .val (.int p5), .val (.int nA), .val (.int nB), .val (.int bb), .val (.ref a6), .val (.ref a9), .val (.ref b12), .val (.int (p5 &&& (3 : Int32))), .unset, .unset] [(.int (1 : Int32))]) _
            exact retN X57 hx (t := .boolean) Bd.returns (by simp) (hb hby at_177) hr
          · show Q_law Z _ _ _ _ _ _ h0 n0 _ T57.vm T57.heap _
            rw [e57]
            exact ⟨rfl, N57⟩
  · skip
    have pre_59 : ∀ t, Sp p e below T6 (mkF m 36 #[.val (.int p1), .val (.int p2), .val (.int p3), .val (.int p4), .val (.int p5), .val (.int nA), .val (.int nB), .val (.int bb), .val (.ref a6), .unset, .unset, .unset, .unset, .unset] [(.int bb), (.int nB)]) t → Steps p.tables e below E0 t := by
      intro t k
      refine pre_7 t ?_
      show Sp p e below T6 (mkF m 30 #[.val (.int p1), .val (.int p2), .val (.int p3), .val (.int p4), .val (.int p5), .val (.int nA), .val (.int nB), .val (.int bb), .unset, .unset, .unset, .unset, .unset, .unset] [(.ref a6)]) _
      refine XS.astore X6.here hx rfl (hb hby at_30) rfl rfl (l' := #[.val (.int p1), .val (.int p2), .val (.int p3), .val (.int p4), .val (.int p5), .val (.int nA), .val (.int nB), .val (.int bb), .val (.ref a6), .unset, .unset, .unset, .unset, .unset]) rfl ?_
      refine XS.iload X6.here hx rfl (hb hby at_32) rfl ?_
      show Sp p e below T6 (mkF m 34 #[.val (.int p1), .val (.int p2), .val (.int p3), .val (.int p4), .val (.int p5), .val (.int nA), .val (.int nB), .val (.int bb), .val (.ref a6), .unset, .unset, .unset, .unset, .unset] [(.int nB)]) _
      refine XS.iload X6.here hx rfl (hb hby at_34) rfl ?_
      exact k
    obtain ⟨_, _, ⟨T60, L60, k60, n60⟩, -, Y60, hs60, hg60, ⟨Lc60, hQ60, l60, y60, z60⟩, st60⟩ := callSS X6 hx (y := (⟨"com/example/foretell/foretell/core/ModelValueEqualsPinLaw", "name", "(II)Ljava/lang/String;"⟩ : MethodName)) ho6 (mvT hZ6 (own_w hw 0 rfl)) (mvT hZ6 (own_w hw 1 rfl)) (mvT hZ6 (own_w hw 2 rfl)) (mvT hZ6 (own_w hw 3 rfl)) (by decide) (own_backS (W := 0) (rm_name l Z a0 hw [] nB bb G1 T6.heap n0 O6 SC hG hHC hCW hnB) hZ6 (own_w hw 3 rfl) (own_w hw 2 rfl) (by decide) (by decide) (fun _ q => Or.inr ⟨aE, bE, kE, xE, vE, cE, AE, Lit.stays (hL : Lit (s.setVm T6.vm) "java/lang/String" 7 aE) q.wide⟩)) (g := (mkF m 36 #[.val (.int p1), .val (.int p2), .val (.int p3), .val (.int p4), .val (.int p5), .val (.int nA), .val (.int nB), .val (.int bb), .val (.ref a6), .unset, .unset, .unset, .unset, .unset] [(.int bb), (.int nB)])) rfl (by rw [hml]; rfl) (argsL := [(.int nB), (.int bb)]) (rest := []) (lenOf pd_law_0 rfl) rfl (by show 2 * 0 + _ ≤ _; exact Nat.le_of_eq rfl) (hb hby at_36) (fun _ _ => ⟨rfl, rfl, (by decide : 4 + 4 ≤ _), (by decide : 11 + 11 ≤ _)⟩)
    dsimp only [Pt.U, Pt.locs, Pt.cells, Pt.slots] at Y60 hs60 hg60 l60 y60 z60 st60 hQ60
    subst l60 y60 z60
    obtain ⟨X60, hS60, hZ60, ho60⟩ := rebS hS6 (Nat.le_trans (Nat.le_refl _) (Nat.le_refl _)) Y60 hs60 hg60 hZ6 ho6
    obtain ⟨a60, b60, kB60, rfl, N60q, K60, sa60, Ea60, Fc60, Fv60, Ab60, hLL60⟩ := hQ60
    have N60 := Fr.app N6 N60q
    have O60 : Old Z n0 T60.heap := O6.keep K60 all0
    have pre_61 : ∀ t, Sp p e below T60 (mkF m 39 #[.val (.int p1), .val (.int p2), .val (.int p3), .val (.int p4), .val (.int p5), .val (.int nA), .val (.int nB), .val (.int bb), .val (.ref a6), .unset, .unset, .unset, .unset, .unset] [(.ref a60)]) t → Steps p.tables e below E0 t := fun t k => pre_59 t (st60.trans k)
    have pre_62 : ∀ t, Sp p e below T60 (mkF m 41 #[.val (.int p1), .val (.int p2), .val (.int p3), .val (.int p4), .val (.int p5), .val (.int nA), .val (.int nB), .val (.int bb), .val (.ref a6), .val (.ref a60), .unset, .unset, .unset, .unset] []) t → Steps p.tables e below E0 t := by
      intro t k
      refine pre_61 t ?_
      show Sp p e below T60 (mkF m 39 #[.val (.int p1), .val (.int p2), .val (.int p3), .val (.int p4), .val (.int p5), .val (.int nA), .val (.int nB), .val (.int bb), .val (.ref a6), .unset, .unset, .unset, .unset, .unset] [(.ref a60)]) _
      refine XS.astore X60.here hx rfl (hb hby at_39) rfl rfl (l' := #[.val (.int p1), .val (.int p2), .val (.int p3), .val (.int p4), .val (.int p5), .val (.int nA), .val (.int nB), .val (.int bb), .val (.ref a6), .val (.ref a60), .unset, .unset, .unset, .unset]) rfl ?_
      exact k
    obtain ⟨T63, h63, X63, e63, E63, A63, D63, -, st63⟩ := newO X60 hx hZ60 ho60 (own_w hw 40 rfl) (own_w hw 41 rfl) (own_w hw 42 rfl) rfl (g := (mkF m 41 #[.val (.int p1), .val (.int p2), .val (.int p3), .val (.int p4), .val (.int p5), .val (.int nA), .val (.int nB), .val (.int bb), .val (.ref a6), .val (.ref a60), .unset, .unset, .unset, .unset] [])) rfl (hb hby at_41) (by decide) (by decide)
    obtain ⟨b63, g63⟩ : ∃ z, z = T60.heap.size := ⟨_, rfl⟩
    rw [← g63] at A63 D63 st63
    have O63 : Old Z n0 h63 := O60.ext E63
    have F64 : Fld Z h63 b63 "com/example/foretell/foretell/core/ModelValue" "name" "Ljava/lang/String;" .null := D63 (Or.inr (own_w hw 53 rfl)) (ty := (.object "java/lang/String")) (by decide)
    have pre_65 : ∀ t, Sp p e below T63 (mkF m 44 #[.val (.int p1), .val (.int p2), .val (.int p3), .val (.int p4), .val (.int p5), .val (.int nA), .val (.int nB), .val (.int bb), .val (.ref a6), .val (.ref a60), .unset, .unset, .unset, .unset] [(.ref b63)]) t → Steps p.tables e below E0 t := fun t k => pre_62 t (st63 t k)
    have pre_66 : ∀ t, Sp p e below T63 (mkF m 47 #[.val (.int p1), .val (.int p2), .val (.int p3), .val (.int p4), .val (.int p5), .val (.int nA), .val (.int nB), .val (.int bb), .val (.ref a6), .val (.ref a60), .unset, .unset, .unset, .unset] [(.ref a6), (.ref b63), (.ref b63)]) t → Steps p.tables e below E0 t := by
      intro t k
      refine pre_65 t ?_
      show Sp p e below T63 (mkF m 44 #[.val (.int p1), .val (.int p2), .val (.int p3), .val (.int p4), .val (.int p5), .val (.int nA), .val (.int nB), .val (.int bb), .val (.ref a6), .val (.ref a60), .unset, .unset, .unset, .unset] [(.ref b63)]) _
      refine XS.dup X63.here hx rfl (hb hby at_44) rfl rfl ?_
      refine XS.aload X63.here hx rfl (hb hby at_45) rfl rfl ?_
      show Sp p e below T63 (mkF m 47 #[.val (.int p1), .val (.int p2), .val (.int p3), .val (.int p4), .val (.int p5), .val (.int nA), .val (.int nB), .val (.int bb), .val (.ref a6), .val (.ref a60), .unset, .unset, .unset, .unset] [(.ref a6), (.ref b63), (.ref b63)]) _
      exact k
    obtain ⟨_, _, ⟨T67, L67, k67, n67⟩, -, X67, ⟨Lc67, hQ67, l67, y67, z67⟩, st67⟩ := X63.specialBack hx (y := (⟨"com/example/foretell/foretell/core/ModelValue", "<init>", "(Ljava/lang/String;)V"⟩ : MethodName)) rfl ho60 (mvT hZ60 (own_w hw 43 rfl)) (mvT hZ60 (own_w hw 44 rfl)) (mvT hZ60 (own_w hw 45 rfl)) (by decide) (backOf (W := 1) (rm_mvi l Z a0 hw [] b63 a6 .null h63 n0 O63 A63 F64 (Nat.le_trans (own_le O60) (Nat.le_of_eq g63.symm))) hZ60 (own_w hw 45 rfl) (own_w hw 42 rfl) (by decide) (by decide)) (g := (mkF m 47 #[.val (.int p1), .val (.int p2), .val (.int p3), .val (.int p4), .val (.int p5), .val (.int nA), .val (.int nB), .val (.int bb), .val (.ref a6), .val (.ref a60), .unset, .unset, .unset, .unset] [(.ref a6), (.ref b63), (.ref b63)])) rfl (by rw [hml]; rfl) (Steps.refl _) (a := b63) (argsL := [(.ref a6)]) (rest := [(.ref b63)]) (lenOf pd_law_1 rfl) rfl (by show 2 * 0 + _ ≤ _; exact Nat.le_of_eq rfl) (hb hby at_47) (fun _ _ => ⟨rfl, e63, (by decide : 9 + 0 ≤ _), (by decide : 23 + 0 ≤ _)⟩)
    dsimp only [Pt.U, Pt.locs, Pt.cells, Pt.slots] at X67 l67 y67 z67 st67 hQ67
    subst l67 y67 z67
    obtain ⟨rfl, N67q, K67, Fa67⟩ := hQ67
    have N67 := Fr.app N60 N67q
    have O67 : Old Z n0 T67.heap := O63.keep K67 (allS (Nat.le_trans (own_le O60) (Nat.le_of_eq g63.symm)) all0)
    have pre_68 : ∀ t, Sp p e below T67 (mkF m 50 #[.val (.int p1), .val (.int p2), .val (.int p3), .val (.int p4), .val (.int p5), .val (.int nA), .val (.int nB), .val (.int bb), .val (.ref a6), .val (.ref a60), .unset, .unset, .unset, .unset] [(.ref b63)]) t → Steps p.tables e below E0 t := fun t k => pre_66 t (st67.trans k)
    have pre_69 : ∀ t, Sp p e below T67 (mkF m 60 #[.val (.int p1), .val (.int p2), .val (.int p3), .val (.int p4), .val (.int p5), .val (.int nA), .val (.int nB), .val (.int bb), .val (.ref a6), .val (.ref a60), .val (.ref b63), .val (.int (p5 &&& (3 : Int32))), .unset, .unset] [(.int (p5 &&& (3 : Int32)))]) t → Steps p.tables e below E0 t := by
      intro t k
      refine pre_68 t ?_
      show Sp p e below T67 (mkF m 50 #[.val (.int p1), .val (.int p2), .val (.int p3), .val (.int p4), .val (.int p5), .val (.int nA), .val (.int nB), .val (.int bb), .val (.ref a6), .val (.ref a60), .unset, .unset, .unset, .unset] [(.ref b63)]) _
      refine XS.astore X67.here hx rfl (hb hby at_50) rfl rfl (l' := #[.val (.int p1), .val (.int p2), .val (.int p3), .val (.int p4), .val (.int p5), .val (.int nA), .val (.int nB), .val (.int bb), .val (.ref a6), .val (.ref a60), .val (.ref b63), .unset, .unset, .unset]) rfl ?_
      refine XS.iload X67.here hx rfl (hb hby at_52) rfl ?_
      refine XS.iconst X67.here hx rfl (hb hby at_54) ?_
      refine XS.iand X67.here hx rfl (hb hby at_55) rfl ?_
      show Sp p e below T67 (mkF m 56 #[.val (.int p1), .val (.int p2), .val (.int p3), .val (.int p4), .val (.int p5), .val (.int nA), .val (.int nB), .val (.int bb), .val (.ref a6), .val (.ref a60), .val (.ref b63), .unset, .unset, .unset] [(.int (p5 &&& (3 : Int32)))]) _
      refine XS.istore X67.here hx rfl (hb hby at_56) rfl (l' := #[.val (.int p1), .val (.int p2), .val (.int p3), .val (.int p4), .val (.int p5), .val (.int nA), .val (.int nB), .val (.int bb), .val (.ref a6), .val (.ref a60), .val (.ref b63), .val (.int (p5 &&& (3 : Int32))), .unset, .unset]) rfl ?_
      refine XS.iload X67.here hx rfl (hb hby at_58) rfl ?_
      exact k
    by_cases hc70 : (p5 &&& (3 : Int32)) = (0 : Int32)
    · skip
      have pre_71 : ∀ t, Sp p e below T67 (mkF m 63 #[.val (.int p1), .val (.int p2), .val (.int p3), .val (.int p4), .val (.int p5), .val (.int nA), .val (.int nB), .val (.int bb), .val (.ref a6), .val (.ref a60), .val (.ref b63), .val (.int (p5 &&& (3 : Int32))), .unset, .unset] []) t → Steps p.tables e below E0 t := by
        intro t k
        refine pre_69 t ?_
        show Sp p e below T67 (mkF m 60 #[.val (.int p1), .val (.int p2), .val (.int p3), .val (.int p4), .val (.int p5), .val (.int nA), .val (.int nB), .val (.int bb), .val (.ref a6), .val (.ref a60), .val (.ref b63), .val (.int (p5 &&& (3 : Int32))), .unset, .unset] [(.int (p5 &&& (3 : Int32)))]) _
        refine XS.ifNo X67.here hx rfl (hb hby at_60) rfl (XT.i0_ne_f hc70) ?_
        exact k
      obtain ⟨T72, h72, X72, e72, E72, A72, D72, -, st72⟩ := newO X67 hx hZ60 ho60 (own_w hw 40 rfl) (own_w hw 41 rfl) (own_w hw 42 rfl) rfl (g := (mkF m 63 #[.val (.int p1), .val (.int p2), .val (.int p3), .val (.int p4), .val (.int p5), .val (.int nA), .val (.int nB), .val (.int bb), .val (.ref a6), .val (.ref a60), .val (.ref b63), .val (.int (p5 &&& (3 : Int32))), .unset, .unset] [])) rfl (hb hby at_63) (by decide) (by decide)
      obtain ⟨b72, g72⟩ : ∃ z, z = T67.heap.size := ⟨_, rfl⟩
      rw [← g72] at A72 D72 st72
      have O72 : Old Z n0 h72 := O67.ext E72
      have F73 : Fld Z h72 b72 "com/example/foretell/foretell/core/ModelValue" "name" "Ljava/lang/String;" .null := D72 (Or.inr (own_w hw 53 rfl)) (ty := (.object "java/lang/String")) (by decide)
      have pre_74 : ∀ t, Sp p e below T72 (mkF m 66 #[.val (.int p1), .val (.int p2), .val (.int p3), .val (.int p4), .val (.int p5), .val (.int nA), .val (.int nB), .val (.int bb), .val (.ref a6), .val (.ref a60), .val (.ref b63), .val (.int (p5 &&& (3 : Int32))), .unset, .unset] [(.ref b72)]) t → Steps p.tables e below E0 t := fun t k => pre_71 t (st72 t k)
      have pre_75 : ∀ t, Sp p e below T72 (mkF m 69 #[.val (.int p1), .val (.int p2), .val (.int p3), .val (.int p4), .val (.int p5), .val (.int nA), .val (.int nB), .val (.int bb), .val (.ref a6), .val (.ref a60), .val (.ref b63), .val (.int (p5 &&& (3 : Int32))), .unset, .unset] [(.ref a60), (.ref b72), (.ref b72)]) t → Steps p.tables e below E0 t := by
        intro t k
        refine pre_74 t ?_
        show Sp p e below T72 (mkF m 66 #[.val (.int p1), .val (.int p2), .val (.int p3), .val (.int p4), .val (.int p5), .val (.int nA), .val (.int nB), .val (.int bb), .val (.ref a6), .val (.ref a60), .val (.ref b63), .val (.int (p5 &&& (3 : Int32))), .unset, .unset] [(.ref b72)]) _
        refine XS.dup X72.here hx rfl (hb hby at_66) rfl rfl ?_
        show Sp p e below T72 (mkF m 67 #[.val (.int p1), .val (.int p2), .val (.int p3), .val (.int p4), .val (.int p5), .val (.int nA), .val (.int nB), .val (.int bb), .val (.ref a6), .val (.ref a60), .val (.ref b63), .val (.int (p5 &&& (3 : Int32))), .unset, .unset] [(.ref b72), (.ref b72)]) _
        refine XS.aload X72.here hx rfl (hb hby at_67) rfl rfl ?_
        exact k
      obtain ⟨_, _, ⟨T76, L76, k76, n76⟩, -, X76, ⟨Lc76, hQ76, l76, y76, z76⟩, st76⟩ := X72.specialBack hx (y := (⟨"com/example/foretell/foretell/core/ModelValue", "<init>", "(Ljava/lang/String;)V"⟩ : MethodName)) rfl ho60 (mvT hZ60 (own_w hw 43 rfl)) (mvT hZ60 (own_w hw 44 rfl)) (mvT hZ60 (own_w hw 45 rfl)) (by decide) (backOf (W := 1) (rm_mvi l Z a0 hw [] b72 a60 .null h72 n0 O72 A72 F73 (Nat.le_trans (own_le O67) (Nat.le_of_eq g72.symm))) hZ60 (own_w hw 45 rfl) (own_w hw 42 rfl) (by decide) (by decide)) (g := (mkF m 69 #[.val (.int p1), .val (.int p2), .val (.int p3), .val (.int p4), .val (.int p5), .val (.int nA), .val (.int nB), .val (.int bb), .val (.ref a6), .val (.ref a60), .val (.ref b63), .val (.int (p5 &&& (3 : Int32))), .unset, .unset] [(.ref a60), (.ref b72), (.ref b72)])) rfl (by rw [hml]; rfl) (Steps.refl _) (a := b72) (argsL := [(.ref a60)]) (rest := [(.ref b72)]) (lenOf pd_law_1 rfl) rfl (by show 2 * 0 + _ ≤ _; exact Nat.le_of_eq rfl) (hb hby at_69) (fun _ _ => ⟨rfl, e72, (by decide : 10 + 0 ≤ _), (by decide : 24 + 0 ≤ _)⟩)
      dsimp only [Pt.U, Pt.locs, Pt.cells, Pt.slots] at X76 l76 y76 z76 st76 hQ76
      subst l76 y76 z76
      obtain ⟨rfl, N76q, K76, Fa76⟩ := hQ76
      have N76 := Fr.app N67 N76q
      have O76 : Old Z n0 T76.heap := O72.keep K76 (allS (Nat.le_trans (own_le O67) (Nat.le_of_eq g72.symm)) all0)
      have pre_77 : ∀ t, Sp p e below T76 (mkF m 72 #[.val (.int p1), .val (.int p2), .val (.int p3), .val (.int p4), .val (.int p5), .val (.int nA), .val (.int nB), .val (.int bb), .val (.ref a6), .val (.ref a60), .val (.ref b63), .val (.int (p5 &&& (3 : Int32))), .unset, .unset] [(.ref b72)]) t → Steps p.tables e below E0 t := fun t k => pre_75 t (st76.trans k)
      have pre_78 : ∀ t, Sp p e below T76 (mkF m 81 #[.val (.int p1), .val (.int p2), .val (.int p3), .val (.int p4), .val (.int p5), .val (.int nA), .val (.int nB), .val (.int bb), .val (.ref a6), .val (.ref a60), .val (.ref b63), .val (.int (p5 &&& (3 : Int32))), .val (.ref b72), .unset] [(.int bb), (.int nB), (.int p2), (.int nA)]) t → Steps p.tables e below E0 t := by
        intro t k
        refine pre_77 t ?_
        show Sp p e below T76 (mkF m 72 #[.val (.int p1), .val (.int p2), .val (.int p3), .val (.int p4), .val (.int p5), .val (.int nA), .val (.int nB), .val (.int bb), .val (.ref a6), .val (.ref a60), .val (.ref b63), .val (.int (p5 &&& (3 : Int32))), .unset, .unset] [(.ref b72)]) _
        refine XS.astore X76.here hx rfl (hb hby at_72) rfl rfl (l' := #[.val (.int p1), .val (.int p2), .val (.int p3), .val (.int p4), .val (.int p5), .val (.int nA), .val (.int nB), .val (.int bb), .val (.ref a6), .val (.ref a60), .val (.ref b63), .val (.int (p5 &&& (3 : Int32))), .val (.ref b72), .unset]) rfl ?_
        refine XS.iload X76.here hx rfl (hb hby at_74) rfl ?_
        refine XS.iloadN X76.here hx rfl (hb hby at_76) rfl ?_
        show Sp p e below T76 (mkF m 77 #[.val (.int p1), .val (.int p2), .val (.int p3), .val (.int p4), .val (.int p5), .val (.int nA), .val (.int nB), .val (.int bb), .val (.ref a6), .val (.ref a60), .val (.ref b63), .val (.int (p5 &&& (3 : Int32))), .val (.ref b72), .unset] [(.int p2), (.int nA)]) _
        refine XS.iload X76.here hx rfl (hb hby at_77) rfl ?_
        refine XS.iload X76.here hx rfl (hb hby at_79) rfl ?_
        exact k
      obtain ⟨_, _, ⟨T79, L79, k79, n79⟩, -, X79, ⟨Lc79, hQ79, l79, y79, z79⟩, st79⟩ := Jvm.LawKit.callS X76 hx (y := (⟨"com/example/foretell/foretell/core/ModelValueEqualsPinLaw", "same", "(IIII)Z"⟩ : MethodName)) ho60 (mvT hZ60 (own_w hw 54 rfl)) (mvT hZ60 (own_w hw 55 rfl)) (mvT hZ60 (own_w hw 2 rfl)) (mvT hZ60 (own_w hw 56 rfl)) (by decide) (backOf (W := 0) (rm_same l Z a0 hw [] nA p2 nB bb T76.heap n0 O76 hnA) hZ60 (own_w hw 56 rfl) (own_w hw 2 rfl) (by decide) (by decide)) (g := (mkF m 81 #[.val (.int p1), .val (.int p2), .val (.int p3), .val (.int p4), .val (.int p5), .val (.int nA), .val (.int nB), .val (.int bb), .val (.ref a6), .val (.ref a60), .val (.ref b63), .val (.int (p5 &&& (3 : Int32))), .val (.ref b72), .unset] [(.int bb), (.int nB), (.int p2), (.int nA)])) rfl (by rw [hml]; rfl) (argsL := [(.int nA), (.int p2), (.int nB), (.int bb)]) (rest := []) (lenOf pd_law_2 rfl) rfl (by show 2 * 0 + _ ≤ _; exact Nat.le_of_eq rfl) (hb hby at_81) (fun _ _ => ⟨rfl, rfl, (by decide : 10 + 0 ≤ _), (by decide : 24 + 0 ≤ _)⟩)
      dsimp only [Pt.U, Pt.locs, Pt.cells, Pt.slots] at X79 l79 y79 z79 st79 hQ79
      subst l79 y79 z79
      obtain ⟨rfl, N79q, e79⟩ := hQ79
      have N79 := Fr.app N76 N79q
      have pre_80 : ∀ t, Sp p e below T79 (mkF m 84 #[.val (.int p1), .val (.int p2), .val (.int p3), .val (.int p4), .val (.int p5), .val (.int nA), .val (.int nB), .val (.int bb), .val (.ref a6), .val (.ref a60), .val (.ref b63), .val (.int (p5 &&& (3 : Int32))), .val (.ref b72), .unset] [(.int (own_eqv nA nB (own_ch p2 (0 : Int32)) (own_ch bb (0 : Int32)) (own_ch p2 (1 : Int32)) (own_ch bb (1 : Int32)) (own_ch p2 (2 : Int32)) (own_ch bb (2 : Int32))))]) t → Steps p.tables e below E0 t := fun t k => pre_78 t (st79 t k)
      have pre_81 : ∀ t, Sp p e below T79 (mkF m 90 #[.val (.int p1), .val (.int p2), .val (.int p3), .val (.int p4), .val (.int p5), .val (.int nA), .val (.int nB), .val (.int bb), .val (.ref a6), .val (.ref a60), .val (.ref b63), .val (.int (p5 &&& (3 : Int32))), .val (.ref b72), .val (.int (own_eqv nA nB (own_ch p2 (0 : Int32)) (own_ch bb (0 : Int32)) (own_ch p2 (1 : Int32)) (own_ch bb (1 : Int32)) (own_ch p2 (2 : Int32)) (own_ch bb (2 : Int32))))] [(.ref b72), (.ref b63)]) t → Steps p.tables e below E0 t := by
        intro t k
        refine pre_80 t ?_
        show Sp p e below T79 (mkF m 84 #[.val (.int p1), .val (.int p2), .val (.int p3), .val (.int p4), .val (.int p5), .val (.int nA), .val (.int nB), .val (.int bb), .val (.ref a6), .val (.ref a60), .val (.ref b63), .val (.int (p5 &&& (3 : Int32))), .val (.ref b72), .unset] [(.int (own_eqv nA nB (own_ch p2 (0 : Int32)) (own_ch bb (0 : Int32)) (own_ch p2 (1 : Int32)) (own_ch bb (1 : Int32)) (own_ch p2 (2 : Int32)) (own_ch bb (2 : Int32))))]) _
        refine XS.istore X79.here hx rfl (hb hby at_84) rfl (l' := #[.val (.int p1), .val (.int p2), .val (.int p3), .val (.int p4), .val (.int p5), .val (.int nA), .val (.int nB), .val (.int bb), .val (.ref a6), .val (.ref a60), .val (.ref b63), .val (.int (p5 &&& (3 : Int32))), .val (.ref b72), .val (.int (own_eqv nA nB (own_ch p2 (0 : Int32)) (own_ch bb (0 : Int32)) (own_ch p2 (1 : Int32)) (own_ch bb (1 : Int32)) (own_ch p2 (2 : Int32)) (own_ch bb (2 : Int32))))]) rfl ?_
        refine XS.aload X79.here hx rfl (hb hby at_86) rfl rfl ?_
        show Sp p e below T79 (mkF m 88 #[.val (.int p1), .val (.int p2), .val (.int p3), .val (.int p4), .val (.int p5), .val (.int nA), .val (.int nB), .val (.int bb), .val (.ref a6), .val (.ref a60), .val (.ref b63), .val (.int (p5 &&& (3 : Int32))), .val (.ref b72), .val (.int (own_eqv nA nB (own_ch p2 (0 : Int32)) (own_ch bb (0 : Int32)) (own_ch p2 (1 : Int32)) (own_ch bb (1 : Int32)) (own_ch p2 (2 : Int32)) (own_ch bb (2 : Int32))))] [(.ref b63)]) _
        refine XS.aload X79.here hx rfl (hb hby at_88) rfl rfl ?_
        exact k
      obtain ⟨cq82, kq82, qa82, qb82, qc82⟩ := isOf hZ60 e79 (((A63.keep K67).ext E72).keep K76)
      obtain ⟨_, _, ⟨T82, L82, k82, n82⟩, -, X82, ⟨Lc82, hQ82, l82, y82, z82⟩, st82⟩ := X79.virtualBack hx (y := (⟨"com/example/foretell/foretell/core/ModelValue", "equals", "(Ljava/lang/Object;)Z"⟩ : MethodName)) (z := (⟨"com/example/foretell/foretell/core/ModelValue", "equals", "(Ljava/lang/Object;)Z"⟩ : MethodName)) ho60 (mvT hZ60 (own_w hw 57 rfl)) (mvT hZ60 (own_w hw 58 rfl)) (notFace_of_selects (args := #[]) (mvT hZ60 (own_w hw 60 rfl))) (mvT hZ60 (own_w hw 60 rfl)) (mvT hZ60 (own_w hw 59 rfl)) (by decide) (backOf (W := 0) (rm_eqm l Z a0 hw [] b63 b72 a6 a60 b6 b60 G1 kB6 kB60 nA nB (own_ch p2 (0 : Int32)) (own_ch p2 (1 : Int32)) (own_ch p2 (2 : Int32)) (own_ch bb (0 : Int32)) (own_ch bb (1 : Int32)) (own_ch bb (2 : Int32)) T76.heap n0 O76 (A72.keep K76) ((Fa67.ext E72).keep K76 (ninS (Nat.ne_of_lt (Nat.lt_of_lt_of_le (A63.keep K67).lt (Nat.le_of_eq g72.symm))) nin0)) Fa76 (((((Ea6.keep K60).ext E63).keep K67).ext E72).keep K76) ((((Ea60.ext E63).keep K67).ext E72).keep K76) (((((Fc6.keep K60 nin0).ext E63).keep K67 (ninS (Nat.ne_of_lt (Nat.lt_of_lt_of_le (Ea6.keep K60).lt (Nat.le_of_eq g63.symm))) nin0)).ext E72).keep K76 (ninS (Nat.ne_of_lt (Nat.lt_of_lt_of_le (((Ea6.keep K60).ext E63).keep K67).lt (Nat.le_of_eq g72.symm))) nin0)) ((((Fc60.ext E63).keep K67 (ninS (Nat.ne_of_lt (Nat.lt_of_lt_of_le Ea60.lt (Nat.le_of_eq g63.symm))) nin0)).ext E72).keep K76 (ninS (Nat.ne_of_lt (Nat.lt_of_lt_of_le ((Ea60.ext E63).keep K67).lt (Nat.le_of_eq g72.symm))) nin0)) (((((Fv6.keep K60 nin0).ext E63).keep K67 (ninS (Nat.ne_of_lt (Nat.lt_of_lt_of_le (Ea6.keep K60).lt (Nat.le_of_eq g63.symm))) nin0)).ext E72).keep K76 (ninS (Nat.ne_of_lt (Nat.lt_of_lt_of_le (((Ea6.keep K60).ext E63).keep K67).lt (Nat.le_of_eq g72.symm))) nin0)) ((((Fv60.ext E63).keep K67 (ninS (Nat.ne_of_lt (Nat.lt_of_lt_of_le Ea60.lt (Nat.le_of_eq g63.symm))) nin0)).ext E72).keep K76 (ninS (Nat.ne_of_lt (Nat.lt_of_lt_of_le ((Ea60.ext E63).keep K67).lt (Nat.le_of_eq g72.symm))) nin0)) (((((Ab6.keep K60 nin0).ext E63).keep K67 (ninS (Nat.ne_of_lt (Nat.lt_of_lt_of_le (Ab6.keep K60 nin0).lt (Nat.le_of_eq g63.symm))) nin0)).ext E72).keep K76 (ninS (Nat.ne_of_lt (Nat.lt_of_lt_of_le (((Ab6.keep K60 nin0).ext E63).keep K67 (ninS (Nat.ne_of_lt (Nat.lt_of_lt_of_le (Ab6.keep K60 nin0).lt (Nat.le_of_eq g63.symm))) nin0)).lt (Nat.le_of_eq g72.symm))) nin0)) ((((Ab60.ext E63).keep K67 (ninS (Nat.ne_of_lt (Nat.lt_of_lt_of_le Ab60.lt (Nat.le_of_eq g63.symm))) nin0)).ext E72).keep K76 (ninS (Nat.ne_of_lt (Nat.lt_of_lt_of_le ((Ab60.ext E63).keep K67 (ninS (Nat.ne_of_lt (Nat.lt_of_lt_of_le Ab60.lt (Nat.le_of_eq g63.symm))) nin0)).lt (Nat.le_of_eq g72.symm))) nin0)) (Nat.ne_of_lt (Nat.lt_of_lt_of_le Ea6.lt sa60)) SC hG (own_chr _ _).2 (own_chr _ _).2 (own_chr _ _).2 (own_chr _ _).2 (own_chr _ _).2 (own_chr _ _).2) hZ60 (own_w hw 61 rfl) (own_w hw 42 rfl) (by decide) (by decide)) qa82 qc82 (g := (mkF m 90 #[.val (.int p1), .val (.int p2), .val (.int p3), .val (.int p4), .val (.int p5), .val (.int nA), .val (.int nB), .val (.int bb), .val (.ref a6), .val (.ref a60), .val (.ref b63), .val (.int (p5 &&& (3 : Int32))), .val (.ref b72), .val (.int (own_eqv nA nB (own_ch p2 (0 : Int32)) (own_ch bb (0 : Int32)) (own_ch p2 (1 : Int32)) (own_ch bb (1 : Int32)) (own_ch p2 (2 : Int32)) (own_ch bb (2 : Int32))))] [(.ref b72), (.ref b63)])) rfl (by rw [hml]; rfl) (Steps.refl _) (argsL := [(.ref b72)]) (rest := []) (lenOf pd_law_3 rfl) rfl (by show 2 * 0 + _ ≤ _; exact Nat.le_of_eq rfl) (hb hby at_90) (fun _ _ => ⟨rfl, e79, (by decide : 10 + 0 ≤ _), (by decide : 24 + 0 ≤ _)⟩)
      dsimp only [Pt.U, Pt.locs, Pt.cells, Pt.slots] at X82 l82 y82 z82 st82 hQ82
      subst l82 y82 z82
      obtain ⟨hv82, N82q, e82⟩ := hQ82
      subst hv82
      have N82 := Fr.app N79 N82q
      have pre_83 : ∀ t, Sp p e below T82 (mkF m 93 #[.val (.int p1), .val (.int p2), .val (.int p3), .val (.int p4), .val (.int p5), .val (.int nA), .val (.int nB), .val (.int bb), .val (.ref a6), .val (.ref a60), .val (.ref b63), .val (.int (p5 &&& (3 : Int32))), .val (.ref b72), .val (.int (own_eqv nA nB (own_ch p2 (0 : Int32)) (own_ch bb (0 : Int32)) (own_ch p2 (1 : Int32)) (own_ch bb (1 : Int32)) (own_ch p2 (2 : Int32)) (own_ch bb (2 : Int32))))] [(.int (own_eqv nA nB (own_ch p2 (0 : Int32)) (own_ch bb (0 : Int32)) (own_ch p2 (1 : Int32)) (own_ch bb (1 : Int32)) (own_ch p2 (2 : Int32)) (own_ch bb (2 : Int32))))]) t → Steps p.tables e below E0 t := fun t k => pre_81 t (st82.trans k)
      have pre_84 : ∀ t, Sp p e below T82 (mkF m 102 #[.val (.int p1), .val (.int p2), .val (.int p3), .val (.int p4), .val (.int p5), .val (.int nA), .val (.int nB), .val (.int bb), .val (.ref a6), .val (.ref a60), .val (.ref b63), .val (.int (p5 &&& (3 : Int32))), .val (.ref b72), .val (.int (own_eqv nA nB (own_ch p2 (0 : Int32)) (own_ch bb (0 : Int32)) (own_ch p2 (1 : Int32)) (own_ch bb (1 : Int32)) (own_ch p2 (2 : Int32)) (own_ch bb (2 : Int32))))] [(.ref b63), (.ref b72)]) t → Steps p.tables e below E0 t := by
        intro t k
        refine pre_83 t ?_
        show Sp p e below T82 (mkF m 93 #[.val (.int p1), .val (.int p2), .val (.int p3), .val (.int p4), .val (.int p5), .val (.int nA), .val (.int nB), .val (.int bb), .val (.ref a6), .val (.ref a60), .val (.ref b63), .val (.int (p5 &&& (3 : Int32))), .val (.ref b72), .val (.int (own_eqv nA nB (own_ch p2 (0 : Int32)) (own_ch bb (0 : Int32)) (own_ch p2 (1 : Int32)) (own_ch bb (1 : Int32)) (own_ch p2 (2 : Int32)) (own_ch bb (2 : Int32))))] [(.int (own_eqv nA nB (own_ch p2 (0 : Int32)) (own_ch bb (0 : Int32)) (own_ch p2 (1 : Int32)) (own_ch bb (1 : Int32)) (own_ch p2 (2 : Int32)) (own_ch bb (2 : Int32))))]) _
        refine XS.iload X82.here hx rfl (hb hby at_93) rfl ?_
        refine XS.icmpNo X82.here hx rfl (hb hby at_95) rfl (XT.ii_ne_f rfl) ?_
        refine XS.aload X82.here hx rfl (hb hby at_98) rfl rfl ?_
        show Sp p e below T82 (mkF m 100 #[.val (.int p1), .val (.int p2), .val (.int p3), .val (.int p4), .val (.int p5), .val (.int nA), .val (.int nB), .val (.int bb), .val (.ref a6), .val (.ref a60), .val (.ref b63), .val (.int (p5 &&& (3 : Int32))), .val (.ref b72), .val (.int (own_eqv nA nB (own_ch p2 (0 : Int32)) (own_ch bb (0 : Int32)) (own_ch p2 (1 : Int32)) (own_ch bb (1 : Int32)) (own_ch p2 (2 : Int32)) (own_ch bb (2 : Int32))))] [(.ref b72)]) _
        refine XS.aload X82.here hx rfl (hb hby at_100) rfl rfl ?_
        exact k
      obtain ⟨cq85, kq85, qa85, qb85, qc85⟩ := isOf hZ60 e82 (A72.keep K76)
      obtain ⟨_, _, ⟨T85, L85, k85, n85⟩, -, X85, ⟨Lc85, hQ85, l85, y85, z85⟩, st85⟩ := X82.virtualBack hx (y := (⟨"com/example/foretell/foretell/core/ModelValue", "equals", "(Ljava/lang/Object;)Z"⟩ : MethodName)) (z := (⟨"com/example/foretell/foretell/core/ModelValue", "equals", "(Ljava/lang/Object;)Z"⟩ : MethodName)) ho60 (mvT hZ60 (own_w hw 57 rfl)) (mvT hZ60 (own_w hw 58 rfl)) (notFace_of_selects (args := #[]) (mvT hZ60 (own_w hw 60 rfl))) (mvT hZ60 (own_w hw 60 rfl)) (mvT hZ60 (own_w hw 59 rfl)) (by decide) (backOf (W := 0) (rm_eqm l Z a0 hw [] b72 b63 a60 a6 b60 b6 G1 kB60 kB6 nB nA (own_ch bb (0 : Int32)) (own_ch bb (1 : Int32)) (own_ch bb (2 : Int32)) (own_ch p2 (0 : Int32)) (own_ch p2 (1 : Int32)) (own_ch p2 (2 : Int32)) T76.heap n0 O76 (((A63.keep K67).ext E72).keep K76) Fa76 ((Fa67.ext E72).keep K76 (ninS (Nat.ne_of_lt (Nat.lt_of_lt_of_le (A63.keep K67).lt (Nat.le_of_eq g72.symm))) nin0)) ((((Ea60.ext E63).keep K67).ext E72).keep K76) (((((Ea6.keep K60).ext E63).keep K67).ext E72).keep K76) ((((Fc60.ext E63).keep K67 (ninS (Nat.ne_of_lt (Nat.lt_of_lt_of_le Ea60.lt (Nat.le_of_eq g63.symm))) nin0)).ext E72).keep K76 (ninS (Nat.ne_of_lt (Nat.lt_of_lt_of_le ((Ea60.ext E63).keep K67).lt (Nat.le_of_eq g72.symm))) nin0)) (((((Fc6.keep K60 nin0).ext E63).keep K67 (ninS (Nat.ne_of_lt (Nat.lt_of_lt_of_le (Ea6.keep K60).lt (Nat.le_of_eq g63.symm))) nin0)).ext E72).keep K76 (ninS (Nat.ne_of_lt (Nat.lt_of_lt_of_le (((Ea6.keep K60).ext E63).keep K67).lt (Nat.le_of_eq g72.symm))) nin0)) ((((Fv60.ext E63).keep K67 (ninS (Nat.ne_of_lt (Nat.lt_of_lt_of_le Ea60.lt (Nat.le_of_eq g63.symm))) nin0)).ext E72).keep K76 (ninS (Nat.ne_of_lt (Nat.lt_of_lt_of_le ((Ea60.ext E63).keep K67).lt (Nat.le_of_eq g72.symm))) nin0)) (((((Fv6.keep K60 nin0).ext E63).keep K67 (ninS (Nat.ne_of_lt (Nat.lt_of_lt_of_le (Ea6.keep K60).lt (Nat.le_of_eq g63.symm))) nin0)).ext E72).keep K76 (ninS (Nat.ne_of_lt (Nat.lt_of_lt_of_le (((Ea6.keep K60).ext E63).keep K67).lt (Nat.le_of_eq g72.symm))) nin0)) ((((Ab60.ext E63).keep K67 (ninS (Nat.ne_of_lt (Nat.lt_of_lt_of_le Ab60.lt (Nat.le_of_eq g63.symm))) nin0)).ext E72).keep K76 (ninS (Nat.ne_of_lt (Nat.lt_of_lt_of_le ((Ab60.ext E63).keep K67 (ninS (Nat.ne_of_lt (Nat.lt_of_lt_of_le Ab60.lt (Nat.le_of_eq g63.symm))) nin0)).lt (Nat.le_of_eq g72.symm))) nin0)) (((((Ab6.keep K60 nin0).ext E63).keep K67 (ninS (Nat.ne_of_lt (Nat.lt_of_lt_of_le (Ab6.keep K60 nin0).lt (Nat.le_of_eq g63.symm))) nin0)).ext E72).keep K76 (ninS (Nat.ne_of_lt (Nat.lt_of_lt_of_le (((Ab6.keep K60 nin0).ext E63).keep K67 (ninS (Nat.ne_of_lt (Nat.lt_of_lt_of_le (Ab6.keep K60 nin0).lt (Nat.le_of_eq g63.symm))) nin0)).lt (Nat.le_of_eq g72.symm))) nin0)) (Ne.symm (Nat.ne_of_lt (Nat.lt_of_lt_of_le Ea6.lt sa60))) SC hG (own_chr _ _).2 (own_chr _ _).2 (own_chr _ _).2 (own_chr _ _).2 (own_chr _ _).2 (own_chr _ _).2) hZ60 (own_w hw 61 rfl) (own_w hw 42 rfl) (by decide) (by decide)) qa85 qc85 (g := (mkF m 102 #[.val (.int p1), .val (.int p2), .val (.int p3), .val (.int p4), .val (.int p5), .val (.int nA), .val (.int nB), .val (.int bb), .val (.ref a6), .val (.ref a60), .val (.ref b63), .val (.int (p5 &&& (3 : Int32))), .val (.ref b72), .val (.int (own_eqv nA nB (own_ch p2 (0 : Int32)) (own_ch bb (0 : Int32)) (own_ch p2 (1 : Int32)) (own_ch bb (1 : Int32)) (own_ch p2 (2 : Int32)) (own_ch bb (2 : Int32))))] [(.ref b63), (.ref b72)])) rfl (by rw [hml]; rfl) (Steps.refl _) (argsL := [(.ref b63)]) (rest := []) (lenOf pd_law_3 rfl) rfl (by show 2 * 0 + _ ≤ _; exact Nat.le_of_eq rfl) (hb hby at_102) (fun _ _ => ⟨rfl, e82, (by decide : 10 + 0 ≤ _), (by decide : 24 + 0 ≤ _)⟩)
      dsimp only [Pt.U, Pt.locs, Pt.cells, Pt.slots] at X85 l85 y85 z85 st85 hQ85
      subst l85 y85 z85
      obtain ⟨hv85, N85q, e85⟩ := hQ85
      rw [own_eqv_symm] at hv85
      subst hv85
      have N85 := Fr.app N82 N85q
      have pre_86 : ∀ t, Sp p e below T85 (mkF m 105 #[.val (.int p1), .val (.int p2), .val (.int p3), .val (.int p4), .val (.int p5), .val (.int nA), .val (.int nB), .val (.int bb), .val (.ref a6), .val (.ref a60), .val (.ref b63), .val (.int (p5 &&& (3 : Int32))), .val (.ref b72), .val (.int (own_eqv nA nB (own_ch p2 (0 : Int32)) (own_ch bb (0 : Int32)) (own_ch p2 (1 : Int32)) (own_ch bb (1 : Int32)) (own_ch p2 (2 : Int32)) (own_ch bb (2 : Int32))))] [(.int (own_eqv nA nB (own_ch p2 (0 : Int32)) (own_ch bb (0 : Int32)) (own_ch p2 (1 : Int32)) (own_ch bb (1 : Int32)) (own_ch p2 (2 : Int32)) (own_ch bb (2 : Int32))))]) t → Steps p.tables e below E0 t := fun t k => pre_84 t (st85.trans k)
      have pre_87 : ∀ t, Sp p e below T85 (mkF m 115 #[.val (.int p1), .val (.int p2), .val (.int p3), .val (.int p4), .val (.int p5), .val (.int nA), .val (.int nB), .val (.int bb), .val (.ref a6), .val (.ref a60), .val (.ref b63), .val (.int (p5 &&& (3 : Int32))), .val (.ref b72), .val (.int (own_eqv nA nB (own_ch p2 (0 : Int32)) (own_ch bb (0 : Int32)) (own_ch p2 (1 : Int32)) (own_ch bb (1 : Int32)) (own_ch p2 (2 : Int32)) (own_ch bb (2 : Int32))))] [(.int (1 : Int32))]) t → Steps p.tables e below E0 t := by
        intro t k
        refine pre_86 t ?_
        show Sp p e below T85 (mkF m 105 #[.val (.int p1), .val (.int p2), .val (.int p3), .val (.int p4), .val (.int p5), .val (.int nA), .val (.int nB), .val (.int bb), .val (.ref a6), .val (.ref a60), .val (.ref b63), .val (.int (p5 &&& (3 : Int32))), .val (.ref b72), .val (.int (own_eqv nA nB (own_ch p2 (0 : Int32)) (own_ch bb (0 : Int32)) (own_ch p2 (1 : Int32)) (own_ch bb (1 : Int32)) (own_ch p2 (2 : Int32)) (own_ch bb (2 : Int32))))] [(.int (own_eqv nA nB (own_ch p2 (0 : Int32)) (own_ch bb (0 : Int32)) (own_ch p2 (1 : Int32)) (own_ch bb (1 : Int32)) (own_ch p2 (2 : Int32)) (own_ch bb (2 : Int32))))]) _
        refine XS.iload X85.here hx rfl (hb hby at_105) rfl ?_
        refine XS.icmpNo X85.here hx rfl (hb hby at_107) rfl (XT.ii_ne_f rfl) ?_
        refine XS.iconst X85.here hx rfl (hb hby at_110) ?_
        show Sp p e below T85 (mkF m 111 #[.val (.int p1), .val (.int p2), .val (.int p3), .val (.int p4), .val (.int p5), .val (.int nA), .val (.int nB), .val (.int bb), .val (.ref a6), .val (.ref a60), .val (.ref b63), .val (.int (p5 &&& (3 : Int32))), .val (.ref b72), .val (.int (own_eqv nA nB (own_ch p2 (0 : Int32)) (own_ch bb (0 : Int32)) (own_ch p2 (1 : Int32)) (own_ch bb (1 : Int32)) (own_ch p2 (2 : Int32)) (own_ch bb (2 : Int32))))] [(.int (1 : Int32))]) _
        refine XS.goto X85.here hx rfl (pc0 := 111) (pc' := 115) rfl (hb hby at_111) (by decide) (by decide) ?_
        exact k
      obtain ⟨fs, hr, hrun, hended, hEnd⟩ := X85.leaveW hS60 (by rw [e85]; exact (Nat.le_trans (Nat.le_refl _) (Nat.le_trans (Nat.le_trans (Nat.le_trans (Nat.le_trans (Nat.le_refl _) E63.1) K67.1) E72.1) K76.1))) (v := some (.int (1 : Int32))) (fun h => by rw [Bd.returns] at h; cases h)
      refine ⟨_, _, pre_87 _ ?_, hrun, hended, _, _, rfl, ?_, hEnd.1, hEnd.2.1, hEnd.2.2.1, hEnd.2.2.2.mono (by decide) (by decide)⟩
      · show Sp p e below T85 (mkF m 115 #[.val (.int p1), .val (.int p2), .val (.int p3), .val (.int p4), .val (.int p5), .val (.int nA), .val (.int nB), .val (.int bb), .val (.ref a6), .val (.ref a60), .val (.ref b63), .val (.int (p5 &&& (3 : Int32))), .val (.ref b72), .val (.int (own_eqv nA nB (own_ch p2 (0 : Int32)) (own_ch bb (0 : Int32)) (own_ch p2 (1 : Int32)) (own_ch bb (1 : Int32)) (own_ch p2 (2 : Int32)) (own_ch bb (2 : Int32))))] [(.int (1 : Int32))]) _
        exact retN X85 hx (t := .boolean) Bd.returns (by simp) (hb hby at_115) hr
      · show Q_law Z _ _ _ _ _ _ h0 n0 _ T85.vm T85.heap _
        rw [e85]
        exact ⟨rfl, N85⟩
    · skip
      have pre_88 : ∀ t, Sp p e below T67 (mkF m 119 #[.val (.int p1), .val (.int p2), .val (.int p3), .val (.int p4), .val (.int p5), .val (.int nA), .val (.int nB), .val (.int bb), .val (.ref a6), .val (.ref a60), .val (.ref b63), .val (.int (p5 &&& (3 : Int32))), .unset, .unset] [(.int (1 : Int32)), (.int (p5 &&& (3 : Int32)))]) t → Steps p.tables e below E0 t := by
        intro t k
        refine pre_69 t ?_
        show Sp p e below T67 (mkF m 60 #[.val (.int p1), .val (.int p2), .val (.int p3), .val (.int p4), .val (.int p5), .val (.int nA), .val (.int nB), .val (.int bb), .val (.ref a6), .val (.ref a60), .val (.ref b63), .val (.int (p5 &&& (3 : Int32))), .unset, .unset] [(.int (p5 &&& (3 : Int32)))]) _
        refine XS.ifYes X67.here hx rfl (pc0 := 60) (pc' := 116) rfl (hb hby at_60) rfl (XT.i0_ne_t hc70) (by decide) (by decide) ?_
        refine XS.iload X67.here hx rfl (hb hby at_116) rfl ?_
        show Sp p e below T67 (mkF m 118 #[.val (.int p1), .val (.int p2), .val (.int p3), .val (.int p4), .val (.int p5), .val (.int nA), .val (.int nB), .val (.int bb), .val (.ref a6), .val (.ref a60), .val (.ref b63), .val (.int (p5 &&& (3 : Int32))), .unset, .unset] [(.int (p5 &&& (3 : Int32)))]) _
        refine XS.iconst X67.here hx rfl (hb hby at_118) ?_
        exact k
      by_cases hc89 : (p5 &&& (3 : Int32)) = (1 : Int32)
      · skip
        have pre_90 : ∀ t, Sp p e below T67 (mkF m 122 #[.val (.int p1), .val (.int p2), .val (.int p3), .val (.int p4), .val (.int p5), .val (.int nA), .val (.int nB), .val (.int bb), .val (.ref a6), .val (.ref a60), .val (.ref b63), .val (.int (p5 &&& (3 : Int32))), .unset, .unset] []) t → Steps p.tables e below E0 t := by
          intro t k
          refine pre_88 t ?_
          show Sp p e below T67 (mkF m 119 #[.val (.int p1), .val (.int p2), .val (.int p3), .val (.int p4), .val (.int p5), .val (.int nA), .val (.int nB), .val (.int bb), .val (.ref a6), .val (.ref a60), .val (.ref b63), .val (.int (p5 &&& (3 : Int32))), .unset, .unset] [(.int (1 : Int32)), (.int (p5 &&& (3 : Int32)))]) _
          refine XS.icmpNo X67.here hx rfl (hb hby at_119) rfl (XT.ii_ne_f hc89) ?_
          exact k
        obtain ⟨T91, h91, X91, e91, E91, A91, D91, -, st91⟩ := newO X67 hx hZ60 ho60 (own_w hw 74 rfl) (own_w hw 75 rfl) (own_w hw 76 rfl) rfl (g := (mkF m 122 #[.val (.int p1), .val (.int p2), .val (.int p3), .val (.int p4), .val (.int p5), .val (.int nA), .val (.int nB), .val (.int bb), .val (.ref a6), .val (.ref a60), .val (.ref b63), .val (.int (p5 &&& (3 : Int32))), .unset, .unset] [])) rfl (hb hby at_122) (by decide) (by decide)
        obtain ⟨b91, g91⟩ : ∃ z, z = T67.heap.size := ⟨_, rfl⟩
        rw [← g91] at A91 D91 st91
        have O91 : Old Z n0 h91 := O67.ext E91
        have F92 : Fld Z h91 b91 "com/example/foretell/foretell/core/StringValue" "value" "Ljava/lang/String;" .null := D91 (Or.inr (own_w hw 82 rfl)) (ty := (.object "java/lang/String")) (by decide)
        have pre_93 : ∀ t, Sp p e below T91 (mkF m 125 #[.val (.int p1), .val (.int p2), .val (.int p3), .val (.int p4), .val (.int p5), .val (.int nA), .val (.int nB), .val (.int bb), .val (.ref a6), .val (.ref a60), .val (.ref b63), .val (.int (p5 &&& (3 : Int32))), .unset, .unset] [(.ref b91)]) t → Steps p.tables e below E0 t := fun t k => pre_90 t (st91 t k)
        have pre_94 : ∀ t, Sp p e below T91 (mkF m 128 #[.val (.int p1), .val (.int p2), .val (.int p3), .val (.int p4), .val (.int p5), .val (.int nA), .val (.int nB), .val (.int bb), .val (.ref a6), .val (.ref a60), .val (.ref b63), .val (.int (p5 &&& (3 : Int32))), .unset, .unset] [(.ref a60), (.ref b91), (.ref b91)]) t → Steps p.tables e below E0 t := by
          intro t k
          refine pre_93 t ?_
          show Sp p e below T91 (mkF m 125 #[.val (.int p1), .val (.int p2), .val (.int p3), .val (.int p4), .val (.int p5), .val (.int nA), .val (.int nB), .val (.int bb), .val (.ref a6), .val (.ref a60), .val (.ref b63), .val (.int (p5 &&& (3 : Int32))), .unset, .unset] [(.ref b91)]) _
          refine XS.dup X91.here hx rfl (hb hby at_125) rfl rfl ?_
          refine XS.aload X91.here hx rfl (hb hby at_126) rfl rfl ?_
          show Sp p e below T91 (mkF m 128 #[.val (.int p1), .val (.int p2), .val (.int p3), .val (.int p4), .val (.int p5), .val (.int nA), .val (.int nB), .val (.int bb), .val (.ref a6), .val (.ref a60), .val (.ref b63), .val (.int (p5 &&& (3 : Int32))), .unset, .unset] [(.ref a60), (.ref b91), (.ref b91)]) _
          exact k
        obtain ⟨_, _, ⟨T95, L95, k95, n95⟩, -, X95, ⟨Lc95, hQ95, l95, y95, z95⟩, st95⟩ := X91.specialBack hx (y := (⟨"com/example/foretell/foretell/core/StringValue", "<init>", "(Ljava/lang/String;)V"⟩ : MethodName)) rfl ho60 (mvT hZ60 (own_w hw 77 rfl)) (mvT hZ60 (own_w hw 78 rfl)) (mvT hZ60 (own_w hw 79 rfl)) (by decide) (backOf (W := 1) (rm_svi l Z a0 hw [] b91 a60 .null h91 n0 O91 A91 F92 (Nat.le_trans (own_le O67) (Nat.le_of_eq g91.symm))) hZ60 (own_w hw 79 rfl) (own_w hw 76 rfl) (by decide) (by decide)) (g := (mkF m 128 #[.val (.int p1), .val (.int p2), .val (.int p3), .val (.int p4), .val (.int p5), .val (.int nA), .val (.int nB), .val (.int bb), .val (.ref a6), .val (.ref a60), .val (.ref b63), .val (.int (p5 &&& (3 : Int32))), .unset, .unset] [(.ref a60), (.ref b91), (.ref b91)])) rfl (by rw [hml]; rfl) (Steps.refl _) (a := b91) (argsL := [(.ref a60)]) (rest := [(.ref b91)]) (lenOf pd_law_1 rfl) rfl (by show 2 * 0 + _ ≤ _; exact Nat.le_of_eq rfl) (hb hby at_128) (fun _ _ => ⟨rfl, e91, (by decide : 10 + 0 ≤ _), (by decide : 24 + 0 ≤ _)⟩)
        dsimp only [Pt.U, Pt.locs, Pt.cells, Pt.slots] at X95 l95 y95 z95 st95 hQ95
        subst l95 y95 z95
        obtain ⟨rfl, N95q, K95, Fa95⟩ := hQ95
        have N95 := Fr.app N67 N95q
        have O95 : Old Z n0 T95.heap := O91.keep K95 (allS (Nat.le_trans (own_le O67) (Nat.le_of_eq g91.symm)) all0)
        have pre_96 : ∀ t, Sp p e below T95 (mkF m 131 #[.val (.int p1), .val (.int p2), .val (.int p3), .val (.int p4), .val (.int p5), .val (.int nA), .val (.int nB), .val (.int bb), .val (.ref a6), .val (.ref a60), .val (.ref b63), .val (.int (p5 &&& (3 : Int32))), .unset, .unset] [(.ref b91)]) t → Steps p.tables e below E0 t := fun t k => pre_94 t (st95.trans k)
        have pre_97 : ∀ t, Sp p e below T95 (mkF m 137 #[.val (.int p1), .val (.int p2), .val (.int p3), .val (.int p4), .val (.int p5), .val (.int nA), .val (.int nB), .val (.int bb), .val (.ref a6), .val (.ref a60), .val (.ref b63), .val (.int (p5 &&& (3 : Int32))), .val (.ref b91), .unset] [(.ref b91), (.ref b63)]) t → Steps p.tables e below E0 t := by
          intro t k
          refine pre_96 t ?_
          show Sp p e below T95 (mkF m 131 #[.val (.int p1), .val (.int p2), .val (.int p3), .val (.int p4), .val (.int p5), .val (.int nA), .val (.int nB), .val (.int bb), .val (.ref a6), .val (.ref a60), .val (.ref b63), .val (.int (p5 &&& (3 : Int32))), .unset, .unset] [(.ref b91)]) _
          refine XS.astore X95.here hx rfl (hb hby at_131) rfl rfl (l' := #[.val (.int p1), .val (.int p2), .val (.int p3), .val (.int p4), .val (.int p5), .val (.int nA), .val (.int nB), .val (.int bb), .val (.ref a6), .val (.ref a60), .val (.ref b63), .val (.int (p5 &&& (3 : Int32))), .val (.ref b91), .unset]) rfl ?_
          refine XS.aload X95.here hx rfl (hb hby at_133) rfl rfl ?_
          refine XS.aload X95.here hx rfl (hb hby at_135) rfl rfl ?_
          exact k
        obtain ⟨cq98, kq98, qa98, qb98, qc98⟩ := isOf hZ60 rfl (((A63.keep K67).ext E91).keep K95)
        obtain ⟨_, _, ⟨T98, L98, k98, n98⟩, -, X98, ⟨Lc98, hQ98, l98, y98, z98⟩, st98⟩ := X95.virtualBack hx (y := (⟨"com/example/foretell/foretell/core/ModelValue", "equals", "(Ljava/lang/Object;)Z"⟩ : MethodName)) (z := (⟨"com/example/foretell/foretell/core/ModelValue", "equals", "(Ljava/lang/Object;)Z"⟩ : MethodName)) ho60 (mvT hZ60 (own_w hw 57 rfl)) (mvT hZ60 (own_w hw 58 rfl)) (notFace_of_selects (args := #[]) (mvT hZ60 (own_w hw 60 rfl))) (mvT hZ60 (own_w hw 60 rfl)) (mvT hZ60 (own_w hw 59 rfl)) (by decide) (backOf (W := 0) (rm_eqo l Z a0 hw [] b63 b91 T95.heap n0 O95 (A91.keep K95)) hZ60 (own_w hw 61 rfl) (own_w hw 42 rfl) (by decide) (by decide)) qa98 qc98 (g := (mkF m 137 #[.val (.int p1), .val (.int p2), .val (.int p3), .val (.int p4), .val (.int p5), .val (.int nA), .val (.int nB), .val (.int bb), .val (.ref a6), .val (.ref a60), .val (.ref b63), .val (.int (p5 &&& (3 : Int32))), .val (.ref b91), .unset] [(.ref b91), (.ref b63)])) rfl (by rw [hml]; rfl) (Steps.refl _) (argsL := [(.ref b91)]) (rest := []) (lenOf pd_law_3 rfl) rfl (by show 2 * 0 + _ ≤ _; exact Nat.le_of_eq rfl) (hb hby at_137) (fun _ _ => ⟨rfl, rfl, (by decide : 10 + 0 ≤ _), (by decide : 24 + 0 ≤ _)⟩)
        dsimp only [Pt.U, Pt.locs, Pt.cells, Pt.slots] at X98 l98 y98 z98 st98 hQ98
        subst l98 y98 z98
        obtain ⟨rfl, N98q, e98⟩ := hQ98
        have N98 := Fr.app N95 N98q
        have pre_99 : ∀ t, Sp p e below T98 (mkF m 140 #[.val (.int p1), .val (.int p2), .val (.int p3), .val (.int p4), .val (.int p5), .val (.int nA), .val (.int nB), .val (.int bb), .val (.ref a6), .val (.ref a60), .val (.ref b63), .val (.int (p5 &&& (3 : Int32))), .val (.ref b91), .unset] [(.int (0 : Int32))]) t → Steps p.tables e below E0 t := fun t k => pre_97 t (st98.trans k)
        have pre_100 : ∀ t, Sp p e below T98 (mkF m 148 #[.val (.int p1), .val (.int p2), .val (.int p3), .val (.int p4), .val (.int p5), .val (.int nA), .val (.int nB), .val (.int bb), .val (.ref a6), .val (.ref a60), .val (.ref b63), .val (.int (p5 &&& (3 : Int32))), .val (.ref b91), .unset] [(.int (1 : Int32))]) t → Steps p.tables e below E0 t := by
          intro t k
          refine pre_99 t ?_
          show Sp p e below T98 (mkF m 140 #[.val (.int p1), .val (.int p2), .val (.int p3), .val (.int p4), .val (.int p5), .val (.int nA), .val (.int nB), .val (.int bb), .val (.ref a6), .val (.ref a60), .val (.ref b63), .val (.int (p5 &&& (3 : Int32))), .val (.ref b91), .unset] [(.int (0 : Int32))]) _
          refine XS.ifNo X98.here hx rfl (hb hby at_140) rfl (XT.i0_ne_f (by decide)) ?_
          show Sp p e below T98 (mkF m 143 #[.val (.int p1), .val (.int p2), .val (.int p3), .val (.int p4), .val (.int p5), .val (.int nA), .val (.int nB), .val (.int bb), .val (.ref a6), .val (.ref a60), .val (.ref b63), .val (.int (p5 &&& (3 : Int32))), .val (.ref b91), .unset] []) _
          refine XS.iconst X98.here hx rfl (hb hby at_143) ?_
          refine XS.goto X98.here hx rfl (pc0 := 144) (pc' := 148) rfl (hb hby at_144) (by decide) (by decide) ?_
          exact k
        obtain ⟨fs, hr, hrun, hended, hEnd⟩ := X98.leaveW hS60 (by rw [e98]; exact (Nat.le_trans (Nat.le_refl _) (Nat.le_trans (Nat.le_trans (Nat.le_trans (Nat.le_trans (Nat.le_refl _) E63.1) K67.1) E91.1) K95.1))) (v := some (.int (1 : Int32))) (fun h => by rw [Bd.returns] at h; cases h)
        refine ⟨_, _, pre_100 _ ?_, hrun, hended, _, _, rfl, ?_, hEnd.1, hEnd.2.1, hEnd.2.2.1, hEnd.2.2.2.mono (by decide) (by decide)⟩
        · show Sp p e below T98 (mkF m 148 #[.val (.int p1), .val (.int p2), .val (.int p3), .val (.int p4), .val (.int p5), .val (.int nA), .val (.int nB), .val (.int bb), .val (.ref a6), .val (.ref a60), .val (.ref b63), .val (.int (p5 &&& (3 : Int32))), .val (.ref b91), .unset] [(.int (1 : Int32))]) _
          exact retN X98 hx (t := .boolean) Bd.returns (by simp) (hb hby at_148) hr
        · show Q_law Z _ _ _ _ _ _ h0 n0 _ T98.vm T98.heap _
          rw [e98]
          exact ⟨rfl, N98⟩
      · skip
        have pre_101 : ∀ t, Sp p e below T67 (mkF m 152 #[.val (.int p1), .val (.int p2), .val (.int p3), .val (.int p4), .val (.int p5), .val (.int nA), .val (.int nB), .val (.int bb), .val (.ref a6), .val (.ref a60), .val (.ref b63), .val (.int (p5 &&& (3 : Int32))), .unset, .unset] [(.int (2 : Int32)), (.int (p5 &&& (3 : Int32)))]) t → Steps p.tables e below E0 t := by
          intro t k
          refine pre_88 t ?_
          show Sp p e below T67 (mkF m 119 #[.val (.int p1), .val (.int p2), .val (.int p3), .val (.int p4), .val (.int p5), .val (.int nA), .val (.int nB), .val (.int bb), .val (.ref a6), .val (.ref a60), .val (.ref b63), .val (.int (p5 &&& (3 : Int32))), .unset, .unset] [(.int (1 : Int32)), (.int (p5 &&& (3 : Int32)))]) _
          refine XS.icmpYes X67.here hx rfl (pc0 := 119) (pc' := 149) rfl (hb hby at_119) rfl (XT.ii_ne_t hc89) (by decide) (by decide) ?_
          refine XS.iload X67.here hx rfl (hb hby at_149) rfl ?_
          refine XS.iconst X67.here hx rfl (hb hby at_151) ?_
          show Sp p e below T67 (mkF m 152 #[.val (.int p1), .val (.int p2), .val (.int p3), .val (.int p4), .val (.int p5), .val (.int nA), .val (.int nB), .val (.int bb), .val (.ref a6), .val (.ref a60), .val (.ref b63), .val (.int (p5 &&& (3 : Int32))), .unset, .unset] [(.int (2 : Int32)), (.int (p5 &&& (3 : Int32)))]) _
          exact k
        by_cases hc102 : (p5 &&& (3 : Int32)) = (2 : Int32)
        · skip
          have pre_103 : ∀ t, Sp p e below T67 (mkF m 158 #[.val (.int p1), .val (.int p2), .val (.int p3), .val (.int p4), .val (.int p5), .val (.int nA), .val (.int nB), .val (.int bb), .val (.ref a6), .val (.ref a60), .val (.ref b63), .val (.int (p5 &&& (3 : Int32))), .unset, .unset] [.null, (.ref b63)]) t → Steps p.tables e below E0 t := by
            intro t k
            refine pre_101 t ?_
            show Sp p e below T67 (mkF m 152 #[.val (.int p1), .val (.int p2), .val (.int p3), .val (.int p4), .val (.int p5), .val (.int nA), .val (.int nB), .val (.int bb), .val (.ref a6), .val (.ref a60), .val (.ref b63), .val (.int (p5 &&& (3 : Int32))), .unset, .unset] [(.int (2 : Int32)), (.int (p5 &&& (3 : Int32)))]) _
            refine XS.icmpNo X67.here hx rfl (hb hby at_152) rfl (XT.ii_ne_f hc102) ?_
            refine XS.aload X67.here hx rfl (hb hby at_155) rfl rfl ?_
            refine XS.aconstNull X67.here hx rfl (hb hby at_157) ?_
            exact k
          obtain ⟨cq104, kq104, qa104, qb104, qc104⟩ := isOf hZ60 rfl (A63.keep K67)
          obtain ⟨_, _, ⟨T104, L104, k104, n104⟩, -, X104, ⟨Lc104, hQ104, l104, y104, z104⟩, st104⟩ := X67.virtualBack hx (y := (⟨"com/example/foretell/foretell/core/ModelValue", "equals", "(Ljava/lang/Object;)Z"⟩ : MethodName)) (z := (⟨"com/example/foretell/foretell/core/ModelValue", "equals", "(Ljava/lang/Object;)Z"⟩ : MethodName)) ho60 (mvT hZ60 (own_w hw 57 rfl)) (mvT hZ60 (own_w hw 58 rfl)) (notFace_of_selects (args := #[]) (mvT hZ60 (own_w hw 60 rfl))) (mvT hZ60 (own_w hw 60 rfl)) (mvT hZ60 (own_w hw 59 rfl)) (by decide) (backOf (W := 0) (rm_eqn l Z a0 hw [] b63 T67.heap n0 O67) hZ60 (own_w hw 61 rfl) (own_w hw 42 rfl) (by decide) (by decide)) qa104 qc104 (g := (mkF m 158 #[.val (.int p1), .val (.int p2), .val (.int p3), .val (.int p4), .val (.int p5), .val (.int nA), .val (.int nB), .val (.int bb), .val (.ref a6), .val (.ref a60), .val (.ref b63), .val (.int (p5 &&& (3 : Int32))), .unset, .unset] [.null, (.ref b63)])) rfl (by rw [hml]; rfl) (Steps.refl _) (argsL := [.null]) (rest := []) (lenOf pd_law_3 rfl) rfl (by show 2 * 0 + _ ≤ _; exact Nat.le_of_eq rfl) (hb hby at_158) (fun _ _ => ⟨rfl, rfl, (by decide : 9 + 0 ≤ _), (by decide : 23 + 0 ≤ _)⟩)
          dsimp only [Pt.U, Pt.locs, Pt.cells, Pt.slots] at X104 l104 y104 z104 st104 hQ104
          subst l104 y104 z104
          obtain ⟨rfl, N104q, e104⟩ := hQ104
          have N104 := Fr.app N67 N104q
          have pre_105 : ∀ t, Sp p e below T104 (mkF m 161 #[.val (.int p1), .val (.int p2), .val (.int p3), .val (.int p4), .val (.int p5), .val (.int nA), .val (.int nB), .val (.int bb), .val (.ref a6), .val (.ref a60), .val (.ref b63), .val (.int (p5 &&& (3 : Int32))), .unset, .unset] [(.int (0 : Int32))]) t → Steps p.tables e below E0 t := fun t k => pre_103 t (st104.trans k)
          have pre_106 : ∀ t, Sp p e below T104 (mkF m 169 #[.val (.int p1), .val (.int p2), .val (.int p3), .val (.int p4), .val (.int p5), .val (.int nA), .val (.int nB), .val (.int bb), .val (.ref a6), .val (.ref a60), .val (.ref b63), .val (.int (p5 &&& (3 : Int32))), .unset, .unset] [(.int (1 : Int32))]) t → Steps p.tables e below E0 t := by
            intro t k
            refine pre_105 t ?_
            show Sp p e below T104 (mkF m 161 #[.val (.int p1), .val (.int p2), .val (.int p3), .val (.int p4), .val (.int p5), .val (.int nA), .val (.int nB), .val (.int bb), .val (.ref a6), .val (.ref a60), .val (.ref b63), .val (.int (p5 &&& (3 : Int32))), .unset, .unset] [(.int (0 : Int32))]) _
            refine XS.ifNo X104.here hx rfl (hb hby at_161) rfl (XT.i0_ne_f (by decide)) ?_
            show Sp p e below T104 (mkF m 164 #[.val (.int p1), .val (.int p2), .val (.int p3), .val (.int p4), .val (.int p5), .val (.int nA), .val (.int nB), .val (.int bb), .val (.ref a6), .val (.ref a60), .val (.ref b63), .val (.int (p5 &&& (3 : Int32))), .unset, .unset] []) _
            refine XS.iconst X104.here hx rfl (hb hby at_164) ?_
            refine XS.goto X104.here hx rfl (pc0 := 165) (pc' := 169) rfl (hb hby at_165) (by decide) (by decide) ?_
            exact k
          obtain ⟨fs, hr, hrun, hended, hEnd⟩ := X104.leaveW hS60 (by rw [e104]; exact (Nat.le_trans (Nat.le_refl _) (Nat.le_trans (Nat.le_trans (Nat.le_refl _) E63.1) K67.1))) (v := some (.int (1 : Int32))) (fun h => by rw [Bd.returns] at h; cases h)
          refine ⟨_, _, pre_106 _ ?_, hrun, hended, _, _, rfl, ?_, hEnd.1, hEnd.2.1, hEnd.2.2.1, hEnd.2.2.2.mono (by decide) (by decide)⟩
          · show Sp p e below T104 (mkF m 169 #[.val (.int p1), .val (.int p2), .val (.int p3), .val (.int p4), .val (.int p5), .val (.int nA), .val (.int nB), .val (.int bb), .val (.ref a6), .val (.ref a60), .val (.ref b63), .val (.int (p5 &&& (3 : Int32))), .unset, .unset] [(.int (1 : Int32))]) _
            exact retN X104 hx (t := .boolean) Bd.returns (by simp) (hb hby at_169) hr
          · show Q_law Z _ _ _ _ _ _ h0 n0 _ T104.vm T104.heap _
            rw [e104]
            exact ⟨rfl, N104⟩
        · skip
          have pre_107 : ∀ t, Sp p e below T67 (mkF m 174 #[.val (.int p1), .val (.int p2), .val (.int p3), .val (.int p4), .val (.int p5), .val (.int nA), .val (.int nB), .val (.int bb), .val (.ref a6), .val (.ref a60), .val (.ref b63), .val (.int (p5 &&& (3 : Int32))), .unset, .unset] [(.ref b63), (.ref b63)]) t → Steps p.tables e below E0 t := by
            intro t k
            refine pre_101 t ?_
            show Sp p e below T67 (mkF m 152 #[.val (.int p1), .val (.int p2), .val (.int p3), .val (.int p4), .val (.int p5), .val (.int nA), .val (.int nB), .val (.int bb), .val (.ref a6), .val (.ref a60), .val (.ref b63), .val (.int (p5 &&& (3 : Int32))), .unset, .unset] [(.int (2 : Int32)), (.int (p5 &&& (3 : Int32)))]) _
            refine XS.icmpYes X67.here hx rfl (pc0 := 152) (pc' := 170) rfl (hb hby at_152) rfl (XT.ii_ne_t hc102) (by decide) (by decide) ?_
            refine XS.aload X67.here hx rfl (hb hby at_170) rfl rfl ?_
            refine XS.aload X67.here hx rfl (hb hby at_172) rfl rfl ?_
            exact k
          obtain ⟨cq108, kq108, qa108, qb108, qc108⟩ := isOf hZ60 rfl (A63.keep K67)
          obtain ⟨_, _, ⟨T108, L108, k108, n108⟩, -, X108, ⟨Lc108, hQ108, l108, y108, z108⟩, st108⟩ := X67.virtualBack hx (y := (⟨"com/example/foretell/foretell/core/ModelValue", "equals", "(Ljava/lang/Object;)Z"⟩ : MethodName)) (z := (⟨"com/example/foretell/foretell/core/ModelValue", "equals", "(Ljava/lang/Object;)Z"⟩ : MethodName)) ho60 (mvT hZ60 (own_w hw 57 rfl)) (mvT hZ60 (own_w hw 58 rfl)) (notFace_of_selects (args := #[]) (mvT hZ60 (own_w hw 60 rfl))) (mvT hZ60 (own_w hw 60 rfl)) (mvT hZ60 (own_w hw 59 rfl)) (by decide) (backOf (W := 0) (rm_eqs l Z a0 hw [] b63 a6 T67.heap n0 O67 (A63.keep K67) Fa67 (((Ea6.keep K60).ext E63).keep K67)) hZ60 (own_w hw 61 rfl) (own_w hw 42 rfl) (by decide) (by decide)) qa108 qc108 (g := (mkF m 174 #[.val (.int p1), .val (.int p2), .val (.int p3), .val (.int p4), .val (.int p5), .val (.int nA), .val (.int nB), .val (.int bb), .val (.ref a6), .val (.ref a60), .val (.ref b63), .val (.int (p5 &&& (3 : Int32))), .unset, .unset] [(.ref b63), (.ref b63)])) rfl (by rw [hml]; rfl) (Steps.refl _) (argsL := [(.ref b63)]) (rest := []) (lenOf pd_law_3 rfl) rfl (by show 2 * 0 + _ ≤ _; exact Nat.le_of_eq rfl) (hb hby at_174) (fun _ _ => ⟨rfl, rfl, (by decide : 9 + 0 ≤ _), (by decide : 23 + 0 ≤ _)⟩)
          dsimp only [Pt.U, Pt.locs, Pt.cells, Pt.slots] at X108 l108 y108 z108 st108 hQ108
          subst l108 y108 z108
          obtain ⟨rfl, N108q, e108⟩ := hQ108
          have N108 := Fr.app N67 N108q
          have pre_109 : ∀ t, Sp p e below T108 (mkF m 177 #[.val (.int p1), .val (.int p2), .val (.int p3), .val (.int p4), .val (.int p5), .val (.int nA), .val (.int nB), .val (.int bb), .val (.ref a6), .val (.ref a60), .val (.ref b63), .val (.int (p5 &&& (3 : Int32))), .unset, .unset] [(.int (1 : Int32))]) t → Steps p.tables e below E0 t := fun t k => pre_107 t (st108.trans k)
          obtain ⟨fs, hr, hrun, hended, hEnd⟩ := X108.leaveW hS60 (by rw [e108]; exact (Nat.le_trans (Nat.le_refl _) (Nat.le_trans (Nat.le_trans (Nat.le_refl _) E63.1) K67.1))) (v := some (.int (1 : Int32))) (fun h => by rw [Bd.returns] at h; cases h)
          refine ⟨_, _, pre_109 _ ?_, hrun, hended, _, _, rfl, ?_, hEnd.1, hEnd.2.1, hEnd.2.2.1, hEnd.2.2.2.mono (by decide) (by decide)⟩
          · show Sp p e below T108 (mkF m 177 #[.val (.int p1), .val (.int p2), .val (.int p3), .val (.int p4), .val (.int p5), .val (.int nA), .val (.int nB), .val (.int bb), .val (.ref a6), .val (.ref a60), .val (.ref b63), .val (.int (p5 &&& (3 : Int32))), .unset, .unset] [(.int (1 : Int32))]) _
            exact retN X108 hx (t := .boolean) Bd.returns (by simp) (hb hby at_177) hr
          · show Q_law Z _ _ _ _ _ _ h0 n0 _ T108.vm T108.heap _
            rw [e108]
            exact ⟨rfl, N108⟩
set_option maxRecDepth 65536 in
set_option maxHeartbeats 40000000 in
theorem comes_1 {Post : Tables → Env → Array Value → State → Outcome → State → Prop} (hpost : ∀ tb e args s v u, (limb_1_1.after args s (.returned v) u = true ∧ limb_1_2.after args s (.returned v) u = true ∧ True) → ReturnedEndW s (.returned v) u (Jvm.fieldLocs frame_1_writes args s ++ Jvm.arrayLocs frame_1_arrays args s ++ Jvm.staticLocs frame_1_statics s) 32 1152 → Post tb e args s (.returned v) u) :
    ArmFor flags0 classFile x code maxLocals ret World_1 tables_1 room_1 Calls_1 rest_1 Pre_1 Post := by
  intro l hfl _ _ p e ha hc hk s m args below hf hA hF happ hP
  obtain ⟨hcalls, hrest, hpre⟩ := hP
  obtain ⟨-, -, -, hnamed, -, -, -, hat⟩ := (Spec.applies_iff hf).mp happ
  obtain ⟨hg, hn⟩ := and_e (Cond.before_iff.mp (show (Jvm.Cond.and given_1 narrow_1).before args s = true from hpre))
  obtain ⟨hg0, hgs⟩ := and_e hg
  obtain ⟨w0, w1, w2, w3, w4, rfl⟩ : ∃ w0 w1 w2 w3 w4 : Value, args = #[w0, w1, w2, w3, w4] := by
    have hs : args.size = 5 := by simpa [Cond.value, given_1] using hg0
    obtain ⟨L⟩ := args
    match L, hs with
    | [w0, w1, w2, w3, w4], _ => exact ⟨w0, w1, w2, w3, w4, rfl⟩
  have hw := fun d (hd : d ∈ tables_1) => atoms_spec (ws := Jvm.Cond.code x code maxLocals ret :: tables_1) hat d (List.mem_cons_of_mem _ hd)
  have hfit : Fit s := fun {y c} hc i hi => by
    obtain ⟨ha, rfl⟩ := Array.getElem?_eq_some_iff.mp hc
    have q := List.all_eq_true.mp ((Array.all_eq_true_iff_forall_mem.mp hF) _ (Array.getElem_mem ha)) i (List.mem_range.mpr hi)
    simpa [Array.getElem?_eq_getElem hi] using q
  obtain ⟨ha0, hgs0⟩ := and_e hgs
  obtain ⟨i0, ei0⟩ := is_v ha0
  obtain rfl : w0 = (.int i0) := Option.some.inj ei0
  obtain ⟨ha1, hgs1⟩ := and_e hgs0
  obtain ⟨i1, ei1⟩ := is_v ha1
  obtain rfl : w1 = (.int i1) := Option.some.inj ei1
  obtain ⟨ha2, hgs2⟩ := and_e hgs1
  obtain ⟨i2, ei2⟩ := is_v ha2
  obtain rfl : w2 = (.int i2) := Option.some.inj ei2
  obtain ⟨ha3, hgs3⟩ := and_e hgs2
  obtain ⟨i3, ei3⟩ := is_v ha3
  obtain rfl : w3 = (.int i3) := Option.some.inj ei3
  obtain ⟨i4, ei4⟩ := is_v hgs3
  obtain rfl : w4 = (.int i4) := Option.some.inj ei4
  obtain ⟨hsets, hown0⟩ := atoms_of _ (rest_1_c_eq ▸ (show rest_1_c.before _ s = true from hrest))
  obtain ⟨G1, evG⟩ := is_v (Cond.before_iff.mp (hsets _ (List.mem_of_getElem? (i := 1) rfl)))
  have SC := Sta.start evG (Or.inl (hsets _ (List.mem_of_getElem? (i := 0) rfl)))
  have hG : ¬ (G1 = (0 : Int32)) := gotF (Cond.eq_ints evG (Term.int_eval (0))) (not_v (Cond.before_iff.mp (hsets _ (List.mem_of_getElem? (i := 2) rfl))))
  have hHC : Jvm.Lit.constHeld s "java/lang/String" 7 := hcalls.1 ("java/lang/String", 7) (List.mem_of_getElem? (i := 0) rfl)
  have hCW := hsets _ (List.mem_of_getElem? (i := 2) rfl)
  obtain ⟨n, o, h1, h2, h3, _, L, rfl, ⟨rfl, N⟩, hq⟩ := rm_law l s _ hw tables_1 i0 i1 i2 i3 i4 G1 s.heap s.heap.size (Old.start s) SC hG hHC hCW p e ha hc hk s m _ below hf ((Spec.applies_iff_loose hf).mp happ).1 ⟨rfl, State.Warmed39.refl s, rfl, IB.start⟩ trivial
  refine ⟨n, _, h1, h2, h3, hpost _ _ _ _ _ _ ⟨Cond.after_iff.mpr rfl, Cond.after_iff.mpr (eq_i res_at (Term.int_eval (1)) rfl), trivial⟩ ⟨hq.1, hq.2.1, hq.2.2.1, (hq.2.2.2.sift fun y hy => Or.inr (N y hy)).mono (by decide) (by decide)⟩⟩
theorem main_1_1 : Claimed_1_1 := comes_1 fun _ _ _ _ _ _ h hF => ⟨h.1, hF⟩
theorem main_1_2 : Claimed_1_2 := comes_1 fun _ _ _ _ _ _ h hF => ⟨h.2.1, hF⟩
end Jvm.Pilot.@@N@@
namespace Jvm.Pilot.@@N@@
open Jvm Jvm.ClassFile Sem Op Lib Jvm.Free Jvm.Stand Jvm.Pilot.@@N@@.Jvm.D
/-! MADE BY PROGRAM (witnessworld.py) out of the Statement's table words and the real class files: 22 classes; the members and pool entries that the words name. The judged class is class 1, her method 1. -/
namespace start1
open Jvm.ClassFile
def u (s : String) : CpInfo := .utf8 (stringToUtf16 s)
/-- a pool by its gaps: so many unusable entries, then the entry; so many at the end -/
def gap : Nat → List CpInfo → List CpInfo
  | 0, r => r
  | n + 1, r => .unusable :: gap n r
def poolList (es : List (Nat × CpInfo)) (last : Nat) : List CpInfo := es.foldr (fun e r => gap e.1 (e.2 :: r)) (gap last [])
def pool (es : List (Nat × CpInfo)) (last : Nat) : Array CpInfo := ⟨poolList es last⟩
def fileOf (pool : Array CpInfo) (this : Nat) (attrs : Array Attribute := #[]) (ms : Array MethodInfo := #[]) (fl : Nat := 33) (sup : Nat := 0) (ifs : Array Nat := #[]) (fds : Array FieldInfo := #[]) : ClassFile where
  minorVersion := 0
  majorVersion := 65
  constantPool := pool
  accessFlags := fl
  thisClass := this
  superClass := sup
  interfaces := ifs
  fields := fds
  methods := ms
  attributes := attrs
def plain (name : String) (sup : Option ClassId) : Class where
  name := name
  kind := .ordinary
  loader := none
  accessFlags := 33
  super := sup
  interfaces := #[]
  cf := none
  fields := #[]
  methods := #[]
  instanceTypes := #[]
  staticTypes := #[]
  resolved := #[]
  callSites := []
  init := .initialized
  statics := none
  mirror := none

def pool0 : Array CpInfo := pool [(5, u "<init>"), (0, u "()V"), (1, .class_ 10), (1, u "java/lang/Object")] 113

def k0c0 : Code := { maxStack := 0, maxLocals := 1, code := object_method_1_code, exceptionTable := #[], attributes := #[] }
def k0m0 : Method := { name := "<init>", desc := "()V", sig := { parameters := [], returnType := none }, accessFlags := 1, code := some k0c0 }
/-- java/lang/Object -/
def k0 : Class := { plain "java/lang/Object" none with
  accessFlags := 33
  interfaces := #[]
  cf := some (fileOf pool0 8 #[] #[{ accessFlags := 1, nameIndex := 5, descriptorIndex := 6, attributes := #[] }] 33 0 #[] #[])
  fields := #[]
  methods := #[k0m0]
  instanceTypes := #[]
  staticTypes := #[]
  resolved := Array.replicate 124 none
  statics := none }

def pool1 : Array CpInfo := pool [(2, .class_ 4), (1, u "java/lang/Object"), (0, u "<init>"), (0, u "()V"), (0, .methodref 8 9), (0, .class_ 10), (0, .nameAndType 11 12), (0, u "com/example/foretell/foretell/core/ModelValueEqualsPinLaw"), (0, u "name"), (0, u "(II)Ljava/lang/String;"), (0, .class_ 14), (0, u "com/example/foretell/foretell/core/ModelValue"), (0, .methodref 13 16), (0, .nameAndType 5 17), (0, u "(Ljava/lang/String;)V"), (0, .methodref 8 19), (0, .nameAndType 20 21), (0, u "same"), (0, u "(IIII)Z"), (0, .methodref 13 23), (0, .nameAndType 24 25), (0, u "equals"), (0, u "(Ljava/lang/Object;)Z"), (0, .class_ 27), (0, u "com/example/foretell/foretell/core/StringValue"), (0, .methodref 26 16), (0, .class_ 30), (0, u "java/lang/String"), (0, .methodref 29 32), (0, .nameAndType 5 33), (0, u "([C)V"), (0, .methodref 8 35), (0, .nameAndType 36 37), (0, u "ch"), (0, u "(II)C"), (2, u "law"), (0, u "(IIIII)Z")] 3

def k1m0 : Method := { name := "<init>", desc := "()V", sig := { parameters := [], returnType := none }, accessFlags := 1, code := none }
def k1c1 : Code := { maxStack := 4, maxLocals := 14, code := code, exceptionTable := #[], attributes := #[] }
def k1m1 : Method := { name := "law", desc := "(IIIII)Z", sig := { parameters := [.int, .int, .int, .int, .int], returnType := some .boolean }, accessFlags := 9, code := some k1c1 }
def k1c2 : Code := { maxStack := 3, maxLocals := 2, code := method_3_code, exceptionTable := #[], attributes := #[] }
def k1m2 : Method := { name := "ch", desc := "(II)C", sig := { parameters := [.int, .int], returnType := some .char }, accessFlags := 10, code := some k1c2 }
def k1c3 : Code := { maxStack := 7, maxLocals := 2, code := method_4_code, exceptionTable := #[], attributes := #[] }
def k1m3 : Method := { name := "name", desc := "(II)Ljava/lang/String;", sig := { parameters := [.int, .int], returnType := some (.object "java/lang/String") }, accessFlags := 10, code := some k1c3 }
def k1c4 : Code := { maxStack := 3, maxLocals := 4, code := method_5_code, exceptionTable := #[], attributes := #[] }
def k1m4 : Method := { name := "same", desc := "(IIII)Z", sig := { parameters := [.int, .int, .int, .int], returnType := some .boolean }, accessFlags := 10, code := some k1c4 }
/-- com/example/foretell/foretell/core/ModelValueEqualsPinLaw -/
def k1 : Class := { plain "com/example/foretell/foretell/core/ModelValueEqualsPinLaw" (some 0) with
  accessFlags := 49
  interfaces := #[]
  cf := some (fileOf pool1 8 #[] #[{ accessFlags := 1, nameIndex := 5, descriptorIndex := 6, attributes := #[] }, { accessFlags := 9, nameIndex := 40, descriptorIndex := 41, attributes := #[] }, { accessFlags := 10, nameIndex := 36, descriptorIndex := 37, attributes := #[] }, { accessFlags := 10, nameIndex := 11, descriptorIndex := 12, attributes := #[] }, { accessFlags := 10, nameIndex := 20, descriptorIndex := 21, attributes := #[] }] 49 2 #[] #[])
  fields := #[]
  methods := #[k1m0, k1m1, k1m2, k1m3, k1m4]
  instanceTypes := #[]
  staticTypes := #[]
  resolved := Array.replicate 45 none
  statics := none }

def pool2 : Array CpInfo := pool [(1, .class_ 2), (0, u "java/io/Serializable"), (0, .class_ 4), (0, u "java/lang/Object")] 2

/-- java/io/Serializable -/
def k2 : Class := { plain "java/io/Serializable" (some 0) with
  accessFlags := 1537
  interfaces := #[]
  cf := some (fileOf pool2 1 #[] #[] 1537 3 #[] #[])
  fields := #[]
  methods := #[]
  instanceTypes := #[]
  staticTypes := #[]
  resolved := Array.replicate 7 none
  statics := none }

def pool3 : Array CpInfo := pool [(1, .class_ 2), (0, u "java/lang/Comparable"), (0, .class_ 4), (0, u "java/lang/Object")] 7

/-- java/lang/Comparable -/
def k3 : Class := { plain "java/lang/Comparable" (some 0) with
  accessFlags := 1537
  interfaces := #[]
  cf := some (fileOf pool3 1 #[] #[] 1537 3 #[] #[])
  fields := #[]
  methods := #[]
  instanceTypes := #[]
  staticTypes := #[]
  resolved := Array.replicate 12 none
  statics := none }

def pool4 : Array CpInfo := pool [(2, .class_ 4), (1, u "java/lang/CharSequence"), (42, .class_ 48), (0, u "java/lang/CharSequence$1CodePointIterator"), (10, .class_ 60), (0, u "java/lang/CharSequence$1CharIterator"), (5, .class_ 67), (0, u "java/lang/Object")] 63

/-- java/lang/CharSequence -/
def k4 : Class := { plain "java/lang/CharSequence" (some 0) with
  accessFlags := 1537
  interfaces := #[]
  cf := some (fileOf pool4 2 #[.nestMembers #[47, 59]] #[] 1537 66 #[] #[])
  fields := #[]
  methods := #[]
  instanceTypes := #[]
  staticTypes := #[]
  resolved := Array.replicate 131 none
  statics := none }

def pool5 : Array CpInfo := pool [(1, .class_ 2), (0, u "java/lang/constant/Constable"), (0, .class_ 4), (0, u "java/lang/Object")] 6

/-- java/lang/constant/Constable -/
def k5 : Class := { plain "java/lang/constant/Constable" (some 0) with
  accessFlags := 1537
  interfaces := #[]
  cf := some (fileOf pool5 1 #[] #[] 1537 3 #[] #[])
  fields := #[]
  methods := #[]
  instanceTypes := #[]
  staticTypes := #[]
  resolved := Array.replicate 11 none
  statics := none }

def pool6 : Array CpInfo := pool [(1, .class_ 2), (0, u "java/lang/constant/ConstantDesc"), (0, .class_ 4), (0, u "java/lang/Object")] 32

/-- java/lang/constant/ConstantDesc -/
def k6 : Class := { plain "java/lang/constant/ConstantDesc" (some 0) with
  accessFlags := 1537
  interfaces := #[]
  cf := some (fileOf pool6 1 #[] #[] 1537 3 #[] #[])
  fields := #[]
  methods := #[]
  instanceTypes := #[]
  staticTypes := #[]
  resolved := Array.replicate 37 none
  statics := none }

def pool7 : Array CpInfo := pool [(1, .methodref 2 3), (0, .class_ 4), (0, .nameAndType 5 6), (0, u "java/lang/Object"), (0, u "<init>"), (0, u "()V"), (0, .string 8), (0, u ""), (0, .fieldref 10 11), (0, .class_ 12), (0, .nameAndType 13 14), (0, u "java/lang/String"), (0, u "value"), (0, u "[B"), (0, .fieldref 10 16), (0, .nameAndType 17 18), (0, u "coder"), (0, u "B"), (2, u "hash"), (0, u "I"), (2, u "hashIsZero"), (0, u "Z"), (0, .methodref 10 28), (0, .nameAndType 5 29), (0, u "([CIILjava/lang/Void;)V"), (8, .fieldref 10 39), (0, .nameAndType 40 26), (0, u "COMPACT_STRINGS"), (1, .class_ 44), (1, u "java/lang/StringUTF16"), (0, u "compress"), (1, .methodref 42 48), (0, .nameAndType 49 50), (0, u "coderFromArrayLen"), (0, u "([BI)B"), (56, .class_ 109), (1, u "java/lang/StringLatin1"), (67, .methodref 42 178), (0, .nameAndType 45 179), (0, u "([CII)[B"), (361, .methodref 107 542), (0, .nameAndType 543 544), (0, u "equals"), (0, u "([B[B)Z"), (28, u "(Ljava/lang/Object;)Z"), (1, .class_ 576), (0, u "java/lang/CharSequence"), (22, u "CASE_INSENSITIVE_ORDER"), (0, u "Ljava/util/Comparator;"), (409, u "([C)V"), (90, u "serialPersistentFields"), (0, u "[Ljava/io/ObjectStreamField;"), (0, .class_ 1104), (0, u "java/lang/String$CaseInsensitiveComparator"), (1, .class_ 1107), (0, u "java/io/Serializable"), (0, .class_ 1109), (0, u "java/lang/Comparable"), (0, .class_ 1111), (0, u "java/lang/constant/Constable"), (0, .class_ 1113), (0, u "java/lang/constant/ConstantDesc"), (2, u "serialVersionUID"), (0, u "J"), (3, u "REPL"), (0, u "C"), (2, u "LATIN1"), (1, u "UTF16")] 323

def k7m0 : Method := { name := "<init>", desc := "()V", sig := { parameters := [], returnType := none }, accessFlags := 1, code := none }
def k7c1 : Code := { maxStack := 5, maxLocals := 2, code := jdk_42_method_3_code, exceptionTable := #[], attributes := #[] }
def k7m1 : Method := { name := "<init>", desc := "([C)V", sig := { parameters := [(.array .char)], returnType := none }, accessFlags := 1, code := some k7c1 }
def k7c2 : Code := { maxStack := 2, maxLocals := 3, code := jdk_42_method_66_code, exceptionTable := #[], attributes := #[] }
def k7m2 : Method := { name := "equals", desc := "(Ljava/lang/Object;)Z", sig := { parameters := [(.object "java/lang/Object")], returnType := some .boolean }, accessFlags := 1, code := some k7c2 }
def k7c3 : Code := { maxStack := 4, maxLocals := 6, code := jdk_42_method_149_code, exceptionTable := #[], attributes := #[] }
def k7m3 : Method := { name := "<init>", desc := "([CIILjava/lang/Void;)V", sig := { parameters := [(.array .char), .int, .int, (.object "java/lang/Void")], returnType := none }, accessFlags := 2, code := some k7c3 }
/-- java/lang/String -/
def k7 : Class := { plain "java/lang/String" (some 0) with
  accessFlags := 49
  interfaces := #[2, 3, 4, 5, 6]
  cf := some (fileOf pool7 10 #[.nestMembers #[1103]] #[{ accessFlags := 1, nameIndex := 5, descriptorIndex := 6, attributes := #[] }, { accessFlags := 1, nameIndex := 5, descriptorIndex := 1010, attributes := #[] }, { accessFlags := 1, nameIndex := 543, descriptorIndex := 573, attributes := #[] }, { accessFlags := 2, nameIndex := 5, descriptorIndex := 29, attributes := #[] }] 49 2 #[1106, 1108, 575, 1110, 1112] #[{ accessFlags := 18, nameIndex := 13, descriptorIndex := 14, attributes := #[] }, { accessFlags := 18, nameIndex := 17, descriptorIndex := 18, attributes := #[] }, { accessFlags := 2, nameIndex := 21, descriptorIndex := 22, attributes := #[] }, { accessFlags := 2, nameIndex := 25, descriptorIndex := 26, attributes := #[] }, { accessFlags := 26, nameIndex := 1116, descriptorIndex := 1117, attributes := #[] }, { accessFlags := 24, nameIndex := 40, descriptorIndex := 26, attributes := #[] }, { accessFlags := 26, nameIndex := 1101, descriptorIndex := 1102, attributes := #[] }, { accessFlags := 26, nameIndex := 1121, descriptorIndex := 1122, attributes := #[] }, { accessFlags := 25, nameIndex := 599, descriptorIndex := 600, attributes := #[] }, { accessFlags := 24, nameIndex := 1125, descriptorIndex := 18, attributes := #[] }, { accessFlags := 24, nameIndex := 1127, descriptorIndex := 18, attributes := #[] }])
  fields := #[{ name := "value", type := (.array .byte), accessFlags := 18, slot := 0, constantValue := 0 }, { name := "coder", type := .byte, accessFlags := 18, slot := 1, constantValue := 0 }, { name := "hash", type := .int, accessFlags := 2, slot := 2, constantValue := 0 }, { name := "hashIsZero", type := .boolean, accessFlags := 2, slot := 3, constantValue := 0 }, { name := "serialVersionUID", type := .long, accessFlags := 26, slot := 0, constantValue := 0 }, { name := "COMPACT_STRINGS", type := .boolean, accessFlags := 24, slot := 1, constantValue := 0 }, { name := "serialPersistentFields", type := (.array (.object "java/io/ObjectStreamField")), accessFlags := 26, slot := 2, constantValue := 0 }, { name := "REPL", type := .char, accessFlags := 26, slot := 3, constantValue := 0 }, { name := "CASE_INSENSITIVE_ORDER", type := (.object "java/util/Comparator"), accessFlags := 25, slot := 4, constantValue := 0 }, { name := "LATIN1", type := .byte, accessFlags := 24, slot := 5, constantValue := 0 }, { name := "UTF16", type := .byte, accessFlags := 24, slot := 6, constantValue := 0 }]
  methods := #[k7m0, k7m1, k7m2, k7m3]
  instanceTypes := #[(.array .byte), .byte, .int, .boolean]
  staticTypes := #[.long, .boolean, (.array (.object "java/io/ObjectStreamField")), .char, (.object "java/util/Comparator"), .byte, .byte]
  resolved := Array.replicate 1451 none
  statics := some 0 }

def pool8 : Array CpInfo := pool [(6, .class_ 8), (1, u "java/lang/Object"), (0, u "<init>"), (0, u "()V"), (1, .class_ 14), (1, u "java/lang/StringUTF16"), (31, u "$assertionsDisabled"), (0, u "Z"), (13, u "HI_BYTE_SHIFT"), (0, u "I"), (2, u "LO_BYTE_SHIFT"), (49, .methodref 12 116), (0, .nameAndType 117 118), (0, u "compress"), (0, u "([CI[BII)I"), (3, u "([CII)[B"), (138, u "coderFromArrayLen"), (0, u "([BI)B"), (106, .class_ 371), (1, u "java/lang/StringUTF16$LinesSpliterator"), (58, u "MAX_LENGTH"), (196, .class_ 628), (0, u "java/lang/StringUTF16$CodePointsSpliterator"), (0, .class_ 630), (0, u "java/lang/StringUTF16$CharsSpliterator")] 4

def k8m0 : Method := { name := "<init>", desc := "()V", sig := { parameters := [], returnType := none }, accessFlags := 0, code := none }
def k8c1 : Code := { maxStack := 2, maxLocals := 2, code := jdk_52_method_15_code, exceptionTable := #[], attributes := #[] }
def k8m1 : Method := { name := "coderFromArrayLen", desc := "([BI)B", sig := { parameters := [(.array .byte), .int], returnType := some .byte }, accessFlags := 8, code := some k8c1 }
def k8c2 : Code := { maxStack := 5, maxLocals := 6, code := jdk_52_method_16_code, exceptionTable := #[], attributes := #[] }
def k8m2 : Method := { name := "compress", desc := "([CII)[B", sig := { parameters := [(.array .char), .int, .int], returnType := some (.array .byte) }, accessFlags := 9, code := some k8c2 }
def k8c3 : Code := { maxStack := 3, maxLocals := 7, code := jdk_52_method_21_code, exceptionTable := #[], attributes := #[] }
def k8m3 : Method := { name := "compress", desc := "([CI[BII)I", sig := { parameters := [(.array .char), .int, (.array .byte), .int, .int], returnType := some .int }, accessFlags := 9, code := some k8c3 }
/-- java/lang/StringUTF16 -/
def k8 : Class := { plain "java/lang/StringUTF16" (some 0) with
  accessFlags := 48
  interfaces := #[]
  cf := some (fileOf pool8 12 #[.nestMembers #[627, 629, 369]] #[{ accessFlags := 0, nameIndex := 9, descriptorIndex := 10, attributes := #[] }, { accessFlags := 8, nameIndex := 261, descriptorIndex := 262, attributes := #[] }, { accessFlags := 9, nameIndex := 117, descriptorIndex := 122, attributes := #[] }, { accessFlags := 9, nameIndex := 117, descriptorIndex := 118, attributes := #[] }] 48 6 #[] #[{ accessFlags := 26, nameIndex := 61, descriptorIndex := 62, attributes := #[] }, { accessFlags := 26, nameIndex := 65, descriptorIndex := 62, attributes := #[] }, { accessFlags := 24, nameIndex := 430, descriptorIndex := 62, attributes := #[] }, { accessFlags := 4120, nameIndex := 46, descriptorIndex := 47, attributes := #[] }])
  fields := #[{ name := "HI_BYTE_SHIFT", type := .int, accessFlags := 26, slot := 0, constantValue := 0 }, { name := "LO_BYTE_SHIFT", type := .int, accessFlags := 26, slot := 1, constantValue := 0 }, { name := "MAX_LENGTH", type := .int, accessFlags := 24, slot := 2, constantValue := 0 }, { name := "$assertionsDisabled", type := .boolean, accessFlags := 4120, slot := 3, constantValue := 0 }]
  methods := #[k8m0, k8m1, k8m2, k8m3]
  instanceTypes := #[]
  staticTypes := #[.int, .int, .int, .boolean]
  resolved := Array.replicate 635 none
  statics := none }

def pool9 : Array CpInfo := pool [(1, .methodref 2 3), (0, .class_ 4), (0, .nameAndType 5 6), (0, u "java/lang/Object"), (0, u "<init>"), (0, u "()V"), (1, .class_ 10), (1, u "com/example/foretell/foretell/core/Value"), (3, .class_ 16), (1, u "com/example/foretell/foretell/core/Value$Sort"), (57, .class_ 75), (0, u "java/lang/Comparable")] 31

def k9c0 : Code := { maxStack := 1, maxLocals := 1, code := prog_195_method_1_code, exceptionTable := #[], attributes := #[] }
def k9m0 : Method := { name := "<init>", desc := "()V", sig := { parameters := [], returnType := none }, accessFlags := 0, code := some k9c0 }
/-- com/example/foretell/foretell/core/Value -/
def k9 : Class := { plain "com/example/foretell/foretell/core/Value" (some 0) with
  accessFlags := 1057
  interfaces := #[3]
  cf := some (fileOf pool9 8 #[.nestMembers #[14]] #[{ accessFlags := 0, nameIndex := 5, descriptorIndex := 6, attributes := #[] }] 1057 2 #[74] #[])
  fields := #[]
  methods := #[k9m0]
  instanceTypes := #[]
  staticTypes := #[]
  resolved := Array.replicate 107 none
  statics := none }

def pool10 : Array CpInfo := pool [(1, .methodref 2 3), (0, .class_ 4), (0, .nameAndType 5 6), (0, u "com/example/foretell/foretell/core/Value"), (0, u "<init>"), (0, u "()V"), (0, .fieldref 8 9), (0, .class_ 10), (0, .nameAndType 11 12), (0, u "com/example/foretell/foretell/core/ModelValue"), (0, u "name"), (0, u "Ljava/lang/String;"), (12, .methodref 26 27), (0, .class_ 28), (0, .nameAndType 29 30), (0, u "java/lang/String"), (0, u "equals"), (0, u "(Ljava/lang/Object;)Z"), (4, u "(Ljava/lang/String;)V")] 13

def k10c0 : Code := { maxStack := 2, maxLocals := 2, code := prog_82_method_1_code, exceptionTable := #[], attributes := #[] }
def k10m0 : Method := { name := "<init>", desc := "(Ljava/lang/String;)V", sig := { parameters := [(.object "java/lang/String")], returnType := none }, accessFlags := 0, code := some k10c0 }
def k10c1 : Code := { maxStack := 2, maxLocals := 3, code := prog_82_method_4_code, exceptionTable := #[], attributes := #[] }
def k10m1 : Method := { name := "equals", desc := "(Ljava/lang/Object;)Z", sig := { parameters := [(.object "java/lang/Object")], returnType := some .boolean }, accessFlags := 1, code := some k10c1 }
/-- com/example/foretell/foretell/core/ModelValue -/
def k10 : Class := { plain "com/example/foretell/foretell/core/ModelValue" (some 9) with
  accessFlags := 48
  interfaces := #[]
  cf := some (fileOf pool10 8 #[] #[{ accessFlags := 0, nameIndex := 5, descriptorIndex := 35, attributes := #[] }, { accessFlags := 1, nameIndex := 29, descriptorIndex := 30, attributes := #[] }] 48 2 #[] #[{ accessFlags := 18, nameIndex := 11, descriptorIndex := 12, attributes := #[] }])
  fields := #[{ name := "name", type := (.object "java/lang/String"), accessFlags := 18, slot := 0, constantValue := 0 }]
  methods := #[k10m0, k10m1]
  instanceTypes := #[(.object "java/lang/String")]
  staticTypes := #[]
  resolved := Array.replicate 49 none
  statics := none }

def pool11 : Array CpInfo := pool [(4, .class_ 6), (1, u "java/lang/Object"), (0, u "<init>"), (0, u "()V"), (5, .class_ 16), (1, u "java/lang/StringLatin1"), (104, u "$assertionsDisabled"), (0, u "Z"), (98, .class_ 223), (1, u "java/lang/StringLatin1$LinesSpliterator"), (57, u "equals"), (0, u "([B[B)Z"), (107, .class_ 391), (0, u "java/lang/StringLatin1$CharsSpliterator")] 3

def k11m0 : Method := { name := "<init>", desc := "()V", sig := { parameters := [], returnType := none }, accessFlags := 0, code := none }
def k11c1 : Code := { maxStack := 3, maxLocals := 3, code := jdk_43_method_13_code, exceptionTable := #[], attributes := #[] }
def k11m1 : Method := { name := "equals", desc := "([B[B)Z", sig := { parameters := [(.array .byte), (.array .byte)], returnType := some .boolean }, accessFlags := 9, code := some k11c1 }
/-- java/lang/StringLatin1 -/
def k11 : Class := { plain "java/lang/StringLatin1" (some 0) with
  accessFlags := 48
  interfaces := #[]
  cf := some (fileOf pool11 14 #[.nestMembers #[390, 221]] #[{ accessFlags := 0, nameIndex := 7, descriptorIndex := 8, attributes := #[] }, { accessFlags := 9, nameIndex := 281, descriptorIndex := 282, attributes := #[] }] 48 4 #[] #[{ accessFlags := 4120, nameIndex := 121, descriptorIndex := 122, attributes := #[] }])
  fields := #[{ name := "$assertionsDisabled", type := .boolean, accessFlags := 4120, slot := 0, constantValue := 0 }]
  methods := #[k11m0, k11m1]
  instanceTypes := #[]
  staticTypes := #[.boolean]
  resolved := Array.replicate 395 none
  statics := none }

def pool12 : Array CpInfo := pool [(1, .methodref 2 3), (0, .class_ 4), (0, .nameAndType 5 6), (0, u "com/example/foretell/foretell/core/Value"), (0, u "<init>"), (0, u "()V"), (0, .fieldref 8 9), (0, .class_ 10), (0, .nameAndType 11 12), (0, u "com/example/foretell/foretell/core/StringValue"), (0, u "value"), (0, u "Ljava/lang/String;"), (52, u "(Ljava/lang/String;)V")] 13

def k12c0 : Code := { maxStack := 2, maxLocals := 2, code := prog_132_method_1_code, exceptionTable := #[], attributes := #[] }
def k12m0 : Method := { name := "<init>", desc := "(Ljava/lang/String;)V", sig := { parameters := [(.object "java/lang/String")], returnType := none }, accessFlags := 0, code := some k12c0 }
/-- com/example/foretell/foretell/core/StringValue -/
def k12 : Class := { plain "com/example/foretell/foretell/core/StringValue" (some 9) with
  accessFlags := 48
  interfaces := #[]
  cf := some (fileOf pool12 8 #[] #[{ accessFlags := 0, nameIndex := 5, descriptorIndex := 65, attributes := #[] }] 48 2 #[] #[{ accessFlags := 18, nameIndex := 11, descriptorIndex := 12, attributes := #[] }])
  fields := #[{ name := "value", type := (.object "java/lang/String"), accessFlags := 18, slot := 0, constantValue := 0 }]
  methods := #[k12m0]
  instanceTypes := #[(.object "java/lang/String")]
  staticTypes := #[]
  resolved := Array.replicate 79 none
  statics := none }

def pool13 : Array CpInfo := pool [(2, .class_ 4), (1, u "java/lang/Object"), (0, u "<init>"), (0, u "()V"), (17, .class_ 26), (1, u "jdk/internal/util/Preconditions"), (28, .class_ 56), (0, u "jdk/internal/util/Preconditions$4"), (57, .class_ 115), (0, u "jdk/internal/util/Preconditions$1"), (7, u "SIOOBE_FORMATTER"), (0, u "Ljava/util/function/BiFunction;"), (0, .class_ 126), (0, u "jdk/internal/util/Preconditions$2"), (3, u "AIOOBE_FORMATTER"), (0, .class_ 132), (0, u "jdk/internal/util/Preconditions$3"), (3, u "IOOBE_FORMATTER")] 57

def k13m0 : Method := { name := "<init>", desc := "()V", sig := { parameters := [], returnType := none }, accessFlags := 1, code := none }
/-- jdk/internal/util/Preconditions -/
def k13 : Class := { plain "jdk/internal/util/Preconditions" (some 0) with
  accessFlags := 33
  interfaces := #[]
  cf := some (fileOf pool13 24 #[.nestMembers #[55, 131, 125, 114]] #[{ accessFlags := 1, nameIndex := 5, descriptorIndex := 6, attributes := #[] }] 33 2 #[] #[{ accessFlags := 25, nameIndex := 123, descriptorIndex := 124, attributes := #[] }, { accessFlags := 25, nameIndex := 130, descriptorIndex := 124, attributes := #[] }, { accessFlags := 25, nameIndex := 136, descriptorIndex := 124, attributes := #[] }])
  fields := #[{ name := "SIOOBE_FORMATTER", type := (.object "java/util/function/BiFunction"), accessFlags := 25, slot := 0, constantValue := 0 }, { name := "AIOOBE_FORMATTER", type := (.object "java/util/function/BiFunction"), accessFlags := 25, slot := 1, constantValue := 0 }, { name := "IOOBE_FORMATTER", type := (.object "java/util/function/BiFunction"), accessFlags := 25, slot := 2, constantValue := 0 }]
  methods := #[k13m0]
  instanceTypes := #[]
  staticTypes := #[(.object "java/util/function/BiFunction"), (.object "java/util/function/BiFunction"), (.object "java/util/function/BiFunction")]
  resolved := Array.replicate 194 none
  statics := some 1 }

def pool14 : Array CpInfo := pool [(9, u "<init>"), (6, .class_ 18), (1, u "java/lang/Object"), (0, u "()V"), (1, .class_ 23), (1, u "jdk/internal/util/ArraysSupport"), (0, u "LOG2_ARRAY_LONG_INDEX_SCALE"), (0, u "I"), (2, u "U"), (0, u "Ljdk/internal/misc/Unsafe;"), (8, u "BIG_ENDIAN"), (0, u "Z"), (8, u "LOG2_BYTE_BIT_SIZE"), (4, u "LOG2_ARRAY_INT_INDEX_SCALE"), (54, u "JLA"), (0, u "Ljdk/internal/access/JavaLangAccess;"), (11, u "LOG2_ARRAY_BOOLEAN_INDEX_SCALE"), (9, u "LOG2_ARRAY_BYTE_INDEX_SCALE"), (5, u "LOG2_ARRAY_CHAR_INDEX_SCALE"), (5, u "LOG2_ARRAY_SHORT_INDEX_SCALE"), (18, u "LOG2_ARRAY_FLOAT_INDEX_SCALE"), (24, u "LOG2_ARRAY_DOUBLE_INDEX_SCALE"), (89, u "T_BOOLEAN"), (2, u "T_CHAR"), (1, u "T_FLOAT"), (1, u "T_DOUBLE"), (1, u "T_BYTE"), (1, u "T_SHORT"), (1, u "T_INT"), (1, u "T_LONG"), (1, u "SOFT_MAX_ARRAY_LENGTH")] 83

def k14m0 : Method := { name := "<init>", desc := "()V", sig := { parameters := [], returnType := none }, accessFlags := 2, code := none }
/-- jdk/internal/util/ArraysSupport -/
def k14 : Class := { plain "jdk/internal/util/ArraysSupport" (some 0) with
  accessFlags := 33
  interfaces := #[]
  cf := some (fileOf pool14 21 #[] #[{ accessFlags := 2, nameIndex := 9, descriptorIndex := 19, attributes := #[] }] 33 16 #[] #[{ accessFlags := 24, nameIndex := 28, descriptorIndex := 29, attributes := #[] }, { accessFlags := 26, nameIndex := 38, descriptorIndex := 39, attributes := #[] }, { accessFlags := 25, nameIndex := 121, descriptorIndex := 25, attributes := #[] }, { accessFlags := 25, nameIndex := 131, descriptorIndex := 25, attributes := #[] }, { accessFlags := 25, nameIndex := 137, descriptorIndex := 25, attributes := #[] }, { accessFlags := 25, nameIndex := 143, descriptorIndex := 25, attributes := #[] }, { accessFlags := 25, nameIndex := 53, descriptorIndex := 25, attributes := #[] }, { accessFlags := 25, nameIndex := 24, descriptorIndex := 25, attributes := #[] }, { accessFlags := 25, nameIndex := 162, descriptorIndex := 25, attributes := #[] }, { accessFlags := 25, nameIndex := 187, descriptorIndex := 25, attributes := #[] }, { accessFlags := 26, nameIndex := 48, descriptorIndex := 25, attributes := #[] }, { accessFlags := 25, nameIndex := 277, descriptorIndex := 25, attributes := #[] }, { accessFlags := 25, nameIndex := 280, descriptorIndex := 25, attributes := #[] }, { accessFlags := 25, nameIndex := 282, descriptorIndex := 25, attributes := #[] }, { accessFlags := 25, nameIndex := 284, descriptorIndex := 25, attributes := #[] }, { accessFlags := 25, nameIndex := 286, descriptorIndex := 25, attributes := #[] }, { accessFlags := 25, nameIndex := 288, descriptorIndex := 25, attributes := #[] }, { accessFlags := 25, nameIndex := 290, descriptorIndex := 25, attributes := #[] }, { accessFlags := 25, nameIndex := 292, descriptorIndex := 25, attributes := #[] }, { accessFlags := 26, nameIndex := 108, descriptorIndex := 109, attributes := #[] }, { accessFlags := 25, nameIndex := 294, descriptorIndex := 25, attributes := #[] }])
  fields := #[{ name := "U", type := (.object "jdk/internal/misc/Unsafe"), accessFlags := 24, slot := 0, constantValue := 0 }, { name := "BIG_ENDIAN", type := .boolean, accessFlags := 26, slot := 1, constantValue := 0 }, { name := "LOG2_ARRAY_BOOLEAN_INDEX_SCALE", type := .int, accessFlags := 25, slot := 2, constantValue := 0 }, { name := "LOG2_ARRAY_BYTE_INDEX_SCALE", type := .int, accessFlags := 25, slot := 3, constantValue := 0 }, { name := "LOG2_ARRAY_CHAR_INDEX_SCALE", type := .int, accessFlags := 25, slot := 4, constantValue := 0 }, { name := "LOG2_ARRAY_SHORT_INDEX_SCALE", type := .int, accessFlags := 25, slot := 5, constantValue := 0 }, { name := "LOG2_ARRAY_INT_INDEX_SCALE", type := .int, accessFlags := 25, slot := 6, constantValue := 0 }, { name := "LOG2_ARRAY_LONG_INDEX_SCALE", type := .int, accessFlags := 25, slot := 7, constantValue := 0 }, { name := "LOG2_ARRAY_FLOAT_INDEX_SCALE", type := .int, accessFlags := 25, slot := 8, constantValue := 0 }, { name := "LOG2_ARRAY_DOUBLE_INDEX_SCALE", type := .int, accessFlags := 25, slot := 9, constantValue := 0 }, { name := "LOG2_BYTE_BIT_SIZE", type := .int, accessFlags := 26, slot := 10, constantValue := 0 }, { name := "T_BOOLEAN", type := .int, accessFlags := 25, slot := 11, constantValue := 0 }, { name := "T_CHAR", type := .int, accessFlags := 25, slot := 12, constantValue := 0 }, { name := "T_FLOAT", type := .int, accessFlags := 25, slot := 13, constantValue := 0 }, { name := "T_DOUBLE", type := .int, accessFlags := 25, slot := 14, constantValue := 0 }, { name := "T_BYTE", type := .int, accessFlags := 25, slot := 15, constantValue := 0 }, { name := "T_SHORT", type := .int, accessFlags := 25, slot := 16, constantValue := 0 }, { name := "T_INT", type := .int, accessFlags := 25, slot := 17, constantValue := 0 }, { name := "T_LONG", type := .int, accessFlags := 25, slot := 18, constantValue := 0 }, { name := "JLA", type := (.object "jdk/internal/access/JavaLangAccess"), accessFlags := 26, slot := 19, constantValue := 0 }, { name := "SOFT_MAX_ARRAY_LENGTH", type := .int, accessFlags := 25, slot := 20, constantValue := 0 }]
  methods := #[k14m0]
  instanceTypes := #[]
  staticTypes := #[(.object "jdk/internal/misc/Unsafe"), .boolean, .int, .int, .int, .int, .int, .int, .int, .int, .int, .int, .int, .int, .int, .int, .int, .int, .int, (.object "jdk/internal/access/JavaLangAccess"), .int]
  resolved := Array.replicate 378 none
  statics := none }

def pool15 : Array CpInfo := pool [(1, u "java/lang/Cloneable"), (0, .class_ 1), (0, u "java/lang/Object"), (0, .class_ 3)] 3

/-- java/lang/Cloneable -/
def k15 : Class := { plain "java/lang/Cloneable" (some 0) with
  accessFlags := 1537
  interfaces := #[]
  cf := some (fileOf pool15 2 #[] #[] 1537 4 #[] #[])
  fields := #[]
  methods := #[]
  instanceTypes := #[]
  staticTypes := #[]
  resolved := Array.replicate 8 none
  statics := none }

/-- the primitive byte -/
def k16 : Class := { plain "byte" none with kind := .primitive 'B', accessFlags := 0x411 }
/-- [B -/
def k17 : Class := { plain "[B" (some 0) with kind := .array 16 .byte, interfaces := #[15, 2], accessFlags := 1041 }

/-- the primitive char -/
def k18 : Class := { plain "char" none with kind := .primitive 'C', accessFlags := 0x411 }
/-- [C -/
def k19 : Class := { plain "[C" (some 0) with kind := .array 18 .char, interfaces := #[15, 2], accessFlags := 1041 }

/-- the primitive int -/
def k20 : Class := { plain "int" none with kind := .primitive 'I', accessFlags := 0x411 }
/-- [I -/
def k21 : Class := { plain "[I" (some 0) with kind := .array 20 .int, interfaces := #[15, 2], accessFlags := 1041 }

def heap : Heap := #[{ cls := 7, slots := #[.long 0, .int 1, .null, .int 0, .null, .int 0, .int 0], vm := .statics 7 },
  { cls := 13, slots := #[.null, .null, .null], vm := .statics 13 }]
def classes : Array Class := #[k0, k1, k2, k3, k4, k5, k6, k7, k8, k9, k10, k11, k12, k13, k14, k15, k16, k17, k18, k19, k20, k21]
def interned : List (Array UInt16 × Addr) := []
def slotsUsed : Nat := 10
def theMethod : MethodId := ⟨1, 1⟩
def args0 : Array Value := #[.int 5, .int 6, .int 2, .int 3, .int 4]
def aboutOver (below : List Frame) : State where
  vm := { classes := classes, interned := interned.toArray }
  heap := heap
  slotsUsed := slotsUsed
  threads := #[{ frames := .invoking theMethod args0 :: below }]
def below0 : List Frame := [.native { method := ⟨0, 0⟩, args := #[] }]
def about1 : State := aboutOver below0
def p0 : Program := .bare "" "" ""
def e0 : Env := launch0.env 0 0 0
theorem w_frames : about1.frames = Frame.invoking theMethod args0 :: below0 := rfl
set_option maxRecDepth 65536 in
theorem w_args : argsFit about1.vm theMethod args0 = true := by decide +kernel
set_option maxRecDepth 65536 in
theorem w_heap : heapFits about1 = true := by decide +kernel
set_option maxRecDepth 65536 in
theorem w_runnable : about1.curStatus? = some .runnable := by decide +kernel
set_option maxRecDepth 65536 in
theorem w_alone : about1.alone = true := by decide +kernel
set_option maxRecDepth 65536 in
theorem w_named : about1.methodNamed? x = some theMethod := by decide +kernel
set_option maxRecDepth 65536 in
theorem w_hears : about1.hears theMethod below0 = true := by decide +kernel
set_option maxRecDepth 65536 in
theorem w_ripe : about1.ripe theMethod args0 below0 = true := by decide +kernel
theorem w_running : about1.status = .running := rfl
set_option maxRecDepth 65536 in
theorem w_room : about1.hasRoom e0.platform room_1 = true :=
  launch0.hasRoom_least _ room_1 (by decide +kernel) (by decide +kernel) (by decide +kernel) (by decide +kernel) (by decide +kernel) (by decide +kernel)
theorem allAtoms_all (ts : List Jvm.Cond) (a : Array Jvm.Value) (st : Jvm.State) : (allAtoms ts).before a st = ts.all (fun c => c.before a st) := by
  induction ts with
  | nil => rfl
  | cons c t ih =>
    show (Jvm.Cond.and c (allAtoms t)).before a st = _
    rw [Jvm.Cond.before_and, ih, List.all_cons]
def words1 : List Jvm.Cond := Jvm.Cond.code x code maxLocals ret :: tables_1
/-- a 'code' word, met by the world's own term for the bytes: nothing is compared byte by byte -/
theorem code_word {y : MethodName} {bytes : ByteArray} {mx : Nat} {rt : Option FieldType} {a : Array Value} {s : State} {m : MethodId} {meth : Method} {c : Code} (h1 : s.methodNamed? y = some m) (h2 : s.vm.method? m = some meth) (h3 : meth.code = some c) (h4 : c.code = bytes)
    (h5 : (c.maxLocals == mx && c.exceptionTable.isEmpty && decide (c.maxStack ≤ mostOperands) && decide (meth.sig.returnType = rt) && !meth.locks && decide (parseMethodDescriptor y.desc = some meth.sig)) = true) : (Jvm.Cond.code y bytes mx rt).before a s = true := by
  simp only [Bool.and_eq_true, beq_iff_eq, Bool.not_eq_true', decide_eq_true_eq] at h5
  obtain ⟨⟨⟨⟨⟨g1, g2⟩, g3⟩, g4⟩, g5⟩, g6⟩ := h5
  simp [Cond.before, Cond.holds, Cond.value, h1, h2, h3, h4, g1, g2, g3, g4, g5, g6]
def isCode : Jvm.Cond → Bool
  | .code _ _ _ _ => true
  | _ => false
theorem all_split {L : List Jvm.Cond} {P : Jvm.Cond → Bool} (h1 : L.all (fun c => isCode c || P c) = true) (h2 : ∀ c ∈ L.filter isCode, P c = true) : L.all P = true := by
  refine List.all_eq_true.mpr fun c hc => ?_
  have h := List.all_eq_true.mp h1 c hc
  rcases Bool.eq_false_or_eq_true (isCode c) with hi | hi
  · exact h2 c (List.mem_filter.mpr ⟨hc, hi⟩)
  · simpa [hi] using h
set_option maxRecDepth 65536 in
theorem w_c0 : (Jvm.Cond.code x code maxLocals ret).before args0 about1 = true := code_word (m := ⟨1, 1⟩) (meth := k1m1) (c := k1c1) (by decide +kernel) rfl rfl rfl (by decide +kernel)
set_option maxRecDepth 65536 in
theorem w_c1 : (Jvm.Cond.code ({ cls := "com/example/foretell/foretell/core/ModelValueEqualsPinLaw", name := "name", desc := "(II)Ljava/lang/String;" } : Jvm.MethodName) method_4_code (2 : Nat) (Option.some (Jvm.ClassFile.FieldType.object "java/lang/String"))).before args0 about1 = true := code_word (m := ⟨1, 3⟩) (meth := k1m3) (c := k1c3) (by decide +kernel) rfl rfl rfl (by decide +kernel)
set_option maxRecDepth 65536 in
theorem w_c2 : (Jvm.Cond.code ({ cls := "java/lang/String", name := "<init>", desc := "([C)V" } : Jvm.MethodName) jdk_42_method_3_code (2 : Nat) (Option.none : Option Jvm.ClassFile.FieldType)).before args0 about1 = true := code_word (m := ⟨7, 1⟩) (meth := k7m1) (c := k7c1) (by decide +kernel) rfl rfl rfl (by decide +kernel)
set_option maxRecDepth 65536 in
theorem w_c3 : (Jvm.Cond.code ({ cls := "java/lang/String", name := "<init>", desc := "([CIILjava/lang/Void;)V" } : Jvm.MethodName) jdk_42_method_149_code (6 : Nat) (Option.none : Option Jvm.ClassFile.FieldType)).before args0 about1 = true := code_word (m := ⟨7, 3⟩) (meth := k7m3) (c := k7c3) (by decide +kernel) rfl rfl rfl (by decide +kernel)
set_option maxRecDepth 65536 in
theorem w_c4 : (Jvm.Cond.code ({ cls := "java/lang/Object", name := "<init>", desc := "()V" } : Jvm.MethodName) object_method_1_code (1 : Nat) (Option.none : Option Jvm.ClassFile.FieldType)).before args0 about1 = true := code_word (m := ⟨0, 0⟩) (meth := k0m0) (c := k0c0) (by decide +kernel) rfl rfl rfl (by decide +kernel)
set_option maxRecDepth 65536 in
theorem w_c5 : (Jvm.Cond.code ({ cls := "com/example/foretell/foretell/core/ModelValueEqualsPinLaw", name := "ch", desc := "(II)C" } : Jvm.MethodName) method_3_code (2 : Nat) (Option.some Jvm.ClassFile.FieldType.char)).before args0 about1 = true := code_word (m := ⟨1, 2⟩) (meth := k1m2) (c := k1c2) (by decide +kernel) rfl rfl rfl (by decide +kernel)
set_option maxRecDepth 65536 in
theorem w_c6 : (Jvm.Cond.code ({ cls := "java/lang/StringUTF16", name := "compress", desc := "([CII)[B" } : Jvm.MethodName) jdk_52_method_16_code (6 : Nat) (Option.some (Jvm.ClassFile.FieldType.array Jvm.ClassFile.FieldType.byte))).before args0 about1 = true := code_word (m := ⟨8, 2⟩) (meth := k8m2) (c := k8c2) (by decide +kernel) rfl rfl rfl (by decide +kernel)
set_option maxRecDepth 65536 in
theorem w_c7 : (Jvm.Cond.code ({ cls := "java/lang/StringUTF16", name := "compress", desc := "([CI[BII)I" } : Jvm.MethodName) jdk_52_method_21_code (7 : Nat) (Option.some Jvm.ClassFile.FieldType.int)).before args0 about1 = true := code_word (m := ⟨8, 3⟩) (meth := k8m3) (c := k8c3) (by decide +kernel) rfl rfl rfl (by decide +kernel)
set_option maxRecDepth 65536 in
theorem w_c8 : (Jvm.Cond.code ({ cls := "java/lang/StringUTF16", name := "coderFromArrayLen", desc := "([BI)B" } : Jvm.MethodName) jdk_52_method_15_code (2 : Nat) (Option.some Jvm.ClassFile.FieldType.byte)).before args0 about1 = true := code_word (m := ⟨8, 1⟩) (meth := k8m1) (c := k8c1) (by decide +kernel) rfl rfl rfl (by decide +kernel)
set_option maxRecDepth 65536 in
theorem w_c9 : (Jvm.Cond.code ({ cls := "com/example/foretell/foretell/core/ModelValue", name := "<init>", desc := "(Ljava/lang/String;)V" } : Jvm.MethodName) prog_82_method_1_code (2 : Nat) (Option.none : Option Jvm.ClassFile.FieldType)).before args0 about1 = true := code_word (m := ⟨10, 0⟩) (meth := k10m0) (c := k10c0) (by decide +kernel) rfl rfl rfl (by decide +kernel)
set_option maxRecDepth 65536 in
theorem w_c10 : (Jvm.Cond.code ({ cls := "com/example/foretell/foretell/core/Value", name := "<init>", desc := "()V" } : Jvm.MethodName) prog_195_method_1_code (1 : Nat) (Option.none : Option Jvm.ClassFile.FieldType)).before args0 about1 = true := code_word (m := ⟨9, 0⟩) (meth := k9m0) (c := k9c0) (by decide +kernel) rfl rfl rfl (by decide +kernel)
set_option maxRecDepth 65536 in
theorem w_c11 : (Jvm.Cond.code ({ cls := "com/example/foretell/foretell/core/ModelValueEqualsPinLaw", name := "same", desc := "(IIII)Z" } : Jvm.MethodName) method_5_code (4 : Nat) (Option.some Jvm.ClassFile.FieldType.boolean)).before args0 about1 = true := code_word (m := ⟨1, 4⟩) (meth := k1m4) (c := k1c4) (by decide +kernel) rfl rfl rfl (by decide +kernel)
set_option maxRecDepth 65536 in
theorem w_c12 : (Jvm.Cond.code ({ cls := "com/example/foretell/foretell/core/ModelValue", name := "equals", desc := "(Ljava/lang/Object;)Z" } : Jvm.MethodName) prog_82_method_4_code (3 : Nat) (Option.some Jvm.ClassFile.FieldType.boolean)).before args0 about1 = true := code_word (m := ⟨10, 1⟩) (meth := k10m1) (c := k10c1) (by decide +kernel) rfl rfl rfl (by decide +kernel)
set_option maxRecDepth 65536 in
theorem w_c13 : (Jvm.Cond.code ({ cls := "java/lang/String", name := "equals", desc := "(Ljava/lang/Object;)Z" } : Jvm.MethodName) jdk_42_method_66_code (3 : Nat) (Option.some Jvm.ClassFile.FieldType.boolean)).before args0 about1 = true := code_word (m := ⟨7, 2⟩) (meth := k7m2) (c := k7c2) (by decide +kernel) rfl rfl rfl (by decide +kernel)
set_option maxRecDepth 65536 in
theorem w_c14 : (Jvm.Cond.code ({ cls := "java/lang/StringLatin1", name := "equals", desc := "([B[B)Z" } : Jvm.MethodName) jdk_43_method_13_code (3 : Nat) (Option.some Jvm.ClassFile.FieldType.boolean)).before args0 about1 = true := code_word (m := ⟨11, 1⟩) (meth := k11m1) (c := k11c1) (by decide +kernel) rfl rfl rfl (by decide +kernel)
set_option maxRecDepth 65536 in
theorem w_c15 : (Jvm.Cond.code ({ cls := "com/example/foretell/foretell/core/StringValue", name := "<init>", desc := "(Ljava/lang/String;)V" } : Jvm.MethodName) prog_132_method_1_code (2 : Nat) (Option.none : Option Jvm.ClassFile.FieldType)).before args0 about1 = true := code_word (m := ⟨12, 0⟩) (meth := k12m0) (c := k12c0) (by decide +kernel) rfl rfl rfl (by decide +kernel)
def codes1 : List Jvm.Cond := [Jvm.Cond.code x code maxLocals ret, Jvm.Cond.code ({ cls := "com/example/foretell/foretell/core/ModelValueEqualsPinLaw", name := "name", desc := "(II)Ljava/lang/String;" } : Jvm.MethodName) method_4_code (2 : Nat) (Option.some (Jvm.ClassFile.FieldType.object "java/lang/String")), Jvm.Cond.code ({ cls := "java/lang/String", name := "<init>", desc := "([C)V" } : Jvm.MethodName) jdk_42_method_3_code (2 : Nat) (Option.none : Option Jvm.ClassFile.FieldType), Jvm.Cond.code ({ cls := "java/lang/String", name := "<init>", desc := "([CIILjava/lang/Void;)V" } : Jvm.MethodName) jdk_42_method_149_code (6 : Nat) (Option.none : Option Jvm.ClassFile.FieldType), Jvm.Cond.code ({ cls := "java/lang/Object", name := "<init>", desc := "()V" } : Jvm.MethodName) object_method_1_code (1 : Nat) (Option.none : Option Jvm.ClassFile.FieldType), Jvm.Cond.code ({ cls := "com/example/foretell/foretell/core/ModelValueEqualsPinLaw", name := "ch", desc := "(II)C" } : Jvm.MethodName) method_3_code (2 : Nat) (Option.some Jvm.ClassFile.FieldType.char), Jvm.Cond.code ({ cls := "java/lang/StringUTF16", name := "compress", desc := "([CII)[B" } : Jvm.MethodName) jdk_52_method_16_code (6 : Nat) (Option.some (Jvm.ClassFile.FieldType.array Jvm.ClassFile.FieldType.byte)), Jvm.Cond.code ({ cls := "java/lang/StringUTF16", name := "compress", desc := "([CI[BII)I" } : Jvm.MethodName) jdk_52_method_21_code (7 : Nat) (Option.some Jvm.ClassFile.FieldType.int), Jvm.Cond.code ({ cls := "java/lang/StringUTF16", name := "coderFromArrayLen", desc := "([BI)B" } : Jvm.MethodName) jdk_52_method_15_code (2 : Nat) (Option.some Jvm.ClassFile.FieldType.byte), Jvm.Cond.code ({ cls := "com/example/foretell/foretell/core/ModelValue", name := "<init>", desc := "(Ljava/lang/String;)V" } : Jvm.MethodName) prog_82_method_1_code (2 : Nat) (Option.none : Option Jvm.ClassFile.FieldType), Jvm.Cond.code ({ cls := "com/example/foretell/foretell/core/Value", name := "<init>", desc := "()V" } : Jvm.MethodName) prog_195_method_1_code (1 : Nat) (Option.none : Option Jvm.ClassFile.FieldType), Jvm.Cond.code ({ cls := "com/example/foretell/foretell/core/ModelValueEqualsPinLaw", name := "same", desc := "(IIII)Z" } : Jvm.MethodName) method_5_code (4 : Nat) (Option.some Jvm.ClassFile.FieldType.boolean), Jvm.Cond.code ({ cls := "com/example/foretell/foretell/core/ModelValue", name := "equals", desc := "(Ljava/lang/Object;)Z" } : Jvm.MethodName) prog_82_method_4_code (3 : Nat) (Option.some Jvm.ClassFile.FieldType.boolean), Jvm.Cond.code ({ cls := "java/lang/String", name := "equals", desc := "(Ljava/lang/Object;)Z" } : Jvm.MethodName) jdk_42_method_66_code (3 : Nat) (Option.some Jvm.ClassFile.FieldType.boolean), Jvm.Cond.code ({ cls := "java/lang/StringLatin1", name := "equals", desc := "([B[B)Z" } : Jvm.MethodName) jdk_43_method_13_code (3 : Nat) (Option.some Jvm.ClassFile.FieldType.boolean), Jvm.Cond.code ({ cls := "com/example/foretell/foretell/core/StringValue", name := "<init>", desc := "(Ljava/lang/String;)V" } : Jvm.MethodName) prog_132_method_1_code (2 : Nat) (Option.none : Option Jvm.ClassFile.FieldType)]
set_option maxRecDepth 65536 in
theorem codes_eq : words1.filter isCode = codes1 := rfl
theorem w_codes : ∀ c ∈ words1.filter isCode, c.before args0 about1 = true := by
  rw [codes_eq]
  intro c hc
  simp only [codes1, List.mem_cons, List.not_mem_nil, or_false] at hc
  rcases hc with rfl | rfl | rfl | rfl | rfl | rfl | rfl | rfl | rfl | rfl | rfl | rfl | rfl | rfl | rfl | rfl
  · exact w_c0
  · exact w_c1
  · exact w_c2
  · exact w_c3
  · exact w_c4
  · exact w_c5
  · exact w_c6
  · exact w_c7
  · exact w_c8
  · exact w_c9
  · exact w_c10
  · exact w_c11
  · exact w_c12
  · exact w_c13
  · exact w_c14
  · exact w_c15
set_option maxRecDepth 65536 in
theorem w_t1 : (words1.take 24).all (fun c => isCode c || c.before args0 about1) = true := by decide +kernel
set_option maxRecDepth 65536 in
theorem w_t2 : ((words1.drop 24).take 24).all (fun c => isCode c || c.before args0 about1) = true := by decide +kernel
set_option maxRecDepth 65536 in
theorem w_t3 : (((words1.drop 24).drop 24).take 24).all (fun c => isCode c || c.before args0 about1) = true := by decide +kernel
set_option maxRecDepth 65536 in
theorem w_t4 : (((words1.drop 24).drop 24).drop 24).all (fun c => isCode c || c.before args0 about1) = true := by decide +kernel
theorem w_tables : (allAtoms (Jvm.Cond.code x code maxLocals ret :: tables_1)).before args0 about1 = true := by
  rw [allAtoms_all]
  show words1.all (fun c => c.before args0 about1) = true
  refine all_split ?_ w_codes
  rw [← List.take_append_drop 24 words1, List.all_append, w_t1, ← List.take_append_drop 24 (words1.drop 24), List.all_append, w_t2, ← List.take_append_drop 24 ((words1.drop 24).drop 24), List.all_append, w_t3, w_t4]
  rfl
set_option maxRecDepth 65536 in
theorem w_rest : rest_1_c.before args0 about1 = true := by decide +kernel
set_option maxRecDepth 65536 in
theorem w_case : (Jvm.Cond.and given_1 narrow_1).before args0 about1 = true := by decide +kernel
set_option maxRecDepth 65536 in
theorem w_consts : constsHeld consts_1 about1 := Jvm.Lit.constsHeldB_iff.mp (by decide +kernel)
theorem w_applies : (headSpec (Jvm.Cond.code x code maxLocals ret :: tables_1) room_1).applies x e0.platform about1 = true :=
  (Spec.applies_iff w_frames).mpr ⟨w_running, w_runnable, w_alone, w_named, w_hears, w_ripe, w_room, w_tables⟩
theorem atStart : AtStart classFile x code maxLocals ret World_1 tables_1 room_1 Calls_1 rest_1 Pre_1 launch0 p0 e0 about1 theMethod args0 below0 :=
  ⟨lists_1, trivial, launch0.admits_env _ _ _, launch0.least_env, fairChoices_fair.cas, fairChoices_fair.clock, w_frames, w_args, w_heap, w_applies, ⟨w_consts, trivial⟩, w_rest, w_case⟩
end start1
theorem witness_1 : WitnessClaimed_1 := ⟨start1.p0, start1.e0, start1.about1, start1.theMethod, start1.args0, start1.below0, start1.atStart⟩
end Jvm.Pilot.@@N@@
