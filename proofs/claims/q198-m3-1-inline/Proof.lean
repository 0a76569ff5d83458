import JvmDerived
import JvmDerived.Pilot.@@N@@Statement
import JvmDerived.Pilot.@@N@@Code
@@BLOCK:TracedD.lean.txt@@
set_option linter.unusedVariables false
set_option linter.unusedSimpArgs false
namespace Jvm.RoadKit
open Sem ClassFile Op Lib Jvm.Stand Jvm.Free Jvm.LawKit
section New
variable {p : Program} {l : Launch} {e : Env} {R : Room} {s : State} {m : MethodId} {args : Array Value} {below : List Frame} {meth : Method} {c : Code} {T : State} {locs : List Loc} {cells slots : Nat}
theorem retI (X : Stand p l e R s m args below meth c T locs cells slots) (hx : p.tables.exec = Jvm.exec) {pc : Nat} {Ls : Array Slot} {z : Int32} {rest : List Value} (hret : meth.sig.returnType = some .int) (hd : decode c.code pc = .ok (.ireturn, 1)) {fs : List Frame}
    (hl : ∀ (f : JFrame) (acts : List Action), f.method = m → f.locked = none → f.entered = [] → (doReturn e (T.setTop f) acts (some (.int z))).1 = T.setFrames fs) : Steps p.tables e below (T.setTop (mkF m pc Ls (.int z :: rest))) (T.setFrames fs) := by
  have hm' : T.vm.method? m = some meth := X.method'
  have hn : narrow .int (.int z) = .int z := rfl
  show Steps p.tables e below (T.setTop { method := m, pc := pc, locals := Ls, stack := _ :: rest, locked := none }) _
  jvm_step X.here [X.here.top, hx, hd, hm', hret, hn]
  first | (intro acts; rw [hl _ acts rfl rfl rfl]) | rw [hl _ _ rfl rfl rfl]
  exact Steps.refl _
end New
end Jvm.RoadKit

namespace Jvm.Pilot.@@N@@
open Jvm Jvm.ClassFile Sem Op Lib Jvm.Free Jvm.Stand Jvm.LawKit Jvm.RoadKit Bundle Jvm.Pilot.@@N@@.Jvm.D
theorem own_w {a0 : Array Value} {Z : State} (hw : ∀ d ∈ tables_1, d.before a0 Z = true) {d : Jvm.Cond} (i : Nat) (h : tables_1[i]? = some d) : d.before a0 Z = true := hw d (List.mem_of_getElem? h)
abbrev Sp (p : Program) (e : Env) (b : List Frame) (T : State) (g : JFrame) (t : State) : Prop := Steps p.tables e b (T.setTop g) t
theorem own_le {Z : State} {n0 : Nat} {h : Heap} (O : Old Z n0 h) : n0 ≤ h.size := O.1 ▸ O.2.1
theorem own_narb {c : Prop} [Decidable c] : nar .boolean (if c then (1 : Int32) else 0) = if c then (1 : Int32) else 0 := by split <;> rfl
theorem own_narb' {c : Prop} [Decidable c] : nar .boolean (if c then (0 : Int32) else 1) = if c then (0 : Int32) else 1 := by split <;> rfl
theorem own_eqc {t : Term} {k : Int32} {a0 : Array Value} {Z : State} (h : (Jvm.Cond.eq t (.int k)).value a0 Z none Z [] = some true) : t.eval a0 Z none [] Z = some (.int k) := by
  obtain ⟨x, y, e1, e2, k1, -⟩ := cmp_v (Or.inl h)
  obtain rfl : Value.int k = y := Option.some.inj ((Term.int_eval k).symm.trans e2)
  cases x <;> simp [Kin, Value.isRef] at k1
  simp [Jvm.Cond.value, e1, Term.int_eval] at h
  rw [e1, h]

theorem own_IBw {Z s : State} {vm0 vm : Vm} {Ts : List String} (I : IB Z vm0 Ts) (h : (s.setVm vm0).WarmedH vm) : IB Z vm Ts := by
  obtain ⟨more, h1, h2⟩ := I
  exact ⟨more, h.interned_eq.trans h1, h2⟩
theorem own_sa {a0 : Array Value} {Z : State} (hw : ∀ d ∈ tables_1, d.before a0 Z = true) : ∀ d ∈ Bundle.stringAtoms, d.before a0 Z = true := fun d hd => hw d ((by decide +kernel : ∀ d ∈ Bundle.stringAtoms, d ∈ tables_1) d hd)
theorem own_backS {p : Program} {l : Launch} {e : Env} {R : Room} {s : State} {args : Array Value} {below : List Frame} {Z : State} {a0 : Array Value} {h : Heap} {y : MethodName} {bytes : ByteArray} {maxL : Nat} {ret : Option FieldType} {rm : Room} {len W : Nat} {as' : Array Value} {PV : Vm → Prop} {Q : Option Value → Vm → Heap → List Loc → Prop}
    (hM : MetFree l y (head1 [Jvm.Cond.code y bytes maxL ret] rm) (fun a U => a = as' ∧ Z.Warmed39 U.vm ∧ U.heap = h ∧ PV U.vm) (fun _ _ _ _ _ => True) (fun _ U o U' => ∃ v L, o = .returned v ∧ Q v U'.vm U'.heap L ∧ ReturnedEndW U o U' L rm.cells rm.slots))
    (hZ : Z.Warmed39 s.vm) (wc : (Jvm.Cond.code y bytes maxL ret).before a0 Z = true) (wz : (Jvm.Cond.initialized y.cls).before a0 Z = true) (hf : rm.frames + 1 ≤ R.frames) (hl : W + (maxL + 11) + rm.locals ≤ R.locals) (hPV : ∀ vm, s.WarmedH vm → PV vm) :
    BackS l R p e below s args y len W (fun A a => a = as' ∧ A.U.heap = h ∧ A.cells + rm.cells ≤ R.cells ∧ A.slots + rm.slots ≤ R.slots)
      (fun A _ v B => ∃ L, Q v B.U.vm B.U.heap L ∧ B.locs = A.locs ++ L ∧ B.cells = A.cells + rm.cells ∧ B.slots = A.slots + rm.slots) :=
  BackS.of_freeW (bytes := bytes) (maxL := maxL) (ret := ret) (E := fun _ _ o t L k n => k = rm.cells ∧ n = rm.slots ∧ ∃ v, o = .returned v ∧ Q v t.vm t.heap L) hM hf hl
    (fun m meth c A a Y hp => have hU : Z.Warmed39 A.U.vm := wtrans hZ Y.warmed
      ⟨by show (Cond.and _ .tt).before a A.U = true; rw [Cond.before_and, mv hU wc]; rfl, mv hU wc, mv hU wz, hp.2.2.1, hp.2.2.2⟩)
    (fun m meth c A a g mk Y hp => ⟨hp.1, wtrans hZ Y.warmed, hp.2.1, hPV _ Y.warmed⟩) (fun _ _ _ _ _ _ _ _ _ => trivial)
    (fun _ _ _ _ ⟨v, L, h1, h2, h3⟩ => ⟨L, _, _, h3, rfl, rfl, v, h1, h2⟩)
    (fun m meth c A a g mk v t L k n Y hp _ _ ⟨e1, e2, v', e3, e4⟩ => by cases e3; subst e1 e2; exact ⟨L, e4, rfl, rfl, rfl⟩)

theorem own_selP {s : State} {args : Array Value} {y : MethodName} {K : String} (hsel : (Jvm.Cond.selects K y y).before args s = true) (hpriv : (Jvm.Cond.privateMethod y).before args s = true) (hinst : (Jvm.Cond.instanceMethod y).before args s = true) (hy : y.cls ≠ "java/lang/invoke/MethodHandle" ∧ y.cls ≠ "java/lang/invoke/VarHandle") : (Jvm.Cond.selects y.cls y y).before args s = true := by
  obtain ⟨mk, methM, hnamed, hmethM, -, -⟩ := Cond.instanceMethod_spec hinst
  obtain ⟨kr, h1, h2⟩ := notFace_of_selects hsel mk hnamed
  exact selects_self_of_private (findClass_of_methodNamed hnamed) h1 h2 (Cond.privateMethod_at hpriv) hinst hy
theorem own_nost {cell : Cell} (h : cell.vm.isStatics = false) : ∀ q, cell.vm ≠ .statics q := fun q e => by rw [e] at h; cases h
theorem own_hl {vd : List Value} {m n r : Nat} {dv : Value} (hd : m = vd.length) (hn : n ≤ r) : m + n ≤ (vd ++ List.replicate r dv).length := by simp; omega
theorem own_cat {vd vs : List Value} {dv : Value} {r m n : Nat} (hd : m = vd.length) (hn : vs.length ≤ n) (i : Nat) : (vd ++ vs).getD i dv = ((vd ++ List.replicate r dv).take m ++ (List.range n).map (fun i => vs.getD (0 + i) dv) ++ (vd ++ List.replicate r dv).drop (m + n)).getD i dv := by
  subst hd
  have e : (List.range n).map (fun i => vs.getD (0 + i) dv) = vs ++ List.replicate (n - vs.length) dv := by
    apply List.ext_getElem
    · simp; omega
    · intro j h1 h2
      simp only [List.getElem_map, List.getElem_range, Nat.zero_add]
      by_cases q : j < vs.length
      · rw [List.getElem_append_left q, List.getD_eq_getElem?_getD, List.getElem?_eq_getElem q]; rfl
      · rw [List.getElem_append_right (Nat.le_of_not_lt q), List.getD_eq_getElem?_getD, List.getElem?_eq_none (Nat.le_of_not_lt q)]; simp
  rw [e, List.take_left, Nat.add_comm, ← List.drop_drop]
  have d : ((vd ++ List.replicate r dv).drop n).drop vd.length = List.replicate (r - n) dv := by
    rw [List.drop_drop, Nat.add_comm, ← List.drop_drop, List.drop_left, List.drop_replicate]
  rw [d, List.append_assoc, List.append_assoc, List.replicate_append_replicate, ← List.append_assoc]
  exact (pad_rep _ _ _ _).symm
theorem own_cat0 {vs : List Value} {dv : Value} {r m n : Nat} (hd : m = ([] : List Value).length) (hn : vs.length ≤ n) (i : Nat) : vs.getD i dv = (([] ++ List.replicate r dv).take m ++ (List.range n).map (fun i => vs.getD (0 + i) dv) ++ ([] ++ List.replicate r dv).drop (m + n)).getD i dv := own_cat hd hn i
theorem own_same {s : State} {args : Array Value} {y y' : MethodName} {K : String} (hsel : (Jvm.Cond.selects K y' y').before args s = true) (hinst' : (Jvm.Cond.instanceMethod y').before args s = true) (hc' : y'.cls = y.cls) (hinst : (Jvm.Cond.instanceMethod y).before args s = true) (hy : y.cls ≠ "java/lang/invoke/MethodHandle" ∧ y.cls ≠ "java/lang/invoke/VarHandle") : (Jvm.Cond.sameMethod y.cls y.cls y.name y.desc).before args s = true := by
  obtain ⟨mk, methM, hnamed, hmethM, -, -⟩ := Cond.instanceMethod_spec hinst
  obtain ⟨mk', methM', hnamed', hmethM', -, -⟩ := Cond.instanceMethod_spec hinst'
  have hfound : s.methodFound? y.cls y.name y.desc = some mk := State.methodFound?_of_named hnamed hy
  have hc := findClass_of_methodNamed hnamed
  have hd := findClass_of_methodNamed hnamed'
  rw [hc', hc] at hd
  obtain ⟨kr, h1, h2⟩ := notFace_of_selects hsel mk' hnamed'
  rw [← Option.some.inj hd] at h1
  simp only [Cond.before, Cond.holds, Cond.value, hc, hfound, hnamed]
  simp [h1, h2]
theorem own_sub0 (x : Int32) : (x - (0 : Int32)) = x := by simp
theorem own_nf {s : State} {args : Array Value} {y y' : MethodName} {K : String} (hsel : (Jvm.Cond.selects K y' y').before args s = true) (hinst' : (Jvm.Cond.instanceMethod y').before args s = true) (hc' : y'.cls = y.cls) : NotFace s y := fun r0 hn => by
  obtain ⟨mk', methM', hnamed', -, -, -⟩ := Cond.instanceMethod_spec hinst'
  have hc := findClass_of_methodNamed hn
  have hd := findClass_of_methodNamed hnamed'
  rw [hc', hc] at hd
  obtain ⟨kr, h1, h2⟩ := notFace_of_selects hsel mk' hnamed'
  rw [← Option.some.inj hd] at h1
  exact ⟨kr, h1, h2⟩
theorem own_set {ls : List Value} {dv v : Value} : (ls ++ List.replicate 1 dv).set ls.length v = ls ++ [v] := by simp
theorem own_nb (x : Int32) : nar .byte (x.toInt8.toInt32) = x.toInt8.toInt32 := by simp [nar]
def own_lo (x : Int32) : Int32 := (x >>> ((0 : Int32) &&& 31)).toInt8.toInt32
def own_hi (x : Int32) : Int32 := (x >>> ((8 : Int32) &&& 31)).toInt8.toInt32
theorem own_two (ls : List Value) (x y : Value) : (ls ++ [x]) ++ [y] = ls ++ [x, y] := by simp
theorem own_onI {n : Nat} (h : n < 2000) : (Int32.ofNat n).toInt = n := Int32.toInt_ofNat_small (by omega)
theorem own_onN {n : Nat} (h : n < 2000) : (Int32.ofNat n).toNatClampNeg = n := by
  show (Int32.ofNat n).toInt.toNat = n
  rw [own_onI h]; exact Int.toNat_natCast n
theorem own_on2 {n : Nat} (h : n < 2000) : (Int32.ofNat n <<< ((1 : Int32) &&& 31)) = Int32.ofNat (2 * n) := by
  apply Int32.toInt_inj.mp
  have a := c_ishl (Int32.ofNat n) (1 : Int32) 1 (by decide)
  have r := rng32 (Int32.ofNat n <<< ((1 : Int32) &&& 31))
  rw [own_onI h] at a
  rw [Int32.toInt_ofNat_small (by omega)]
  omega
theorem own_on1 {n : Nat} (h : n < 2000) : Int32.ofNat n + (1 : Int32) = Int32.ofNat (n + 1) := by
  apply Int32.toInt_inj.mp
  have a := c_iadd (Int32.ofNat n) (1 : Int32)
  have e : (1 : Int32).toInt = 1 := rfl
  have r := rng32 (Int32.ofNat n + (1 : Int32))
  rw [own_onI h, e] at a
  rw [Int32.toInt_ofNat_small (by omega)]
  omega
theorem own_onlt {a b : Nat} (ha : a < 2000) (hb : b < 2000) : (Int32.ofNat a < Int32.ofNat b) = (a < b) := by
  rw [Int32.lt_iff_toInt_lt, own_onI ha, own_onI hb]; exact propext Int.ofNat_lt
theorem own_on0 {a : Nat} (ha : a < 2000) : ¬ Int32.ofNat a < 0 := by
  rw [Int32.lt_iff_toInt_lt, own_onI ha]; exact Int.not_lt.mpr (Int.natCast_nonneg a)
def own_inf (xs : List Int32) : List Value := xs.flatMap fun x => [(.int (own_lo (x &&& (255 : Int32)))), (.int (own_hi (x &&& (255 : Int32))))]
theorem own_infl (xs : List Int32) : (own_inf xs).length = 2 * xs.length := by
  induction xs with
  | nil => rfl
  | cons x xs ih => simp [own_inf] at ih ⊢; omega
theorem own_infs (xs : List Int32) (x : Int32) : own_inf (xs ++ [x]) = own_inf xs ++ [(.int (own_lo (x &&& (255 : Int32)))), (.int (own_hi (x &&& (255 : Int32))))] := by simp [own_inf]
theorem own_midd (ds rs : List Int32) (r : Int32) (dv : Value) : ((ds ++ r :: rs).map Value.int).getD ds.length dv = .int r := by simp

abbrev Rm (f c s l : Nat) : Room := { frames := f, cells := c, slots := s, locals := l }
abbrev Dk (b : ByteArray) (n : Nat) (i : Instr) (l : Nat) : Prop := decode b n = .ok (i, l)
abbrev Pr (p : Program) (e : Env) (b : List Frame) (E0 T : State) (g : JFrame) : Prop := ∀ t, Steps p.tables e b (T.setTop g) t → Steps p.tables e b E0 t
abbrev Gl (p : Program) (e : Env) (b : List Frame) (s E0 : State) (P : Option Value → Heap → List Loc → Prop) (rc rs : Nat) : Prop := ∃ s₂ o, Steps p.tables e b E0 s₂ ∧ s₂.status = .running ∧ Ended s₂ b o ∧ ∃ v L, o = .returned v ∧ P v s₂.heap L ∧ FrameEnd s o s₂ L rc rs
abbrev Met (l : Launch) (Z : State) (y : MethodName) (cd : ByteArray) (ml : Nat) (rt : Option FieldType) (rm : Room) (as' : Array Value) (h0 : Heap) (Q : Option Value → Heap → List Loc → Prop) : Prop := MetFree l y (head1 [Jvm.Cond.code y cd ml rt] rm) (fun a U => a = as' ∧ Z.Warmed39 U.vm ∧ U.heap = h0) (fun _ _ _ _ _ => True) (fun _ U o U' => ∃ v L, o = .returned v ∧ Q v U'.heap L ∧ FrameEnd U o U' L rm.cells rm.slots)
abbrev Kx (p : Program) (s Z : State) (m : MethodId) (c : Code) (own : String) (cd : ByteArray) (ml : Nat) : Prop := p.tables.exec = Jvm.exec ∧ Z.Warmed39 s.vm ∧ s.vm.findClass own = some m.cls ∧ c.code = cd ∧ c.maxLocals = ml
abbrev Av (Z : State) (h : Heap) (b : Addr) (k : ClassId) (n : Int32) (ls : List Value) : Prop := Arv Z h b k .byte n ls (.int (0 : Int32))
theorem own_met {l : Launch} {Z : State} {y : MethodName} {cd : ByteArray} {ml : Nat} {rt : Option FieldType} {rm : Room} {as' : Array Value} {h0 : Heap} {Q : Option Value → Heap → List Loc → Prop} {own : String} {G : MethodId → JFrame} (ho : y.cls = own) (hp : plainFor y = true)
    (H : ∀ (p : Program) (e : Env) (s : State) (m : MethodId) (below : List Frame) (meth : Method) (c : Code) (s₁ E0 : State) (P : Option Value → Heap → List Loc → Prop), (∀ v h L, Q v h L → P v h L) → Kx p s Z m c own cd ml → meth.name = y.name → meth.sig.returnType = rt → meth.locks = false → s.heap = h0 → Stand p l e rm s m as' below meth c s₁ [] 0 0 → s₁.heap = h0 → Pr p e below E0 s₁ (G m) → Gl p e below s E0 P rm.cells rm.slots) (ef : ∀ m, entryFrame m as' ml = G m := by intro m; first | (simp [entryFrame, mkF, argsToLocals, Value.category, maxLocals]; done) | rfl) : Met l Z y cd ml rt rm as' h0 Q := by
  refine MetFree.of_bodySF hp hisR ?_
  intro p e s m args below meth c s₁ Bd hml0 hP hK
  obtain ⟨rfl, hZ, hh⟩ := hP
  subst ho
  exact H p e s m below meth c s₁ _ Q (fun _ _ _ q => q) ⟨Bd.exec, hZ, findClass_of_methodNamed Bd.named, Bd.bytes, hml0⟩ (name_of_methodNamed Bd.named Bd.method).1 Bd.returns Bd.notSynchronized hh (Stand.of_body Bd) (by rw [← hh, Bd.state]; rfl) (fun t k => castTop (ef m) k)
section Wr
variable {p : Program} {l : Launch} {e : Env} {R : Room} {s Z : State} {m : MethodId} {args : Array Value} {below : List Frame} {meth : Method} {c : Code} {T E0 t : State} {locs : List Loc} {cells slots : Nat} {own : String} {cd : ByteArray} {ml : Nat} {g : JFrame} {h : Heap} {a0 : Array Value} {P : Option Value → Heap → List Loc → Prop} {rest : List Value} {rc rs : Nat} {rt : Option FieldType}
theorem oA (K : Kx p s Z m c own cd ml) (X : Stand p l e R s m args below meth c T locs cells slots) {k : Fin 4} {v : Value} (hd : decode cd g.pc = .ok (.aload_n k, 1)) (hg : g.method = m) (hl : g.locals[k.val]? = some (.val v)) (hv : v.isRef = true) (hr : Steps p.tables e below (T.setTop { g with pc := g.pc + 1, stack := v :: g.stack }) t) : Steps p.tables e below (T.setTop g) t := XS.aloadN X.here K.1 hg (hb K.2.2.2.1 hd) hl hv hr
theorem oB (K : Kx p s Z m c own cd ml) (X : Stand p l e R s m args below meth c T locs cells slots) {k : Nat} {v : Value} (hd : decode cd g.pc = .ok (.aload k, 2)) (hg : g.method = m) (hl : g.locals[k]? = some (.val v)) (hv : v.isRef = true) (hr : Steps p.tables e below (T.setTop { g with pc := g.pc + 2, stack := v :: g.stack }) t) : Steps p.tables e below (T.setTop g) t := XS.aload X.here K.1 hg (hb K.2.2.2.1 hd) hl hv hr
theorem oI (K : Kx p s Z m c own cd ml) (X : Stand p l e R s m args below meth c T locs cells slots) {k : Fin 4} {v : Int32} (hd : decode cd g.pc = .ok (.iload_n k, 1)) (hg : g.method = m) (hl : g.locals[k.val]? = some (.val (.int v))) (hr : Steps p.tables e below (T.setTop { g with pc := g.pc + 1, stack := .int v :: g.stack }) t) : Steps p.tables e below (T.setTop g) t := XS.iloadN X.here K.1 hg (hb K.2.2.2.1 hd) hl hr
theorem oJ (K : Kx p s Z m c own cd ml) (X : Stand p l e R s m args below meth c T locs cells slots) {k : Nat} {v : Int32} (hd : decode cd g.pc = .ok (.iload k, 2)) (hg : g.method = m) (hl : g.locals[k]? = some (.val (.int v))) (hr : Steps p.tables e below (T.setTop { g with pc := g.pc + 2, stack := .int v :: g.stack }) t) : Steps p.tables e below (T.setTop g) t := XS.iload X.here K.1 hg (hb K.2.2.2.1 hd) hl hr
theorem oLi (K : Kx p s Z m c own cd ml) (X : Stand p l e R s m args below meth c T locs cells slots) {ix : Nat} {v : Int32} (w : (Jvm.Cond.constant own ix v).before a0 Z = true) (hd : decode cd g.pc = .ok (.ldc ix, 2)) (hg : g.method = m) (hr : Steps p.tables e below (T.setTop { g with pc := g.pc + 2, stack := .int v :: g.stack }) t) : Steps p.tables e below (T.setTop g) t := X.ldcInt K.1 K.2.2.1 (mvT K.2.1 w) hg (hb K.2.2.2.1 hd) _ hr
theorem oLl (K : Kx p s Z m c own cd ml) (X : Stand p l e R s m args below meth c T locs cells slots) {ix : Nat} {v : Int64} (w : (Jvm.Cond.constantLong own ix v).before a0 Z = true) (hd : decode cd g.pc = .ok (.ldc2_w ix, 3)) (hg : g.method = m) (hr : Steps p.tables e below (T.setTop { g with pc := g.pc + 3, stack := .long v :: g.stack }) t) : Steps p.tables e below (T.setTop g) t := X.ldc2Long K.1 K.2.2.1 (mvT K.2.1 w) hg (hb K.2.2.2.1 hd) _ hr
theorem oAl (K : Kx p s Z m c own cd ml) (X : Stand p l e R s m args below meth c T locs cells slots) (eT : T.heap = h) {a : Addr} {k : ClassId} {ty : FieldType} {z : Int32} {vs : List Value} {d : Value} (V : Arv Z h a k ty z vs d) (hd : decode cd g.pc = .ok (.arraylength, 1)) (hg : g.method = m) (hs : g.stack = .ref a :: rest) (hr : Steps p.tables e below (T.setTop { g with pc := g.pc + 1, stack := .int z :: rest }) t) : Steps p.tables e below (T.setTop g) t := by
  obtain ⟨cl, Ar, -, S, M, -, -⟩ := V
  refine X.arraylength K.1 (cell := cl) (by rw [eT]; exact Ar.1) (State.isArrayOf_alike K.2.1.alike Ar.2.1) hg hs (hb K.2.2.2.1 hd) _ ?_
  rw [len_of S M]
  exact hr
theorem oBa (K : Kx p s Z m c own cd ml) (X : Stand p l e R s m args below meth c T locs cells slots) (eT : T.heap = h) {a : Addr} {k : ClassId} {z j x : Int32} {vs : List Value} {d : Value} (V : Arv Z h a k .byte z vs d) (q : ¬ j < 0 ∧ j < z) (u : vs.getD j.toNatClampNeg d = .int x) (hd : decode cd g.pc = .ok (.baload, 1)) (hg : g.method = m) (hs : g.stack = .int j :: .ref a :: rest) (hr : Steps p.tables e below (T.setTop { g with pc := g.pc + 1, stack := .int x :: rest }) t) : Steps p.tables e below (T.setTop g) t := by
  obtain ⟨cl, Ar, -, S, -, H, -⟩ := V
  have hin := inb_of S q
  exact X.baloadBytes K.1 (j := j) (v := .int x) (by rw [eT]; exact Ar.1) (State.isArrayOf_alike K.2.1.alike Ar.2.1) Ar.2.2 hin (H.at hin u) hg hs (hb K.2.2.2.1 hd) _ hr
theorem oCa (K : Kx p s Z m c own cd ml) (X : Stand p l e R s m args below meth c T locs cells slots) (eT : T.heap = h) {a : Addr} {k : ClassId} {z j x : Int32} {vs : List Value} {d : Value} (V : Arv Z h a k .char z vs d) (q : ¬ j < 0 ∧ j < z) (u : vs.getD j.toNatClampNeg d = .int x) (hd : decode cd g.pc = .ok (.caload, 1)) (hg : g.method = m) (hs : g.stack = .int j :: .ref a :: rest) (hr : Steps p.tables e below (T.setTop { g with pc := g.pc + 1, stack := .int x :: rest }) t) : Steps p.tables e below (T.setTop g) t := by
  obtain ⟨cl, Ar, -, S, -, H, -⟩ := V
  have hin := inb_of S q
  exact X.caload K.1 (j := j) (v := .int x) (by rw [eT]; exact Ar.1) (State.isArrayOf_alike K.2.1.alike Ar.2.1) Ar.2.2 hin (H.at hin u) hg hs (hb K.2.2.2.1 hd) _ hr
theorem gF (pre : Pr p e below E0 T g) (K : Kx p s Z m c own cd ml) (X : Stand p l e R s m args below meth c T locs cells slots) (eT : T.heap = h) {R0 O n d : String} {index : Nat} (w : (Jvm.Cond.fieldLink own index R0 n d).before a0 Z = true) (via : Via Z R0 O n d) {a : Addr} {v : Value} (F : Fld Z h a O n d v) (hd : decode cd g.pc = .ok (.getfield index, 3)) (hg : g.method = m) (hs : g.stack = .ref a :: rest) : ∃ T', Stand p l e R s m args below meth c T' locs cells slots ∧ T'.heap = h ∧ Pr p e below E0 T' { g with pc := g.pc + 3, stack := v :: rest } := by
  obtain ⟨T', X', e', st⟩ := getF X K.1 K.2.1 K.2.2.1 (host := "") (Or.inl w) via eT F hg hs (hb K.2.2.2.1 hd)
  exact ⟨T', X', e', fun t k => pre t (st t k)⟩
theorem gS (pre : Pr p e below E0 T g) (K : Kx p s Z m c own cd ml) (X : Stand p l e R s m args below meth c T locs cells slots) (eT : T.heap = h) {R0 n d : String} {index : Nat} (w : (Jvm.Cond.fieldLink own index R0 n d).before a0 Z = true) {v : Value} (F : Sta Z h R0 n d v) (hd : decode cd g.pc = .ok (.getstatic index, 3)) (hg : g.method = m) : ∃ T', Stand p l e R s m args below meth c T' locs cells slots ∧ T'.heap = h ∧ Pr p e below E0 T' { g with pc := g.pc + 3, stack := v :: g.stack } := by
  obtain ⟨T', X', e', st⟩ := getS X K.1 K.2.1 K.2.2.1 (host := "") w Via.refl eT F hg (hb K.2.2.2.1 hd)
  exact ⟨T', X', e', fun t k => pre t (st t k)⟩
theorem pF (pre : Pr p e below E0 T g) (K : Kx p s Z m c own cd ml) (X : Stand p l e R s m args below meth c T locs cells slots) (eT : T.heap = h) {O n d C : String} {index kk : Nat} (ty : FieldType) (w : (Jvm.Cond.fieldLink own index O n d).before a0 Z = true) {a : Addr} {v old : Value} (F : Fld Z h a O n d old) (E : Exa Z h a C) (L : (Jvm.Cond.lays C O n d).before a0 Z = true ∨ ((Jvm.Cond.laysFinal C O n d).before a0 Z = true ∧ own = O ∧ meth.name = "<init>")) (wi : (Jvm.Cond.instantiable C kk).before a0 Z = true) (hd : decode cd g.pc = .ok (.putfield index, 3)) (hg : g.method = m) (hs : g.stack = v :: .ref a :: rest) (hty : parseFieldDescriptor d = some ty) (hn : narrow ty v = v) (hf : fits ty v = true) :
    ∃ T' h', Stand p l e R s m args below meth c T' (locs ++ [⟨a, Jvm.RoadKit.slotOf Z O n d⟩]) cells slots ∧ T'.heap = h' ∧ Wr h h' a (Jvm.RoadKit.slotOf Z O n d) v ∧ Fld Z h' a O n d v ∧ Pr p e below E0 T' { g with pc := g.pc + 3, stack := rest } := by
  obtain ⟨T', h', X', e', W, st⟩ := putF X K.1 K.2.1 K.2.2.1 (host := "") (Or.inl w) Via.refl eT F E L wi hty hn hf hg hs (hb K.2.2.2.1 hd)
  exact ⟨T', h', X', e', W, F.same W, fun t k => pre t (st t k)⟩
variable {y z : MethodName} {ycd : ByteArray} {yml : Nat} {yrt : Option FieldType} {rm : Room} {Q : Option Value → Heap → List Loc → Prop} {as' : Array Value} {index W : Nat} {argsL : List Value}
abbrev Nm (rm R : Room) (yml W cells slots : Nat) (y : MethodName) : Prop := rm.frames + 1 ≤ R.frames ∧ W + (yml + 11) + rm.locals ≤ R.locals ∧ cells + rm.cells ≤ R.cells ∧ slots + rm.slots ≤ R.slots ∧ y.cls ≠ "java/lang/invoke/MethodHandle" ∧ y.cls ≠ "java/lang/invoke/VarHandle"
theorem cS (pre : Pr p e below E0 T g) (K : Kx p s Z m c own cd ml) (X : Stand p l e R s m args below meth c T locs cells slots) (eT : T.heap = h) (M : Met l Z y ycd yml yrt rm as' h Q) (w1 : (Jvm.Cond.methodLink own index y).before a0 Z = true) (w2 : (Jvm.Cond.static y).before a0 Z = true) (w3 : (Jvm.Cond.initialized y.cls).before a0 Z = true) (w4 : (Jvm.Cond.code y ycd yml yrt).before a0 Z = true)
    (ha : as' = argsL.toArray) (hlen : ∀ sig, parseMethodDescriptor y.desc = some sig → argsL.length = sig.parameters.length) (hd : decode cd g.pc = .ok (.invokestatic index, 3)) (hg : g.method = m) (hz : g.locals.size = ml) (hs : g.stack = argsL.reverse ++ rest) (hW : 2 * g.monitorRoom + (rest.map fun v => v.category).sum ≤ W) (hn : Nm rm R yml W cells slots y) :
    ∃ T' v L, Stand p l e R s m args below meth c T' (locs ++ L) (cells + rm.cells) (slots + rm.slots) ∧ Q v T'.heap L ∧ Pr p e below E0 T' { g with pc := g.pc + 3, stack := v.toList ++ rest } := by
  obtain ⟨v, _, ⟨T', L', k', n'⟩, -, X', ⟨L, hQ, l', y', z'⟩, st⟩ := Jvm.LawKit.callS X K.1 (y := y) K.2.2.1 (mvT K.2.1 w1) (mvT K.2.1 w2) (mvT K.2.1 w3) (mvT K.2.1 w4) hn.2.2.2.2 (backOf (W := W) M K.2.1 w4 w3 hn.1 hn.2.1) hg (hz.trans K.2.2.2.2.symm) hlen hs hW (hb K.2.2.2.1 hd) (fun _ _ => ⟨ha.symm, eT, hn.2.2.1, hn.2.2.2.1⟩)
  dsimp only [Pt.U, Pt.locs, Pt.cells, Pt.slots] at X' l' y' z' st hQ
  subst l' y' z'
  exact ⟨T', v, L, X', hQ, fun t k => pre t (st t k)⟩
theorem cI (pre : Pr p e below E0 T g) (K : Kx p s Z m c own cd ml) (X : Stand p l e R s m args below meth c T locs cells slots) (eT : T.heap = h) (M : Met l Z y ycd yml none rm as' h Q) (w1 : (Jvm.Cond.methodLink own index y).before a0 Z = true) (w2 : (Jvm.Cond.instanceMethod y).before a0 Z = true) (w3 : (Jvm.Cond.initialized y.cls).before a0 Z = true) (w4 : (Jvm.Cond.code y ycd yml none).before a0 Z = true)
    {a : Addr} (ha : as' = (.ref a :: argsL).toArray) (hlen : ∀ sig, parseMethodDescriptor y.desc = some sig → argsL.length = sig.parameters.length) (hd : decode cd g.pc = .ok (.invokespecial index, 3)) (hg : g.method = m) (hz : g.locals.size = ml) (hs : g.stack = argsL.reverse ++ .ref a :: rest) (hW : 2 * g.monitorRoom + (rest.map fun v => v.category).sum ≤ W) (hn : Nm rm R yml W cells slots y) (hy : y.name = "<init>") :
    ∃ T' v L, Stand p l e R s m args below meth c T' (locs ++ L) (cells + rm.cells) (slots + rm.slots) ∧ Q v T'.heap L ∧ Pr p e below E0 T' { g with pc := g.pc + 3, stack := v.toList ++ rest } := by
  obtain ⟨v, _, ⟨T', L', k', n'⟩, -, X', ⟨L, hQ, l', y', z'⟩, st⟩ := X.specialBack K.1 (y := y) hy K.2.2.1 (mvT K.2.1 w1) (mvT K.2.1 w2) (mvT K.2.1 w4) hn.2.2.2.2 (backOf (W := W) M K.2.1 w4 w3 hn.1 hn.2.1) hg (hz.trans K.2.2.2.2.symm) (Steps.refl _) hlen hs hW (hb K.2.2.2.1 hd) (fun _ _ => ⟨ha.symm, eT, hn.2.2.1, hn.2.2.2.1⟩)
  dsimp only [Pt.U, Pt.locs, Pt.cells, Pt.slots] at X' l' y' z' st hQ
  subst l' y' z'
  exact ⟨T', v, L, X', hQ, fun t k => pre t (st.trans k)⟩
theorem cP (pre : Pr p e below E0 T g) (K : Kx p s Z m c own cd ml) (X : Stand p l e R s m args below meth c T locs cells slots) (eT : T.heap = h) (M : Met l Z y ycd yml yrt rm as' h Q) (w1 : (Jvm.Cond.methodLink own index y).before a0 Z = true) (w2 : (Jvm.Cond.instanceMethod y).before a0 Z = true) (w3 : (Jvm.Cond.initialized y.cls).before a0 Z = true) (w4 : (Jvm.Cond.code y ycd yml yrt).before a0 Z = true) (w5 : (Jvm.Cond.privateMethod y).before a0 Z = true) {C : String} (w6 : (Jvm.Cond.selects C y y).before a0 Z = true)
    {a : Addr} (E : Exa Z h a C) (ha : as' = (.ref a :: argsL).toArray) (hlen : ∀ sig, parseMethodDescriptor y.desc = some sig → argsL.length = sig.parameters.length) (hd : decode cd g.pc = .ok (.invokevirtual index, 3)) (hg : g.method = m) (hz : g.locals.size = ml) (hs : g.stack = argsL.reverse ++ .ref a :: rest) (hW : 2 * g.monitorRoom + (rest.map fun v => v.category).sum ≤ W) (hn : Nm rm R yml W cells slots y) :
    ∃ T' v L, Stand p l e R s m args below meth c T' (locs ++ L) (cells + rm.cells) (slots + rm.slots) ∧ Q v T'.heap L ∧ Pr p e below E0 T' { g with pc := g.pc + 3, stack := v.toList ++ rest } := by
  obtain ⟨cq, kq, qa, qb, cc, qc, -, qd⟩ := isOf K.2.1 eT E
  obtain ⟨v, _, ⟨T', L', k', n'⟩, -, X', ⟨L, hQ, l', y', z'⟩, st⟩ := X.privateBack K.1 (y := y) K.2.2.1 (mvT K.2.1 w1) (mvT K.2.1 w2) (own_selP (mvT K.2.1 w6) (mvT K.2.1 w5) (mvT K.2.1 w2) hn.2.2.2.2) (Cond.privateMethod_at (args := #[]) (mvT K.2.1 w5)) (mvT K.2.1 w4) hn.2.2.2.2 (backOf (W := W) M K.2.1 w4 w3 hn.1 hn.2.1) hg (hz.trans K.2.2.2.2.symm) (Steps.refl _) qc (own_nost qd) hlen hs hW (hb K.2.2.2.1 hd) (fun _ _ => ⟨ha.symm, eT, hn.2.2.1, hn.2.2.2.1⟩)
  dsimp only [Pt.U, Pt.locs, Pt.cells, Pt.slots] at X' l' y' z' st hQ
  subst l' y' z'
  exact ⟨T', v, L, X', hQ, fun t k => pre t (st.trans k)⟩
theorem cU (pre : Pr p e below E0 T g) (K : Kx p s Z m c own cd ml) (X : Stand p l e R s m args below meth c T locs cells slots) (eT : T.heap = h) (M : Met l Z y ycd yml yrt rm as' h Q) (w1 : (Jvm.Cond.methodLink own index y).before a0 Z = true) (w2 : (Jvm.Cond.instanceMethod y).before a0 Z = true) (w3 : (Jvm.Cond.initialized y.cls).before a0 Z = true) (w4 : (Jvm.Cond.code y ycd yml yrt).before a0 Z = true) {C' : String} {y' : MethodName} (w5 : (Jvm.Cond.selects C' y' y').before a0 Z = true) (w6 : (Jvm.Cond.instanceMethod y').before a0 Z = true) (w7 : (Jvm.Cond.superclass own y.cls).before a0 Z = true) (hc' : y'.cls = y.cls) {C : String}
    {a : Addr} (E : Exa Z h a C) (ha : as' = (.ref a :: argsL).toArray) (hlen : ∀ sig, parseMethodDescriptor y.desc = some sig → argsL.length = sig.parameters.length) (hd : decode cd g.pc = .ok (.invokespecial index, 3)) (hg : g.method = m) (hz : g.locals.size = ml) (hs : g.stack = argsL.reverse ++ .ref a :: rest) (hW : 2 * g.monitorRoom + (rest.map fun v => v.category).sum ≤ W) (hn : Nm rm R yml W cells slots y) (hy : y.name ≠ "<init>") :
    ∃ T' v L, Stand p l e R s m args below meth c T' (locs ++ L) (cells + rm.cells) (slots + rm.slots) ∧ Q v T'.heap L ∧ Pr p e below E0 T' { g with pc := g.pc + 3, stack := v.toList ++ rest } := by
  obtain ⟨v, _, ⟨T', L', k', n'⟩, -, X', ⟨L, hQ, l', y', z'⟩, st⟩ := superBack X K.1 K.2.1 (y := y) K.2.2.1 w1 (own_same (args := a0) w5 w6 hc' w2 hn.2.2.2.2) w2 w7 hy (backOf (W := W) M K.2.1 w4 w3 hn.1 hn.2.1) eT (Ins.self E) hg (hz.trans K.2.2.2.2.symm) w4 hlen hs hW (hb K.2.2.2.1 hd) (fun _ _ => ⟨ha.symm, eT, hn.2.2.1, hn.2.2.2.1⟩)
  dsimp only [Pt.U, Pt.locs, Pt.cells, Pt.slots] at X' l' y' z' st hQ
  subst l' y' z'
  exact ⟨T', v, L, X', hQ, fun t k => pre t (st.trans k)⟩
theorem cV (pre : Pr p e below E0 T g) (K : Kx p s Z m c own cd ml) (X : Stand p l e R s m args below meth c T locs cells slots) (eT : T.heap = h) (M : Met l Z z ycd yml yrt rm as' h Q) (w1 : (Jvm.Cond.methodLink own index y).before a0 Z = true) (w2 : (Jvm.Cond.instanceMethod z).before a0 Z = true) (w3 : (Jvm.Cond.initialized z.cls).before a0 Z = true) (w4 : (Jvm.Cond.code z ycd yml yrt).before a0 Z = true) (w5 : (Jvm.Cond.declares y).before a0 Z = true) {C : String} (w6 : (Jvm.Cond.selects C y z).before a0 Z = true) (nf : NotFace s y)
    {a : Addr} (E : Exa Z h a C) (ha : as' = (.ref a :: argsL).toArray) (hlen : ∀ sig, parseMethodDescriptor y.desc = some sig → argsL.length = sig.parameters.length) (hd : decode cd g.pc = .ok (.invokevirtual index, 3)) (hg : g.method = m) (hz : g.locals.size = ml) (hs : g.stack = argsL.reverse ++ .ref a :: rest) (hW : 2 * g.monitorRoom + (rest.map fun v => v.category).sum ≤ W) (hn : Nm rm R yml W cells slots y) :
    ∃ T' v L, Stand p l e R s m args below meth c T' (locs ++ L) (cells + rm.cells) (slots + rm.slots) ∧ Q v T'.heap L ∧ Pr p e below E0 T' { g with pc := g.pc + 3, stack := v.toList ++ rest } := by
  obtain ⟨cq, kq, qa, qb, qc⟩ := isOf K.2.1 eT E
  obtain ⟨v, _, ⟨T', L', k', n'⟩, -, X', ⟨L, hQ, l', y', z'⟩, st⟩ := X.virtualBack K.1 (y := y) (z := z) K.2.2.1 (mvT K.2.1 w1) (mvT K.2.1 w5) nf (mvT K.2.1 w6) (mvT K.2.1 w2) hn.2.2.2.2 (backOf (W := W) M K.2.1 w4 w3 hn.1 hn.2.1) qa qc hg (hz.trans K.2.2.2.2.symm) (Steps.refl _) hlen hs hW (hb K.2.2.2.1 hd) (fun _ _ => ⟨ha.symm, eT, hn.2.2.1, hn.2.2.2.1⟩)
  dsimp only [Pt.U, Pt.locs, Pt.cells, Pt.slots] at X' l' y' z' st hQ
  subst l' y' z'
  exact ⟨T', v, L, X', hQ, fun t k => pre t (st.trans k)⟩
theorem cVu (pre : Pr p e below E0 T g) (K : Kx p s Z m c own cd ml) (X : Stand p l e R s m args below meth c T locs cells slots) (eT : T.heap = h) (M : Met l Z z ycd yml yrt rm as' h Q) (w1 : (Jvm.Cond.methodLink own index y).before a0 Z = true) (w2 : (Jvm.Cond.instanceMethod z).before a0 Z = true) (w3 : (Jvm.Cond.initialized z.cls).before a0 Z = true) (w4 : (Jvm.Cond.code z ycd yml yrt).before a0 Z = true) {ow : String} (w5 : (Jvm.Cond.sameMethod y.cls ow y.name y.desc).before a0 Z = true) (w7 : (Jvm.Cond.declares ⟨ow, y.name, y.desc⟩).before a0 Z = true) {C : String} (w6 : (Jvm.Cond.selects C y z).before a0 Z = true) (how : ow ≠ "java/lang/invoke/MethodHandle" ∧ ow ≠ "java/lang/invoke/VarHandle")
    {a : Addr} (E : Exa Z h a C) (ha : as' = (.ref a :: argsL).toArray) (hlen : ∀ sig, parseMethodDescriptor y.desc = some sig → argsL.length = sig.parameters.length) (hd : decode cd g.pc = .ok (.invokevirtual index, 3)) (hg : g.method = m) (hz : g.locals.size = ml) (hs : g.stack = argsL.reverse ++ .ref a :: rest) (hW : 2 * g.monitorRoom + (rest.map fun v => v.category).sum ≤ W) (hn : Nm rm R yml W cells slots y) :
    ∃ T' v L, Stand p l e R s m args below meth c T' (locs ++ L) (cells + rm.cells) (slots + rm.slots) ∧ Q v T'.heap L ∧ Pr p e below E0 T' { g with pc := g.pc + 3, stack := v.toList ++ rest } := by
  obtain ⟨cq, kq, qa, qb, qc⟩ := isOf K.2.1 eT E
  obtain ⟨v, _, ⟨T', L', k', n'⟩, -, X', ⟨L, hQ, l', y', z'⟩, st⟩ := X.virtualBackUp K.1 (x := y) (y := z) K.2.2.1 (mvT K.2.1 w1) (mvT K.2.1 w5) (mvT K.2.1 w7) how (mvT K.2.1 w6) (mvT K.2.1 w2) (backOf (W := W) M K.2.1 w4 w3 hn.1 hn.2.1) qa qc hg (hz.trans K.2.2.2.2.symm) (Steps.refl _) hlen hs hW (hb K.2.2.2.1 hd) (fun _ _ => ⟨ha.symm, eT, hn.2.2.1, hn.2.2.2.1⟩)
  dsimp only [Pt.U, Pt.locs, Pt.cells, Pt.slots] at X' l' y' z' st hQ
  subst l' y' z'
  exact ⟨T', v, L, X', hQ, fun t k => pre t (st.trans k)⟩
variable {pc : Nat} {Ls : Array Slot}
theorem rtV (pre : Pr p e below E0 T (mkF m pc Ls [])) (K : Kx p s Z m c own cd ml) (X : Stand p l e R s m args below meth c T locs cells slots) (eT : T.heap = h) (hr : meth.sig.returnType = none) (hk : meth.locks = false) (hd : decode cd pc = .ok (.return_, 1)) (hn : cells ≤ rc ∧ slots ≤ rs) (q : P none h locs) : Gl p e below s E0 P rc rs := by
  obtain ⟨fs, hr', hrun, hended, hW, hsame⟩ := X.leave (v := none) (fun _ => rfl) hk
  exact ⟨_, _, pre _ (X.returnOut K.1 hr (hb K.2.2.2.1 hd) hr'), hrun, hended, _, _, rfl, (show P none T.heap locs by rw [eT]; exact q), ⟨_, rfl⟩, hW, hsame.mono hn.1 hn.2⟩
theorem rtI {z : Int32} (pre : Pr p e below E0 T (mkF m pc Ls (.int z :: rest))) (K : Kx p s Z m c own cd ml) (X : Stand p l e R s m args below meth c T locs cells slots) (eT : T.heap = h) (hr : meth.sig.returnType = some .int) (hk : meth.locks = false) (hd : decode cd pc = .ok (.ireturn, 1)) (hn : cells ≤ rc ∧ slots ≤ rs) (q : P (some (.int z)) h locs) : Gl p e below s E0 P rc rs := by
  obtain ⟨fs, hr', hrun, hended, hW, hsame⟩ := X.leave (v := some (.int z)) (fun h => by rw [hr] at h; cases h) hk
  exact ⟨_, _, pre _ (retI X K.1 hr (hb K.2.2.2.1 hd) hr'), hrun, hended, _, _, rfl, (show P (some (.int z)) T.heap locs by rw [eT]; exact q), ⟨_, rfl⟩, hW, hsame.mono hn.1 hn.2⟩
theorem rtN {z : Int32} {ty : FieldType} (pre : Pr p e below E0 T (mkF m pc Ls (.int z :: rest))) (K : Kx p s Z m c own cd ml) (X : Stand p l e R s m args below meth c T locs cells slots) (eT : T.heap = h) (hr : meth.sig.returnType = some ty) (hk : meth.locks = false) (hd : decode cd pc = .ok (.ireturn, 1)) (hn : cells ≤ rc ∧ slots ≤ rs) (ht : ty = .boolean ∨ ty = .byte ∨ ty = .char ∨ ty = .short) (q : P (some (.int (nar ty z))) h locs) : Gl p e below s E0 P rc rs := by
  obtain ⟨fs, hr', hrun, hended, hW, hsame⟩ := X.leave (v := some (.int (nar ty z))) (fun h => by rw [hr] at h; cases h) hk
  exact ⟨_, _, pre _ (retN X K.1 hr ht (hb K.2.2.2.1 hd) hr'), hrun, hended, _, _, rfl, (show P (some (.int (nar ty z))) T.heap locs by rw [eT]; exact q), ⟨_, rfl⟩, hW, hsame.mono hn.1 hn.2⟩
theorem rtA {a : Addr} {ty : FieldType} (pre : Pr p e below E0 T (mkF m pc Ls (.ref a :: rest))) (K : Kx p s Z m c own cd ml) (X : Stand p l e R s m args below meth c T locs cells slots) (eT : T.heap = h) (hr : meth.sig.returnType = some ty) (hk : meth.locks = false) (hd : decode cd pc = .ok (.areturn, 1)) (hn : cells ≤ rc ∧ slots ≤ rs) (ht : ty.isReference = true ∧ narrow ty (.ref a) = .ref a) (q : P (some (.ref a)) h locs) : Gl p e below s E0 P rc rs := by
  obtain ⟨fs, hr', hrun, hended, hW, hsame⟩ := X.leave (v := some (.ref a)) (fun h => by rw [hr] at h; cases h) hk
  exact ⟨_, _, pre _ (retOut X K.1 hr ht.2 (Or.inr (Or.inr (Or.inr (Or.inr ⟨rfl, ht.1, rfl⟩)))) (hb K.2.2.2.1 hd) hr'), hrun, hended, _, _, rfl, (show P (some (.ref a)) T.heap locs by rw [eT]; exact q), ⟨_, rfl⟩, hW, hsame.mono hn.1 hn.2⟩
end Wr
abbrev Hw (a0 : Array Value) (Z : State) : Prop := ∀ d ∈ tables_1, d.before a0 Z = true
abbrev GlW (p : Program) (e : Env) (b : List Frame) (s E0 : State) (P : Option Value → Vm → Heap → List Loc → Prop) (rc rs : Nat) : Prop := ∃ s₂ o, Steps p.tables e b E0 s₂ ∧ s₂.status = .running ∧ Ended s₂ b o ∧ ∃ v L, o = .returned v ∧ P v s₂.vm s₂.heap L ∧ ReturnedEndW s o s₂ L rc rs
abbrev MetW (l : Launch) (Z : State) (y : MethodName) (cd : ByteArray) (ml : Nat) (rt : Option FieldType) (ws : List Jvm.Cond) (rm : Room) (as' : Array Value) (h0 : Heap) (PV : Vm → Prop) (Q : Option Value → Vm → Heap → List Loc → Prop) : Prop := MetFree l y (head1 (Jvm.Cond.code y cd ml rt :: ws) rm) (fun a U => a = as' ∧ Z.Warmed39 U.vm ∧ U.heap = h0 ∧ PV U.vm) (fun _ _ bl s _ => s.vm.MethodsKnown ∧ s.vm.FramesKnown bl) (fun _ U o U' => ∃ v L, o = .returned v ∧ Q v U'.vm U'.heap L ∧ ReturnedEndW U o U' L rm.cells rm.slots)
theorem own_metW {l : Launch} {Z : State} {y : MethodName} {cd : ByteArray} {ml : Nat} {rt : Option FieldType} {ws : List Jvm.Cond} {rm : Room} {as' : Array Value} {h0 : Heap} {PV : Vm → Prop} {Q : Option Value → Vm → Heap → List Loc → Prop} {own : String} {G : MethodId → JFrame} (ho : y.cls = own) (hp : plainFor y = true)
    (H : ∀ (p : Program) (e : Env) (s : State) (m : MethodId) (below : List Frame) (meth : Method) (c : Code) (s₁ E0 : State) (P : Option Value → Vm → Heap → List Loc → Prop), (∀ v vm h L, Q v vm h L → P v vm h L) → Kx p (s.setVm s.vm) Z m c own cd ml → meth.name = y.name → meth.sig.returnType = rt → meth.locks = false → s.heap = h0 → PV s.vm → (s.vm.MethodsKnown ∧ s.vm.FramesKnown below) → Stand p l e rm (s.setVm s.vm) m as' below meth c s₁ [] 0 0 → s₁.heap = h0 → Pr p e below E0 s₁ (G m) → GlW p e below s E0 P rm.cells rm.slots) (ef : ∀ m, entryFrame m as' ml = G m := by intro m; first | (simp [entryFrame, mkF, argsToLocals, Value.category, maxLocals]; done) | rfl) : MetW l Z y cd ml rt ws rm as' h0 PV Q := by
  refine MetFree.of_bodySF hp hisR ?_
  intro p e s m args below meth c s₁ Bd hml0 hP hK
  obtain ⟨rfl, hZ, hh, hPV⟩ := hP
  subst ho
  exact H p e s m below meth c s₁ _ Q (fun _ _ _ _ q => q) ⟨Bd.exec, hZ, findClass_of_methodNamed Bd.named, Bd.bytes, hml0⟩ (name_of_methodNamed Bd.named Bd.method).1 Bd.returns Bd.notSynchronized hh hPV hK (Stand.of_body Bd) (by rw [← hh, Bd.state]; rfl) (fun t k => castTop (ef m) k)
abbrev vi (z : Int32) : Slot := .val (.int z)
abbrev vr (a : Addr) : Slot := .val (.ref a)
abbrev uz : Slot := .unset
theorem oW {a0 : Array Value} {Z : State} (hw : Hw a0 Z) {d : Jvm.Cond} (i : Nat) (h : tables_1[i]? = some d) : d.before a0 Z = true := hw d (List.mem_of_getElem? h)

theorem own_pt {jv z1 : Int32} {M zN : Nat} (hj : jv = Int32.ofNat M) (hz : z1 = Int32.ofNat zN) (h1 : 2 * M + 1 < zN) (h2 : zN < 1000) : (¬ (jv <<< ((1 : Int32) &&& 31)) < 0 ∧ (jv <<< ((1 : Int32) &&& 31)) < z1) ∧ (¬ ((jv <<< ((1 : Int32) &&& 31)) + (1 : Int32)) < 0 ∧ ((jv <<< ((1 : Int32) &&& 31)) + (1 : Int32)) < z1) ∧ (jv <<< ((1 : Int32) &&& 31)).toNatClampNeg = 2 * M ∧ ((jv <<< ((1 : Int32) &&& 31)) + (1 : Int32)).toNatClampNeg = 2 * M + 1 := by
  rw [hj, hz, own_on2 (by omega), own_on1 (by omega), own_onN (by omega), own_onN (by omega), own_onlt (by omega) (by omega), own_onlt (by omega) (by omega)]
  exact ⟨⟨own_on0 (by omega), by omega⟩, ⟨own_on0 (by omega), h1⟩, rfl, rfl⟩
theorem own_ix {iv s1 : Int32} {M sN : Nat} (hi : iv = Int32.ofNat M) (hs : s1 = Int32.ofNat sN) (h1 : M < sN) (h2 : sN < 1000) : ¬ iv < 0 ∧ iv < s1 := by
  rw [hi, hs, own_onlt (by omega) (by omega)]
  exact ⟨own_on0 (by omega), h1⟩
theorem own_neLen {Z : State} {h : Heap} {a b : Addr} {k k' : ClassId} {ty ty' : FieldType} {n n' : Int32} {vs vs' : List Value} {d d' : Value} (A : Arv Z h a k ty n vs d) (B : Arv Z h b k' ty' n' vs' d') (hne : n.toNatClampNeg ≠ n'.toNatClampNeg) : a ≠ b := fun q => by
  subst q
  obtain ⟨c1, ⟨e1, -⟩, -, s1, -⟩ := A
  obtain ⟨c2, ⟨e2, -⟩, -, s2, -⟩ := B
  cases e1.symm.trans e2
  exact hne (s1.symm.trans s2)
def own_u (cs : List Int32) : List Value := cs.flatMap fun c => [(.int (own_lo c)), (.int (own_hi c))]
def own_b (c : Int32) : Value := .int c.toInt8.toInt32
theorem own_ul (cs : List Int32) : (own_u cs).length = 2 * cs.length := by
  induction cs with
  | nil => rfl
  | cons x xs ih => simp [own_u] at ih ⊢; omega
theorem own_uapp (xs ys : List Int32) : own_u (xs ++ ys) = own_u xs ++ own_u ys := by simp [own_u]
def own_asc (cs : List Int32) : Prop := ∀ c ∈ cs, 0 ≤ c.toInt ∧ c.toInt < 128
theorem own_ascb {cs : List Int32} (h : own_asc cs) : cs.map own_b = cs.map Value.int := by
  refine List.map_congr_left fun c hc => ?_
  have q := h c hc
  have r := c_i2b c
  show Value.int _ = Value.int c
  congr 1
  apply Int32.toInt_inj.mp
  omega
theorem own_m255 {x : Int32} (h : 0 ≤ x.toInt ∧ x.toInt < 128) : (x &&& (255 : Int32)) = x := by
  have r := c_mask x (255 : Int32) 8 (by decide) (by decide)
  apply Int32.toInt_inj.mp
  omega
def own_v2 (x : Int32) : List Value := [Value.int (own_lo x), Value.int (own_hi x)]
theorem own_infc (x : Int32) (xs : List Int32) : own_inf (x :: xs) = own_v2 (x &&& (255 : Int32)) ++ own_inf xs := by
  unfold own_inf own_v2
  exact List.flatMap_cons ..
theorem own_uc (x : Int32) (xs : List Int32) : own_u (x :: xs) = own_v2 x ++ own_u xs := by
  unfold own_u own_v2
  exact List.flatMap_cons ..
theorem own_ascu {cs : List Int32} (h : own_asc cs) : own_inf cs = own_u cs := by
  induction cs with
  | nil => exact (show own_inf [] = [] by unfold own_inf; exact List.flatMap_nil ..).trans (show own_u [] = [] by unfold own_u; exact List.flatMap_nil ..).symm
  | cons x xs ih =>
    have e := own_m255 (h x (List.mem_cons_self ..))
    have i := ih fun c hc => h c (List.mem_cons_of_mem _ hc)
    rw [own_infc, own_uc, i]
    generalize own_u xs = r
    exact congrArg (fun z => own_v2 z ++ r) e
theorem own_ascA {xs ys : List Int32} (h : own_asc xs) (k : own_asc ys) : own_asc (xs ++ ys) := fun c hc => (List.mem_append.mp hc).elim (h c) (k c)
theorem own_lohi (c : Int32) (h0 : 0 ≤ c.toInt) (h1 : c.toInt < 65536) : ((((own_lo c) &&& (255 : Int32)) <<< ((0 : Int32) &&& 31)) ||| (((own_hi c) &&& (255 : Int32)) <<< ((8 : Int32) &&& 31))).toUInt32.toUInt16.toUInt32.toInt32 = c := by
  have l1 := c_ishr c (0 : Int32) 0 (by decide)
  have l2 := c_i2b (c >>> ((0 : Int32) &&& 31))
  have l3 := c_mask (own_lo c) (255 : Int32) 8 (by decide) (by decide)
  have l4 := c_ishl ((own_lo c) &&& (255 : Int32)) (0 : Int32) 0 (by decide)
  have u1 := c_ishr c (8 : Int32) 8 (by decide)
  have u2 := c_i2b (c >>> ((8 : Int32) &&& 31))
  have u3 := c_mask (own_hi c) (255 : Int32) 8 (by decide) (by decide)
  have u4 := c_ishl ((own_hi c) &&& (255 : Int32)) (8 : Int32) 8 (by decide)
  have r1 := rng32 (((own_lo c) &&& (255 : Int32)) <<< ((0 : Int32) &&& 31))
  have r2 := rng32 (((own_hi c) &&& (255 : Int32)) <<< ((8 : Int32) &&& 31))
  have d1 : own_lo c = (c >>> ((0 : Int32) &&& 31)).toInt8.toInt32 := rfl
  have d2 : own_hi c = (c >>> ((8 : Int32) &&& 31)).toInt8.toInt32 := rfl
  rw [← d1] at l2
  rw [← d2] at u2
  have o := c_or' (((own_lo c) &&& (255 : Int32)) <<< ((0 : Int32) &&& 31)) (((own_hi c) &&& (255 : Int32)) <<< ((8 : Int32) &&& 31)) 8 (by decide) 256 rfl
  generalize own_lo c = x at *
  generalize own_hi c = y at *
  generalize c >>> ((0 : Int32) &&& 31) = c0 at *
  generalize c >>> ((8 : Int32) &&& 31) = c8 at *
  generalize (x &&& (255 : Int32)) = x1 at *
  generalize (y &&& (255 : Int32)) = y1 at *
  generalize (x1 <<< ((0 : Int32) &&& 31)) = x2 at *
  generalize (y1 <<< ((8 : Int32) &&& 31)) = y2 at *
  have o2 := o (by omega) (by omega) (by omega)
  apply Int32.toInt_inj.mp
  have q := c_i2c (x2 ||| y2)
  have r := rng32 (x2 ||| y2)
  omega
theorem own_lat (c : Int32) (h0 : 0 ≤ c.toInt) (h1 : c.toInt < 256) : ((c.toInt8.toInt32) &&& (255 : Int32)).toUInt32.toUInt16.toUInt32.toInt32 = c := by
  have l2 := c_i2b c
  have l3 := c_mask c.toInt8.toInt32 (255 : Int32) 8 (by decide) (by decide)
  have q := c_i2c (c.toInt8.toInt32 &&& (255 : Int32))
  apply Int32.toInt_inj.mp
  omega
theorem own_ug {cs : List Int32} {k : Nat} {c : Int32} (h : cs[k]? = some c) : ∀ d : Value, (own_u cs).getD (2 * k) d = .int (own_lo c) ∧ (own_u cs).getD (2 * k + 1) d = .int (own_hi c) := by
  induction cs generalizing k with
  | nil => simp at h
  | cons x xs ih =>
    intro d
    cases k with
    | zero => simp only [List.getElem?_cons_zero, Option.some.injEq] at h; subst h; exact ⟨rfl, rfl⟩
    | succ k =>
      have q := ih (by simpa using h) d
      have e : ∀ i, (own_u (x :: xs)).getD (i + 2) d = (own_u xs).getD i d := fun i => by simp [own_u, List.getD_eq_getElem?_getD]
      exact ⟨(e (2 * k)).trans q.1, (e (2 * k + 1)).trans q.2⟩
theorem own_bg {cs : List Int32} {k : Nat} {c : Int32} (h : cs[k]? = some c) (d : Value) : (cs.map own_b).getD k d = .int c.toInt8.toInt32 := by
  simp [List.getD_eq_getElem?_getD, h, own_b]
def own_o (x : Int32) : Int32 := (48 : Int32) + x % (10 : Int32)
def own_t (x : Int32) : Int32 := (48 : Int32) + x / (10 : Int32)
def own_ones : List Value := (List.range 100).map fun i => .int (own_o (Int32.ofNat i))
def own_tens : List Value := (List.range 100).map fun i => .int (own_t (Int32.ofNat i))
theorem own_o100 : ∀ k : Fin 100, nar .byte (own_o (Int32.ofNat k.val)) = own_o (Int32.ofNat k.val) ∧ nar .byte (own_t (Int32.ofNat k.val)) = own_t (Int32.ofNat k.val) ∧ (Int32.ofNat k.val).toNatClampNeg = k.val ∧ ¬ (Int32.ofNat k.val) < (0 : Int32) ∧ (Int32.ofNat k.val) < (100 : Int32) := by decide +kernel
theorem own_get {f : Int32 → Int32} {k : Nat} (hk : k < 100) (d : Value) : ((List.range 100).map fun i => Value.int (f (Int32.ofNat i))).getD (Int32.ofNat k).toNatClampNeg d = .int (f (Int32.ofNat k)) := by
  rw [(own_o100 ⟨k, hk⟩).2.2.1]
  simp [List.getD_eq_getElem?_getD, List.getElem?_map, List.getElem?_range hk]
theorem own_dgt {j : Int32} (h : ¬ j < (0 : Int32) ∧ j < (100 : Int32)) : ∃ k : Nat, k < 100 ∧ j = Int32.ofNat k := by
  have e0 : (0 : Int32).toInt = 0 := rfl
  have e1 : (100 : Int32).toInt = 100 := rfl
  simp only [Int32.lt_iff_toInt_lt, e0, e1] at h
  refine ⟨j.toInt.toNat, by omega, ?_⟩
  apply Int32.toInt_inj.mp
  rw [own_onI (by omega)]
  omega
theorem own_og {j : Int32} (h : ¬ j < (0 : Int32) ∧ j < (100 : Int32)) (d : Value) : own_ones.getD j.toNatClampNeg d = .int (own_o j) := by
  obtain ⟨k, hk, rfl⟩ := own_dgt h
  exact own_get hk d
theorem own_tg {j : Int32} (h : ¬ j < (0 : Int32) ∧ j < (100 : Int32)) (d : Value) : own_tens.getD j.toNatClampNeg d = .int (own_t j) := by
  obtain ⟨k, hk, rfl⟩ := own_dgt h
  exact own_get hk d
theorem own_onar {j : Int32} (h : ¬ j < (0 : Int32) ∧ j < (100 : Int32)) : nar .byte (own_o j) = own_o j := by
  obtain ⟨k, hk, rfl⟩ := own_dgt h
  exact (own_o100 ⟨k, hk⟩).1
theorem own_tnar {j : Int32} (h : ¬ j < (0 : Int32) ∧ j < (100 : Int32)) : nar .byte (own_t j) = own_t j := by
  obtain ⟨k, hk, rfl⟩ := own_dgt h
  exact (own_o100 ⟨k, hk⟩).2.1
theorem own_d12 {p : Int32} (h : p = (1 : Int32) ∨ p = (2 : Int32)) : ¬ p < (0 : Int32) ∧ (-10 : Int32) < (-p) ∧ (-100 : Int32) < (-p) ∧ ¬ (-p) < (-9 : Int32) ∧ (-(-p)) = p ∧ (¬ p < (0 : Int32) ∧ p < (100 : Int32)) ∧ nar .byte (own_o p) = own_o p := by rcases h with rfl | rfl <;> decide
theorem own_d12g {p : Int32} (h : p = (1 : Int32) ∨ p = (2 : Int32)) (d : Value) : own_ones.getD p.toNatClampNeg d = .int (own_o p) := own_og (own_d12 h).2.2.2.2.2.1 d
theorem own_n45 : nar .byte (45 : Int32) = (45 : Int32) := rfl
theorem own_z0 (x : Int32) : ((0 : Int32) + x) = x := by simp
theorem own_nch (x : Int32) : nar .char (x.toUInt32.toUInt16.toUInt32.toInt32) = x.toUInt32.toUInt16.toUInt32.toInt32 := by
  apply Int32.toInt_inj.mp
  have a := c_i2c x
  have b := c_i2c (x.toUInt32.toUInt16.toUInt32.toInt32)
  show (x.toUInt32.toUInt16.toUInt32.toInt32).toUInt32.toUInt16.toUInt32.toInt32.toInt = _
  omega
theorem own_sml {c0 c1 : Int32} (h0 : ¬ (255 : Int32) < c0) (h1 : ¬ (255 : Int32) < c1) (r0 : 0 ≤ c0.toInt ∧ c0.toInt < 65536) (r1 : 0 ≤ c1.toInt ∧ c1.toInt < 65536) : ∀ c ∈ [c0, c1], 0 ≤ c.toInt ∧ c.toInt < 256 := by
  have e : (255 : Int32).toInt = 255 := rfl
  simp only [Int32.lt_iff_toInt_lt, e] at h0 h1
  intro c hc
  simp only [List.mem_cons, List.not_mem_nil, or_false] at hc
  rcases hc with rfl | rfl <;> omega
def own_M (Z : State) (h : Heap) (a b : Addr) (k : ClassId) (cs : List Int32) : Prop := Fld Z h a "java/lang/String" "value" "[B" (.ref b) ∧ ((Fld Z h a "java/lang/String" "coder" "B" (.int (0 : Int32)) ∧ Arv Z h b k .byte (Int32.ofNat cs.length) (cs.map own_b) (.int (0 : Int32)) ∧ ∀ c ∈ cs, 0 ≤ c.toInt ∧ c.toInt < 256) ∨ (Fld Z h a "java/lang/String" "coder" "B" (.int (1 : Int32)) ∧ Arv Z h b k .byte (Int32.ofNat (2 * cs.length)) (own_u cs) (.int (0 : Int32))))
theorem own_M.ext {Z : State} {h h' : Heap} {a b : Addr} {k : ClassId} {cs : List Int32} (M : own_M Z h a b k cs) (E : Ext h h') : own_M Z h' a b k cs := by
  obtain ⟨F, ⟨C, V, s⟩ | ⟨C, V⟩⟩ := M
  · exact ⟨F.ext E, Or.inl ⟨C.ext E, V.ext E, s⟩⟩
  · exact ⟨F.ext E, Or.inr ⟨C.ext E, V.ext E⟩⟩
theorem own_M.other {Z : State} {h h' : Heap} {a b x : Addr} {k : ClassId} {cs : List Int32} {sl : Nat} {v : Value} (M : own_M Z h a b k cs) (W : Wr h h' x sl v) (n1 : a ≠ x) (n2 : b ≠ x) : own_M Z h' a b k cs := by
  obtain ⟨F, ⟨C, V, s⟩ | ⟨C, V⟩⟩ := M
  · exact ⟨F.other W (Or.inl n1), Or.inl ⟨C.other W (Or.inl n1), V.other W n2, s⟩⟩
  · exact ⟨F.other W (Or.inl n1), Or.inr ⟨C.other W (Or.inl n1), V.other W n2⟩⟩
theorem own_M.keep {Z : State} {h h' : Heap} {a b : Addr} {k : ClassId} {cs : List Int32} {ws : List Addr} (M : own_M Z h a b k cs) (K : Keep h h' ws) (n1 : a ∉ ws) (n2 : b ∉ ws) : own_M Z h' a b k cs := by
  obtain ⟨F, ⟨C, V, s⟩ | ⟨C, V⟩⟩ := M
  · exact ⟨F.keep K n1, Or.inl ⟨C.keep K n1, V.keep K n2, s⟩⟩
  · exact ⟨F.keep K n1, Or.inr ⟨C.keep K n1, V.keep K n2⟩⟩
theorem own_M.lt {Z : State} {h : Heap} {a b : Addr} {k : ClassId} {cs : List Int32} (M : own_M Z h a b k cs) : b < h.size := by
  obtain ⟨F, ⟨C, V, s⟩ | ⟨C, V⟩⟩ := M
  · exact V.lt
  · exact V.lt
theorem own_M.ltA {Z : State} {h : Heap} {a b : Addr} {k : ClassId} {cs : List Int32} (M : own_M Z h a b k cs) : a < h.size := M.1.lt
theorem own_sh0 (x : Int32) : (x >>> ((0 : Int32) &&& 31)) = x := by
  apply Int32.toInt_inj.mp
  rw [c_ishr x (0 : Int32) 0 (by decide)]
  simp
theorem own_sh1 {n : Nat} (h : n < 500) : (Int32.ofNat (2 * n) >>> ((1 : Int32) &&& 31)) = Int32.ofNat n := by
  apply Int32.toInt_inj.mp
  rw [c_ishr (Int32.ofNat (2 * n)) (1 : Int32) 1 (by decide), own_onI (by omega), own_onI (by omega)]
  omega
def own_hs (c : Int32) : Int32 := if c < (55296 : Int32) then (0 : Int32) else if c < (56320 : Int32) then (1 : Int32) else (0 : Int32)
def own_ls (c : Int32) : Int32 := if c < (56320 : Int32) then (0 : Int32) else if c < (57344 : Int32) then (1 : Int32) else (0 : Int32)
def own_cp (c0 c1 : Int32) : Int32 := if (own_hs c0) = (0 : Int32) then (2 : Int32) else if (own_ls c1) = (0 : Int32) then (2 : Int32) else (1 : Int32)
theorem own_cp12 (c0 c1 : Int32) : own_cp c0 c1 = (1 : Int32) ∨ own_cp c0 c1 = (2 : Int32) := by
  unfold own_cp
  split
  · exact Or.inr rfl
  · split
    · exact Or.inr rfl
    · exact Or.inl rfl
theorem own_cp2 {c0 c1 : Int32} (h : ∀ c ∈ [c0, c1], 0 ≤ c.toInt ∧ c.toInt < 256) : own_cp c0 c1 = (2 : Int32) := by
  have q := h c0 (List.mem_cons_self ..)
  have e : (55296 : Int32).toInt = 55296 := rfl
  have z : own_hs c0 = (0 : Int32) := by
    unfold own_hs
    rw [if_pos (by rw [Int32.lt_iff_toInt_lt, e]; omega)]
  rw [own_cp, if_pos z]
theorem own_mem {cs : List Int32} {k : Nat} {c : Int32} (h : cs[k]? = some c) : c ∈ cs := List.mem_of_getElem? h
theorem own_kl {cs : List Int32} {k : Nat} {c : Int32} (h : cs[k]? = some c) : k < cs.length := (List.getElem?_eq_some_iff.mp h).1
theorem own_eqs {xs ds rs : List Int32} {r : Int32} (h : xs = ds ++ r :: rs) (d : Value) : (xs.map Value.int).getD ds.length d = .int r := by rw [h]; exact own_midd ds rs r d
theorem own_ncr {c : Int32} (h : 0 ≤ c.toInt ∧ c.toInt < 65536) : nar .char c = c := by
  apply Int32.toInt_inj.mp
  have b := c_i2c c
  show c.toUInt32.toUInt16.toUInt32.toInt32.toInt = _
  omega
def own_five (n : Int32) : Prop := n = (29 : Int32) ∨ n = (30 : Int32) ∨ n = (31 : Int32) ∨ n = (32 : Int32) ∨ n = (33 : Int32)
def own_L0 (Z : State) (h : Heap) (a b : Addr) (k : ClassId) (cs : List Int32) : Prop := Fld Z h a "java/lang/String" "value" "[B" (.ref b) ∧ Fld Z h a "java/lang/String" "coder" "B" (.int (0 : Int32)) ∧ Arv Z h b k .byte (Int32.ofNat cs.length) (cs.map own_b) (.int (0 : Int32))
theorem own_i2cr (x : Int32) : 0 ≤ (x.toUInt32.toUInt16.toUInt32.toInt32).toInt ∧ (x.toUInt32.toUInt16.toUInt32.toInt32).toInt < 65536 := (c_i2c x).2
theorem own_rgi {c : Prop} [Decidable c] {x y : Int32} (hx : 0 ≤ x.toInt ∧ x.toInt < 65536) (hy : 0 ≤ y.toInt ∧ y.toInt < 65536) : 0 ≤ (if c then x else y).toInt ∧ (if c then x else y).toInt < 65536 := by
  split
  · exact hx
  · exact hy
def own_pr (c0 c1 : Int32) : Int32 := if c0 < (55296 : Int32) then (0 : Int32) else (if (56319 : Int32) < c0 then (0 : Int32) else (if c1 < (56320 : Int32) then (0 : Int32) else (if (57343 : Int32) < c1 then (0 : Int32) else (1 : Int32))))
theorem own_cnt {c0 c1 : Int32} (r0 : 0 ≤ c0.toInt ∧ c0.toInt < 65536) (r1 : 0 ≤ c1.toInt ∧ c1.toInt < 65536) : (if (own_pr c0 c1) = (0 : Int32) then (50 : Int32) else (49 : Int32)) = own_o (own_cp c0 c1) := by
  have e1 : (56319 : Int32).toInt = 56319 := rfl
  have e2 : (56320 : Int32).toInt = 56320 := rfl
  have e3 : (57343 : Int32).toInt = 57343 := rfl
  have e4 : (57344 : Int32).toInt = 57344 := rfl
  have q1 : ((56319 : Int32) < c0) = ¬ (c0 < (56320 : Int32)) := by
    rw [Int32.lt_iff_toInt_lt, Int32.lt_iff_toInt_lt, e1, e2]; exact propext ⟨fun h => by omega, fun h => by omega⟩
  have q2 : ((57343 : Int32) < c1) = ¬ (c1 < (57344 : Int32)) := by
    rw [Int32.lt_iff_toInt_lt, Int32.lt_iff_toInt_lt, e3, e4]; exact propext ⟨fun h => by omega, fun h => by omega⟩
  unfold own_pr own_cp own_hs own_ls
  by_cases h1 : c0 < (55296 : Int32) <;> by_cases h2 : c0 < (56320 : Int32) <;> by_cases h3 : c1 < (56320 : Int32) <;> by_cases h4 : c1 < (57344 : Int32) <;> simp [h1, h2, h3, h4, q1, q2] <;> rfl
theorem own_cpr (c0 c1 : Int32) : 0 ≤ (own_o (own_cp c0 c1)).toInt ∧ (own_o (own_cp c0 c1)).toInt < 65536 := by
  rcases own_cp12 c0 c1 with h | h <;> rw [h] <;> decide

def own_abs (n : Int32) : Int32 := if n < (0 : Int32) then (-n) else n
def own_len (n : Int32) : Int32 := ((if n < (0 : Int32) then (1 : Int32) else (0 : Int32)) + (if (own_abs n) < (10 : Int32) then (1 : Int32) else (if (own_abs n) < (100 : Int32) then (2 : Int32) else (if (own_abs n) < (1000 : Int32) then (3 : Int32) else (4 : Int32)))))
def own_C (x : Int32) : Int32 := (((48 : Int32) + (x % (10 : Int32)))).toUInt32.toUInt16.toUInt32.toInt32
def own_p (k : Int32) : Int32 := if k = (0 : Int32) then (1 : Int32) else (if k = (1 : Int32) then (10 : Int32) else (if k = (2 : Int32) then (100 : Int32) else (1000 : Int32)))
theorem own_pnz (k : Int32) : own_p k ≠ 0 := by
  unfold own_p
  repeat' split
  all_goals decide
def own_ncd (a k : Int32) : Int32 := own_C (a / (own_p k))
def own_nc (n len i : Int32) : Int32 := if n < (0 : Int32) then (if i = (0 : Int32) then (45 : Int32) else own_ncd (-n) ((len - (1 : Int32)) - i)) else own_ncd n ((len - (1 : Int32)) - i)
def own_dig (n : Int32) : List Int32 := (List.range (own_len n).toNatClampNeg).map fun i => own_nc n (own_len n) (Int32.ofNat i)
theorem own_w64n (n : Int32) : ((n.toInt64)).toInt32 = n := by
  apply Int32.toInt_inj.mp
  have a := c_i2l n
  have b := c_l2i n.toInt64
  have c := rng32 n
  have d := rng32 (n.toInt64).toInt32
  omega
theorem own_w64p (n : Int32) : ((-(n.toInt64))).toInt32 = (-n) := by
  apply Int32.toInt_inj.mp
  have a := c_i2l n
  have a2 := c_lneg n.toInt64
  have b := c_l2i (-(n.toInt64))
  have c := rng32 (-n)
  have c2 := c_ineg n
  have d := rng32 (-(n.toInt64)).toInt32
  omega
theorem own_core {v w : Int32} (hv : 0 ≤ v.toInt ∧ v.toInt ≤ 8192) (hw : w.toInt = -v.toInt) : (-w).toInt = v.toInt ∧ (w / (100 : Int32)).toInt = -(v.toInt / 100) ∧ (-(w / (100 : Int32))).toInt = v.toInt / 100 ∧ (((w / (100 : Int32)) * (100 : Int32)) - w).toInt = v.toInt % 100 := by
  have e : (100 : Int32).toInt = 100 := rfl
  have a := c_ineg w
  have ra := rng32 (-w)
  have d := c_idiv w (100 : Int32) 100 e (by decide)
  have hd : (w / (100 : Int32)).toInt = -(v.toInt / 100) := by
    by_cases q : w.toInt < 0
    · rw [d.2 q, hw]; omega
    · rw [d.1 (by omega), hw]; omega
  have b := c_ineg (w / (100 : Int32))
  have rb := rng32 (-(w / (100 : Int32)))
  have m := c_imul (w / (100 : Int32)) (100 : Int32)
  have rm := rng32 ((w / (100 : Int32)) * (100 : Int32))
  have s := c_isub ((w / (100 : Int32)) * (100 : Int32)) w
  have rs := rng32 (((w / (100 : Int32)) * (100 : Int32)) - w)
  rw [e, hd] at m
  generalize ((w / (100 : Int32)) * (100 : Int32)) = y at *
  generalize (w / (100 : Int32)) = z at *
  refine ⟨by omega, hd, by omega, by omega⟩
theorem own_oI {x : Int32} (h : 0 ≤ x.toInt) : (own_o x).toInt = 48 + x.toInt % 10 := by
  have r := (c_irem x (10 : Int32) 10 rfl).1 h
  have a := c_iadd (48 : Int32) (x % (10 : Int32))
  have e : (48 : Int32).toInt = 48 := rfl
  have g := rng32 ((48 : Int32) + x % (10 : Int32))
  show ((48 : Int32) + x % (10 : Int32)).toInt = _
  rw [e, r] at a
  omega
theorem own_tI {x : Int32} (h : 0 ≤ x.toInt) (h1 : x.toInt < 1000) : (own_t x).toInt = 48 + x.toInt / 10 := by
  have r := (c_idiv x (10 : Int32) 10 rfl (by decide)).1 h
  have a := c_iadd (48 : Int32) (x / (10 : Int32))
  have e : (48 : Int32).toInt = 48 := rfl
  have g := rng32 ((48 : Int32) + x / (10 : Int32))
  show ((48 : Int32) + x / (10 : Int32)).toInt = _
  rw [e, r] at a
  omega
theorem own_CI {x : Int32} (h : 0 ≤ x.toInt) : (own_C x).toInt = 48 + x.toInt % 10 := by
  have r := (c_irem x (10 : Int32) 10 rfl).1 h
  have a := c_iadd (48 : Int32) (x % (10 : Int32))
  have e : (48 : Int32).toInt = 48 := rfl
  have g := rng32 ((48 : Int32) + x % (10 : Int32))
  have q := c_i2c ((48 : Int32) + x % (10 : Int32))
  show (((48 : Int32) + x % (10 : Int32)).toUInt32.toUInt16.toUInt32.toInt32).toInt = _
  rw [e, r] at a
  omega
theorem own_D0 {v : Int32} (h : 0 ≤ v.toInt) : (own_ncd v (0 : Int32)).toInt = 48 + v.toInt % 10 := by
  have d := (c_idiv v (1 : Int32) 1 rfl (by decide)).1 h
  have q := own_CI (x := v / (1 : Int32)) (by omega)
  show (own_C (v / (1 : Int32))).toInt = _
  rw [q, d]; omega
theorem own_D1 {v : Int32} (h : 0 ≤ v.toInt) : (own_ncd v (1 : Int32)).toInt = 48 + v.toInt / 10 % 10 := by
  have d := (c_idiv v (10 : Int32) 10 rfl (by decide)).1 h
  have q := own_CI (x := v / (10 : Int32)) (by omega)
  show (own_C (v / (10 : Int32))).toInt = _
  rw [q, d]
theorem own_D2 {v : Int32} (h : 0 ≤ v.toInt) : (own_ncd v (2 : Int32)).toInt = 48 + v.toInt / 100 % 10 := by
  have d := (c_idiv v (100 : Int32) 100 rfl (by decide)).1 h
  have q := own_CI (x := v / (100 : Int32)) (by omega)
  show (own_C (v / (100 : Int32))).toInt = _
  rw [q, d]
theorem own_D3 {v : Int32} (h : 0 ≤ v.toInt) : (own_ncd v (3 : Int32)).toInt = 48 + v.toInt / 1000 % 10 := by
  have d := (c_idiv v (1000 : Int32) 1000 rfl (by decide)).1 h
  have q := own_CI (x := v / (1000 : Int32)) (by omega)
  show (own_C (v / (1000 : Int32))).toInt = _
  rw [q, d]
theorem own_dg1 {v w : Int32} (hv : 0 ≤ v.toInt ∧ v.toInt ≤ 9) (hw : w.toInt = -v.toInt) : own_ncd v (0 : Int32) = (own_o (-w)) ∧ (0 ≤ (own_o (-w)).toInt ∧ (own_o (-w)).toInt < 128) := by
  obtain ⟨k1, k2, k3, k4⟩ := own_core (v := v) (w := w) (by omega) hw
  have z0 := own_oI (x := (-w)) (by omega)
  have y0 := own_D0 (v := v) (by omega)
  rw [k1] at z0
  exact ⟨Int32.toInt_inj.mp (by rw [y0, z0]; first | done | omega), by rw [z0]; omega⟩
theorem own_dg2 {v w : Int32} (hv : 10 ≤ v.toInt ∧ v.toInt ≤ 99) (hw : w.toInt = -v.toInt) : own_ncd v (1 : Int32) = (own_t (-w)) ∧ own_ncd v (0 : Int32) = (own_o (-w)) ∧ (0 ≤ (own_t (-w)).toInt ∧ (own_t (-w)).toInt < 128) ∧ (0 ≤ (own_o (-w)).toInt ∧ (own_o (-w)).toInt < 128) := by
  obtain ⟨k1, k2, k3, k4⟩ := own_core (v := v) (w := w) (by omega) hw
  have z0 := own_tI (x := (-w)) (by omega) (by omega)
  have z1 := own_oI (x := (-w)) (by omega)
  have y0 := own_D1 (v := v) (by omega)
  have y1 := own_D0 (v := v) (by omega)
  simp only [k1, k3, k4] at z0 z1
  exact ⟨Int32.toInt_inj.mp (by rw [y0, z0]; first | done | omega), Int32.toInt_inj.mp (by rw [y1, z1]; first | done | omega), by rw [z0]; omega, by rw [z1]; omega⟩
theorem own_dg3 {v w : Int32} (hv : 100 ≤ v.toInt ∧ v.toInt ≤ 999) (hw : w.toInt = -v.toInt) : own_ncd v (2 : Int32) = (own_o (-(w / (100 : Int32)))) ∧ own_ncd v (1 : Int32) = (own_t (((w / (100 : Int32)) * (100 : Int32)) - w)) ∧ own_ncd v (0 : Int32) = (own_o (((w / (100 : Int32)) * (100 : Int32)) - w)) ∧ (0 ≤ (own_o (-(w / (100 : Int32)))).toInt ∧ (own_o (-(w / (100 : Int32)))).toInt < 128) ∧ (0 ≤ (own_t (((w / (100 : Int32)) * (100 : Int32)) - w)).toInt ∧ (own_t (((w / (100 : Int32)) * (100 : Int32)) - w)).toInt < 128) ∧ (0 ≤ (own_o (((w / (100 : Int32)) * (100 : Int32)) - w)).toInt ∧ (own_o (((w / (100 : Int32)) * (100 : Int32)) - w)).toInt < 128) := by
  obtain ⟨k1, k2, k3, k4⟩ := own_core (v := v) (w := w) (by omega) hw
  have z0 := own_oI (x := (-(w / (100 : Int32)))) (by omega)
  have z1 := own_tI (x := (((w / (100 : Int32)) * (100 : Int32)) - w)) (by omega) (by omega)
  have z2 := own_oI (x := (((w / (100 : Int32)) * (100 : Int32)) - w)) (by omega)
  have y0 := own_D2 (v := v) (by omega)
  have y1 := own_D1 (v := v) (by omega)
  have y2 := own_D0 (v := v) (by omega)
  simp only [k1, k3, k4] at z0 z1 z2
  exact ⟨Int32.toInt_inj.mp (by rw [y0, z0]; first | done | omega), Int32.toInt_inj.mp (by rw [y1, z1]; first | done | omega), Int32.toInt_inj.mp (by rw [y2, z2]; first | done | omega), by rw [z0]; omega, by rw [z1]; omega, by rw [z2]; omega⟩
theorem own_dg4 {v w : Int32} (hv : 1000 ≤ v.toInt ∧ v.toInt ≤ 8192) (hw : w.toInt = -v.toInt) : own_ncd v (3 : Int32) = (own_t (-(w / (100 : Int32)))) ∧ own_ncd v (2 : Int32) = (own_o (-(w / (100 : Int32)))) ∧ own_ncd v (1 : Int32) = (own_t (((w / (100 : Int32)) * (100 : Int32)) - w)) ∧ own_ncd v (0 : Int32) = (own_o (((w / (100 : Int32)) * (100 : Int32)) - w)) ∧ (0 ≤ (own_t (-(w / (100 : Int32)))).toInt ∧ (own_t (-(w / (100 : Int32)))).toInt < 128) ∧ (0 ≤ (own_o (-(w / (100 : Int32)))).toInt ∧ (own_o (-(w / (100 : Int32)))).toInt < 128) ∧ (0 ≤ (own_t (((w / (100 : Int32)) * (100 : Int32)) - w)).toInt ∧ (own_t (((w / (100 : Int32)) * (100 : Int32)) - w)).toInt < 128) ∧ (0 ≤ (own_o (((w / (100 : Int32)) * (100 : Int32)) - w)).toInt ∧ (own_o (((w / (100 : Int32)) * (100 : Int32)) - w)).toInt < 128) := by
  obtain ⟨k1, k2, k3, k4⟩ := own_core (v := v) (w := w) (by omega) hw
  have z0 := own_tI (x := (-(w / (100 : Int32)))) (by omega) (by omega)
  have z1 := own_oI (x := (-(w / (100 : Int32)))) (by omega)
  have z2 := own_tI (x := (((w / (100 : Int32)) * (100 : Int32)) - w)) (by omega) (by omega)
  have z3 := own_oI (x := (((w / (100 : Int32)) * (100 : Int32)) - w)) (by omega)
  have y0 := own_D3 (v := v) (by omega)
  have y1 := own_D2 (v := v) (by omega)
  have y2 := own_D1 (v := v) (by omega)
  have y3 := own_D0 (v := v) (by omega)
  simp only [k1, k3, k4] at z0 z1 z2 z3
  exact ⟨Int32.toInt_inj.mp (by rw [y0, z0]; first | done | omega), Int32.toInt_inj.mp (by rw [y1, z1]; first | done | omega), Int32.toInt_inj.mp (by rw [y2, z2]; first | done | omega), Int32.toInt_inj.mp (by rw [y3, z3]; first | done | omega), by rw [z0]; omega, by rw [z1]; omega, by rw [z2]; omega, by rw [z3]; omega⟩
abbrev own_P01 (n : Int32) : Prop := ¬ (n.toInt64) < (0 : Int64) ∧ (-10 : Int64) < (-(n.toInt64)) ∧ (-2147483648 : Int64) < (-(n.toInt64)) ∧ ((-(n.toInt64))).toInt32 = (-n) ∧ (-100 : Int32) < (-n) ∧ ¬ (-n) < (-9 : Int32) ∧ (¬ (-(-n)) < (0 : Int32) ∧ (-(-n)) < (100 : Int32)) ∧ (∀ c ∈ own_dig n, 0 ≤ c.toInt ∧ c.toInt < 128) ∧ own_len n = (1 : Int32) ∧ own_dig n = [(own_o (-(-n)))]
theorem own_c01 {n : Int32} (h : 0 ≤ n.toInt ∧ n.toInt ≤ 9) : own_P01 n := by
  have i1 := c_i2l n
  have i2 := c_lneg n.toInt64
  have i3 := (-(n.toInt64)).le_toInt
  have i4 := (-(n.toInt64)).toInt_lt
  have i5 := c_ineg n
  have i6 := rng32 (-n)
  have hv : (n).toInt = n.toInt := by omega
  have hw : ((-n)).toInt = -(n).toInt := by omega
  obtain ⟨k1, k2, k3, k4⟩ := own_core (v := n) (w := (-n)) (by omega) hw
  have dgs := own_dg1 (v := n) (w := (-n)) (by omega) hw
  have hs : ¬ n < (0 : Int32) := by rw [Int32.lt_iff_toInt_lt, show (0 : Int32).toInt = 0 from rfl]; omega
  have ha : own_abs n = n := if_neg hs
  have fL : own_len n = (1 : Int32) := by rw [own_len, if_neg hs, ha, if_pos (show n < (10 : Int32) by rw [Int32.lt_iff_toInt_lt, show (10 : Int32).toInt = 10 from rfl]; omega)]; rfl
  have q0 : own_nc n (1 : Int32) (Int32.ofNat 0) = own_ncd n (0 : Int32) := if_neg hs
  have fD : own_dig n = [(own_o (-(-n)))] := by
    rw [own_dig, fL]
    show [own_nc n (1 : Int32) (Int32.ofNat 0)] = _
    rw [q0, dgs.1]
  have fA : ∀ c ∈ own_dig n, 0 ≤ c.toInt ∧ c.toInt < 128 := by
    rw [fD]; intro c hc
    simp only [List.mem_cons, List.not_mem_nil, or_false] at hc
    rcases hc with rfl
    · exact dgs.2
  exact ⟨by rw [Int64.lt_iff_toInt_lt, show (0 : Int64).toInt = 0 from rfl]; omega, by rw [Int64.lt_iff_toInt_lt, show (-10 : Int64).toInt = -10 from rfl]; omega, by rw [Int64.lt_iff_toInt_lt, show (-2147483648 : Int64).toInt = -2147483648 from rfl]; omega, own_w64p n, by rw [Int32.lt_iff_toInt_lt, show (-100 : Int32).toInt = -100 from rfl]; omega, by rw [Int32.lt_iff_toInt_lt, show (-9 : Int32).toInt = -9 from rfl]; omega, ⟨by rw [Int32.lt_iff_toInt_lt, show (0 : Int32).toInt = 0 from rfl]; omega, by rw [Int32.lt_iff_toInt_lt, show (100 : Int32).toInt = 100 from rfl]; omega⟩, fA, fL, fD⟩
abbrev own_P02 (n : Int32) : Prop := ¬ (n.toInt64) < (0 : Int64) ∧ ¬ (-10 : Int64) < (-(n.toInt64)) ∧ (-100 : Int64) < (-(n.toInt64)) ∧ (-2147483648 : Int64) < (-(n.toInt64)) ∧ ((-(n.toInt64))).toInt32 = (-n) ∧ (-100 : Int32) < (-n) ∧ (-n) < (-9 : Int32) ∧ (¬ (-(-n)) < (0 : Int32) ∧ (-(-n)) < (100 : Int32)) ∧ (∀ c ∈ own_dig n, 0 ≤ c.toInt ∧ c.toInt < 128) ∧ own_len n = (2 : Int32) ∧ own_dig n = [(own_t (-(-n))), (own_o (-(-n)))]
theorem own_c02 {n : Int32} (h : 10 ≤ n.toInt ∧ n.toInt ≤ 99) : own_P02 n := by
  have i1 := c_i2l n
  have i2 := c_lneg n.toInt64
  have i3 := (-(n.toInt64)).le_toInt
  have i4 := (-(n.toInt64)).toInt_lt
  have i5 := c_ineg n
  have i6 := rng32 (-n)
  have hv : (n).toInt = n.toInt := by omega
  have hw : ((-n)).toInt = -(n).toInt := by omega
  obtain ⟨k1, k2, k3, k4⟩ := own_core (v := n) (w := (-n)) (by omega) hw
  have dgs := own_dg2 (v := n) (w := (-n)) (by omega) hw
  have hs : ¬ n < (0 : Int32) := by rw [Int32.lt_iff_toInt_lt, show (0 : Int32).toInt = 0 from rfl]; omega
  have ha : own_abs n = n := if_neg hs
  have fL : own_len n = (2 : Int32) := by rw [own_len, if_neg hs, ha, if_neg (show ¬ n < (10 : Int32) by rw [Int32.lt_iff_toInt_lt, show (10 : Int32).toInt = 10 from rfl]; omega), if_pos (show n < (100 : Int32) by rw [Int32.lt_iff_toInt_lt, show (100 : Int32).toInt = 100 from rfl]; omega)]; rfl
  have q0 : own_nc n (2 : Int32) (Int32.ofNat 0) = own_ncd n (1 : Int32) := if_neg hs
  have q1 : own_nc n (2 : Int32) (Int32.ofNat 1) = own_ncd n (0 : Int32) := if_neg hs
  have fD : own_dig n = [(own_t (-(-n))), (own_o (-(-n)))] := by
    rw [own_dig, fL]
    show [own_nc n (2 : Int32) (Int32.ofNat 0), own_nc n (2 : Int32) (Int32.ofNat 1)] = _
    rw [q0, q1, dgs.1, dgs.2.1]
  have fA : ∀ c ∈ own_dig n, 0 ≤ c.toInt ∧ c.toInt < 128 := by
    rw [fD]; intro c hc
    simp only [List.mem_cons, List.not_mem_nil, or_false] at hc
    rcases hc with rfl | rfl
    · exact dgs.2.2.1
    · exact dgs.2.2.2
  exact ⟨by rw [Int64.lt_iff_toInt_lt, show (0 : Int64).toInt = 0 from rfl]; omega, by rw [Int64.lt_iff_toInt_lt, show (-10 : Int64).toInt = -10 from rfl]; omega, by rw [Int64.lt_iff_toInt_lt, show (-100 : Int64).toInt = -100 from rfl]; omega, by rw [Int64.lt_iff_toInt_lt, show (-2147483648 : Int64).toInt = -2147483648 from rfl]; omega, own_w64p n, by rw [Int32.lt_iff_toInt_lt, show (-100 : Int32).toInt = -100 from rfl]; omega, by rw [Int32.lt_iff_toInt_lt, show (-9 : Int32).toInt = -9 from rfl]; omega, ⟨by rw [Int32.lt_iff_toInt_lt, show (0 : Int32).toInt = 0 from rfl]; omega, by rw [Int32.lt_iff_toInt_lt, show (100 : Int32).toInt = 100 from rfl]; omega⟩, fA, fL, fD⟩
abbrev own_P03 (n : Int32) : Prop := ¬ (n.toInt64) < (0 : Int64) ∧ ¬ (-10 : Int64) < (-(n.toInt64)) ∧ ¬ (-100 : Int64) < (-(n.toInt64)) ∧ (-1000 : Int64) < (-(n.toInt64)) ∧ (-2147483648 : Int64) < (-(n.toInt64)) ∧ ((-(n.toInt64))).toInt32 = (-n) ∧ ¬ (-100 : Int32) < (-n) ∧ (-100 : Int32) < ((-n) / (100 : Int32)) ∧ ¬ ((-n) / (100 : Int32)) < (-9 : Int32) ∧ (¬ (-((-n) / (100 : Int32))) < (0 : Int32) ∧ (-((-n) / (100 : Int32))) < (100 : Int32)) ∧ (¬ ((((-n) / (100 : Int32)) * (100 : Int32)) - (-n)) < (0 : Int32) ∧ ((((-n) / (100 : Int32)) * (100 : Int32)) - (-n)) < (100 : Int32)) ∧ (∀ c ∈ own_dig n, 0 ≤ c.toInt ∧ c.toInt < 128) ∧ own_len n = (3 : Int32) ∧ own_dig n = [(own_o (-((-n) / (100 : Int32)))), (own_t ((((-n) / (100 : Int32)) * (100 : Int32)) - (-n))), (own_o ((((-n) / (100 : Int32)) * (100 : Int32)) - (-n)))]
theorem own_c03 {n : Int32} (h : 100 ≤ n.toInt ∧ n.toInt ≤ 999) : own_P03 n := by
  have i1 := c_i2l n
  have i2 := c_lneg n.toInt64
  have i3 := (-(n.toInt64)).le_toInt
  have i4 := (-(n.toInt64)).toInt_lt
  have i5 := c_ineg n
  have i6 := rng32 (-n)
  have hv : (n).toInt = n.toInt := by omega
  have hw : ((-n)).toInt = -(n).toInt := by omega
  obtain ⟨k1, k2, k3, k4⟩ := own_core (v := n) (w := (-n)) (by omega) hw
  have dgs := own_dg3 (v := n) (w := (-n)) (by omega) hw
  have hs : ¬ n < (0 : Int32) := by rw [Int32.lt_iff_toInt_lt, show (0 : Int32).toInt = 0 from rfl]; omega
  have ha : own_abs n = n := if_neg hs
  have fL : own_len n = (3 : Int32) := by rw [own_len, if_neg hs, ha, if_neg (show ¬ n < (10 : Int32) by rw [Int32.lt_iff_toInt_lt, show (10 : Int32).toInt = 10 from rfl]; omega), if_neg (show ¬ n < (100 : Int32) by rw [Int32.lt_iff_toInt_lt, show (100 : Int32).toInt = 100 from rfl]; omega), if_pos (show n < (1000 : Int32) by rw [Int32.lt_iff_toInt_lt, show (1000 : Int32).toInt = 1000 from rfl]; omega)]; rfl
  have q0 : own_nc n (3 : Int32) (Int32.ofNat 0) = own_ncd n (2 : Int32) := if_neg hs
  have q1 : own_nc n (3 : Int32) (Int32.ofNat 1) = own_ncd n (1 : Int32) := if_neg hs
  have q2 : own_nc n (3 : Int32) (Int32.ofNat 2) = own_ncd n (0 : Int32) := if_neg hs
  have fD : own_dig n = [(own_o (-((-n) / (100 : Int32)))), (own_t ((((-n) / (100 : Int32)) * (100 : Int32)) - (-n))), (own_o ((((-n) / (100 : Int32)) * (100 : Int32)) - (-n)))] := by
    rw [own_dig, fL]
    show [own_nc n (3 : Int32) (Int32.ofNat 0), own_nc n (3 : Int32) (Int32.ofNat 1), own_nc n (3 : Int32) (Int32.ofNat 2)] = _
    rw [q0, q1, q2, dgs.1, dgs.2.1, dgs.2.2.1]
  have fA : ∀ c ∈ own_dig n, 0 ≤ c.toInt ∧ c.toInt < 128 := by
    rw [fD]; intro c hc
    simp only [List.mem_cons, List.not_mem_nil, or_false] at hc
    rcases hc with rfl | rfl | rfl
    · exact dgs.2.2.2.1
    · exact dgs.2.2.2.2.1
    · exact dgs.2.2.2.2.2
  exact ⟨by rw [Int64.lt_iff_toInt_lt, show (0 : Int64).toInt = 0 from rfl]; omega, by rw [Int64.lt_iff_toInt_lt, show (-10 : Int64).toInt = -10 from rfl]; omega, by rw [Int64.lt_iff_toInt_lt, show (-100 : Int64).toInt = -100 from rfl]; omega, by rw [Int64.lt_iff_toInt_lt, show (-1000 : Int64).toInt = -1000 from rfl]; omega, by rw [Int64.lt_iff_toInt_lt, show (-2147483648 : Int64).toInt = -2147483648 from rfl]; omega, own_w64p n, by rw [Int32.lt_iff_toInt_lt, show (-100 : Int32).toInt = -100 from rfl]; omega, by rw [Int32.lt_iff_toInt_lt, show (-100 : Int32).toInt = -100 from rfl]; omega, by rw [Int32.lt_iff_toInt_lt, show (-9 : Int32).toInt = -9 from rfl]; omega, ⟨by rw [Int32.lt_iff_toInt_lt, show (0 : Int32).toInt = 0 from rfl]; omega, by rw [Int32.lt_iff_toInt_lt, show (100 : Int32).toInt = 100 from rfl]; omega⟩, ⟨by rw [Int32.lt_iff_toInt_lt, show (0 : Int32).toInt = 0 from rfl]; omega, by rw [Int32.lt_iff_toInt_lt, show (100 : Int32).toInt = 100 from rfl]; omega⟩, fA, fL, fD⟩
abbrev own_P04 (n : Int32) : Prop := ¬ (n.toInt64) < (0 : Int64) ∧ ¬ (-10 : Int64) < (-(n.toInt64)) ∧ ¬ (-100 : Int64) < (-(n.toInt64)) ∧ ¬ (-1000 : Int64) < (-(n.toInt64)) ∧ (-10000 : Int64) < (-(n.toInt64)) ∧ (-2147483648 : Int64) < (-(n.toInt64)) ∧ ((-(n.toInt64))).toInt32 = (-n) ∧ ¬ (-100 : Int32) < (-n) ∧ (-100 : Int32) < ((-n) / (100 : Int32)) ∧ ((-n) / (100 : Int32)) < (-9 : Int32) ∧ (¬ (-((-n) / (100 : Int32))) < (0 : Int32) ∧ (-((-n) / (100 : Int32))) < (100 : Int32)) ∧ (¬ ((((-n) / (100 : Int32)) * (100 : Int32)) - (-n)) < (0 : Int32) ∧ ((((-n) / (100 : Int32)) * (100 : Int32)) - (-n)) < (100 : Int32)) ∧ (∀ c ∈ own_dig n, 0 ≤ c.toInt ∧ c.toInt < 128) ∧ own_len n = (4 : Int32) ∧ own_dig n = [(own_t (-((-n) / (100 : Int32)))), (own_o (-((-n) / (100 : Int32)))), (own_t ((((-n) / (100 : Int32)) * (100 : Int32)) - (-n))), (own_o ((((-n) / (100 : Int32)) * (100 : Int32)) - (-n)))]
theorem own_c04 {n : Int32} (h : 1000 ≤ n.toInt ∧ n.toInt ≤ 8191) : own_P04 n := by
  have i1 := c_i2l n
  have i2 := c_lneg n.toInt64
  have i3 := (-(n.toInt64)).le_toInt
  have i4 := (-(n.toInt64)).toInt_lt
  have i5 := c_ineg n
  have i6 := rng32 (-n)
  have hv : (n).toInt = n.toInt := by omega
  have hw : ((-n)).toInt = -(n).toInt := by omega
  obtain ⟨k1, k2, k3, k4⟩ := own_core (v := n) (w := (-n)) (by omega) hw
  have dgs := own_dg4 (v := n) (w := (-n)) (by omega) hw
  have hs : ¬ n < (0 : Int32) := by rw [Int32.lt_iff_toInt_lt, show (0 : Int32).toInt = 0 from rfl]; omega
  have ha : own_abs n = n := if_neg hs
  have fL : own_len n = (4 : Int32) := by rw [own_len, if_neg hs, ha, if_neg (show ¬ n < (10 : Int32) by rw [Int32.lt_iff_toInt_lt, show (10 : Int32).toInt = 10 from rfl]; omega), if_neg (show ¬ n < (100 : Int32) by rw [Int32.lt_iff_toInt_lt, show (100 : Int32).toInt = 100 from rfl]; omega), if_neg (show ¬ n < (1000 : Int32) by rw [Int32.lt_iff_toInt_lt, show (1000 : Int32).toInt = 1000 from rfl]; omega)]; rfl
  have q0 : own_nc n (4 : Int32) (Int32.ofNat 0) = own_ncd n (3 : Int32) := if_neg hs
  have q1 : own_nc n (4 : Int32) (Int32.ofNat 1) = own_ncd n (2 : Int32) := if_neg hs
  have q2 : own_nc n (4 : Int32) (Int32.ofNat 2) = own_ncd n (1 : Int32) := if_neg hs
  have q3 : own_nc n (4 : Int32) (Int32.ofNat 3) = own_ncd n (0 : Int32) := if_neg hs
  have fD : own_dig n = [(own_t (-((-n) / (100 : Int32)))), (own_o (-((-n) / (100 : Int32)))), (own_t ((((-n) / (100 : Int32)) * (100 : Int32)) - (-n))), (own_o ((((-n) / (100 : Int32)) * (100 : Int32)) - (-n)))] := by
    rw [own_dig, fL]
    show [own_nc n (4 : Int32) (Int32.ofNat 0), own_nc n (4 : Int32) (Int32.ofNat 1), own_nc n (4 : Int32) (Int32.ofNat 2), own_nc n (4 : Int32) (Int32.ofNat 3)] = _
    rw [q0, q1, q2, q3, dgs.1, dgs.2.1, dgs.2.2.1, dgs.2.2.2.1]
  have fA : ∀ c ∈ own_dig n, 0 ≤ c.toInt ∧ c.toInt < 128 := by
    rw [fD]; intro c hc
    simp only [List.mem_cons, List.not_mem_nil, or_false] at hc
    rcases hc with rfl | rfl | rfl | rfl
    · exact dgs.2.2.2.2.1
    · exact dgs.2.2.2.2.2.1
    · exact dgs.2.2.2.2.2.2.1
    · exact dgs.2.2.2.2.2.2.2
  exact ⟨by rw [Int64.lt_iff_toInt_lt, show (0 : Int64).toInt = 0 from rfl]; omega, by rw [Int64.lt_iff_toInt_lt, show (-10 : Int64).toInt = -10 from rfl]; omega, by rw [Int64.lt_iff_toInt_lt, show (-100 : Int64).toInt = -100 from rfl]; omega, by rw [Int64.lt_iff_toInt_lt, show (-1000 : Int64).toInt = -1000 from rfl]; omega, by rw [Int64.lt_iff_toInt_lt, show (-10000 : Int64).toInt = -10000 from rfl]; omega, by rw [Int64.lt_iff_toInt_lt, show (-2147483648 : Int64).toInt = -2147483648 from rfl]; omega, own_w64p n, by rw [Int32.lt_iff_toInt_lt, show (-100 : Int32).toInt = -100 from rfl]; omega, by rw [Int32.lt_iff_toInt_lt, show (-100 : Int32).toInt = -100 from rfl]; omega, by rw [Int32.lt_iff_toInt_lt, show (-9 : Int32).toInt = -9 from rfl]; omega, ⟨by rw [Int32.lt_iff_toInt_lt, show (0 : Int32).toInt = 0 from rfl]; omega, by rw [Int32.lt_iff_toInt_lt, show (100 : Int32).toInt = 100 from rfl]; omega⟩, ⟨by rw [Int32.lt_iff_toInt_lt, show (0 : Int32).toInt = 0 from rfl]; omega, by rw [Int32.lt_iff_toInt_lt, show (100 : Int32).toInt = 100 from rfl]; omega⟩, fA, fL, fD⟩
abbrev own_P11 (n : Int32) : Prop := (n.toInt64) < (0 : Int64) ∧ (-10 : Int64) < (n.toInt64) ∧ (-2147483648 : Int64) < (n.toInt64) ∧ ((n.toInt64)).toInt32 = n ∧ (-100 : Int32) < n ∧ ¬ n < (-9 : Int32) ∧ (¬ (-n) < (0 : Int32) ∧ (-n) < (100 : Int32)) ∧ (∀ c ∈ own_dig n, 0 ≤ c.toInt ∧ c.toInt < 128) ∧ own_len n = (2 : Int32) ∧ own_dig n = [(45 : Int32), (own_o (-n))]
theorem own_c11 {n : Int32} (h : 1 ≤ -n.toInt ∧ -n.toInt ≤ 9) : own_P11 n := by
  have i1 := c_i2l n
  have i2 := c_lneg n.toInt64
  have i3 := (-(n.toInt64)).le_toInt
  have i4 := (-(n.toInt64)).toInt_lt
  have i5 := c_ineg n
  have i6 := rng32 (-n)
  have hv : ((-n)).toInt = -n.toInt := by omega
  have hw : (n).toInt = -((-n)).toInt := by omega
  obtain ⟨k1, k2, k3, k4⟩ := own_core (v := (-n)) (w := n) (by omega) hw
  have dgs := own_dg1 (v := (-n)) (w := n) (by omega) hw
  have hs : n < (0 : Int32) := by rw [Int32.lt_iff_toInt_lt, show (0 : Int32).toInt = 0 from rfl]; omega
  have ha : own_abs n = (-n) := if_pos hs
  have fL : own_len n = (2 : Int32) := by rw [own_len, if_pos hs, ha, if_pos (show (-n) < (10 : Int32) by rw [Int32.lt_iff_toInt_lt, show (10 : Int32).toInt = 10 from rfl]; omega)]; rfl
  have q0 : own_nc n (2 : Int32) (Int32.ofNat 1) = own_ncd (-n) (0 : Int32) := (if_pos hs).trans (if_neg (by decide))
  have qm : own_nc n (2 : Int32) (Int32.ofNat 0) = (45 : Int32) := (if_pos hs).trans (if_pos rfl)
  have fD : own_dig n = [(45 : Int32), (own_o (-n))] := by
    rw [own_dig, fL]
    show [own_nc n (2 : Int32) (Int32.ofNat 0), own_nc n (2 : Int32) (Int32.ofNat 1)] = _
    rw [qm, q0, dgs.1]
  have fA : ∀ c ∈ own_dig n, 0 ≤ c.toInt ∧ c.toInt < 128 := by
    rw [fD]; intro c hc
    simp only [List.mem_cons, List.not_mem_nil, or_false] at hc
    rcases hc with rfl | rfl
    · decide
    · exact dgs.2
  exact ⟨by rw [Int64.lt_iff_toInt_lt, show (0 : Int64).toInt = 0 from rfl]; omega, by rw [Int64.lt_iff_toInt_lt, show (-10 : Int64).toInt = -10 from rfl]; omega, by rw [Int64.lt_iff_toInt_lt, show (-2147483648 : Int64).toInt = -2147483648 from rfl]; omega, own_w64n n, by rw [Int32.lt_iff_toInt_lt, show (-100 : Int32).toInt = -100 from rfl]; omega, by rw [Int32.lt_iff_toInt_lt, show (-9 : Int32).toInt = -9 from rfl]; omega, ⟨by rw [Int32.lt_iff_toInt_lt, show (0 : Int32).toInt = 0 from rfl]; omega, by rw [Int32.lt_iff_toInt_lt, show (100 : Int32).toInt = 100 from rfl]; omega⟩, fA, fL, fD⟩
abbrev own_P12 (n : Int32) : Prop := (n.toInt64) < (0 : Int64) ∧ ¬ (-10 : Int64) < (n.toInt64) ∧ (-100 : Int64) < (n.toInt64) ∧ (-2147483648 : Int64) < (n.toInt64) ∧ ((n.toInt64)).toInt32 = n ∧ (-100 : Int32) < n ∧ n < (-9 : Int32) ∧ (¬ (-n) < (0 : Int32) ∧ (-n) < (100 : Int32)) ∧ (∀ c ∈ own_dig n, 0 ≤ c.toInt ∧ c.toInt < 128) ∧ own_len n = (3 : Int32) ∧ own_dig n = [(45 : Int32), (own_t (-n)), (own_o (-n))]
theorem own_c12 {n : Int32} (h : 10 ≤ -n.toInt ∧ -n.toInt ≤ 99) : own_P12 n := by
  have i1 := c_i2l n
  have i2 := c_lneg n.toInt64
  have i3 := (-(n.toInt64)).le_toInt
  have i4 := (-(n.toInt64)).toInt_lt
  have i5 := c_ineg n
  have i6 := rng32 (-n)
  have hv : ((-n)).toInt = -n.toInt := by omega
  have hw : (n).toInt = -((-n)).toInt := by omega
  obtain ⟨k1, k2, k3, k4⟩ := own_core (v := (-n)) (w := n) (by omega) hw
  have dgs := own_dg2 (v := (-n)) (w := n) (by omega) hw
  have hs : n < (0 : Int32) := by rw [Int32.lt_iff_toInt_lt, show (0 : Int32).toInt = 0 from rfl]; omega
  have ha : own_abs n = (-n) := if_pos hs
  have fL : own_len n = (3 : Int32) := by rw [own_len, if_pos hs, ha, if_neg (show ¬ (-n) < (10 : Int32) by rw [Int32.lt_iff_toInt_lt, show (10 : Int32).toInt = 10 from rfl]; omega), if_pos (show (-n) < (100 : Int32) by rw [Int32.lt_iff_toInt_lt, show (100 : Int32).toInt = 100 from rfl]; omega)]; rfl
  have q0 : own_nc n (3 : Int32) (Int32.ofNat 1) = own_ncd (-n) (1 : Int32) := (if_pos hs).trans (if_neg (by decide))
  have q1 : own_nc n (3 : Int32) (Int32.ofNat 2) = own_ncd (-n) (0 : Int32) := (if_pos hs).trans (if_neg (by decide))
  have qm : own_nc n (3 : Int32) (Int32.ofNat 0) = (45 : Int32) := (if_pos hs).trans (if_pos rfl)
  have fD : own_dig n = [(45 : Int32), (own_t (-n)), (own_o (-n))] := by
    rw [own_dig, fL]
    show [own_nc n (3 : Int32) (Int32.ofNat 0), own_nc n (3 : Int32) (Int32.ofNat 1), own_nc n (3 : Int32) (Int32.ofNat 2)] = _
    rw [qm, q0, q1, dgs.1, dgs.2.1]
  have fA : ∀ c ∈ own_dig n, 0 ≤ c.toInt ∧ c.toInt < 128 := by
    rw [fD]; intro c hc
    simp only [List.mem_cons, List.not_mem_nil, or_false] at hc
    rcases hc with rfl | rfl | rfl
    · decide
    · exact dgs.2.2.1
    · exact dgs.2.2.2
  exact ⟨by rw [Int64.lt_iff_toInt_lt, show (0 : Int64).toInt = 0 from rfl]; omega, by rw [Int64.lt_iff_toInt_lt, show (-10 : Int64).toInt = -10 from rfl]; omega, by rw [Int64.lt_iff_toInt_lt, show (-100 : Int64).toInt = -100 from rfl]; omega, by rw [Int64.lt_iff_toInt_lt, show (-2147483648 : Int64).toInt = -2147483648 from rfl]; omega, own_w64n n, by rw [Int32.lt_iff_toInt_lt, show (-100 : Int32).toInt = -100 from rfl]; omega, by rw [Int32.lt_iff_toInt_lt, show (-9 : Int32).toInt = -9 from rfl]; omega, ⟨by rw [Int32.lt_iff_toInt_lt, show (0 : Int32).toInt = 0 from rfl]; omega, by rw [Int32.lt_iff_toInt_lt, show (100 : Int32).toInt = 100 from rfl]; omega⟩, fA, fL, fD⟩
abbrev own_P13 (n : Int32) : Prop := (n.toInt64) < (0 : Int64) ∧ ¬ (-10 : Int64) < (n.toInt64) ∧ ¬ (-100 : Int64) < (n.toInt64) ∧ (-1000 : Int64) < (n.toInt64) ∧ (-2147483648 : Int64) < (n.toInt64) ∧ ((n.toInt64)).toInt32 = n ∧ ¬ (-100 : Int32) < n ∧ (-100 : Int32) < (n / (100 : Int32)) ∧ ¬ (n / (100 : Int32)) < (-9 : Int32) ∧ (¬ (-(n / (100 : Int32))) < (0 : Int32) ∧ (-(n / (100 : Int32))) < (100 : Int32)) ∧ (¬ (((n / (100 : Int32)) * (100 : Int32)) - n) < (0 : Int32) ∧ (((n / (100 : Int32)) * (100 : Int32)) - n) < (100 : Int32)) ∧ (∀ c ∈ own_dig n, 0 ≤ c.toInt ∧ c.toInt < 128) ∧ own_len n = (4 : Int32) ∧ own_dig n = [(45 : Int32), (own_o (-(n / (100 : Int32)))), (own_t (((n / (100 : Int32)) * (100 : Int32)) - n)), (own_o (((n / (100 : Int32)) * (100 : Int32)) - n))]
theorem own_c13 {n : Int32} (h : 100 ≤ -n.toInt ∧ -n.toInt ≤ 999) : own_P13 n := by
  have i1 := c_i2l n
  have i2 := c_lneg n.toInt64
  have i3 := (-(n.toInt64)).le_toInt
  have i4 := (-(n.toInt64)).toInt_lt
  have i5 := c_ineg n
  have i6 := rng32 (-n)
  have hv : ((-n)).toInt = -n.toInt := by omega
  have hw : (n).toInt = -((-n)).toInt := by omega
  obtain ⟨k1, k2, k3, k4⟩ := own_core (v := (-n)) (w := n) (by omega) hw
  have dgs := own_dg3 (v := (-n)) (w := n) (by omega) hw
  have hs : n < (0 : Int32) := by rw [Int32.lt_iff_toInt_lt, show (0 : Int32).toInt = 0 from rfl]; omega
  have ha : own_abs n = (-n) := if_pos hs
  have fL : own_len n = (4 : Int32) := by rw [own_len, if_pos hs, ha, if_neg (show ¬ (-n) < (10 : Int32) by rw [Int32.lt_iff_toInt_lt, show (10 : Int32).toInt = 10 from rfl]; omega), if_neg (show ¬ (-n) < (100 : Int32) by rw [Int32.lt_iff_toInt_lt, show (100 : Int32).toInt = 100 from rfl]; omega), if_pos (show (-n) < (1000 : Int32) by rw [Int32.lt_iff_toInt_lt, show (1000 : Int32).toInt = 1000 from rfl]; omega)]; rfl
  have q0 : own_nc n (4 : Int32) (Int32.ofNat 1) = own_ncd (-n) (2 : Int32) := (if_pos hs).trans (if_neg (by decide))
  have q1 : own_nc n (4 : Int32) (Int32.ofNat 2) = own_ncd (-n) (1 : Int32) := (if_pos hs).trans (if_neg (by decide))
  have q2 : own_nc n (4 : Int32) (Int32.ofNat 3) = own_ncd (-n) (0 : Int32) := (if_pos hs).trans (if_neg (by decide))
  have qm : own_nc n (4 : Int32) (Int32.ofNat 0) = (45 : Int32) := (if_pos hs).trans (if_pos rfl)
  have fD : own_dig n = [(45 : Int32), (own_o (-(n / (100 : Int32)))), (own_t (((n / (100 : Int32)) * (100 : Int32)) - n)), (own_o (((n / (100 : Int32)) * (100 : Int32)) - n))] := by
    rw [own_dig, fL]
    show [own_nc n (4 : Int32) (Int32.ofNat 0), own_nc n (4 : Int32) (Int32.ofNat 1), own_nc n (4 : Int32) (Int32.ofNat 2), own_nc n (4 : Int32) (Int32.ofNat 3)] = _
    rw [qm, q0, q1, q2, dgs.1, dgs.2.1, dgs.2.2.1]
  have fA : ∀ c ∈ own_dig n, 0 ≤ c.toInt ∧ c.toInt < 128 := by
    rw [fD]; intro c hc
    simp only [List.mem_cons, List.not_mem_nil, or_false] at hc
    rcases hc with rfl | rfl | rfl | rfl
    · decide
    · exact dgs.2.2.2.1
    · exact dgs.2.2.2.2.1
    · exact dgs.2.2.2.2.2
  exact ⟨by rw [Int64.lt_iff_toInt_lt, show (0 : Int64).toInt = 0 from rfl]; omega, by rw [Int64.lt_iff_toInt_lt, show (-10 : Int64).toInt = -10 from rfl]; omega, by rw [Int64.lt_iff_toInt_lt, show (-100 : Int64).toInt = -100 from rfl]; omega, by rw [Int64.lt_iff_toInt_lt, show (-1000 : Int64).toInt = -1000 from rfl]; omega, by rw [Int64.lt_iff_toInt_lt, show (-2147483648 : Int64).toInt = -2147483648 from rfl]; omega, own_w64n n, by rw [Int32.lt_iff_toInt_lt, show (-100 : Int32).toInt = -100 from rfl]; omega, by rw [Int32.lt_iff_toInt_lt, show (-100 : Int32).toInt = -100 from rfl]; omega, by rw [Int32.lt_iff_toInt_lt, show (-9 : Int32).toInt = -9 from rfl]; omega, ⟨by rw [Int32.lt_iff_toInt_lt, show (0 : Int32).toInt = 0 from rfl]; omega, by rw [Int32.lt_iff_toInt_lt, show (100 : Int32).toInt = 100 from rfl]; omega⟩, ⟨by rw [Int32.lt_iff_toInt_lt, show (0 : Int32).toInt = 0 from rfl]; omega, by rw [Int32.lt_iff_toInt_lt, show (100 : Int32).toInt = 100 from rfl]; omega⟩, fA, fL, fD⟩
abbrev own_P14 (n : Int32) : Prop := (n.toInt64) < (0 : Int64) ∧ ¬ (-10 : Int64) < (n.toInt64) ∧ ¬ (-100 : Int64) < (n.toInt64) ∧ ¬ (-1000 : Int64) < (n.toInt64) ∧ (-10000 : Int64) < (n.toInt64) ∧ (-2147483648 : Int64) < (n.toInt64) ∧ ((n.toInt64)).toInt32 = n ∧ ¬ (-100 : Int32) < n ∧ (-100 : Int32) < (n / (100 : Int32)) ∧ (n / (100 : Int32)) < (-9 : Int32) ∧ (¬ (-(n / (100 : Int32))) < (0 : Int32) ∧ (-(n / (100 : Int32))) < (100 : Int32)) ∧ (¬ (((n / (100 : Int32)) * (100 : Int32)) - n) < (0 : Int32) ∧ (((n / (100 : Int32)) * (100 : Int32)) - n) < (100 : Int32)) ∧ (∀ c ∈ own_dig n, 0 ≤ c.toInt ∧ c.toInt < 128) ∧ own_len n = (5 : Int32) ∧ own_dig n = [(45 : Int32), (own_t (-(n / (100 : Int32)))), (own_o (-(n / (100 : Int32)))), (own_t (((n / (100 : Int32)) * (100 : Int32)) - n)), (own_o (((n / (100 : Int32)) * (100 : Int32)) - n))]
theorem own_c14 {n : Int32} (h : 1000 ≤ -n.toInt ∧ -n.toInt ≤ 8192) : own_P14 n := by
  have i1 := c_i2l n
  have i2 := c_lneg n.toInt64
  have i3 := (-(n.toInt64)).le_toInt
  have i4 := (-(n.toInt64)).toInt_lt
  have i5 := c_ineg n
  have i6 := rng32 (-n)
  have hv : ((-n)).toInt = -n.toInt := by omega
  have hw : (n).toInt = -((-n)).toInt := by omega
  obtain ⟨k1, k2, k3, k4⟩ := own_core (v := (-n)) (w := n) (by omega) hw
  have dgs := own_dg4 (v := (-n)) (w := n) (by omega) hw
  have hs : n < (0 : Int32) := by rw [Int32.lt_iff_toInt_lt, show (0 : Int32).toInt = 0 from rfl]; omega
  have ha : own_abs n = (-n) := if_pos hs
  have fL : own_len n = (5 : Int32) := by rw [own_len, if_pos hs, ha, if_neg (show ¬ (-n) < (10 : Int32) by rw [Int32.lt_iff_toInt_lt, show (10 : Int32).toInt = 10 from rfl]; omega), if_neg (show ¬ (-n) < (100 : Int32) by rw [Int32.lt_iff_toInt_lt, show (100 : Int32).toInt = 100 from rfl]; omega), if_neg (show ¬ (-n) < (1000 : Int32) by rw [Int32.lt_iff_toInt_lt, show (1000 : Int32).toInt = 1000 from rfl]; omega)]; rfl
  have q0 : own_nc n (5 : Int32) (Int32.ofNat 1) = own_ncd (-n) (3 : Int32) := (if_pos hs).trans (if_neg (by decide))
  have q1 : own_nc n (5 : Int32) (Int32.ofNat 2) = own_ncd (-n) (2 : Int32) := (if_pos hs).trans (if_neg (by decide))
  have q2 : own_nc n (5 : Int32) (Int32.ofNat 3) = own_ncd (-n) (1 : Int32) := (if_pos hs).trans (if_neg (by decide))
  have q3 : own_nc n (5 : Int32) (Int32.ofNat 4) = own_ncd (-n) (0 : Int32) := (if_pos hs).trans (if_neg (by decide))
  have qm : own_nc n (5 : Int32) (Int32.ofNat 0) = (45 : Int32) := (if_pos hs).trans (if_pos rfl)
  have fD : own_dig n = [(45 : Int32), (own_t (-(n / (100 : Int32)))), (own_o (-(n / (100 : Int32)))), (own_t (((n / (100 : Int32)) * (100 : Int32)) - n)), (own_o (((n / (100 : Int32)) * (100 : Int32)) - n))] := by
    rw [own_dig, fL]
    show [own_nc n (5 : Int32) (Int32.ofNat 0), own_nc n (5 : Int32) (Int32.ofNat 1), own_nc n (5 : Int32) (Int32.ofNat 2), own_nc n (5 : Int32) (Int32.ofNat 3), own_nc n (5 : Int32) (Int32.ofNat 4)] = _
    rw [qm, q0, q1, q2, q3, dgs.1, dgs.2.1, dgs.2.2.1, dgs.2.2.2.1]
  have fA : ∀ c ∈ own_dig n, 0 ≤ c.toInt ∧ c.toInt < 128 := by
    rw [fD]; intro c hc
    simp only [List.mem_cons, List.not_mem_nil, or_false] at hc
    rcases hc with rfl | rfl | rfl | rfl | rfl
    · decide
    · exact dgs.2.2.2.2.1
    · exact dgs.2.2.2.2.2.1
    · exact dgs.2.2.2.2.2.2.1
    · exact dgs.2.2.2.2.2.2.2
  exact ⟨by rw [Int64.lt_iff_toInt_lt, show (0 : Int64).toInt = 0 from rfl]; omega, by rw [Int64.lt_iff_toInt_lt, show (-10 : Int64).toInt = -10 from rfl]; omega, by rw [Int64.lt_iff_toInt_lt, show (-100 : Int64).toInt = -100 from rfl]; omega, by rw [Int64.lt_iff_toInt_lt, show (-1000 : Int64).toInt = -1000 from rfl]; omega, by rw [Int64.lt_iff_toInt_lt, show (-10000 : Int64).toInt = -10000 from rfl]; omega, by rw [Int64.lt_iff_toInt_lt, show (-2147483648 : Int64).toInt = -2147483648 from rfl]; omega, own_w64n n, by rw [Int32.lt_iff_toInt_lt, show (-100 : Int32).toInt = -100 from rfl]; omega, by rw [Int32.lt_iff_toInt_lt, show (-100 : Int32).toInt = -100 from rfl]; omega, by rw [Int32.lt_iff_toInt_lt, show (-9 : Int32).toInt = -9 from rfl]; omega, ⟨by rw [Int32.lt_iff_toInt_lt, show (0 : Int32).toInt = 0 from rfl]; omega, by rw [Int32.lt_iff_toInt_lt, show (100 : Int32).toInt = 100 from rfl]; omega⟩, ⟨by rw [Int32.lt_iff_toInt_lt, show (0 : Int32).toInt = 0 from rfl]; omega, by rw [Int32.lt_iff_toInt_lt, show (100 : Int32).toInt = 100 from rfl]; omega⟩, fA, fL, fD⟩
theorem own_cases (n : Int32) (h : -8192 ≤ n.toInt ∧ n.toInt ≤ 8191) : own_P01 n ∨ own_P02 n ∨ own_P03 n ∨ own_P04 n ∨ own_P11 n ∨ own_P12 n ∨ own_P13 n ∨ own_P14 n := by
  by_cases q0 : 0 ≤ n.toInt ∧ n.toInt ≤ 9
  · exact Or.inl (own_c01 q0)
  by_cases q1 : 10 ≤ n.toInt ∧ n.toInt ≤ 99
  · exact Or.inr (Or.inl (own_c02 q1))
  by_cases q2 : 100 ≤ n.toInt ∧ n.toInt ≤ 999
  · exact Or.inr (Or.inr (Or.inl (own_c03 q2)))
  by_cases q3 : 1000 ≤ n.toInt ∧ n.toInt ≤ 8191
  · exact Or.inr (Or.inr (Or.inr (Or.inl (own_c04 q3))))
  by_cases q4 : 1 ≤ -n.toInt ∧ -n.toInt ≤ 9
  · exact Or.inr (Or.inr (Or.inr (Or.inr (Or.inl (own_c11 q4)))))
  by_cases q5 : 10 ≤ -n.toInt ∧ -n.toInt ≤ 99
  · exact Or.inr (Or.inr (Or.inr (Or.inr (Or.inr (Or.inl (own_c12 q5))))))
  by_cases q6 : 100 ≤ -n.toInt ∧ -n.toInt ≤ 999
  · exact Or.inr (Or.inr (Or.inr (Or.inr (Or.inr (Or.inr (Or.inl (own_c13 q6)))))))
  by_cases q7 : 1000 ≤ -n.toInt ∧ -n.toInt ≤ 8192
  · exact Or.inr (Or.inr (Or.inr (Or.inr (Or.inr (Or.inr (Or.inr (own_c14 q7)))))))
  omega

def own_z (i : Nat) (suf : List Int32) : List Value := List.replicate i (.int (0 : Int32)) ++ suf.map Value.int
theorem own_zset (i : Nat) (suf : List Int32) (x : Int32) : (own_z (i + 1) suf).set i (.int x) = own_z i (x :: suf) := by
  simp only [own_z, List.replicate_succ', List.append_assoc, List.map_cons]
  rw [List.set_append_right _ _ (by simp)]
  simp
theorem own_zlt (i : Nat) (suf : List Int32) : i < (own_z (i + 1) suf).length := by simp [own_z]; omega
theorem own_zpad (n : Nat) (i : Nat) : (own_z n []).getD i (.int (0 : Int32)) = ([] : List Value).getD i (.int (0 : Int32)) := by
  simp only [own_z, List.map_nil, List.append_nil]
  exact pad_rep [] _ n i
theorem own_dn {iv : Int32} {j : Nat} (hiv : iv = Int32.ofNat (j + 1)) (h : j + 1 ≤ 16) : (iv + (-1 : Int32)) = Int32.ofNat j ∧ (¬ (iv + (-1 : Int32)) < 0 ∧ (iv + (-1 : Int32)) < (16 : Int32)) ∧ (iv + (-1 : Int32)).toNatClampNeg = j := by
  have k : ∀ j : Fin 16, (Int32.ofNat (j.val + 1) + (-1 : Int32)) = Int32.ofNat j.val ∧ (¬ (Int32.ofNat (j.val + 1) + (-1 : Int32)) < 0 ∧ (Int32.ofNat (j.val + 1) + (-1 : Int32)) < (16 : Int32)) ∧ (Int32.ofNat (j.val + 1) + (-1 : Int32)).toNatClampNeg = j.val := by decide +kernel
  rw [hiv]
  exact k ⟨j, by omega⟩
def own_fin (sv : Int32) (i : Nat) (w : Int32) (suf D : List Int32) : Prop := (sv = (0 : Int32) ∧ i = (if w < (-9 : Int32) then 1 + 1 else 1) ∧ (if w < (-9 : Int32) then (own_t (-w)) :: (own_o (-w)) :: suf else (own_o (-w)) :: suf) = D) ∨ (sv = (1 : Int32) ∧ i = (if w < (-9 : Int32) then 1 + 1 else 1) + 1 ∧ ((45 : Int32) :: (if w < (-9 : Int32) then (own_t (-w)) :: (own_o (-w)) :: suf else (own_o (-w)) :: suf)) = D)
theorem own_fin1 {sv w : Int32} {i : Nat} {suf D : List Int32} (h : own_fin sv i w suf D) : ∃ j, i = j + 1 := by
  refine ⟨i - 1, ?_⟩
  rcases h with ⟨-, h, -⟩ | ⟨-, h, -⟩ <;> split at h <;> omega
theorem own_fin2 {sv w : Int32} {j : Nat} {suf D : List Int32} (h : own_fin sv (j + 1) w suf D) (hc : w < (-9 : Int32)) : ∃ k, j = k + 1 := by
  refine ⟨j - 1, ?_⟩
  rcases h with ⟨-, h, -⟩ | ⟨-, h, -⟩ <;> rw [if_pos hc] at h <;> omega
theorem own_finT {sv w : Int32} {k : Nat} {suf D : List Int32} (h : own_fin sv (k + 1 + 1) w suf D) (hc : w < (-9 : Int32)) : (sv = (0 : Int32) ∧ k = 0 ∧ ((own_t (-w)) :: ((own_o (-w)) :: suf)) = D) ∨ (sv = (1 : Int32) ∧ k = 0 + 1 ∧ ((45 : Int32) :: ((own_t (-w)) :: ((own_o (-w)) :: suf))) = D) := by
  rcases h with ⟨h1, h2, h3⟩ | ⟨h1, h2, h3⟩ <;> rw [if_pos hc] at h2 h3
  · exact Or.inl ⟨h1, by omega, h3⟩
  · exact Or.inr ⟨h1, by omega, h3⟩
theorem own_finF {sv w : Int32} {j : Nat} {suf D : List Int32} (h : own_fin sv (j + 1) w suf D) (hc : ¬ w < (-9 : Int32)) : (sv = (0 : Int32) ∧ j = 0 ∧ ((own_o (-w)) :: suf) = D) ∨ (sv = (1 : Int32) ∧ j = 0 + 1 ∧ ((45 : Int32) :: ((own_o (-w)) :: suf)) = D) := by
  rcases h with ⟨h1, h2, h3⟩ | ⟨h1, h2, h3⟩ <;> rw [if_neg hc] at h2 h3
  · exact Or.inl ⟨h1, by omega, h3⟩
  · exact Or.inr ⟨h1, by omega, h3⟩
theorem own_dl {n : Int32} (hn : -8192 ≤ n.toInt ∧ n.toInt ≤ 8191) : own_len n = Int32.ofNat (own_dig n).length := by rcases own_cases n hn with ⟨f0, s1, m0, fX, t1, t2, r1, fA, fL, fD⟩ | ⟨f0, s1, s2, m0, fX, t1, t2, r1, fA, fL, fD⟩ | ⟨f0, s1, s2, s3, m0, fX, t1, t3, t2, r1, r2, fA, fL, fD⟩ | ⟨f0, s1, s2, s3, s4, m0, fX, t1, t3, t2, r1, r2, fA, fL, fD⟩ | ⟨f0, s1, m0, fX, t1, t2, r1, fA, fL, fD⟩ | ⟨f0, s1, s2, m0, fX, t1, t2, r1, fA, fL, fD⟩ | ⟨f0, s1, s2, s3, m0, fX, t1, t3, t2, r1, r2, fA, fL, fD⟩ | ⟨f0, s1, s2, s3, s4, m0, fX, t1, t3, t2, r1, r2, fA, fL, fD⟩ <;> rw [fL, fD] <;> rfl
theorem own_dl5 {n : Int32} (hn : -8192 ≤ n.toInt ∧ n.toInt ≤ 8191) : (own_dig n).length ≤ 5 := by rcases own_cases n hn with ⟨f0, s1, m0, fX, t1, t2, r1, fA, fL, fD⟩ | ⟨f0, s1, s2, m0, fX, t1, t2, r1, fA, fL, fD⟩ | ⟨f0, s1, s2, s3, m0, fX, t1, t3, t2, r1, r2, fA, fL, fD⟩ | ⟨f0, s1, s2, s3, s4, m0, fX, t1, t3, t2, r1, r2, fA, fL, fD⟩ | ⟨f0, s1, m0, fX, t1, t2, r1, fA, fL, fD⟩ | ⟨f0, s1, s2, m0, fX, t1, t2, r1, fA, fL, fD⟩ | ⟨f0, s1, s2, s3, m0, fX, t1, t3, t2, r1, r2, fA, fL, fD⟩ | ⟨f0, s1, s2, s3, s4, m0, fX, t1, t3, t2, r1, r2, fA, fL, fD⟩ <;> (rw [fD]; simp)
theorem own_dl1 {n : Int32} (hn : -8192 ≤ n.toInt ∧ n.toInt ≤ 8191) : 1 ≤ (own_dig n).length := by rcases own_cases n hn with ⟨f0, s1, m0, fX, t1, t2, r1, fA, fL, fD⟩ | ⟨f0, s1, s2, m0, fX, t1, t2, r1, fA, fL, fD⟩ | ⟨f0, s1, s2, s3, m0, fX, t1, t3, t2, r1, r2, fA, fL, fD⟩ | ⟨f0, s1, s2, s3, s4, m0, fX, t1, t3, t2, r1, r2, fA, fL, fD⟩ | ⟨f0, s1, m0, fX, t1, t2, r1, fA, fL, fD⟩ | ⟨f0, s1, s2, m0, fX, t1, t2, r1, fA, fL, fD⟩ | ⟨f0, s1, s2, s3, m0, fX, t1, t3, t2, r1, r2, fA, fL, fD⟩ | ⟨f0, s1, s2, s3, s4, m0, fX, t1, t3, t2, r1, r2, fA, fL, fD⟩ <;> (rw [fD]; simp)
theorem own_l16 {n : Int32} (hn : -8192 ≤ n.toInt ∧ n.toInt ≤ 8191) : ¬ (0 : Int32) < ((own_len n) - ((16 : Int32) >>> ((0 : Int32) &&& 31))) := by rcases own_cases n hn with ⟨f0, s1, m0, fX, t1, t2, r1, fA, fL, fD⟩ | ⟨f0, s1, s2, m0, fX, t1, t2, r1, fA, fL, fD⟩ | ⟨f0, s1, s2, s3, m0, fX, t1, t3, t2, r1, r2, fA, fL, fD⟩ | ⟨f0, s1, s2, s3, s4, m0, fX, t1, t3, t2, r1, r2, fA, fL, fD⟩ | ⟨f0, s1, m0, fX, t1, t2, r1, fA, fL, fD⟩ | ⟨f0, s1, s2, m0, fX, t1, t2, r1, fA, fL, fD⟩ | ⟨f0, s1, s2, s3, m0, fX, t1, t3, t2, r1, r2, fA, fL, fD⟩ | ⟨f0, s1, s2, s3, s4, m0, fX, t1, t3, t2, r1, r2, fA, fL, fD⟩ <;> rw [fL] <;> decide
theorem own_m4 {n : Int32} (hn : -8192 ≤ n.toInt ∧ n.toInt ≤ 8191) : (-10000 : Int64) < (n.toInt64) ∧ (-10000 : Int64) < (-(n.toInt64)) ∧ (-2147483648 : Int64) < (n.toInt64) ∧ (-2147483648 : Int64) < (-(n.toInt64)) := by
  have a := c_i2l n
  have b := c_lneg n.toInt64
  have e1 : (-10000 : Int64).toInt = -10000 := rfl
  have e2 : (-2147483648 : Int64).toInt = -2147483648 := rfl
  have r1 := (-(n.toInt64)).le_toInt
  have r2 := (-(n.toInt64)).toInt_lt
  simp only [Int64.lt_iff_toInt_lt, e1, e2]
  omega
theorem own_one0 {n : Int32} (hn : -8192 ≤ n.toInt ∧ n.toInt ≤ 8191) (h0 : ¬ (n.toInt64) < (0 : Int64)) (h : (-100 : Int32) < (-n)) : (¬ (-(-n)) < (0 : Int32) ∧ (-(-n)) < (100 : Int32)) ∧ own_fin (0 : Int32) (own_dig n).length (-n) [] (own_dig n) := by
  rcases own_cases n hn with ⟨f0, s1, m0, fX, t1, t2, r1, fA, fL, fD⟩ | ⟨f0, s1, s2, m0, fX, t1, t2, r1, fA, fL, fD⟩ | ⟨f0, s1, s2, s3, m0, fX, t1, t3, t2, r1, r2, fA, fL, fD⟩ | ⟨f0, s1, s2, s3, s4, m0, fX, t1, t3, t2, r1, r2, fA, fL, fD⟩ | ⟨f0, s1, m0, fX, t1, t2, r1, fA, fL, fD⟩ | ⟨f0, s1, s2, m0, fX, t1, t2, r1, fA, fL, fD⟩ | ⟨f0, s1, s2, s3, m0, fX, t1, t3, t2, r1, r2, fA, fL, fD⟩ | ⟨f0, s1, s2, s3, s4, m0, fX, t1, t3, t2, r1, r2, fA, fL, fD⟩
  · exact ⟨r1, Or.inl ⟨rfl, (congrArg List.length fD).trans (if_neg t2).symm, (if_neg t2).trans fD.symm⟩⟩
  · exact ⟨r1, Or.inl ⟨rfl, (congrArg List.length fD).trans (if_pos t2).symm, (if_pos t2).trans fD.symm⟩⟩
  · exact absurd h t1
  · exact absurd h t1
  · exact absurd f0 h0
  · exact absurd f0 h0
  · exact absurd f0 h0
  · exact absurd f0 h0
theorem own_two0 {n : Int32} (hn : -8192 ≤ n.toInt ∧ n.toInt ≤ 8191) (h0 : ¬ (n.toInt64) < (0 : Int64)) (h : ¬ (-100 : Int32) < (-n)) : ∃ k : Nat, (own_dig n).length = k + 1 + 1 ∧ (¬ ((((-n) / (100 : Int32)) * (100 : Int32)) - (-n)) < (0 : Int32) ∧ ((((-n) / (100 : Int32)) * (100 : Int32)) - (-n)) < (100 : Int32)) ∧ (-100 : Int32) < ((-n) / (100 : Int32)) ∧ (¬ (-((-n) / (100 : Int32))) < (0 : Int32) ∧ (-((-n) / (100 : Int32))) < (100 : Int32)) ∧ own_fin (0 : Int32) k ((-n) / (100 : Int32)) [(own_t ((((-n) / (100 : Int32)) * (100 : Int32)) - (-n))), (own_o ((((-n) / (100 : Int32)) * (100 : Int32)) - (-n)))] (own_dig n) := by
  rcases own_cases n hn with ⟨f0, s1, m0, fX, t1, t2, r1, fA, fL, fD⟩ | ⟨f0, s1, s2, m0, fX, t1, t2, r1, fA, fL, fD⟩ | ⟨f0, s1, s2, s3, m0, fX, t1, t3, t2, r1, r2, fA, fL, fD⟩ | ⟨f0, s1, s2, s3, s4, m0, fX, t1, t3, t2, r1, r2, fA, fL, fD⟩ | ⟨f0, s1, m0, fX, t1, t2, r1, fA, fL, fD⟩ | ⟨f0, s1, s2, m0, fX, t1, t2, r1, fA, fL, fD⟩ | ⟨f0, s1, s2, s3, m0, fX, t1, t3, t2, r1, r2, fA, fL, fD⟩ | ⟨f0, s1, s2, s3, s4, m0, fX, t1, t3, t2, r1, r2, fA, fL, fD⟩
  · exact absurd t1 h
  · exact absurd t1 h
  · exact ⟨1, congrArg List.length fD, r2, t3, r1, Or.inl ⟨rfl, (if_neg t2).symm, (if_neg t2).trans fD.symm⟩⟩
  · exact ⟨2, congrArg List.length fD, r2, t3, r1, Or.inl ⟨rfl, (if_pos t2).symm, (if_pos t2).trans fD.symm⟩⟩
  · exact absurd f0 h0
  · exact absurd f0 h0
  · exact absurd f0 h0
  · exact absurd f0 h0
theorem own_one1 {n : Int32} (hn : -8192 ≤ n.toInt ∧ n.toInt ≤ 8191) (h0 : (n.toInt64) < (0 : Int64)) (h : (-100 : Int32) < n) : (¬ (-n) < (0 : Int32) ∧ (-n) < (100 : Int32)) ∧ own_fin (1 : Int32) (own_dig n).length n [] (own_dig n) := by
  rcases own_cases n hn with ⟨f0, s1, m0, fX, t1, t2, r1, fA, fL, fD⟩ | ⟨f0, s1, s2, m0, fX, t1, t2, r1, fA, fL, fD⟩ | ⟨f0, s1, s2, s3, m0, fX, t1, t3, t2, r1, r2, fA, fL, fD⟩ | ⟨f0, s1, s2, s3, s4, m0, fX, t1, t3, t2, r1, r2, fA, fL, fD⟩ | ⟨f0, s1, m0, fX, t1, t2, r1, fA, fL, fD⟩ | ⟨f0, s1, s2, m0, fX, t1, t2, r1, fA, fL, fD⟩ | ⟨f0, s1, s2, s3, m0, fX, t1, t3, t2, r1, r2, fA, fL, fD⟩ | ⟨f0, s1, s2, s3, s4, m0, fX, t1, t3, t2, r1, r2, fA, fL, fD⟩
  · exact absurd h0 f0
  · exact absurd h0 f0
  · exact absurd h0 f0
  · exact absurd h0 f0
  · exact ⟨r1, Or.inr ⟨rfl, (congrArg List.length fD).trans (congrArg (· + 1) (if_neg t2)).symm, (congrArg (List.cons (45 : Int32)) (if_neg t2)).trans fD.symm⟩⟩
  · exact ⟨r1, Or.inr ⟨rfl, (congrArg List.length fD).trans (congrArg (· + 1) (if_pos t2)).symm, (congrArg (List.cons (45 : Int32)) (if_pos t2)).trans fD.symm⟩⟩
  · exact absurd h t1
  · exact absurd h t1
theorem own_two1 {n : Int32} (hn : -8192 ≤ n.toInt ∧ n.toInt ≤ 8191) (h0 : (n.toInt64) < (0 : Int64)) (h : ¬ (-100 : Int32) < n) : ∃ k : Nat, (own_dig n).length = k + 1 + 1 ∧ (¬ (((n / (100 : Int32)) * (100 : Int32)) - n) < (0 : Int32) ∧ (((n / (100 : Int32)) * (100 : Int32)) - n) < (100 : Int32)) ∧ (-100 : Int32) < (n / (100 : Int32)) ∧ (¬ (-(n / (100 : Int32))) < (0 : Int32) ∧ (-(n / (100 : Int32))) < (100 : Int32)) ∧ own_fin (1 : Int32) k (n / (100 : Int32)) [(own_t (((n / (100 : Int32)) * (100 : Int32)) - n)), (own_o (((n / (100 : Int32)) * (100 : Int32)) - n))] (own_dig n) := by
  rcases own_cases n hn with ⟨f0, s1, m0, fX, t1, t2, r1, fA, fL, fD⟩ | ⟨f0, s1, s2, m0, fX, t1, t2, r1, fA, fL, fD⟩ | ⟨f0, s1, s2, s3, m0, fX, t1, t3, t2, r1, r2, fA, fL, fD⟩ | ⟨f0, s1, s2, s3, s4, m0, fX, t1, t3, t2, r1, r2, fA, fL, fD⟩ | ⟨f0, s1, m0, fX, t1, t2, r1, fA, fL, fD⟩ | ⟨f0, s1, s2, m0, fX, t1, t2, r1, fA, fL, fD⟩ | ⟨f0, s1, s2, s3, m0, fX, t1, t3, t2, r1, r2, fA, fL, fD⟩ | ⟨f0, s1, s2, s3, s4, m0, fX, t1, t3, t2, r1, r2, fA, fL, fD⟩
  · exact absurd h0 f0
  · exact absurd h0 f0
  · exact absurd h0 f0
  · exact absurd h0 f0
  · exact absurd t1 h
  · exact absurd t1 h
  · exact ⟨2, congrArg List.length fD, r2, t3, r1, Or.inr ⟨rfl, (congrArg (· + 1) (if_neg t2)).symm, (congrArg (List.cons (45 : Int32)) (if_neg t2)).trans fD.symm⟩⟩
  · exact ⟨3, congrArg List.length fD, r2, t3, r1, Or.inr ⟨rfl, (congrArg (· + 1) (if_pos t2)).symm, (congrArg (List.cons (45 : Int32)) (if_pos t2)).trans fD.symm⟩⟩
theorem own_adig {n : Int32} (hn : -8192 ≤ n.toInt ∧ n.toInt ≤ 8191) : own_asc (own_dig n) := by rcases own_cases n hn with ⟨f0, s1, m0, fX, t1, t2, r1, fA, fL, fD⟩ | ⟨f0, s1, s2, m0, fX, t1, t2, r1, fA, fL, fD⟩ | ⟨f0, s1, s2, s3, m0, fX, t1, t3, t2, r1, r2, fA, fL, fD⟩ | ⟨f0, s1, s2, s3, s4, m0, fX, t1, t3, t2, r1, r2, fA, fL, fD⟩ | ⟨f0, s1, m0, fX, t1, t2, r1, fA, fL, fD⟩ | ⟨f0, s1, s2, m0, fX, t1, t2, r1, fA, fL, fD⟩ | ⟨f0, s1, s2, s3, m0, fX, t1, t3, t2, r1, r2, fA, fL, fD⟩ | ⟨f0, s1, s2, s3, s4, m0, fX, t1, t3, t2, r1, r2, fA, fL, fD⟩ <;> exact fA
theorem own_j {n : Int32} (hn : -8192 ≤ n.toInt ∧ n.toInt ≤ 8191) : ¬ (own_len n) < (0 : Int32) ∧ (own_len n).toNatClampNeg + (28 : Int32).toNatClampNeg ≤ (34 : Int32).toNatClampNeg ∧ (own_len n).toNatClampNeg = (own_dig n).length ∧ ((own_len n) <<< ((0 : Int32) &&& 31)) = (own_len n) ∧ ((((own_len n) + (28 : Int32)) <<< ((0 : Int32) &&& 31)) - (16 : Int32)) < (18 : Int32) ∧ (0 : Int32) < (((own_len n) + (28 : Int32)) - (16 : Int32)) ∧ own_five ((own_len n) + (28 : Int32)) ∧ ((own_len n) + (28 : Int32)).toNatClampNeg = (own_dig n).length + 28 := by
  rcases own_cases n hn with ⟨f0, s1, m0, fX, t1, t2, r1, fA, fL, fD⟩ | ⟨f0, s1, s2, m0, fX, t1, t2, r1, fA, fL, fD⟩ | ⟨f0, s1, s2, s3, m0, fX, t1, t3, t2, r1, r2, fA, fL, fD⟩ | ⟨f0, s1, s2, s3, s4, m0, fX, t1, t3, t2, r1, r2, fA, fL, fD⟩ | ⟨f0, s1, m0, fX, t1, t2, r1, fA, fL, fD⟩ | ⟨f0, s1, s2, m0, fX, t1, t2, r1, fA, fL, fD⟩ | ⟨f0, s1, s2, s3, m0, fX, t1, t3, t2, r1, r2, fA, fL, fD⟩ | ⟨f0, s1, s2, s3, s4, m0, fX, t1, t3, t2, r1, r2, fA, fL, fD⟩ <;> exact ⟨by rw [fL]; decide, by rw [fL]; decide, by rw [fL, fD]; rfl, by rw [fL]; decide, by rw [fL]; decide, by rw [fL]; decide, by rw [fL]; unfold own_five; decide, by rw [fL, fD]; rfl⟩
theorem own_l3 {n : Int32} (h : own_five n) : ¬ n < (0 : Int32) ∧ n < (34 : Int32) ∧ n.toNatClampNeg ≤ 284 ∧ n.toNatClampNeg ≤ (34 : Int32).toNatClampNeg := by
  rcases h with rfl | rfl | rfl | rfl | rfl <;> decide
theorem own_lenR {n : Int32} (hn : -8192 ≤ n.toInt ∧ n.toInt ≤ 8191) : ∀ k : Nat, k ≤ 27 → ((89 : Int32) + Int32.ofNat k) = Int32.ofNat (89 + k) := by
  have q : ∀ k : Fin 28, ((89 : Int32) + Int32.ofNat k.val) = Int32.ofNat (89 + k.val) := by decide +kernel
  exact fun k hk => q ⟨k, by omega⟩

theorem own_ll01 {n : Int32} (hn : -8192 ≤ n.toInt ∧ n.toInt ≤ 8191) (h0 : ¬ (n.toInt64) < (0 : Int64)) (h1 : (-10 : Int64) < (-(n.toInt64))) : (1 : Int32) = own_len n := by
  rcases own_cases n hn with ⟨f0, s1, m0, fX, t1, t2, r1, fA, fL, fD⟩ | ⟨f0, s1, s2, m0, fX, t1, t2, r1, fA, fL, fD⟩ | ⟨f0, s1, s2, s3, m0, fX, t1, t3, t2, r1, r2, fA, fL, fD⟩ | ⟨f0, s1, s2, s3, s4, m0, fX, t1, t3, t2, r1, r2, fA, fL, fD⟩ | ⟨f0, s1, m0, fX, t1, t2, r1, fA, fL, fD⟩ | ⟨f0, s1, s2, m0, fX, t1, t2, r1, fA, fL, fD⟩ | ⟨f0, s1, s2, s3, m0, fX, t1, t3, t2, r1, r2, fA, fL, fD⟩ | ⟨f0, s1, s2, s3, s4, m0, fX, t1, t3, t2, r1, r2, fA, fL, fD⟩
  · exact fL.symm
  · exact absurd h1 s1
  · exact absurd h1 s1
  · exact absurd h1 s1
  · exact absurd f0 h0
  · exact absurd f0 h0
  · exact absurd f0 h0
  · exact absurd f0 h0
theorem own_ll02 {n : Int32} (hn : -8192 ≤ n.toInt ∧ n.toInt ≤ 8191) (h0 : ¬ (n.toInt64) < (0 : Int64)) (h1 : ¬ (-10 : Int64) < (-(n.toInt64))) (h2 : (-100 : Int64) < (-(n.toInt64))) : (2 : Int32) = own_len n := by
  rcases own_cases n hn with ⟨f0, s1, m0, fX, t1, t2, r1, fA, fL, fD⟩ | ⟨f0, s1, s2, m0, fX, t1, t2, r1, fA, fL, fD⟩ | ⟨f0, s1, s2, s3, m0, fX, t1, t3, t2, r1, r2, fA, fL, fD⟩ | ⟨f0, s1, s2, s3, s4, m0, fX, t1, t3, t2, r1, r2, fA, fL, fD⟩ | ⟨f0, s1, m0, fX, t1, t2, r1, fA, fL, fD⟩ | ⟨f0, s1, s2, m0, fX, t1, t2, r1, fA, fL, fD⟩ | ⟨f0, s1, s2, s3, m0, fX, t1, t3, t2, r1, r2, fA, fL, fD⟩ | ⟨f0, s1, s2, s3, s4, m0, fX, t1, t3, t2, r1, r2, fA, fL, fD⟩
  · exact absurd s1 h1
  · exact fL.symm
  · exact absurd h2 s2
  · exact absurd h2 s2
  · exact absurd f0 h0
  · exact absurd f0 h0
  · exact absurd f0 h0
  · exact absurd f0 h0
theorem own_ll03 {n : Int32} (hn : -8192 ≤ n.toInt ∧ n.toInt ≤ 8191) (h0 : ¬ (n.toInt64) < (0 : Int64)) (h1 : ¬ (-10 : Int64) < (-(n.toInt64))) (h2 : ¬ (-100 : Int64) < (-(n.toInt64))) (h3 : (-1000 : Int64) < (-(n.toInt64))) : (3 : Int32) = own_len n := by
  rcases own_cases n hn with ⟨f0, s1, m0, fX, t1, t2, r1, fA, fL, fD⟩ | ⟨f0, s1, s2, m0, fX, t1, t2, r1, fA, fL, fD⟩ | ⟨f0, s1, s2, s3, m0, fX, t1, t3, t2, r1, r2, fA, fL, fD⟩ | ⟨f0, s1, s2, s3, s4, m0, fX, t1, t3, t2, r1, r2, fA, fL, fD⟩ | ⟨f0, s1, m0, fX, t1, t2, r1, fA, fL, fD⟩ | ⟨f0, s1, s2, m0, fX, t1, t2, r1, fA, fL, fD⟩ | ⟨f0, s1, s2, s3, m0, fX, t1, t3, t2, r1, r2, fA, fL, fD⟩ | ⟨f0, s1, s2, s3, s4, m0, fX, t1, t3, t2, r1, r2, fA, fL, fD⟩
  · exact absurd s1 h1
  · exact absurd s2 h2
  · exact fL.symm
  · exact absurd h3 s3
  · exact absurd f0 h0
  · exact absurd f0 h0
  · exact absurd f0 h0
  · exact absurd f0 h0
theorem own_ll04 {n : Int32} (hn : -8192 ≤ n.toInt ∧ n.toInt ≤ 8191) (h0 : ¬ (n.toInt64) < (0 : Int64)) (h1 : ¬ (-10 : Int64) < (-(n.toInt64))) (h2 : ¬ (-100 : Int64) < (-(n.toInt64))) (h3 : ¬ (-1000 : Int64) < (-(n.toInt64))) : (4 : Int32) = own_len n := by
  rcases own_cases n hn with ⟨f0, s1, m0, fX, t1, t2, r1, fA, fL, fD⟩ | ⟨f0, s1, s2, m0, fX, t1, t2, r1, fA, fL, fD⟩ | ⟨f0, s1, s2, s3, m0, fX, t1, t3, t2, r1, r2, fA, fL, fD⟩ | ⟨f0, s1, s2, s3, s4, m0, fX, t1, t3, t2, r1, r2, fA, fL, fD⟩ | ⟨f0, s1, m0, fX, t1, t2, r1, fA, fL, fD⟩ | ⟨f0, s1, s2, m0, fX, t1, t2, r1, fA, fL, fD⟩ | ⟨f0, s1, s2, s3, m0, fX, t1, t3, t2, r1, r2, fA, fL, fD⟩ | ⟨f0, s1, s2, s3, s4, m0, fX, t1, t3, t2, r1, r2, fA, fL, fD⟩
  · exact absurd s1 h1
  · exact absurd s2 h2
  · exact absurd s3 h3
  · exact fL.symm
  · exact absurd f0 h0
  · exact absurd f0 h0
  · exact absurd f0 h0
  · exact absurd f0 h0
theorem own_ll11 {n : Int32} (hn : -8192 ≤ n.toInt ∧ n.toInt ≤ 8191) (h0 : (n.toInt64) < (0 : Int64)) (h1 : (-10 : Int64) < (n.toInt64)) : (2 : Int32) = own_len n := by
  rcases own_cases n hn with ⟨f0, s1, m0, fX, t1, t2, r1, fA, fL, fD⟩ | ⟨f0, s1, s2, m0, fX, t1, t2, r1, fA, fL, fD⟩ | ⟨f0, s1, s2, s3, m0, fX, t1, t3, t2, r1, r2, fA, fL, fD⟩ | ⟨f0, s1, s2, s3, s4, m0, fX, t1, t3, t2, r1, r2, fA, fL, fD⟩ | ⟨f0, s1, m0, fX, t1, t2, r1, fA, fL, fD⟩ | ⟨f0, s1, s2, m0, fX, t1, t2, r1, fA, fL, fD⟩ | ⟨f0, s1, s2, s3, m0, fX, t1, t3, t2, r1, r2, fA, fL, fD⟩ | ⟨f0, s1, s2, s3, s4, m0, fX, t1, t3, t2, r1, r2, fA, fL, fD⟩
  · exact absurd h0 f0
  · exact absurd h0 f0
  · exact absurd h0 f0
  · exact absurd h0 f0
  · exact fL.symm
  · exact absurd h1 s1
  · exact absurd h1 s1
  · exact absurd h1 s1
theorem own_ll12 {n : Int32} (hn : -8192 ≤ n.toInt ∧ n.toInt ≤ 8191) (h0 : (n.toInt64) < (0 : Int64)) (h1 : ¬ (-10 : Int64) < (n.toInt64)) (h2 : (-100 : Int64) < (n.toInt64)) : (3 : Int32) = own_len n := by
  rcases own_cases n hn with ⟨f0, s1, m0, fX, t1, t2, r1, fA, fL, fD⟩ | ⟨f0, s1, s2, m0, fX, t1, t2, r1, fA, fL, fD⟩ | ⟨f0, s1, s2, s3, m0, fX, t1, t3, t2, r1, r2, fA, fL, fD⟩ | ⟨f0, s1, s2, s3, s4, m0, fX, t1, t3, t2, r1, r2, fA, fL, fD⟩ | ⟨f0, s1, m0, fX, t1, t2, r1, fA, fL, fD⟩ | ⟨f0, s1, s2, m0, fX, t1, t2, r1, fA, fL, fD⟩ | ⟨f0, s1, s2, s3, m0, fX, t1, t3, t2, r1, r2, fA, fL, fD⟩ | ⟨f0, s1, s2, s3, s4, m0, fX, t1, t3, t2, r1, r2, fA, fL, fD⟩
  · exact absurd h0 f0
  · exact absurd h0 f0
  · exact absurd h0 f0
  · exact absurd h0 f0
  · exact absurd s1 h1
  · exact fL.symm
  · exact absurd h2 s2
  · exact absurd h2 s2
theorem own_ll13 {n : Int32} (hn : -8192 ≤ n.toInt ∧ n.toInt ≤ 8191) (h0 : (n.toInt64) < (0 : Int64)) (h1 : ¬ (-10 : Int64) < (n.toInt64)) (h2 : ¬ (-100 : Int64) < (n.toInt64)) (h3 : (-1000 : Int64) < (n.toInt64)) : (4 : Int32) = own_len n := by
  rcases own_cases n hn with ⟨f0, s1, m0, fX, t1, t2, r1, fA, fL, fD⟩ | ⟨f0, s1, s2, m0, fX, t1, t2, r1, fA, fL, fD⟩ | ⟨f0, s1, s2, s3, m0, fX, t1, t3, t2, r1, r2, fA, fL, fD⟩ | ⟨f0, s1, s2, s3, s4, m0, fX, t1, t3, t2, r1, r2, fA, fL, fD⟩ | ⟨f0, s1, m0, fX, t1, t2, r1, fA, fL, fD⟩ | ⟨f0, s1, s2, m0, fX, t1, t2, r1, fA, fL, fD⟩ | ⟨f0, s1, s2, s3, m0, fX, t1, t3, t2, r1, r2, fA, fL, fD⟩ | ⟨f0, s1, s2, s3, s4, m0, fX, t1, t3, t2, r1, r2, fA, fL, fD⟩
  · exact absurd h0 f0
  · exact absurd h0 f0
  · exact absurd h0 f0
  · exact absurd h0 f0
  · exact absurd s1 h1
  · exact absurd s2 h2
  · exact fL.symm
  · exact absurd h3 s3
theorem own_ll14 {n : Int32} (hn : -8192 ≤ n.toInt ∧ n.toInt ≤ 8191) (h0 : (n.toInt64) < (0 : Int64)) (h1 : ¬ (-10 : Int64) < (n.toInt64)) (h2 : ¬ (-100 : Int64) < (n.toInt64)) (h3 : ¬ (-1000 : Int64) < (n.toInt64)) : (5 : Int32) = own_len n := by
  rcases own_cases n hn with ⟨f0, s1, m0, fX, t1, t2, r1, fA, fL, fD⟩ | ⟨f0, s1, s2, m0, fX, t1, t2, r1, fA, fL, fD⟩ | ⟨f0, s1, s2, s3, m0, fX, t1, t3, t2, r1, r2, fA, fL, fD⟩ | ⟨f0, s1, s2, s3, s4, m0, fX, t1, t3, t2, r1, r2, fA, fL, fD⟩ | ⟨f0, s1, m0, fX, t1, t2, r1, fA, fL, fD⟩ | ⟨f0, s1, s2, m0, fX, t1, t2, r1, fA, fL, fD⟩ | ⟨f0, s1, s2, s3, m0, fX, t1, t3, t2, r1, r2, fA, fL, fD⟩ | ⟨f0, s1, s2, s3, s4, m0, fX, t1, t3, t2, r1, r2, fA, fL, fD⟩
  · exact absurd h0 f0
  · exact absurd h0 f0
  · exact absurd h0 f0
  · exact absurd h0 f0
  · exact absurd s1 h1
  · exact absurd s2 h2
  · exact absurd s3 h3
  · exact fL.symm

theorem own_reb0 {p : Program} {l : Launch} {e : Env} {R : Room} {s : State} {m : MethodId} {args : Array Value} {below : List Frame} {meth : Method} {c : Code} {T : State} {locs : List Loc} {cells slots : Nat} (X : Stand p l e R s m args below meth c T locs cells slots) (hold : ∀ (b : Addr) (cl : Cell), s.heap[b]? = some cl → T.heap[b]? = some cl) : Stand p l e R s m args below meth c T [] cells slots :=
  { X with same := ⟨X.same.1, X.same.2.1, X.same.2.2.1, X.same.2.2.2.1, X.same.2.2.2.2.1, fun a c h => ⟨c, hold a c h, rfl, rfl, fun _ _ => rfl⟩⟩ }
theorem own_kp0 {s : State} {h0 h : Heap} {b : Addr} {cl : Cell} (hh : s.heap = h0) (K : Keep h0 h []) (q : s.heap[b]? = some cl) : h[b]? = some cl := K.2.1 b cl (by rw [← hh]; exact q) (by simp)
theorem own_kz {s Z : State} {h0 : Heap} {n0 : Nat} {b : Addr} {cl : Cell} (hh : s.heap = h0) (O : Old Z n0 h0) (q : Z.heap[b]? = some cl) : s.heap[b]? = some cl := by rw [hh]; exact O.2.2 b cl q
theorem own_backSK {p : Program} {l : Launch} {e : Env} {R : Room} {s : State} {args : Array Value} {below : List Frame} {Z : State} {a0 : Array Value} {h : Heap} {y : MethodName} {bytes : ByteArray} {maxL : Nat} {ret : Option FieldType} {rm : Room} {len W : Nat} {as' : Array Value} {PV : Vm → Prop} {Q : Option Value → Vm → Heap → List Loc → Prop}
    (hM : MetW l Z y bytes maxL ret [] rm as' h PV Q)
    (hZ : Z.Warmed39 s.vm) (wc : (Jvm.Cond.code y bytes maxL ret).before a0 Z = true) (wz : (Jvm.Cond.initialized y.cls).before a0 Z = true) (hf : rm.frames + 1 ≤ R.frames) (hl : W + (maxL + 11) + rm.locals ≤ R.locals) (hTK : s.vm.MethodsKnown) (hBelow : s.vm.FramesKnown below) (hPV : ∀ vm, s.WarmedH vm → PV vm) :
    BackS l R p e below s args y len W (fun A a => a = as' ∧ A.U.heap = h ∧ A.cells + rm.cells ≤ R.cells ∧ A.slots + rm.slots ≤ R.slots)
      (fun A _ v B => ∃ L, Q v B.U.vm B.U.heap L ∧ B.locs = A.locs ++ L ∧ B.cells = A.cells + rm.cells ∧ B.slots = A.slots + rm.slots) :=
  BackS.of_freeWG (bytes := bytes) (maxL := maxL) (ret := ret) (E := fun _ _ o t L k n => k = rm.cells ∧ n = rm.slots ∧ ∃ v, o = .returned v ∧ Q v t.vm t.heap L) hM hf hl
    (fun m meth c A a Y hp => have hU : Z.Warmed39 A.U.vm := wtrans hZ Y.warmed
      ⟨by show (Cond.and _ .tt).before a A.U = true; rw [Cond.before_and, mv hU wc]; rfl, mv hU wc, mv hU wz, hp.2.2.1, hp.2.2.2⟩)
    (fun m meth c A a g mk Y hp => ⟨hp.1, wtrans hZ Y.warmed, hp.2.1, hPV _ Y.warmed⟩)
    (fun m meth c A a g mk Y _ hg => Jvm.Free.known_frames Y hg hTK hBelow)
    (fun _ _ _ _ ⟨v, L, h1, h2, h3⟩ => ⟨L, _, _, h3, rfl, rfl, v, h1, h2⟩)
    (fun m meth c A a g mk v t L k n Y hp _ _ ⟨e1, e2, v', e3, e4⟩ => by cases e3; subst e1 e2; exact ⟨L, e4, rfl, rfl, rfl⟩)
def own_L24 : List Int32 := [116, 104, 101, 32, 114, 101, 103, 117, 108, 97, 114, 32, 101, 120, 112, 114, 101, 115, 115, 105, 111, 110, 32, 34]
def own_L39 : List Int32 := [34, 32, 99, 97, 110, 110, 111, 116, 32, 98, 101, 32, 109, 97, 116, 99, 104, 101, 100, 32, 97, 103, 97, 105, 110, 115, 116, 32, 97, 32, 118, 97, 108, 117, 101, 32, 111, 102, 32]
def own_L23 : List Int32 := [32, 99, 104, 97, 114, 97, 99, 116, 101, 114, 115, 32, 119, 105, 116, 104, 105, 110, 32, 116, 104, 101, 32]
def own_L28 : List Int32 := [32, 77, 105, 66, 32, 116, 104, 97, 116, 32, 111, 110, 101, 32, 109, 97, 116, 99, 104, 32, 109, 97, 121, 32, 116, 97, 107, 101]
theorem own_l24 : own_L24.length = 24 := rfl
theorem own_l39 : own_L39.length = 39 := rfl
theorem own_l23 : own_L23.length = 23 := rfl
theorem own_l28 : own_L28.length = 28 := rfl
def own_msl (e0 e1 d : Int32) (lim : List Int32) : List Int32 := own_L24 ++ ([e0, e1] ++ (own_L39 ++ ([own_o d] ++ (own_L23 ++ lim))))
def own_msg (e0 e1 d n : Int32) : List Int32 := own_msl e0 e1 d (own_dig n ++ own_L28)
theorem own_a24 : own_asc own_L24 := by unfold own_asc; decide +kernel
theorem own_a39 : own_asc own_L39 := by unfold own_asc; decide +kernel
theorem own_a23 : own_asc own_L23 := by unfold own_asc; decide +kernel
theorem own_a28 : own_asc own_L28 := by unfold own_asc; decide +kernel
theorem own_ad {d : Int32} (h : d = (1 : Int32) ∨ d = (2 : Int32)) : own_asc [own_o d] := by
  rcases h with rfl | rfl <;> (unfold own_asc; decide +kernel)
theorem own_msll (e0 e1 d : Int32) (lim : List Int32) : (own_msl e0 e1 d lim).length = 89 + lim.length := by simp [own_msl, own_L24, own_L39, own_L23]; omega
theorem own_v0 {e0 e1 d : Int32} {lim : List Int32} (hd : d = (1 : Int32) ∨ d = (2 : Int32)) (hl : own_asc lim) : ((((([] ++ own_L24.map Value.int) ++ [e0, e1].map own_b) ++ own_L39.map Value.int) ++ [(.int (own_o d))]) ++ own_L23.map Value.int) ++ lim.map Value.int = (own_msl e0 e1 d lim).map own_b := by
  rw [← own_ascb own_a24, ← own_ascb own_a39, ← own_ascb own_a23, ← own_ascb hl]
  have e := own_ascb (own_ad hd)
  simp only [List.map_cons, List.map_nil] at e
  rw [← e]
  simp [own_msl]
theorem own_v1 {e0 e1 d : Int32} {lim : List Int32} (hd : d = (1 : Int32) ∨ d = (2 : Int32)) (hl : own_asc lim) : ((((own_inf own_L24 ++ own_u [e0, e1]) ++ own_inf own_L39) ++ [(.int (own_lo (own_o d))), (.int (own_hi (own_o d)))]) ++ own_inf own_L23) ++ own_inf lim = own_u (own_msl e0 e1 d lim) := by
  rw [own_ascu own_a24, own_ascu own_a39, own_ascu own_a23, own_ascu hl]
  simp only [own_msl, own_uapp, List.append_assoc]
  rfl
theorem own_small {e0 e1 d : Int32} {lim : List Int32} (hd : d = (1 : Int32) ∨ d = (2 : Int32)) (hl : own_asc lim) (he : ∀ c ∈ [e0, e1], 0 ≤ c.toInt ∧ c.toInt < 256) : ∀ c ∈ own_msl e0 e1 d lim, 0 ≤ c.toInt ∧ c.toInt < 256 := by
  have w : ∀ {L : List Int32}, own_asc L → ∀ c ∈ L, 0 ≤ c.toInt ∧ c.toInt < 256 := fun h c hc => ⟨(h c hc).1, by have := (h c hc).2; omega⟩
  intro c hc
  simp only [own_msl, List.mem_append] at hc
  rcases hc with hc | hc | hc | hc | hc | hc
  · exact w own_a24 c hc
  · exact he c hc
  · exact w own_a39 c hc
  · exact w (own_ad hd) c hc
  · exact w own_a23 c hc
  · exact w hl c hc
theorem own_lm {n : Int32} (h : own_five n) : (¬ n < (0 : Int32) ∧ n.toNatClampNeg ≤ 1000 ∧ (89 : Int32).toNatClampNeg + n.toNatClampNeg ≤ (142 : Int32).toNatClampNeg ∧ ¬ (0 : Int32) < (((89 : Int32) + n) - ((142 : Int32) >>> ((0 : Int32) &&& 31)))) ∧
    (¬ ((89 : Int32) + n) < (0 : Int32) ∧ ((89 : Int32) + n) < (142 : Int32) ∧ ((89 : Int32) + n).toNatClampNeg ≤ 284 ∧ ((89 : Int32) + n).toNatClampNeg ≤ (142 : Int32).toNatClampNeg ∧ ((89 : Int32) + n).toNatClampNeg = 89 + n.toNatClampNeg ∧ ((89 : Int32) + n) = Int32.ofNat (89 + n.toNatClampNeg)) ∧
    (n = Int32.ofNat n.toNatClampNeg ∧ 2 * (89 + n.toNatClampNeg) ≤ 284 ∧ ¬ (((142 : Int32) ||| (89 : Int32)) ||| n) < (0 : Int32) ∧ ¬ ((142 : Int32) - (89 : Int32)) < n ∧ ¬ (0 : Int32) < (((89 : Int32) + n) - ((284 : Int32) >>> ((1 : Int32) &&& 31)))) ∧
    (¬ (((89 : Int32) + n) <<< ((1 : Int32) &&& 31)) < (0 : Int32) ∧ (((89 : Int32) + n) <<< ((1 : Int32) &&& 31)) < (284 : Int32) ∧ (((89 : Int32) + n) <<< ((1 : Int32) &&& 31)).toNatClampNeg ≤ 284 ∧ (((89 : Int32) + n) <<< ((1 : Int32) &&& 31)).toNatClampNeg ≤ (284 : Int32).toNatClampNeg ∧ (((89 : Int32) + n) <<< ((1 : Int32) &&& 31)).toNatClampNeg = 2 * (89 + n.toNatClampNeg) ∧ (((89 : Int32) + n) <<< ((1 : Int32) &&& 31)) = Int32.ofNat (2 * (89 + n.toNatClampNeg))) := by
  rcases h with rfl | rfl | rfl | rfl | rfl <;> decide
theorem own_arvE {Z : State} {h : Heap} {b : Addr} {k : ClassId} {ty : FieldType} {n n' : Int32} {vs vs' : List Value} {d : Value} (A : Arv Z h b k ty n vs d) (e1 : n = n') (e2 : vs = vs') : Arv Z h b k ty n' vs' d := by subst e1 e2; exact A
theorem own_q {p n : Int32} (h : n = (p >>> ((18 : Int32) &&& 31))) : (((p).toInt64 * (4 : Int64)) >>> ((((20 : Int32)).toInt64) &&& 63)) = (n.toInt64) := by
  apply Int64.toInt_inj.mp
  have a := c_i2l p
  have a2 := c_i2l n
  have b := c_lmul p.toInt64 (4 : Int64)
  have e4 : (4 : Int64).toInt = 4 := rfl
  have r := rng32 p
  have r1 := (p.toInt64 * (4 : Int64)).le_toInt
  have r2 := (p.toInt64 * (4 : Int64)).toInt_lt
  have s := c_ishr p (18 : Int32) 18 (by decide)
  have t : (((p).toInt64 * (4 : Int64)) >>> ((((20 : Int32)).toInt64) &&& 63)).toInt = (p.toInt64 * (4 : Int64)).toInt / (2 ^ 20 : Nat) := c_lshr (p.toInt64 * (4 : Int64)) (20 : Int32) 20 (by decide)
  rw [← h] at s
  rw [t]
  rw [e4] at b
  omega
theorem own_nr {p n : Int32} (h : n = (p >>> ((18 : Int32) &&& 31))) : -8192 ≤ n.toInt ∧ n.toInt ≤ 8191 := by
  have r := rng32 p
  have s := c_ishr p (18 : Int32) 18 (by decide)
  rw [← h] at s
  omega
def own_X118 : List Int32 := own_msg (97 : Int32) (98 : Int32) (own_cp (120 : Int32) (121 : Int32)) (1 : Int32)
def own_V118 : List Value := own_X118.map Value.int
theorem own_x118 : (own_msg (97 : Int32) (98 : Int32) (own_cp (120 : Int32) (121 : Int32)) (1 : Int32)).map own_b = own_V118 := own_ascb (by unfold own_asc; decide +kernel)
theorem own_mll {e0 e1 d n : Int32} (hn : -8192 ≤ n.toInt ∧ n.toInt ≤ 8191) : (own_msg e0 e1 d n).length < 500 := by
  have := own_dl5 hn
  rw [own_msg, own_msll, List.length_append]
  have e : own_L28.length = 28 := rfl
  omega
theorem own_117 : ∀ k : Fin 6, Int32.ofNat (117 + k.val) = ((117 : Int32) + Int32.ofNat k.val) ∧ ((89 : Int32) + Int32.ofNat k.val) = Int32.ofNat (89 + k.val) ∧ ((90 : Int32) + Int32.ofNat k.val) = Int32.ofNat (89 + (k.val + 1)) ∧ ((116 : Int32) + Int32.ofNat k.val) = Int32.ofNat (89 + (k.val + 27)) := by decide +kernel
theorem own_mlen {e0 e1 d n : Int32} (hn : -8192 ≤ n.toInt ∧ n.toInt ≤ 8191) : Int32.ofNat (own_msg e0 e1 d n).length = ((117 : Int32) + (own_len n)) := by
  have q := own_dl5 hn
  have e : (own_msg e0 e1 d n).length = 117 + (own_dig n).length := by
    rw [own_msg, own_msll, List.length_append, show own_L28.length = 28 from rfl]; omega
  rw [e, own_dl hn]
  exact (own_117 ⟨_, by omega⟩).1
theorem own_89 {k : Nat} (h : k ≤ 5) : ((89 : Int32) + Int32.ofNat k) = Int32.ofNat (89 + k) := (own_117 ⟨k, by omega⟩).2.1
theorem own_on89 {k : Nat} (h : k ≤ 5) : ((89 : Int32) + Int32.ofNat k) = Int32.ofNat (89 + (k + 0)) := (own_117 ⟨k, by omega⟩).2.1
theorem own_on90 {k : Nat} (h : k ≤ 5) : ((90 : Int32) + Int32.ofNat k) = Int32.ofNat (89 + (k + 1)) := (own_117 ⟨k, by omega⟩).2.2.1
theorem own_on116 {k : Nat} (h : k ≤ 5) : ((116 : Int32) + Int32.ofNat k) = Int32.ofNat (89 + (k + 27)) := (own_117 ⟨k, by omega⟩).2.2.2
theorem own_mg (e0 e1 d n : Int32) (i : Nat) : (own_msg e0 e1 d n)[89 + i]? = (own_dig n ++ own_L28)[i]? := by
  have e : own_msg e0 e1 d n = (own_L24 ++ [e0, e1] ++ own_L39 ++ [own_o d] ++ own_L23) ++ (own_dig n ++ own_L28) := by simp [own_msg, own_msl]
  have l : (own_L24 ++ [e0, e1] ++ own_L39 ++ [own_o d] ++ own_L23).length = 89 := rfl
  rw [e, List.getElem?_append_right (by omega), l]
  congr 1
  omega
theorem own_mt {cs : List Int32} {e0 e1 d n : Int32} (hcs : cs = own_msg e0 e1 d n) (off : Nat) : cs[89 + ((own_dig n).length + off)]? = own_L28[off]? := by
  rw [hcs, own_mg, List.getElem?_append_right (by omega)]
  congr 1
  omega
theorem own_md {cs : List Int32} {e0 e1 d n : Int32} (hcs : cs = own_msg e0 e1 d n) (i : Nat) (q : i < (own_dig n).length) : cs[89 + i]? = some (own_nc n (own_len n) (Int32.ofNat i)) := by
  rw [hcs, own_mg, List.getElem?_append_left q]
  have q' : i < (own_len n).toNatClampNeg := by simpa [own_dig] using q
  simp [own_dig, List.getElem?_map, List.getElem?_range q']
theorem own_ncg (n len i : Int32) : 0 ≤ (own_nc n len i).toInt ∧ (own_nc n len i).toInt < 65536 := by
  unfold own_nc
  split
  · split
    · decide
    · exact own_i2cr _
  · exact own_i2cr _

section Thr
open Jvm.Free.Exc
abbrev own_MLE : String := "com/example/quadshape/quadshape/core/regex/MatchLimitException"
abbrev own_ctS (C : String) : MethodName := ⟨C, "<init>", "(Ljava/lang/String;)V"⟩
def own_thA : List Jvm.Cond := [.initialized tN, .superclass tN "java/lang/Object", .instanceMethod tFill, .codeSync tFill LibCode.Throwable.Fill.code 1 (some (.object tN)), .instanceMethod tFill0, .native tFill0, .instanceMethod oInit, .code oInit ⟨#[0xb1]⟩ 1 none,
  .methodLink tN 1 oInit, .methodLink tN 27 tFill, .methodLink tN 202 tFill0, .fieldLink tN 7 tN "cause" thD, .lays own_MLE tN "cause" thD, .fieldLink tN 17 tN "stackTrace" steD, .lays own_MLE tN "stackTrace" steD, .fieldLink tN 24 tN "suppressedExceptions" listD, .lays own_MLE tN "suppressedExceptions" listD,
  .fieldLink tN 13 tN "UNASSIGNED_STACK" steD, .laysStatic tN "UNASSIGNED_STACK" steD, .fieldLink tN 20 tN "SUPPRESSED_SENTINEL" listD, .laysStatic tN "SUPPRESSED_SENTINEL" listD, .lays own_MLE tN "detailMessage" msgD, .selects own_MLE tFill0 tFill0, .selects own_MLE tFill tFill, .declares tFill,
  .fieldLink tN 198 tN "backtrace" obD, .lays own_MLE tN "backtrace" obD, .arrayOver (.object "java/lang/Object"), .soleField tN "backtrace", .soleField tN "depth", .lays own_MLE tN "depth" "I", .fieldLink tN 31 tN "detailMessage" msgD, .instantiable own_MLE 6]
theorem own_thM : ∀ d ∈ own_thA, d ∈ tables_1 := by decide +kernel
theorem own_thX : own_thA.all xOk = true := rfl
theorem own_thr {args : Array Value} {s : State} {pl : Platform} (ho : pl.frameOwnsMonitors = true) (hf : pl.finalization = false) (hm : pl.magicAccessors = ({} : Platform).magicAccessors) (W : ∀ d ∈ own_thA, d.before args s = true) :
    ∃ T : ThrowableC, T.Links pl s ∧ s.vm.findClass tN = some T.cT ∧ s.methodNamed? tFill = some T.fill ∧ s.methodNamed? tFill0 = some T.fill0 ∧ s.fieldFound? tN "stackTrace" steD = some (T.cT, T.kT, T.i17, T.fStack) ∧ T.fStack.type = .array (.object "java/lang/StackTraceElement") ∧ s.fieldFound? tN "UNASSIGNED_STACK" steD = some (T.cT, T.kT, T.i13, T.fUnassigned) := by
  have w : ∀ (i : Nat) {d : Jvm.Cond}, own_thA[i]? = some d → d.holds args s none s [] = true := fun i d h => W d (List.mem_of_getElem? h)
  obtain ⟨⟨c, j0⟩, y0, n0, t0, a1, a2, a3, a4⟩ := Cond.native_spec (w 5 rfl)
  have hc : s.vm.findClass tN = some c := findClass_of_methodNamed n0
  obtain ⟨_, k, _, _, hk, _, _, _, _, b1⟩ := Cond.superclass_spec hc (w 1 rfl)
  obtain ⟨j1, y1, n1, t1, a5, a6, a7, -, -⟩ := Cond.ownMethod (x := tFill) hc hk (w 2 rfl)
  obtain ⟨y1', e1, t1', b2, b3, b4, b5, b6, -, b7⟩ := Cond.codeSync_spec n1 (w 3 rfl)
  obtain ⟨j2, y2, n2, t2, a8, a9, b8, b9, c1⟩ := Cond.ownMethod (x := tFill0) hc hk (w 4 rfl)
  obtain ⟨o, y3, n3, t3, c2, c3⟩ := Cond.instanceMethod_spec (w 6 rfl)
  obtain ⟨y3', e3, t3', c4, c5, c6, -, c7, -, c8⟩ := Cond.code_spec n3 (w 7 rfl)
  cases t1.symm.trans t1'
  cases n0.symm.trans n2
  cases t0.symm.trans t2
  cases t3.symm.trans t3'
  obtain ⟨kO, d1, d2⟩ := Vm.findClass_spec (findClass_of_methodNamed n3)
  obtain ⟨p1, q1, z, l1, r1, g1, u1⟩ := Cond.linkedMethod hc hk n3 (w 8 rfl) pl hm
  obtain ⟨p2, q2, z2, l2, r2, g2, u2⟩ := Cond.linkedMethod hc hk n1 (w 9 rfl) pl hm
  obtain ⟨p3, q3, z3, l3, r3, g3, u3⟩ := Cond.linkedMethod hc hk n0 (w 10 rfl) pl hm
  cases g1.symm.trans g2
  cases g1.symm.trans g3
  obtain ⟨v1, i1, f1, k1, m1, x1, h1, f1', -, -, -⟩ := Cond.ownField (t := .object tN) hc hk (by decide +kernel) (w 11 rfl) (w 12 rfl) pl hm
  obtain ⟨v2, i2, f2, k2, m2, x2, h2, f2', nS, tS, fS⟩ := Cond.ownField (t := .array (.object "java/lang/StackTraceElement")) hc hk (by decide +kernel) (w 13 rfl) (w 14 rfl) pl hm
  obtain ⟨v3, i3, f3, k3, m3, x3, h3, f3', nP, tP, fP⟩ := Cond.ownField (t := .object "java/util/List") hc hk (by decide +kernel) (w 15 rfl) (w 16 rfl) pl hm
  obtain ⟨v4, i4, f4, aS, _, k4, m4, x4, h4, -, -, sa, -, -, -, -, fU⟩ := Cond.ownStatic (t := .array (.object "java/lang/StackTraceElement")) hc hk (by decide +kernel) (w 17 rfl) (w 18 rfl) pl hm
  obtain ⟨v5, i5, f5, _, _, k5, m5, x5, h5, -, -, -, -, -, -, -, -⟩ := Cond.ownStatic (t := .object "java/util/List") hc hk (by decide +kernel) (w 19 rfl) (w 20 rfl) pl hm
  obtain ⟨_, _, _, _, _, f6, -, -, -, h6, f6', -⟩ := Cond.lays_spec (w 21 rfl)
  have ap := Cond.lays_apart (w 14 rfl) (w 16 rfl) fS fP (by rw [nS, nP]; decide)
  have pl1 : y1.sig.parameters = [] := by
    have q : (parseMethodDescriptor tFill.desc).map (·.parameters) = some [] := by decide +kernel
    simpa [b7] using q
  have pl2 : y0.sig.parameters = [.int] := by
    have q : (parseMethodDescriptor tFill0.desc).map (·.parameters) = some [.int] := by decide +kernel
    simpa [a4] using q
  have pl3 : y3.sig.parameters.length = 0 := by
    have q : (parseMethodDescriptor oInit.desc).map (·.parameters) = some [] := by decide +kernel
    rw [c8] at q
    simpa using q
  have nmO := name_of_methodNamed n3 t3
  obtain ⟨k', hk', nmT⟩ := Vm.findClass_spec hc
  cases hk.symm.trans hk'
  let TT : ThrowableC := { cT := c, kT := k, cO := c, aS := aS, fillIdx := j1, fill0Idx := j0, initSIdx := j0, obj := o, kObj := kO, methFill := y1, methFill0 := y0, methInitS := y1, methObj := y3, codeFill := e1, codeInitS := e1, codeObj := e3, fBack := f1, fDepth := f1, fStack := f2, fCause := f1, fSupp := f3, fMsg := f6, fUnassigned := f4, fSentinel := f5, cfT := z, ci1 := p1, n1 := q1, ci27 := p2, n27 := q2, ci202 := p3, n202 := q3, ci7 := v1, i7 := i1, ci13 := v4, i13 := i4, ci17 := v2, i17 := i2, ci20 := v5, i20 := i5, ci24 := v3, i24 := i3 }
  have LL : TT.Links pl s := by
    constructor <;> first | assumption | exact Vm.findClass_boot hc hk | exact Cond.initialized_spec hc hk (w 0 rfl) | exact nmO.1 | (show lookupSpecial s.vm o.cls "<init>" y3.desc = .method o; rw [nmO.2]; exact lookupSpecial_of_named n3 t3 c2)
  exact ⟨TT, LL, hc, n1, n0, fS, tS, fU⟩
variable {p : Program} {l : Launch} {e : Env} {R : Room} {s Z : State} {m : MethodId} {args : Array Value} {below : List Frame} {meth : Method} {c : Code} {T E0 : State} {locs : List Loc} {cells slots : Nat} {h : Heap} {a0 : Array Value} {a : Addr}
theorem own_tk {cl : Cell} {k : Class} {f : Field} {v : Value} (h1 : s.vm.classes[cl.cls]? = some k) (h2 : k.kind = .ordinary) (h3 : cl.slots.size = k.instanceTypes.size) (h4 : cl.vm = .none) (h5 : k.instanceTypes[f.slot]? = some f.type) (h6 : fits f.type v = true) : Jvm.Takes s cl f v :=
  ⟨by rw [h3]; exact (Array.getElem?_eq_some_iff.mp h5).1, by simp [State.fitsSlot, State.slotType?, h1, h2, h4, h5, h6]⟩
theorem own_fill (X : Stand p l e R s m args below meth c T locs cells slots) (hx : p.tables.exec = Jvm.exec) (hl : l.stackTraces = true) (hZ : Z.Warmed39 s.vm) (hown : s.vm.findClass tN = some m.cls) (hw : Hw a0 Z) (hE : Ext Z.heap s.heap) (hTK : s.vm.MethodsKnown) (hB : s.vm.FramesKnown below) (eT : T.heap = h)
    (E : Exa Z h a own_MLE) (N : Unt h a) (B : Fld Z h a tN "backtrace" obD .null) {u : RefV} (S : Sta Z h tN "UNASSIGNED_STACK" steD u.v) (F : Fld Z h a tN "stackTrace" steD u.v) {v0 : Value} (M : Fld Z h a tN "detailMessage" msgD v0)
    {g : JFrame} (hg : g.method = m) (hz : g.locals.size = c.maxLocals) (hs : g.stack = [.ref a]) (hW : 2 * g.monitorRoom + 0 ≤ 0) (hd : decode c.code g.pc = .ok (.invokevirtual 27, 3)) (hf : 2 < R.frames) (hlo : 42 ≤ R.locals) (hc : cells + 1 ≤ R.cells) (hsl : slots + 2752 ≤ R.slots) :
    ∃ T' h', Stand p l e R s m args below meth c T' (locs ++ sixLocs Z a) (cells + 1) (slots + 2752) ∧ T'.heap = h' ∧ Exa Z h' a own_MLE ∧ Fld Z h' a tN "detailMessage" msgD v0 ∧ Pr p e below (T.setTop g) T' { g with pc := g.pc + 3, stack := [.ref a] } := by
  have w : ∀ (i : Nat) {d : Jvm.Cond}, own_thA[i]? = some d → d.before args s = true := fun i d q => mvX (ThS.ext hE ThS.start) hZ (List.all_eq_true.mp own_thX d (List.mem_of_getElem? q)) (hw d (own_thM d (List.mem_of_getElem? q)))
  have al := hZ.alike
  obtain ⟨TH, L, hcT, hn1, hn0, hfS, hyS, hfU⟩ := own_thr (args := args) (s := s) (pl := e.platform) (by rw [X.admits.platform]) (by rw [X.admits.platform]) (by rw [X.admits.platform]) (fun d q => by obtain ⟨i, qi⟩ := List.mem_iff_getElem?.mp q; exact w i qi)
  obtain ⟨cl, kc, h1, h2, h3, -, h5⟩ := E
  obtain ⟨_, u1, u2, u3⟩ := N
  cases h1.symm.trans u1
  obtain ⟨_, cf, kf, i, fb, b1, b2, b3, -, -, -, b7⟩ := B
  cases h1.symm.trans b1
  obtain ⟨_, cs, ks, is, fs, s1, s2, s3, -, -, -, s7⟩ := F
  cases h1.symm.trans s1
  obtain ⟨_, cm, km, im, fm, m1, m2, m3, m4, m5, m6, m7⟩ := M
  cases h1.symm.trans m1
  obtain ⟨cu, iu, ku, fu, au, cellU, r1, r2, r3, r4, r5, r6, r7⟩ := S
  obtain ⟨_, _, j1, j2, j3, -⟩ := Cond.instantiable_spec (hw _ (own_thM _ (List.mem_of_getElem? (i := 32) rfl)))
  cases h2.symm.trans j1
  cases h3.symm.trans j2
  obtain ⟨kX, x1, x2⟩ := al.2.2 _ _ h3
  have fc : s.vm.findClass own_MLE = some cl.cls := by rw [al.findClass]; exact h2
  have ord : kX.kind = .ordinary := by rw [x2]; exact j3
  have sz : cl.slots.size = kX.instanceTypes.size := by rw [x2]; exact h5 j3
  obtain ⟨k1, gb, -⟩ := State.fieldFound?_setVm (s := Z) al b2
  obtain ⟨k2, gs, -⟩ := State.fieldFound?_setVm (s := Z) al s2
  obtain ⟨k3, gm, -⟩ := State.fieldFound?_setVm (s := Z) al m2
  obtain ⟨k4, gu, ek⟩ := State.fieldFound?_setVm (s := Z) al r1
  cases (show s.fieldFound? tN "stackTrace" steD = _ from gs).symm.trans hfS
  cases (show s.fieldFound? tN "UNASSIGNED_STACK" steD = _ from gu).symm.trans hfU
  obtain rfl : au = TH.aS := Option.some.inj ((show TH.kT.statics = some au by rw [ek]; exact r4).symm.trans L.statics)
  have ne : TH.aS ≠ a := fun q => by rw [q, h1] at r5; cases r5; rw [u2] at r6; cases r6
  obtain ⟨d1, d2, d3, d4, d5, d6, d7, -, d8, d9, e1⟩ := Cond.ownField (t := .object "java/lang/Object") hcT L.cls (by decide +kernel) (w 25 rfl) (w 26 rfl) e.platform (by rw [X.admits.platform])
  cases (show s.fieldFound? tN "backtrace" obD = _ from gb).symm.trans e1
  obtain ⟨_, _, c3, k3', i3, fd, -, -, gd, e2, -⟩ := Cond.lays_spec (w 30 rfl)
  cases Option.some.inj ((Cond.lays_declared (w 30 rfl) gd).symm.trans hcT)
  cases Option.some.inj ((State.fieldFound?_spec gd).1.symm.trans L.cls)
  obtain ⟨comp, cO, kO, -, -, kO1, kO2, kO3⟩ := Cond.arrayOver_spec (w 27 rfl)
  have sel0 : selectMethod e.platform s.vm cl.cls TH.fill0 = .method TH.fill0 := by
    obtain ⟨c9, r9, m9, q1, q2, q3, q4, -⟩ := Cond.selects_spec (w 22 rfl)
    cases q1.symm.trans fc
    cases q2.symm.trans (State.methodFound?_of_named hn0 (by decide))
    cases q3.symm.trans hn0
    rw [Launch.admits_selectMethod X.admits]
    exact q4
  have ty : ∀ {f : Field} {n d : String} {c' k' i'}, s.fieldFound? tN n d = some (c', k', i', f) → (Jvm.Cond.lays own_MLE tN n d).before args s = true → kX.instanceTypes[f.slot]? = some f.type := fun q1 q2 => (Cond.laysAt fc x1 q1 q2).1
  have hd9 := (State.fieldFound?_type gd (t := .int) (by decide +kernel))
  have nS := (State.fieldFound?_type hfS (t := .array (.object "java/lang/StackTraceElement")) (by decide +kernel)).1
  have nM := (State.fieldFound?_type gm (t := .object "java/lang/String") (by decide +kernel)).1
  obtain ⟨v6, vm6, ⟨T6, L6, c6, n6⟩, -, X6, ⟨hv6, C6, n, hn, hC, q1, q2, q3, q4, hL6, hc6, hn6⟩, st⟩ := X.virtualBack hx (own := tN) (C := own_MLE) (index := 27) (y := tFill) (z := tFill) hown (w 9 rfl) (w 24 rfl) (notFace_of_selects (w 23 rfl)) (w 23 rfl) (w 2 rfl) (by decide)
    (fillPaysAny (l := l) (R := R) (W := 0) hx (by rw [X.admits.platform]; exact hl) TH L hn1 (u0 := u) (self := a) (cell := cl) (cellS := cellU) (fun _ => by rw [u2]; simp) (by rw [u2]; simp) (by rw [u3]) (by rw [u3]) s7 sel0 ne (fun q => by rw [q] at r6; cases r6) r7 (own_tk x1 ord sz u2 (ty hfS (w 14 rfl)) (by rw [hyS]; exact fits_refV_array _ u))
      ⟨⟨d1, _, _⟩, ⟨d4, d5, d6, d7⟩, b7⟩ hTK hB hcT kO3 kO1 kO2 (Cond.soleField_find hcT L.cls (w 28 rfl) d6 d8 d7) (Cond.soleField_find hcT L.cls (w 29 rfl) (State.fieldFound?_spec gd).2 hd9.1 e2) (fun x => own_tk x1 ord sz u2 (ty e1 (w 26 rfl)) (by rw [d9]; rfl)) (fun x => own_tk x1 ord sz u2 (ty gd (w 30 rfl)) (by rw [hd9.2]; rfl)) hf hlo)
    (b := a) (cB := cl.cls) fc ⟨cl, by rw [eT]; exact h1, rfl, by rw [u2]; rfl⟩ hg hz (Steps.refl _) (argsL := []) (rest := []) (fun sig q => by rw [show parseMethodDescriptor tFill.desc = some ⟨[], some (.object tN)⟩ from by decide +kernel] at q; rw [← Option.some.inj q]; rfl) hs hW hd
    (fun vm _ => ⟨rfl, hc, hsl, by show T.heap[a]? = _; rw [eT]; exact h1, by show T.heap[TH.aS]? = _; rw [eT]; exact r5⟩)
  dsimp only [Pt.U, Pt.locs, Pt.cells, Pt.slots] at X6 hC hL6 hc6 hn6 st
  subst hv6 hL6 hc6 hn6
  refine ⟨T6, T6.heap, (wider X6 hZ (fun x hx => ?_)).more (Nat.le_refl _) (Nat.add_le_add_left hn _), rfl, ⟨C6, kc, hC, by rw [q1]; exact h2, by rw [q1]; exact h3, by rw [q2, u2]; rfl, fun z => by rw [q3]; exact h5 z⟩, ⟨C6, cm, km, im, fm, hC, m2, m3, by rw [q2]; exact m4, by rw [q2]; exact m5, by rw [q1]; exact m6, (q4 _ ?_ ?_ ?_).trans m7⟩, fun t k => st.trans k⟩
  · simp only [List.mem_cons, List.not_mem_nil, or_false] at hx
    rcases hx with rfl | rfl | rfl
    · exact ⟨("backtrace", obD), _, by simp [sixNames], ⟨_, _, _, e1⟩, rfl⟩
    · exact ⟨("depth", "I"), _, by simp [sixNames], ⟨_, _, _, gd⟩, rfl⟩
    · exact ⟨("stackTrace", steD), _, by simp [sixNames], ⟨_, _, _, hfS⟩, rfl⟩
  · exact Cond.lays_apart (w 21 rfl) (w 26 rfl) gm e1 (by rw [nM, d8]; decide)
  · exact Cond.lays_apart (w 21 rfl) (w 30 rfl) gm gd (by rw [nM, hd9.1]; decide)
  · exact Cond.lays_apart (w 21 rfl) (w 14 rfl) gm hfS (by rw [nM, nS]; decide)
abbrev MetK (l : Launch) (Z : State) (y : MethodName) (cd : ByteArray) (ml : Nat) (rt : Option FieldType) (rm : Room) (as' : Array Value) (h0 : Heap) (Q : Option Value → Heap → List Loc → Prop) : Prop := MetFree l y (Jvm.RoadKit.head1 [Jvm.Cond.code y cd ml rt] rm) (fun a U => a = as' ∧ Z.Warmed39 U.vm ∧ U.heap = h0) (fun _ _ bl s _ => s.vm.MethodsKnown ∧ s.vm.FramesKnown bl) (fun _ U o U' => ∃ v L, o = .returned v ∧ Q v U'.heap L ∧ FrameEnd U o U' L rm.cells rm.slots)
theorem own_metK {y : MethodName} {cd : ByteArray} {ml : Nat} {rt : Option FieldType} {rm : Room} {as' : Array Value} {h0 : Heap} {Q : Option Value → Heap → List Loc → Prop} {own : String} {G : MethodId → JFrame} (ho : y.cls = own) (hp : plainFor y = true) (ef : ∀ m, entryFrame m as' ml = G m)
    (H : ∀ (p : Program) (e : Env) (s : State) (m : MethodId) (below : List Frame) (meth : Method) (c : Code) (s₁ E0 : State), Kx p s Z m c own cd ml → meth.name = y.name → meth.sig.returnType = rt → meth.locks = false → s.heap = h0 → s.vm.MethodsKnown ∧ s.vm.FramesKnown below → Stand p l e rm s m as' below meth c s₁ [] 0 0 → s₁.heap = h0 → Pr p e below E0 s₁ (G m) → Gl p e below s E0 Q rm.cells rm.slots) : MetK l Z y cd ml rt rm as' h0 Q := by
  refine MetFree.of_bodySF hp hisR ?_
  intro p e s m args below meth c s₁ Bd hml0 hP hK
  obtain ⟨rfl, hZ, hh⟩ := hP
  subst ho
  exact H p e s m below meth c s₁ _ ⟨Bd.exec, hZ, findClass_of_methodNamed Bd.named, Bd.bytes, hml0⟩ (name_of_methodNamed Bd.named Bd.method).1 Bd.returns Bd.notSynchronized hh hK (Stand.of_body Bd) (by rw [← hh, Bd.state]; rfl) (fun t k => castTop (ef m) k)
abbrev own_QX (Z : State) (a b : Addr) (h0 : Heap) : Option Value → Heap → List Loc → Prop := fun v h L => v = none ∧ Kp Z h0 h a ∧ Fld Z h a tN "detailMessage" msgD (.ref b) ∧ ∀ x ∈ L, x ∈ sixLocs Z a
theorem own_kpS (X : Stand p l e R s m args below meth c T locs cells slots) (hL : ∀ x ∈ locs, x ∈ sixLocs Z a) : Kp Z s.heap T.heap a :=
  ⟨X.same.2.1, fun y cy hy => by
    obtain ⟨c', q1, q2, q3, q4⟩ := X.same.2.2.2.2.2 y cy hy
    refine ⟨c', q1, q2, q3, fun ne => ?_, fun i hi => q4 i fun hm => ?_⟩
    · have q : c'.slots = cy.slots := Array.ext_getElem? fun i => q4 i fun hm => by
        obtain ⟨nd, -, n2⟩ := List.mem_map.mp (hL _ hm)
        exact ne (congrArg Loc.base n2).symm
      rw [q2, q]
    · obtain ⟨nd, n1, n2⟩ := List.mem_map.mp (hL _ hm)
      exact hi nd n1 (congrArg Loc.slot n2)⟩
theorem own_six {n d : String} (hm : (n, d) ∈ sixNames) : (⟨a, Jvm.RoadKit.slotOf Z tN n d⟩ : Loc) ∈ sixLocs Z a := List.mem_map.mpr ⟨(n, d), hm, rfl⟩
theorem own_staT {n d : String} (hi : (Jvm.Cond.initialized tN).before a0 Z = true) (hl : (Jvm.Cond.laysStatic tN n d).before a0 Z = true) (hr : (Jvm.Cond.isRef (.static tN n d)).before a0 Z = true) : ∃ u : RefV, Sta Z Z.heap tN n d u.v := by
  obtain ⟨c, k, i, f, b, cell, hc, hf, hst, hsta, hcell, hiss, -⟩ := Cond.laysStatic_spec hl
  obtain ⟨u, hu⟩ := Cond.staticRefV hf hst hsta hcell hiss hr
  exact ⟨u, c, i, k, f, b, cell, hf, hst, Cond.initialized_spec hc (State.fieldFound?_spec hf).1 hi, hsta, hcell, hiss, hu⟩
theorem own_dT : Dk jdk_78_method_2_code 0 (.aload_n 0) 1 ∧ Dk jdk_78_method_2_code 1 (.invokespecial 1) 3 ∧ Dk jdk_78_method_2_code 4 (.aload_n 0) 1 ∧ Dk jdk_78_method_2_code 5 (.aload_n 0) 1 ∧ Dk jdk_78_method_2_code 6 (.putfield 7) 3 ∧ Dk jdk_78_method_2_code 9 (.aload_n 0) 1 ∧ Dk jdk_78_method_2_code 10 (.getstatic 13) 3 ∧ Dk jdk_78_method_2_code 13 (.putfield 17) 3 ∧ Dk jdk_78_method_2_code 16 (.aload_n 0) 1 ∧ Dk jdk_78_method_2_code 17 (.getstatic 20) 3 ∧ Dk jdk_78_method_2_code 20 (.putfield 24) 3 ∧ Dk jdk_78_method_2_code 23 (.aload_n 0) 1 ∧ Dk jdk_78_method_2_code 24 (.invokevirtual 27) 3 ∧ Dk jdk_78_method_2_code 27 .pop 1 ∧ Dk jdk_78_method_2_code 28 (.aload_n 0) 1 ∧ Dk jdk_78_method_2_code 29 (.aload_n 1) 1 ∧ Dk jdk_78_method_2_code 30 (.putfield 31) 3 ∧ Dk jdk_78_method_2_code 33 .return_ 1 := by and_intros <;> decide +kernel
theorem own_dX : (Dk jdk_59_method_2_code 0 (.aload_n 0) 1 ∧ Dk jdk_59_method_2_code 1 (.aload_n 1) 1 ∧ Dk jdk_59_method_2_code 2 (.invokespecial 7) 3 ∧ Dk jdk_59_method_2_code 5 .return_ 1) ∧ Dk jdk_58_method_2_code 0 (.aload_n 0) 1 ∧ Dk jdk_58_method_2_code 1 (.aload_n 1) 1 ∧ Dk jdk_58_method_2_code 2 (.invokespecial 7) 3 ∧ Dk jdk_58_method_2_code 5 .return_ 1 := by decide +kernel
theorem own_thx (hw : Hw a0 Z) (hl : l.stackTraces = true) (hT : ∀ d ∈ twoRefs, d.before a0 Z = true) {b : Addr} (hE : Ext Z.heap h) (E : Exa Z h a own_MLE) (N : Unt h a) (B : Fld Z h a tN "backtrace" obD .null) (M : Fld Z h a tN "detailMessage" msgD .null) : MetK l Z (own_ctS tN) jdk_78_method_2_code 2 none (Rm 3 1 2752 42) #[.ref a, .ref b] h (own_QX Z a b h) := by
  refine own_metK (own := tN) rfl rfl (G := fun m => mkF m 0 #[.val (.ref a), .val (.ref b)] []) (fun m => rfl) ?_
  intro p e s m below meth c s₁ E0 K hn hr hk hh hKn X0 e0 pre
  obtain ⟨d0, d1, d4, d5, d6, d9, d10, d13, d16, d17, d20, d23, d24, d27, d28, d29, d30, d33⟩ := own_dT
  have w : ∀ (i : Nat) {d : Jvm.Cond}, own_thA[i]? = some d → d.before a0 Z = true := fun i d q => hw d (own_thM d (List.mem_of_getElem? q))
  obtain ⟨u, SU⟩ := own_staT (w 0 rfl) (w 18 rfl) (hT _ (List.mem_cons_self ..))
  obtain ⟨z, SS⟩ := own_staT (w 0 rfl) (w 20 rfl) (hT _ (List.mem_of_getElem? (i := 1) rfl))
  have SU := SU.ext hE
  have SS := SS.ext hE
  obtain ⟨o1, F1⟩ := fld_laid E N.known (w 32 rfl) (Or.inl (w 12 rfl))
  obtain ⟨o2, F2⟩ := fld_laid E N.known (w 32 rfl) (Or.inl (w 14 rfl))
  obtain ⟨o3, F3⟩ := fld_laid E N.known (w 32 rfl) (Or.inl (w 16 rfl))
  have tC : parseFieldDescriptor thD = some (.object tN) := by decide +kernel
  have tS : parseFieldDescriptor steD = some (.array (.object "java/lang/StackTraceElement")) := by decide +kernel
  have tP : parseFieldDescriptor listD = some (.object "java/util/List") := by decide +kernel
  have tM : parseFieldDescriptor msgD = some (.object "java/lang/String") := by decide +kernel
  have tB : parseFieldDescriptor obD = some (.object "java/lang/Object") := by decide +kernel
  have bC := slot_ne (Or.inl (w 26 rfl)) (Or.inl (w 12 rfl)) (by decide) tB tC
  have bS := slot_ne (Or.inl (w 26 rfl)) (Or.inl (w 14 rfl)) (by decide) tB tS
  have bP := slot_ne (Or.inl (w 26 rfl)) (Or.inl (w 16 rfl)) (by decide) tB tP
  have mC := slot_ne (Or.inl (w 21 rfl)) (Or.inl (w 12 rfl)) (by decide) tM tC
  have mS := slot_ne (Or.inl (w 21 rfl)) (Or.inl (w 14 rfl)) (by decide) tM tS
  have mP := slot_ne (Or.inl (w 21 rfl)) (Or.inl (w 16 rfl)) (by decide) tM tP
  have sC := slot_ne (Or.inl (w 14 rfl)) (Or.inl (w 12 rfl)) (by decide) tS tC
  have sP := slot_ne (Or.inl (w 14 rfl)) (Or.inl (w 16 rfl)) (by decide) tS tP
  have pC := slot_ne (Or.inl (w 16 rfl)) (Or.inl (w 12 rfl)) (by decide) tP tC
  have pS := sP.symm
  obtain ⟨T1, X1, e1, st1⟩ := initO X0 K.1 K.2.1 K.2.2.1 (w 8 rfl) (w 6 rfl) (w 7 rfl) e0 (g := mkF m 1 #[.val (.ref a), .val (.ref b)] [.ref a]) rfl K.2.2.2.2.symm rfl (hb K.2.2.2.1 d1) (by decide) (W := 0) (by show 2 * 0 + 0 ≤ 0; decide) (by decide)
  have pre1 : Pr p e below E0 T1 (mkF m 6 #[.val (.ref a), .val (.ref b)] [.ref a, .ref a]) := fun t k => pre t (oA K X0 d0 rfl rfl rfl (st1 t (oA K X1 d4 rfl rfl rfl (oA K X1 d5 rfl rfl rfl k))))
  obtain ⟨T2, h2, X2, e2, W2, -, pre2⟩ := pF pre1 K X1 e1 (.object tN) (w 11 rfl) F1 E (Or.inl (w 12 rfl)) (w 32 rfl) d6 rfl rfl tC rfl rfl
  have E2 := E.wr W2
  obtain ⟨T3, X3, e3, pre3⟩ := gS (g := mkF m 10 #[.val (.ref a), .val (.ref b)] [.ref a]) (fun t k => pre2 t (oA K X2 d9 rfl rfl rfl k)) K X2 e2 (w 17 rfl) (SU.wr W2) d10 rfl
  obtain ⟨T4, h4, X4, e4, W4, G4, pre4⟩ := pF pre3 K X3 e3 (.array (.object "java/lang/StackTraceElement")) (w 13 rfl) (F2.other W2 (Or.inr sC)) E2 (Or.inl (w 14 rfl)) (w 32 rfl) d13 rfl rfl tS (narrow_refV _ u) (fits_refV_array _ u)
  have E4 := E2.wr W4
  obtain ⟨T5, X5, e5, pre5⟩ := gS (g := mkF m 17 #[.val (.ref a), .val (.ref b)] [.ref a]) (fun t k => pre4 t (oA K X4 d16 rfl rfl rfl k)) K X4 e4 (w 19 rfl) ((SS.wr W2).wr W4) d17 rfl
  obtain ⟨T6, h6, X6, e6, W6, -, pre6⟩ := pF pre5 K X5 e5 (.object "java/util/List") (w 15 rfl) ((F3.other W2 (Or.inr pC)).other W4 (Or.inr pS)) E4 (Or.inl (w 16 rfl)) (w 32 rfl) d20 rfl rfl tP (narrow_refV _ z) (fits_refV_object _ z)
  obtain ⟨T7, h7, X7, e7, E7, M7, pre7⟩ := own_fill X6 K.1 hl K.2.1 K.2.2.1 hw (by rw [hh]; exact hE) hKn.1 hKn.2 e6 (E4.wr W6) (((N.wr W2).wr W4).wr W6) (((B.other W2 (Or.inr bC)).other W4 (Or.inr bS)).other W6 (Or.inr bP)) (((SU.wr W2).wr W4).wr W6) (G4.other W6 (Or.inr sP)) (((M.other W2 (Or.inr mC)).other W4 (Or.inr mS)).other W6 (Or.inr mP))
    (g := mkF m 24 #[.val (.ref a), .val (.ref b)] [.ref a]) rfl K.2.2.2.2.symm rfl (by show 2 * 0 + 0 ≤ 0; decide) (hb K.2.2.2.1 d24) (by decide) (by decide) (by decide) (by decide)
  have pre8 : Pr p e below E0 T7 (mkF m 30 #[.val (.ref a), .val (.ref b)] [.ref b, .ref a]) := fun t k => pre6 t (oA K X6 d23 rfl rfl rfl (pre7 t (XT.pop X7.here K.1 rfl (hb K.2.2.2.1 d27) rfl rfl (oA K X7 d28 rfl rfl rfl (oA K X7 d29 rfl rfl rfl k)))))
  obtain ⟨T9, h9, X9, e9, W9, M9, pre9⟩ := pF pre8 K X7 e7 (.object "java/lang/String") (w 31 rfl) M7 E7 (Or.inl (w 21 rfl)) (w 32 rfl) d30 rfl rfl tM rfl rfl
  have hL : ∀ x ∈ [] ++ [(⟨a, Jvm.RoadKit.slotOf Z tN "cause" thD⟩ : Loc)] ++ [⟨a, Jvm.RoadKit.slotOf Z tN "stackTrace" steD⟩] ++ [⟨a, Jvm.RoadKit.slotOf Z tN "suppressedExceptions" listD⟩] ++ sixLocs Z a ++ [⟨a, Jvm.RoadKit.slotOf Z tN "detailMessage" msgD⟩], x ∈ sixLocs Z a := fun x hx => by
    simp only [List.nil_append, List.mem_append, List.mem_singleton] at hx
    rcases hx with (((rfl | rfl) | rfl) | hx) | rfl
    · exact own_six (by simp [sixNames])
    · exact own_six (by simp [sixNames])
    · exact own_six (by simp [sixNames])
    · exact hx
    · exact own_six (by simp [sixNames])
  have kp := own_kpS X9 hL
  rw [hh, e9] at kp
  exact rtV (pc := 33) (Ls := #[.val (.ref a), .val (.ref b)]) pre9 K X9 e9 hr hk d33 (by decide) ⟨rfl, kp, M9, hL⟩
theorem own_cIK {own : String} {cd ycd : ByteArray} {ml yml index W : Nat} {y : MethodName} {rm : Room} {Q : Option Value → Heap → List Loc → Prop} {as' : Array Value} {argsL rest : List Value} {g : JFrame} (pre : Pr p e below E0 T g) (K : Kx p s Z m c own cd ml) (X : Stand p l e R s m args below meth c T locs cells slots) (eT : T.heap = h) (M : MetK l Z y ycd yml none rm as' h Q) (w1 : (Jvm.Cond.methodLink own index y).before a0 Z = true) (w2 : (Jvm.Cond.instanceMethod y).before a0 Z = true) (w3 : (Jvm.Cond.initialized y.cls).before a0 Z = true) (w4 : (Jvm.Cond.code y ycd yml none).before a0 Z = true) (hTK : s.vm.MethodsKnown) (hB : s.vm.FramesKnown below)
    {a : Addr} (ha : as' = (.ref a :: argsL).toArray) (hlen : ∀ sig, parseMethodDescriptor y.desc = some sig → argsL.length = sig.parameters.length) (hd : decode cd g.pc = .ok (.invokespecial index, 3)) (hg : g.method = m) (hz : g.locals.size = ml) (hs : g.stack = argsL.reverse ++ .ref a :: rest) (hW : 2 * g.monitorRoom + (rest.map fun v => v.category).sum ≤ W) (hn : Nm rm R yml W cells slots y) (hy : y.name = "<init>") :
    ∃ T' v L, Stand p l e R s m args below meth c T' (locs ++ L) (cells + rm.cells) (slots + rm.slots) ∧ Q v T'.heap L ∧ Pr p e below E0 T' { g with pc := g.pc + 3, stack := v.toList ++ rest } := by
  obtain ⟨v, _, ⟨T', L', k', n'⟩, -, X', ⟨L, hQ, l', y', z'⟩, st⟩ := X.specialBack K.1 (y := y) hy K.2.2.1 (mvT K.2.1 w1) (mvT K.2.1 w2) (mvT K.2.1 w4) hn.2.2.2.2 (backOfKL (W := W) M K.2.1 w4 w3 hn.1 hn.2.1 hTK hB) hg (hz.trans K.2.2.2.2.symm) (Steps.refl _) hlen hs hW (hb K.2.2.2.1 hd) (fun _ _ => ⟨ha.symm, eT, hn.2.2.1, hn.2.2.2.1⟩)
  dsimp only [Pt.U, Pt.locs, Pt.cells, Pt.slots] at X' l' y' z' st hQ
  subst l' y' z'
  exact ⟨T', v, L, X', hQ, fun t k => pre t (st.trans k)⟩
theorem own_len1 : ∀ sig, parseMethodDescriptor "(Ljava/lang/String;)V" = some sig → [Value.null].length = sig.parameters.length := fun sig q => by
  rw [show parseMethodDescriptor "(Ljava/lang/String;)V" = some ⟨[.object "java/lang/String"], none⟩ from by decide +kernel] at q
  rw [← Option.some.inj q]; rfl
theorem own_pass {C D : String} {cd ycd : ByteArray} {b : Addr} {rm : Room} (M : MetK l Z (own_ctS D) ycd 2 none rm #[.ref a, .ref b] h (own_QX Z a b h)) (hC : plainFor (own_ctS C) = true) (hD : D ≠ "java/lang/invoke/MethodHandle" ∧ D ≠ "java/lang/invoke/VarHandle") (w1 : (Jvm.Cond.methodLink C 7 (own_ctS D)).before a0 Z = true) (w2 : (Jvm.Cond.instanceMethod (own_ctS D)).before a0 Z = true) (w3 : (Jvm.Cond.initialized D).before a0 Z = true) (w4 : (Jvm.Cond.code (own_ctS D) ycd 2 none).before a0 Z = true)
    (d : Dk cd 0 (.aload_n 0) 1 ∧ Dk cd 1 (.aload_n 1) 1 ∧ Dk cd 2 (.invokespecial 7) 3 ∧ Dk cd 5 .return_ 1) : MetK l Z (own_ctS C) cd 2 none (Rm (rm.frames + 1) rm.cells rm.slots (13 + rm.locals)) #[.ref a, .ref b] h (own_QX Z a b h) := by
  refine own_metK (own := C) rfl hC (G := fun m => mkF m 0 #[.val (.ref a), .val (.ref b)] []) (fun m => rfl) ?_
  intro p e s m below meth c s₁ E0 K hn hr hk hh hKn X0 e0 pre
  obtain ⟨T1, v, L, X1, ⟨rfl, q2, q3, q4⟩, pre1⟩ := own_cIK (W := 0) (argsL := [.ref b]) (rest := []) (g := mkF m 2 #[.val (.ref a), .val (.ref b)] [.ref b, .ref a]) (fun t k => pre t (oA K X0 d.1 rfl rfl rfl (oA K X0 d.2.1 rfl rfl rfl k))) K X0 e0 M w1 w2 w3 w4 hKn.1 hKn.2 rfl own_len1 d.2.2.1 rfl rfl rfl (by show 2 * 0 + 0 ≤ 0; decide) ⟨Nat.le_refl _, by show 0 + (2 + 11) + rm.locals ≤ 13 + rm.locals; omega, by show 0 + rm.cells ≤ rm.cells; omega, by show 0 + rm.slots ≤ rm.slots; omega, hD⟩ rfl
  exact rtV (pc := 5) (Ls := #[.val (.ref a), .val (.ref b)]) pre1 K X1 rfl hr hk d.2.2.2 ⟨by show 0 + rm.cells ≤ rm.cells; omega, by show 0 + rm.slots ≤ rm.slots; omega⟩ ⟨rfl, q2, q3, fun x hx => q4 x (by simpa using hx)⟩
theorem own_excL1 (X : Stand p l e R s m args below meth c T locs cells slots) (hx : p.tables.exec = Jvm.exec) (hl : l.stackTraces = true) (hZ : Z.Warmed39 s.vm) {own : String} (hown : s.vm.findClass own = some m.cls) {ic : Nat} (w1 : (Jvm.Cond.methodLink own ic (own_ctS "java/lang/RuntimeException")).before a0 Z = true) (hw : Hw a0 Z) (r : ∀ d ∈ twoRefs, d.before a0 Z = true)
    (hE : Ext Z.heap h) (hTK : s.vm.MethodsKnown) (hB : s.vm.FramesKnown below) (eT : T.heap = h) (E : Exa Z h a own_MLE) (N : Unt h a) (B : Fld Z h a tN "backtrace" obD .null) (B2 : Fld Z h a tN "detailMessage" msgD .null) {b : Addr}
    {g : JFrame} (hg : g.method = m) (hz : g.locals.size = c.maxLocals) {rest : List Value} (hs : g.stack = .ref b :: .ref a :: rest) (hd : decode c.code g.pc = .ok (.invokespecial ic, 3)) (hf : 6 ≤ R.frames) (hlo : 2 * g.monitorRoom + (rest.map fun v => v.category).sum + 84 ≤ R.locals) (hc : cells + 1 ≤ R.cells) (hsl : slots + 2752 ≤ R.slots) :
    ∃ (T' : State) (h' : Heap), Stand p l e R s m args below meth c T' (locs ++ sixLocs Z a) (cells + 1) (slots + 2752) ∧ T'.heap = h' ∧ Kp Z h h' a ∧ Exa Z h' a own_MLE ∧ Fld Z h' a tN "detailMessage" msgD (.ref b) ∧ ∀ t, Steps p.tables e below (T'.setTop { g with pc := g.pc + 3, stack := rest }) t → Steps p.tables e below (T.setTop g) t := by
  have w : ∀ (i : Nat) {d : Jvm.Cond}, tables_1[i]? = some d → d.before a0 Z = true := fun i d q => hw d (List.mem_of_getElem? q)
  have M1 := own_thx (l := l) (b := b) hw hl r hE E N B B2
  have M2 := own_pass (C := "java/lang/Exception") M1 rfl (by decide) (w 226 rfl) (w 227 rfl) (w 230 rfl) (w 231 rfl) own_dX.1
  have M3 := own_pass (C := "java/lang/RuntimeException") M2 rfl (by decide) (w 220 rfl) (w 221 rfl) (w 224 rfl) (w 225 rfl) own_dX.2
  obtain ⟨T1, v, L, X1, ⟨rfl, q2, q3, q4⟩, st⟩ := own_cIK (own := own) (cd := c.code) (ml := c.maxLocals) (W := 2 * g.monitorRoom + (rest.map fun v => v.category).sum) (argsL := [.ref b]) (rest := rest) (g := g) (fun t k => k) ⟨hx, hZ, hown, rfl, rfl⟩ X eT M3 w1 (w 216 rfl) (w 218 rfl) (w 219 rfl) hTK hB rfl own_len1 hd hg hz hs (Nat.le_refl _) ⟨hf, by show _ + (2 + 11) + (13 + (13 + 42)) ≤ _; omega, hc, hsl, by decide⟩ rfl
  exact ⟨T1, T1.heap, { X1 with same := X1.same.sift fun x hx => Or.inl ((List.mem_append.mp hx).elim (List.mem_append_left _) fun q => List.mem_append_right _ (q4 x q)) }, rfl, q2, E.kp q2, q3, st⟩
end Thr

theorem own_len' {t : Term} {a : Addr} {cl : Cell} {k : Int32} {a0 : Array Value} {Z : State} (ev : t.eval a0 Z none [] Z = some (.ref a)) (ha : Z.arrayAt? a = some cl) (h : (Term.length t).eval a0 Z none [] Z = some (.int k)) : cl.slots.size < 2 ^ 31 ∧ cl.slots.size.toInt32 = k := by
  simp [Term.eval, ev, ha] at h
  exact h
theorem own_all {t : Term} {aK : Addr} {cl : Cell} {a0 : Array Value} {Z : State} {B : Jvm.Cond} (ev : t.eval a0 Z none [] Z = some (.ref aK)) (ha : Z.arrayAt? aK = some cl) (h : (Jvm.Cond.all t B).value a0 Z none Z [] = some true) : ∀ i, i < cl.slots.size → B.value a0 Z none Z [i] = some true := by
  simp only [Cond.value, ev, ha] at h
  have key : ∀ (L : List Nat) (acc : Option Bool), List.foldl (fun acc i => match acc with | some true => Cond.value a0 Z none Z [i] B | x => x) acc L = some true → acc = some true ∧ ∀ i ∈ L, Cond.value a0 Z none Z [i] B = some true := by
    intro L
    induction L with
    | nil => intro acc h; exact ⟨h, fun _ q => nomatch q⟩
    | cons x r ih =>
      intro acc h
      obtain ⟨h1, h2⟩ := ih _ h
      have e : acc = some true := by
        cases acc with
        | none => cases h1
        | some b => cases b with
          | true => rfl
          | false => cases h1
      subst e
      refine ⟨rfl, fun i hi => ?_⟩
      rcases List.mem_cons.mp hi with rfl | hi
      · exact h1
      · exact h2 i hi
  intro i hi
  exact (key _ _ h).2 i (List.mem_range.mpr hi)
theorem own_eqt {t u : Term} {k : Int32} {a0 : Array Value} {Z : State} {ix : List Nat} (h : (Jvm.Cond.eq t u).value a0 Z none Z ix = some true) (hu : u.eval a0 Z none ix Z = some (.int k)) : t.eval a0 Z none ix Z = some (.int k) := by
  obtain ⟨x, y, e1, e2, k1, -⟩ := cmp_v (Or.inl h)
  obtain rfl : Value.int k = y := Option.some.inj (hu.symm.trans e2)
  cases x <;> simp [Kin, Value.isRef] at k1
  simp [Jvm.Cond.value, e1, hu] at h
  rw [e1, h]
theorem own_allO {t : Term} {a0 : Array Value} {Z : State} (h : (Jvm.Cond.all t (Jvm.Cond.eq (Jvm.Term.elem t (Jvm.Term.index (0 : Nat))) (Jvm.Term.add (Jvm.Term.int (48 : Int32)) (Jvm.Term.rem (Jvm.Term.index (0 : Nat)) (Jvm.Term.int (10 : Int32)))))).value a0 Z none Z [] = some true) : ∀ (a : Addr) (cl : Cell), t.eval a0 Z none [] Z = some (.ref a) → Z.arrayAt? a = some cl → ∀ i, i < cl.slots.size → (Term.elem t (.index 0)).eval a0 Z none [i] Z = some (.int (own_o (Int32.ofNat i))) :=
  fun a cl ev ha i hi => own_eqt (own_all ev ha h i hi) (by simp [Term.eval, own_o])
theorem own_allT {t : Term} {a0 : Array Value} {Z : State} (h : (Jvm.Cond.all t (Jvm.Cond.eq (Jvm.Term.elem t (Jvm.Term.index (0 : Nat))) (Jvm.Term.add (Jvm.Term.int (48 : Int32)) (Jvm.Term.div (Jvm.Term.index (0 : Nat)) (Jvm.Term.int (10 : Int32)))))).value a0 Z none Z [] = some true) : ∀ (a : Addr) (cl : Cell), t.eval a0 Z none [] Z = some (.ref a) → Z.arrayAt? a = some cl → ∀ i, i < cl.slots.size → (Term.elem t (.index 0)).eval a0 Z none [i] Z = some (.int (own_t (Int32.ofNat i))) :=
  fun a cl ev ha i hi => own_eqt (own_all ev ha h i hi) (by simp [Term.eval, own_t])
theorem own_fitO : ∀ k : Fin 100, fits .byte (.int (own_o (Int32.ofNat k.val))) = true ∧ fits .byte (.int (own_t (Int32.ofNat k.val))) = true := by decide +kernel
theorem own_arrD {t : Term} {f : Int32 → Int32} {a0 : Array Value} {Z : State} (hft : ∀ k : Nat, k < 100 → fits .byte (.int (f (Int32.ofNat k))) = true) (wa : (Jvm.Cond.arrayClass .byte).before a0 Z = true) (hx : (Jvm.Cond.exactly t "[B").before a0 Z = true) (hl : (Jvm.Cond.eq (.length t) (.int (100 : Int32))).before a0 Z = true) (hi' : ∀ i, t.eval a0 Z none [i] Z = t.eval a0 Z none [] Z) (hall : ∀ (a : Addr) (cl : Cell), t.eval a0 Z none [] Z = some (.ref a) → Z.arrayAt? a = some cl → ∀ i, i < cl.slots.size → (Term.elem t (.index 0)).eval a0 Z none [i] Z = some (.int (f (Int32.ofNat i)))) :
    ∃ a k, t.eval a0 Z none [] Z = some (.ref a) ∧ Arv Z Z.heap a k .byte (100 : Int32) ((List.range 100).map fun i => Value.int (f (Int32.ofNat i))) (.int (0 : Int32)) := by
  obtain ⟨a, c3, cell3, k3, e1, e2, e3, e4, e5, e6, -⟩ := Cond.exactly_spec hx
  obtain ⟨c4, k4, comp, f1, f2, f3⟩ := Cond.arrayClass_spec wa
  have hlen := own_eqc (Cond.before_iff.mp hl)
  obtain ⟨a', cl, g1, g2, -⟩ := Term.length_spec hlen
  cases e1.symm.trans g1
  obtain ⟨q1, q2⟩ := own_len' g1 g2 hlen
  have hcell : Z.heap[a]? = some cl ∧ cl.vm ≠ .unknown := by
    simp only [State.arrayAt?, Option.bind_eq_bind] at g2
    cases q : Z.heap[a]? with
    | none => simp [q] at g2
    | some x => simp only [q, Option.bind_some] at g2; grind
  cases hcell.1.symm.trans e3
  cases (show Z.vm.findClass "[B" = some c4 from f1).symm.trans e2
  have hA : Z.isArrayOf cell3 .byte := ⟨(fun q r => by rw [r] at e5; cases e5), k4, by rw [e6]; exact f2, comp, f3⟩
  have hs : cell3.slots.size = 100 := by
    have := congrArg Int32.toInt q2
    rw [len_toInt q1, show (100 : Int32).toInt = 100 from rfl] at this
    omega
  have hget : ∀ i, i < 100 → ((List.range 100).map fun i => Value.int (f (Int32.ofNat i))).getD i (.int (0 : Int32)) = .int (f (Int32.ofNat i)) := fun i hi => by
    simp [List.getD_eq_getElem?_getD, List.getElem?_map, List.getElem?_range hi]
  refine ⟨a, cell3.cls, e1, cell3, ⟨hcell.1, hA, hcell.2⟩, rfl, by rw [hs]; rfl, by decide, fun i hi => ?_, fun i hi => ?_⟩
  · have w := hall a cell3 e1 g2 i hi
    have hn : (Int32.ofNat i).toNatClampNeg = i := own_onN (by omega)
    have r := elem_in w ((hi' i).trans e1) (by simp [Term.eval] : (Term.index 0).eval a0 Z none [i] Z = some (.int (Int32.ofNat i))) hcell.1
    rw [hn] at r
    rw [hget i (by omega)]
    exact r.2
  · rw [hget i (by omega)]
    exact hft i (by omega)

abbrev s1_ : String := "java/lang/AbstractStringBuilder"
abbrev s2_ : String := "java/lang/String"
abbrev s3_ : String := "java/lang/StringUTF16"
abbrev s4_ : String := "java/lang/StringBuilder"
abbrev s5_ : String := "maybeLatin1"
abbrev s6_ : String := "COMPACT_STRINGS"
abbrev s7_ : String := "com/example/quadshape/quadshape/core/regex/MatchLimitException"
abbrev s8_ : String := "jdk/internal/util/Preconditions"
abbrev s9_ : String := "$assertionsDisabled"
abbrev s10_ : String := "HI_BYTE_SHIFT"
abbrev s11_ : String := "LO_BYTE_SHIFT"
abbrev s12_ : String := "SIOOBE_FORMATTER"
abbrev s13_ : String := "Ljava/util/function/BiFunction;"
abbrev s14_ : String := "java/lang/Integer"
abbrev s15_ : String := "java/lang/Throwable"
abbrev s16_ : String := "com/example/quadshape/quadshape/core/regex/MatchLimitExceptionOfMemoryPinLaw"
abbrev s17_ : String := "(Ljava/lang/String;Ljava/lang/String;I)Lcom/example/quadshape/quadshape/core/regex/MatchLimitException;"
abbrev y_1 : MethodName := ⟨s2_, "coder", "()B"⟩
abbrev y_2 : MethodName := ⟨s2_, "isLatin1", "()Z"⟩
abbrev y_3 : MethodName := ⟨s1_, "isLatin1", "()Z"⟩
abbrev y_4 : MethodName := ⟨s2_, "length", "()I"⟩
abbrev y_5 : MethodName := ⟨"java/lang/Math", "max", "(II)I"⟩
abbrev y_6 : MethodName := ⟨"java/lang/Math", "min", "(II)I"⟩
abbrev y_7 : MethodName := ⟨"jdk/internal/util/ArraysSupport", "newLength", "(III)I"⟩
abbrev y_8 : MethodName := ⟨"java/util/Arrays", "copyOf", "([BI)[B"⟩
abbrev y_9 : MethodName := ⟨s1_, "ensureCapacityInternal", "(I)V"⟩
abbrev y_10 : MethodName := ⟨s1_, "newCapacity", "(I)I"⟩
abbrev y_11 : MethodName := ⟨s2_, "getBytes", "([BIB)V"⟩
abbrev y_12 : MethodName := ⟨s1_, "inflateIfNeededFor", "(Ljava/lang/String;)V"⟩
abbrev y_13 : MethodName := ⟨s1_, "putStringAt", "(ILjava/lang/String;)V"⟩
abbrev y_14 : MethodName := ⟨s1_, "append", "(Ljava/lang/String;)Ljava/lang/AbstractStringBuilder;"⟩
abbrev y_15 : MethodName := ⟨s4_, "append", "(Ljava/lang/String;)Ljava/lang/StringBuilder;"⟩
abbrev y_16 : MethodName := ⟨s1_, "<init>", "(I)V"⟩
abbrev y_17 : MethodName := ⟨s4_, "<init>", "()V"⟩
abbrev y_18 : MethodName := ⟨"java/util/Arrays", "checkLength", "(II)V"⟩
abbrev y_19 : MethodName := ⟨"java/util/Arrays", "copyOfRangeByte", "([BII)[B"⟩
abbrev y_20 : MethodName := ⟨"java/util/Arrays", "copyOfRange", "([BII)[B"⟩
abbrev y_21 : MethodName := ⟨s1_, "getValue", "()[B"⟩
abbrev y_22 : MethodName := ⟨s1_, "length", "()I"⟩
abbrev y_23 : MethodName := ⟨s4_, "length", "()I"⟩
abbrev y_24 : MethodName := ⟨s2_, "<init>", "(Ljava/lang/AbstractStringBuilder;Ljava/lang/Void;)V"⟩
abbrev y_25 : MethodName := ⟨s2_, "<init>", "(Ljava/lang/StringBuilder;)V"⟩
abbrev y_26 : MethodName := ⟨s4_, "toString", "()Ljava/lang/String;"⟩
abbrev y_27 : MethodName := ⟨s3_, "putChar", "([BII)V"⟩
abbrev y_28 : MethodName := ⟨s8_, "checkFromIndexSize", "(IIILjava/util/function/BiFunction;)I"⟩
abbrev y_29 : MethodName := ⟨s2_, "checkBoundsOffCount", "(III)I"⟩
abbrev y_30 : MethodName := ⟨s3_, "length", "([B)I"⟩
abbrev y_31 : MethodName := ⟨s3_, "checkBoundsOffCount", "(II[B)V"⟩
abbrev y_32 : MethodName := ⟨s3_, "inflate", "([BI[BII)V"⟩
abbrev y_33 : MethodName := ⟨"java/lang/StringLatin1", "inflate", "([BI[BII)V"⟩
abbrev y_34 : MethodName := ⟨s3_, "newBytesLength", "(I)I"⟩
abbrev y_35 : MethodName := ⟨s3_, "newBytesFor", "(I)[B"⟩
abbrev y_36 : MethodName := ⟨s1_, "inflate", "()V"⟩
abbrev y_37 : MethodName := ⟨s14_, "stringSize", "(I)I"⟩
abbrev y_38 : MethodName := ⟨s14_, "getChars", "(II[B)I"⟩
abbrev y_39 : MethodName := ⟨s3_, "getChars", "(II[B)I"⟩
abbrev y_40 : MethodName := ⟨s8_, "checkFromToIndex", "(IIILjava/util/function/BiFunction;)I"⟩
abbrev y_41 : MethodName := ⟨s2_, "checkBoundsBeginEnd", "(III)V"⟩
abbrev y_42 : MethodName := ⟨"java/util/Objects", "checkFromToIndex", "(III)I"⟩
abbrev y_43 : MethodName := ⟨s3_, "checkBoundsBeginEnd", "(II[B)V"⟩
abbrev y_44 : MethodName := ⟨s3_, "getChars", "(III[B)I"⟩
abbrev y_45 : MethodName := ⟨s1_, "append", "(I)Ljava/lang/AbstractStringBuilder;"⟩
abbrev y_46 : MethodName := ⟨s4_, "append", "(I)Ljava/lang/StringBuilder;"⟩
abbrev y_47 : MethodName := ⟨"java/lang/Long", "stringSize", "(J)I"⟩
abbrev y_48 : MethodName := ⟨"java/lang/Long", "getChars", "(JI[B)I"⟩
abbrev y_49 : MethodName := ⟨s1_, "append", "(J)Ljava/lang/AbstractStringBuilder;"⟩
abbrev y_50 : MethodName := ⟨s4_, "append", "(J)Ljava/lang/StringBuilder;"⟩
abbrev y_51 : MethodName := ⟨s3_, "getChar", "([BI)C"⟩
abbrev y_52 : MethodName := ⟨s3_, "compress", "([CI[BII)I"⟩
abbrev y_53 : MethodName := ⟨s3_, "compress", "([CII)[B"⟩
abbrev y_54 : MethodName := ⟨s3_, "coderFromArrayLen", "([BI)B"⟩
abbrev y_55 : MethodName := ⟨s2_, "<init>", "([CIILjava/lang/Void;)V"⟩
abbrev y_56 : MethodName := ⟨s2_, "<init>", "([C)V"⟩
abbrev y_57 : MethodName := ⟨s3_, "toBytes", "([CII)[B"⟩
abbrev y_58 : MethodName := ⟨s8_, "checkIndex", "(IILjava/util/function/BiFunction;)I"⟩
abbrev y_59 : MethodName := ⟨s2_, "checkIndex", "(II)V"⟩
abbrev y_60 : MethodName := ⟨"java/lang/StringLatin1", "charAt", "([BI)C"⟩
abbrev y_61 : MethodName := ⟨s3_, "checkIndex", "(I[B)V"⟩
abbrev y_62 : MethodName := ⟨s3_, "charAt", "([BI)C"⟩
abbrev y_63 : MethodName := ⟨s2_, "charAt", "(I)C"⟩
abbrev y_64 : MethodName := ⟨"java/lang/Character", "isHighSurrogate", "(C)Z"⟩
abbrev y_65 : MethodName := ⟨"java/lang/Character", "isLowSurrogate", "(C)Z"⟩
abbrev y_66 : MethodName := ⟨s3_, "codePointCount", "([BIIZ)I"⟩
abbrev y_67 : MethodName := ⟨s3_, "codePointCount", "([BII)I"⟩
abbrev y_68 : MethodName := ⟨s2_, "codePointCount", "(II)I"⟩
abbrev y_69 : MethodName := ⟨"java/lang/StringLatin1", "equals", "([B[B)Z"⟩
abbrev y_70 : MethodName := ⟨s2_, "equals", "(Ljava/lang/Object;)Z"⟩
abbrev y_71 : MethodName := ⟨s7_, "<init>", "(Ljava/lang/String;Ljava/lang/String;Ljava/lang/String;)V"⟩
abbrev y_72 : MethodName := ⟨s7_, "ofMemory", s17_⟩
abbrev y_73 : MethodName := ⟨s15_, "getMessage", "()Ljava/lang/String;"⟩
abbrev y_74 : MethodName := ⟨s16_, "numChar", "(III)C"⟩
abbrev y_75 : MethodName := ⟨s16_, "digitOk", "(Ljava/lang/String;III)Z"⟩
abbrev c_1 : ByteArray := jdk_42_method_152_code
abbrev c_2 : ByteArray := jdk_42_method_154_code
abbrev c_3 : ByteArray := jdk_68_method_68_code
abbrev c_4 : ByteArray := jdk_42_method_54_code
abbrev c_5 : ByteArray := jdk_29_method_65_code
abbrev c_6 : ByteArray := jdk_29_method_69_code
abbrev c_7 : ByteArray := jdk_48_method_27_code
abbrev c_8 : ByteArray := jdk_65_method_121_code
abbrev c_9 : ByteArray := jdk_68_method_9_code
abbrev c_10 : ByteArray := jdk_68_method_10_code
abbrev c_11 : ByteArray := jdk_42_method_147_code
abbrev c_12 : ByteArray := jdk_68_method_71_code
abbrev c_13 : ByteArray := jdk_68_method_73_code
abbrev c_14 : ByteArray := jdk_68_method_22_code
abbrev c_15 : ByteArray := jdk_67_method_7_code
abbrev c_16 : ByteArray := jdk_68_method_2_code
abbrev c_17 : ByteArray := jdk_67_method_1_code
abbrev c_18 : ByteArray := jdk_65_method_131_code
abbrev c_19 : ByteArray := jdk_65_method_133_code
abbrev c_20 : ByteArray := jdk_65_method_132_code
abbrev c_21 : ByteArray := jdk_68_method_64_code
abbrev c_22 : ByteArray := jdk_68_method_6_code
abbrev c_23 : ByteArray := jdk_67_method_93_code
abbrev c_24 : ByteArray := jdk_42_method_150_code
abbrev c_25 : ByteArray := jdk_42_method_53_code
abbrev c_26 : ByteArray := jdk_67_method_42_code
abbrev c_27 : ByteArray := jdk_52_method_4_code
abbrev c_28 : ByteArray := jdk_41_method_13_code
abbrev c_29 : ByteArray := jdk_42_method_157_code
abbrev c_30 : ByteArray := jdk_52_method_6_code
abbrev c_31 : ByteArray := jdk_52_method_94_code
abbrev c_32 : ByteArray := jdk_52_method_86_code
abbrev c_33 : ByteArray := jdk_43_method_50_code
abbrev c_34 : ByteArray := jdk_52_method_3_code
abbrev c_35 : ByteArray := jdk_52_method_2_code
abbrev c_36 : ByteArray := jdk_68_method_11_code
abbrev c_37 : ByteArray := jdk_33_method_13_code
abbrev c_38 : ByteArray := jdk_33_method_12_code
abbrev c_39 : ByteArray := jdk_52_method_89_code
abbrev c_40 : ByteArray := jdk_41_method_12_code
abbrev c_41 : ByteArray := jdk_42_method_158_code
abbrev c_42 : ByteArray := jdk_31_method_18_code
abbrev c_43 : ByteArray := jdk_52_method_93_code
abbrev c_44 : ByteArray := jdk_52_method_77_code
abbrev c_45 : ByteArray := jdk_68_method_32_code
abbrev c_46 : ByteArray := jdk_67_method_15_code
abbrev c_47 : ByteArray := jdk_35_method_15_code
abbrev c_48 : ByteArray := jdk_35_method_14_code
abbrev c_49 : ByteArray := jdk_68_method_33_code
abbrev c_50 : ByteArray := jdk_67_method_16_code
abbrev c_51 : ByteArray := jdk_52_method_5_code
abbrev c_52 : ByteArray := jdk_52_method_21_code
abbrev c_53 : ByteArray := jdk_52_method_16_code
abbrev c_54 : ByteArray := jdk_52_method_15_code
abbrev c_55 : ByteArray := jdk_42_method_149_code
abbrev c_56 : ByteArray := jdk_42_method_3_code
abbrev c_57 : ByteArray := jdk_52_method_14_code
abbrev c_58 : ByteArray := jdk_41_method_11_code
abbrev c_59 : ByteArray := jdk_42_method_155_code
abbrev c_60 : ByteArray := jdk_43_method_2_code
abbrev c_61 : ByteArray := jdk_52_method_91_code
abbrev c_62 : ByteArray := jdk_52_method_83_code
abbrev c_63 : ByteArray := jdk_42_method_56_code
abbrev c_64 : ByteArray := jdk_89_method_14_code
abbrev c_65 : ByteArray := jdk_89_method_15_code
abbrev c_66 : ByteArray := jdk_52_method_11_code
abbrev c_67 : ByteArray := jdk_52_method_12_code
abbrev c_68 : ByteArray := jdk_42_method_59_code
abbrev c_69 : ByteArray := jdk_43_method_13_code
abbrev c_70 : ByteArray := jdk_42_method_66_code
abbrev c_71 : ByteArray := prog_16_method_1_code
abbrev c_72 : ByteArray := prog_16_method_2_code
abbrev c_73 : ByteArray := jdk_78_method_6_code
abbrev c_74 : ByteArray := method_2_code
abbrev c_75 : ByteArray := method_3_code
theorem d_1 : parseMethodDescriptor "()B" = some ⟨[], some .byte⟩ := by decide +kernel
theorem d_2 : parseMethodDescriptor "(II)I" = some ⟨[.int, .int], some .int⟩ := by decide +kernel
theorem d_3 : parseMethodDescriptor "(III)I" = some ⟨[.int, .int, .int], some .int⟩ := by decide +kernel
theorem d_4 : parseMethodDescriptor "(I)I" = some ⟨[.int], some .int⟩ := by decide +kernel
theorem d_5 : parseMethodDescriptor "([BI)[B" = some ⟨[(.array .byte), .int], some (.array .byte)⟩ := by decide +kernel
theorem d_6 : parseMethodDescriptor "(Ljava/lang/String;)V" = some ⟨[(.object s2_)], none⟩ := by decide +kernel
theorem d_7 : parseMethodDescriptor "([BIB)V" = some ⟨[(.array .byte), .int, .byte], none⟩ := by decide +kernel
theorem d_8 : parseMethodDescriptor "()I" = some ⟨[], some .int⟩ := by decide +kernel
theorem d_9 : parseMethodDescriptor "(I)V" = some ⟨[.int], none⟩ := by decide +kernel
theorem d_10 : parseMethodDescriptor "(ILjava/lang/String;)V" = some ⟨[.int, (.object s2_)], none⟩ := by decide +kernel
theorem d_11 : parseMethodDescriptor "(Ljava/lang/String;)Ljava/lang/AbstractStringBuilder;" = some ⟨[(.object s2_)], some (.object s1_)⟩ := by decide +kernel
theorem d_12 : parseMethodDescriptor "(II)V" = some ⟨[.int, .int], none⟩ := by decide +kernel
theorem d_13 : parseMethodDescriptor "([BII)[B" = some ⟨[(.array .byte), .int, .int], some (.array .byte)⟩ := by decide +kernel
theorem d_14 : parseMethodDescriptor "()[B" = some ⟨[], some (.array .byte)⟩ := by decide +kernel
theorem d_15 : parseMethodDescriptor "()Z" = some ⟨[], some .boolean⟩ := by decide +kernel
theorem d_16 : parseMethodDescriptor "(Ljava/lang/AbstractStringBuilder;Ljava/lang/Void;)V" = some ⟨[(.object s1_), (.object "java/lang/Void")], none⟩ := by decide +kernel
theorem d_17 : parseMethodDescriptor "(Ljava/lang/StringBuilder;)V" = some ⟨[(.object s4_)], none⟩ := by decide +kernel
theorem d_18 : parseMethodDescriptor "(IIILjava/util/function/BiFunction;)I" = some ⟨[.int, .int, .int, (.object "java/util/function/BiFunction")], some .int⟩ := by decide +kernel
theorem d_19 : parseMethodDescriptor "([B)I" = some ⟨[(.array .byte)], some .int⟩ := by decide +kernel
theorem d_20 : parseMethodDescriptor "(II[B)V" = some ⟨[.int, .int, (.array .byte)], none⟩ := by decide +kernel
theorem d_21 : parseMethodDescriptor "([BII)V" = some ⟨[(.array .byte), .int, .int], none⟩ := by decide +kernel
theorem d_22 : parseMethodDescriptor "([BI[BII)V" = some ⟨[(.array .byte), .int, (.array .byte), .int, .int], none⟩ := by decide +kernel
theorem d_23 : parseMethodDescriptor "(I)[B" = some ⟨[.int], some (.array .byte)⟩ := by decide +kernel
theorem d_24 : parseMethodDescriptor "()V" = some ⟨[], none⟩ := by decide +kernel
theorem d_25 : parseMethodDescriptor "(III)V" = some ⟨[.int, .int, .int], none⟩ := by decide +kernel
theorem d_26 : parseMethodDescriptor "(II[B)I" = some ⟨[.int, .int, (.array .byte)], some .int⟩ := by decide +kernel
theorem d_27 : parseMethodDescriptor "(I)Ljava/lang/AbstractStringBuilder;" = some ⟨[.int], some (.object s1_)⟩ := by decide +kernel
theorem d_28 : parseMethodDescriptor "(III[B)I" = some ⟨[.int, .int, .int, (.array .byte)], some .int⟩ := by decide +kernel
theorem d_29 : parseMethodDescriptor "(J)I" = some ⟨[.long], some .int⟩ := by decide +kernel
theorem d_30 : parseMethodDescriptor "(JI[B)I" = some ⟨[.long, .int, (.array .byte)], some .int⟩ := by decide +kernel
theorem d_31 : parseMethodDescriptor "(J)Ljava/lang/AbstractStringBuilder;" = some ⟨[.long], some (.object s1_)⟩ := by decide +kernel
theorem d_32 : parseMethodDescriptor "([CI[BII)I" = some ⟨[(.array .char), .int, (.array .byte), .int, .int], some .int⟩ := by decide +kernel
theorem d_33 : parseMethodDescriptor "([CII)[B" = some ⟨[(.array .char), .int, .int], some (.array .byte)⟩ := by decide +kernel
theorem d_34 : parseMethodDescriptor "([BI)B" = some ⟨[(.array .byte), .int], some .byte⟩ := by decide +kernel
theorem d_35 : parseMethodDescriptor "([CIILjava/lang/Void;)V" = some ⟨[(.array .char), .int, .int, (.object "java/lang/Void")], none⟩ := by decide +kernel
theorem d_36 : parseMethodDescriptor "([BI)C" = some ⟨[(.array .byte), .int], some .char⟩ := by decide +kernel
theorem d_37 : parseMethodDescriptor "(IILjava/util/function/BiFunction;)I" = some ⟨[.int, .int, (.object "java/util/function/BiFunction")], some .int⟩ := by decide +kernel
theorem d_38 : parseMethodDescriptor "(I[B)V" = some ⟨[.int, (.array .byte)], none⟩ := by decide +kernel
theorem d_39 : parseMethodDescriptor "(C)Z" = some ⟨[.char], some .boolean⟩ := by decide +kernel
theorem d_40 : parseMethodDescriptor "([BIIZ)I" = some ⟨[(.array .byte), .int, .int, .boolean], some .int⟩ := by decide +kernel
theorem d_41 : parseMethodDescriptor "([BII)I" = some ⟨[(.array .byte), .int, .int], some .int⟩ := by decide +kernel
theorem d_42 : parseMethodDescriptor "([B[B)Z" = some ⟨[(.array .byte), (.array .byte)], some .boolean⟩ := by decide +kernel
theorem d_43 : parseMethodDescriptor "(Ljava/lang/String;)Ljava/lang/StringBuilder;" = some ⟨[(.object s2_)], some (.object s4_)⟩ := by decide +kernel
theorem d_44 : parseMethodDescriptor "(I)Ljava/lang/StringBuilder;" = some ⟨[.int], some (.object s4_)⟩ := by decide +kernel
theorem d_45 : parseMethodDescriptor "()Ljava/lang/String;" = some ⟨[], some (.object s2_)⟩ := by decide +kernel
theorem d_46 : parseMethodDescriptor "(J)Ljava/lang/StringBuilder;" = some ⟨[.long], some (.object s4_)⟩ := by decide +kernel
theorem d_47 : parseMethodDescriptor "(Ljava/lang/String;Ljava/lang/String;Ljava/lang/String;)V" = some ⟨[(.object s2_), (.object s2_), (.object s2_)], none⟩ := by decide +kernel
theorem d_48 : parseMethodDescriptor "(I)C" = some ⟨[.int], some .char⟩ := by decide +kernel
theorem d_49 : parseMethodDescriptor "(III)C" = some ⟨[.int, .int, .int], some .char⟩ := by decide +kernel
theorem d_50 : parseMethodDescriptor s17_ = some ⟨[(.object s2_), (.object s2_), .int], some (.object s7_)⟩ := by decide +kernel
theorem d_51 : parseMethodDescriptor "(Ljava/lang/Object;)Z" = some ⟨[(.object "java/lang/Object")], some .boolean⟩ := by decide +kernel
theorem d_52 : parseMethodDescriptor "([C)V" = some ⟨[(.array .char)], none⟩ := by decide +kernel
theorem d_53 : parseMethodDescriptor "(Ljava/lang/String;III)Z" = some ⟨[(.object s2_), .int, .int, .int], some .boolean⟩ := by decide +kernel
theorem n_1 : plainFor y_1 = true := plainFor_of_name (by first | (simp [plainName, overriddenIn]; done) | decide +kernel)
theorem n_2 : plainFor y_2 = true := plainFor_of_name (by first | (simp [plainName, overriddenIn]; done) | decide +kernel)
theorem n_3 : plainFor y_3 = true := plainFor_of_name (by first | (simp [plainName, overriddenIn]; done) | decide +kernel)
theorem n_4 : plainFor y_4 = true := plainFor_of_name (by first | (simp [plainName, overriddenIn]; done) | decide +kernel)
theorem n_5 : plainFor y_5 = true := by decide +kernel
theorem n_6 : plainFor y_6 = true := by decide +kernel
theorem n_7 : plainFor y_7 = true := plainFor_of_name (by first | (simp [plainName, overriddenIn]; done) | decide +kernel)
theorem n_8 : plainFor y_8 = true := plainFor_of_name (by first | (simp [plainName, overriddenIn]; done) | decide +kernel)
theorem n_9 : plainFor y_9 = true := plainFor_of_name (by first | (simp [plainName, overriddenIn]; done) | decide +kernel)
theorem n_10 : plainFor y_10 = true := plainFor_of_name (by first | (simp [plainName, overriddenIn]; done) | decide +kernel)
theorem n_11 : plainFor y_11 = true := plainFor_of_name (by first | (simp [plainName, overriddenIn]; done) | decide +kernel)
theorem n_12 : plainFor y_12 = true := plainFor_of_name (by first | (simp [plainName, overriddenIn]; done) | decide +kernel)
theorem n_13 : plainFor y_13 = true := plainFor_of_name (by first | (simp [plainName, overriddenIn]; done) | decide +kernel)
theorem n_14 : plainFor y_14 = true := plainFor_of_name (by first | (simp [plainName, overriddenIn]; done) | decide +kernel)
theorem n_15 : plainFor y_15 = true := plainFor_of_name (by first | (simp [plainName, overriddenIn]; done) | decide +kernel)
theorem n_16 : plainFor y_16 = true := plainFor_of_name (by first | (simp [plainName, overriddenIn]; done) | decide +kernel)
theorem n_17 : plainFor y_17 = true := plainFor_of_name (by first | (simp [plainName, overriddenIn]; done) | decide +kernel)
theorem n_18 : plainFor y_18 = true := plainFor_of_name (by first | (simp [plainName, overriddenIn]; done) | decide +kernel)
theorem n_19 : plainFor y_19 = true := plainFor_of_name (by first | (simp [plainName, overriddenIn]; done) | decide +kernel)
theorem n_20 : plainFor y_20 = true := plainFor_of_name (by first | (simp [plainName, overriddenIn]; done) | decide +kernel)
theorem n_21 : plainFor y_21 = true := plainFor_of_name (by first | (simp [plainName, overriddenIn]; done) | decide +kernel)
theorem n_22 : plainFor y_22 = true := plainFor_of_name (by first | (simp [plainName, overriddenIn]; done) | decide +kernel)
theorem n_23 : plainFor y_23 = true := plainFor_of_name (by first | (simp [plainName, overriddenIn]; done) | decide +kernel)
theorem n_24 : plainFor y_24 = true := plainFor_of_name (by first | (simp [plainName, overriddenIn]; done) | decide +kernel)
theorem n_25 : plainFor y_25 = true := plainFor_of_name (by first | (simp [plainName, overriddenIn]; done) | decide +kernel)
theorem n_26 : plainFor y_26 = true := plainFor_of_name (by first | (simp [plainName, overriddenIn]; done) | decide +kernel)
theorem n_27 : plainFor y_27 = true := plainFor_of_name (by first | (simp [plainName, overriddenIn]; done) | decide +kernel)
theorem n_28 : plainFor y_28 = true := plainFor_of_name (by first | (simp [plainName, overriddenIn]; done) | decide +kernel)
theorem n_29 : plainFor y_29 = true := plainFor_of_name (by first | (simp [plainName, overriddenIn]; done) | decide +kernel)
theorem n_30 : plainFor y_30 = true := plainFor_of_name (by first | (simp [plainName, overriddenIn]; done) | decide +kernel)
theorem n_31 : plainFor y_31 = true := plainFor_of_name (by first | (simp [plainName, overriddenIn]; done) | decide +kernel)
theorem n_32 : plainFor y_32 = true := plainFor_of_name (by first | (simp [plainName, overriddenIn]; done) | decide +kernel)
theorem n_33 : plainFor y_33 = true := plainFor_of_name (by first | (simp [plainName, overriddenIn]; done) | decide +kernel)
theorem n_34 : plainFor y_34 = true := plainFor_of_name (by first | (simp [plainName, overriddenIn]; done) | decide +kernel)
theorem n_35 : plainFor y_35 = true := plainFor_of_name (by first | (simp [plainName, overriddenIn]; done) | decide +kernel)
theorem n_36 : plainFor y_36 = true := plainFor_of_name (by first | (simp [plainName, overriddenIn]; done) | decide +kernel)
theorem n_37 : plainFor y_37 = true := plainFor_of_name (by first | (simp [plainName, overriddenIn]; done) | decide +kernel)
theorem n_38 : plainFor y_38 = true := plainFor_of_name (by first | (simp [plainName, overriddenIn]; done) | decide +kernel)
theorem n_39 : plainFor y_39 = true := plainFor_of_name (by first | (simp [plainName, overriddenIn]; done) | decide +kernel)
theorem n_40 : plainFor y_40 = true := plainFor_of_name (by first | (simp [plainName, overriddenIn]; done) | decide +kernel)
theorem n_41 : plainFor y_41 = true := plainFor_of_name (by first | (simp [plainName, overriddenIn]; done) | decide +kernel)
theorem n_42 : plainFor y_42 = true := plainFor_of_name (by first | (simp [plainName, overriddenIn]; done) | decide +kernel)
theorem n_43 : plainFor y_43 = true := plainFor_of_name (by first | (simp [plainName, overriddenIn]; done) | decide +kernel)
theorem n_44 : plainFor y_44 = true := plainFor_of_name (by first | (simp [plainName, overriddenIn]; done) | decide +kernel)
theorem n_45 : plainFor y_45 = true := plainFor_of_name (by first | (simp [plainName, overriddenIn]; done) | decide +kernel)
theorem n_46 : plainFor y_46 = true := plainFor_of_name (by first | (simp [plainName, overriddenIn]; done) | decide +kernel)
theorem n_47 : plainFor y_47 = true := plainFor_of_name (by first | (simp [plainName, overriddenIn]; done) | decide +kernel)
theorem n_48 : plainFor y_48 = true := plainFor_of_name (by first | (simp [plainName, overriddenIn]; done) | decide +kernel)
theorem n_49 : plainFor y_49 = true := plainFor_of_name (by first | (simp [plainName, overriddenIn]; done) | decide +kernel)
theorem n_50 : plainFor y_50 = true := plainFor_of_name (by first | (simp [plainName, overriddenIn]; done) | decide +kernel)
theorem n_51 : plainFor y_51 = true := plainFor_of_name (by first | (simp [plainName, overriddenIn]; done) | decide +kernel)
theorem n_52 : plainFor y_52 = true := plainFor_of_name (by first | (simp [plainName, overriddenIn]; done) | decide +kernel)
theorem n_53 : plainFor y_53 = true := plainFor_of_name (by first | (simp [plainName, overriddenIn]; done) | decide +kernel)
theorem n_54 : plainFor y_54 = true := plainFor_of_name (by first | (simp [plainName, overriddenIn]; done) | decide +kernel)
theorem n_55 : plainFor y_55 = true := plainFor_of_name (by first | (simp [plainName, overriddenIn]; done) | decide +kernel)
theorem n_56 : plainFor y_56 = true := plainFor_of_name (by first | (simp [plainName, overriddenIn]; done) | decide +kernel)
theorem n_57 : plainFor y_57 = true := plainFor_of_name (by first | (simp [plainName, overriddenIn]; done) | decide +kernel)
theorem n_58 : plainFor y_58 = true := plainFor_of_name (by first | (simp [plainName, overriddenIn]; done) | decide +kernel)
theorem n_59 : plainFor y_59 = true := plainFor_of_name (by first | (simp [plainName, overriddenIn]; done) | decide +kernel)
theorem n_60 : plainFor y_60 = true := plainFor_of_name (by first | (simp [plainName, overriddenIn]; done) | decide +kernel)
theorem n_61 : plainFor y_61 = true := plainFor_of_name (by first | (simp [plainName, overriddenIn]; done) | decide +kernel)
theorem n_62 : plainFor y_62 = true := plainFor_of_name (by first | (simp [plainName, overriddenIn]; done) | decide +kernel)
theorem n_63 : plainFor y_63 = true := plainFor_of_name (by first | (simp [plainName, overriddenIn]; done) | decide +kernel)
theorem n_64 : plainFor y_64 = true := plainFor_of_name (by first | (simp [plainName, overriddenIn]; done) | decide +kernel)
theorem n_65 : plainFor y_65 = true := plainFor_of_name (by first | (simp [plainName, overriddenIn]; done) | decide +kernel)
theorem n_66 : plainFor y_66 = true := plainFor_of_name (by first | (simp [plainName, overriddenIn]; done) | decide +kernel)
theorem n_67 : plainFor y_67 = true := plainFor_of_name (by first | (simp [plainName, overriddenIn]; done) | decide +kernel)
theorem n_68 : plainFor y_68 = true := plainFor_of_name (by first | (simp [plainName, overriddenIn]; done) | decide +kernel)
theorem n_69 : plainFor y_69 = true := plainFor_of_name (by first | (simp [plainName, overriddenIn]; done) | decide +kernel)
theorem n_70 : plainFor y_70 = true := plainFor_of_name (by first | (simp [plainName, overriddenIn]; done) | decide +kernel)
theorem n_71 : plainFor y_71 = true := plainFor_of_name (by first | (simp [plainName, overriddenIn]; done) | decide +kernel)
theorem n_72 : plainFor y_72 = true := plainFor_of_name (by first | (simp [plainName, overriddenIn]; done) | decide +kernel)
theorem n_73 : plainFor y_73 = true := plainFor_of_name (by first | (simp [plainName, overriddenIn]; done) | decide +kernel)
theorem n_74 : plainFor y_74 = true := plainFor_of_name (by first | (simp [plainName, overriddenIn]; done) | decide +kernel)
theorem n_75 : plainFor y_75 = true := plainFor_of_name (by first | (simp [plainName, overriddenIn]; done) | decide +kernel)
theorem k_1 : Dk c_1 0 (.getstatic 38) 3 := by decide +kernel
theorem k_2 : Dk c_1 3 (.ifCond .eq 10) 3 := by decide +kernel
theorem k_3 : Dk c_1 6 (.aload_n 0) 1 := by decide +kernel
theorem k_4 : Dk c_1 7 (.getfield 15) 3 := by decide +kernel
theorem k_5 : Dk c_1 10 (.goto 4) 3 := by decide +kernel
theorem k_6 : Dk c_1 14 (.ireturn) 1 := by decide +kernel
theorem k_7 : Dk c_2 0 (.getstatic 38) 3 := by decide +kernel
theorem k_8 : Dk c_2 3 (.ifCond .eq 14) 3 := by decide +kernel
theorem k_9 : Dk c_2 6 (.aload_n 0) 1 := by decide +kernel
theorem k_10 : Dk c_2 7 (.getfield 15) 3 := by decide +kernel
theorem k_11 : Dk c_2 10 (.ifCond .ne 7) 3 := by decide +kernel
theorem k_12 : Dk c_2 13 (.iconst 1) 1 := by decide +kernel
theorem k_13 : Dk c_2 14 (.goto 4) 3 := by decide +kernel
theorem k_14 : Dk c_2 18 (.ireturn) 1 := by decide +kernel
theorem k_15 : Dk c_3 0 (.getstatic 18) 3 := by decide +kernel
theorem k_16 : Dk c_3 3 (.ifCond .eq 14) 3 := by decide +kernel
theorem k_17 : Dk c_3 6 (.aload_n 0) 1 := by decide +kernel
theorem k_18 : Dk c_3 7 (.getfield 22) 3 := by decide +kernel
theorem k_19 : Dk c_3 10 (.ifCond .ne 7) 3 := by decide +kernel
theorem k_20 : Dk c_3 13 (.iconst 1) 1 := by decide +kernel
theorem k_21 : Dk c_3 14 (.goto 4) 3 := by decide +kernel
theorem k_22 : Dk c_3 18 (.ireturn) 1 := by decide +kernel
theorem k_23 : Dk c_4 0 (.aload_n 0) 1 := by decide +kernel
theorem k_24 : Dk c_4 1 (.getfield 9) 3 := by decide +kernel
theorem k_25 : Dk c_4 4 (.arraylength) 1 := by decide +kernel
theorem k_26 : Dk c_4 5 (.aload_n 0) 1 := by decide +kernel
theorem k_27 : Dk c_4 6 (.invokevirtual 335) 3 := by decide +kernel
theorem k_28 : Dk c_4 9 (.ishr) 1 := by decide +kernel
theorem k_29 : Dk c_4 10 (.ireturn) 1 := by decide +kernel
theorem k_30 : Dk c_2 17 (.iconst 0) 1 := by decide +kernel
theorem k_31 : Dk c_3 17 (.iconst 0) 1 := by decide +kernel
theorem k_32 : Dk c_5 0 (.iload_n 0) 1 := by decide +kernel
theorem k_33 : Dk c_5 1 (.iload_n 1) 1 := by decide +kernel
theorem k_34 : Dk c_5 2 (.if_icmp .lt 7) 3 := by decide +kernel
theorem k_35 : Dk c_5 9 (.iload_n 1) 1 := by decide +kernel
theorem k_36 : Dk c_5 10 (.ireturn) 1 := by decide +kernel
theorem k_37 : Dk c_6 0 (.iload_n 0) 1 := by decide +kernel
theorem k_38 : Dk c_6 1 (.iload_n 1) 1 := by decide +kernel
theorem k_39 : Dk c_6 2 (.if_icmp .gt 7) 3 := by decide +kernel
theorem k_40 : Dk c_6 5 (.iload_n 0) 1 := by decide +kernel
theorem k_41 : Dk c_6 6 (.goto 4) 3 := by decide +kernel
theorem k_42 : Dk c_6 10 (.ireturn) 1 := by decide +kernel
theorem k_43 : Dk c_7 0 (.iload_n 0) 1 := by decide +kernel
theorem k_44 : Dk c_7 1 (.iload_n 1) 1 := by decide +kernel
theorem k_45 : Dk c_7 2 (.iload_n 2) 1 := by decide +kernel
theorem k_46 : Dk c_7 3 (.invokestatic 194) 3 := by decide +kernel
theorem k_47 : Dk c_7 6 (.iadd) 1 := by decide +kernel
theorem k_48 : Dk c_7 7 (.istore_n 3) 1 := by decide +kernel
theorem k_49 : Dk c_7 8 (.iconst 0) 1 := by decide +kernel
theorem k_50 : Dk c_7 9 (.iload_n 3) 1 := by decide +kernel
theorem k_51 : Dk c_7 10 (.if_icmp .ge 11) 3 := by decide +kernel
theorem k_52 : Dk c_7 13 (.iload_n 3) 1 := by decide +kernel
theorem k_53 : Dk c_7 14 (.ldc 200) 2 := by decide +kernel
theorem k_54 : Dk c_7 16 (.if_icmp .gt 5) 3 := by decide +kernel
theorem k_55 : Dk c_7 19 (.iload_n 3) 1 := by decide +kernel
theorem k_56 : Dk c_7 20 (.ireturn) 1 := by decide +kernel
theorem k_57 : Dk c_8 0 (.iload_n 1) 1 := by decide +kernel
theorem k_58 : Dk c_8 1 (.aload_n 0) 1 := by decide +kernel
theorem k_59 : Dk c_8 2 (.arraylength) 1 := by decide +kernel
theorem k_60 : Dk c_8 3 (.if_icmp .ne 11) 3 := by decide +kernel
theorem k_61 : Dk c_8 14 (.iload_n 1) 1 := by decide +kernel
theorem k_62 : Dk c_8 15 (.newarray .byte) 2 := by decide +kernel
theorem k_63 : Dk c_8 17 (.astore_n 2) 1 := by decide +kernel
theorem k_64 : Dk c_8 18 (.aload_n 0) 1 := by decide +kernel
theorem k_65 : Dk c_8 19 (.iconst 0) 1 := by decide +kernel
theorem k_66 : Dk c_8 20 (.aload_n 2) 1 := by decide +kernel
theorem k_67 : Dk c_8 21 (.iconst 0) 1 := by decide +kernel
theorem k_68 : Dk c_8 22 (.aload_n 0) 1 := by decide +kernel
theorem k_69 : Dk c_8 23 (.arraylength) 1 := by decide +kernel
theorem k_70 : Dk c_8 24 (.iload_n 1) 1 := by decide +kernel
theorem k_71 : Dk c_8 25 (.invokestatic 304) 3 := by decide +kernel
theorem k_72 : Dk c_8 28 (.invokestatic 150) 3 := by decide +kernel
theorem k_73 : Dk c_8 31 (.aload_n 2) 1 := by decide +kernel
theorem k_74 : Dk c_8 32 (.areturn) 1 := by decide +kernel
theorem k_75 : Dk c_9 0 (.aload_n 0) 1 := by decide +kernel
theorem k_76 : Dk c_9 1 (.getfield 15) 3 := by decide +kernel
theorem k_77 : Dk c_9 4 (.arraylength) 1 := by decide +kernel
theorem k_78 : Dk c_9 5 (.aload_n 0) 1 := by decide +kernel
theorem k_79 : Dk c_9 6 (.getfield 22) 3 := by decide +kernel
theorem k_80 : Dk c_9 9 (.ishr) 1 := by decide +kernel
theorem k_81 : Dk c_9 10 (.istore_n 2) 1 := by decide +kernel
theorem k_82 : Dk c_9 11 (.iload_n 1) 1 := by decide +kernel
theorem k_83 : Dk c_9 12 (.iload_n 2) 1 := by decide +kernel
theorem k_84 : Dk c_9 13 (.isub) 1 := by decide +kernel
theorem k_85 : Dk c_9 14 (.ifCond .le 24) 3 := by decide +kernel
theorem k_86 : Dk c_9 38 (.return_) 1 := by decide +kernel
theorem k_87 : Dk c_10 0 (.aload_n 0) 1 := by decide +kernel
theorem k_88 : Dk c_10 1 (.getfield 15) 3 := by decide +kernel
theorem k_89 : Dk c_10 4 (.arraylength) 1 := by decide +kernel
theorem k_90 : Dk c_10 5 (.istore_n 2) 1 := by decide +kernel
theorem k_91 : Dk c_10 6 (.iload_n 1) 1 := by decide +kernel
theorem k_92 : Dk c_10 7 (.aload_n 0) 1 := by decide +kernel
theorem k_93 : Dk c_10 8 (.getfield 22) 3 := by decide +kernel
theorem k_94 : Dk c_10 11 (.ishl) 1 := by decide +kernel
theorem k_95 : Dk c_10 12 (.istore_n 3) 1 := by decide +kernel
theorem k_96 : Dk c_10 13 (.iload_n 3) 1 := by decide +kernel
theorem k_97 : Dk c_10 14 (.iload_n 2) 1 := by decide +kernel
theorem k_98 : Dk c_10 15 (.isub) 1 := by decide +kernel
theorem k_99 : Dk c_10 16 (.istore 4) 2 := by decide +kernel
theorem k_100 : Dk c_10 18 (.iload_n 2) 1 := by decide +kernel
theorem k_101 : Dk c_10 19 (.iload 4) 2 := by decide +kernel
theorem k_102 : Dk c_10 21 (.iload_n 2) 1 := by decide +kernel
theorem k_103 : Dk c_10 22 (.iconst 2) 1 := by decide +kernel
theorem k_104 : Dk c_10 23 (.aload_n 0) 1 := by decide +kernel
theorem k_105 : Dk c_10 24 (.getfield 22) 3 := by decide +kernel
theorem k_106 : Dk c_10 27 (.ishl) 1 := by decide +kernel
theorem k_107 : Dk c_10 28 (.iadd) 1 := by decide +kernel
theorem k_108 : Dk c_10 29 (.invokestatic 114) 3 := by decide +kernel
theorem k_109 : Dk c_10 32 (.istore 5) 2 := by decide +kernel
theorem k_110 : Dk c_10 34 (.iload 5) 2 := by decide +kernel
theorem k_111 : Dk c_10 36 (.ldc 39) 2 := by decide +kernel
theorem k_112 : Dk c_10 38 (.if_icmp .ne 13) 3 := by decide +kernel
theorem k_113 : Dk c_10 51 (.iload 5) 2 := by decide +kernel
theorem k_114 : Dk c_10 53 (.aload_n 0) 1 := by decide +kernel
theorem k_115 : Dk c_10 54 (.getfield 22) 3 := by decide +kernel
theorem k_116 : Dk c_10 57 (.ishr) 1 := by decide +kernel
theorem k_117 : Dk c_10 58 (.ireturn) 1 := by decide +kernel
theorem k_118 : Dk c_9 17 (.aload_n 0) 1 := by decide +kernel
theorem k_119 : Dk c_9 18 (.aload_n 0) 1 := by decide +kernel
theorem k_120 : Dk c_9 19 (.getfield 15) 3 := by decide +kernel
theorem k_121 : Dk c_9 22 (.aload_n 0) 1 := by decide +kernel
theorem k_122 : Dk c_9 23 (.iload_n 1) 1 := by decide +kernel
theorem k_123 : Dk c_9 24 (.invokevirtual 104) 3 := by decide +kernel
theorem k_124 : Dk c_9 27 (.aload_n 0) 1 := by decide +kernel
theorem k_125 : Dk c_9 28 (.getfield 22) 3 := by decide +kernel
theorem k_126 : Dk c_9 31 (.ishl) 1 := by decide +kernel
theorem k_127 : Dk c_9 32 (.invokestatic 108) 3 := by decide +kernel
theorem k_128 : Dk c_9 35 (.putfield 15) 3 := by decide +kernel
theorem k_129 : Dk c_11 0 (.aload_n 0) 1 := by decide +kernel
theorem k_130 : Dk c_11 1 (.invokevirtual 335) 3 := by decide +kernel
theorem k_131 : Dk c_11 4 (.iload_n 3) 1 := by decide +kernel
theorem k_132 : Dk c_11 5 (.if_icmp .ne 23) 3 := by decide +kernel
theorem k_133 : Dk c_11 8 (.aload_n 0) 1 := by decide +kernel
theorem k_134 : Dk c_11 9 (.getfield 9) 3 := by decide +kernel
theorem k_135 : Dk c_11 12 (.iconst 0) 1 := by decide +kernel
theorem k_136 : Dk c_11 13 (.aload_n 1) 1 := by decide +kernel
theorem k_137 : Dk c_11 14 (.iload_n 2) 1 := by decide +kernel
theorem k_138 : Dk c_11 15 (.iload_n 3) 1 := by decide +kernel
theorem k_139 : Dk c_11 16 (.ishl) 1 := by decide +kernel
theorem k_140 : Dk c_11 17 (.aload_n 0) 1 := by decide +kernel
theorem k_141 : Dk c_11 18 (.getfield 9) 3 := by decide +kernel
theorem k_142 : Dk c_11 21 (.arraylength) 1 := by decide +kernel
theorem k_143 : Dk c_11 22 (.invokestatic 212) 3 := by decide +kernel
theorem k_144 : Dk c_11 25 (.goto 18) 3 := by decide +kernel
theorem k_145 : Dk c_11 43 (.return_) 1 := by decide +kernel
theorem k_146 : Dk c_12 0 (.getstatic 18) 3 := by decide +kernel
theorem k_147 : Dk c_12 3 (.ifCond .eq 18) 3 := by decide +kernel
theorem k_148 : Dk c_12 6 (.aload_n 0) 1 := by decide +kernel
theorem k_149 : Dk c_12 7 (.getfield 22) 3 := by decide +kernel
theorem k_150 : Dk c_12 10 (.aload_n 1) 1 := by decide +kernel
theorem k_151 : Dk c_12 11 (.invokevirtual 40) 3 := by decide +kernel
theorem k_152 : Dk c_12 14 (.if_icmp .eq 7) 3 := by decide +kernel
theorem k_153 : Dk c_12 21 (.return_) 1 := by decide +kernel
theorem k_154 : Dk c_13 0 (.aload_n 0) 1 := by decide +kernel
theorem k_155 : Dk c_13 1 (.aload_n 2) 1 := by decide +kernel
theorem k_156 : Dk c_13 2 (.invokevirtual 397) 3 := by decide +kernel
theorem k_157 : Dk c_13 5 (.aload_n 2) 1 := by decide +kernel
theorem k_158 : Dk c_13 6 (.aload_n 0) 1 := by decide +kernel
theorem k_159 : Dk c_13 7 (.getfield 15) 3 := by decide +kernel
theorem k_160 : Dk c_13 10 (.iload_n 1) 1 := by decide +kernel
theorem k_161 : Dk c_13 11 (.aload_n 0) 1 := by decide +kernel
theorem k_162 : Dk c_13 12 (.getfield 22) 3 := by decide +kernel
theorem k_163 : Dk c_13 15 (.invokevirtual 399) 3 := by decide +kernel
theorem k_164 : Dk c_13 18 (.return_) 1 := by decide +kernel
theorem k_165 : Dk c_14 0 (.aload_n 1) 1 := by decide +kernel
theorem k_166 : Dk c_14 1 (.ifnonnull 8) 3 := by decide +kernel
theorem k_167 : Dk c_14 9 (.aload_n 1) 1 := by decide +kernel
theorem k_168 : Dk c_14 10 (.invokevirtual 32) 3 := by decide +kernel
theorem k_169 : Dk c_14 13 (.istore_n 2) 1 := by decide +kernel
theorem k_170 : Dk c_14 14 (.aload_n 0) 1 := by decide +kernel
theorem k_171 : Dk c_14 15 (.aload_n 0) 1 := by decide +kernel
theorem k_172 : Dk c_14 16 (.getfield 79) 3 := by decide +kernel
theorem k_173 : Dk c_14 19 (.iload_n 2) 1 := by decide +kernel
theorem k_174 : Dk c_14 20 (.iadd) 1 := by decide +kernel
theorem k_175 : Dk c_14 21 (.invokevirtual 100) 3 := by decide +kernel
theorem k_176 : Dk c_14 24 (.aload_n 0) 1 := by decide +kernel
theorem k_177 : Dk c_14 25 (.aload_n 0) 1 := by decide +kernel
theorem k_178 : Dk c_14 26 (.getfield 79) 3 := by decide +kernel
theorem k_179 : Dk c_14 29 (.aload_n 1) 1 := by decide +kernel
theorem k_180 : Dk c_14 30 (.invokevirtual 208) 3 := by decide +kernel
theorem k_181 : Dk c_14 33 (.aload_n 0) 1 := by decide +kernel
theorem k_182 : Dk c_14 34 (.dup) 1 := by decide +kernel
theorem k_183 : Dk c_14 35 (.getfield 79) 3 := by decide +kernel
theorem k_184 : Dk c_14 38 (.iload_n 2) 1 := by decide +kernel
theorem k_185 : Dk c_14 39 (.iadd) 1 := by decide +kernel
theorem k_186 : Dk c_14 40 (.putfield 79) 3 := by decide +kernel
theorem k_187 : Dk c_14 43 (.aload_n 0) 1 := by decide +kernel
theorem k_188 : Dk c_14 44 (.areturn) 1 := by decide +kernel
theorem k_189 : Dk c_15 0 (.aload_n 0) 1 := by decide +kernel
theorem k_190 : Dk c_15 1 (.aload_n 1) 1 := by decide +kernel
theorem k_191 : Dk c_15 2 (.invokespecial 29) 3 := by decide +kernel
theorem k_192 : Dk c_15 5 (.pop) 1 := by decide +kernel
theorem k_193 : Dk c_15 6 (.aload_n 0) 1 := by decide +kernel
theorem k_194 : Dk c_15 7 (.areturn) 1 := by decide +kernel
theorem k_195 : Dk c_16 0 (.aload_n 0) 1 := by decide +kernel
theorem k_196 : Dk c_16 1 (.invokespecial 3) 3 := by decide +kernel
theorem k_197 : Dk c_16 4 (.getstatic 18) 3 := by decide +kernel
theorem k_198 : Dk c_16 7 (.ifCond .eq 18) 3 := by decide +kernel
theorem k_199 : Dk c_16 10 (.aload_n 0) 1 := by decide +kernel
theorem k_200 : Dk c_16 11 (.iload_n 1) 1 := by decide +kernel
theorem k_201 : Dk c_16 12 (.newarray .byte) 2 := by decide +kernel
theorem k_202 : Dk c_16 14 (.putfield 15) 3 := by decide +kernel
theorem k_203 : Dk c_16 17 (.aload_n 0) 1 := by decide +kernel
theorem k_204 : Dk c_16 18 (.iconst 0) 1 := by decide +kernel
theorem k_205 : Dk c_16 19 (.putfield 22) 3 := by decide +kernel
theorem k_206 : Dk c_16 22 (.goto 16) 3 := by decide +kernel
theorem k_207 : Dk c_16 38 (.return_) 1 := by decide +kernel
theorem k_208 : Dk c_17 0 (.aload_n 0) 1 := by decide +kernel
theorem k_209 : Dk c_17 1 (.bipush 16) 2 := by decide +kernel
theorem k_210 : Dk c_17 3 (.invokespecial 1) 3 := by decide +kernel
theorem k_211 : Dk c_17 6 (.return_) 1 := by decide +kernel
theorem k_212 : Dk c_6 9 (.iload_n 1) 1 := by decide +kernel
theorem k_213 : Dk c_18 0 (.iload_n 1) 1 := by decide +kernel
theorem k_214 : Dk c_18 1 (.iload_n 0) 1 := by decide +kernel
theorem k_215 : Dk c_18 2 (.if_icmp .ge 35) 3 := by decide +kernel
theorem k_216 : Dk c_18 37 (.return_) 1 := by decide +kernel
theorem k_217 : Dk c_19 0 (.iload_n 1) 1 := by decide +kernel
theorem k_218 : Dk c_19 1 (.iload_n 2) 1 := by decide +kernel
theorem k_219 : Dk c_19 2 (.invokestatic 343) 3 := by decide +kernel
theorem k_220 : Dk c_19 5 (.iload_n 2) 1 := by decide +kernel
theorem k_221 : Dk c_19 6 (.iload_n 1) 1 := by decide +kernel
theorem k_222 : Dk c_19 7 (.isub) 1 := by decide +kernel
theorem k_223 : Dk c_19 8 (.istore_n 3) 1 := by decide +kernel
theorem k_224 : Dk c_19 9 (.iload_n 3) 1 := by decide +kernel
theorem k_225 : Dk c_19 10 (.newarray .byte) 2 := by decide +kernel
theorem k_226 : Dk c_19 12 (.astore 4) 2 := by decide +kernel
theorem k_227 : Dk c_19 14 (.aload_n 0) 1 := by decide +kernel
theorem k_228 : Dk c_19 15 (.iload_n 1) 1 := by decide +kernel
theorem k_229 : Dk c_19 16 (.aload 4) 2 := by decide +kernel
theorem k_230 : Dk c_19 18 (.iconst 0) 1 := by decide +kernel
theorem k_231 : Dk c_19 19 (.aload_n 0) 1 := by decide +kernel
theorem k_232 : Dk c_19 20 (.arraylength) 1 := by decide +kernel
theorem k_233 : Dk c_19 21 (.iload_n 1) 1 := by decide +kernel
theorem k_234 : Dk c_19 22 (.isub) 1 := by decide +kernel
theorem k_235 : Dk c_19 23 (.iload_n 3) 1 := by decide +kernel
theorem k_236 : Dk c_19 24 (.invokestatic 304) 3 := by decide +kernel
theorem k_237 : Dk c_19 27 (.invokestatic 150) 3 := by decide +kernel
theorem k_238 : Dk c_19 30 (.aload 4) 2 := by decide +kernel
theorem k_239 : Dk c_19 32 (.areturn) 1 := by decide +kernel
theorem k_240 : Dk c_20 0 (.iload_n 1) 1 := by decide +kernel
theorem k_241 : Dk c_20 1 (.ifCond .ne 9) 3 := by decide +kernel
theorem k_242 : Dk c_20 4 (.iload_n 2) 1 := by decide +kernel
theorem k_243 : Dk c_20 5 (.aload_n 0) 1 := by decide +kernel
theorem k_244 : Dk c_20 6 (.arraylength) 1 := by decide +kernel
theorem k_245 : Dk c_20 7 (.if_icmp .eq 10) 3 := by decide +kernel
theorem k_246 : Dk c_20 10 (.aload_n 0) 1 := by decide +kernel
theorem k_247 : Dk c_20 11 (.iload_n 1) 1 := by decide +kernel
theorem k_248 : Dk c_20 12 (.iload_n 2) 1 := by decide +kernel
theorem k_249 : Dk c_20 13 (.invokestatic 339) 3 := by decide +kernel
theorem k_250 : Dk c_20 16 (.areturn) 1 := by decide +kernel
theorem k_251 : Dk c_21 0 (.aload_n 0) 1 := by decide +kernel
theorem k_252 : Dk c_21 1 (.getfield 15) 3 := by decide +kernel
theorem k_253 : Dk c_21 4 (.areturn) 1 := by decide +kernel
theorem k_254 : Dk c_22 0 (.aload_n 0) 1 := by decide +kernel
theorem k_255 : Dk c_22 1 (.getfield 79) 3 := by decide +kernel
theorem k_256 : Dk c_22 4 (.ireturn) 1 := by decide +kernel
theorem k_257 : Dk c_23 0 (.aload_n 0) 1 := by decide +kernel
theorem k_258 : Dk c_23 1 (.invokespecial 343) 3 := by decide +kernel
theorem k_259 : Dk c_23 4 (.ireturn) 1 := by decide +kernel
theorem k_260 : Dk c_24 0 (.aload_n 0) 1 := by decide +kernel
theorem k_261 : Dk c_24 1 (.invokespecial 1) 3 := by decide +kernel
theorem k_262 : Dk c_24 4 (.aload_n 1) 1 := by decide +kernel
theorem k_263 : Dk c_24 5 (.invokevirtual 552) 3 := by decide +kernel
theorem k_264 : Dk c_24 8 (.astore_n 3) 1 := by decide +kernel
theorem k_265 : Dk c_24 9 (.aload_n 1) 1 := by decide +kernel
theorem k_266 : Dk c_24 10 (.invokevirtual 549) 3 := by decide +kernel
theorem k_267 : Dk c_24 13 (.istore 4) 2 := by decide +kernel
theorem k_268 : Dk c_24 15 (.aload_n 1) 1 := by decide +kernel
theorem k_269 : Dk c_24 16 (.invokevirtual 1047) 3 := by decide +kernel
theorem k_270 : Dk c_24 19 (.ifCond .eq 22) 3 := by decide +kernel
theorem k_271 : Dk c_24 22 (.aload_n 0) 1 := by decide +kernel
theorem k_272 : Dk c_24 23 (.iconst 0) 1 := by decide +kernel
theorem k_273 : Dk c_24 24 (.putfield 15) 3 := by decide +kernel
theorem k_274 : Dk c_24 27 (.aload_n 0) 1 := by decide +kernel
theorem k_275 : Dk c_24 28 (.aload_n 3) 1 := by decide +kernel
theorem k_276 : Dk c_24 29 (.iconst 0) 1 := by decide +kernel
theorem k_277 : Dk c_24 30 (.iload 4) 2 := by decide +kernel
theorem k_278 : Dk c_24 32 (.invokestatic 54) 3 := by decide +kernel
theorem k_279 : Dk c_24 35 (.putfield 9) 3 := by decide +kernel
theorem k_280 : Dk c_24 38 (.goto 59) 3 := by decide +kernel
theorem k_281 : Dk c_24 97 (.return_) 1 := by decide +kernel
theorem k_282 : Dk c_25 0 (.aload_n 0) 1 := by decide +kernel
theorem k_283 : Dk c_25 1 (.aload_n 1) 1 := by decide +kernel
theorem k_284 : Dk c_25 2 (.aconst_null) 1 := by decide +kernel
theorem k_285 : Dk c_25 3 (.invokespecial 489) 3 := by decide +kernel
theorem k_286 : Dk c_25 6 (.return_) 1 := by decide +kernel
theorem k_287 : Dk c_26 0 (.new 18) 3 := by decide +kernel
theorem k_288 : Dk c_26 3 (.dup) 1 := by decide +kernel
theorem k_289 : Dk c_26 4 (.aload_n 0) 1 := by decide +kernel
theorem k_290 : Dk c_26 5 (.invokespecial 137) 3 := by decide +kernel
theorem k_291 : Dk c_26 8 (.areturn) 1 := by decide +kernel
theorem k_292 : Dk c_24 41 (.getstatic 38) 3 := by decide +kernel
theorem k_293 : Dk c_24 44 (.ifCond .eq 35) 3 := by decide +kernel
theorem k_294 : Dk c_24 47 (.aload_n 1) 1 := by decide +kernel
theorem k_295 : Dk c_24 48 (.getfield 1048) 3 := by decide +kernel
theorem k_296 : Dk c_24 51 (.ifCond .eq 28) 3 := by decide +kernel
theorem k_297 : Dk c_24 79 (.aload_n 0) 1 := by decide +kernel
theorem k_298 : Dk c_24 80 (.iconst 1) 1 := by decide +kernel
theorem k_299 : Dk c_24 81 (.putfield 15) 3 := by decide +kernel
theorem k_300 : Dk c_24 84 (.aload_n 0) 1 := by decide +kernel
theorem k_301 : Dk c_24 85 (.aload_n 3) 1 := by decide +kernel
theorem k_302 : Dk c_24 86 (.iconst 0) 1 := by decide +kernel
theorem k_303 : Dk c_24 87 (.iload 4) 2 := by decide +kernel
theorem k_304 : Dk c_24 89 (.iconst 1) 1 := by decide +kernel
theorem k_305 : Dk c_24 90 (.ishl) 1 := by decide +kernel
theorem k_306 : Dk c_24 91 (.invokestatic 54) 3 := by decide +kernel
theorem k_307 : Dk c_24 94 (.putfield 9) 3 := by decide +kernel
theorem k_308 : Dk c_27 0 (.getstatic 44) 3 := by decide +kernel
theorem k_309 : Dk c_27 3 (.ifCond .ne 25) 3 := by decide +kernel
theorem k_310 : Dk c_27 28 (.iload_n 1) 1 := by decide +kernel
theorem k_311 : Dk c_27 29 (.iconst 1) 1 := by decide +kernel
theorem k_312 : Dk c_27 30 (.ishl) 1 := by decide +kernel
theorem k_313 : Dk c_27 31 (.istore_n 1) 1 := by decide +kernel
theorem k_314 : Dk c_27 32 (.aload_n 0) 1 := by decide +kernel
theorem k_315 : Dk c_27 33 (.iload_n 1) 1 := by decide +kernel
theorem k_316 : Dk c_27 34 (.iinc 1 1) 3 := by decide +kernel
theorem k_317 : Dk c_27 37 (.iload_n 2) 1 := by decide +kernel
theorem k_318 : Dk c_27 38 (.getstatic 59) 3 := by decide +kernel
theorem k_319 : Dk c_27 41 (.ishr) 1 := by decide +kernel
theorem k_320 : Dk c_27 42 (.i2b) 1 := by decide +kernel
theorem k_321 : Dk c_27 43 (.bastore) 1 := by decide +kernel
theorem k_322 : Dk c_27 44 (.aload_n 0) 1 := by decide +kernel
theorem k_323 : Dk c_27 45 (.iload_n 1) 1 := by decide +kernel
theorem k_324 : Dk c_27 46 (.iload_n 2) 1 := by decide +kernel
theorem k_325 : Dk c_27 47 (.getstatic 63) 3 := by decide +kernel
theorem k_326 : Dk c_27 50 (.ishr) 1 := by decide +kernel
theorem k_327 : Dk c_27 51 (.i2b) 1 := by decide +kernel
theorem k_328 : Dk c_27 52 (.bastore) 1 := by decide +kernel
theorem k_329 : Dk c_27 53 (.return_) 1 := by decide +kernel
theorem k_330 : Dk c_28 0 (.iload_n 2) 1 := by decide +kernel
theorem k_331 : Dk c_28 1 (.iload_n 0) 1 := by decide +kernel
theorem k_332 : Dk c_28 2 (.ior) 1 := by decide +kernel
theorem k_333 : Dk c_28 3 (.iload_n 1) 1 := by decide +kernel
theorem k_334 : Dk c_28 4 (.ior) 1 := by decide +kernel
theorem k_335 : Dk c_28 5 (.ifCond .lt 10) 3 := by decide +kernel
theorem k_336 : Dk c_28 8 (.iload_n 1) 1 := by decide +kernel
theorem k_337 : Dk c_28 9 (.iload_n 2) 1 := by decide +kernel
theorem k_338 : Dk c_28 10 (.iload_n 0) 1 := by decide +kernel
theorem k_339 : Dk c_28 11 (.isub) 1 := by decide +kernel
theorem k_340 : Dk c_28 12 (.if_icmp .le 11) 3 := by decide +kernel
theorem k_341 : Dk c_28 23 (.iload_n 0) 1 := by decide +kernel
theorem k_342 : Dk c_28 24 (.ireturn) 1 := by decide +kernel
theorem k_343 : Dk c_29 0 (.iload_n 0) 1 := by decide +kernel
theorem k_344 : Dk c_29 1 (.iload_n 1) 1 := by decide +kernel
theorem k_345 : Dk c_29 2 (.iload_n 2) 1 := by decide +kernel
theorem k_346 : Dk c_29 3 (.getstatic 1053) 3 := by decide +kernel
theorem k_347 : Dk c_29 6 (.invokestatic 1065) 3 := by decide +kernel
theorem k_348 : Dk c_29 9 (.ireturn) 1 := by decide +kernel
theorem k_349 : Dk c_30 0 (.aload_n 0) 1 := by decide +kernel
theorem k_350 : Dk c_30 1 (.arraylength) 1 := by decide +kernel
theorem k_351 : Dk c_30 2 (.iconst 1) 1 := by decide +kernel
theorem k_352 : Dk c_30 3 (.ishr) 1 := by decide +kernel
theorem k_353 : Dk c_30 4 (.ireturn) 1 := by decide +kernel
theorem k_354 : Dk c_31 0 (.iload_n 0) 1 := by decide +kernel
theorem k_355 : Dk c_31 1 (.iload_n 1) 1 := by decide +kernel
theorem k_356 : Dk c_31 2 (.aload_n 2) 1 := by decide +kernel
theorem k_357 : Dk c_31 3 (.invokestatic 48) 3 := by decide +kernel
theorem k_358 : Dk c_31 6 (.invokestatic 419) 3 := by decide +kernel
theorem k_359 : Dk c_31 9 (.pop) 1 := by decide +kernel
theorem k_360 : Dk c_31 10 (.return_) 1 := by decide +kernel
theorem k_361 : Dk c_32 0 (.iload_n 3) 1 := by decide +kernel
theorem k_362 : Dk c_32 1 (.iload 4) 2 := by decide +kernel
theorem k_363 : Dk c_32 3 (.aload_n 2) 1 := by decide +kernel
theorem k_364 : Dk c_32 4 (.invokestatic 173) 3 := by decide +kernel
theorem k_365 : Dk c_32 7 (.iconst 0) 1 := by decide +kernel
theorem k_366 : Dk c_32 8 (.istore 5) 2 := by decide +kernel
theorem k_367 : Dk c_32 10 (.iload 5) 2 := by decide +kernel
theorem k_368 : Dk c_32 12 (.iload 4) 2 := by decide +kernel
theorem k_369 : Dk c_32 14 (.if_icmp .ge 27) 3 := by decide +kernel
theorem k_370 : Dk c_32 41 (.return_) 1 := by decide +kernel
theorem k_371 : Dk c_32 17 (.aload_n 2) 1 := by decide +kernel
theorem k_372 : Dk c_32 18 (.iload_n 3) 1 := by decide +kernel
theorem k_373 : Dk c_32 19 (.iinc 3 1) 3 := by decide +kernel
theorem k_374 : Dk c_32 22 (.aload_n 0) 1 := by decide +kernel
theorem k_375 : Dk c_32 23 (.iload_n 1) 1 := by decide +kernel
theorem k_376 : Dk c_32 24 (.iinc 1 1) 3 := by decide +kernel
theorem k_377 : Dk c_32 27 (.baload) 1 := by decide +kernel
theorem k_378 : Dk c_32 28 (.sipush 255) 3 := by decide +kernel
theorem k_379 : Dk c_32 31 (.iand) 1 := by decide +kernel
theorem k_380 : Dk c_32 32 (.invokestatic 111) 3 := by decide +kernel
theorem k_381 : Dk c_32 35 (.iinc 5 1) 3 := by decide +kernel
theorem k_382 : Dk c_32 38 (.goto (-28)) 3 := by decide +kernel
theorem k_383 : Dk c_33 0 (.aload_n 0) 1 := by decide +kernel
theorem k_384 : Dk c_33 1 (.iload_n 1) 1 := by decide +kernel
theorem k_385 : Dk c_33 2 (.aload_n 2) 1 := by decide +kernel
theorem k_386 : Dk c_33 3 (.iload_n 3) 1 := by decide +kernel
theorem k_387 : Dk c_33 4 (.iload 4) 2 := by decide +kernel
theorem k_388 : Dk c_33 6 (.invokestatic 240) 3 := by decide +kernel
theorem k_389 : Dk c_33 9 (.return_) 1 := by decide +kernel
theorem k_390 : Dk c_11 28 (.aload_n 0) 1 := by decide +kernel
theorem k_391 : Dk c_11 29 (.getfield 9) 3 := by decide +kernel
theorem k_392 : Dk c_11 32 (.iconst 0) 1 := by decide +kernel
theorem k_393 : Dk c_11 33 (.aload_n 1) 1 := by decide +kernel
theorem k_394 : Dk c_11 34 (.iload_n 2) 1 := by decide +kernel
theorem k_395 : Dk c_11 35 (.aload_n 0) 1 := by decide +kernel
theorem k_396 : Dk c_11 36 (.getfield 9) 3 := by decide +kernel
theorem k_397 : Dk c_11 39 (.arraylength) 1 := by decide +kernel
theorem k_398 : Dk c_11 40 (.invokestatic 106) 3 := by decide +kernel
theorem k_399 : Dk c_34 0 (.iload_n 0) 1 := by decide +kernel
theorem k_400 : Dk c_34 1 (.ifCond .ge 11) 3 := by decide +kernel
theorem k_401 : Dk c_34 12 (.iload_n 0) 1 := by decide +kernel
theorem k_402 : Dk c_34 13 (.ldc 20) 2 := by decide +kernel
theorem k_403 : Dk c_34 15 (.if_icmp .lt 40) 3 := by decide +kernel
theorem k_404 : Dk c_34 55 (.iload_n 0) 1 := by decide +kernel
theorem k_405 : Dk c_34 56 (.iconst 1) 1 := by decide +kernel
theorem k_406 : Dk c_34 57 (.ishl) 1 := by decide +kernel
theorem k_407 : Dk c_34 58 (.ireturn) 1 := by decide +kernel
theorem k_408 : Dk c_35 0 (.iload_n 0) 1 := by decide +kernel
theorem k_409 : Dk c_35 1 (.invokestatic 11) 3 := by decide +kernel
theorem k_410 : Dk c_35 4 (.newarray .byte) 2 := by decide +kernel
theorem k_411 : Dk c_35 6 (.areturn) 1 := by decide +kernel
theorem k_412 : Dk c_36 0 (.aload_n 0) 1 := by decide +kernel
theorem k_413 : Dk c_36 1 (.invokevirtual 83) 3 := by decide +kernel
theorem k_414 : Dk c_36 4 (.ifCond .ne 4) 3 := by decide +kernel
theorem k_415 : Dk c_36 8 (.aload_n 0) 1 := by decide +kernel
theorem k_416 : Dk c_36 9 (.getfield 15) 3 := by decide +kernel
theorem k_417 : Dk c_36 12 (.arraylength) 1 := by decide +kernel
theorem k_418 : Dk c_36 13 (.invokestatic 26) 3 := by decide +kernel
theorem k_419 : Dk c_36 16 (.astore_n 1) 1 := by decide +kernel
theorem k_420 : Dk c_36 17 (.aload_n 0) 1 := by decide +kernel
theorem k_421 : Dk c_36 18 (.getfield 15) 3 := by decide +kernel
theorem k_422 : Dk c_36 21 (.iconst 0) 1 := by decide +kernel
theorem k_423 : Dk c_36 22 (.aload_n 1) 1 := by decide +kernel
theorem k_424 : Dk c_36 23 (.iconst 0) 1 := by decide +kernel
theorem k_425 : Dk c_36 24 (.aload_n 0) 1 := by decide +kernel
theorem k_426 : Dk c_36 25 (.getfield 79) 3 := by decide +kernel
theorem k_427 : Dk c_36 28 (.invokestatic 125) 3 := by decide +kernel
theorem k_428 : Dk c_36 31 (.aload_n 0) 1 := by decide +kernel
theorem k_429 : Dk c_36 32 (.aload_n 1) 1 := by decide +kernel
theorem k_430 : Dk c_36 33 (.putfield 15) 3 := by decide +kernel
theorem k_431 : Dk c_36 36 (.aload_n 0) 1 := by decide +kernel
theorem k_432 : Dk c_36 37 (.iconst 1) 1 := by decide +kernel
theorem k_433 : Dk c_36 38 (.putfield 22) 3 := by decide +kernel
theorem k_434 : Dk c_36 41 (.return_) 1 := by decide +kernel
theorem k_435 : Dk c_36 7 (.return_) 1 := by decide +kernel
theorem k_436 : Dk c_12 17 (.aload_n 0) 1 := by decide +kernel
theorem k_437 : Dk c_12 18 (.invokevirtual 195) 3 := by decide +kernel
theorem k_438 : Dk c_37 0 (.iconst 1) 1 := by decide +kernel
theorem k_439 : Dk c_37 1 (.istore_n 1) 1 := by decide +kernel
theorem k_440 : Dk c_37 2 (.iload_n 0) 1 := by decide +kernel
theorem k_441 : Dk c_37 3 (.ifCond .lt 8) 3 := by decide +kernel
theorem k_442 : Dk c_37 6 (.iconst 0) 1 := by decide +kernel
theorem k_443 : Dk c_37 7 (.istore_n 1) 1 := by decide +kernel
theorem k_444 : Dk c_37 8 (.iload_n 0) 1 := by decide +kernel
theorem k_445 : Dk c_37 9 (.ineg) 1 := by decide +kernel
theorem k_446 : Dk c_37 10 (.istore_n 0) 1 := by decide +kernel
theorem k_447 : Dk c_37 11 (.bipush (-10)) 2 := by decide +kernel
theorem k_448 : Dk c_37 13 (.istore_n 2) 1 := by decide +kernel
theorem k_449 : Dk c_37 14 (.iconst 1) 1 := by decide +kernel
theorem k_450 : Dk c_37 15 (.istore_n 3) 1 := by decide +kernel
theorem k_451 : Dk c_37 16 (.iload_n 3) 1 := by decide +kernel
theorem k_452 : Dk c_37 17 (.bipush 10) 2 := by decide +kernel
theorem k_453 : Dk c_37 19 (.if_icmp .ge 23) 3 := by decide +kernel
theorem k_454 : Dk c_37 22 (.iload_n 0) 1 := by decide +kernel
theorem k_455 : Dk c_37 23 (.iload_n 2) 1 := by decide +kernel
theorem k_456 : Dk c_37 24 (.if_icmp .le 7) 3 := by decide +kernel
theorem k_457 : Dk c_37 27 (.iload_n 3) 1 := by decide +kernel
theorem k_458 : Dk c_37 28 (.iload_n 1) 1 := by decide +kernel
theorem k_459 : Dk c_37 29 (.iadd) 1 := by decide +kernel
theorem k_460 : Dk c_37 30 (.ireturn) 1 := by decide +kernel
theorem k_461 : Dk c_38 0 (.iload_n 1) 1 := by decide +kernel
theorem k_462 : Dk c_38 1 (.istore 5) 2 := by decide +kernel
theorem k_463 : Dk c_38 3 (.iload_n 0) 1 := by decide +kernel
theorem k_464 : Dk c_38 4 (.ifCond .ge 7) 3 := by decide +kernel
theorem k_465 : Dk c_38 11 (.iconst 0) 1 := by decide +kernel
theorem k_466 : Dk c_38 12 (.istore 6) 2 := by decide +kernel
theorem k_467 : Dk c_38 14 (.iload 6) 2 := by decide +kernel
theorem k_468 : Dk c_38 16 (.ifCond .ne 6) 3 := by decide +kernel
theorem k_469 : Dk c_38 19 (.iload_n 0) 1 := by decide +kernel
theorem k_470 : Dk c_38 20 (.ineg) 1 := by decide +kernel
theorem k_471 : Dk c_38 21 (.istore_n 0) 1 := by decide +kernel
theorem k_472 : Dk c_38 22 (.iload_n 0) 1 := by decide +kernel
theorem k_473 : Dk c_38 23 (.bipush (-100)) 2 := by decide +kernel
theorem k_474 : Dk c_38 25 (.if_icmp .gt 47) 3 := by decide +kernel
theorem k_475 : Dk c_38 72 (.aload_n 2) 1 := by decide +kernel
theorem k_476 : Dk c_38 73 (.iinc 5 (-1)) 3 := by decide +kernel
theorem k_477 : Dk c_38 76 (.iload 5) 2 := by decide +kernel
theorem k_478 : Dk c_38 78 (.getstatic 83) 3 := by decide +kernel
theorem k_479 : Dk c_38 81 (.iload_n 0) 1 := by decide +kernel
theorem k_480 : Dk c_38 82 (.ineg) 1 := by decide +kernel
theorem k_481 : Dk c_38 83 (.baload) 1 := by decide +kernel
theorem k_482 : Dk c_38 84 (.bastore) 1 := by decide +kernel
theorem k_483 : Dk c_38 85 (.iload_n 0) 1 := by decide +kernel
theorem k_484 : Dk c_38 86 (.bipush (-9)) 2 := by decide +kernel
theorem k_485 : Dk c_38 88 (.if_icmp .ge 16) 3 := by decide +kernel
theorem k_486 : Dk c_38 104 (.iload 6) 2 := by decide +kernel
theorem k_487 : Dk c_38 106 (.ifCond .eq 12) 3 := by decide +kernel
theorem k_488 : Dk c_38 118 (.iload 5) 2 := by decide +kernel
theorem k_489 : Dk c_38 120 (.ireturn) 1 := by decide +kernel
theorem k_490 : Dk c_39 0 (.iload_n 1) 1 := by decide +kernel
theorem k_491 : Dk c_39 1 (.istore 5) 2 := by decide +kernel
theorem k_492 : Dk c_39 3 (.iload_n 0) 1 := by decide +kernel
theorem k_493 : Dk c_39 4 (.ifCond .ge 7) 3 := by decide +kernel
theorem k_494 : Dk c_39 11 (.iconst 0) 1 := by decide +kernel
theorem k_495 : Dk c_39 12 (.istore 6) 2 := by decide +kernel
theorem k_496 : Dk c_39 14 (.iload 6) 2 := by decide +kernel
theorem k_497 : Dk c_39 16 (.ifCond .ne 6) 3 := by decide +kernel
theorem k_498 : Dk c_39 19 (.iload_n 0) 1 := by decide +kernel
theorem k_499 : Dk c_39 20 (.ineg) 1 := by decide +kernel
theorem k_500 : Dk c_39 21 (.istore_n 0) 1 := by decide +kernel
theorem k_501 : Dk c_39 22 (.iload_n 0) 1 := by decide +kernel
theorem k_502 : Dk c_39 23 (.bipush (-100)) 2 := by decide +kernel
theorem k_503 : Dk c_39 25 (.if_icmp .gt 51) 3 := by decide +kernel
theorem k_504 : Dk c_39 76 (.aload_n 2) 1 := by decide +kernel
theorem k_505 : Dk c_39 77 (.iinc 5 (-1)) 3 := by decide +kernel
theorem k_506 : Dk c_39 80 (.iload 5) 2 := by decide +kernel
theorem k_507 : Dk c_39 82 (.getstatic 403) 3 := by decide +kernel
theorem k_508 : Dk c_39 85 (.iload_n 0) 1 := by decide +kernel
theorem k_509 : Dk c_39 86 (.ineg) 1 := by decide +kernel
theorem k_510 : Dk c_39 87 (.baload) 1 := by decide +kernel
theorem k_511 : Dk c_39 88 (.invokestatic 111) 3 := by decide +kernel
theorem k_512 : Dk c_39 91 (.iload_n 0) 1 := by decide +kernel
theorem k_513 : Dk c_39 92 (.bipush (-9)) 2 := by decide +kernel
theorem k_514 : Dk c_39 94 (.if_icmp .ge 18) 3 := by decide +kernel
theorem k_515 : Dk c_39 112 (.iload 6) 2 := by decide +kernel
theorem k_516 : Dk c_39 114 (.ifCond .eq 14) 3 := by decide +kernel
theorem k_517 : Dk c_39 128 (.iload 5) 2 := by decide +kernel
theorem k_518 : Dk c_39 130 (.ireturn) 1 := by decide +kernel
theorem k_519 : Dk c_40 0 (.iload_n 0) 1 := by decide +kernel
theorem k_520 : Dk c_40 1 (.ifCond .lt 13) 3 := by decide +kernel
theorem k_521 : Dk c_40 4 (.iload_n 0) 1 := by decide +kernel
theorem k_522 : Dk c_40 5 (.iload_n 1) 1 := by decide +kernel
theorem k_523 : Dk c_40 6 (.if_icmp .gt 8) 3 := by decide +kernel
theorem k_524 : Dk c_40 9 (.iload_n 1) 1 := by decide +kernel
theorem k_525 : Dk c_40 10 (.iload_n 2) 1 := by decide +kernel
theorem k_526 : Dk c_40 11 (.if_icmp .le 11) 3 := by decide +kernel
theorem k_527 : Dk c_40 22 (.iload_n 0) 1 := by decide +kernel
theorem k_528 : Dk c_40 23 (.ireturn) 1 := by decide +kernel
theorem k_529 : Dk c_41 0 (.iload_n 0) 1 := by decide +kernel
theorem k_530 : Dk c_41 1 (.iload_n 1) 1 := by decide +kernel
theorem k_531 : Dk c_41 2 (.iload_n 2) 1 := by decide +kernel
theorem k_532 : Dk c_41 3 (.getstatic 1053) 3 := by decide +kernel
theorem k_533 : Dk c_41 6 (.invokestatic 1062) 3 := by decide +kernel
theorem k_534 : Dk c_41 9 (.pop) 1 := by decide +kernel
theorem k_535 : Dk c_41 10 (.return_) 1 := by decide +kernel
theorem k_536 : Dk c_42 0 (.iload_n 0) 1 := by decide +kernel
theorem k_537 : Dk c_42 1 (.iload_n 1) 1 := by decide +kernel
theorem k_538 : Dk c_42 2 (.iload_n 2) 1 := by decide +kernel
theorem k_539 : Dk c_42 3 (.aconst_null) 1 := by decide +kernel
theorem k_540 : Dk c_42 4 (.invokestatic 111) 3 := by decide +kernel
theorem k_541 : Dk c_42 7 (.ireturn) 1 := by decide +kernel
theorem k_542 : Dk c_43 0 (.iload_n 0) 1 := by decide +kernel
theorem k_543 : Dk c_43 1 (.iload_n 1) 1 := by decide +kernel
theorem k_544 : Dk c_43 2 (.aload_n 2) 1 := by decide +kernel
theorem k_545 : Dk c_43 3 (.invokestatic 48) 3 := by decide +kernel
theorem k_546 : Dk c_43 6 (.invokestatic 241) 3 := by decide +kernel
theorem k_547 : Dk c_43 9 (.return_) 1 := by decide +kernel
theorem k_548 : Dk c_44 0 (.iload_n 1) 1 := by decide +kernel
theorem k_549 : Dk c_44 1 (.iload_n 2) 1 := by decide +kernel
theorem k_550 : Dk c_44 2 (.aload_n 3) 1 := by decide +kernel
theorem k_551 : Dk c_44 3 (.invokestatic 96) 3 := by decide +kernel
theorem k_552 : Dk c_44 6 (.iload_n 0) 1 := by decide +kernel
theorem k_553 : Dk c_44 7 (.iload_n 2) 1 := by decide +kernel
theorem k_554 : Dk c_44 8 (.aload_n 3) 1 := by decide +kernel
theorem k_555 : Dk c_44 9 (.invokestatic 393) 3 := by decide +kernel
theorem k_556 : Dk c_44 12 (.istore 4) 2 := by decide +kernel
theorem k_557 : Dk c_44 14 (.getstatic 44) 3 := by decide +kernel
theorem k_558 : Dk c_44 17 (.ifCond .ne 17) 3 := by decide +kernel
theorem k_559 : Dk c_44 34 (.iload 4) 2 := by decide +kernel
theorem k_560 : Dk c_44 36 (.ireturn) 1 := by decide +kernel
theorem k_561 : Dk c_45 0 (.aload_n 0) 1 := by decide +kernel
theorem k_562 : Dk c_45 1 (.getfield 79) 3 := by decide +kernel
theorem k_563 : Dk c_45 4 (.istore_n 2) 1 := by decide +kernel
theorem k_564 : Dk c_45 5 (.iload_n 2) 1 := by decide +kernel
theorem k_565 : Dk c_45 6 (.iload_n 1) 1 := by decide +kernel
theorem k_566 : Dk c_45 7 (.invokestatic 245) 3 := by decide +kernel
theorem k_567 : Dk c_45 10 (.iadd) 1 := by decide +kernel
theorem k_568 : Dk c_45 11 (.istore_n 3) 1 := by decide +kernel
theorem k_569 : Dk c_45 12 (.aload_n 0) 1 := by decide +kernel
theorem k_570 : Dk c_45 13 (.iload_n 3) 1 := by decide +kernel
theorem k_571 : Dk c_45 14 (.invokevirtual 100) 3 := by decide +kernel
theorem k_572 : Dk c_45 17 (.aload_n 0) 1 := by decide +kernel
theorem k_573 : Dk c_45 18 (.invokevirtual 83) 3 := by decide +kernel
theorem k_574 : Dk c_45 21 (.ifCond .eq 16) 3 := by decide +kernel
theorem k_575 : Dk c_45 24 (.iload_n 1) 1 := by decide +kernel
theorem k_576 : Dk c_45 25 (.iload_n 3) 1 := by decide +kernel
theorem k_577 : Dk c_45 26 (.aload_n 0) 1 := by decide +kernel
theorem k_578 : Dk c_45 27 (.getfield 15) 3 := by decide +kernel
theorem k_579 : Dk c_45 30 (.invokestatic 248) 3 := by decide +kernel
theorem k_580 : Dk c_45 33 (.pop) 1 := by decide +kernel
theorem k_581 : Dk c_45 34 (.goto 14) 3 := by decide +kernel
theorem k_582 : Dk c_45 48 (.aload_n 0) 1 := by decide +kernel
theorem k_583 : Dk c_45 49 (.iload_n 3) 1 := by decide +kernel
theorem k_584 : Dk c_45 50 (.putfield 79) 3 := by decide +kernel
theorem k_585 : Dk c_45 53 (.aload_n 0) 1 := by decide +kernel
theorem k_586 : Dk c_45 54 (.areturn) 1 := by decide +kernel
theorem k_587 : Dk c_46 0 (.aload_n 0) 1 := by decide +kernel
theorem k_588 : Dk c_46 1 (.iload_n 1) 1 := by decide +kernel
theorem k_589 : Dk c_46 2 (.invokespecial 53) 3 := by decide +kernel
theorem k_590 : Dk c_46 5 (.pop) 1 := by decide +kernel
theorem k_591 : Dk c_46 6 (.aload_n 0) 1 := by decide +kernel
theorem k_592 : Dk c_46 7 (.areturn) 1 := by decide +kernel
theorem k_593 : Dk c_45 37 (.iload_n 1) 1 := by decide +kernel
theorem k_594 : Dk c_45 38 (.iload_n 2) 1 := by decide +kernel
theorem k_595 : Dk c_45 39 (.iload_n 3) 1 := by decide +kernel
theorem k_596 : Dk c_45 40 (.aload_n 0) 1 := by decide +kernel
theorem k_597 : Dk c_45 41 (.getfield 15) 3 := by decide +kernel
theorem k_598 : Dk c_45 44 (.invokestatic 251) 3 := by decide +kernel
theorem k_599 : Dk c_45 47 (.pop) 1 := by decide +kernel
theorem k_600 : Dk c_47 0 (.iconst 1) 1 := by decide +kernel
theorem k_601 : Dk c_47 1 (.istore_n 2) 1 := by decide +kernel
theorem k_602 : Dk c_47 2 (.lload_n 0) 1 := by decide +kernel
theorem k_603 : Dk c_47 3 (.lconst 0) 1 := by decide +kernel
theorem k_604 : Dk c_47 4 (.lcmp) 1 := by decide +kernel
theorem k_605 : Dk c_47 5 (.ifCond .lt 8) 3 := by decide +kernel
theorem k_606 : Dk c_47 13 (.ldc2_w 140) 3 := by decide +kernel
theorem k_607 : Dk c_47 16 (.lstore_n 3) 1 := by decide +kernel
theorem k_608 : Dk c_47 17 (.iconst 1) 1 := by decide +kernel
theorem k_609 : Dk c_47 18 (.istore 5) 2 := by decide +kernel
theorem k_610 : Dk c_47 20 (.iload 5) 2 := by decide +kernel
theorem k_611 : Dk c_47 22 (.bipush 19) 2 := by decide +kernel
theorem k_612 : Dk c_47 24 (.if_icmp .ge 26) 3 := by decide +kernel
theorem k_613 : Dk c_47 27 (.lload_n 0) 1 := by decide +kernel
theorem k_614 : Dk c_47 28 (.lload_n 3) 1 := by decide +kernel
theorem k_615 : Dk c_47 29 (.lcmp) 1 := by decide +kernel
theorem k_616 : Dk c_47 30 (.ifCond .le 8) 3 := by decide +kernel
theorem k_617 : Dk c_47 33 (.iload 5) 2 := by decide +kernel
theorem k_618 : Dk c_47 35 (.iload_n 2) 1 := by decide +kernel
theorem k_619 : Dk c_47 36 (.iadd) 1 := by decide +kernel
theorem k_620 : Dk c_47 37 (.ireturn) 1 := by decide +kernel
theorem k_621 : Dk c_47 38 (.ldc2_w 53) 3 := by decide +kernel
theorem k_622 : Dk c_47 41 (.lload_n 3) 1 := by decide +kernel
theorem k_623 : Dk c_47 42 (.lmul) 1 := by decide +kernel
theorem k_624 : Dk c_47 43 (.lstore_n 3) 1 := by decide +kernel
theorem k_625 : Dk c_47 44 (.iinc 5 1) 3 := by decide +kernel
theorem k_626 : Dk c_47 47 (.goto (-27)) 3 := by decide +kernel
theorem k_627 : Dk c_47 8 (.iconst 0) 1 := by decide +kernel
theorem k_628 : Dk c_47 9 (.istore_n 2) 1 := by decide +kernel
theorem k_629 : Dk c_47 10 (.lload_n 0) 1 := by decide +kernel
theorem k_630 : Dk c_47 11 (.lneg) 1 := by decide +kernel
theorem k_631 : Dk c_47 12 (.lstore_n 0) 1 := by decide +kernel
theorem k_632 : Dk c_48 178 (.iload 8) 2 := by decide +kernel
theorem k_633 : Dk c_48 180 (.ifCond .eq 12) 3 := by decide +kernel
theorem k_634 : Dk c_48 192 (.iload 7) 2 := by decide +kernel
theorem k_635 : Dk c_48 194 (.ireturn) 1 := by decide +kernel
theorem k_636 : Dk c_48 183 (.aload_n 3) 1 := by decide +kernel
theorem k_637 : Dk c_48 184 (.iinc 7 (-1)) 3 := by decide +kernel
theorem k_638 : Dk c_48 187 (.iload 7) 2 := by decide +kernel
theorem k_639 : Dk c_48 189 (.bipush 45) 2 := by decide +kernel
theorem k_640 : Dk c_48 191 (.bastore) 1 := by decide +kernel
theorem k_641 : Dk c_48 143 (.aload_n 3) 1 := by decide +kernel
theorem k_642 : Dk c_48 144 (.iinc 7 (-1)) 3 := by decide +kernel
theorem k_643 : Dk c_48 147 (.iload 7) 2 := by decide +kernel
theorem k_644 : Dk c_48 149 (.getstatic 133) 3 := by decide +kernel
theorem k_645 : Dk c_48 152 (.iload 10) 2 := by decide +kernel
theorem k_646 : Dk c_48 154 (.ineg) 1 := by decide +kernel
theorem k_647 : Dk c_48 155 (.baload) 1 := by decide +kernel
theorem k_648 : Dk c_48 156 (.bastore) 1 := by decide +kernel
theorem k_649 : Dk c_48 157 (.iload 10) 2 := by decide +kernel
theorem k_650 : Dk c_48 159 (.bipush (-9)) 2 := by decide +kernel
theorem k_651 : Dk c_48 161 (.if_icmp .ge 17) 3 := by decide +kernel
theorem k_652 : Dk c_48 164 (.aload_n 3) 1 := by decide +kernel
theorem k_653 : Dk c_48 165 (.iinc 7 (-1)) 3 := by decide +kernel
theorem k_654 : Dk c_48 168 (.iload 7) 2 := by decide +kernel
theorem k_655 : Dk c_48 170 (.getstatic 137) 3 := by decide +kernel
theorem k_656 : Dk c_48 173 (.iload 10) 2 := by decide +kernel
theorem k_657 : Dk c_48 175 (.ineg) 1 := by decide +kernel
theorem k_658 : Dk c_48 176 (.baload) 1 := by decide +kernel
theorem k_659 : Dk c_48 177 (.bastore) 1 := by decide +kernel
theorem k_660 : Dk c_48 0 (.iload_n 2) 1 := by decide +kernel
theorem k_661 : Dk c_48 1 (.istore 7) 2 := by decide +kernel
theorem k_662 : Dk c_48 3 (.lload_n 0) 1 := by decide +kernel
theorem k_663 : Dk c_48 4 (.lconst 0) 1 := by decide +kernel
theorem k_664 : Dk c_48 5 (.lcmp) 1 := by decide +kernel
theorem k_665 : Dk c_48 6 (.ifCond .ge 7) 3 := by decide +kernel
theorem k_666 : Dk c_48 9 (.iconst 1) 1 := by decide +kernel
theorem k_667 : Dk c_48 10 (.goto 4) 3 := by decide +kernel
theorem k_668 : Dk c_48 14 (.istore 8) 2 := by decide +kernel
theorem k_669 : Dk c_48 16 (.iload 8) 2 := by decide +kernel
theorem k_670 : Dk c_48 18 (.ifCond .ne 6) 3 := by decide +kernel
theorem k_671 : Dk c_48 24 (.lload_n 0) 1 := by decide +kernel
theorem k_672 : Dk c_48 25 (.ldc2_w 129) 3 := by decide +kernel
theorem k_673 : Dk c_48 28 (.lcmp) 1 := by decide +kernel
theorem k_674 : Dk c_48 29 (.ifCond .gt 53) 3 := by decide +kernel
theorem k_675 : Dk c_48 82 (.lload_n 0) 1 := by decide +kernel
theorem k_676 : Dk c_48 83 (.l2i) 1 := by decide +kernel
theorem k_677 : Dk c_48 84 (.istore 10) 2 := by decide +kernel
theorem k_678 : Dk c_48 86 (.iload 10) 2 := by decide +kernel
theorem k_679 : Dk c_48 88 (.bipush (-100)) 2 := by decide +kernel
theorem k_680 : Dk c_48 90 (.if_icmp .gt 53) 3 := by decide +kernel
theorem k_681 : Dk c_48 93 (.iload 10) 2 := by decide +kernel
theorem k_682 : Dk c_48 95 (.bipush 100) 2 := by decide +kernel
theorem k_683 : Dk c_48 97 (.idiv) 1 := by decide +kernel
theorem k_684 : Dk c_48 98 (.istore 9) 2 := by decide +kernel
theorem k_685 : Dk c_48 100 (.iload 9) 2 := by decide +kernel
theorem k_686 : Dk c_48 102 (.bipush 100) 2 := by decide +kernel
theorem k_687 : Dk c_48 104 (.imul) 1 := by decide +kernel
theorem k_688 : Dk c_48 105 (.iload 10) 2 := by decide +kernel
theorem k_689 : Dk c_48 107 (.isub) 1 := by decide +kernel
theorem k_690 : Dk c_48 108 (.istore 6) 2 := by decide +kernel
theorem k_691 : Dk c_48 110 (.iload 9) 2 := by decide +kernel
theorem k_692 : Dk c_48 112 (.istore 10) 2 := by decide +kernel
theorem k_693 : Dk c_48 114 (.aload_n 3) 1 := by decide +kernel
theorem k_694 : Dk c_48 115 (.iinc 7 (-1)) 3 := by decide +kernel
theorem k_695 : Dk c_48 118 (.iload 7) 2 := by decide +kernel
theorem k_696 : Dk c_48 120 (.getstatic 133) 3 := by decide +kernel
theorem k_697 : Dk c_48 123 (.iload 6) 2 := by decide +kernel
theorem k_698 : Dk c_48 125 (.baload) 1 := by decide +kernel
theorem k_699 : Dk c_48 126 (.bastore) 1 := by decide +kernel
theorem k_700 : Dk c_48 127 (.aload_n 3) 1 := by decide +kernel
theorem k_701 : Dk c_48 128 (.iinc 7 (-1)) 3 := by decide +kernel
theorem k_702 : Dk c_48 131 (.iload 7) 2 := by decide +kernel
theorem k_703 : Dk c_48 133 (.getstatic 137) 3 := by decide +kernel
theorem k_704 : Dk c_48 136 (.iload 6) 2 := by decide +kernel
theorem k_705 : Dk c_48 138 (.baload) 1 := by decide +kernel
theorem k_706 : Dk c_48 139 (.bastore) 1 := by decide +kernel
theorem k_707 : Dk c_48 140 (.goto (-54)) 3 := by decide +kernel
theorem k_708 : Dk c_48 13 (.iconst 0) 1 := by decide +kernel
theorem k_709 : Dk c_48 21 (.lload_n 0) 1 := by decide +kernel
theorem k_710 : Dk c_48 22 (.lneg) 1 := by decide +kernel
theorem k_711 : Dk c_48 23 (.lstore_n 0) 1 := by decide +kernel
theorem k_712 : Dk c_49 0 (.aload_n 0) 1 := by decide +kernel
theorem k_713 : Dk c_49 1 (.getfield 79) 3 := by decide +kernel
theorem k_714 : Dk c_49 4 (.istore_n 3) 1 := by decide +kernel
theorem k_715 : Dk c_49 5 (.iload_n 3) 1 := by decide +kernel
theorem k_716 : Dk c_49 6 (.lload_n 1) 1 := by decide +kernel
theorem k_717 : Dk c_49 7 (.invokestatic 254) 3 := by decide +kernel
theorem k_718 : Dk c_49 10 (.iadd) 1 := by decide +kernel
theorem k_719 : Dk c_49 11 (.istore 4) 2 := by decide +kernel
theorem k_720 : Dk c_49 13 (.aload_n 0) 1 := by decide +kernel
theorem k_721 : Dk c_49 14 (.iload 4) 2 := by decide +kernel
theorem k_722 : Dk c_49 16 (.invokevirtual 100) 3 := by decide +kernel
theorem k_723 : Dk c_49 19 (.aload_n 0) 1 := by decide +kernel
theorem k_724 : Dk c_49 20 (.invokevirtual 83) 3 := by decide +kernel
theorem k_725 : Dk c_49 23 (.ifCond .eq 17) 3 := by decide +kernel
theorem k_726 : Dk c_49 26 (.lload_n 1) 1 := by decide +kernel
theorem k_727 : Dk c_49 27 (.iload 4) 2 := by decide +kernel
theorem k_728 : Dk c_49 29 (.aload_n 0) 1 := by decide +kernel
theorem k_729 : Dk c_49 30 (.getfield 15) 3 := by decide +kernel
theorem k_730 : Dk c_49 33 (.invokestatic 259) 3 := by decide +kernel
theorem k_731 : Dk c_49 36 (.pop) 1 := by decide +kernel
theorem k_732 : Dk c_49 37 (.goto 15) 3 := by decide +kernel
theorem k_733 : Dk c_49 52 (.aload_n 0) 1 := by decide +kernel
theorem k_734 : Dk c_49 53 (.iload 4) 2 := by decide +kernel
theorem k_735 : Dk c_49 55 (.putfield 79) 3 := by decide +kernel
theorem k_736 : Dk c_49 58 (.aload_n 0) 1 := by decide +kernel
theorem k_737 : Dk c_49 59 (.areturn) 1 := by decide +kernel
theorem k_738 : Dk c_50 0 (.aload_n 0) 1 := by decide +kernel
theorem k_739 : Dk c_50 1 (.lload_n 1) 1 := by decide +kernel
theorem k_740 : Dk c_50 2 (.invokespecial 56) 3 := by decide +kernel
theorem k_741 : Dk c_50 5 (.pop) 1 := by decide +kernel
theorem k_742 : Dk c_50 6 (.aload_n 0) 1 := by decide +kernel
theorem k_743 : Dk c_50 7 (.areturn) 1 := by decide +kernel
theorem k_744 : Dk c_51 0 (.getstatic 44) 3 := by decide +kernel
theorem k_745 : Dk c_51 3 (.ifCond .ne 25) 3 := by decide +kernel
theorem k_746 : Dk c_51 28 (.iload_n 1) 1 := by decide +kernel
theorem k_747 : Dk c_51 29 (.iconst 1) 1 := by decide +kernel
theorem k_748 : Dk c_51 30 (.ishl) 1 := by decide +kernel
theorem k_749 : Dk c_51 31 (.istore_n 1) 1 := by decide +kernel
theorem k_750 : Dk c_51 32 (.aload_n 0) 1 := by decide +kernel
theorem k_751 : Dk c_51 33 (.iload_n 1) 1 := by decide +kernel
theorem k_752 : Dk c_51 34 (.iinc 1 1) 3 := by decide +kernel
theorem k_753 : Dk c_51 37 (.baload) 1 := by decide +kernel
theorem k_754 : Dk c_51 38 (.sipush 255) 3 := by decide +kernel
theorem k_755 : Dk c_51 41 (.iand) 1 := by decide +kernel
theorem k_756 : Dk c_51 42 (.getstatic 59) 3 := by decide +kernel
theorem k_757 : Dk c_51 45 (.ishl) 1 := by decide +kernel
theorem k_758 : Dk c_51 46 (.aload_n 0) 1 := by decide +kernel
theorem k_759 : Dk c_51 47 (.iload_n 1) 1 := by decide +kernel
theorem k_760 : Dk c_51 48 (.baload) 1 := by decide +kernel
theorem k_761 : Dk c_51 49 (.sipush 255) 3 := by decide +kernel
theorem k_762 : Dk c_51 52 (.iand) 1 := by decide +kernel
theorem k_763 : Dk c_51 53 (.getstatic 63) 3 := by decide +kernel
theorem k_764 : Dk c_51 56 (.ishl) 1 := by decide +kernel
theorem k_765 : Dk c_51 57 (.ior) 1 := by decide +kernel
theorem k_766 : Dk c_51 58 (.i2c) 1 := by decide +kernel
theorem k_767 : Dk c_51 59 (.ireturn) 1 := by decide +kernel
theorem k_768 : Dk c_52 0 (.iconst 0) 1 := by decide +kernel
theorem k_769 : Dk c_52 1 (.istore 5) 2 := by decide +kernel
theorem k_770 : Dk c_52 3 (.iload 5) 2 := by decide +kernel
theorem k_771 : Dk c_52 5 (.iload 4) 2 := by decide +kernel
theorem k_772 : Dk c_52 7 (.if_icmp .ge 37) 3 := by decide +kernel
theorem k_773 : Dk c_52 10 (.aload_n 0) 1 := by decide +kernel
theorem k_774 : Dk c_52 11 (.iload_n 1) 1 := by decide +kernel
theorem k_775 : Dk c_52 12 (.caload) 1 := by decide +kernel
theorem k_776 : Dk c_52 13 (.istore 6) 2 := by decide +kernel
theorem k_777 : Dk c_52 15 (.iload 6) 2 := by decide +kernel
theorem k_778 : Dk c_52 17 (.sipush 255) 3 := by decide +kernel
theorem k_779 : Dk c_52 20 (.if_icmp .le 6) 3 := by decide +kernel
theorem k_780 : Dk c_52 26 (.aload_n 2) 1 := by decide +kernel
theorem k_781 : Dk c_52 27 (.iload_n 3) 1 := by decide +kernel
theorem k_782 : Dk c_52 28 (.iload 6) 2 := by decide +kernel
theorem k_783 : Dk c_52 30 (.i2b) 1 := by decide +kernel
theorem k_784 : Dk c_52 31 (.bastore) 1 := by decide +kernel
theorem k_785 : Dk c_52 32 (.iinc 1 1) 3 := by decide +kernel
theorem k_786 : Dk c_52 35 (.iinc 3 1) 3 := by decide +kernel
theorem k_787 : Dk c_52 38 (.iinc 5 1) 3 := by decide +kernel
theorem k_788 : Dk c_52 41 (.goto (-38)) 3 := by decide +kernel
theorem k_789 : Dk c_52 44 (.iload 4) 2 := by decide +kernel
theorem k_790 : Dk c_52 46 (.ireturn) 1 := by decide +kernel
theorem k_791 : Dk c_53 0 (.iload_n 2) 1 := by decide +kernel
theorem k_792 : Dk c_53 1 (.newarray .byte) 2 := by decide +kernel
theorem k_793 : Dk c_53 3 (.astore_n 3) 1 := by decide +kernel
theorem k_794 : Dk c_53 4 (.aload_n 0) 1 := by decide +kernel
theorem k_795 : Dk c_53 5 (.iload_n 1) 1 := by decide +kernel
theorem k_796 : Dk c_53 6 (.aload_n 3) 1 := by decide +kernel
theorem k_797 : Dk c_53 7 (.iconst 0) 1 := by decide +kernel
theorem k_798 : Dk c_53 8 (.iload_n 2) 1 := by decide +kernel
theorem k_799 : Dk c_53 9 (.invokestatic 115) 3 := by decide +kernel
theorem k_800 : Dk c_53 12 (.istore 4) 2 := by decide +kernel
theorem k_801 : Dk c_53 14 (.iload 4) 2 := by decide +kernel
theorem k_802 : Dk c_53 16 (.iload_n 2) 1 := by decide +kernel
theorem k_803 : Dk c_53 17 (.if_icmp .eq 40) 3 := by decide +kernel
theorem k_804 : Dk c_53 57 (.aload_n 3) 1 := by decide +kernel
theorem k_805 : Dk c_53 58 (.areturn) 1 := by decide +kernel
theorem k_806 : Dk c_54 0 (.iload_n 1) 1 := by decide +kernel
theorem k_807 : Dk c_54 1 (.aload_n 0) 1 := by decide +kernel
theorem k_808 : Dk c_54 2 (.arraylength) 1 := by decide +kernel
theorem k_809 : Dk c_54 3 (.isub) 1 := by decide +kernel
theorem k_810 : Dk c_54 4 (.bipush 31) 2 := by decide +kernel
theorem k_811 : Dk c_54 6 (.iushr) 1 := by decide +kernel
theorem k_812 : Dk c_54 7 (.i2b) 1 := by decide +kernel
theorem k_813 : Dk c_54 8 (.ireturn) 1 := by decide +kernel
theorem k_814 : Dk c_55 0 (.aload_n 0) 1 := by decide +kernel
theorem k_815 : Dk c_55 1 (.invokespecial 1) 3 := by decide +kernel
theorem k_816 : Dk c_55 4 (.iload_n 3) 1 := by decide +kernel
theorem k_817 : Dk c_55 5 (.ifCond .ne 22) 3 := by decide +kernel
theorem k_818 : Dk c_55 27 (.getstatic 38) 3 := by decide +kernel
theorem k_819 : Dk c_55 30 (.ifCond .eq 28) 3 := by decide +kernel
theorem k_820 : Dk c_55 33 (.aload_n 1) 1 := by decide +kernel
theorem k_821 : Dk c_55 34 (.iload_n 2) 1 := by decide +kernel
theorem k_822 : Dk c_55 35 (.iload_n 3) 1 := by decide +kernel
theorem k_823 : Dk c_55 36 (.invokestatic 177) 3 := by decide +kernel
theorem k_824 : Dk c_55 39 (.astore 5) 2 := by decide +kernel
theorem k_825 : Dk c_55 41 (.aload_n 0) 1 := by decide +kernel
theorem k_826 : Dk c_55 42 (.aload 5) 2 := by decide +kernel
theorem k_827 : Dk c_55 44 (.iload_n 3) 1 := by decide +kernel
theorem k_828 : Dk c_55 45 (.invokestatic 47) 3 := by decide +kernel
theorem k_829 : Dk c_55 48 (.putfield 15) 3 := by decide +kernel
theorem k_830 : Dk c_55 51 (.aload_n 0) 1 := by decide +kernel
theorem k_831 : Dk c_55 52 (.aload 5) 2 := by decide +kernel
theorem k_832 : Dk c_55 54 (.putfield 9) 3 := by decide +kernel
theorem k_833 : Dk c_55 57 (.return_) 1 := by decide +kernel
theorem k_834 : Dk c_56 0 (.aload_n 0) 1 := by decide +kernel
theorem k_835 : Dk c_56 1 (.aload_n 1) 1 := by decide +kernel
theorem k_836 : Dk c_56 2 (.iconst 0) 1 := by decide +kernel
theorem k_837 : Dk c_56 3 (.aload_n 1) 1 := by decide +kernel
theorem k_838 : Dk c_56 4 (.arraylength) 1 := by decide +kernel
theorem k_839 : Dk c_56 5 (.aconst_null) 1 := by decide +kernel
theorem k_840 : Dk c_56 6 (.invokespecial 27) 3 := by decide +kernel
theorem k_841 : Dk c_56 9 (.return_) 1 := by decide +kernel
theorem k_842 : Dk c_57 0 (.iload_n 2) 1 := by decide +kernel
theorem k_843 : Dk c_57 1 (.invokestatic 107) 3 := by decide +kernel
theorem k_844 : Dk c_57 4 (.astore_n 3) 1 := by decide +kernel
theorem k_845 : Dk c_57 5 (.iconst 0) 1 := by decide +kernel
theorem k_846 : Dk c_57 6 (.istore 4) 2 := by decide +kernel
theorem k_847 : Dk c_57 8 (.iload 4) 2 := by decide +kernel
theorem k_848 : Dk c_57 10 (.iload_n 2) 1 := by decide +kernel
theorem k_849 : Dk c_57 11 (.if_icmp .ge 21) 3 := by decide +kernel
theorem k_850 : Dk c_57 14 (.aload_n 3) 1 := by decide +kernel
theorem k_851 : Dk c_57 15 (.iload 4) 2 := by decide +kernel
theorem k_852 : Dk c_57 17 (.aload_n 0) 1 := by decide +kernel
theorem k_853 : Dk c_57 18 (.iload_n 1) 1 := by decide +kernel
theorem k_854 : Dk c_57 19 (.caload) 1 := by decide +kernel
theorem k_855 : Dk c_57 20 (.invokestatic 111) 3 := by decide +kernel
theorem k_856 : Dk c_57 23 (.iinc 1 1) 3 := by decide +kernel
theorem k_857 : Dk c_57 26 (.iinc 4 1) 3 := by decide +kernel
theorem k_858 : Dk c_57 29 (.goto (-21)) 3 := by decide +kernel
theorem k_859 : Dk c_57 32 (.aload_n 3) 1 := by decide +kernel
theorem k_860 : Dk c_57 33 (.areturn) 1 := by decide +kernel
theorem k_861 : Dk c_52 23 (.iload 5) 2 := by decide +kernel
theorem k_862 : Dk c_52 25 (.ireturn) 1 := by decide +kernel
theorem k_863 : Dk c_53 20 (.aload_n 0) 1 := by decide +kernel
theorem k_864 : Dk c_53 21 (.iload_n 1) 1 := by decide +kernel
theorem k_865 : Dk c_53 22 (.iload_n 2) 1 := by decide +kernel
theorem k_866 : Dk c_53 23 (.invokestatic 119) 3 := by decide +kernel
theorem k_867 : Dk c_53 26 (.astore 5) 2 := by decide +kernel
theorem k_868 : Dk c_53 28 (.aload 5) 2 := by decide +kernel
theorem k_869 : Dk c_53 30 (.iload 4) 2 := by decide +kernel
theorem k_870 : Dk c_53 32 (.invokestatic 71) 3 := by decide +kernel
theorem k_871 : Dk c_53 35 (.sipush 255) 3 := by decide +kernel
theorem k_872 : Dk c_53 38 (.if_icmp .gt 16) 3 := by decide +kernel
theorem k_873 : Dk c_53 54 (.aload 5) 2 := by decide +kernel
theorem k_874 : Dk c_53 56 (.areturn) 1 := by decide +kernel
theorem k_875 : Dk c_58 0 (.iload_n 0) 1 := by decide +kernel
theorem k_876 : Dk c_58 1 (.ifCond .lt 8) 3 := by decide +kernel
theorem k_877 : Dk c_58 4 (.iload_n 0) 1 := by decide +kernel
theorem k_878 : Dk c_58 5 (.iload_n 1) 1 := by decide +kernel
theorem k_879 : Dk c_58 6 (.if_icmp .lt 10) 3 := by decide +kernel
theorem k_880 : Dk c_58 16 (.iload_n 0) 1 := by decide +kernel
theorem k_881 : Dk c_58 17 (.ireturn) 1 := by decide +kernel
theorem k_882 : Dk c_59 0 (.iload_n 0) 1 := by decide +kernel
theorem k_883 : Dk c_59 1 (.iload_n 1) 1 := by decide +kernel
theorem k_884 : Dk c_59 2 (.getstatic 1053) 3 := by decide +kernel
theorem k_885 : Dk c_59 5 (.invokestatic 1059) 3 := by decide +kernel
theorem k_886 : Dk c_59 8 (.pop) 1 := by decide +kernel
theorem k_887 : Dk c_59 9 (.return_) 1 := by decide +kernel
theorem k_888 : Dk c_60 0 (.iload_n 1) 1 := by decide +kernel
theorem k_889 : Dk c_60 1 (.aload_n 0) 1 := by decide +kernel
theorem k_890 : Dk c_60 2 (.arraylength) 1 := by decide +kernel
theorem k_891 : Dk c_60 3 (.invokestatic 9) 3 := by decide +kernel
theorem k_892 : Dk c_60 6 (.aload_n 0) 1 := by decide +kernel
theorem k_893 : Dk c_60 7 (.iload_n 1) 1 := by decide +kernel
theorem k_894 : Dk c_60 8 (.baload) 1 := by decide +kernel
theorem k_895 : Dk c_60 9 (.sipush 255) 3 := by decide +kernel
theorem k_896 : Dk c_60 12 (.iand) 1 := by decide +kernel
theorem k_897 : Dk c_60 13 (.i2c) 1 := by decide +kernel
theorem k_898 : Dk c_60 14 (.ireturn) 1 := by decide +kernel
theorem k_899 : Dk c_61 0 (.iload_n 0) 1 := by decide +kernel
theorem k_900 : Dk c_61 1 (.aload_n 1) 1 := by decide +kernel
theorem k_901 : Dk c_61 2 (.invokestatic 48) 3 := by decide +kernel
theorem k_902 : Dk c_61 5 (.invokestatic 414) 3 := by decide +kernel
theorem k_903 : Dk c_61 8 (.return_) 1 := by decide +kernel
theorem k_904 : Dk c_62 0 (.iload_n 1) 1 := by decide +kernel
theorem k_905 : Dk c_62 1 (.aload_n 0) 1 := by decide +kernel
theorem k_906 : Dk c_62 2 (.invokestatic 67) 3 := by decide +kernel
theorem k_907 : Dk c_62 5 (.aload_n 0) 1 := by decide +kernel
theorem k_908 : Dk c_62 6 (.iload_n 1) 1 := by decide +kernel
theorem k_909 : Dk c_62 7 (.invokestatic 71) 3 := by decide +kernel
theorem k_910 : Dk c_62 10 (.ireturn) 1 := by decide +kernel
theorem k_911 : Dk c_63 0 (.aload_n 0) 1 := by decide +kernel
theorem k_912 : Dk c_63 1 (.invokevirtual 492) 3 := by decide +kernel
theorem k_913 : Dk c_63 4 (.ifCond .eq 12) 3 := by decide +kernel
theorem k_914 : Dk c_63 7 (.aload_n 0) 1 := by decide +kernel
theorem k_915 : Dk c_63 8 (.getfield 9) 3 := by decide +kernel
theorem k_916 : Dk c_63 11 (.iload_n 1) 1 := by decide +kernel
theorem k_917 : Dk c_63 12 (.invokestatic 495) 3 := by decide +kernel
theorem k_918 : Dk c_63 15 (.ireturn) 1 := by decide +kernel
theorem k_919 : Dk c_63 16 (.aload_n 0) 1 := by decide +kernel
theorem k_920 : Dk c_63 17 (.getfield 9) 3 := by decide +kernel
theorem k_921 : Dk c_63 20 (.iload_n 1) 1 := by decide +kernel
theorem k_922 : Dk c_63 21 (.invokestatic 498) 3 := by decide +kernel
theorem k_923 : Dk c_63 24 (.ireturn) 1 := by decide +kernel
theorem k_924 : Dk c_64 0 (.iload_n 0) 1 := by decide +kernel
theorem k_925 : Dk c_64 1 (.ldc 75) 2 := by decide +kernel
theorem k_926 : Dk c_64 3 (.if_icmp .lt 13) 3 := by decide +kernel
theorem k_927 : Dk c_64 16 (.iconst 0) 1 := by decide +kernel
theorem k_928 : Dk c_64 17 (.ireturn) 1 := by decide +kernel
theorem k_929 : Dk c_64 6 (.iload_n 0) 1 := by decide +kernel
theorem k_930 : Dk c_64 7 (.ldc 76) 2 := by decide +kernel
theorem k_931 : Dk c_64 9 (.if_icmp .ge 7) 3 := by decide +kernel
theorem k_932 : Dk c_64 12 (.iconst 1) 1 := by decide +kernel
theorem k_933 : Dk c_64 13 (.goto 4) 3 := by decide +kernel
theorem k_934 : Dk c_65 0 (.iload_n 0) 1 := by decide +kernel
theorem k_935 : Dk c_65 1 (.ldc 76) 2 := by decide +kernel
theorem k_936 : Dk c_65 3 (.if_icmp .lt 13) 3 := by decide +kernel
theorem k_937 : Dk c_65 16 (.iconst 0) 1 := by decide +kernel
theorem k_938 : Dk c_65 17 (.ireturn) 1 := by decide +kernel
theorem k_939 : Dk c_65 6 (.iload_n 0) 1 := by decide +kernel
theorem k_940 : Dk c_65 7 (.ldc 77) 2 := by decide +kernel
theorem k_941 : Dk c_65 9 (.if_icmp .ge 7) 3 := by decide +kernel
theorem k_942 : Dk c_65 12 (.iconst 1) 1 := by decide +kernel
theorem k_943 : Dk c_65 13 (.goto 4) 3 := by decide +kernel
theorem k_944 : Dk c_66 0 (.getstatic 44) 3 := by decide +kernel
theorem k_945 : Dk c_66 3 (.ifCond .ne 16) 3 := by decide +kernel
theorem k_946 : Dk c_66 19 (.iload_n 2) 1 := by decide +kernel
theorem k_947 : Dk c_66 20 (.iload_n 1) 1 := by decide +kernel
theorem k_948 : Dk c_66 21 (.isub) 1 := by decide +kernel
theorem k_949 : Dk c_66 22 (.istore 4) 2 := by decide +kernel
theorem k_950 : Dk c_66 24 (.iload_n 1) 1 := by decide +kernel
theorem k_951 : Dk c_66 25 (.istore 5) 2 := by decide +kernel
theorem k_952 : Dk c_66 27 (.iload_n 3) 1 := by decide +kernel
theorem k_953 : Dk c_66 28 (.ifCond .eq 16) 3 := by decide +kernel
theorem k_954 : Dk c_66 44 (.iload 5) 2 := by decide +kernel
theorem k_955 : Dk c_66 46 (.iload_n 2) 1 := by decide +kernel
theorem k_956 : Dk c_66 47 (.iconst 1) 1 := by decide +kernel
theorem k_957 : Dk c_66 48 (.isub) 1 := by decide +kernel
theorem k_958 : Dk c_66 49 (.if_icmp .ge 39) 3 := by decide +kernel
theorem k_959 : Dk c_66 52 (.aload_n 0) 1 := by decide +kernel
theorem k_960 : Dk c_66 53 (.iload 5) 2 := by decide +kernel
theorem k_961 : Dk c_66 55 (.iinc 5 1) 3 := by decide +kernel
theorem k_962 : Dk c_66 58 (.invokestatic 71) 3 := by decide +kernel
theorem k_963 : Dk c_66 61 (.invokestatic 75) 3 := by decide +kernel
theorem k_964 : Dk c_66 64 (.ifCond .eq (-20)) 3 := by decide +kernel
theorem k_965 : Dk c_66 88 (.iload 4) 2 := by decide +kernel
theorem k_966 : Dk c_66 90 (.ireturn) 1 := by decide +kernel
theorem k_967 : Dk c_66 67 (.aload_n 0) 1 := by decide +kernel
theorem k_968 : Dk c_66 68 (.iload 5) 2 := by decide +kernel
theorem k_969 : Dk c_66 70 (.invokestatic 71) 3 := by decide +kernel
theorem k_970 : Dk c_66 73 (.invokestatic 81) 3 := by decide +kernel
theorem k_971 : Dk c_66 76 (.ifCond .eq (-32)) 3 := by decide +kernel
theorem k_972 : Dk c_66 79 (.iinc 4 (-1)) 3 := by decide +kernel
theorem k_973 : Dk c_66 82 (.iinc 5 1) 3 := by decide +kernel
theorem k_974 : Dk c_66 85 (.goto (-41)) 3 := by decide +kernel
theorem k_975 : Dk c_67 0 (.aload_n 0) 1 := by decide +kernel
theorem k_976 : Dk c_67 1 (.iload_n 1) 1 := by decide +kernel
theorem k_977 : Dk c_67 2 (.iload_n 2) 1 := by decide +kernel
theorem k_978 : Dk c_67 3 (.iconst 0) 1 := by decide +kernel
theorem k_979 : Dk c_67 4 (.invokestatic 100) 3 := by decide +kernel
theorem k_980 : Dk c_67 7 (.ireturn) 1 := by decide +kernel
theorem k_981 : Dk c_68 0 (.iload_n 1) 1 := by decide +kernel
theorem k_982 : Dk c_68 1 (.iload_n 2) 1 := by decide +kernel
theorem k_983 : Dk c_68 2 (.aload_n 0) 1 := by decide +kernel
theorem k_984 : Dk c_68 3 (.invokevirtual 505) 3 := by decide +kernel
theorem k_985 : Dk c_68 6 (.invokestatic 511) 3 := by decide +kernel
theorem k_986 : Dk c_68 9 (.pop) 1 := by decide +kernel
theorem k_987 : Dk c_68 10 (.aload_n 0) 1 := by decide +kernel
theorem k_988 : Dk c_68 11 (.invokevirtual 492) 3 := by decide +kernel
theorem k_989 : Dk c_68 14 (.ifCond .eq 7) 3 := by decide +kernel
theorem k_990 : Dk c_68 17 (.iload_n 2) 1 := by decide +kernel
theorem k_991 : Dk c_68 18 (.iload_n 1) 1 := by decide +kernel
theorem k_992 : Dk c_68 19 (.isub) 1 := by decide +kernel
theorem k_993 : Dk c_68 20 (.ireturn) 1 := by decide +kernel
theorem k_994 : Dk c_68 21 (.aload_n 0) 1 := by decide +kernel
theorem k_995 : Dk c_68 22 (.getfield 9) 3 := by decide +kernel
theorem k_996 : Dk c_68 25 (.iload_n 1) 1 := by decide +kernel
theorem k_997 : Dk c_68 26 (.iload_n 2) 1 := by decide +kernel
theorem k_998 : Dk c_68 27 (.invokestatic 514) 3 := by decide +kernel
theorem k_999 : Dk c_68 30 (.ireturn) 1 := by decide +kernel
theorem k_1000 : Dk c_69 0 (.aload_n 0) 1 := by decide +kernel
theorem k_1001 : Dk c_69 1 (.arraylength) 1 := by decide +kernel
theorem k_1002 : Dk c_69 2 (.aload_n 1) 1 := by decide +kernel
theorem k_1003 : Dk c_69 3 (.arraylength) 1 := by decide +kernel
theorem k_1004 : Dk c_69 4 (.if_icmp .ne 30) 3 := by decide +kernel
theorem k_1005 : Dk c_69 7 (.iconst 0) 1 := by decide +kernel
theorem k_1006 : Dk c_69 8 (.istore_n 2) 1 := by decide +kernel
theorem k_1007 : Dk c_69 9 (.iload_n 2) 1 := by decide +kernel
theorem k_1008 : Dk c_69 10 (.aload_n 0) 1 := by decide +kernel
theorem k_1009 : Dk c_69 11 (.arraylength) 1 := by decide +kernel
theorem k_1010 : Dk c_69 12 (.if_icmp .ge 20) 3 := by decide +kernel
theorem k_1011 : Dk c_69 32 (.iconst 1) 1 := by decide +kernel
theorem k_1012 : Dk c_69 33 (.ireturn) 1 := by decide +kernel
theorem k_1013 : Dk c_69 15 (.aload_n 0) 1 := by decide +kernel
theorem k_1014 : Dk c_69 16 (.iload_n 2) 1 := by decide +kernel
theorem k_1015 : Dk c_69 17 (.baload) 1 := by decide +kernel
theorem k_1016 : Dk c_69 18 (.aload_n 1) 1 := by decide +kernel
theorem k_1017 : Dk c_69 19 (.iload_n 2) 1 := by decide +kernel
theorem k_1018 : Dk c_69 20 (.baload) 1 := by decide +kernel
theorem k_1019 : Dk c_69 21 (.if_icmp .eq 5) 3 := by decide +kernel
theorem k_1020 : Dk c_69 26 (.iinc 2 1) 3 := by decide +kernel
theorem k_1021 : Dk c_69 29 (.goto (-20)) 3 := by decide +kernel
theorem k_1022 : Dk c_70 0 (.aload_n 0) 1 := by decide +kernel
theorem k_1023 : Dk c_70 1 (.aload_n 1) 1 := by decide +kernel
theorem k_1024 : Dk c_70 2 (.if_acmp .ne 5) 3 := by decide +kernel
theorem k_1025 : Dk c_70 5 (.iconst 1) 1 := by decide +kernel
theorem k_1026 : Dk c_70 6 (.ireturn) 1 := by decide +kernel
theorem k_1027 : Dk c_70 7 (.aload_n 1) 1 := by decide +kernel
theorem k_1028 : Dk c_70 8 (.instanceof 10) 3 := by decide +kernel
theorem k_1029 : Dk c_70 11 (.ifCond .eq 43) 3 := by decide +kernel
theorem k_1030 : Dk c_70 14 (.aload_n 1) 1 := by decide +kernel
theorem k_1031 : Dk c_70 15 (.checkcast 10) 3 := by decide +kernel
theorem k_1032 : Dk c_70 18 (.astore_n 2) 1 := by decide +kernel
theorem k_1033 : Dk c_70 19 (.getstatic 38) 3 := by decide +kernel
theorem k_1034 : Dk c_70 22 (.ifCond .eq 14) 3 := by decide +kernel
theorem k_1035 : Dk c_70 25 (.aload_n 0) 1 := by decide +kernel
theorem k_1036 : Dk c_70 26 (.getfield 15) 3 := by decide +kernel
theorem k_1037 : Dk c_70 29 (.aload_n 2) 1 := by decide +kernel
theorem k_1038 : Dk c_70 30 (.getfield 15) 3 := by decide +kernel
theorem k_1039 : Dk c_70 33 (.if_icmp .ne 21) 3 := by decide +kernel
theorem k_1040 : Dk c_70 36 (.aload_n 0) 1 := by decide +kernel
theorem k_1041 : Dk c_70 37 (.getfield 9) 3 := by decide +kernel
theorem k_1042 : Dk c_70 40 (.aload_n 2) 1 := by decide +kernel
theorem k_1043 : Dk c_70 41 (.getfield 9) 3 := by decide +kernel
theorem k_1044 : Dk c_70 44 (.invokestatic 541) 3 := by decide +kernel
theorem k_1045 : Dk c_70 47 (.ifCond .eq 7) 3 := by decide +kernel
theorem k_1046 : Dk c_70 50 (.iconst 1) 1 := by decide +kernel
theorem k_1047 : Dk c_70 51 (.goto 4) 3 := by decide +kernel
theorem k_1048 : Dk c_70 55 (.ireturn) 1 := by decide +kernel
theorem k_1049 : Dk c_71 0 (.aload_n 0) 1 := by decide +kernel
theorem k_1050 : Dk c_71 1 (.new 1) 3 := by decide +kernel
theorem k_1051 : Dk c_71 4 (.dup) 1 := by decide +kernel
theorem k_1052 : Dk c_71 5 (.invokespecial 3) 3 := by decide +kernel
theorem k_1053 : Dk c_71 8 (.ldc 7) 2 := by decide +kernel
theorem k_1054 : Dk c_71 10 (.invokevirtual 9) 3 := by decide +kernel
theorem k_1055 : Dk c_71 13 (.aload_n 1) 1 := by decide +kernel
theorem k_1056 : Dk c_71 14 (.invokevirtual 9) 3 := by decide +kernel
theorem k_1057 : Dk c_71 17 (.ldc 13) 2 := by decide +kernel
theorem k_1058 : Dk c_71 19 (.invokevirtual 9) 3 := by decide +kernel
theorem k_1059 : Dk c_71 22 (.aload_n 2) 1 := by decide +kernel
theorem k_1060 : Dk c_71 23 (.iconst 0) 1 := by decide +kernel
theorem k_1061 : Dk c_71 24 (.aload_n 2) 1 := by decide +kernel
theorem k_1062 : Dk c_71 25 (.invokevirtual 15) 3 := by decide +kernel
theorem k_1063 : Dk c_71 28 (.invokevirtual 21) 3 := by decide +kernel
theorem k_1064 : Dk c_71 31 (.invokevirtual 25) 3 := by decide +kernel
theorem k_1065 : Dk c_71 34 (.ldc 28) 2 := by decide +kernel
theorem k_1066 : Dk c_71 36 (.invokevirtual 9) 3 := by decide +kernel
theorem k_1067 : Dk c_71 39 (.aload_n 3) 1 := by decide +kernel
theorem k_1068 : Dk c_71 40 (.invokevirtual 9) 3 := by decide +kernel
theorem k_1069 : Dk c_71 43 (.invokevirtual 30) 3 := by decide +kernel
theorem k_1070 : Dk c_71 46 (.invokespecial 34) 3 := by decide +kernel
theorem k_1071 : Dk c_71 49 (.return_) 1 := by decide +kernel
theorem k_1072 : Dk c_72 0 (.new 39) 3 := by decide +kernel
theorem k_1073 : Dk c_72 3 (.dup) 1 := by decide +kernel
theorem k_1074 : Dk c_72 4 (.aload_n 0) 1 := by decide +kernel
theorem k_1075 : Dk c_72 5 (.aload_n 1) 1 := by decide +kernel
theorem k_1076 : Dk c_72 6 (.new 1) 3 := by decide +kernel
theorem k_1077 : Dk c_72 9 (.dup) 1 := by decide +kernel
theorem k_1078 : Dk c_72 10 (.invokespecial 3) 3 := by decide +kernel
theorem k_1079 : Dk c_72 13 (.iload_n 2) 1 := by decide +kernel
theorem k_1080 : Dk c_72 14 (.i2l) 1 := by decide +kernel
theorem k_1081 : Dk c_72 15 (.ldc2_w 43) 3 := by decide +kernel
theorem k_1082 : Dk c_72 18 (.lmul) 1 := by decide +kernel
theorem k_1083 : Dk c_72 19 (.bipush 20) 2 := by decide +kernel
theorem k_1084 : Dk c_72 21 (.lshr) 1 := by decide +kernel
theorem k_1085 : Dk c_72 22 (.invokevirtual 45) 3 := by decide +kernel
theorem k_1086 : Dk c_72 25 (.ldc 48) 2 := by decide +kernel
theorem k_1087 : Dk c_72 27 (.invokevirtual 9) 3 := by decide +kernel
theorem k_1088 : Dk c_72 30 (.invokevirtual 30) 3 := by decide +kernel
theorem k_1089 : Dk c_72 33 (.invokespecial 50) 3 := by decide +kernel
theorem k_1090 : Dk c_72 36 (.areturn) 1 := by decide +kernel
theorem k_1091 : Dk c_73 0 (.aload_n 0) 1 := by decide +kernel
theorem k_1092 : Dk c_73 1 (.getfield 31) 3 := by decide +kernel
theorem k_1093 : Dk c_73 4 (.areturn) 1 := by decide +kernel
theorem k_1094 : Dk c_74 0 (.iload_n 0) 1 := by decide +kernel
theorem k_1095 : Dk c_74 1 (.ifCond .ge 7) 3 := by decide +kernel
theorem k_1096 : Dk c_74 4 (.iconst 1) 1 := by decide +kernel
theorem k_1097 : Dk c_74 5 (.goto 4) 3 := by decide +kernel
theorem k_1098 : Dk c_74 9 (.istore_n 3) 1 := by decide +kernel
theorem k_1099 : Dk c_74 10 (.iload_n 3) 1 := by decide +kernel
theorem k_1100 : Dk c_74 11 (.ifCond .eq 8) 3 := by decide +kernel
theorem k_1101 : Dk c_74 14 (.iload_n 0) 1 := by decide +kernel
theorem k_1102 : Dk c_74 15 (.ineg) 1 := by decide +kernel
theorem k_1103 : Dk c_74 16 (.goto 4) 3 := by decide +kernel
theorem k_1104 : Dk c_74 20 (.istore 4) 2 := by decide +kernel
theorem k_1105 : Dk c_74 22 (.iload_n 3) 1 := by decide +kernel
theorem k_1106 : Dk c_74 23 (.ifCond .eq 10) 3 := by decide +kernel
theorem k_1107 : Dk c_74 26 (.iload_n 2) 1 := by decide +kernel
theorem k_1108 : Dk c_74 27 (.ifCond .ne 6) 3 := by decide +kernel
theorem k_1109 : Dk c_74 30 (.bipush 45) 2 := by decide +kernel
theorem k_1110 : Dk c_74 32 (.ireturn) 1 := by decide +kernel
theorem k_1111 : Dk c_74 33 (.iload_n 1) 1 := by decide +kernel
theorem k_1112 : Dk c_74 34 (.iconst 1) 1 := by decide +kernel
theorem k_1113 : Dk c_74 35 (.isub) 1 := by decide +kernel
theorem k_1114 : Dk c_74 36 (.iload_n 2) 1 := by decide +kernel
theorem k_1115 : Dk c_74 37 (.isub) 1 := by decide +kernel
theorem k_1116 : Dk c_74 38 (.istore 5) 2 := by decide +kernel
theorem k_1117 : Dk c_74 40 (.iload 5) 2 := by decide +kernel
theorem k_1118 : Dk c_74 42 (.ifCond .ne 7) 3 := by decide +kernel
theorem k_1119 : Dk c_74 45 (.iconst 1) 1 := by decide +kernel
theorem k_1120 : Dk c_74 46 (.goto 28) 3 := by decide +kernel
theorem k_1121 : Dk c_74 49 (.iload 5) 2 := by decide +kernel
theorem k_1122 : Dk c_74 51 (.iconst 1) 1 := by decide +kernel
theorem k_1123 : Dk c_74 52 (.if_icmp .ne 8) 3 := by decide +kernel
theorem k_1124 : Dk c_74 55 (.bipush 10) 2 := by decide +kernel
theorem k_1125 : Dk c_74 57 (.goto 17) 3 := by decide +kernel
theorem k_1126 : Dk c_74 60 (.iload 5) 2 := by decide +kernel
theorem k_1127 : Dk c_74 62 (.iconst 2) 1 := by decide +kernel
theorem k_1128 : Dk c_74 63 (.if_icmp .ne 8) 3 := by decide +kernel
theorem k_1129 : Dk c_74 66 (.bipush 100) 2 := by decide +kernel
theorem k_1130 : Dk c_74 68 (.goto 6) 3 := by decide +kernel
theorem k_1131 : Dk c_74 71 (.sipush 1000) 3 := by decide +kernel
theorem k_1132 : Dk c_74 74 (.istore 6) 2 := by decide +kernel
theorem k_1133 : Dk c_74 76 (.bipush 48) 2 := by decide +kernel
theorem k_1134 : Dk c_74 78 (.iload 4) 2 := by decide +kernel
theorem k_1135 : Dk c_74 80 (.iload 6) 2 := by decide +kernel
theorem k_1136 : Dk c_74 82 (.idiv) 1 := by decide +kernel
theorem k_1137 : Dk c_74 83 (.bipush 10) 2 := by decide +kernel
theorem k_1138 : Dk c_74 85 (.irem) 1 := by decide +kernel
theorem k_1139 : Dk c_74 86 (.iadd) 1 := by decide +kernel
theorem k_1140 : Dk c_74 87 (.i2c) 1 := by decide +kernel
theorem k_1141 : Dk c_74 88 (.ireturn) 1 := by decide +kernel
theorem k_1142 : Dk c_74 8 (.iconst 0) 1 := by decide +kernel
theorem k_1143 : Dk c_74 19 (.iload_n 0) 1 := by decide +kernel
theorem k_1144 : Dk c_75 0 (.iload_n 3) 1 := by decide +kernel
theorem k_1145 : Dk c_75 1 (.iload_n 2) 1 := by decide +kernel
theorem k_1146 : Dk c_75 2 (.if_icmp .lt 5) 3 := by decide +kernel
theorem k_1147 : Dk c_75 7 (.aload_n 0) 1 := by decide +kernel
theorem k_1148 : Dk c_75 8 (.bipush 89) 2 := by decide +kernel
theorem k_1149 : Dk c_75 10 (.iload_n 3) 1 := by decide +kernel
theorem k_1150 : Dk c_75 11 (.iadd) 1 := by decide +kernel
theorem k_1151 : Dk c_75 12 (.invokevirtual 7) 3 := by decide +kernel
theorem k_1152 : Dk c_75 15 (.iload_n 1) 1 := by decide +kernel
theorem k_1153 : Dk c_75 16 (.iload_n 2) 1 := by decide +kernel
theorem k_1154 : Dk c_75 17 (.iload_n 3) 1 := by decide +kernel
theorem k_1155 : Dk c_75 18 (.invokestatic 13) 3 := by decide +kernel
theorem k_1156 : Dk c_75 21 (.if_icmp .ne 7) 3 := by decide +kernel
theorem k_1157 : Dk c_75 24 (.iconst 1) 1 := by decide +kernel
theorem k_1158 : Dk c_75 25 (.goto 4) 3 := by decide +kernel
theorem k_1159 : Dk c_75 29 (.ireturn) 1 := by decide +kernel
theorem k_1160 : Dk c_75 5 (.iconst 1) 1 := by decide +kernel
theorem k_1161 : Dk c_75 6 (.ireturn) 1 := by decide +kernel
section Bodies
set_option maxRecDepth 65536
set_option maxHeartbeats 40000000
variable (l : Launch) (Z : State) (a0 : Array Value)
theorem rm_cod0 (hw : Hw a0 Z) (a1 : Addr) (G1 : Int32) (h0 : Heap) (n0 : Nat) (O0 : Old Z n0 h0) (F1 : Fld Z h0 a1 s2_ "coder" "B" (.int 0)) (SC : Sta Z Z.heap s2_ s6_ "Z" (.int G1)) (hG : ¬ G1 = (0 : Int32)) : Met l Z y_1 c_1 1 (some .byte) (Rm 0 0 0 0) #[(.ref a1)] h0 (fun v h L => v = some (.int 0) ∧ Fr n0 L ∧ h = h0) := by
  refine own_met (own := s2_) (G := fun m => (mkF m 0 #[vr a1] [])) rfl n_1 ?_
  intro p e s m below meth c s₁ E0 P hP K hnm hret hlk hh X0 eH pre0
  obtain ⟨hx, hZ, hown, hby, hml⟩ := id K
  obtain ⟨T51, X51, e51, pre_51⟩ := gS pre0 K X0 eH (oW hw 91 rfl) (SC.ext O0.2) k_1 rfl
  have pre_52 := fun t k => pre_51 t <| XS.ifNo X51.here hx rfl (hb hby k_2) rfl (XT.i0_eq_f hG) <| oA K X51 k_3 rfl rfl rfl <| k
  obtain ⟨T53, X53, e53, pre_53⟩ := gF pre_52 K X51 e51 (oW hw 92 rfl) Via.refl F1 k_4 rfl rfl
  have pre_54 := fun t k => pre_53 t <| XS.goto X53.here hx rfl (pc0 := 10) (pc' := 14) rfl (hb hby k_5) (by decide) (by decide) <| k
  have pre_55 : Pr p e below E0 T53 (mkF m 14 #[vr a1] [(.int 0)]) := pre_54
  exact rtN pre_55 K X53 e53 hret hlk k_6 (by decide) (by simp) (hP _ _ _ ⟨rfl, (Fr.nil n0), rfl⟩)
theorem rm_sl0 (hw : Hw a0 Z) (a1 : Addr) (G1 : Int32) (h0 : Heap) (n0 : Nat) (O0 : Old Z n0 h0) (F1 : Fld Z h0 a1 s2_ "coder" "B" (.int 0)) (SC : Sta Z Z.heap s2_ s6_ "Z" (.int G1)) (hG : ¬ G1 = (0 : Int32)) : Met l Z y_2 c_2 1 (some .boolean) (Rm 0 0 0 0) #[(.ref a1)] h0 (fun v h L => v = some (.int 1) ∧ Fr n0 L ∧ h = h0) := by
  refine own_met (own := s2_) (G := fun m => (mkF m 0 #[vr a1] [])) rfl n_2 ?_
  intro p e s m below meth c s₁ E0 P hP K hnm hret hlk hh X0 eH pre0
  obtain ⟨hx, hZ, hown, hby, hml⟩ := id K
  obtain ⟨T51, X51, e51, pre_51⟩ := gS pre0 K X0 eH (oW hw 91 rfl) (SC.ext O0.2) k_7 rfl
  have pre_52 := fun t k => pre_51 t <| XS.ifNo X51.here hx rfl (hb hby k_8) rfl (XT.i0_eq_f hG) <| oA K X51 k_9 rfl rfl rfl <| k
  obtain ⟨T53, X53, e53, pre_53⟩ := gF pre_52 K X51 e51 (oW hw 92 rfl) Via.refl F1 k_10 rfl rfl
  have pre_54 := fun t k => pre_53 t <| XS.ifNo X53.here hx rfl (hb hby k_11) rfl (XT.i0_ne_f (by decide)) <| XS.iconst X53.here hx rfl (hb hby k_12) <| XS.goto X53.here hx rfl (pc0 := 14) (pc' := 18) rfl (hb hby k_13) (by decide) (by decide) <| k
  have pre_55 : Pr p e below E0 T53 (mkF m 18 #[vr a1] [(.int 1)]) := pre_54
  exact rtN pre_55 K X53 e53 hret hlk k_14 (by decide) (by simp) (hP _ _ _ ⟨rfl, (Fr.nil n0), rfl⟩)
theorem rm_bl0 (hw : Hw a0 Z) (a1 : Addr) (G1 : Int32) (h0 : Heap) (n0 : Nat) (O0 : Old Z n0 h0) (F1 : Fld Z h0 a1 s1_ "coder" "B" (.int 0)) (SC : Sta Z Z.heap s2_ s6_ "Z" (.int G1)) (hG : ¬ G1 = (0 : Int32)) : Met l Z y_3 c_3 1 (some .boolean) (Rm 0 0 0 0) #[(.ref a1)] h0 (fun v h L => v = some (.int 1) ∧ Fr n0 L ∧ h = h0) := by
  refine own_met (own := s1_) (G := fun m => (mkF m 0 #[vr a1] [])) rfl n_3 ?_
  intro p e s m below meth c s₁ E0 P hP K hnm hret hlk hh X0 eH pre0
  obtain ⟨hx, hZ, hown, hby, hml⟩ := id K
  obtain ⟨T51, X51, e51, pre_51⟩ := gS pre0 K X0 eH (oW hw 31 rfl) (SC.ext O0.2) k_15 rfl
  have pre_52 := fun t k => pre_51 t <| XS.ifNo X51.here hx rfl (hb hby k_16) rfl (XT.i0_eq_f hG) <| oA K X51 k_17 rfl rfl rfl <| k
  obtain ⟨T53, X53, e53, pre_53⟩ := gF pre_52 K X51 e51 (oW hw 34 rfl) Via.refl F1 k_18 rfl rfl
  have pre_54 := fun t k => pre_53 t <| XS.ifNo X53.here hx rfl (hb hby k_19) rfl (XT.i0_ne_f (by decide)) <| XS.iconst X53.here hx rfl (hb hby k_20) <| XS.goto X53.here hx rfl (pc0 := 14) (pc' := 18) rfl (hb hby k_21) (by decide) (by decide) <| k
  have pre_55 : Pr p e below E0 T53 (mkF m 18 #[vr a1] [(.int 1)]) := pre_54
  exact rtN pre_55 K X53 e53 hret hlk k_22 (by decide) (by simp) (hP _ _ _ ⟨rfl, (Fr.nil n0), rfl⟩)
theorem rm_len0 (hw : Hw a0 Z) (a1 : Addr) (G1 n1 m1 : Int32) (b1 : Addr) (kB : ClassId) (ls : List Value) (h0 : Heap) (n0 : Nat) (O0 : Old Z n0 h0) (E1 : Exa Z h0 a1 s2_) (F1 : Fld Z h0 a1 s2_ "coder" "B" (.int 0)) (F2 : Fld Z h0 a1 s2_ "value" "[B" (.ref b1)) (V1 : Arv Z h0 b1 kB .byte n1 ls (.int 0)) (hm : (n1 >>> ((0 : Int32) &&& 31)) = m1) (SC : Sta Z Z.heap s2_ s6_ "Z" (.int G1)) (hG : ¬ G1 = (0 : Int32)) : Met l Z y_4 c_4 1 (some .int) (Rm 1 0 0 13) #[(.ref a1)] h0 (fun v h L => v = some (.int m1) ∧ Fr n0 L ∧ h = h0) := by
  refine own_met (own := s2_) (G := fun m => (mkF m 0 #[vr a1] [])) rfl n_4 ?_
  intro p e s m below meth c s₁ E0 P hP K hnm hret hlk hh X0 eH pre0
  obtain ⟨hx, hZ, hown, hby, hml⟩ := id K
  have pre_51 := fun t k => pre0 t <| oA K X0 k_23 rfl rfl rfl <| k
  obtain ⟨T52, X52, e52, pre_52⟩ := gF pre_51 K X0 eH (oW hw 85 rfl) Via.refl F2 k_24 rfl rfl
  have pre_53 := fun t k => pre_52 t <| oAl K X52 e52 V1 k_25 rfl rfl <| oA K X52 k_26 rfl rfl rfl <| k
  obtain ⟨T54, _, L54, X54, ⟨rfl, N54q, e54⟩, pre_54⟩ := cV pre_53 K X52 e52 (rm_cod0 l Z a0 hw a1 G1 h0 n0 O0 F1 SC hG) (oW hw 86 rfl) (oW hw 88 rfl) (oW hw 1 rfl) (oW hw 90 rfl) (oW hw 87 rfl) (oW hw 89 rfl) (notFace_of_selects (args := #[]) (mvT hZ (oW hw 89 rfl))) E1 rfl (lenOf d_1 rfl) k_27 rfl rfl rfl (W := 1) (Nat.le_of_eq rfl) (by decide)
  have N54 := Fr.app (Fr.nil n0) N54q
  have pre_55 := fun t k => pre_54 t <| XT.ishr X54.here hx rfl (hb hby k_28) rfl <| k
  have pre_56 : Pr p e below E0 T54 (mkF m 10 #[vr a1] [(.int (n1 >>> ((0 : Int32) &&& 31)))]) := pre_55
  exact rtI pre_56 K X54 e54 hret hlk k_29 (by decide) (hP _ _ _ ⟨by rw [hm], N54, rfl⟩)
theorem rm_cod1 (hw : Hw a0 Z) (a1 : Addr) (G1 : Int32) (h0 : Heap) (n0 : Nat) (O0 : Old Z n0 h0) (F1 : Fld Z h0 a1 s2_ "coder" "B" (.int 1)) (SC : Sta Z Z.heap s2_ s6_ "Z" (.int G1)) (hG : ¬ G1 = (0 : Int32)) : Met l Z y_1 c_1 1 (some .byte) (Rm 0 0 0 0) #[(.ref a1)] h0 (fun v h L => v = some (.int 1) ∧ Fr n0 L ∧ h = h0) := by
  refine own_met (own := s2_) (G := fun m => (mkF m 0 #[vr a1] [])) rfl n_1 ?_
  intro p e s m below meth c s₁ E0 P hP K hnm hret hlk hh X0 eH pre0
  obtain ⟨hx, hZ, hown, hby, hml⟩ := id K
  obtain ⟨T51, X51, e51, pre_51⟩ := gS pre0 K X0 eH (oW hw 91 rfl) (SC.ext O0.2) k_1 rfl
  have pre_52 := fun t k => pre_51 t <| XS.ifNo X51.here hx rfl (hb hby k_2) rfl (XT.i0_eq_f hG) <| oA K X51 k_3 rfl rfl rfl <| k
  obtain ⟨T53, X53, e53, pre_53⟩ := gF pre_52 K X51 e51 (oW hw 92 rfl) Via.refl F1 k_4 rfl rfl
  have pre_54 := fun t k => pre_53 t <| XS.goto X53.here hx rfl (pc0 := 10) (pc' := 14) rfl (hb hby k_5) (by decide) (by decide) <| k
  have pre_55 : Pr p e below E0 T53 (mkF m 14 #[vr a1] [(.int 1)]) := pre_54
  exact rtN pre_55 K X53 e53 hret hlk k_6 (by decide) (by simp) (hP _ _ _ ⟨rfl, (Fr.nil n0), rfl⟩)
theorem rm_sl1 (hw : Hw a0 Z) (a1 : Addr) (G1 : Int32) (h0 : Heap) (n0 : Nat) (O0 : Old Z n0 h0) (F1 : Fld Z h0 a1 s2_ "coder" "B" (.int 1)) (SC : Sta Z Z.heap s2_ s6_ "Z" (.int G1)) (hG : ¬ G1 = (0 : Int32)) : Met l Z y_2 c_2 1 (some .boolean) (Rm 0 0 0 0) #[(.ref a1)] h0 (fun v h L => v = some (.int 0) ∧ Fr n0 L ∧ h = h0) := by
  refine own_met (own := s2_) (G := fun m => (mkF m 0 #[vr a1] [])) rfl n_2 ?_
  intro p e s m below meth c s₁ E0 P hP K hnm hret hlk hh X0 eH pre0
  obtain ⟨hx, hZ, hown, hby, hml⟩ := id K
  obtain ⟨T51, X51, e51, pre_51⟩ := gS pre0 K X0 eH (oW hw 91 rfl) (SC.ext O0.2) k_7 rfl
  have pre_52 := fun t k => pre_51 t <| XS.ifNo X51.here hx rfl (hb hby k_8) rfl (XT.i0_eq_f hG) <| oA K X51 k_9 rfl rfl rfl <| k
  obtain ⟨T53, X53, e53, pre_53⟩ := gF pre_52 K X51 e51 (oW hw 92 rfl) Via.refl F1 k_10 rfl rfl
  have pre_54 := fun t k => pre_53 t <| XS.ifYes X53.here hx rfl (pc0 := 10) (pc' := 17) rfl (hb hby k_11) rfl (XT.i0_ne_t (by decide)) (by decide) (by decide) <| XS.iconst X53.here hx rfl (hb hby k_30) <| k
  have pre_55 : Pr p e below E0 T53 (mkF m 18 #[vr a1] [(.int 0)]) := pre_54
  exact rtN pre_55 K X53 e53 hret hlk k_14 (by decide) (by simp) (hP _ _ _ ⟨rfl, (Fr.nil n0), rfl⟩)
theorem rm_bl1 (hw : Hw a0 Z) (a1 : Addr) (G1 : Int32) (h0 : Heap) (n0 : Nat) (O0 : Old Z n0 h0) (F1 : Fld Z h0 a1 s1_ "coder" "B" (.int 1)) (SC : Sta Z Z.heap s2_ s6_ "Z" (.int G1)) (hG : ¬ G1 = (0 : Int32)) : Met l Z y_3 c_3 1 (some .boolean) (Rm 0 0 0 0) #[(.ref a1)] h0 (fun v h L => v = some (.int 0) ∧ Fr n0 L ∧ h = h0) := by
  refine own_met (own := s1_) (G := fun m => (mkF m 0 #[vr a1] [])) rfl n_3 ?_
  intro p e s m below meth c s₁ E0 P hP K hnm hret hlk hh X0 eH pre0
  obtain ⟨hx, hZ, hown, hby, hml⟩ := id K
  obtain ⟨T51, X51, e51, pre_51⟩ := gS pre0 K X0 eH (oW hw 31 rfl) (SC.ext O0.2) k_15 rfl
  have pre_52 := fun t k => pre_51 t <| XS.ifNo X51.here hx rfl (hb hby k_16) rfl (XT.i0_eq_f hG) <| oA K X51 k_17 rfl rfl rfl <| k
  obtain ⟨T53, X53, e53, pre_53⟩ := gF pre_52 K X51 e51 (oW hw 34 rfl) Via.refl F1 k_18 rfl rfl
  have pre_54 := fun t k => pre_53 t <| XS.ifYes X53.here hx rfl (pc0 := 10) (pc' := 17) rfl (hb hby k_19) rfl (XT.i0_ne_t (by decide)) (by decide) (by decide) <| XS.iconst X53.here hx rfl (hb hby k_31) <| k
  have pre_55 : Pr p e below E0 T53 (mkF m 18 #[vr a1] [(.int 0)]) := pre_54
  exact rtN pre_55 K X53 e53 hret hlk k_22 (by decide) (by simp) (hP _ _ _ ⟨rfl, (Fr.nil n0), rfl⟩)
theorem rm_len1 (hw : Hw a0 Z) (a1 : Addr) (G1 n1 m1 : Int32) (b1 : Addr) (kB : ClassId) (ls : List Value) (h0 : Heap) (n0 : Nat) (O0 : Old Z n0 h0) (E1 : Exa Z h0 a1 s2_) (F1 : Fld Z h0 a1 s2_ "coder" "B" (.int 1)) (F2 : Fld Z h0 a1 s2_ "value" "[B" (.ref b1)) (V1 : Arv Z h0 b1 kB .byte n1 ls (.int 0)) (hm : (n1 >>> ((1 : Int32) &&& 31)) = m1) (SC : Sta Z Z.heap s2_ s6_ "Z" (.int G1)) (hG : ¬ G1 = (0 : Int32)) : Met l Z y_4 c_4 1 (some .int) (Rm 1 0 0 13) #[(.ref a1)] h0 (fun v h L => v = some (.int m1) ∧ Fr n0 L ∧ h = h0) := by
  refine own_met (own := s2_) (G := fun m => (mkF m 0 #[vr a1] [])) rfl n_4 ?_
  intro p e s m below meth c s₁ E0 P hP K hnm hret hlk hh X0 eH pre0
  obtain ⟨hx, hZ, hown, hby, hml⟩ := id K
  have pre_51 := fun t k => pre0 t <| oA K X0 k_23 rfl rfl rfl <| k
  obtain ⟨T52, X52, e52, pre_52⟩ := gF pre_51 K X0 eH (oW hw 85 rfl) Via.refl F2 k_24 rfl rfl
  have pre_53 := fun t k => pre_52 t <| oAl K X52 e52 V1 k_25 rfl rfl <| oA K X52 k_26 rfl rfl rfl <| k
  obtain ⟨T54, _, L54, X54, ⟨rfl, N54q, e54⟩, pre_54⟩ := cV pre_53 K X52 e52 (rm_cod1 l Z a0 hw a1 G1 h0 n0 O0 F1 SC hG) (oW hw 86 rfl) (oW hw 88 rfl) (oW hw 1 rfl) (oW hw 90 rfl) (oW hw 87 rfl) (oW hw 89 rfl) (notFace_of_selects (args := #[]) (mvT hZ (oW hw 89 rfl))) E1 rfl (lenOf d_1 rfl) k_27 rfl rfl rfl (W := 1) (Nat.le_of_eq rfl) (by decide)
  have N54 := Fr.app (Fr.nil n0) N54q
  have pre_55 := fun t k => pre_54 t <| XT.ishr X54.here hx rfl (hb hby k_28) rfl <| k
  have pre_56 : Pr p e below E0 T54 (mkF m 10 #[vr a1] [(.int (n1 >>> ((1 : Int32) &&& 31)))]) := pre_55
  exact rtI pre_56 K X54 e54 hret hlk k_29 (by decide) (hP _ _ _ ⟨by rw [hm], N54, rfl⟩)
theorem rm_max (hw : Hw a0 Z) (p1 : Int32) (p2 : Int32)  (h0 : Heap) (n0 : Nat) (O0 : Old Z n0 h0) (hc : p1 < p2) : Met l Z y_5 c_5 2 (some .int) (Rm 0 0 0 0) #[(.int p1), (.int p2)] h0 (fun v h L => v = some (.int p2) ∧ Fr n0 L ∧ h = h0) := by
  refine own_met (own := "java/lang/Math") (G := fun m => (mkF m 0 #[vi p1, vi p2] [])) rfl n_5 ?_
  intro p e s m below meth c s₁ E0 P hP K hnm hret hlk hh X0 eH pre0
  obtain ⟨hx, hZ, hown, hby, hml⟩ := id K
  have pre_51 := fun t k => pre0 t <| oI K X0 k_32 rfl rfl <| oI K X0 k_33 rfl rfl <| XS.icmpYes X0.here hx rfl (pc0 := 2) (pc' := 9) rfl (hb hby k_34) rfl (XT.ii_lt_t hc) (by decide) (by decide) <| oI K X0 k_35 rfl rfl <| k
  have pre_52 : Pr p e below E0 s₁ (mkF m 10 #[vi p1, vi p2] [(.int p2)]) := pre_51
  exact rtI pre_52 K X0 eH hret hlk k_36 (by decide) (hP _ _ _ ⟨rfl, (Fr.nil n0), rfl⟩)
theorem rm_min (hw : Hw a0 Z) (p1 : Int32) (p2 : Int32)  (h0 : Heap) (n0 : Nat) (O0 : Old Z n0 h0) (hc : ¬ p2 < p1) : Met l Z y_6 c_6 2 (some .int) (Rm 0 0 0 0) #[(.int p1), (.int p2)] h0 (fun v h L => v = some (.int p1) ∧ Fr n0 L ∧ h = h0) := by
  refine own_met (own := "java/lang/Math") (G := fun m => (mkF m 0 #[vi p1, vi p2] [])) rfl n_6 ?_
  intro p e s m below meth c s₁ E0 P hP K hnm hret hlk hh X0 eH pre0
  obtain ⟨hx, hZ, hown, hby, hml⟩ := id K
  have pre_51 := fun t k => pre0 t <| oI K X0 k_37 rfl rfl <| oI K X0 k_38 rfl rfl <| XS.icmpNo X0.here hx rfl (hb hby k_39) rfl (XT.ii_gt_f hc) <| oI K X0 k_40 rfl rfl <| XS.goto X0.here hx rfl (pc0 := 6) (pc' := 10) rfl (hb hby k_41) (by decide) (by decide) <| k
  have pre_52 : Pr p e below E0 s₁ (mkF m 10 #[vi p1, vi p2] [(.int p1)]) := pre_51
  exact rtI pre_52 K X0 eH hret hlk k_42 (by decide) (hP _ _ _ ⟨rfl, (Fr.nil n0), rfl⟩)
theorem rm_nle (hw : Hw a0 Z) (x1 : Int32) (x2 : Int32) (x3 : Int32) (x4 : Int32) (h0 : Heap) (n0 : Nat) (O0 : Old Z n0 h0) (hc : x2 < x3) (hs : (x1 + x3) = x4) (h1 : (0 : Int32) < x4) (h2 : ¬ (2147483639 : Int32) < x4) : Met l Z y_7 c_7 4 (some .int) (Rm 1 0 0 14) #[(.int x1), (.int x2), (.int x3)] h0 (fun v h L => v = some (.int x4) ∧ Fr n0 L ∧ h = h0) := by
  refine own_met (own := "jdk/internal/util/ArraysSupport") (G := fun m => (mkF m 0 #[vi x1, vi x2, vi x3, uz] [])) rfl n_7 ?_
  intro p e s m below meth c s₁ E0 P hP K hnm hret hlk hh X0 eH pre0
  obtain ⟨hx, hZ, hown, hby, hml⟩ := id K
  have pre_51 := fun t k => pre0 t <| oI K X0 k_43 rfl rfl <| oI K X0 k_44 rfl rfl <| oI K X0 k_45 rfl rfl <| k
  obtain ⟨T52, _, L52, X52, ⟨rfl, N52q, e52⟩, pre_52⟩ := cS pre_51 K X0 eH (rm_max l Z a0 hw x2 x3 h0 n0 O0 hc) (oW hw 102 rfl) (oW hw 103 rfl) (oW hw 104 rfl) (oW hw 105 rfl) rfl (lenOf d_2 rfl) k_46 rfl rfl rfl (W := 1) (Nat.le_of_eq rfl) (by decide)
  have N52 := Fr.app (Fr.nil n0) N52q
  have pre_53 := fun t k => pre_52 t <| XS.iadd X52.here hx rfl (hb hby k_47) rfl <| XS.istoreN X52.here hx rfl (hb hby k_48) rfl (l' := #[vi x1, vi x2, vi x3, vi (x1 + x3)]) rfl <| k
  have pre_54 : Pr p e below E0 T52 (mkF m 8 #[vi x1, vi x2, vi x3, vi (x1 + x3)] []) := pre_53
  rw [hs] at pre_54
  have pre_55 := fun t k => pre_54 t <| XS.iconst X52.here hx rfl (hb hby k_49) <| oI K X52 k_50 rfl rfl <| XS.icmpNo X52.here hx rfl (hb hby k_51) rfl (XT.ii_ge_f h1) <| oI K X52 k_52 rfl rfl <| oLi K X52 (oW hw 106 rfl) k_53 rfl <| XS.icmpNo X52.here hx rfl (hb hby k_54) rfl (XT.ii_gt_f h2) <| oI K X52 k_55 rfl rfl <| k
  have pre_56 : Pr p e below E0 T52 (mkF m 20 #[vi x1, vi x2, vi x3, vi x4] [(.int x4)]) := pre_55
  exact rtI pre_56 K X52 e52 hret hlk k_56 (by decide) (hP _ _ _ ⟨rfl, N52, rfl⟩)
theorem rm_cof (hw : Hw a0 Z) (a1 : Addr) (z2 : Int32) (z1 : Int32) (kB : ClassId) (ls : List Value) (h0 : Heap) (n0 : Nat) (O0 : Old Z n0 h0) (V1 : Arv Z h0 a1 kB .byte z1 ls (.int 0)) (hne : ¬ z2 = z1) (hle : ¬ z2 < z1) (hz : ¬ z2 < 0) (hz1 : ¬ z1 < 0) (hz2 : z2.toNatClampNeg ≤ 284) (hz3 : z1.toNatClampNeg ≤ z2.toNatClampNeg) (hl : ls.length ≤ z1.toNatClampNeg) : Met l Z y_8 c_8 3 (some (.array .byte)) (Rm 1 1 284 30) #[(.ref a1), (.int z2)] h0 (fun v h L => ∃ b kN, v = some (.ref b) ∧ Fr n0 L ∧ Keep h0 h [] ∧ h0.size ≤ b ∧ Arv Z h b kN .byte z2 ls (.int 0)) := by
  refine own_met (own := "java/util/Arrays") (G := fun m => (mkF m 0 #[vr a1, vi z2, uz] [])) rfl n_8 ?_
  intro p e s m below meth c s₁ E0 P hP K hnm hret hlk hh X0 eH pre0
  obtain ⟨hx, hZ, hown, hby, hml⟩ := id K
  have pre_51 := fun t k => pre0 t <| oI K X0 k_57 rfl rfl <| oA K X0 k_58 rfl rfl rfl <| oAl K X0 eH V1 k_59 rfl rfl <| XS.icmpYes X0.here hx rfl (pc0 := 3) (pc' := 14) rfl (hb hby k_60) rfl (XT.ii_ne_t hne) (by decide) (by decide) <| oI K X0 k_61 rfl rfl <| k
  obtain ⟨T52, h52, cA52, X52, e52, E52, A52, st52⟩ := newP X0 hx hZ (oW hw 3 rfl) eH (g := (mkF m 15 #[vr a1, vi z2, uz] [(.int z2)])) rfl (hb hby k_62) rfl hz (cap := 284) hz2 (by decide) (by decide) (by decide)
  obtain ⟨b52, g52⟩ : ∃ z, z = h0.size := ⟨_, rfl⟩
  rw [← g52] at A52 st52
  have O52 : Old Z n0 h52 := O0.ext E52
  have V52 : Arv Z h52 b52 cA52 .byte z2 [] (.int 0) := Arv.new A52 hz
  have gl52 := Nat.le_of_eq g52.symm
  have pre_53 : Pr p e below E0 T52 (mkF m 17 #[vr a1, vi z2, uz] [(.ref b52)]) := fun t k => pre_51 t (st52 t k)
  have pre_54 := fun t k => pre_53 t <| XS.astoreN X52.here hx rfl (hb hby k_63) rfl rfl (l' := #[vr a1, vi z2, vr b52]) rfl <| oA K X52 k_64 rfl rfl rfl <| XS.iconst X52.here hx rfl (hb hby k_65) <| oA K X52 k_66 rfl rfl rfl <| XS.iconst X52.here hx rfl (hb hby k_67) <| oA K X52 k_68 rfl rfl rfl <| oAl K X52 e52 (V1.ext E52) k_69 rfl rfl <| oI K X52 k_70 rfl rfl <| k
  obtain ⟨T55, _, L55, X55, ⟨rfl, N55q, e55⟩, pre_55⟩ := cS pre_54 K X52 e52 (rm_min l Z a0 hw z1 z2 h52 n0 O52 hle) (oW hw 112 rfl) (oW hw 113 rfl) (oW hw 104 rfl) (oW hw 114 rfl) rfl (lenOf d_2 rfl) k_71 rfl rfl rfl (W := 4) (Nat.le_of_eq rfl) (by decide)
  have N55 := Fr.app (Fr.nil n0) N55q
  have v_57 := (Nat.le_trans (own_le O0) gl52)
  obtain ⟨T56, h56, L56, X56, e56, N56, K56, U56, st56⟩ := cpA X55 hx hZ hown (oW hw 115 rfl) (oW hw 118 rfl) (oW hw 116 rfl) (oW hw 117 rfl) e55 (V1.ext E52) (Arv.pad V52 (pad_rep [] _ 1000)) (Or.inl ⟨rfl, rfl⟩) (by decide) (by decide) hz1 (by show 0 + _ ≤ _; omega) (by show 0 + _ ≤ _; omega) rfl (own_hl rfl (show ls.length ≤ z1.toNatClampNeg ∧ z1.toNatClampNeg ≤ 1000 from ⟨hl, by omega⟩).2) N55 v_57 (g := (mkF m 28 #[vr a1, vi z2, vr b52] [(.int z1), (.int 0), (.ref b52), (.int 0), (.ref a1)])) rfl (by rw [hml]; rfl) rfl (hb hby k_72) (by decide) (W := 0) (by show 2 * 0 + _ ≤ _; exact Nat.le_of_eq rfl) (by decide)
  have V56 : Arv Z h56 b52 cA52 .byte z2 ls (.int 0) := Arv.pad U56 (own_cat0 rfl (show ls.length ≤ z1.toNatClampNeg ∧ z1.toNatClampNeg ≤ 1000 from ⟨hl, by omega⟩).1)
  have O56 : Old Z n0 h56 := O52.keep K56 (allS v_57 all0)
  have pre_58 : Pr p e below E0 T56 (mkF m 31 #[vr a1, vi z2, vr b52] []) := fun t k => pre_55 t (st56 t k)
  have pre_59 := fun t k => pre_58 t <| oA K X56 k_73 rfl rfl rfl <| k
  have u_60 := (((Keep.refl h0 []).ext E52).trans K56 (allS (Or.inr (Nat.le_trans (Keep.refl h0 []).1 gl52)) all0))
  exact rtA pre_59 K X56 e56 hret hlk k_74 (by decide) ⟨rfl, rfl⟩ (hP _ _ _ ⟨b52, cA52, rfl, N56, u_60, (Nat.le_trans (Keep.refl h0 []).1 gl52), V56⟩)
theorem rm_ecn0 (hw : Hw a0 Z) (a1 : Addr) (m1 : Int32) (z1 : Int32) (b1 : Addr) (kB : ClassId) (ls : List Value) (h0 : Heap) (n0 : Nat) (O0 : Old Z n0 h0) (F1 : Fld Z h0 a1 s1_ "value" "[B" (.ref b1)) (F2 : Fld Z h0 a1 s1_ "coder" "B" (.int 0)) (V1 : Arv Z h0 b1 kB .byte z1 ls (.int 0)) (hn : ¬ (0 : Int32) < (m1 - (z1 >>> ((0 : Int32) &&& 31)))) : Met l Z y_9 c_9 3 none (Rm 0 0 0 0) #[(.ref a1), (.int m1)] h0 (fun v h L => v = none ∧ Fr n0 L ∧ h = h0) := by
  refine own_met (own := s1_) (G := fun m => (mkF m 0 #[vr a1, vi m1, uz] [])) rfl n_9 ?_
  intro p e s m below meth c s₁ E0 P hP K hnm hret hlk hh X0 eH pre0
  obtain ⟨hx, hZ, hown, hby, hml⟩ := id K
  have pre_51 := fun t k => pre0 t <| oA K X0 k_75 rfl rfl rfl <| k
  obtain ⟨T52, X52, e52, pre_52⟩ := gF pre_51 K X0 eH (oW hw 32 rfl) Via.refl F1 k_76 rfl rfl
  have pre_53 := fun t k => pre_52 t <| oAl K X52 e52 V1 k_77 rfl rfl <| oA K X52 k_78 rfl rfl rfl <| k
  obtain ⟨T54, X54, e54, pre_54⟩ := gF pre_53 K X52 e52 (oW hw 34 rfl) Via.refl F2 k_79 rfl rfl
  have pre_55 := fun t k => pre_54 t <| XT.ishr X54.here hx rfl (hb hby k_80) rfl <| XS.istoreN X54.here hx rfl (hb hby k_81) rfl (l' := #[vr a1, vi m1, vi (z1 >>> ((0 : Int32) &&& 31))]) rfl <| oI K X54 k_82 rfl rfl <| oI K X54 k_83 rfl rfl <| XS.isub X54.here hx rfl (hb hby k_84) rfl <| XS.ifYes X54.here hx rfl (pc0 := 14) (pc' := 38) rfl (hb hby k_85) rfl (XT.i0_le_t hn) (by decide) (by decide) <| k
  exact rtV pre_55 K X54 e54 hret hlk k_86 (by decide) (hP _ _ _ ⟨rfl, (Fr.nil n0), rfl⟩)
theorem rm_ecn1 (hw : Hw a0 Z) (a1 : Addr) (m1 : Int32) (z1 : Int32) (b1 : Addr) (kB : ClassId) (ls : List Value) (h0 : Heap) (n0 : Nat) (O0 : Old Z n0 h0) (F1 : Fld Z h0 a1 s1_ "value" "[B" (.ref b1)) (F2 : Fld Z h0 a1 s1_ "coder" "B" (.int 1)) (V1 : Arv Z h0 b1 kB .byte z1 ls (.int 0)) (hn : ¬ (0 : Int32) < (m1 - (z1 >>> ((1 : Int32) &&& 31)))) : Met l Z y_9 c_9 3 none (Rm 0 0 0 0) #[(.ref a1), (.int m1)] h0 (fun v h L => v = none ∧ Fr n0 L ∧ h = h0) := by
  refine own_met (own := s1_) (G := fun m => (mkF m 0 #[vr a1, vi m1, uz] [])) rfl n_9 ?_
  intro p e s m below meth c s₁ E0 P hP K hnm hret hlk hh X0 eH pre0
  obtain ⟨hx, hZ, hown, hby, hml⟩ := id K
  have pre_51 := fun t k => pre0 t <| oA K X0 k_75 rfl rfl rfl <| k
  obtain ⟨T52, X52, e52, pre_52⟩ := gF pre_51 K X0 eH (oW hw 32 rfl) Via.refl F1 k_76 rfl rfl
  have pre_53 := fun t k => pre_52 t <| oAl K X52 e52 V1 k_77 rfl rfl <| oA K X52 k_78 rfl rfl rfl <| k
  obtain ⟨T54, X54, e54, pre_54⟩ := gF pre_53 K X52 e52 (oW hw 34 rfl) Via.refl F2 k_79 rfl rfl
  have pre_55 := fun t k => pre_54 t <| XT.ishr X54.here hx rfl (hb hby k_80) rfl <| XS.istoreN X54.here hx rfl (hb hby k_81) rfl (l' := #[vr a1, vi m1, vi (z1 >>> ((1 : Int32) &&& 31))]) rfl <| oI K X54 k_82 rfl rfl <| oI K X54 k_83 rfl rfl <| XS.isub X54.here hx rfl (hb hby k_84) rfl <| XS.ifYes X54.here hx rfl (pc0 := 14) (pc' := 38) rfl (hb hby k_85) rfl (XT.i0_le_t hn) (by decide) (by decide) <| k
  exact rtV pre_55 K X54 e54 hret hlk k_86 (by decide) (hP _ _ _ ⟨rfl, (Fr.nil n0), rfl⟩)
theorem rm_nca16 (hw : Hw a0 Z) (a1 : Addr) (m1 : Int32) (b1 : Addr) (kB : ClassId) (ls : List Value) (h0 : Heap) (n0 : Nat) (O0 : Old Z n0 h0) (F1 : Fld Z h0 a1 s1_ "value" "[B" (.ref b1)) (F2 : Fld Z h0 a1 s1_ "coder" "B" (.int 0)) (V1 : Arv Z h0 b1 kB .byte (16 : Int32) ls (.int 0)) (hc : ((m1 <<< ((0 : Int32) &&& 31)) - (16 : Int32)) < (18 : Int32)) : Met l Z y_10 c_10 6 (some .int) (Rm 2 0 0 30) #[(.ref a1), (.int m1)] h0 (fun v h L => v = some (.int 34) ∧ Fr n0 L ∧ h = h0) := by
  refine own_met (own := s1_) (G := fun m => (mkF m 0 #[vr a1, vi m1, uz, uz, uz, uz] [])) rfl n_10 ?_
  intro p e s m below meth c s₁ E0 P hP K hnm hret hlk hh X0 eH pre0
  obtain ⟨hx, hZ, hown, hby, hml⟩ := id K
  have pre_51 := fun t k => pre0 t <| oA K X0 k_87 rfl rfl rfl <| k
  obtain ⟨T52, X52, e52, pre_52⟩ := gF pre_51 K X0 eH (oW hw 32 rfl) Via.refl F1 k_88 rfl rfl
  have pre_53 := fun t k => pre_52 t <| oAl K X52 e52 V1 k_89 rfl rfl <| XS.istoreN X52.here hx rfl (hb hby k_90) rfl (l' := #[vr a1, vi m1, vi 16, uz, uz, uz]) rfl <| oI K X52 k_91 rfl rfl <| oA K X52 k_92 rfl rfl rfl <| k
  obtain ⟨T54, X54, e54, pre_54⟩ := gF pre_53 K X52 e52 (oW hw 34 rfl) Via.refl F2 k_93 rfl rfl
  have pre_55 : Pr p e below E0 T54 (mkF m 24 #[vr a1, vi m1, vi 16, vi (m1 <<< ((0 : Int32) &&& 31)), vi ((m1 <<< ((0 : Int32) &&& 31)) - (16 : Int32)), uz] [(.ref a1), (.int 2), (.int 16), (.int ((m1 <<< ((0 : Int32) &&& 31)) - (16 : Int32))), (.int 16)]) := fun t k => pre_54 t <| XT.ishl X54.here hx rfl (hb hby k_94) rfl <| XS.istoreN X54.here hx rfl (hb hby k_95) rfl (l' := #[vr a1, vi m1, vi 16, vi (m1 <<< ((0 : Int32) &&& 31)), uz, uz]) rfl <| oI K X54 k_96 rfl rfl <| oI K X54 k_97 rfl rfl <| XS.isub X54.here hx rfl (hb hby k_98) rfl <| XS.istore X54.here hx rfl (hb hby k_99) rfl (l' := #[vr a1, vi m1, vi 16, vi (m1 <<< ((0 : Int32) &&& 31)), vi ((m1 <<< ((0 : Int32) &&& 31)) - (16 : Int32)), uz]) rfl <| oI K X54 k_100 rfl rfl <| oJ K X54 k_101 rfl rfl <| oI K X54 k_102 rfl rfl <| XS.iconst X54.here hx rfl (hb hby k_103) <| oA K X54 k_104 rfl rfl rfl <| k
  obtain ⟨T56, X56, e56, pre_56⟩ := gF pre_55 K X54 e54 (oW hw 34 rfl) Via.refl F2 k_105 rfl rfl
  have pre_57 := fun t k => pre_56 t <| XT.ishl X56.here hx rfl (hb hby k_106) rfl <| XS.iadd X56.here hx rfl (hb hby k_107) rfl <| k
  obtain ⟨T58, _, L58, X58, ⟨rfl, N58q, e58⟩, pre_58⟩ := cS pre_57 K X56 e56 (rm_nle l Z a0 hw (16 : Int32) ((m1 <<< ((0 : Int32) &&& 31)) - (16 : Int32)) (18 : Int32) (34 : Int32) h0 n0 O0 hc (by decide) (by decide) (by decide)) (oW hw 98 rfl) (oW hw 99 rfl) (oW hw 100 rfl) (oW hw 101 rfl) rfl (lenOf d_3 rfl) k_108 rfl rfl rfl (W := 0) (Nat.le_of_eq rfl) (by decide)
  have N58 := Fr.app (Fr.nil n0) N58q
  have pre_59 := fun t k => pre_58 t <| XS.istore X58.here hx rfl (hb hby k_109) rfl (l' := #[vr a1, vi m1, vi 16, vi (m1 <<< ((0 : Int32) &&& 31)), vi ((m1 <<< ((0 : Int32) &&& 31)) - (16 : Int32)), vi 34]) rfl <| oJ K X58 k_110 rfl rfl <| oLi K X58 (oW hw 107 rfl) k_111 rfl <| XS.icmpYes X58.here hx rfl (pc0 := 38) (pc' := 51) rfl (hb hby k_112) rfl (XT.ii_ne_t (by decide)) (by decide) (by decide) <| oJ K X58 k_113 rfl rfl <| oA K X58 k_114 rfl rfl rfl <| k
  obtain ⟨T60, X60, e60, pre_60⟩ := gF pre_59 K X58 e58 (oW hw 34 rfl) Via.refl F2 k_115 rfl rfl
  have pre_61 := fun t k => pre_60 t <| XT.ishr X60.here hx rfl (hb hby k_116) rfl <| k
  have pre_62 : Pr p e below E0 T60 (mkF m 58 #[vr a1, vi m1, vi 16, vi (m1 <<< ((0 : Int32) &&& 31)), vi ((m1 <<< ((0 : Int32) &&& 31)) - (16 : Int32)), vi 34] [(.int 34)]) := pre_61
  exact rtI pre_62 K X60 e60 hret hlk k_117 (by decide) (hP _ _ _ ⟨rfl, N58, rfl⟩)
theorem rm_ecg16 (hw : Hw a0 Z) (a1 : Addr) (m1 : Int32) (b1 : Addr) (kB : ClassId) (ls : List Value) (c1 : Int32) (h0 : Heap) (n0 : Nat) (O0 : Old Z n0 h0) (F3 : Fld Z h0 a1 s1_ "count" "I" (.int c1)) (F4 : Fld Z h0 a1 s1_ s5_ "Z" (.int 0)) (E1 : Exa Z h0 a1 s4_) (g1 : n0 ≤ a1) (F1 : Fld Z h0 a1 s1_ "value" "[B" (.ref b1)) (F2 : Fld Z h0 a1 s1_ "coder" "B" (.int 0)) (V1 : Arv Z h0 b1 kB .byte (16 : Int32) ls (.int 0)) (hc : ((m1 <<< ((0 : Int32) &&& 31)) - (16 : Int32)) < (18 : Int32)) (hp : (0 : Int32) < (m1 - (16 : Int32))) (hl : ls.length ≤ 16) : Met l Z y_9 c_9 3 none (Rm 3 1 284 50) #[(.ref a1), (.int m1)] h0 (fun v h L => v = none ∧ Fr n0 L ∧ Keep h0 h [a1] ∧ ∃ b kN, h0.size ≤ b ∧ Fld Z h a1 s1_ "value" "[B" (.ref b) ∧ Fld Z h a1 s1_ "coder" "B" (.int 0) ∧ Fld Z h a1 s1_ "count" "I" (.int c1) ∧ Fld Z h a1 s1_ s5_ "Z" (.int 0) ∧ Arv Z h b kN .byte (34 : Int32) ls (.int 0)) := by
  refine own_met (own := s1_) (G := fun m => (mkF m 0 #[vr a1, vi m1, uz] [])) rfl n_9 ?_
  intro p e s m below meth c s₁ E0 P hP K hnm hret hlk hh X0 eH pre0
  obtain ⟨hx, hZ, hown, hby, hml⟩ := id K
  have pre_51 := fun t k => pre0 t <| oA K X0 k_75 rfl rfl rfl <| k
  obtain ⟨T52, X52, e52, pre_52⟩ := gF pre_51 K X0 eH (oW hw 32 rfl) Via.refl F1 k_76 rfl rfl
  have pre_53 := fun t k => pre_52 t <| oAl K X52 e52 V1 k_77 rfl rfl <| oA K X52 k_78 rfl rfl rfl <| k
  obtain ⟨T54, X54, e54, pre_54⟩ := gF pre_53 K X52 e52 (oW hw 34 rfl) Via.refl F2 k_79 rfl rfl
  have pre_55 := fun t k => pre_54 t <| XT.ishr X54.here hx rfl (hb hby k_80) rfl <| XS.istoreN X54.here hx rfl (hb hby k_81) rfl (l' := #[vr a1, vi m1, vi 16]) rfl <| oI K X54 k_82 rfl rfl <| oI K X54 k_83 rfl rfl <| XS.isub X54.here hx rfl (hb hby k_84) rfl <| XS.ifNo X54.here hx rfl (hb hby k_85) rfl (XT.i0_le_f hp) <| oA K X54 k_118 rfl rfl rfl <| oA K X54 k_119 rfl rfl rfl <| k
  obtain ⟨T56, X56, e56, pre_56⟩ := gF pre_55 K X54 e54 (oW hw 32 rfl) Via.refl F1 k_120 rfl rfl
  have pre_57 : Pr p e below E0 T56 (mkF m 24 #[vr a1, vi m1, vi 16] [(.int m1), (.ref a1), (.ref b1), (.ref a1)]) := fun t k => pre_56 t <| oA K X56 k_121 rfl rfl rfl <| oI K X56 k_122 rfl rfl <| k
  obtain ⟨T58, _, L58, X58, ⟨rfl, N58q, e58⟩, pre_58⟩ := cP pre_57 K X56 e56 (rm_nca16 l Z a0 hw a1 m1 b1 kB ls h0 n0 O0 F1 F2 V1 hc) (oW hw 93 rfl) (oW hw 94 rfl) (oW hw 26 rfl) (oW hw 97 rfl) (oW hw 95 rfl) (oW hw 96 rfl) E1 rfl (lenOf d_4 rfl) k_123 rfl rfl rfl (W := 2) (Nat.le_of_eq rfl) (by decide)
  have N58 := Fr.app (Fr.nil n0) N58q
  have pre_59 := fun t k => pre_58 t <| oA K X58 k_124 rfl rfl rfl <| k
  obtain ⟨T60, X60, e60, pre_60⟩ := gF pre_59 K X58 e58 (oW hw 34 rfl) Via.refl F2 k_125 rfl rfl
  have pre_61 := fun t k => pre_60 t <| XT.ishl X60.here hx rfl (hb hby k_126) rfl <| k
  obtain ⟨T62, _, L62, X62, ⟨b62, kN62, rfl, N62q, K62, sb62, Vb62⟩, pre_62⟩ := cS pre_61 K X60 e60 (rm_cof l Z a0 hw b1 (34 : Int32) (16 : Int32) kB ls h0 n0 O0 V1 (by decide) (by decide) (by decide) (by decide) (by decide) (by decide) hl) (oW hw 108 rfl) (oW hw 109 rfl) (oW hw 110 rfl) (oW hw 111 rfl) rfl (lenOf d_5 rfl) k_127 rfl rfl rfl (W := 1) (Nat.le_of_eq rfl) (by decide)
  have N62 := Fr.app N58 N62q
  have O62 : Old Z n0 T62.heap := O0.keep K62 all0
  obtain ⟨T63, h63, X63, e63, W63, Fw63, pre_63⟩ := pF pre_62 K X62 rfl (.array .byte) (oW hw 32 rfl) (F1.keep K62 nin0) (E1.keep K62) (Or.inl (oW hw 33 rfl)) (oW hw 17 rfl) k_128 rfl rfl (by decide) rfl rfl
  have N63 := Fr.snoc X63 N62 g1
  have O63 := O62.wr W63 g1
  have x_64 := (Ne.symm (Nat.ne_of_lt (Nat.lt_of_lt_of_le E1.lt sb62)))
  have u_65 := (((Keep.refl h0 [a1]).trans K62 all0).wr W63 (Or.inl (List.mem_of_getElem? (i := 0) rfl)))
  have f_66 := ((F2.keep K62 nin0).other W63 (Or.inr (slot_ne (Or.inl (oW hw 35 rfl)) (Or.inl (oW hw 33 rfl)) (by decide) (t := .byte) (t' := (.array .byte)) (by decide) (by decide))))
  have f_67 := ((F3.keep K62 nin0).other W63 (Or.inr (slot_ne (Or.inl (oW hw 48 rfl)) (Or.inl (oW hw 33 rfl)) (by decide) (t := .int) (t' := (.array .byte)) (by decide) (by decide))))
  have f_68 := ((F4.keep K62 nin0).other W63 (Or.inr (slot_ne (Or.inl (oW hw 406 rfl)) (Or.inl (oW hw 33 rfl)) (by decide) (t := .boolean) (t' := (.array .byte)) (by decide) (by decide))))
  exact rtV pre_63 K X63 e63 hret hlk k_86 (by decide) (hP _ _ _ ⟨rfl, N63, u_65, b62, kN62, (Nat.le_trans (Keep.refl h0 [a1]).1 sb62), Fw63, f_66, f_67, f_68, (Vb62.other W63 x_64)⟩)
theorem rm_nca34 (hw : Hw a0 Z) (a1 : Addr) (m1 : Int32) (b1 : Addr) (kB : ClassId) (ls : List Value) (h0 : Heap) (n0 : Nat) (O0 : Old Z n0 h0) (F1 : Fld Z h0 a1 s1_ "value" "[B" (.ref b1)) (F2 : Fld Z h0 a1 s1_ "coder" "B" (.int 0)) (V1 : Arv Z h0 b1 kB .byte (34 : Int32) ls (.int 0)) (hc : ((m1 <<< ((0 : Int32) &&& 31)) - (34 : Int32)) < (36 : Int32)) : Met l Z y_10 c_10 6 (some .int) (Rm 2 0 0 30) #[(.ref a1), (.int m1)] h0 (fun v h L => v = some (.int 70) ∧ Fr n0 L ∧ h = h0) := by
  refine own_met (own := s1_) (G := fun m => (mkF m 0 #[vr a1, vi m1, uz, uz, uz, uz] [])) rfl n_10 ?_
  intro p e s m below meth c s₁ E0 P hP K hnm hret hlk hh X0 eH pre0
  obtain ⟨hx, hZ, hown, hby, hml⟩ := id K
  have pre_51 := fun t k => pre0 t <| oA K X0 k_87 rfl rfl rfl <| k
  obtain ⟨T52, X52, e52, pre_52⟩ := gF pre_51 K X0 eH (oW hw 32 rfl) Via.refl F1 k_88 rfl rfl
  have pre_53 := fun t k => pre_52 t <| oAl K X52 e52 V1 k_89 rfl rfl <| XS.istoreN X52.here hx rfl (hb hby k_90) rfl (l' := #[vr a1, vi m1, vi 34, uz, uz, uz]) rfl <| oI K X52 k_91 rfl rfl <| oA K X52 k_92 rfl rfl rfl <| k
  obtain ⟨T54, X54, e54, pre_54⟩ := gF pre_53 K X52 e52 (oW hw 34 rfl) Via.refl F2 k_93 rfl rfl
  have pre_55 : Pr p e below E0 T54 (mkF m 24 #[vr a1, vi m1, vi 34, vi (m1 <<< ((0 : Int32) &&& 31)), vi ((m1 <<< ((0 : Int32) &&& 31)) - (34 : Int32)), uz] [(.ref a1), (.int 2), (.int 34), (.int ((m1 <<< ((0 : Int32) &&& 31)) - (34 : Int32))), (.int 34)]) := fun t k => pre_54 t <| XT.ishl X54.here hx rfl (hb hby k_94) rfl <| XS.istoreN X54.here hx rfl (hb hby k_95) rfl (l' := #[vr a1, vi m1, vi 34, vi (m1 <<< ((0 : Int32) &&& 31)), uz, uz]) rfl <| oI K X54 k_96 rfl rfl <| oI K X54 k_97 rfl rfl <| XS.isub X54.here hx rfl (hb hby k_98) rfl <| XS.istore X54.here hx rfl (hb hby k_99) rfl (l' := #[vr a1, vi m1, vi 34, vi (m1 <<< ((0 : Int32) &&& 31)), vi ((m1 <<< ((0 : Int32) &&& 31)) - (34 : Int32)), uz]) rfl <| oI K X54 k_100 rfl rfl <| oJ K X54 k_101 rfl rfl <| oI K X54 k_102 rfl rfl <| XS.iconst X54.here hx rfl (hb hby k_103) <| oA K X54 k_104 rfl rfl rfl <| k
  obtain ⟨T56, X56, e56, pre_56⟩ := gF pre_55 K X54 e54 (oW hw 34 rfl) Via.refl F2 k_105 rfl rfl
  have pre_57 := fun t k => pre_56 t <| XT.ishl X56.here hx rfl (hb hby k_106) rfl <| XS.iadd X56.here hx rfl (hb hby k_107) rfl <| k
  obtain ⟨T58, _, L58, X58, ⟨rfl, N58q, e58⟩, pre_58⟩ := cS pre_57 K X56 e56 (rm_nle l Z a0 hw (34 : Int32) ((m1 <<< ((0 : Int32) &&& 31)) - (34 : Int32)) (36 : Int32) (70 : Int32) h0 n0 O0 hc (by decide) (by decide) (by decide)) (oW hw 98 rfl) (oW hw 99 rfl) (oW hw 100 rfl) (oW hw 101 rfl) rfl (lenOf d_3 rfl) k_108 rfl rfl rfl (W := 0) (Nat.le_of_eq rfl) (by decide)
  have N58 := Fr.app (Fr.nil n0) N58q
  have pre_59 := fun t k => pre_58 t <| XS.istore X58.here hx rfl (hb hby k_109) rfl (l' := #[vr a1, vi m1, vi 34, vi (m1 <<< ((0 : Int32) &&& 31)), vi ((m1 <<< ((0 : Int32) &&& 31)) - (34 : Int32)), vi 70]) rfl <| oJ K X58 k_110 rfl rfl <| oLi K X58 (oW hw 107 rfl) k_111 rfl <| XS.icmpYes X58.here hx rfl (pc0 := 38) (pc' := 51) rfl (hb hby k_112) rfl (XT.ii_ne_t (by decide)) (by decide) (by decide) <| oJ K X58 k_113 rfl rfl <| oA K X58 k_114 rfl rfl rfl <| k
  obtain ⟨T60, X60, e60, pre_60⟩ := gF pre_59 K X58 e58 (oW hw 34 rfl) Via.refl F2 k_115 rfl rfl
  have pre_61 := fun t k => pre_60 t <| XT.ishr X60.here hx rfl (hb hby k_116) rfl <| k
  have pre_62 : Pr p e below E0 T60 (mkF m 58 #[vr a1, vi m1, vi 34, vi (m1 <<< ((0 : Int32) &&& 31)), vi ((m1 <<< ((0 : Int32) &&& 31)) - (34 : Int32)), vi 70] [(.int 70)]) := pre_61
  exact rtI pre_62 K X60 e60 hret hlk k_117 (by decide) (hP _ _ _ ⟨rfl, N58, rfl⟩)
theorem rm_ecg34 (hw : Hw a0 Z) (a1 : Addr) (m1 : Int32) (b1 : Addr) (kB : ClassId) (ls : List Value) (c1 : Int32) (h0 : Heap) (n0 : Nat) (O0 : Old Z n0 h0) (F3 : Fld Z h0 a1 s1_ "count" "I" (.int c1)) (F4 : Fld Z h0 a1 s1_ s5_ "Z" (.int 0)) (E1 : Exa Z h0 a1 s4_) (g1 : n0 ≤ a1) (F1 : Fld Z h0 a1 s1_ "value" "[B" (.ref b1)) (F2 : Fld Z h0 a1 s1_ "coder" "B" (.int 0)) (V1 : Arv Z h0 b1 kB .byte (34 : Int32) ls (.int 0)) (hc : ((m1 <<< ((0 : Int32) &&& 31)) - (34 : Int32)) < (36 : Int32)) (hp : (0 : Int32) < (m1 - (34 : Int32))) (hl : ls.length ≤ 34) : Met l Z y_9 c_9 3 none (Rm 3 1 284 50) #[(.ref a1), (.int m1)] h0 (fun v h L => v = none ∧ Fr n0 L ∧ Keep h0 h [a1] ∧ ∃ b kN, h0.size ≤ b ∧ Fld Z h a1 s1_ "value" "[B" (.ref b) ∧ Fld Z h a1 s1_ "coder" "B" (.int 0) ∧ Fld Z h a1 s1_ "count" "I" (.int c1) ∧ Fld Z h a1 s1_ s5_ "Z" (.int 0) ∧ Arv Z h b kN .byte (70 : Int32) ls (.int 0)) := by
  refine own_met (own := s1_) (G := fun m => (mkF m 0 #[vr a1, vi m1, uz] [])) rfl n_9 ?_
  intro p e s m below meth c s₁ E0 P hP K hnm hret hlk hh X0 eH pre0
  obtain ⟨hx, hZ, hown, hby, hml⟩ := id K
  have pre_51 := fun t k => pre0 t <| oA K X0 k_75 rfl rfl rfl <| k
  obtain ⟨T52, X52, e52, pre_52⟩ := gF pre_51 K X0 eH (oW hw 32 rfl) Via.refl F1 k_76 rfl rfl
  have pre_53 := fun t k => pre_52 t <| oAl K X52 e52 V1 k_77 rfl rfl <| oA K X52 k_78 rfl rfl rfl <| k
  obtain ⟨T54, X54, e54, pre_54⟩ := gF pre_53 K X52 e52 (oW hw 34 rfl) Via.refl F2 k_79 rfl rfl
  have pre_55 := fun t k => pre_54 t <| XT.ishr X54.here hx rfl (hb hby k_80) rfl <| XS.istoreN X54.here hx rfl (hb hby k_81) rfl (l' := #[vr a1, vi m1, vi 34]) rfl <| oI K X54 k_82 rfl rfl <| oI K X54 k_83 rfl rfl <| XS.isub X54.here hx rfl (hb hby k_84) rfl <| XS.ifNo X54.here hx rfl (hb hby k_85) rfl (XT.i0_le_f hp) <| oA K X54 k_118 rfl rfl rfl <| oA K X54 k_119 rfl rfl rfl <| k
  obtain ⟨T56, X56, e56, pre_56⟩ := gF pre_55 K X54 e54 (oW hw 32 rfl) Via.refl F1 k_120 rfl rfl
  have pre_57 : Pr p e below E0 T56 (mkF m 24 #[vr a1, vi m1, vi 34] [(.int m1), (.ref a1), (.ref b1), (.ref a1)]) := fun t k => pre_56 t <| oA K X56 k_121 rfl rfl rfl <| oI K X56 k_122 rfl rfl <| k
  obtain ⟨T58, _, L58, X58, ⟨rfl, N58q, e58⟩, pre_58⟩ := cP pre_57 K X56 e56 (rm_nca34 l Z a0 hw a1 m1 b1 kB ls h0 n0 O0 F1 F2 V1 hc) (oW hw 93 rfl) (oW hw 94 rfl) (oW hw 26 rfl) (oW hw 97 rfl) (oW hw 95 rfl) (oW hw 96 rfl) E1 rfl (lenOf d_4 rfl) k_123 rfl rfl rfl (W := 2) (Nat.le_of_eq rfl) (by decide)
  have N58 := Fr.app (Fr.nil n0) N58q
  have pre_59 := fun t k => pre_58 t <| oA K X58 k_124 rfl rfl rfl <| k
  obtain ⟨T60, X60, e60, pre_60⟩ := gF pre_59 K X58 e58 (oW hw 34 rfl) Via.refl F2 k_125 rfl rfl
  have pre_61 := fun t k => pre_60 t <| XT.ishl X60.here hx rfl (hb hby k_126) rfl <| k
  obtain ⟨T62, _, L62, X62, ⟨b62, kN62, rfl, N62q, K62, sb62, Vb62⟩, pre_62⟩ := cS pre_61 K X60 e60 (rm_cof l Z a0 hw b1 (70 : Int32) (34 : Int32) kB ls h0 n0 O0 V1 (by decide) (by decide) (by decide) (by decide) (by decide) (by decide) hl) (oW hw 108 rfl) (oW hw 109 rfl) (oW hw 110 rfl) (oW hw 111 rfl) rfl (lenOf d_5 rfl) k_127 rfl rfl rfl (W := 1) (Nat.le_of_eq rfl) (by decide)
  have N62 := Fr.app N58 N62q
  have O62 : Old Z n0 T62.heap := O0.keep K62 all0
  obtain ⟨T63, h63, X63, e63, W63, Fw63, pre_63⟩ := pF pre_62 K X62 rfl (.array .byte) (oW hw 32 rfl) (F1.keep K62 nin0) (E1.keep K62) (Or.inl (oW hw 33 rfl)) (oW hw 17 rfl) k_128 rfl rfl (by decide) rfl rfl
  have N63 := Fr.snoc X63 N62 g1
  have O63 := O62.wr W63 g1
  have x_64 := (Ne.symm (Nat.ne_of_lt (Nat.lt_of_lt_of_le E1.lt sb62)))
  have u_65 := (((Keep.refl h0 [a1]).trans K62 all0).wr W63 (Or.inl (List.mem_of_getElem? (i := 0) rfl)))
  have f_66 := ((F2.keep K62 nin0).other W63 (Or.inr (slot_ne (Or.inl (oW hw 35 rfl)) (Or.inl (oW hw 33 rfl)) (by decide) (t := .byte) (t' := (.array .byte)) (by decide) (by decide))))
  have f_67 := ((F3.keep K62 nin0).other W63 (Or.inr (slot_ne (Or.inl (oW hw 48 rfl)) (Or.inl (oW hw 33 rfl)) (by decide) (t := .int) (t' := (.array .byte)) (by decide) (by decide))))
  have f_68 := ((F4.keep K62 nin0).other W63 (Or.inr (slot_ne (Or.inl (oW hw 406 rfl)) (Or.inl (oW hw 33 rfl)) (by decide) (t := .boolean) (t' := (.array .byte)) (by decide) (by decide))))
  exact rtV pre_63 K X63 e63 hret hlk k_86 (by decide) (hP _ _ _ ⟨rfl, N63, u_65, b62, kN62, (Nat.le_trans (Keep.refl h0 [a1]).1 sb62), Fw63, f_66, f_67, f_68, (Vb62.other W63 x_64)⟩)
theorem rm_nca70 (hw : Hw a0 Z) (a1 : Addr) (m1 : Int32) (b1 : Addr) (kB : ClassId) (ls : List Value) (h0 : Heap) (n0 : Nat) (O0 : Old Z n0 h0) (F1 : Fld Z h0 a1 s1_ "value" "[B" (.ref b1)) (F2 : Fld Z h0 a1 s1_ "coder" "B" (.int 0)) (V1 : Arv Z h0 b1 kB .byte (70 : Int32) ls (.int 0)) (hc : ((m1 <<< ((0 : Int32) &&& 31)) - (70 : Int32)) < (72 : Int32)) : Met l Z y_10 c_10 6 (some .int) (Rm 2 0 0 30) #[(.ref a1), (.int m1)] h0 (fun v h L => v = some (.int 142) ∧ Fr n0 L ∧ h = h0) := by
  refine own_met (own := s1_) (G := fun m => (mkF m 0 #[vr a1, vi m1, uz, uz, uz, uz] [])) rfl n_10 ?_
  intro p e s m below meth c s₁ E0 P hP K hnm hret hlk hh X0 eH pre0
  obtain ⟨hx, hZ, hown, hby, hml⟩ := id K
  have pre_51 := fun t k => pre0 t <| oA K X0 k_87 rfl rfl rfl <| k
  obtain ⟨T52, X52, e52, pre_52⟩ := gF pre_51 K X0 eH (oW hw 32 rfl) Via.refl F1 k_88 rfl rfl
  have pre_53 := fun t k => pre_52 t <| oAl K X52 e52 V1 k_89 rfl rfl <| XS.istoreN X52.here hx rfl (hb hby k_90) rfl (l' := #[vr a1, vi m1, vi 70, uz, uz, uz]) rfl <| oI K X52 k_91 rfl rfl <| oA K X52 k_92 rfl rfl rfl <| k
  obtain ⟨T54, X54, e54, pre_54⟩ := gF pre_53 K X52 e52 (oW hw 34 rfl) Via.refl F2 k_93 rfl rfl
  have pre_55 : Pr p e below E0 T54 (mkF m 24 #[vr a1, vi m1, vi 70, vi (m1 <<< ((0 : Int32) &&& 31)), vi ((m1 <<< ((0 : Int32) &&& 31)) - (70 : Int32)), uz] [(.ref a1), (.int 2), (.int 70), (.int ((m1 <<< ((0 : Int32) &&& 31)) - (70 : Int32))), (.int 70)]) := fun t k => pre_54 t <| XT.ishl X54.here hx rfl (hb hby k_94) rfl <| XS.istoreN X54.here hx rfl (hb hby k_95) rfl (l' := #[vr a1, vi m1, vi 70, vi (m1 <<< ((0 : Int32) &&& 31)), uz, uz]) rfl <| oI K X54 k_96 rfl rfl <| oI K X54 k_97 rfl rfl <| XS.isub X54.here hx rfl (hb hby k_98) rfl <| XS.istore X54.here hx rfl (hb hby k_99) rfl (l' := #[vr a1, vi m1, vi 70, vi (m1 <<< ((0 : Int32) &&& 31)), vi ((m1 <<< ((0 : Int32) &&& 31)) - (70 : Int32)), uz]) rfl <| oI K X54 k_100 rfl rfl <| oJ K X54 k_101 rfl rfl <| oI K X54 k_102 rfl rfl <| XS.iconst X54.here hx rfl (hb hby k_103) <| oA K X54 k_104 rfl rfl rfl <| k
  obtain ⟨T56, X56, e56, pre_56⟩ := gF pre_55 K X54 e54 (oW hw 34 rfl) Via.refl F2 k_105 rfl rfl
  have pre_57 := fun t k => pre_56 t <| XT.ishl X56.here hx rfl (hb hby k_106) rfl <| XS.iadd X56.here hx rfl (hb hby k_107) rfl <| k
  obtain ⟨T58, _, L58, X58, ⟨rfl, N58q, e58⟩, pre_58⟩ := cS pre_57 K X56 e56 (rm_nle l Z a0 hw (70 : Int32) ((m1 <<< ((0 : Int32) &&& 31)) - (70 : Int32)) (72 : Int32) (142 : Int32) h0 n0 O0 hc (by decide) (by decide) (by decide)) (oW hw 98 rfl) (oW hw 99 rfl) (oW hw 100 rfl) (oW hw 101 rfl) rfl (lenOf d_3 rfl) k_108 rfl rfl rfl (W := 0) (Nat.le_of_eq rfl) (by decide)
  have N58 := Fr.app (Fr.nil n0) N58q
  have pre_59 := fun t k => pre_58 t <| XS.istore X58.here hx rfl (hb hby k_109) rfl (l' := #[vr a1, vi m1, vi 70, vi (m1 <<< ((0 : Int32) &&& 31)), vi ((m1 <<< ((0 : Int32) &&& 31)) - (70 : Int32)), vi 142]) rfl <| oJ K X58 k_110 rfl rfl <| oLi K X58 (oW hw 107 rfl) k_111 rfl <| XS.icmpYes X58.here hx rfl (pc0 := 38) (pc' := 51) rfl (hb hby k_112) rfl (XT.ii_ne_t (by decide)) (by decide) (by decide) <| oJ K X58 k_113 rfl rfl <| oA K X58 k_114 rfl rfl rfl <| k
  obtain ⟨T60, X60, e60, pre_60⟩ := gF pre_59 K X58 e58 (oW hw 34 rfl) Via.refl F2 k_115 rfl rfl
  have pre_61 := fun t k => pre_60 t <| XT.ishr X60.here hx rfl (hb hby k_116) rfl <| k
  have pre_62 : Pr p e below E0 T60 (mkF m 58 #[vr a1, vi m1, vi 70, vi (m1 <<< ((0 : Int32) &&& 31)), vi ((m1 <<< ((0 : Int32) &&& 31)) - (70 : Int32)), vi 142] [(.int 142)]) := pre_61
  exact rtI pre_62 K X60 e60 hret hlk k_117 (by decide) (hP _ _ _ ⟨rfl, N58, rfl⟩)
theorem rm_ecg70 (hw : Hw a0 Z) (a1 : Addr) (m1 : Int32) (b1 : Addr) (kB : ClassId) (ls : List Value) (c1 : Int32) (h0 : Heap) (n0 : Nat) (O0 : Old Z n0 h0) (F3 : Fld Z h0 a1 s1_ "count" "I" (.int c1)) (F4 : Fld Z h0 a1 s1_ s5_ "Z" (.int 0)) (E1 : Exa Z h0 a1 s4_) (g1 : n0 ≤ a1) (F1 : Fld Z h0 a1 s1_ "value" "[B" (.ref b1)) (F2 : Fld Z h0 a1 s1_ "coder" "B" (.int 0)) (V1 : Arv Z h0 b1 kB .byte (70 : Int32) ls (.int 0)) (hc : ((m1 <<< ((0 : Int32) &&& 31)) - (70 : Int32)) < (72 : Int32)) (hp : (0 : Int32) < (m1 - (70 : Int32))) (hl : ls.length ≤ 70) : Met l Z y_9 c_9 3 none (Rm 3 1 284 50) #[(.ref a1), (.int m1)] h0 (fun v h L => v = none ∧ Fr n0 L ∧ Keep h0 h [a1] ∧ ∃ b kN, h0.size ≤ b ∧ Fld Z h a1 s1_ "value" "[B" (.ref b) ∧ Fld Z h a1 s1_ "coder" "B" (.int 0) ∧ Fld Z h a1 s1_ "count" "I" (.int c1) ∧ Fld Z h a1 s1_ s5_ "Z" (.int 0) ∧ Arv Z h b kN .byte (142 : Int32) ls (.int 0)) := by
  refine own_met (own := s1_) (G := fun m => (mkF m 0 #[vr a1, vi m1, uz] [])) rfl n_9 ?_
  intro p e s m below meth c s₁ E0 P hP K hnm hret hlk hh X0 eH pre0
  obtain ⟨hx, hZ, hown, hby, hml⟩ := id K
  have pre_51 := fun t k => pre0 t <| oA K X0 k_75 rfl rfl rfl <| k
  obtain ⟨T52, X52, e52, pre_52⟩ := gF pre_51 K X0 eH (oW hw 32 rfl) Via.refl F1 k_76 rfl rfl
  have pre_53 := fun t k => pre_52 t <| oAl K X52 e52 V1 k_77 rfl rfl <| oA K X52 k_78 rfl rfl rfl <| k
  obtain ⟨T54, X54, e54, pre_54⟩ := gF pre_53 K X52 e52 (oW hw 34 rfl) Via.refl F2 k_79 rfl rfl
  have pre_55 := fun t k => pre_54 t <| XT.ishr X54.here hx rfl (hb hby k_80) rfl <| XS.istoreN X54.here hx rfl (hb hby k_81) rfl (l' := #[vr a1, vi m1, vi 70]) rfl <| oI K X54 k_82 rfl rfl <| oI K X54 k_83 rfl rfl <| XS.isub X54.here hx rfl (hb hby k_84) rfl <| XS.ifNo X54.here hx rfl (hb hby k_85) rfl (XT.i0_le_f hp) <| oA K X54 k_118 rfl rfl rfl <| oA K X54 k_119 rfl rfl rfl <| k
  obtain ⟨T56, X56, e56, pre_56⟩ := gF pre_55 K X54 e54 (oW hw 32 rfl) Via.refl F1 k_120 rfl rfl
  have pre_57 : Pr p e below E0 T56 (mkF m 24 #[vr a1, vi m1, vi 70] [(.int m1), (.ref a1), (.ref b1), (.ref a1)]) := fun t k => pre_56 t <| oA K X56 k_121 rfl rfl rfl <| oI K X56 k_122 rfl rfl <| k
  obtain ⟨T58, _, L58, X58, ⟨rfl, N58q, e58⟩, pre_58⟩ := cP pre_57 K X56 e56 (rm_nca70 l Z a0 hw a1 m1 b1 kB ls h0 n0 O0 F1 F2 V1 hc) (oW hw 93 rfl) (oW hw 94 rfl) (oW hw 26 rfl) (oW hw 97 rfl) (oW hw 95 rfl) (oW hw 96 rfl) E1 rfl (lenOf d_4 rfl) k_123 rfl rfl rfl (W := 2) (Nat.le_of_eq rfl) (by decide)
  have N58 := Fr.app (Fr.nil n0) N58q
  have pre_59 := fun t k => pre_58 t <| oA K X58 k_124 rfl rfl rfl <| k
  obtain ⟨T60, X60, e60, pre_60⟩ := gF pre_59 K X58 e58 (oW hw 34 rfl) Via.refl F2 k_125 rfl rfl
  have pre_61 := fun t k => pre_60 t <| XT.ishl X60.here hx rfl (hb hby k_126) rfl <| k
  obtain ⟨T62, _, L62, X62, ⟨b62, kN62, rfl, N62q, K62, sb62, Vb62⟩, pre_62⟩ := cS pre_61 K X60 e60 (rm_cof l Z a0 hw b1 (142 : Int32) (70 : Int32) kB ls h0 n0 O0 V1 (by decide) (by decide) (by decide) (by decide) (by decide) (by decide) hl) (oW hw 108 rfl) (oW hw 109 rfl) (oW hw 110 rfl) (oW hw 111 rfl) rfl (lenOf d_5 rfl) k_127 rfl rfl rfl (W := 1) (Nat.le_of_eq rfl) (by decide)
  have N62 := Fr.app N58 N62q
  have O62 : Old Z n0 T62.heap := O0.keep K62 all0
  obtain ⟨T63, h63, X63, e63, W63, Fw63, pre_63⟩ := pF pre_62 K X62 rfl (.array .byte) (oW hw 32 rfl) (F1.keep K62 nin0) (E1.keep K62) (Or.inl (oW hw 33 rfl)) (oW hw 17 rfl) k_128 rfl rfl (by decide) rfl rfl
  have N63 := Fr.snoc X63 N62 g1
  have O63 := O62.wr W63 g1
  have x_64 := (Ne.symm (Nat.ne_of_lt (Nat.lt_of_lt_of_le E1.lt sb62)))
  have u_65 := (((Keep.refl h0 [a1]).trans K62 all0).wr W63 (Or.inl (List.mem_of_getElem? (i := 0) rfl)))
  have f_66 := ((F2.keep K62 nin0).other W63 (Or.inr (slot_ne (Or.inl (oW hw 35 rfl)) (Or.inl (oW hw 33 rfl)) (by decide) (t := .byte) (t' := (.array .byte)) (by decide) (by decide))))
  have f_67 := ((F3.keep K62 nin0).other W63 (Or.inr (slot_ne (Or.inl (oW hw 48 rfl)) (Or.inl (oW hw 33 rfl)) (by decide) (t := .int) (t' := (.array .byte)) (by decide) (by decide))))
  have f_68 := ((F4.keep K62 nin0).other W63 (Or.inr (slot_ne (Or.inl (oW hw 406 rfl)) (Or.inl (oW hw 33 rfl)) (by decide) (t := .boolean) (t' := (.array .byte)) (by decide) (by decide))))
  exact rtV pre_63 K X63 e63 hret hlk k_86 (by decide) (hP _ _ _ ⟨rfl, N63, u_65, b62, kN62, (Nat.le_trans (Keep.refl h0 [a1]).1 sb62), Fw63, f_66, f_67, f_68, (Vb62.other W63 x_64)⟩)
theorem rm_nca68 (hw : Hw a0 Z) (a1 : Addr) (m1 : Int32) (b1 : Addr) (kB : ClassId) (ls : List Value) (h0 : Heap) (n0 : Nat) (O0 : Old Z n0 h0) (F1 : Fld Z h0 a1 s1_ "value" "[B" (.ref b1)) (F2 : Fld Z h0 a1 s1_ "coder" "B" (.int 1)) (V1 : Arv Z h0 b1 kB .byte (68 : Int32) ls (.int 0)) (hc : ((m1 <<< ((1 : Int32) &&& 31)) - (68 : Int32)) < (72 : Int32)) : Met l Z y_10 c_10 6 (some .int) (Rm 2 0 0 30) #[(.ref a1), (.int m1)] h0 (fun v h L => v = some (.int 70) ∧ Fr n0 L ∧ h = h0) := by
  refine own_met (own := s1_) (G := fun m => (mkF m 0 #[vr a1, vi m1, uz, uz, uz, uz] [])) rfl n_10 ?_
  intro p e s m below meth c s₁ E0 P hP K hnm hret hlk hh X0 eH pre0
  obtain ⟨hx, hZ, hown, hby, hml⟩ := id K
  have pre_51 := fun t k => pre0 t <| oA K X0 k_87 rfl rfl rfl <| k
  obtain ⟨T52, X52, e52, pre_52⟩ := gF pre_51 K X0 eH (oW hw 32 rfl) Via.refl F1 k_88 rfl rfl
  have pre_53 := fun t k => pre_52 t <| oAl K X52 e52 V1 k_89 rfl rfl <| XS.istoreN X52.here hx rfl (hb hby k_90) rfl (l' := #[vr a1, vi m1, vi 68, uz, uz, uz]) rfl <| oI K X52 k_91 rfl rfl <| oA K X52 k_92 rfl rfl rfl <| k
  obtain ⟨T54, X54, e54, pre_54⟩ := gF pre_53 K X52 e52 (oW hw 34 rfl) Via.refl F2 k_93 rfl rfl
  have pre_55 : Pr p e below E0 T54 (mkF m 24 #[vr a1, vi m1, vi 68, vi (m1 <<< ((1 : Int32) &&& 31)), vi ((m1 <<< ((1 : Int32) &&& 31)) - (68 : Int32)), uz] [(.ref a1), (.int 2), (.int 68), (.int ((m1 <<< ((1 : Int32) &&& 31)) - (68 : Int32))), (.int 68)]) := fun t k => pre_54 t <| XT.ishl X54.here hx rfl (hb hby k_94) rfl <| XS.istoreN X54.here hx rfl (hb hby k_95) rfl (l' := #[vr a1, vi m1, vi 68, vi (m1 <<< ((1 : Int32) &&& 31)), uz, uz]) rfl <| oI K X54 k_96 rfl rfl <| oI K X54 k_97 rfl rfl <| XS.isub X54.here hx rfl (hb hby k_98) rfl <| XS.istore X54.here hx rfl (hb hby k_99) rfl (l' := #[vr a1, vi m1, vi 68, vi (m1 <<< ((1 : Int32) &&& 31)), vi ((m1 <<< ((1 : Int32) &&& 31)) - (68 : Int32)), uz]) rfl <| oI K X54 k_100 rfl rfl <| oJ K X54 k_101 rfl rfl <| oI K X54 k_102 rfl rfl <| XS.iconst X54.here hx rfl (hb hby k_103) <| oA K X54 k_104 rfl rfl rfl <| k
  obtain ⟨T56, X56, e56, pre_56⟩ := gF pre_55 K X54 e54 (oW hw 34 rfl) Via.refl F2 k_105 rfl rfl
  have pre_57 := fun t k => pre_56 t <| XT.ishl X56.here hx rfl (hb hby k_106) rfl <| XS.iadd X56.here hx rfl (hb hby k_107) rfl <| k
  obtain ⟨T58, _, L58, X58, ⟨rfl, N58q, e58⟩, pre_58⟩ := cS pre_57 K X56 e56 (rm_nle l Z a0 hw (68 : Int32) ((m1 <<< ((1 : Int32) &&& 31)) - (68 : Int32)) (72 : Int32) (140 : Int32) h0 n0 O0 hc (by decide) (by decide) (by decide)) (oW hw 98 rfl) (oW hw 99 rfl) (oW hw 100 rfl) (oW hw 101 rfl) rfl (lenOf d_3 rfl) k_108 rfl rfl rfl (W := 0) (Nat.le_of_eq rfl) (by decide)
  have N58 := Fr.app (Fr.nil n0) N58q
  have pre_59 := fun t k => pre_58 t <| XS.istore X58.here hx rfl (hb hby k_109) rfl (l' := #[vr a1, vi m1, vi 68, vi (m1 <<< ((1 : Int32) &&& 31)), vi ((m1 <<< ((1 : Int32) &&& 31)) - (68 : Int32)), vi 140]) rfl <| oJ K X58 k_110 rfl rfl <| oLi K X58 (oW hw 107 rfl) k_111 rfl <| XS.icmpYes X58.here hx rfl (pc0 := 38) (pc' := 51) rfl (hb hby k_112) rfl (XT.ii_ne_t (by decide)) (by decide) (by decide) <| oJ K X58 k_113 rfl rfl <| oA K X58 k_114 rfl rfl rfl <| k
  obtain ⟨T60, X60, e60, pre_60⟩ := gF pre_59 K X58 e58 (oW hw 34 rfl) Via.refl F2 k_115 rfl rfl
  have pre_61 := fun t k => pre_60 t <| XT.ishr X60.here hx rfl (hb hby k_116) rfl <| k
  have pre_62 : Pr p e below E0 T60 (mkF m 58 #[vr a1, vi m1, vi 68, vi (m1 <<< ((1 : Int32) &&& 31)), vi ((m1 <<< ((1 : Int32) &&& 31)) - (68 : Int32)), vi 140] [(.int 70)]) := pre_61
  exact rtI pre_62 K X60 e60 hret hlk k_117 (by decide) (hP _ _ _ ⟨rfl, N58, rfl⟩)
theorem rm_ecg68 (hw : Hw a0 Z) (a1 : Addr) (m1 : Int32) (b1 : Addr) (kB : ClassId) (ls : List Value) (c1 : Int32) (h0 : Heap) (n0 : Nat) (O0 : Old Z n0 h0) (F3 : Fld Z h0 a1 s1_ "count" "I" (.int c1)) (F4 : Fld Z h0 a1 s1_ s5_ "Z" (.int 0)) (E1 : Exa Z h0 a1 s4_) (g1 : n0 ≤ a1) (F1 : Fld Z h0 a1 s1_ "value" "[B" (.ref b1)) (F2 : Fld Z h0 a1 s1_ "coder" "B" (.int 1)) (V1 : Arv Z h0 b1 kB .byte (68 : Int32) ls (.int 0)) (hc : ((m1 <<< ((1 : Int32) &&& 31)) - (68 : Int32)) < (72 : Int32)) (hp : (0 : Int32) < (m1 - (34 : Int32))) (hl : ls.length ≤ 68) : Met l Z y_9 c_9 3 none (Rm 3 1 284 50) #[(.ref a1), (.int m1)] h0 (fun v h L => v = none ∧ Fr n0 L ∧ Keep h0 h [a1] ∧ ∃ b kN, h0.size ≤ b ∧ Fld Z h a1 s1_ "value" "[B" (.ref b) ∧ Fld Z h a1 s1_ "coder" "B" (.int 1) ∧ Fld Z h a1 s1_ "count" "I" (.int c1) ∧ Fld Z h a1 s1_ s5_ "Z" (.int 0) ∧ Arv Z h b kN .byte (140 : Int32) ls (.int 0)) := by
  refine own_met (own := s1_) (G := fun m => (mkF m 0 #[vr a1, vi m1, uz] [])) rfl n_9 ?_
  intro p e s m below meth c s₁ E0 P hP K hnm hret hlk hh X0 eH pre0
  obtain ⟨hx, hZ, hown, hby, hml⟩ := id K
  have pre_51 := fun t k => pre0 t <| oA K X0 k_75 rfl rfl rfl <| k
  obtain ⟨T52, X52, e52, pre_52⟩ := gF pre_51 K X0 eH (oW hw 32 rfl) Via.refl F1 k_76 rfl rfl
  have pre_53 := fun t k => pre_52 t <| oAl K X52 e52 V1 k_77 rfl rfl <| oA K X52 k_78 rfl rfl rfl <| k
  obtain ⟨T54, X54, e54, pre_54⟩ := gF pre_53 K X52 e52 (oW hw 34 rfl) Via.refl F2 k_79 rfl rfl
  have pre_55 := fun t k => pre_54 t <| XT.ishr X54.here hx rfl (hb hby k_80) rfl <| XS.istoreN X54.here hx rfl (hb hby k_81) rfl (l' := #[vr a1, vi m1, vi 34]) rfl <| oI K X54 k_82 rfl rfl <| oI K X54 k_83 rfl rfl <| XS.isub X54.here hx rfl (hb hby k_84) rfl <| XS.ifNo X54.here hx rfl (hb hby k_85) rfl (XT.i0_le_f hp) <| oA K X54 k_118 rfl rfl rfl <| oA K X54 k_119 rfl rfl rfl <| k
  obtain ⟨T56, X56, e56, pre_56⟩ := gF pre_55 K X54 e54 (oW hw 32 rfl) Via.refl F1 k_120 rfl rfl
  have pre_57 : Pr p e below E0 T56 (mkF m 24 #[vr a1, vi m1, vi 34] [(.int m1), (.ref a1), (.ref b1), (.ref a1)]) := fun t k => pre_56 t <| oA K X56 k_121 rfl rfl rfl <| oI K X56 k_122 rfl rfl <| k
  obtain ⟨T58, _, L58, X58, ⟨rfl, N58q, e58⟩, pre_58⟩ := cP pre_57 K X56 e56 (rm_nca68 l Z a0 hw a1 m1 b1 kB ls h0 n0 O0 F1 F2 V1 hc) (oW hw 93 rfl) (oW hw 94 rfl) (oW hw 26 rfl) (oW hw 97 rfl) (oW hw 95 rfl) (oW hw 96 rfl) E1 rfl (lenOf d_4 rfl) k_123 rfl rfl rfl (W := 2) (Nat.le_of_eq rfl) (by decide)
  have N58 := Fr.app (Fr.nil n0) N58q
  have pre_59 := fun t k => pre_58 t <| oA K X58 k_124 rfl rfl rfl <| k
  obtain ⟨T60, X60, e60, pre_60⟩ := gF pre_59 K X58 e58 (oW hw 34 rfl) Via.refl F2 k_125 rfl rfl
  have pre_61 := fun t k => pre_60 t <| XT.ishl X60.here hx rfl (hb hby k_126) rfl <| k
  obtain ⟨T62, _, L62, X62, ⟨b62, kN62, rfl, N62q, K62, sb62, Vb62⟩, pre_62⟩ := cS pre_61 K X60 e60 (rm_cof l Z a0 hw b1 (140 : Int32) (68 : Int32) kB ls h0 n0 O0 V1 (by decide) (by decide) (by decide) (by decide) (by decide) (by decide) hl) (oW hw 108 rfl) (oW hw 109 rfl) (oW hw 110 rfl) (oW hw 111 rfl) rfl (lenOf d_5 rfl) k_127 rfl rfl rfl (W := 1) (Nat.le_of_eq rfl) (by decide)
  have N62 := Fr.app N58 N62q
  have O62 : Old Z n0 T62.heap := O0.keep K62 all0
  obtain ⟨T63, h63, X63, e63, W63, Fw63, pre_63⟩ := pF pre_62 K X62 rfl (.array .byte) (oW hw 32 rfl) (F1.keep K62 nin0) (E1.keep K62) (Or.inl (oW hw 33 rfl)) (oW hw 17 rfl) k_128 rfl rfl (by decide) rfl rfl
  have N63 := Fr.snoc X63 N62 g1
  have O63 := O62.wr W63 g1
  have x_64 := (Ne.symm (Nat.ne_of_lt (Nat.lt_of_lt_of_le E1.lt sb62)))
  have u_65 := (((Keep.refl h0 [a1]).trans K62 all0).wr W63 (Or.inl (List.mem_of_getElem? (i := 0) rfl)))
  have f_66 := ((F2.keep K62 nin0).other W63 (Or.inr (slot_ne (Or.inl (oW hw 35 rfl)) (Or.inl (oW hw 33 rfl)) (by decide) (t := .byte) (t' := (.array .byte)) (by decide) (by decide))))
  have f_67 := ((F3.keep K62 nin0).other W63 (Or.inr (slot_ne (Or.inl (oW hw 48 rfl)) (Or.inl (oW hw 33 rfl)) (by decide) (t := .int) (t' := (.array .byte)) (by decide) (by decide))))
  have f_68 := ((F4.keep K62 nin0).other W63 (Or.inr (slot_ne (Or.inl (oW hw 406 rfl)) (Or.inl (oW hw 33 rfl)) (by decide) (t := .boolean) (t' := (.array .byte)) (by decide) (by decide))))
  exact rtV pre_63 K X63 e63 hret hlk k_86 (by decide) (hP _ _ _ ⟨rfl, N63, u_65, b62, kN62, (Nat.le_trans (Keep.refl h0 [a1]).1 sb62), Fw63, f_66, f_67, f_68, (Vb62.other W63 x_64)⟩)
theorem rm_nca140 (hw : Hw a0 Z) (a1 : Addr) (m1 : Int32) (b1 : Addr) (kB : ClassId) (ls : List Value) (h0 : Heap) (n0 : Nat) (O0 : Old Z n0 h0) (F1 : Fld Z h0 a1 s1_ "value" "[B" (.ref b1)) (F2 : Fld Z h0 a1 s1_ "coder" "B" (.int 1)) (V1 : Arv Z h0 b1 kB .byte (140 : Int32) ls (.int 0)) (hc : ((m1 <<< ((1 : Int32) &&& 31)) - (140 : Int32)) < (144 : Int32)) : Met l Z y_10 c_10 6 (some .int) (Rm 2 0 0 30) #[(.ref a1), (.int m1)] h0 (fun v h L => v = some (.int 142) ∧ Fr n0 L ∧ h = h0) := by
  refine own_met (own := s1_) (G := fun m => (mkF m 0 #[vr a1, vi m1, uz, uz, uz, uz] [])) rfl n_10 ?_
  intro p e s m below meth c s₁ E0 P hP K hnm hret hlk hh X0 eH pre0
  obtain ⟨hx, hZ, hown, hby, hml⟩ := id K
  have pre_51 := fun t k => pre0 t <| oA K X0 k_87 rfl rfl rfl <| k
  obtain ⟨T52, X52, e52, pre_52⟩ := gF pre_51 K X0 eH (oW hw 32 rfl) Via.refl F1 k_88 rfl rfl
  have pre_53 := fun t k => pre_52 t <| oAl K X52 e52 V1 k_89 rfl rfl <| XS.istoreN X52.here hx rfl (hb hby k_90) rfl (l' := #[vr a1, vi m1, vi 140, uz, uz, uz]) rfl <| oI K X52 k_91 rfl rfl <| oA K X52 k_92 rfl rfl rfl <| k
  obtain ⟨T54, X54, e54, pre_54⟩ := gF pre_53 K X52 e52 (oW hw 34 rfl) Via.refl F2 k_93 rfl rfl
  have pre_55 : Pr p e below E0 T54 (mkF m 24 #[vr a1, vi m1, vi 140, vi (m1 <<< ((1 : Int32) &&& 31)), vi ((m1 <<< ((1 : Int32) &&& 31)) - (140 : Int32)), uz] [(.ref a1), (.int 2), (.int 140), (.int ((m1 <<< ((1 : Int32) &&& 31)) - (140 : Int32))), (.int 140)]) := fun t k => pre_54 t <| XT.ishl X54.here hx rfl (hb hby k_94) rfl <| XS.istoreN X54.here hx rfl (hb hby k_95) rfl (l' := #[vr a1, vi m1, vi 140, vi (m1 <<< ((1 : Int32) &&& 31)), uz, uz]) rfl <| oI K X54 k_96 rfl rfl <| oI K X54 k_97 rfl rfl <| XS.isub X54.here hx rfl (hb hby k_98) rfl <| XS.istore X54.here hx rfl (hb hby k_99) rfl (l' := #[vr a1, vi m1, vi 140, vi (m1 <<< ((1 : Int32) &&& 31)), vi ((m1 <<< ((1 : Int32) &&& 31)) - (140 : Int32)), uz]) rfl <| oI K X54 k_100 rfl rfl <| oJ K X54 k_101 rfl rfl <| oI K X54 k_102 rfl rfl <| XS.iconst X54.here hx rfl (hb hby k_103) <| oA K X54 k_104 rfl rfl rfl <| k
  obtain ⟨T56, X56, e56, pre_56⟩ := gF pre_55 K X54 e54 (oW hw 34 rfl) Via.refl F2 k_105 rfl rfl
  have pre_57 := fun t k => pre_56 t <| XT.ishl X56.here hx rfl (hb hby k_106) rfl <| XS.iadd X56.here hx rfl (hb hby k_107) rfl <| k
  obtain ⟨T58, _, L58, X58, ⟨rfl, N58q, e58⟩, pre_58⟩ := cS pre_57 K X56 e56 (rm_nle l Z a0 hw (140 : Int32) ((m1 <<< ((1 : Int32) &&& 31)) - (140 : Int32)) (144 : Int32) (284 : Int32) h0 n0 O0 hc (by decide) (by decide) (by decide)) (oW hw 98 rfl) (oW hw 99 rfl) (oW hw 100 rfl) (oW hw 101 rfl) rfl (lenOf d_3 rfl) k_108 rfl rfl rfl (W := 0) (Nat.le_of_eq rfl) (by decide)
  have N58 := Fr.app (Fr.nil n0) N58q
  have pre_59 := fun t k => pre_58 t <| XS.istore X58.here hx rfl (hb hby k_109) rfl (l' := #[vr a1, vi m1, vi 140, vi (m1 <<< ((1 : Int32) &&& 31)), vi ((m1 <<< ((1 : Int32) &&& 31)) - (140 : Int32)), vi 284]) rfl <| oJ K X58 k_110 rfl rfl <| oLi K X58 (oW hw 107 rfl) k_111 rfl <| XS.icmpYes X58.here hx rfl (pc0 := 38) (pc' := 51) rfl (hb hby k_112) rfl (XT.ii_ne_t (by decide)) (by decide) (by decide) <| oJ K X58 k_113 rfl rfl <| oA K X58 k_114 rfl rfl rfl <| k
  obtain ⟨T60, X60, e60, pre_60⟩ := gF pre_59 K X58 e58 (oW hw 34 rfl) Via.refl F2 k_115 rfl rfl
  have pre_61 := fun t k => pre_60 t <| XT.ishr X60.here hx rfl (hb hby k_116) rfl <| k
  have pre_62 : Pr p e below E0 T60 (mkF m 58 #[vr a1, vi m1, vi 140, vi (m1 <<< ((1 : Int32) &&& 31)), vi ((m1 <<< ((1 : Int32) &&& 31)) - (140 : Int32)), vi 284] [(.int 142)]) := pre_61
  exact rtI pre_62 K X60 e60 hret hlk k_117 (by decide) (hP _ _ _ ⟨rfl, N58, rfl⟩)
theorem rm_ecg140 (hw : Hw a0 Z) (a1 : Addr) (m1 : Int32) (b1 : Addr) (kB : ClassId) (ls : List Value) (c1 : Int32) (h0 : Heap) (n0 : Nat) (O0 : Old Z n0 h0) (F3 : Fld Z h0 a1 s1_ "count" "I" (.int c1)) (F4 : Fld Z h0 a1 s1_ s5_ "Z" (.int 0)) (E1 : Exa Z h0 a1 s4_) (g1 : n0 ≤ a1) (F1 : Fld Z h0 a1 s1_ "value" "[B" (.ref b1)) (F2 : Fld Z h0 a1 s1_ "coder" "B" (.int 1)) (V1 : Arv Z h0 b1 kB .byte (140 : Int32) ls (.int 0)) (hc : ((m1 <<< ((1 : Int32) &&& 31)) - (140 : Int32)) < (144 : Int32)) (hp : (0 : Int32) < (m1 - (70 : Int32))) (hl : ls.length ≤ 140) : Met l Z y_9 c_9 3 none (Rm 3 1 284 50) #[(.ref a1), (.int m1)] h0 (fun v h L => v = none ∧ Fr n0 L ∧ Keep h0 h [a1] ∧ ∃ b kN, h0.size ≤ b ∧ Fld Z h a1 s1_ "value" "[B" (.ref b) ∧ Fld Z h a1 s1_ "coder" "B" (.int 1) ∧ Fld Z h a1 s1_ "count" "I" (.int c1) ∧ Fld Z h a1 s1_ s5_ "Z" (.int 0) ∧ Arv Z h b kN .byte (284 : Int32) ls (.int 0)) := by
  refine own_met (own := s1_) (G := fun m => (mkF m 0 #[vr a1, vi m1, uz] [])) rfl n_9 ?_
  intro p e s m below meth c s₁ E0 P hP K hnm hret hlk hh X0 eH pre0
  obtain ⟨hx, hZ, hown, hby, hml⟩ := id K
  have pre_51 := fun t k => pre0 t <| oA K X0 k_75 rfl rfl rfl <| k
  obtain ⟨T52, X52, e52, pre_52⟩ := gF pre_51 K X0 eH (oW hw 32 rfl) Via.refl F1 k_76 rfl rfl
  have pre_53 := fun t k => pre_52 t <| oAl K X52 e52 V1 k_77 rfl rfl <| oA K X52 k_78 rfl rfl rfl <| k
  obtain ⟨T54, X54, e54, pre_54⟩ := gF pre_53 K X52 e52 (oW hw 34 rfl) Via.refl F2 k_79 rfl rfl
  have pre_55 := fun t k => pre_54 t <| XT.ishr X54.here hx rfl (hb hby k_80) rfl <| XS.istoreN X54.here hx rfl (hb hby k_81) rfl (l' := #[vr a1, vi m1, vi 70]) rfl <| oI K X54 k_82 rfl rfl <| oI K X54 k_83 rfl rfl <| XS.isub X54.here hx rfl (hb hby k_84) rfl <| XS.ifNo X54.here hx rfl (hb hby k_85) rfl (XT.i0_le_f hp) <| oA K X54 k_118 rfl rfl rfl <| oA K X54 k_119 rfl rfl rfl <| k
  obtain ⟨T56, X56, e56, pre_56⟩ := gF pre_55 K X54 e54 (oW hw 32 rfl) Via.refl F1 k_120 rfl rfl
  have pre_57 : Pr p e below E0 T56 (mkF m 24 #[vr a1, vi m1, vi 70] [(.int m1), (.ref a1), (.ref b1), (.ref a1)]) := fun t k => pre_56 t <| oA K X56 k_121 rfl rfl rfl <| oI K X56 k_122 rfl rfl <| k
  obtain ⟨T58, _, L58, X58, ⟨rfl, N58q, e58⟩, pre_58⟩ := cP pre_57 K X56 e56 (rm_nca140 l Z a0 hw a1 m1 b1 kB ls h0 n0 O0 F1 F2 V1 hc) (oW hw 93 rfl) (oW hw 94 rfl) (oW hw 26 rfl) (oW hw 97 rfl) (oW hw 95 rfl) (oW hw 96 rfl) E1 rfl (lenOf d_4 rfl) k_123 rfl rfl rfl (W := 2) (Nat.le_of_eq rfl) (by decide)
  have N58 := Fr.app (Fr.nil n0) N58q
  have pre_59 := fun t k => pre_58 t <| oA K X58 k_124 rfl rfl rfl <| k
  obtain ⟨T60, X60, e60, pre_60⟩ := gF pre_59 K X58 e58 (oW hw 34 rfl) Via.refl F2 k_125 rfl rfl
  have pre_61 := fun t k => pre_60 t <| XT.ishl X60.here hx rfl (hb hby k_126) rfl <| k
  obtain ⟨T62, _, L62, X62, ⟨b62, kN62, rfl, N62q, K62, sb62, Vb62⟩, pre_62⟩ := cS pre_61 K X60 e60 (rm_cof l Z a0 hw b1 (284 : Int32) (140 : Int32) kB ls h0 n0 O0 V1 (by decide) (by decide) (by decide) (by decide) (by decide) (by decide) hl) (oW hw 108 rfl) (oW hw 109 rfl) (oW hw 110 rfl) (oW hw 111 rfl) rfl (lenOf d_5 rfl) k_127 rfl rfl rfl (W := 1) (Nat.le_of_eq rfl) (by decide)
  have N62 := Fr.app N58 N62q
  have O62 : Old Z n0 T62.heap := O0.keep K62 all0
  obtain ⟨T63, h63, X63, e63, W63, Fw63, pre_63⟩ := pF pre_62 K X62 rfl (.array .byte) (oW hw 32 rfl) (F1.keep K62 nin0) (E1.keep K62) (Or.inl (oW hw 33 rfl)) (oW hw 17 rfl) k_128 rfl rfl (by decide) rfl rfl
  have N63 := Fr.snoc X63 N62 g1
  have O63 := O62.wr W63 g1
  have x_64 := (Ne.symm (Nat.ne_of_lt (Nat.lt_of_lt_of_le E1.lt sb62)))
  have u_65 := (((Keep.refl h0 [a1]).trans K62 all0).wr W63 (Or.inl (List.mem_of_getElem? (i := 0) rfl)))
  have f_66 := ((F2.keep K62 nin0).other W63 (Or.inr (slot_ne (Or.inl (oW hw 35 rfl)) (Or.inl (oW hw 33 rfl)) (by decide) (t := .byte) (t' := (.array .byte)) (by decide) (by decide))))
  have f_67 := ((F3.keep K62 nin0).other W63 (Or.inr (slot_ne (Or.inl (oW hw 48 rfl)) (Or.inl (oW hw 33 rfl)) (by decide) (t := .int) (t' := (.array .byte)) (by decide) (by decide))))
  have f_68 := ((F4.keep K62 nin0).other W63 (Or.inr (slot_ne (Or.inl (oW hw 406 rfl)) (Or.inl (oW hw 33 rfl)) (by decide) (t := .boolean) (t' := (.array .byte)) (by decide) (by decide))))
  exact rtV pre_63 K X63 e63 hret hlk k_86 (by decide) (hP _ _ _ ⟨rfl, N63, u_65, b62, kN62, (Nat.le_trans (Keep.refl h0 [a1]).1 sb62), Fw63, f_66, f_67, f_68, (Vb62.other W63 x_64)⟩)
theorem rm_gby0 (hw : Hw a0 Z) (s1 : Addr) (b2 : Addr) (i1 : Int32) (G1 n1 : Int32) (b1 : Addr) (kB : ClassId) (vs : List Value) (z1 dp1 : Int32) (kD : ClassId) (vd : List Value) (h0 : Heap) (n0 : Nat) (O0 : Old Z n0 h0) (E2 : Exa Z h0 s1 s2_) (Fc2 : Fld Z h0 s1 s2_ "coder" "B" (.int 0)) (Fv2 : Fld Z h0 s1 s2_ "value" "[B" (.ref b1)) (V2 : Arv Z h0 b1 kB .byte n1 vs (.int 0)) (SC : Sta Z Z.heap s2_ s6_ "Z" (.int G1)) (hG : ¬ G1 = (0 : Int32)) (V3 : Arv Z h0 b2 kD .byte z1 vd (.int 0)) (g2 : n0 ≤ b2) (ne12 : b1 ≠ b2) (hd : (i1 <<< ((0 : Int32) &&& 31)) = dp1) (h2 : ¬ dp1 < 0) (h3 : ¬ n1 < 0) (h5 : dp1.toNatClampNeg + n1.toNatClampNeg ≤ (z1 : Int32).toNatClampNeg) (hdp : dp1.toNatClampNeg = vd.length) (hvs : vs.length = n1.toNatClampNeg) (hk : n1.toNatClampNeg ≤ 1000) : Met l Z y_11 c_11 4 none (Rm 1 0 0 20) #[(.ref s1), (.ref b2), (.int i1), (.int 0)] h0 (fun v h L => v = none ∧ Fr n0 L ∧ Keep h0 h [b2] ∧ Arv Z h b2 kD .byte z1 (vd ++ vs) (.int 0)) := by
  refine own_met (own := s2_) (G := fun m => (mkF m 0 #[vr s1, vr b2, vi i1, vi 0] [])) rfl n_11 ?_
  intro p e s m below meth c s₁ E0 P hP K hnm hret hlk hh X0 eH pre0
  obtain ⟨hx, hZ, hown, hby, hml⟩ := id K
  have pre_51 := fun t k => pre0 t <| oA K X0 k_129 rfl rfl rfl <| k
  obtain ⟨T52, _, L52, X52, ⟨rfl, N52q, e52⟩, pre_52⟩ := cV pre_51 K X0 eH (rm_cod0 l Z a0 hw s1 G1 h0 n0 O0 Fc2 SC hG) (oW hw 86 rfl) (oW hw 88 rfl) (oW hw 1 rfl) (oW hw 90 rfl) (oW hw 87 rfl) (oW hw 89 rfl) (notFace_of_selects (args := #[]) (mvT hZ (oW hw 89 rfl))) E2 rfl (lenOf d_1 rfl) k_130 rfl rfl rfl (W := 0) (Nat.le_of_eq rfl) (by decide)
  have N52 := Fr.app (Fr.nil n0) N52q
  have pre_53 := fun t k => pre_52 t <| oI K X52 k_131 rfl rfl <| XS.icmpNo X52.here hx rfl (hb hby k_132) rfl (XT.ii_ne_f (by decide)) <| oA K X52 k_133 rfl rfl rfl <| k
  obtain ⟨T54, X54, e54, pre_54⟩ := gF pre_53 K X52 e52 (oW hw 85 rfl) Via.refl Fv2 k_134 rfl rfl
  have pre_55 := fun t k => pre_54 t <| XS.iconst X54.here hx rfl (hb hby k_135) <| oA K X54 k_136 rfl rfl rfl <| oI K X54 k_137 rfl rfl <| oI K X54 k_138 rfl rfl <| XT.ishl X54.here hx rfl (hb hby k_139) rfl <| k
  have pre_56 : Pr p e below E0 T54 (mkF m 17 #[vr s1, vr b2, vi i1, vi 0] [(.int (i1 <<< ((0 : Int32) &&& 31))), (.ref b2), (.int 0), (.ref b1)]) := pre_55
  rw [hd] at pre_56
  have pre_57 := fun t k => pre_56 t <| oA K X54 k_140 rfl rfl rfl <| k
  obtain ⟨T58, X58, e58, pre_58⟩ := gF pre_57 K X54 e54 (oW hw 85 rfl) Via.refl Fv2 k_141 rfl rfl
  have pre_59 := fun t k => pre_58 t <| oAl K X58 e58 V2 k_142 rfl rfl <| k
  obtain ⟨T60, h60, L60, X60, e60, N60, K60, U60, st60⟩ := cpA X58 hx hZ hown (oW hw 135 rfl) (oW hw 118 rfl) (oW hw 116 rfl) (oW hw 117 rfl) e58 V2 (Arv.pad V3 (pad_rep vd _ 1000)) (Or.inl ⟨rfl, rfl⟩) (by decide) h2 h3 (by show 0 + _ ≤ _; omega) h5 rfl (own_hl hdp (show vs.length ≤ n1.toNatClampNeg ∧ n1.toNatClampNeg ≤ 1000 from ⟨Nat.le_of_eq hvs, hk⟩).2) N52 g2 (g := (mkF m 22 #[vr s1, vr b2, vi i1, vi 0] [(.int n1), (.int dp1), (.ref b2), (.int 0), (.ref b1)])) rfl (by rw [hml]; rfl) rfl (hb hby k_143) (by decide) (W := 0) (by show 2 * 0 + _ ≤ _; exact Nat.le_of_eq rfl) (by decide)
  have V60 : Arv Z h60 b2 kD .byte z1 (vd ++ vs) (.int 0) := Arv.pad U60 (own_cat hdp (show vs.length ≤ n1.toNatClampNeg ∧ n1.toNatClampNeg ≤ 1000 from ⟨Nat.le_of_eq hvs, hk⟩).1)
  have O60 : Old Z n0 h60 := O0.keep K60 (allS g2 all0)
  have pre_61 : Pr p e below E0 T60 (mkF m 25 #[vr s1, vr b2, vi i1, vi 0] []) := fun t k => pre_59 t (st60 t k)
  have pre_62 := fun t k => pre_61 t <| XS.goto X60.here hx rfl (pc0 := 25) (pc' := 43) rfl (hb hby k_144) (by decide) (by decide) <| k
  exact rtV pre_62 K X60 e60 hret hlk k_145 (by decide) (hP _ _ _ ⟨rfl, N60, ((Keep.refl h0 [b2]).trans K60 (allS (Or.inl (List.mem_of_getElem? (i := 0) rfl)) all0)), V60⟩)
theorem rm_inn0 (hw : Hw a0 Z) (a1 : Addr) (s1 : Addr) (G1 : Int32) (h0 : Heap) (n0 : Nat) (O0 : Old Z n0 h0) (Fb2 : Fld Z h0 a1 s1_ "coder" "B" (.int 0)) (E2 : Exa Z h0 s1 s2_) (Fc2 : Fld Z h0 s1 s2_ "coder" "B" (.int 0)) (SC : Sta Z Z.heap s2_ s6_ "Z" (.int G1)) (hG : ¬ G1 = (0 : Int32)) : Met l Z y_12 c_12 2 none (Rm 1 0 0 14) #[(.ref a1), (.ref s1)] h0 (fun v h L => v = none ∧ Fr n0 L ∧ h = h0) := by
  refine own_met (own := s1_) (G := fun m => (mkF m 0 #[vr a1, vr s1] [])) rfl n_12 ?_
  intro p e s m below meth c s₁ E0 P hP K hnm hret hlk hh X0 eH pre0
  obtain ⟨hx, hZ, hown, hby, hml⟩ := id K
  obtain ⟨T51, X51, e51, pre_51⟩ := gS pre0 K X0 eH (oW hw 31 rfl) (SC.ext O0.2) k_146 rfl
  have pre_52 := fun t k => pre_51 t <| XS.ifNo X51.here hx rfl (hb hby k_147) rfl (XT.i0_eq_f hG) <| oA K X51 k_148 rfl rfl rfl <| k
  obtain ⟨T53, X53, e53, pre_53⟩ := gF pre_52 K X51 e51 (oW hw 34 rfl) Via.refl Fb2 k_149 rfl rfl
  have pre_54 := fun t k => pre_53 t <| oA K X53 k_150 rfl rfl rfl <| k
  obtain ⟨T55, _, L55, X55, ⟨rfl, N55q, e55⟩, pre_55⟩ := cV pre_54 K X53 e53 (rm_cod0 l Z a0 hw s1 G1 h0 n0 O0 Fc2 SC hG) (oW hw 129 rfl) (oW hw 88 rfl) (oW hw 1 rfl) (oW hw 90 rfl) (oW hw 87 rfl) (oW hw 89 rfl) (notFace_of_selects (args := #[]) (mvT hZ (oW hw 89 rfl))) E2 rfl (lenOf d_1 rfl) k_151 rfl rfl rfl (W := 1) (Nat.le_of_eq rfl) (by decide)
  have N55 := Fr.app (Fr.nil n0) N55q
  have pre_56 := fun t k => pre_55 t <| XS.icmpYes X55.here hx rfl (pc0 := 14) (pc' := 21) rfl (hb hby k_152) rfl (XT.ii_eq_t (by decide)) (by decide) (by decide) <| k
  exact rtV pre_56 K X55 e55 hret hlk k_153 (by decide) (hP _ _ _ ⟨rfl, N55, rfl⟩)
theorem rm_psa0 (hw : Hw a0 Z) (a1 : Addr) (i1 : Int32) (s1 : Addr) (G1 n1 : Int32) (b1 : Addr) (kB : ClassId) (vs : List Value) (z1 dp1 : Int32) (b2 : Addr) (kD : ClassId) (vd : List Value) (h0 : Heap) (n0 : Nat) (O0 : Old Z n0 h0) (Ea1 : Exa Z h0 a1 s4_) (g1 : n0 ≤ a1) (Fb1 : Fld Z h0 a1 s1_ "value" "[B" (.ref b2)) (Fb2 : Fld Z h0 a1 s1_ "coder" "B" (.int 0)) (V3 : Arv Z h0 b2 kD .byte z1 vd (.int 0)) (g2 : n0 ≤ b2) (E2 : Exa Z h0 s1 s2_) (Fc2 : Fld Z h0 s1 s2_ "coder" "B" (.int 0)) (Fv2 : Fld Z h0 s1 s2_ "value" "[B" (.ref b1)) (V2 : Arv Z h0 b1 kB .byte n1 vs (.int 0)) (SC : Sta Z Z.heap s2_ s6_ "Z" (.int G1)) (hG : ¬ G1 = (0 : Int32)) (ne12 : b1 ≠ b2) (hd : (i1 <<< ((0 : Int32) &&& 31)) = dp1) (h2 : ¬ dp1 < 0) (h3 : ¬ n1 < 0) (h5 : dp1.toNatClampNeg + n1.toNatClampNeg ≤ (z1 : Int32).toNatClampNeg) (hdp : dp1.toNatClampNeg = vd.length) (hvs : vs.length = n1.toNatClampNeg) (hk : n1.toNatClampNeg ≤ 1000) : Met l Z y_13 c_13 3 none (Rm 2 0 0 40) #[(.ref a1), (.int i1), (.ref s1)] h0 (fun v h L => v = none ∧ Fr n0 L ∧ Keep h0 h [b2] ∧ Arv Z h b2 kD .byte z1 (vd ++ vs) (.int 0)) := by
  refine own_met (own := s1_) (G := fun m => (mkF m 0 #[vr a1, vi i1, vr s1] [])) rfl n_13 ?_
  intro p e s m below meth c s₁ E0 P hP K hnm hret hlk hh X0 eH pre0
  obtain ⟨hx, hZ, hown, hby, hml⟩ := id K
  have pre_51 := fun t k => pre0 t <| oA K X0 k_154 rfl rfl rfl <| oA K X0 k_155 rfl rfl rfl <| k
  obtain ⟨T52, _, L52, X52, ⟨rfl, N52q, e52⟩, pre_52⟩ := cP pre_51 K X0 eH (rm_inn0 l Z a0 hw a1 s1 G1 h0 n0 O0 Fb2 E2 Fc2 SC hG) (oW hw 124 rfl) (oW hw 125 rfl) (oW hw 26 rfl) (oW hw 128 rfl) (oW hw 126 rfl) (oW hw 127 rfl) Ea1 rfl (lenOf d_6 rfl) k_156 rfl rfl rfl (W := 0) (Nat.le_of_eq rfl) (by decide)
  have N52 := Fr.app (Fr.nil n0) N52q
  have pre_53 := fun t k => pre_52 t <| oA K X52 k_157 rfl rfl rfl <| oA K X52 k_158 rfl rfl rfl <| k
  obtain ⟨T54, X54, e54, pre_54⟩ := gF pre_53 K X52 e52 (oW hw 32 rfl) Via.refl Fb1 k_159 rfl rfl
  have pre_55 := fun t k => pre_54 t <| oI K X54 k_160 rfl rfl <| oA K X54 k_161 rfl rfl rfl <| k
  obtain ⟨T56, X56, e56, pre_56⟩ := gF pre_55 K X54 e54 (oW hw 34 rfl) Via.refl Fb2 k_162 rfl rfl
  obtain ⟨T57, _, L57, X57, ⟨rfl, N57q, K57, Vb57⟩, pre_57⟩ := cV pre_56 K X56 e56 (rm_gby0 l Z a0 hw s1 b2 i1 G1 n1 b1 kB vs z1 dp1 kD vd h0 n0 O0 E2 Fc2 Fv2 V2 SC hG V3 g2 ne12 hd h2 h3 h5 hdp hvs hk) (oW hw 130 rfl) (oW hw 132 rfl) (oW hw 1 rfl) (oW hw 134 rfl) (oW hw 131 rfl) (oW hw 133 rfl) (notFace_of_selects (args := #[]) (mvT hZ (oW hw 133 rfl))) E2 rfl (lenOf d_7 rfl) k_163 rfl rfl rfl (W := 0) (Nat.le_of_eq rfl) (by decide)
  have N57 := Fr.app N52 N57q
  have O57 : Old Z n0 T57.heap := O0.keep K57 (allS g2 all0)
  exact rtV pre_57 K X57 rfl hret hlk k_164 (by decide) (hP _ _ _ ⟨rfl, N57, ((Keep.refl h0 [b2]).trans K57 (allS (Or.inl (List.mem_of_getElem? (i := 0) rfl)) all0)), Vb57⟩)
theorem rm_gby1 (hw : Hw a0 Z) (s1 : Addr) (b2 : Addr) (i1 : Int32) (G1 n1 : Int32) (b1 : Addr) (kB : ClassId) (vs : List Value) (z1 dp1 : Int32) (kD : ClassId) (vd : List Value) (h0 : Heap) (n0 : Nat) (O0 : Old Z n0 h0) (E2 : Exa Z h0 s1 s2_) (Fc2 : Fld Z h0 s1 s2_ "coder" "B" (.int 1)) (Fv2 : Fld Z h0 s1 s2_ "value" "[B" (.ref b1)) (V2 : Arv Z h0 b1 kB .byte n1 vs (.int 0)) (SC : Sta Z Z.heap s2_ s6_ "Z" (.int G1)) (hG : ¬ G1 = (0 : Int32)) (V3 : Arv Z h0 b2 kD .byte z1 vd (.int 0)) (g2 : n0 ≤ b2) (ne12 : b1 ≠ b2) (hd : (i1 <<< ((1 : Int32) &&& 31)) = dp1) (h2 : ¬ dp1 < 0) (h3 : ¬ n1 < 0) (h5 : dp1.toNatClampNeg + n1.toNatClampNeg ≤ (z1 : Int32).toNatClampNeg) (hdp : dp1.toNatClampNeg = vd.length) (hvs : vs.length = n1.toNatClampNeg) (hk : n1.toNatClampNeg ≤ 1000) : Met l Z y_11 c_11 4 none (Rm 1 0 0 20) #[(.ref s1), (.ref b2), (.int i1), (.int 1)] h0 (fun v h L => v = none ∧ Fr n0 L ∧ Keep h0 h [b2] ∧ Arv Z h b2 kD .byte z1 (vd ++ vs) (.int 0)) := by
  refine own_met (own := s2_) (G := fun m => (mkF m 0 #[vr s1, vr b2, vi i1, vi 1] [])) rfl n_11 ?_
  intro p e s m below meth c s₁ E0 P hP K hnm hret hlk hh X0 eH pre0
  obtain ⟨hx, hZ, hown, hby, hml⟩ := id K
  have pre_51 := fun t k => pre0 t <| oA K X0 k_129 rfl rfl rfl <| k
  obtain ⟨T52, _, L52, X52, ⟨rfl, N52q, e52⟩, pre_52⟩ := cV pre_51 K X0 eH (rm_cod1 l Z a0 hw s1 G1 h0 n0 O0 Fc2 SC hG) (oW hw 86 rfl) (oW hw 88 rfl) (oW hw 1 rfl) (oW hw 90 rfl) (oW hw 87 rfl) (oW hw 89 rfl) (notFace_of_selects (args := #[]) (mvT hZ (oW hw 89 rfl))) E2 rfl (lenOf d_1 rfl) k_130 rfl rfl rfl (W := 0) (Nat.le_of_eq rfl) (by decide)
  have N52 := Fr.app (Fr.nil n0) N52q
  have pre_53 := fun t k => pre_52 t <| oI K X52 k_131 rfl rfl <| XS.icmpNo X52.here hx rfl (hb hby k_132) rfl (XT.ii_ne_f (by decide)) <| oA K X52 k_133 rfl rfl rfl <| k
  obtain ⟨T54, X54, e54, pre_54⟩ := gF pre_53 K X52 e52 (oW hw 85 rfl) Via.refl Fv2 k_134 rfl rfl
  have pre_55 := fun t k => pre_54 t <| XS.iconst X54.here hx rfl (hb hby k_135) <| oA K X54 k_136 rfl rfl rfl <| oI K X54 k_137 rfl rfl <| oI K X54 k_138 rfl rfl <| XT.ishl X54.here hx rfl (hb hby k_139) rfl <| k
  have pre_56 : Pr p e below E0 T54 (mkF m 17 #[vr s1, vr b2, vi i1, vi 1] [(.int (i1 <<< ((1 : Int32) &&& 31))), (.ref b2), (.int 0), (.ref b1)]) := pre_55
  rw [hd] at pre_56
  have pre_57 := fun t k => pre_56 t <| oA K X54 k_140 rfl rfl rfl <| k
  obtain ⟨T58, X58, e58, pre_58⟩ := gF pre_57 K X54 e54 (oW hw 85 rfl) Via.refl Fv2 k_141 rfl rfl
  have pre_59 := fun t k => pre_58 t <| oAl K X58 e58 V2 k_142 rfl rfl <| k
  obtain ⟨T60, h60, L60, X60, e60, N60, K60, U60, st60⟩ := cpA X58 hx hZ hown (oW hw 135 rfl) (oW hw 118 rfl) (oW hw 116 rfl) (oW hw 117 rfl) e58 V2 (Arv.pad V3 (pad_rep vd _ 1000)) (Or.inl ⟨rfl, rfl⟩) (by decide) h2 h3 (by show 0 + _ ≤ _; omega) h5 rfl (own_hl hdp (show vs.length ≤ n1.toNatClampNeg ∧ n1.toNatClampNeg ≤ 1000 from ⟨Nat.le_of_eq hvs, hk⟩).2) N52 g2 (g := (mkF m 22 #[vr s1, vr b2, vi i1, vi 1] [(.int n1), (.int dp1), (.ref b2), (.int 0), (.ref b1)])) rfl (by rw [hml]; rfl) rfl (hb hby k_143) (by decide) (W := 0) (by show 2 * 0 + _ ≤ _; exact Nat.le_of_eq rfl) (by decide)
  have V60 : Arv Z h60 b2 kD .byte z1 (vd ++ vs) (.int 0) := Arv.pad U60 (own_cat hdp (show vs.length ≤ n1.toNatClampNeg ∧ n1.toNatClampNeg ≤ 1000 from ⟨Nat.le_of_eq hvs, hk⟩).1)
  have O60 : Old Z n0 h60 := O0.keep K60 (allS g2 all0)
  have pre_61 : Pr p e below E0 T60 (mkF m 25 #[vr s1, vr b2, vi i1, vi 1] []) := fun t k => pre_59 t (st60 t k)
  have pre_62 := fun t k => pre_61 t <| XS.goto X60.here hx rfl (pc0 := 25) (pc' := 43) rfl (hb hby k_144) (by decide) (by decide) <| k
  exact rtV pre_62 K X60 e60 hret hlk k_145 (by decide) (hP _ _ _ ⟨rfl, N60, ((Keep.refl h0 [b2]).trans K60 (allS (Or.inl (List.mem_of_getElem? (i := 0) rfl)) all0)), V60⟩)
theorem rm_aapn0 (hw : Hw a0 Z) (a1 : Addr) (s1 : Addr) (G1 n1 : Int32) (b1 : Addr) (kB : ClassId) (vs : List Value) (c1 : Int32) (b2 : Addr) (kD : ClassId) (vd : List Value) (m1 c2 dp1 : Int32) (z1 : Int32) (h0 : Heap) (n0 : Nat) (O0 : Old Z n0 h0) (Ea1 : Exa Z h0 a1 s4_) (g1 : n0 ≤ a1) (Fb1 : Fld Z h0 a1 s1_ "value" "[B" (.ref b2)) (Fb2 : Fld Z h0 a1 s1_ "coder" "B" (.int 0)) (Fb3 : Fld Z h0 a1 s1_ "count" "I" (.int c1)) (Fb4 : Fld Z h0 a1 s1_ s5_ "Z" (.int 0)) (V3 : Arv Z h0 b2 kD .byte z1 vd (.int 0)) (g2 : n0 ≤ b2) (E2 : Exa Z h0 s1 s2_) (Fc2 : Fld Z h0 s1 s2_ "coder" "B" (.int 0)) (Fv2 : Fld Z h0 s1 s2_ "value" "[B" (.ref b1)) (V2 : Arv Z h0 b1 kB .byte n1 vs (.int 0)) (SC : Sta Z Z.heap s2_ s6_ "Z" (.int G1)) (hG : ¬ G1 = (0 : Int32)) (ne12 : b1 ≠ b2) (hm : (n1 >>> ((0 : Int32) &&& 31)) = m1) (hsum : (c1 + m1) = c2) (hd : (c1 <<< ((0 : Int32) &&& 31)) = dp1) (h2 : ¬ dp1 < 0) (h3 : ¬ n1 < 0) (h5 : dp1.toNatClampNeg + n1.toNatClampNeg ≤ (z1 : Int32).toNatClampNeg) (hdp : dp1.toNatClampNeg = vd.length) (hvs : vs.length = n1.toNatClampNeg) (hk : n1.toNatClampNeg ≤ 1000) (hn : ¬ (0 : Int32) < (c2 - (z1 >>> ((0 : Int32) &&& 31)))) : Met l Z y_14 c_14 3 (some (.object s1_)) (Rm 5 0 0 70) #[(.ref a1), (.ref s1)] h0 (fun v h L => v = some (.ref a1) ∧ Fr n0 L ∧ Keep h0 h [a1, b2] ∧ Fld Z h a1 s1_ "value" "[B" (.ref b2) ∧ Fld Z h a1 s1_ "coder" "B" (.int 0) ∧ Fld Z h a1 s1_ "count" "I" (.int c2) ∧ Fld Z h a1 s1_ s5_ "Z" (.int 0) ∧ Arv Z h b2 kD .byte z1 (vd ++ vs) (.int 0)) := by
  refine own_met (own := s1_) (G := fun m => (mkF m 0 #[vr a1, vr s1, uz] [])) rfl n_14 ?_
  intro p e s m below meth c s₁ E0 P hP K hnm hret hlk hh X0 eH pre0
  obtain ⟨hx, hZ, hown, hby, hml⟩ := id K
  have pre_51 := fun t k => pre0 t <| oA K X0 k_165 rfl rfl rfl <| XT.ifnonnullYes X0.here hx rfl (pc0 := 1) (pc' := 9) rfl (hb hby k_166) rfl (by decide) (by decide) <| oA K X0 k_167 rfl rfl rfl <| k
  obtain ⟨T52, _, L52, X52, ⟨rfl, N52q, e52⟩, pre_52⟩ := cV pre_51 K X0 eH (rm_len0 l Z a0 hw s1 G1 n1 m1 b1 kB vs h0 n0 O0 E2 Fc2 Fv2 V2 hm SC hG) (oW hw 80 rfl) (oW hw 82 rfl) (oW hw 1 rfl) (oW hw 84 rfl) (oW hw 81 rfl) (oW hw 83 rfl) (notFace_of_selects (args := #[]) (mvT hZ (oW hw 83 rfl))) E2 rfl (lenOf d_8 rfl) k_168 rfl rfl rfl (W := 0) (Nat.le_of_eq rfl) (by decide)
  have N52 := Fr.app (Fr.nil n0) N52q
  have pre_53 := fun t k => pre_52 t <| XS.istoreN X52.here hx rfl (hb hby k_169) rfl (l' := #[vr a1, vr s1, vi m1]) rfl <| oA K X52 k_170 rfl rfl rfl <| oA K X52 k_171 rfl rfl rfl <| k
  obtain ⟨T54, X54, e54, pre_54⟩ := gF pre_53 K X52 e52 (oW hw 47 rfl) Via.refl Fb3 k_172 rfl rfl
  have pre_55 := fun t k => pre_54 t <| oI K X54 k_173 rfl rfl <| XS.iadd X54.here hx rfl (hb hby k_174) rfl <| k
  have pre_56 : Pr p e below E0 T54 (mkF m 21 #[vr a1, vr s1, vi m1] [(.int (c1 + m1)), (.ref a1)]) := pre_55
  rw [hsum] at pre_56
  obtain ⟨T57, _, L57, X57, ⟨rfl, N57q, e57⟩, pre_57⟩ := cP pre_56 K X54 e54 (rm_ecn0 l Z a0 hw a1 c2 z1 b2 kD vd h0 n0 O0 Fb1 Fb2 V3 hn) (oW hw 54 rfl) (oW hw 55 rfl) (oW hw 26 rfl) (oW hw 58 rfl) (oW hw 56 rfl) (oW hw 57 rfl) Ea1 rfl (lenOf d_9 rfl) k_175 rfl rfl rfl (W := 0) (Nat.le_of_eq rfl) (by decide)
  have N57 := Fr.app N52 N57q
  have pre_58 := fun t k => pre_57 t <| oA K X57 k_176 rfl rfl rfl <| oA K X57 k_177 rfl rfl rfl <| k
  obtain ⟨T59, X59, e59, pre_59⟩ := gF pre_58 K X57 e57 (oW hw 47 rfl) Via.refl Fb3 k_178 rfl rfl
  have pre_60 := fun t k => pre_59 t <| oA K X59 k_179 rfl rfl rfl <| k
  obtain ⟨T61, _, L61, X61, ⟨rfl, N61q, K61, Vb61⟩, pre_61⟩ := cP pre_60 K X59 e59 (rm_psa0 l Z a0 hw a1 c1 s1 G1 n1 b1 kB vs z1 dp1 b2 kD vd h0 n0 O0 Ea1 g1 Fb1 Fb2 V3 g2 E2 Fc2 Fv2 V2 SC hG ne12 hd h2 h3 h5 hdp hvs hk) (oW hw 119 rfl) (oW hw 120 rfl) (oW hw 26 rfl) (oW hw 123 rfl) (oW hw 121 rfl) (oW hw 122 rfl) Ea1 rfl (lenOf d_10 rfl) k_180 rfl rfl rfl (W := 0) (Nat.le_of_eq rfl) (by decide)
  have N61 := Fr.app N57 N61q
  have O61 : Old Z n0 T61.heap := O0.keep K61 (allS g2 all0)
  have pre_62 := fun t k => pre_61 t <| oA K X61 k_181 rfl rfl rfl <| XS.dup X61.here hx rfl (hb hby k_182) rfl rfl <| k
  have x_63 := ((Exa.neArv (Ea1.keep K61) Vb61 (oW hw 17 rfl)))
  obtain ⟨T64, X64, e64, pre_64⟩ := gF pre_62 K X61 rfl (oW hw 47 rfl) Via.refl (Fb3.keep K61 (ninS x_63 nin0)) k_183 rfl rfl
  have pre_65 := fun t k => pre_64 t <| oI K X64 k_184 rfl rfl <| XS.iadd X64.here hx rfl (hb hby k_185) rfl <| k
  have pre_66 : Pr p e below E0 T64 (mkF m 40 #[vr a1, vr s1, vi m1] [(.int (c1 + m1)), (.ref a1)]) := pre_65
  rw [hsum] at pre_66
  obtain ⟨T67, h67, X67, e67, W67, Fw67, pre_67⟩ := pF pre_66 K X64 e64 .int (oW hw 47 rfl) (Fb3.keep K61 (ninS x_63 nin0)) (Ea1.keep K61) (Or.inl (oW hw 48 rfl)) (oW hw 17 rfl) k_186 rfl rfl (by decide) rfl rfl
  have N67 := Fr.snoc X67 N61 g1
  have O67 := O61.wr W67 g1
  have pre_68 := fun t k => pre_67 t <| oA K X67 k_187 rfl rfl rfl <| k
  have f_69 := ((Fb1.keep K61 (ninS x_63 nin0)).other W67 (Or.inr (slot_ne (Or.inl (oW hw 33 rfl)) (Or.inl (oW hw 48 rfl)) (by decide) (t := (.array .byte)) (t' := .int) (by decide) (by decide))))
  have u_70 := ((Keep.refl h0 [a1, b2]).trans K61 (allS (Or.inl (List.mem_of_getElem? (i := 1) rfl)) all0))
  have f_71 := ((Fb2.keep K61 (ninS x_63 nin0)).other W67 (Or.inr (slot_ne (Or.inl (oW hw 35 rfl)) (Or.inl (oW hw 48 rfl)) (by decide) (t := .byte) (t' := .int) (by decide) (by decide))))
  have f_72 := ((Fb4.keep K61 (ninS x_63 nin0)).other W67 (Or.inr (slot_ne (Or.inl (oW hw 406 rfl)) (Or.inl (oW hw 48 rfl)) (by decide) (t := .boolean) (t' := .int) (by decide) (by decide))))
  exact rtA pre_68 K X67 e67 hret hlk k_188 (by decide) ⟨rfl, rfl⟩ (hP _ _ _ ⟨rfl, N67, (u_70.wr W67 (Or.inl (List.mem_of_getElem? (i := 0) rfl))), f_69, f_71, Fw67, f_72, (Vb61.other W67 (Ne.symm x_63))⟩)
theorem rm_bapn0 (hw : Hw a0 Z) (a1 : Addr) (s1 : Addr) (G1 n1 : Int32) (b1 : Addr) (kB : ClassId) (vs : List Value) (c1 : Int32) (b2 : Addr) (kD : ClassId) (vd : List Value) (m1 c2 dp1 : Int32) (z1 : Int32) (h0 : Heap) (n0 : Nat) (O0 : Old Z n0 h0) (Ea1 : Exa Z h0 a1 s4_) (g1 : n0 ≤ a1) (Fb1 : Fld Z h0 a1 s1_ "value" "[B" (.ref b2)) (Fb2 : Fld Z h0 a1 s1_ "coder" "B" (.int 0)) (Fb3 : Fld Z h0 a1 s1_ "count" "I" (.int c1)) (Fb4 : Fld Z h0 a1 s1_ s5_ "Z" (.int 0)) (V3 : Arv Z h0 b2 kD .byte z1 vd (.int 0)) (g2 : n0 ≤ b2) (E2 : Exa Z h0 s1 s2_) (Fc2 : Fld Z h0 s1 s2_ "coder" "B" (.int 0)) (Fv2 : Fld Z h0 s1 s2_ "value" "[B" (.ref b1)) (V2 : Arv Z h0 b1 kB .byte n1 vs (.int 0)) (SC : Sta Z Z.heap s2_ s6_ "Z" (.int G1)) (hG : ¬ G1 = (0 : Int32)) (ne12 : b1 ≠ b2) (hm : (n1 >>> ((0 : Int32) &&& 31)) = m1) (hsum : (c1 + m1) = c2) (hd : (c1 <<< ((0 : Int32) &&& 31)) = dp1) (h2 : ¬ dp1 < 0) (h3 : ¬ n1 < 0) (h5 : dp1.toNatClampNeg + n1.toNatClampNeg ≤ (z1 : Int32).toNatClampNeg) (hdp : dp1.toNatClampNeg = vd.length) (hvs : vs.length = n1.toNatClampNeg) (hk : n1.toNatClampNeg ≤ 1000) (hn : ¬ (0 : Int32) < (c2 - (z1 >>> ((0 : Int32) &&& 31)))) : Met l Z y_15 c_15 2 (some (.object s4_)) (Rm 6 0 0 90) #[(.ref a1), (.ref s1)] h0 (fun v h L => v = some (.ref a1) ∧ Fr n0 L ∧ Keep h0 h [a1, b2] ∧ Fld Z h a1 s1_ "value" "[B" (.ref b2) ∧ Fld Z h a1 s1_ "coder" "B" (.int 0) ∧ Fld Z h a1 s1_ "count" "I" (.int c2) ∧ Fld Z h a1 s1_ s5_ "Z" (.int 0) ∧ Arv Z h b2 kD .byte z1 (vd ++ vs) (.int 0)) := by
  refine own_met (own := s4_) (G := fun m => (mkF m 0 #[vr a1, vr s1] [])) rfl n_15 ?_
  intro p e s m below meth c s₁ E0 P hP K hnm hret hlk hh X0 eH pre0
  obtain ⟨hx, hZ, hown, hby, hml⟩ := id K
  have pre_51 := fun t k => pre0 t <| oA K X0 k_189 rfl rfl rfl <| oA K X0 k_190 rfl rfl rfl <| k
  obtain ⟨T52, _, L52, X52, ⟨rfl, N52q, K52, Fv52, Fd52, Fk52, Fm52, Vb52⟩, pre_52⟩ := cU pre_51 K X0 eH (rm_aapn0 l Z a0 hw a1 s1 G1 n1 b1 kB vs c1 b2 kD vd m1 c2 dp1 z1 h0 n0 O0 Ea1 g1 Fb1 Fb2 Fb3 Fb4 V3 g2 E2 Fc2 Fv2 V2 SC hG ne12 hm hsum hd h2 h3 h5 hdp hvs hk hn) (oW hw 76 rfl) (oW hw 77 rfl) (oW hw 26 rfl) (oW hw 79 rfl) (oW hw 57 rfl) (oW hw 55 rfl) (oW hw 44 rfl) rfl Ea1 rfl (lenOf d_11 rfl) k_191 rfl rfl rfl (W := 0) (Nat.le_of_eq rfl) (by decide) (by decide)
  have N52 := Fr.app (Fr.nil n0) N52q
  have O52 : Old Z n0 T52.heap := O0.keep K52 (allS g1 (allS g2 all0))
  have pre_53 := fun t k => pre_52 t <| XT.pop X52.here hx rfl (hb hby k_192) rfl rfl <| oA K X52 k_193 rfl rfl rfl <| k
  have u_54 := ((Keep.refl h0 [a1, b2]).trans K52 (allS (Or.inl (List.mem_of_getElem? (i := 0) rfl)) (allS (Or.inl (List.mem_of_getElem? (i := 1) rfl)) all0)))
  exact rtA pre_53 K X52 rfl hret hlk k_194 (by decide) ⟨rfl, rfl⟩ (hP _ _ _ ⟨rfl, N52, u_54, Fv52, Fd52, Fk52, Fm52, Vb52⟩)
theorem rm_aapg16 (hw : Hw a0 Z) (a1 : Addr) (s1 : Addr) (G1 n1 : Int32) (b1 : Addr) (kB : ClassId) (vs : List Value) (c1 : Int32) (b2 : Addr) (kD : ClassId) (vd : List Value) (m1 c2 dp1 : Int32) (h0 : Heap) (n0 : Nat) (O0 : Old Z n0 h0) (Ea1 : Exa Z h0 a1 s4_) (g1 : n0 ≤ a1) (Fb1 : Fld Z h0 a1 s1_ "value" "[B" (.ref b2)) (Fb2 : Fld Z h0 a1 s1_ "coder" "B" (.int 0)) (Fb3 : Fld Z h0 a1 s1_ "count" "I" (.int c1)) (Fb4 : Fld Z h0 a1 s1_ s5_ "Z" (.int 0)) (V3 : Arv Z h0 b2 kD .byte (16 : Int32) vd (.int 0)) (g2 : n0 ≤ b2) (E2 : Exa Z h0 s1 s2_) (Fc2 : Fld Z h0 s1 s2_ "coder" "B" (.int 0)) (Fv2 : Fld Z h0 s1 s2_ "value" "[B" (.ref b1)) (V2 : Arv Z h0 b1 kB .byte n1 vs (.int 0)) (SC : Sta Z Z.heap s2_ s6_ "Z" (.int G1)) (hG : ¬ G1 = (0 : Int32)) (ne12 : b1 ≠ b2) (hm : (n1 >>> ((0 : Int32) &&& 31)) = m1) (hsum : (c1 + m1) = c2) (hd : (c1 <<< ((0 : Int32) &&& 31)) = dp1) (h2 : ¬ dp1 < 0) (h3 : ¬ n1 < 0) (h5 : dp1.toNatClampNeg + n1.toNatClampNeg ≤ ((34 : Int32) : Int32).toNatClampNeg) (hdp : dp1.toNatClampNeg = vd.length) (hvs : vs.length = n1.toNatClampNeg) (hk : n1.toNatClampNeg ≤ 1000) (hc : ((c2 <<< ((0 : Int32) &&& 31)) - (16 : Int32)) < (18 : Int32)) (hp : (0 : Int32) < (c2 - (16 : Int32))) (hl : vd.length ≤ 16) : Met l Z y_14 c_14 3 (some (.object s1_)) (Rm 5 1 284 70) #[(.ref a1), (.ref s1)] h0 (fun v h L => v = some (.ref a1) ∧ Fr n0 L ∧ Keep h0 h [a1] ∧ ∃ b kN, h0.size ≤ b ∧ Fld Z h a1 s1_ "value" "[B" (.ref b) ∧ Fld Z h a1 s1_ "coder" "B" (.int 0) ∧ Fld Z h a1 s1_ "count" "I" (.int c2) ∧ Fld Z h a1 s1_ s5_ "Z" (.int 0) ∧ Arv Z h b kN .byte (34 : Int32) (vd ++ vs) (.int 0)) := by
  refine own_met (own := s1_) (G := fun m => (mkF m 0 #[vr a1, vr s1, uz] [])) rfl n_14 ?_
  intro p e s m below meth c s₁ E0 P hP K hnm hret hlk hh X0 eH pre0
  obtain ⟨hx, hZ, hown, hby, hml⟩ := id K
  have pre_51 := fun t k => pre0 t <| oA K X0 k_165 rfl rfl rfl <| XT.ifnonnullYes X0.here hx rfl (pc0 := 1) (pc' := 9) rfl (hb hby k_166) rfl (by decide) (by decide) <| oA K X0 k_167 rfl rfl rfl <| k
  obtain ⟨T52, _, L52, X52, ⟨rfl, N52q, e52⟩, pre_52⟩ := cV pre_51 K X0 eH (rm_len0 l Z a0 hw s1 G1 n1 m1 b1 kB vs h0 n0 O0 E2 Fc2 Fv2 V2 hm SC hG) (oW hw 80 rfl) (oW hw 82 rfl) (oW hw 1 rfl) (oW hw 84 rfl) (oW hw 81 rfl) (oW hw 83 rfl) (notFace_of_selects (args := #[]) (mvT hZ (oW hw 83 rfl))) E2 rfl (lenOf d_8 rfl) k_168 rfl rfl rfl (W := 0) (Nat.le_of_eq rfl) (by decide)
  have N52 := Fr.app (Fr.nil n0) N52q
  have pre_53 := fun t k => pre_52 t <| XS.istoreN X52.here hx rfl (hb hby k_169) rfl (l' := #[vr a1, vr s1, vi m1]) rfl <| oA K X52 k_170 rfl rfl rfl <| oA K X52 k_171 rfl rfl rfl <| k
  obtain ⟨T54, X54, e54, pre_54⟩ := gF pre_53 K X52 e52 (oW hw 47 rfl) Via.refl Fb3 k_172 rfl rfl
  have pre_55 := fun t k => pre_54 t <| oI K X54 k_173 rfl rfl <| XS.iadd X54.here hx rfl (hb hby k_174) rfl <| k
  have pre_56 : Pr p e below E0 T54 (mkF m 21 #[vr a1, vr s1, vi m1] [(.int (c1 + m1)), (.ref a1)]) := pre_55
  rw [hsum] at pre_56
  obtain ⟨T57, _, L57, X57, ⟨rfl, N57q, K57, b57, kN57, sb57, Fv57, Fd57, Fk57, Fm57, Vb57⟩, pre_57⟩ := cP pre_56 K X54 e54 (rm_ecg16 l Z a0 hw a1 c2 b2 kD vd c1 h0 n0 O0 Fb3 Fb4 Ea1 g1 Fb1 Fb2 V3 hc hp hl) (oW hw 54 rfl) (oW hw 55 rfl) (oW hw 26 rfl) (oW hw 58 rfl) (oW hw 56 rfl) (oW hw 57 rfl) Ea1 rfl (lenOf d_9 rfl) k_175 rfl rfl rfl (W := 0) (Nat.le_of_eq rfl) (by decide)
  have N57 := Fr.app N52 N57q
  have O57 : Old Z n0 T57.heap := O0.keep K57 (allS g1 all0)
  have pre_58 := fun t k => pre_57 t <| oA K X57 k_176 rfl rfl rfl <| oA K X57 k_177 rfl rfl rfl <| k
  obtain ⟨T59, X59, e59, pre_59⟩ := gF pre_58 K X57 rfl (oW hw 47 rfl) Via.refl Fk57 k_178 rfl rfl
  have v_60 := (Nat.le_trans (own_le O0) sb57)
  have f_61 := (Fc2.keep K57 (ninS (Exa.ne E2 Ea1 (by decide)) nin0))
  have f_62 := (Fv2.keep K57 (ninS (Exa.ne E2 Ea1 (by decide)) nin0))
  have x_63 := (Ne.symm (Exa.neArv Ea1 V2 (oW hw 17 rfl)))
  have x_64 := (Nat.ne_of_lt (Nat.lt_of_lt_of_le V2.lt sb57))
  have pre_65 := fun t k => pre_59 t <| oA K X59 k_179 rfl rfl rfl <| k
  obtain ⟨T66, _, L66, X66, ⟨rfl, N66q, K66, Vb66⟩, pre_66⟩ := cP pre_65 K X59 e59 (rm_psa0 l Z a0 hw a1 c1 s1 G1 n1 b1 kB vs (34 : Int32) dp1 b57 kN57 vd T57.heap n0 O57 (Ea1.keep K57) g1 Fv57 Fd57 Vb57 v_60 (E2.keep K57) f_61 f_62 (V2.keep K57 (ninS x_63 nin0)) SC hG x_64 hd h2 h3 h5 hdp hvs hk) (oW hw 119 rfl) (oW hw 120 rfl) (oW hw 26 rfl) (oW hw 123 rfl) (oW hw 121 rfl) (oW hw 122 rfl) (Ea1.keep K57) rfl (lenOf d_10 rfl) k_180 rfl rfl rfl (W := 0) (Nat.le_of_eq rfl) (by decide)
  have N66 := Fr.app N57 N66q
  have O66 : Old Z n0 T66.heap := O57.keep K66 (allS v_60 all0)
  have pre_67 := fun t k => pre_66 t <| oA K X66 k_181 rfl rfl rfl <| XS.dup X66.here hx rfl (hb hby k_182) rfl rfl <| k
  have x_68 := (Nat.ne_of_lt (Nat.lt_of_lt_of_le Ea1.lt sb57))
  obtain ⟨T69, X69, e69, pre_69⟩ := gF pre_67 K X66 rfl (oW hw 47 rfl) Via.refl (Fk57.keep K66 (ninS x_68 nin0)) k_183 rfl rfl
  have pre_70 := fun t k => pre_69 t <| oI K X69 k_184 rfl rfl <| XS.iadd X69.here hx rfl (hb hby k_185) rfl <| k
  have pre_71 : Pr p e below E0 T69 (mkF m 40 #[vr a1, vr s1, vi m1] [(.int (c1 + m1)), (.ref a1)]) := pre_70
  rw [hsum] at pre_71
  obtain ⟨T72, h72, X72, e72, W72, Fw72, pre_72⟩ := pF pre_71 K X69 e69 .int (oW hw 47 rfl) (Fk57.keep K66 (ninS x_68 nin0)) ((Ea1.keep K57).keep K66) (Or.inl (oW hw 48 rfl)) (oW hw 17 rfl) k_186 rfl rfl (by decide) rfl rfl
  have N72 := Fr.snoc X72 N66 g1
  have O72 := O66.wr W72 g1
  have pre_73 := fun t k => pre_72 t <| oA K X72 k_187 rfl rfl rfl <| k
  have f_74 := ((Fv57.keep K66 (ninS x_68 nin0)).other W72 (Or.inr (slot_ne (Or.inl (oW hw 33 rfl)) (Or.inl (oW hw 48 rfl)) (by decide) (t := (.array .byte)) (t' := .int) (by decide) (by decide))))
  have u_75 := (((Keep.refl h0 [a1]).trans K57 (allS (Or.inl (List.mem_of_getElem? (i := 0) rfl)) all0)).trans K66 (allS (Or.inr (Nat.le_trans (Keep.refl h0 [a1]).1 sb57)) all0))
  have f_76 := ((Fd57.keep K66 (ninS x_68 nin0)).other W72 (Or.inr (slot_ne (Or.inl (oW hw 35 rfl)) (Or.inl (oW hw 48 rfl)) (by decide) (t := .byte) (t' := .int) (by decide) (by decide))))
  have f_77 := ((Fm57.keep K66 (ninS x_68 nin0)).other W72 (Or.inr (slot_ne (Or.inl (oW hw 406 rfl)) (Or.inl (oW hw 48 rfl)) (by decide) (t := .boolean) (t' := .int) (by decide) (by decide))))
  exact rtA pre_73 K X72 e72 hret hlk k_188 (by decide) ⟨rfl, rfl⟩ (hP _ _ _ ⟨rfl, N72, (u_75.wr W72 (Or.inl (List.mem_of_getElem? (i := 0) rfl))), b57, kN57, (Nat.le_trans (Keep.refl h0 [a1]).1 sb57), f_74, f_76, Fw72, f_77, (Vb66.other W72 (Ne.symm x_68))⟩)
theorem rm_bapg16 (hw : Hw a0 Z) (a1 : Addr) (s1 : Addr) (G1 n1 : Int32) (b1 : Addr) (kB : ClassId) (vs : List Value) (c1 : Int32) (b2 : Addr) (kD : ClassId) (vd : List Value) (m1 c2 dp1 : Int32) (h0 : Heap) (n0 : Nat) (O0 : Old Z n0 h0) (Ea1 : Exa Z h0 a1 s4_) (g1 : n0 ≤ a1) (Fb1 : Fld Z h0 a1 s1_ "value" "[B" (.ref b2)) (Fb2 : Fld Z h0 a1 s1_ "coder" "B" (.int 0)) (Fb3 : Fld Z h0 a1 s1_ "count" "I" (.int c1)) (Fb4 : Fld Z h0 a1 s1_ s5_ "Z" (.int 0)) (V3 : Arv Z h0 b2 kD .byte (16 : Int32) vd (.int 0)) (g2 : n0 ≤ b2) (E2 : Exa Z h0 s1 s2_) (Fc2 : Fld Z h0 s1 s2_ "coder" "B" (.int 0)) (Fv2 : Fld Z h0 s1 s2_ "value" "[B" (.ref b1)) (V2 : Arv Z h0 b1 kB .byte n1 vs (.int 0)) (SC : Sta Z Z.heap s2_ s6_ "Z" (.int G1)) (hG : ¬ G1 = (0 : Int32)) (ne12 : b1 ≠ b2) (hm : (n1 >>> ((0 : Int32) &&& 31)) = m1) (hsum : (c1 + m1) = c2) (hd : (c1 <<< ((0 : Int32) &&& 31)) = dp1) (h2 : ¬ dp1 < 0) (h3 : ¬ n1 < 0) (h5 : dp1.toNatClampNeg + n1.toNatClampNeg ≤ ((34 : Int32) : Int32).toNatClampNeg) (hdp : dp1.toNatClampNeg = vd.length) (hvs : vs.length = n1.toNatClampNeg) (hk : n1.toNatClampNeg ≤ 1000) (hc : ((c2 <<< ((0 : Int32) &&& 31)) - (16 : Int32)) < (18 : Int32)) (hp : (0 : Int32) < (c2 - (16 : Int32))) (hl : vd.length ≤ 16) : Met l Z y_15 c_15 2 (some (.object s4_)) (Rm 6 1 284 90) #[(.ref a1), (.ref s1)] h0 (fun v h L => v = some (.ref a1) ∧ Fr n0 L ∧ Keep h0 h [a1] ∧ ∃ b kN, h0.size ≤ b ∧ Fld Z h a1 s1_ "value" "[B" (.ref b) ∧ Fld Z h a1 s1_ "coder" "B" (.int 0) ∧ Fld Z h a1 s1_ "count" "I" (.int c2) ∧ Fld Z h a1 s1_ s5_ "Z" (.int 0) ∧ Arv Z h b kN .byte (34 : Int32) (vd ++ vs) (.int 0)) := by
  refine own_met (own := s4_) (G := fun m => (mkF m 0 #[vr a1, vr s1] [])) rfl n_15 ?_
  intro p e s m below meth c s₁ E0 P hP K hnm hret hlk hh X0 eH pre0
  obtain ⟨hx, hZ, hown, hby, hml⟩ := id K
  have pre_51 := fun t k => pre0 t <| oA K X0 k_189 rfl rfl rfl <| oA K X0 k_190 rfl rfl rfl <| k
  obtain ⟨T52, _, L52, X52, ⟨rfl, N52q, K52, b52, kN52, sb52, Fv52, Fd52, Fk52, Fm52, Vb52⟩, pre_52⟩ := cU pre_51 K X0 eH (rm_aapg16 l Z a0 hw a1 s1 G1 n1 b1 kB vs c1 b2 kD vd m1 c2 dp1 h0 n0 O0 Ea1 g1 Fb1 Fb2 Fb3 Fb4 V3 g2 E2 Fc2 Fv2 V2 SC hG ne12 hm hsum hd h2 h3 h5 hdp hvs hk hc hp hl) (oW hw 76 rfl) (oW hw 77 rfl) (oW hw 26 rfl) (oW hw 79 rfl) (oW hw 57 rfl) (oW hw 55 rfl) (oW hw 44 rfl) rfl Ea1 rfl (lenOf d_11 rfl) k_191 rfl rfl rfl (W := 0) (Nat.le_of_eq rfl) (by decide) (by decide)
  have N52 := Fr.app (Fr.nil n0) N52q
  have O52 : Old Z n0 T52.heap := O0.keep K52 (allS g1 all0)
  have pre_53 := fun t k => pre_52 t <| XT.pop X52.here hx rfl (hb hby k_192) rfl rfl <| oA K X52 k_193 rfl rfl rfl <| k
  exact rtA pre_53 K X52 rfl hret hlk k_194 (by decide) ⟨rfl, rfl⟩ (hP _ _ _ ⟨rfl, N52, ((Keep.refl h0 [a1]).trans K52 (allS (Or.inl (List.mem_of_getElem? (i := 0) rfl)) all0)), b52, kN52, (Nat.le_trans (Keep.refl h0 [a1]).1 sb52), Fv52, Fd52, Fk52, Fm52, Vb52⟩)
theorem rm_aapg34 (hw : Hw a0 Z) (a1 : Addr) (s1 : Addr) (G1 n1 : Int32) (b1 : Addr) (kB : ClassId) (vs : List Value) (c1 : Int32) (b2 : Addr) (kD : ClassId) (vd : List Value) (m1 c2 dp1 : Int32) (h0 : Heap) (n0 : Nat) (O0 : Old Z n0 h0) (Ea1 : Exa Z h0 a1 s4_) (g1 : n0 ≤ a1) (Fb1 : Fld Z h0 a1 s1_ "value" "[B" (.ref b2)) (Fb2 : Fld Z h0 a1 s1_ "coder" "B" (.int 0)) (Fb3 : Fld Z h0 a1 s1_ "count" "I" (.int c1)) (Fb4 : Fld Z h0 a1 s1_ s5_ "Z" (.int 0)) (V3 : Arv Z h0 b2 kD .byte (34 : Int32) vd (.int 0)) (g2 : n0 ≤ b2) (E2 : Exa Z h0 s1 s2_) (Fc2 : Fld Z h0 s1 s2_ "coder" "B" (.int 0)) (Fv2 : Fld Z h0 s1 s2_ "value" "[B" (.ref b1)) (V2 : Arv Z h0 b1 kB .byte n1 vs (.int 0)) (SC : Sta Z Z.heap s2_ s6_ "Z" (.int G1)) (hG : ¬ G1 = (0 : Int32)) (ne12 : b1 ≠ b2) (hm : (n1 >>> ((0 : Int32) &&& 31)) = m1) (hsum : (c1 + m1) = c2) (hd : (c1 <<< ((0 : Int32) &&& 31)) = dp1) (h2 : ¬ dp1 < 0) (h3 : ¬ n1 < 0) (h5 : dp1.toNatClampNeg + n1.toNatClampNeg ≤ ((70 : Int32) : Int32).toNatClampNeg) (hdp : dp1.toNatClampNeg = vd.length) (hvs : vs.length = n1.toNatClampNeg) (hk : n1.toNatClampNeg ≤ 1000) (hc : ((c2 <<< ((0 : Int32) &&& 31)) - (34 : Int32)) < (36 : Int32)) (hp : (0 : Int32) < (c2 - (34 : Int32))) (hl : vd.length ≤ 34) : Met l Z y_14 c_14 3 (some (.object s1_)) (Rm 5 1 284 70) #[(.ref a1), (.ref s1)] h0 (fun v h L => v = some (.ref a1) ∧ Fr n0 L ∧ Keep h0 h [a1] ∧ ∃ b kN, h0.size ≤ b ∧ Fld Z h a1 s1_ "value" "[B" (.ref b) ∧ Fld Z h a1 s1_ "coder" "B" (.int 0) ∧ Fld Z h a1 s1_ "count" "I" (.int c2) ∧ Fld Z h a1 s1_ s5_ "Z" (.int 0) ∧ Arv Z h b kN .byte (70 : Int32) (vd ++ vs) (.int 0)) := by
  refine own_met (own := s1_) (G := fun m => (mkF m 0 #[vr a1, vr s1, uz] [])) rfl n_14 ?_
  intro p e s m below meth c s₁ E0 P hP K hnm hret hlk hh X0 eH pre0
  obtain ⟨hx, hZ, hown, hby, hml⟩ := id K
  have pre_51 := fun t k => pre0 t <| oA K X0 k_165 rfl rfl rfl <| XT.ifnonnullYes X0.here hx rfl (pc0 := 1) (pc' := 9) rfl (hb hby k_166) rfl (by decide) (by decide) <| oA K X0 k_167 rfl rfl rfl <| k
  obtain ⟨T52, _, L52, X52, ⟨rfl, N52q, e52⟩, pre_52⟩ := cV pre_51 K X0 eH (rm_len0 l Z a0 hw s1 G1 n1 m1 b1 kB vs h0 n0 O0 E2 Fc2 Fv2 V2 hm SC hG) (oW hw 80 rfl) (oW hw 82 rfl) (oW hw 1 rfl) (oW hw 84 rfl) (oW hw 81 rfl) (oW hw 83 rfl) (notFace_of_selects (args := #[]) (mvT hZ (oW hw 83 rfl))) E2 rfl (lenOf d_8 rfl) k_168 rfl rfl rfl (W := 0) (Nat.le_of_eq rfl) (by decide)
  have N52 := Fr.app (Fr.nil n0) N52q
  have pre_53 := fun t k => pre_52 t <| XS.istoreN X52.here hx rfl (hb hby k_169) rfl (l' := #[vr a1, vr s1, vi m1]) rfl <| oA K X52 k_170 rfl rfl rfl <| oA K X52 k_171 rfl rfl rfl <| k
  obtain ⟨T54, X54, e54, pre_54⟩ := gF pre_53 K X52 e52 (oW hw 47 rfl) Via.refl Fb3 k_172 rfl rfl
  have pre_55 := fun t k => pre_54 t <| oI K X54 k_173 rfl rfl <| XS.iadd X54.here hx rfl (hb hby k_174) rfl <| k
  have pre_56 : Pr p e below E0 T54 (mkF m 21 #[vr a1, vr s1, vi m1] [(.int (c1 + m1)), (.ref a1)]) := pre_55
  rw [hsum] at pre_56
  obtain ⟨T57, _, L57, X57, ⟨rfl, N57q, K57, b57, kN57, sb57, Fv57, Fd57, Fk57, Fm57, Vb57⟩, pre_57⟩ := cP pre_56 K X54 e54 (rm_ecg34 l Z a0 hw a1 c2 b2 kD vd c1 h0 n0 O0 Fb3 Fb4 Ea1 g1 Fb1 Fb2 V3 hc hp hl) (oW hw 54 rfl) (oW hw 55 rfl) (oW hw 26 rfl) (oW hw 58 rfl) (oW hw 56 rfl) (oW hw 57 rfl) Ea1 rfl (lenOf d_9 rfl) k_175 rfl rfl rfl (W := 0) (Nat.le_of_eq rfl) (by decide)
  have N57 := Fr.app N52 N57q
  have O57 : Old Z n0 T57.heap := O0.keep K57 (allS g1 all0)
  have pre_58 := fun t k => pre_57 t <| oA K X57 k_176 rfl rfl rfl <| oA K X57 k_177 rfl rfl rfl <| k
  obtain ⟨T59, X59, e59, pre_59⟩ := gF pre_58 K X57 rfl (oW hw 47 rfl) Via.refl Fk57 k_178 rfl rfl
  have v_60 := (Nat.le_trans (own_le O0) sb57)
  have f_61 := (Fc2.keep K57 (ninS (Exa.ne E2 Ea1 (by decide)) nin0))
  have f_62 := (Fv2.keep K57 (ninS (Exa.ne E2 Ea1 (by decide)) nin0))
  have x_63 := (Ne.symm (Exa.neArv Ea1 V2 (oW hw 17 rfl)))
  have x_64 := (Nat.ne_of_lt (Nat.lt_of_lt_of_le V2.lt sb57))
  have pre_65 := fun t k => pre_59 t <| oA K X59 k_179 rfl rfl rfl <| k
  obtain ⟨T66, _, L66, X66, ⟨rfl, N66q, K66, Vb66⟩, pre_66⟩ := cP pre_65 K X59 e59 (rm_psa0 l Z a0 hw a1 c1 s1 G1 n1 b1 kB vs (70 : Int32) dp1 b57 kN57 vd T57.heap n0 O57 (Ea1.keep K57) g1 Fv57 Fd57 Vb57 v_60 (E2.keep K57) f_61 f_62 (V2.keep K57 (ninS x_63 nin0)) SC hG x_64 hd h2 h3 h5 hdp hvs hk) (oW hw 119 rfl) (oW hw 120 rfl) (oW hw 26 rfl) (oW hw 123 rfl) (oW hw 121 rfl) (oW hw 122 rfl) (Ea1.keep K57) rfl (lenOf d_10 rfl) k_180 rfl rfl rfl (W := 0) (Nat.le_of_eq rfl) (by decide)
  have N66 := Fr.app N57 N66q
  have O66 : Old Z n0 T66.heap := O57.keep K66 (allS v_60 all0)
  have pre_67 := fun t k => pre_66 t <| oA K X66 k_181 rfl rfl rfl <| XS.dup X66.here hx rfl (hb hby k_182) rfl rfl <| k
  have x_68 := (Nat.ne_of_lt (Nat.lt_of_lt_of_le Ea1.lt sb57))
  obtain ⟨T69, X69, e69, pre_69⟩ := gF pre_67 K X66 rfl (oW hw 47 rfl) Via.refl (Fk57.keep K66 (ninS x_68 nin0)) k_183 rfl rfl
  have pre_70 := fun t k => pre_69 t <| oI K X69 k_184 rfl rfl <| XS.iadd X69.here hx rfl (hb hby k_185) rfl <| k
  have pre_71 : Pr p e below E0 T69 (mkF m 40 #[vr a1, vr s1, vi m1] [(.int (c1 + m1)), (.ref a1)]) := pre_70
  rw [hsum] at pre_71
  obtain ⟨T72, h72, X72, e72, W72, Fw72, pre_72⟩ := pF pre_71 K X69 e69 .int (oW hw 47 rfl) (Fk57.keep K66 (ninS x_68 nin0)) ((Ea1.keep K57).keep K66) (Or.inl (oW hw 48 rfl)) (oW hw 17 rfl) k_186 rfl rfl (by decide) rfl rfl
  have N72 := Fr.snoc X72 N66 g1
  have O72 := O66.wr W72 g1
  have pre_73 := fun t k => pre_72 t <| oA K X72 k_187 rfl rfl rfl <| k
  have f_74 := ((Fv57.keep K66 (ninS x_68 nin0)).other W72 (Or.inr (slot_ne (Or.inl (oW hw 33 rfl)) (Or.inl (oW hw 48 rfl)) (by decide) (t := (.array .byte)) (t' := .int) (by decide) (by decide))))
  have u_75 := (((Keep.refl h0 [a1]).trans K57 (allS (Or.inl (List.mem_of_getElem? (i := 0) rfl)) all0)).trans K66 (allS (Or.inr (Nat.le_trans (Keep.refl h0 [a1]).1 sb57)) all0))
  have f_76 := ((Fd57.keep K66 (ninS x_68 nin0)).other W72 (Or.inr (slot_ne (Or.inl (oW hw 35 rfl)) (Or.inl (oW hw 48 rfl)) (by decide) (t := .byte) (t' := .int) (by decide) (by decide))))
  have f_77 := ((Fm57.keep K66 (ninS x_68 nin0)).other W72 (Or.inr (slot_ne (Or.inl (oW hw 406 rfl)) (Or.inl (oW hw 48 rfl)) (by decide) (t := .boolean) (t' := .int) (by decide) (by decide))))
  exact rtA pre_73 K X72 e72 hret hlk k_188 (by decide) ⟨rfl, rfl⟩ (hP _ _ _ ⟨rfl, N72, (u_75.wr W72 (Or.inl (List.mem_of_getElem? (i := 0) rfl))), b57, kN57, (Nat.le_trans (Keep.refl h0 [a1]).1 sb57), f_74, f_76, Fw72, f_77, (Vb66.other W72 (Ne.symm x_68))⟩)
theorem rm_bapg34 (hw : Hw a0 Z) (a1 : Addr) (s1 : Addr) (G1 n1 : Int32) (b1 : Addr) (kB : ClassId) (vs : List Value) (c1 : Int32) (b2 : Addr) (kD : ClassId) (vd : List Value) (m1 c2 dp1 : Int32) (h0 : Heap) (n0 : Nat) (O0 : Old Z n0 h0) (Ea1 : Exa Z h0 a1 s4_) (g1 : n0 ≤ a1) (Fb1 : Fld Z h0 a1 s1_ "value" "[B" (.ref b2)) (Fb2 : Fld Z h0 a1 s1_ "coder" "B" (.int 0)) (Fb3 : Fld Z h0 a1 s1_ "count" "I" (.int c1)) (Fb4 : Fld Z h0 a1 s1_ s5_ "Z" (.int 0)) (V3 : Arv Z h0 b2 kD .byte (34 : Int32) vd (.int 0)) (g2 : n0 ≤ b2) (E2 : Exa Z h0 s1 s2_) (Fc2 : Fld Z h0 s1 s2_ "coder" "B" (.int 0)) (Fv2 : Fld Z h0 s1 s2_ "value" "[B" (.ref b1)) (V2 : Arv Z h0 b1 kB .byte n1 vs (.int 0)) (SC : Sta Z Z.heap s2_ s6_ "Z" (.int G1)) (hG : ¬ G1 = (0 : Int32)) (ne12 : b1 ≠ b2) (hm : (n1 >>> ((0 : Int32) &&& 31)) = m1) (hsum : (c1 + m1) = c2) (hd : (c1 <<< ((0 : Int32) &&& 31)) = dp1) (h2 : ¬ dp1 < 0) (h3 : ¬ n1 < 0) (h5 : dp1.toNatClampNeg + n1.toNatClampNeg ≤ ((70 : Int32) : Int32).toNatClampNeg) (hdp : dp1.toNatClampNeg = vd.length) (hvs : vs.length = n1.toNatClampNeg) (hk : n1.toNatClampNeg ≤ 1000) (hc : ((c2 <<< ((0 : Int32) &&& 31)) - (34 : Int32)) < (36 : Int32)) (hp : (0 : Int32) < (c2 - (34 : Int32))) (hl : vd.length ≤ 34) : Met l Z y_15 c_15 2 (some (.object s4_)) (Rm 6 1 284 90) #[(.ref a1), (.ref s1)] h0 (fun v h L => v = some (.ref a1) ∧ Fr n0 L ∧ Keep h0 h [a1] ∧ ∃ b kN, h0.size ≤ b ∧ Fld Z h a1 s1_ "value" "[B" (.ref b) ∧ Fld Z h a1 s1_ "coder" "B" (.int 0) ∧ Fld Z h a1 s1_ "count" "I" (.int c2) ∧ Fld Z h a1 s1_ s5_ "Z" (.int 0) ∧ Arv Z h b kN .byte (70 : Int32) (vd ++ vs) (.int 0)) := by
  refine own_met (own := s4_) (G := fun m => (mkF m 0 #[vr a1, vr s1] [])) rfl n_15 ?_
  intro p e s m below meth c s₁ E0 P hP K hnm hret hlk hh X0 eH pre0
  obtain ⟨hx, hZ, hown, hby, hml⟩ := id K
  have pre_51 := fun t k => pre0 t <| oA K X0 k_189 rfl rfl rfl <| oA K X0 k_190 rfl rfl rfl <| k
  obtain ⟨T52, _, L52, X52, ⟨rfl, N52q, K52, b52, kN52, sb52, Fv52, Fd52, Fk52, Fm52, Vb52⟩, pre_52⟩ := cU pre_51 K X0 eH (rm_aapg34 l Z a0 hw a1 s1 G1 n1 b1 kB vs c1 b2 kD vd m1 c2 dp1 h0 n0 O0 Ea1 g1 Fb1 Fb2 Fb3 Fb4 V3 g2 E2 Fc2 Fv2 V2 SC hG ne12 hm hsum hd h2 h3 h5 hdp hvs hk hc hp hl) (oW hw 76 rfl) (oW hw 77 rfl) (oW hw 26 rfl) (oW hw 79 rfl) (oW hw 57 rfl) (oW hw 55 rfl) (oW hw 44 rfl) rfl Ea1 rfl (lenOf d_11 rfl) k_191 rfl rfl rfl (W := 0) (Nat.le_of_eq rfl) (by decide) (by decide)
  have N52 := Fr.app (Fr.nil n0) N52q
  have O52 : Old Z n0 T52.heap := O0.keep K52 (allS g1 all0)
  have pre_53 := fun t k => pre_52 t <| XT.pop X52.here hx rfl (hb hby k_192) rfl rfl <| oA K X52 k_193 rfl rfl rfl <| k
  exact rtA pre_53 K X52 rfl hret hlk k_194 (by decide) ⟨rfl, rfl⟩ (hP _ _ _ ⟨rfl, N52, ((Keep.refl h0 [a1]).trans K52 (allS (Or.inl (List.mem_of_getElem? (i := 0) rfl)) all0)), b52, kN52, (Nat.le_trans (Keep.refl h0 [a1]).1 sb52), Fv52, Fd52, Fk52, Fm52, Vb52⟩)
theorem rm_aapg70 (hw : Hw a0 Z) (a1 : Addr) (s1 : Addr) (G1 n1 : Int32) (b1 : Addr) (kB : ClassId) (vs : List Value) (c1 : Int32) (b2 : Addr) (kD : ClassId) (vd : List Value) (m1 c2 dp1 : Int32) (h0 : Heap) (n0 : Nat) (O0 : Old Z n0 h0) (Ea1 : Exa Z h0 a1 s4_) (g1 : n0 ≤ a1) (Fb1 : Fld Z h0 a1 s1_ "value" "[B" (.ref b2)) (Fb2 : Fld Z h0 a1 s1_ "coder" "B" (.int 0)) (Fb3 : Fld Z h0 a1 s1_ "count" "I" (.int c1)) (Fb4 : Fld Z h0 a1 s1_ s5_ "Z" (.int 0)) (V3 : Arv Z h0 b2 kD .byte (70 : Int32) vd (.int 0)) (g2 : n0 ≤ b2) (E2 : Exa Z h0 s1 s2_) (Fc2 : Fld Z h0 s1 s2_ "coder" "B" (.int 0)) (Fv2 : Fld Z h0 s1 s2_ "value" "[B" (.ref b1)) (V2 : Arv Z h0 b1 kB .byte n1 vs (.int 0)) (SC : Sta Z Z.heap s2_ s6_ "Z" (.int G1)) (hG : ¬ G1 = (0 : Int32)) (ne12 : b1 ≠ b2) (hm : (n1 >>> ((0 : Int32) &&& 31)) = m1) (hsum : (c1 + m1) = c2) (hd : (c1 <<< ((0 : Int32) &&& 31)) = dp1) (h2 : ¬ dp1 < 0) (h3 : ¬ n1 < 0) (h5 : dp1.toNatClampNeg + n1.toNatClampNeg ≤ ((142 : Int32) : Int32).toNatClampNeg) (hdp : dp1.toNatClampNeg = vd.length) (hvs : vs.length = n1.toNatClampNeg) (hk : n1.toNatClampNeg ≤ 1000) (hc : ((c2 <<< ((0 : Int32) &&& 31)) - (70 : Int32)) < (72 : Int32)) (hp : (0 : Int32) < (c2 - (70 : Int32))) (hl : vd.length ≤ 70) : Met l Z y_14 c_14 3 (some (.object s1_)) (Rm 5 1 284 70) #[(.ref a1), (.ref s1)] h0 (fun v h L => v = some (.ref a1) ∧ Fr n0 L ∧ Keep h0 h [a1] ∧ ∃ b kN, h0.size ≤ b ∧ Fld Z h a1 s1_ "value" "[B" (.ref b) ∧ Fld Z h a1 s1_ "coder" "B" (.int 0) ∧ Fld Z h a1 s1_ "count" "I" (.int c2) ∧ Fld Z h a1 s1_ s5_ "Z" (.int 0) ∧ Arv Z h b kN .byte (142 : Int32) (vd ++ vs) (.int 0)) := by
  refine own_met (own := s1_) (G := fun m => (mkF m 0 #[vr a1, vr s1, uz] [])) rfl n_14 ?_
  intro p e s m below meth c s₁ E0 P hP K hnm hret hlk hh X0 eH pre0
  obtain ⟨hx, hZ, hown, hby, hml⟩ := id K
  have pre_51 := fun t k => pre0 t <| oA K X0 k_165 rfl rfl rfl <| XT.ifnonnullYes X0.here hx rfl (pc0 := 1) (pc' := 9) rfl (hb hby k_166) rfl (by decide) (by decide) <| oA K X0 k_167 rfl rfl rfl <| k
  obtain ⟨T52, _, L52, X52, ⟨rfl, N52q, e52⟩, pre_52⟩ := cV pre_51 K X0 eH (rm_len0 l Z a0 hw s1 G1 n1 m1 b1 kB vs h0 n0 O0 E2 Fc2 Fv2 V2 hm SC hG) (oW hw 80 rfl) (oW hw 82 rfl) (oW hw 1 rfl) (oW hw 84 rfl) (oW hw 81 rfl) (oW hw 83 rfl) (notFace_of_selects (args := #[]) (mvT hZ (oW hw 83 rfl))) E2 rfl (lenOf d_8 rfl) k_168 rfl rfl rfl (W := 0) (Nat.le_of_eq rfl) (by decide)
  have N52 := Fr.app (Fr.nil n0) N52q
  have pre_53 := fun t k => pre_52 t <| XS.istoreN X52.here hx rfl (hb hby k_169) rfl (l' := #[vr a1, vr s1, vi m1]) rfl <| oA K X52 k_170 rfl rfl rfl <| oA K X52 k_171 rfl rfl rfl <| k
  obtain ⟨T54, X54, e54, pre_54⟩ := gF pre_53 K X52 e52 (oW hw 47 rfl) Via.refl Fb3 k_172 rfl rfl
  have pre_55 := fun t k => pre_54 t <| oI K X54 k_173 rfl rfl <| XS.iadd X54.here hx rfl (hb hby k_174) rfl <| k
  have pre_56 : Pr p e below E0 T54 (mkF m 21 #[vr a1, vr s1, vi m1] [(.int (c1 + m1)), (.ref a1)]) := pre_55
  rw [hsum] at pre_56
  obtain ⟨T57, _, L57, X57, ⟨rfl, N57q, K57, b57, kN57, sb57, Fv57, Fd57, Fk57, Fm57, Vb57⟩, pre_57⟩ := cP pre_56 K X54 e54 (rm_ecg70 l Z a0 hw a1 c2 b2 kD vd c1 h0 n0 O0 Fb3 Fb4 Ea1 g1 Fb1 Fb2 V3 hc hp hl) (oW hw 54 rfl) (oW hw 55 rfl) (oW hw 26 rfl) (oW hw 58 rfl) (oW hw 56 rfl) (oW hw 57 rfl) Ea1 rfl (lenOf d_9 rfl) k_175 rfl rfl rfl (W := 0) (Nat.le_of_eq rfl) (by decide)
  have N57 := Fr.app N52 N57q
  have O57 : Old Z n0 T57.heap := O0.keep K57 (allS g1 all0)
  have pre_58 := fun t k => pre_57 t <| oA K X57 k_176 rfl rfl rfl <| oA K X57 k_177 rfl rfl rfl <| k
  obtain ⟨T59, X59, e59, pre_59⟩ := gF pre_58 K X57 rfl (oW hw 47 rfl) Via.refl Fk57 k_178 rfl rfl
  have v_60 := (Nat.le_trans (own_le O0) sb57)
  have f_61 := (Fc2.keep K57 (ninS (Exa.ne E2 Ea1 (by decide)) nin0))
  have f_62 := (Fv2.keep K57 (ninS (Exa.ne E2 Ea1 (by decide)) nin0))
  have x_63 := (Ne.symm (Exa.neArv Ea1 V2 (oW hw 17 rfl)))
  have x_64 := (Nat.ne_of_lt (Nat.lt_of_lt_of_le V2.lt sb57))
  have pre_65 := fun t k => pre_59 t <| oA K X59 k_179 rfl rfl rfl <| k
  obtain ⟨T66, _, L66, X66, ⟨rfl, N66q, K66, Vb66⟩, pre_66⟩ := cP pre_65 K X59 e59 (rm_psa0 l Z a0 hw a1 c1 s1 G1 n1 b1 kB vs (142 : Int32) dp1 b57 kN57 vd T57.heap n0 O57 (Ea1.keep K57) g1 Fv57 Fd57 Vb57 v_60 (E2.keep K57) f_61 f_62 (V2.keep K57 (ninS x_63 nin0)) SC hG x_64 hd h2 h3 h5 hdp hvs hk) (oW hw 119 rfl) (oW hw 120 rfl) (oW hw 26 rfl) (oW hw 123 rfl) (oW hw 121 rfl) (oW hw 122 rfl) (Ea1.keep K57) rfl (lenOf d_10 rfl) k_180 rfl rfl rfl (W := 0) (Nat.le_of_eq rfl) (by decide)
  have N66 := Fr.app N57 N66q
  have O66 : Old Z n0 T66.heap := O57.keep K66 (allS v_60 all0)
  have pre_67 := fun t k => pre_66 t <| oA K X66 k_181 rfl rfl rfl <| XS.dup X66.here hx rfl (hb hby k_182) rfl rfl <| k
  have x_68 := (Nat.ne_of_lt (Nat.lt_of_lt_of_le Ea1.lt sb57))
  obtain ⟨T69, X69, e69, pre_69⟩ := gF pre_67 K X66 rfl (oW hw 47 rfl) Via.refl (Fk57.keep K66 (ninS x_68 nin0)) k_183 rfl rfl
  have pre_70 := fun t k => pre_69 t <| oI K X69 k_184 rfl rfl <| XS.iadd X69.here hx rfl (hb hby k_185) rfl <| k
  have pre_71 : Pr p e below E0 T69 (mkF m 40 #[vr a1, vr s1, vi m1] [(.int (c1 + m1)), (.ref a1)]) := pre_70
  rw [hsum] at pre_71
  obtain ⟨T72, h72, X72, e72, W72, Fw72, pre_72⟩ := pF pre_71 K X69 e69 .int (oW hw 47 rfl) (Fk57.keep K66 (ninS x_68 nin0)) ((Ea1.keep K57).keep K66) (Or.inl (oW hw 48 rfl)) (oW hw 17 rfl) k_186 rfl rfl (by decide) rfl rfl
  have N72 := Fr.snoc X72 N66 g1
  have O72 := O66.wr W72 g1
  have pre_73 := fun t k => pre_72 t <| oA K X72 k_187 rfl rfl rfl <| k
  have f_74 := ((Fv57.keep K66 (ninS x_68 nin0)).other W72 (Or.inr (slot_ne (Or.inl (oW hw 33 rfl)) (Or.inl (oW hw 48 rfl)) (by decide) (t := (.array .byte)) (t' := .int) (by decide) (by decide))))
  have u_75 := (((Keep.refl h0 [a1]).trans K57 (allS (Or.inl (List.mem_of_getElem? (i := 0) rfl)) all0)).trans K66 (allS (Or.inr (Nat.le_trans (Keep.refl h0 [a1]).1 sb57)) all0))
  have f_76 := ((Fd57.keep K66 (ninS x_68 nin0)).other W72 (Or.inr (slot_ne (Or.inl (oW hw 35 rfl)) (Or.inl (oW hw 48 rfl)) (by decide) (t := .byte) (t' := .int) (by decide) (by decide))))
  have f_77 := ((Fm57.keep K66 (ninS x_68 nin0)).other W72 (Or.inr (slot_ne (Or.inl (oW hw 406 rfl)) (Or.inl (oW hw 48 rfl)) (by decide) (t := .boolean) (t' := .int) (by decide) (by decide))))
  exact rtA pre_73 K X72 e72 hret hlk k_188 (by decide) ⟨rfl, rfl⟩ (hP _ _ _ ⟨rfl, N72, (u_75.wr W72 (Or.inl (List.mem_of_getElem? (i := 0) rfl))), b57, kN57, (Nat.le_trans (Keep.refl h0 [a1]).1 sb57), f_74, f_76, Fw72, f_77, (Vb66.other W72 (Ne.symm x_68))⟩)
theorem rm_bapg70 (hw : Hw a0 Z) (a1 : Addr) (s1 : Addr) (G1 n1 : Int32) (b1 : Addr) (kB : ClassId) (vs : List Value) (c1 : Int32) (b2 : Addr) (kD : ClassId) (vd : List Value) (m1 c2 dp1 : Int32) (h0 : Heap) (n0 : Nat) (O0 : Old Z n0 h0) (Ea1 : Exa Z h0 a1 s4_) (g1 : n0 ≤ a1) (Fb1 : Fld Z h0 a1 s1_ "value" "[B" (.ref b2)) (Fb2 : Fld Z h0 a1 s1_ "coder" "B" (.int 0)) (Fb3 : Fld Z h0 a1 s1_ "count" "I" (.int c1)) (Fb4 : Fld Z h0 a1 s1_ s5_ "Z" (.int 0)) (V3 : Arv Z h0 b2 kD .byte (70 : Int32) vd (.int 0)) (g2 : n0 ≤ b2) (E2 : Exa Z h0 s1 s2_) (Fc2 : Fld Z h0 s1 s2_ "coder" "B" (.int 0)) (Fv2 : Fld Z h0 s1 s2_ "value" "[B" (.ref b1)) (V2 : Arv Z h0 b1 kB .byte n1 vs (.int 0)) (SC : Sta Z Z.heap s2_ s6_ "Z" (.int G1)) (hG : ¬ G1 = (0 : Int32)) (ne12 : b1 ≠ b2) (hm : (n1 >>> ((0 : Int32) &&& 31)) = m1) (hsum : (c1 + m1) = c2) (hd : (c1 <<< ((0 : Int32) &&& 31)) = dp1) (h2 : ¬ dp1 < 0) (h3 : ¬ n1 < 0) (h5 : dp1.toNatClampNeg + n1.toNatClampNeg ≤ ((142 : Int32) : Int32).toNatClampNeg) (hdp : dp1.toNatClampNeg = vd.length) (hvs : vs.length = n1.toNatClampNeg) (hk : n1.toNatClampNeg ≤ 1000) (hc : ((c2 <<< ((0 : Int32) &&& 31)) - (70 : Int32)) < (72 : Int32)) (hp : (0 : Int32) < (c2 - (70 : Int32))) (hl : vd.length ≤ 70) : Met l Z y_15 c_15 2 (some (.object s4_)) (Rm 6 1 284 90) #[(.ref a1), (.ref s1)] h0 (fun v h L => v = some (.ref a1) ∧ Fr n0 L ∧ Keep h0 h [a1] ∧ ∃ b kN, h0.size ≤ b ∧ Fld Z h a1 s1_ "value" "[B" (.ref b) ∧ Fld Z h a1 s1_ "coder" "B" (.int 0) ∧ Fld Z h a1 s1_ "count" "I" (.int c2) ∧ Fld Z h a1 s1_ s5_ "Z" (.int 0) ∧ Arv Z h b kN .byte (142 : Int32) (vd ++ vs) (.int 0)) := by
  refine own_met (own := s4_) (G := fun m => (mkF m 0 #[vr a1, vr s1] [])) rfl n_15 ?_
  intro p e s m below meth c s₁ E0 P hP K hnm hret hlk hh X0 eH pre0
  obtain ⟨hx, hZ, hown, hby, hml⟩ := id K
  have pre_51 := fun t k => pre0 t <| oA K X0 k_189 rfl rfl rfl <| oA K X0 k_190 rfl rfl rfl <| k
  obtain ⟨T52, _, L52, X52, ⟨rfl, N52q, K52, b52, kN52, sb52, Fv52, Fd52, Fk52, Fm52, Vb52⟩, pre_52⟩ := cU pre_51 K X0 eH (rm_aapg70 l Z a0 hw a1 s1 G1 n1 b1 kB vs c1 b2 kD vd m1 c2 dp1 h0 n0 O0 Ea1 g1 Fb1 Fb2 Fb3 Fb4 V3 g2 E2 Fc2 Fv2 V2 SC hG ne12 hm hsum hd h2 h3 h5 hdp hvs hk hc hp hl) (oW hw 76 rfl) (oW hw 77 rfl) (oW hw 26 rfl) (oW hw 79 rfl) (oW hw 57 rfl) (oW hw 55 rfl) (oW hw 44 rfl) rfl Ea1 rfl (lenOf d_11 rfl) k_191 rfl rfl rfl (W := 0) (Nat.le_of_eq rfl) (by decide) (by decide)
  have N52 := Fr.app (Fr.nil n0) N52q
  have O52 : Old Z n0 T52.heap := O0.keep K52 (allS g1 all0)
  have pre_53 := fun t k => pre_52 t <| XT.pop X52.here hx rfl (hb hby k_192) rfl rfl <| oA K X52 k_193 rfl rfl rfl <| k
  exact rtA pre_53 K X52 rfl hret hlk k_194 (by decide) ⟨rfl, rfl⟩ (hP _ _ _ ⟨rfl, N52, ((Keep.refl h0 [a1]).trans K52 (allS (Or.inl (List.mem_of_getElem? (i := 0) rfl)) all0)), b52, kN52, (Nat.le_trans (Keep.refl h0 [a1]).1 sb52), Fv52, Fd52, Fk52, Fm52, Vb52⟩)
theorem rm_ain (hw : Hw a0 Z) (a1 : Addr) (G1 : Int32) (h0 : Heap) (n0 : Nat) (O0 : Old Z n0 h0) (E1 : Exa Z h0 a1 s4_) (g1 : n0 ≤ a1) (Fvalue : Fld Z h0 a1 s1_ "value" "[B" .null) (Fcoder : Fld Z h0 a1 s1_ "coder" "B" (.int 0)) (Fcount : Fld Z h0 a1 s1_ "count" "I" (.int 0)) (FmaybeLatin1 : Fld Z h0 a1 s1_ s5_ "Z" (.int 0)) (SC : Sta Z Z.heap s2_ s6_ "Z" (.int G1)) (hG : ¬ G1 = (0 : Int32)) : Met l Z y_16 c_16 2 none (Rm 1 1 16 14) #[(.ref a1), (.int 16)] h0 (fun v h L => v = none ∧ Fr n0 L ∧ Keep h0 h [a1] ∧ ∃ b kN, h0.size ≤ b ∧ Fld Z h a1 s1_ "value" "[B" (.ref b) ∧ Fld Z h a1 s1_ "coder" "B" (.int 0) ∧ Fld Z h a1 s1_ "count" "I" (.int 0) ∧ Fld Z h a1 s1_ s5_ "Z" (.int 0) ∧ Arv Z h b kN .byte (16 : Int32) [] (.int 0)) := by
  refine own_met (own := s1_) (G := fun m => (mkF m 0 #[vr a1, vi 16] [])) rfl n_16 ?_
  intro p e s m below meth c s₁ E0 P hP K hnm hret hlk hh X0 eH pre0
  obtain ⟨hx, hZ, hown, hby, hml⟩ := id K
  have pre_51 := fun t k => pre0 t <| oA K X0 k_195 rfl rfl rfl <| k
  obtain ⟨T52, X52, e52, st52⟩ := initO X0 hx hZ hown (oW hw 28 rfl) (oW hw 29 rfl) (oW hw 30 rfl) eH (g := (mkF m 1 #[vr a1, vi 16] [(.ref a1)])) rfl (by rw [hml]; rfl) rfl (hb hby k_196) (by decide) (W := 0) (by show 2 * 0 + _ ≤ _; exact Nat.le_of_eq rfl) (by decide)
  have pre_53 : Pr p e below E0 T52 (mkF m 4 #[vr a1, vi 16] []) := fun t k => pre_51 t (st52 t k)
  obtain ⟨T54, X54, e54, pre_54⟩ := gS pre_53 K X52 e52 (oW hw 31 rfl) (SC.ext O0.2) k_197 rfl
  have pre_55 := fun t k => pre_54 t <| XS.ifNo X54.here hx rfl (hb hby k_198) rfl (XT.i0_eq_f hG) <| oA K X54 k_199 rfl rfl rfl <| oI K X54 k_200 rfl rfl <| k
  obtain ⟨T56, h56, cA56, X56, e56, E56, A56, st56⟩ := newP X54 hx hZ (oW hw 3 rfl) e54 (g := (mkF m 12 #[vr a1, vi 16] [(.int 16), (.ref a1)])) rfl (hb hby k_201) rfl (by decide) (cap := 16) (by decide) (by decide) (by decide) (by decide)
  obtain ⟨b56, g56⟩ : ∃ z, z = h0.size := ⟨_, rfl⟩
  rw [← g56] at A56 st56
  have O56 : Old Z n0 h56 := O0.ext E56
  have V56 : Arv Z h56 b56 cA56 .byte (16 : Int32) [] (.int 0) := Arv.new A56 (by decide)
  have gl56 := Nat.le_of_eq g56.symm
  have pre_57 : Pr p e below E0 T56 (mkF m 14 #[vr a1, vi 16] [(.ref b56), (.ref a1)]) := fun t k => pre_55 t (st56 t k)
  obtain ⟨T58, h58, X58, e58, W58, Fw58, pre_58⟩ := pF pre_57 K X56 e56 (.array .byte) (oW hw 32 rfl) (Fvalue.ext E56) (E1.ext E56) (Or.inl (oW hw 33 rfl)) (oW hw 17 rfl) k_202 rfl rfl (by decide) rfl rfl
  have N58 := Fr.snoc X58 (Fr.nil n0) g1
  have O58 := O56.wr W58 g1
  have pre_59 := fun t k => pre_58 t <| oA K X58 k_203 rfl rfl rfl <| XS.iconst X58.here hx rfl (hb hby k_204) <| k
  have f_60 := ((Fcoder.ext E56).other W58 (Or.inr (slot_ne (Or.inl (oW hw 35 rfl)) (Or.inl (oW hw 33 rfl)) (by decide) (t := .byte) (t' := (.array .byte)) (by decide) (by decide))))
  obtain ⟨T61, h61, X61, e61, W61, Fw61, pre_61⟩ := pF pre_59 K X58 e58 .byte (oW hw 34 rfl) f_60 ((E1.ext E56).wr W58) (Or.inl (oW hw 35 rfl)) (oW hw 17 rfl) k_205 rfl rfl (by decide) rfl rfl
  have N61 := Fr.snoc X61 N58 g1
  have O61 := O58.wr W61 g1
  have pre_62 := fun t k => pre_61 t <| XS.goto X61.here hx rfl (pc0 := 22) (pc' := 38) rfl (hb hby k_206) (by decide) (by decide) <| k
  have f_63 := (Fw58.other W61 (Or.inr (slot_ne (Or.inl (oW hw 33 rfl)) (Or.inl (oW hw 35 rfl)) (by decide) (t := (.array .byte)) (t' := .byte) (by decide) (by decide))))
  have x_64 := (Ne.symm (Nat.ne_of_lt (Nat.lt_of_lt_of_le E1.lt gl56)))
  have u_65 := ((((Keep.refl h0 [a1]).ext E56).wr W58 (Or.inl (List.mem_of_getElem? (i := 0) rfl))).wr W61 (Or.inl (List.mem_of_getElem? (i := 0) rfl)))
  have f_66 := (((Fcount.ext E56).other W58 (Or.inr (slot_ne (Or.inl (oW hw 48 rfl)) (Or.inl (oW hw 33 rfl)) (by decide) (t := .int) (t' := (.array .byte)) (by decide) (by decide)))).other W61 (Or.inr (slot_ne (Or.inl (oW hw 48 rfl)) (Or.inl (oW hw 35 rfl)) (by decide) (t := .int) (t' := .byte) (by decide) (by decide))))
  have f_67 := (((FmaybeLatin1.ext E56).other W58 (Or.inr (slot_ne (Or.inl (oW hw 406 rfl)) (Or.inl (oW hw 33 rfl)) (by decide) (t := .boolean) (t' := (.array .byte)) (by decide) (by decide)))).other W61 (Or.inr (slot_ne (Or.inl (oW hw 406 rfl)) (Or.inl (oW hw 35 rfl)) (by decide) (t := .boolean) (t' := .byte) (by decide) (by decide))))
  exact rtV pre_62 K X61 e61 hret hlk k_207 (by decide) (hP _ _ _ ⟨rfl, N61, u_65, b56, cA56, (Nat.le_trans (Keep.refl h0 [a1]).1 gl56), f_63, Fw61, f_66, f_67, ((V56.other W58 x_64).other W61 x_64)⟩)
theorem rm_bin (hw : Hw a0 Z) (a1 : Addr) (G1 : Int32) (h0 : Heap) (n0 : Nat) (O0 : Old Z n0 h0) (E1 : Exa Z h0 a1 s4_) (g1 : n0 ≤ a1) (Fvalue : Fld Z h0 a1 s1_ "value" "[B" .null) (Fcoder : Fld Z h0 a1 s1_ "coder" "B" (.int 0)) (Fcount : Fld Z h0 a1 s1_ "count" "I" (.int 0)) (FmaybeLatin1 : Fld Z h0 a1 s1_ s5_ "Z" (.int 0)) (SC : Sta Z Z.heap s2_ s6_ "Z" (.int G1)) (hG : ¬ G1 = (0 : Int32)) : Met l Z y_17 c_17 1 none (Rm 2 1 16 30) #[(.ref a1)] h0 (fun v h L => v = none ∧ Fr n0 L ∧ Keep h0 h [a1] ∧ ∃ b kN, h0.size ≤ b ∧ Fld Z h a1 s1_ "value" "[B" (.ref b) ∧ Fld Z h a1 s1_ "coder" "B" (.int 0) ∧ Fld Z h a1 s1_ "count" "I" (.int 0) ∧ Fld Z h a1 s1_ s5_ "Z" (.int 0) ∧ Arv Z h b kN .byte (16 : Int32) [] (.int 0)) := by
  refine own_met (own := s4_) (G := fun m => (mkF m 0 #[vr a1] [])) rfl n_17 ?_
  intro p e s m below meth c s₁ E0 P hP K hnm hret hlk hh X0 eH pre0
  obtain ⟨hx, hZ, hown, hby, hml⟩ := id K
  have pre_51 := fun t k => pre0 t <| oA K X0 k_208 rfl rfl rfl <| XS.bipush X0.here hx rfl (hb hby k_209) <| k
  obtain ⟨T52, _, L52, X52, ⟨rfl, N52q, K52, rb52⟩, pre_52⟩ := cI pre_51 K X0 eH (rm_ain l Z a0 hw a1 G1 h0 n0 O0 E1 g1 Fvalue Fcoder Fcount FmaybeLatin1 SC hG) (oW hw 22 rfl) (oW hw 23 rfl) (oW hw 26 rfl) (oW hw 27 rfl) rfl (lenOf d_9 rfl) k_210 rfl rfl rfl (W := 0) (Nat.le_of_eq rfl) (by decide) rfl
  have N52 := Fr.app (Fr.nil n0) N52q
  have O52 : Old Z n0 T52.heap := O0.keep K52 (allS g1 all0)
  exact rtV pre_52 K X52 rfl hret hlk k_211 (by decide) (hP _ _ _ ⟨rfl, N52, ((Keep.refl h0 [a1]).trans K52 (allS (Or.inl (List.mem_of_getElem? (i := 0) rfl)) all0)), rb52⟩)
theorem rm_mix (hw : Hw a0 Z) (p1 : Int32) (p2 : Int32)  (h0 : Heap) (n0 : Nat) (O0 : Old Z n0 h0) (hc : p2 < p1) : Met l Z y_6 c_6 2 (some .int) (Rm 0 0 0 0) #[(.int p1), (.int p2)] h0 (fun v h L => v = some (.int p2) ∧ Fr n0 L ∧ h = h0) := by
  refine own_met (own := "java/lang/Math") (G := fun m => (mkF m 0 #[vi p1, vi p2] [])) rfl n_6 ?_
  intro p e s m below meth c s₁ E0 P hP K hnm hret hlk hh X0 eH pre0
  obtain ⟨hx, hZ, hown, hby, hml⟩ := id K
  have pre_51 := fun t k => pre0 t <| oI K X0 k_37 rfl rfl <| oI K X0 k_38 rfl rfl <| XS.icmpYes X0.here hx rfl (pc0 := 2) (pc' := 9) rfl (hb hby k_39) rfl (XT.ii_gt_t hc) (by decide) (by decide) <| oI K X0 k_212 rfl rfl <| k
  have pre_52 : Pr p e below E0 s₁ (mkF m 10 #[vi p1, vi p2] [(.int p2)]) := pre_51
  exact rtI pre_52 K X0 eH hret hlk k_42 (by decide) (hP _ _ _ ⟨rfl, (Fr.nil n0), rfl⟩)
theorem rm_crl (hw : Hw a0 Z) (t1 : Int32)  (h0 : Heap) (n0 : Nat) (O0 : Old Z n0 h0) (hz : ¬ t1 < (0 : Int32)) : Met l Z y_18 c_18 2 none (Rm 0 0 0 0) #[(.int 0), (.int t1)] h0 (fun v h L => v = none ∧ Fr n0 L ∧ h = h0) := by
  refine own_met (own := "java/util/Arrays") (G := fun m => (mkF m 0 #[vi 0, vi t1] [])) rfl n_18 ?_
  intro p e s m below meth c s₁ E0 P hP K hnm hret hlk hh X0 eH pre0
  obtain ⟨hx, hZ, hown, hby, hml⟩ := id K
  have pre_51 := fun t k => pre0 t <| oI K X0 k_213 rfl rfl <| oI K X0 k_214 rfl rfl <| XS.icmpYes X0.here hx rfl (pc0 := 2) (pc' := 37) rfl (hb hby k_215) rfl (XT.ii_ge_t hz) (by decide) (by decide) <| k
  exact rtV pre_51 K X0 eH hret hlk k_216 (by decide) (hP _ _ _ ⟨rfl, (Fr.nil n0), rfl⟩)
theorem rm_crb (hw : Hw a0 Z) (a1 : Addr) (t1 : Int32) (z1 : Int32) (kB : ClassId) (ls : List Value) (h0 : Heap) (n0 : Nat) (O0 : Old Z n0 h0) (V1 : Arv Z h0 a1 kB .byte z1 ls (.int 0)) (hz : ¬ t1 < (0 : Int32)) (hlt : t1 < z1) (hz2 : t1.toNatClampNeg ≤ 284) (hz3 : t1.toNatClampNeg ≤ z1.toNatClampNeg) (hl : ls.length = t1.toNatClampNeg) : Met l Z y_19 c_19 5 (some (.array .byte)) (Rm 1 1 284 30) #[(.ref a1), (.int 0), (.int t1)] h0 (fun v h L => ∃ b kN, v = some (.ref b) ∧ Fr n0 L ∧ Keep h0 h [] ∧ h0.size ≤ b ∧ Arv Z h b kN .byte t1 ls (.int 0)) := by
  refine own_met (own := "java/util/Arrays") (G := fun m => (mkF m 0 #[vr a1, vi 0, vi t1, uz, uz] [])) rfl n_19 ?_
  intro p e s m below meth c s₁ E0 P hP K hnm hret hlk hh X0 eH pre0
  obtain ⟨hx, hZ, hown, hby, hml⟩ := id K
  have pre_51 := fun t k => pre0 t <| oI K X0 k_217 rfl rfl <| oI K X0 k_218 rfl rfl <| k
  obtain ⟨T52, _, L52, X52, ⟨rfl, N52q, e52⟩, pre_52⟩ := cS pre_51 K X0 eH (rm_crl l Z a0 hw t1 h0 n0 O0 hz) (oW hw 170 rfl) (oW hw 171 rfl) (oW hw 110 rfl) (oW hw 172 rfl) rfl (lenOf d_12 rfl) k_219 rfl rfl rfl (W := 0) (Nat.le_of_eq rfl) (by decide)
  have N52 := Fr.app (Fr.nil n0) N52q
  have pre_53 := fun t k => pre_52 t <| oI K X52 k_220 rfl rfl <| oI K X52 k_221 rfl rfl <| XS.isub X52.here hx rfl (hb hby k_222) rfl <| k
  have pre_54 : Pr p e below E0 T52 (mkF m 8 #[vr a1, vi 0, vi t1, uz, uz] [(.int (t1 - (0 : Int32)))]) := pre_53
  rw [(own_sub0 t1)] at pre_54
  have pre_55 := fun t k => pre_54 t <| XS.istoreN X52.here hx rfl (hb hby k_223) rfl (l' := #[vr a1, vi 0, vi t1, vi t1, uz]) rfl <| oI K X52 k_224 rfl rfl <| k
  obtain ⟨T56, h56, cA56, X56, e56, E56, A56, st56⟩ := newP X52 hx hZ (oW hw 3 rfl) e52 (g := (mkF m 10 #[vr a1, vi 0, vi t1, vi t1, uz] [(.int t1)])) rfl (hb hby k_225) rfl hz (cap := 284) hz2 (by decide) (by decide) (by decide)
  obtain ⟨b56, g56⟩ : ∃ z, z = h0.size := ⟨_, rfl⟩
  rw [← g56] at A56 st56
  have O56 : Old Z n0 h56 := O0.ext E56
  have V56 : Arv Z h56 b56 cA56 .byte t1 [] (.int 0) := Arv.new A56 hz
  have gl56 := Nat.le_of_eq g56.symm
  have pre_57 : Pr p e below E0 T56 (mkF m 12 #[vr a1, vi 0, vi t1, vi t1, uz] [(.ref b56)]) := fun t k => pre_55 t (st56 t k)
  have pre_58 := fun t k => pre_57 t <| XS.astore X56.here hx rfl (hb hby k_226) rfl rfl (l' := #[vr a1, vi 0, vi t1, vi t1, vr b56]) rfl <| oA K X56 k_227 rfl rfl rfl <| oI K X56 k_228 rfl rfl <| oB K X56 k_229 rfl rfl rfl <| XS.iconst X56.here hx rfl (hb hby k_230) <| oA K X56 k_231 rfl rfl rfl <| oAl K X56 e56 (V1.ext E56) k_232 rfl rfl <| oI K X56 k_233 rfl rfl <| XS.isub X56.here hx rfl (hb hby k_234) rfl <| k
  have pre_59 : Pr p e below E0 T56 (mkF m 23 #[vr a1, vi 0, vi t1, vi t1, vr b56] [(.int (z1 - (0 : Int32))), (.int 0), (.ref b56), (.int 0), (.ref a1)]) := pre_58
  rw [(own_sub0 z1)] at pre_59
  have pre_60 := fun t k => pre_59 t <| oI K X56 k_235 rfl rfl <| k
  obtain ⟨T61, _, L61, X61, ⟨rfl, N61q, e61⟩, pre_61⟩ := cS pre_60 K X56 e56 (rm_mix l Z a0 hw z1 t1 h56 n0 O56 hlt) (oW hw 112 rfl) (oW hw 113 rfl) (oW hw 104 rfl) (oW hw 114 rfl) rfl (lenOf d_2 rfl) k_236 rfl rfl rfl (W := 4) (Nat.le_of_eq rfl) (by decide)
  have N61 := Fr.app N52 N61q
  have v_63 := (Nat.le_trans (own_le O0) gl56)
  obtain ⟨T62, h62, L62, X62, e62, N62, K62, U62, st62⟩ := cpA X61 hx hZ hown (oW hw 115 rfl) (oW hw 118 rfl) (oW hw 116 rfl) (oW hw 117 rfl) e61 (V1.ext E56) (Arv.pad V56 (pad_rep [] _ 1000)) (Or.inl ⟨rfl, rfl⟩) (by decide) (by decide) hz (by show 0 + _ ≤ _; omega) (by show 0 + _ ≤ _; omega) rfl (own_hl rfl (show ls.length ≤ t1.toNatClampNeg ∧ t1.toNatClampNeg ≤ 1000 from ⟨Nat.le_of_eq hl, by omega⟩).2) N61 v_63 (g := (mkF m 27 #[vr a1, vi 0, vi t1, vi t1, vr b56] [(.int t1), (.int 0), (.ref b56), (.int 0), (.ref a1)])) rfl (by rw [hml]; rfl) rfl (hb hby k_237) (by decide) (W := 0) (by show 2 * 0 + _ ≤ _; exact Nat.le_of_eq rfl) (by decide)
  have V62 : Arv Z h62 b56 cA56 .byte t1 ls (.int 0) := Arv.pad U62 (own_cat0 rfl (show ls.length ≤ t1.toNatClampNeg ∧ t1.toNatClampNeg ≤ 1000 from ⟨Nat.le_of_eq hl, by omega⟩).1)
  have O62 : Old Z n0 h62 := O56.keep K62 (allS v_63 all0)
  have pre_64 : Pr p e below E0 T62 (mkF m 30 #[vr a1, vi 0, vi t1, vi t1, vr b56] []) := fun t k => pre_61 t (st62 t k)
  have pre_65 := fun t k => pre_64 t <| oB K X62 k_238 rfl rfl rfl <| k
  have u_66 := (((Keep.refl h0 []).ext E56).trans K62 (allS (Or.inr (Nat.le_trans (Keep.refl h0 []).1 gl56)) all0))
  exact rtA pre_65 K X62 e62 hret hlk k_239 (by decide) ⟨rfl, rfl⟩ (hP _ _ _ ⟨b56, cA56, rfl, N62, u_66, (Nat.le_trans (Keep.refl h0 []).1 gl56), V62⟩)
theorem rm_cor (hw : Hw a0 Z) (a1 : Addr) (t1 : Int32) (z1 : Int32) (kB : ClassId) (ls : List Value) (h0 : Heap) (n0 : Nat) (O0 : Old Z n0 h0) (V1 : Arv Z h0 a1 kB .byte z1 ls (.int 0)) (hz : ¬ t1 < (0 : Int32)) (hlt : t1 < z1) (hz2 : t1.toNatClampNeg ≤ 284) (hz3 : t1.toNatClampNeg ≤ z1.toNatClampNeg) (hl : ls.length = t1.toNatClampNeg) : Met l Z y_20 c_20 3 (some (.array .byte)) (Rm 2 1 284 48) #[(.ref a1), (.int 0), (.int t1)] h0 (fun v h L => ∃ b kN, v = some (.ref b) ∧ Fr n0 L ∧ Keep h0 h [] ∧ h0.size ≤ b ∧ Arv Z h b kN .byte t1 ls (.int 0)) := by
  refine own_met (own := "java/util/Arrays") (G := fun m => (mkF m 0 #[vr a1, vi 0, vi t1] [])) rfl n_20 ?_
  intro p e s m below meth c s₁ E0 P hP K hnm hret hlk hh X0 eH pre0
  obtain ⟨hx, hZ, hown, hby, hml⟩ := id K
  have pre_51 := fun t k => pre0 t <| oI K X0 k_240 rfl rfl <| XS.ifNo X0.here hx rfl (hb hby k_241) rfl (XT.i0_ne_f (by decide)) <| oI K X0 k_242 rfl rfl <| oA K X0 k_243 rfl rfl rfl <| oAl K X0 eH V1 k_244 rfl rfl <| XS.icmpNo X0.here hx rfl (hb hby k_245) rfl (XT.ii_eq_f (Int32.ne_of_lt hlt)) <| oA K X0 k_246 rfl rfl rfl <| oI K X0 k_247 rfl rfl <| oI K X0 k_248 rfl rfl <| k
  obtain ⟨T52, _, L52, X52, ⟨b52, kN52, rfl, N52q, K52, sb52, Vb52⟩, pre_52⟩ := cS pre_51 K X0 eH (rm_crb l Z a0 hw a1 t1 z1 kB ls h0 n0 O0 V1 hz hlt hz2 hz3 hl) (oW hw 167 rfl) (oW hw 168 rfl) (oW hw 110 rfl) (oW hw 169 rfl) rfl (lenOf d_13 rfl) k_249 rfl rfl rfl (W := 0) (Nat.le_of_eq rfl) (by decide)
  have N52 := Fr.app (Fr.nil n0) N52q
  have O52 : Old Z n0 T52.heap := O0.keep K52 all0
  exact rtA pre_52 K X52 rfl hret hlk k_250 (by decide) ⟨rfl, rfl⟩ (hP _ _ _ ⟨b52, kN52, rfl, N52, ((Keep.refl h0 []).trans K52 all0), (Nat.le_trans (Keep.refl h0 []).1 sb52), Vb52⟩)
theorem rm_gvl (hw : Hw a0 Z) (a1 : Addr) (b2 : Addr) (h0 : Heap) (n0 : Nat) (O0 : Old Z n0 h0) (F1 : Fld Z h0 a1 s1_ "value" "[B" (.ref b2)) : Met l Z y_21 c_21 1 (some (.array .byte)) (Rm 0 0 0 0) #[(.ref a1)] h0 (fun v h L => v = some (.ref b2) ∧ Fr n0 L ∧ h = h0) := by
  refine own_met (own := s1_) (G := fun m => (mkF m 0 #[vr a1] [])) rfl n_21 ?_
  intro p e s m below meth c s₁ E0 P hP K hnm hret hlk hh X0 eH pre0
  obtain ⟨hx, hZ, hown, hby, hml⟩ := id K
  have pre_51 := fun t k => pre0 t <| oA K X0 k_251 rfl rfl rfl <| k
  obtain ⟨T52, X52, e52, pre_52⟩ := gF pre_51 K X0 eH (oW hw 32 rfl) Via.refl F1 k_252 rfl rfl
  exact rtA pre_52 K X52 e52 hret hlk k_253 (by decide) ⟨rfl, rfl⟩ (hP _ _ _ ⟨rfl, (Fr.nil n0), rfl⟩)
theorem rm_aln (hw : Hw a0 Z) (a1 : Addr) (c1 : Int32) (h0 : Heap) (n0 : Nat) (O0 : Old Z n0 h0) (F1 : Fld Z h0 a1 s1_ "count" "I" (.int c1)) : Met l Z y_22 c_22 1 (some .int) (Rm 0 0 0 0) #[(.ref a1)] h0 (fun v h L => v = some (.int c1) ∧ Fr n0 L ∧ h = h0) := by
  refine own_met (own := s1_) (G := fun m => (mkF m 0 #[vr a1] [])) rfl n_22 ?_
  intro p e s m below meth c s₁ E0 P hP K hnm hret hlk hh X0 eH pre0
  obtain ⟨hx, hZ, hown, hby, hml⟩ := id K
  have pre_51 := fun t k => pre0 t <| oA K X0 k_254 rfl rfl rfl <| k
  obtain ⟨T52, X52, e52, pre_52⟩ := gF pre_51 K X0 eH (oW hw 47 rfl) Via.refl F1 k_255 rfl rfl
  have pre_53 : Pr p e below E0 T52 (mkF m 4 #[vr a1] [(.int c1)]) := pre_52
  exact rtI pre_53 K X52 e52 hret hlk k_256 (by decide) (hP _ _ _ ⟨rfl, (Fr.nil n0), rfl⟩)
theorem rm_bln (hw : Hw a0 Z) (a1 : Addr) (c1 : Int32) (h0 : Heap) (n0 : Nat) (O0 : Old Z n0 h0) (E1 : Exa Z h0 a1 s4_) (F1 : Fld Z h0 a1 s1_ "count" "I" (.int c1)) : Met l Z y_23 c_23 1 (some .int) (Rm 1 0 0 13) #[(.ref a1)] h0 (fun v h L => v = some (.int c1) ∧ Fr n0 L ∧ h = h0) := by
  refine own_met (own := s4_) (G := fun m => (mkF m 0 #[vr a1] [])) rfl n_23 ?_
  intro p e s m below meth c s₁ E0 P hP K hnm hret hlk hh X0 eH pre0
  obtain ⟨hx, hZ, hown, hby, hml⟩ := id K
  have pre_51 := fun t k => pre0 t <| oA K X0 k_257 rfl rfl rfl <| k
  obtain ⟨T52, _, L52, X52, ⟨rfl, N52q, e52⟩, pre_52⟩ := cU pre_51 K X0 eH (rm_aln l Z a0 hw a1 c1 h0 n0 O0 F1) (oW hw 161 rfl) (oW hw 157 rfl) (oW hw 26 rfl) (oW hw 162 rfl) (oW hw 57 rfl) (oW hw 55 rfl) (oW hw 44 rfl) rfl E1 rfl (lenOf d_8 rfl) k_258 rfl rfl rfl (W := 0) (Nat.le_of_eq rfl) (by decide) (by decide)
  have N52 := Fr.app (Fr.nil n0) N52q
  have pre_53 : Pr p e below E0 T52 (mkF m 4 #[vr a1] [(.int c1)]) := pre_52
  exact rtI pre_53 K X52 e52 hret hlk k_259 (by decide) (hP _ _ _ ⟨rfl, N52, rfl⟩)
theorem rm_si20 (hw : Hw a0 Z) (s1 : Addr) (a1 : Addr) (u1 u2 : Value) (G1 z1 : Int32) (c1 : Int32) (b2 : Addr) (kD : ClassId) (vd : List Value) (h0 : Heap) (n0 : Nat) (O0 : Old Z n0 h0) (E2 : Exa Z h0 s1 s2_) (Fc2 : Fld Z h0 s1 s2_ "coder" "B" u2) (Fv2 : Fld Z h0 s1 s2_ "value" "[B" u1) (g3 : n0 ≤ s1) (Ea1 : Exa Z h0 a1 s4_) (Fb1 : Fld Z h0 a1 s1_ "value" "[B" (.ref b2)) (Fb2 : Fld Z h0 a1 s1_ "coder" "B" (.int 0)) (Fb3 : Fld Z h0 a1 s1_ "count" "I" (.int c1)) (Fb4 : Fld Z h0 a1 s1_ s5_ "Z" (.int 0)) (V3 : Arv Z h0 b2 kD .byte z1 vd (.int 0)) (SC : Sta Z Z.heap s2_ s6_ "Z" (.int G1)) (hG : ¬ G1 = (0 : Int32)) (hz : ¬ c1 < (0 : Int32)) (hlt : c1 < z1) (hz2 : (c1).toNatClampNeg ≤ 284) (hz3 : (c1).toNatClampNeg ≤ z1.toNatClampNeg) (hl : vd.length = (c1).toNatClampNeg) : Met l Z y_24 c_24 5 none (Rm 3 1 284 70) #[(.ref s1), (.ref a1), .null] h0 (fun v h L => v = none ∧ Fr n0 L ∧ Keep h0 h [s1] ∧ Fld Z h s1 s2_ "coder" "B" (.int 0) ∧ ∃ b kN, h0.size ≤ b ∧ Fld Z h s1 s2_ "value" "[B" (.ref b) ∧ Arv Z h b kN .byte c1 vd (.int 0)) := by
  refine own_met (own := s2_) (G := fun m => (mkF m 0 #[vr s1, vr a1, .val .null, uz, uz] [])) rfl n_24 ?_
  intro p e s m below meth c s₁ E0 P hP K hnm hret hlk hh X0 eH pre0
  obtain ⟨hx, hZ, hown, hby, hml⟩ := id K
  have pre_51 := fun t k => pre0 t <| oA K X0 k_260 rfl rfl rfl <| k
  obtain ⟨T52, X52, e52, st52⟩ := initO X0 hx hZ hown (oW hw 149 rfl) (oW hw 29 rfl) (oW hw 30 rfl) eH (g := (mkF m 1 #[vr s1, vr a1, .val .null, uz, uz] [(.ref s1)])) rfl (by rw [hml]; rfl) rfl (hb hby k_261) (by decide) (W := 0) (by show 2 * 0 + _ ≤ _; exact Nat.le_of_eq rfl) (by decide)
  have pre_53 : Pr p e below E0 T52 (mkF m 4 #[vr s1, vr a1, .val .null, uz, uz] []) := fun t k => pre_51 t (st52 t k)
  have pre_54 := fun t k => pre_53 t <| oA K X52 k_262 rfl rfl rfl <| k
  obtain ⟨T55, _, L55, X55, ⟨rfl, N55q, e55⟩, pre_55⟩ := cV pre_54 K X52 e52 (rm_gvl l Z a0 hw a1 b2 h0 n0 O0 Fb1) (oW hw 150 rfl) (oW hw 152 rfl) (oW hw 26 rfl) (oW hw 154 rfl) (oW hw 151 rfl) (oW hw 153 rfl) (notFace_of_selects (args := #[]) (mvT hZ (oW hw 153 rfl))) Ea1 rfl (lenOf d_14 rfl) k_263 rfl rfl rfl (W := 0) (Nat.le_of_eq rfl) (by decide)
  have N55 := Fr.app (Fr.nil n0) N55q
  have pre_56 := fun t k => pre_55 t <| XS.astoreN X55.here hx rfl (hb hby k_264) rfl rfl (l' := #[vr s1, vr a1, .val .null, vr b2, uz]) rfl <| oA K X55 k_265 rfl rfl rfl <| k
  obtain ⟨T57, _, L57, X57, ⟨rfl, N57q, e57⟩, pre_57⟩ := cV pre_56 K X55 e55 (rm_bln l Z a0 hw a1 c1 h0 n0 O0 Ea1 Fb3) (oW hw 155 rfl) (oW hw 159 rfl) (oW hw 18 rfl) (oW hw 160 rfl) (oW hw 156 rfl) (oW hw 158 rfl) (own_nf (args := #[]) (mvT hZ (oW hw 57 rfl)) (mvT hZ (oW hw 55 rfl)) rfl) Ea1 rfl (lenOf d_8 rfl) k_266 rfl rfl rfl (W := 0) (Nat.le_of_eq rfl) (by decide)
  have N57 := Fr.app N55 N57q
  have pre_58 := fun t k => pre_57 t <| XS.istore X57.here hx rfl (hb hby k_267) rfl (l' := #[vr s1, vr a1, .val .null, vr b2, vi c1]) rfl <| oA K X57 k_268 rfl rfl rfl <| k
  obtain ⟨T59, _, L59, X59, ⟨rfl, N59q, e59⟩, pre_59⟩ := cV pre_58 K X57 e57 (rm_bl0 l Z a0 hw a1 G1 h0 n0 O0 Fb2 SC hG) (oW hw 163 rfl) (oW hw 61 rfl) (oW hw 26 rfl) (oW hw 63 rfl) (oW hw 60 rfl) (oW hw 62 rfl) (notFace_of_selects (args := #[]) (mvT hZ (oW hw 62 rfl))) Ea1 rfl (lenOf d_15 rfl) k_269 rfl rfl rfl (W := 0) (Nat.le_of_eq rfl) (by decide)
  have N59 := Fr.app N57 N59q
  have pre_60 := fun t k => pre_59 t <| XS.ifNo X59.here hx rfl (hb hby k_270) rfl (XT.i0_eq_f (by decide)) <| oA K X59 k_271 rfl rfl rfl <| XS.iconst X59.here hx rfl (hb hby k_272) <| k
  obtain ⟨T61, h61, X61, e61, W61, Fw61, pre_61⟩ := pF pre_60 K X59 e59 .byte (oW hw 92 rfl) Fc2 E2 (Or.inr ⟨(oW hw 5 rfl), rfl, hnm⟩) (oW hw 2 rfl) k_273 rfl rfl (by decide) rfl rfl
  have N61 := Fr.snoc X61 N59 g3
  have O61 := O0.wr W61 g3
  have f_62 := (V3.other W61 (Ne.symm (Exa.neArv E2 V3 (oW hw 2 rfl))))
  have pre_63 : Pr p e below E0 T61 (mkF m 32 #[vr s1, vr a1, .val .null, vr b2, vi c1] [(.int c1), (.int 0), (.ref b2), (.ref s1)]) := fun t k => pre_61 t <| oA K X61 k_274 rfl rfl rfl <| oA K X61 k_275 rfl rfl rfl <| XS.iconst X61.here hx rfl (hb hby k_276) <| oJ K X61 k_277 rfl rfl <| k
  obtain ⟨T64, _, L64, X64, ⟨b64, kN64, rfl, N64q, K64, sb64, Vb64⟩, pre_64⟩ := cS pre_63 K X61 e61 (rm_cor l Z a0 hw b2 c1 z1 kD vd h61 n0 O61 f_62 hz hlt hz2 hz3 hl) (oW hw 164 rfl) (oW hw 165 rfl) (oW hw 110 rfl) (oW hw 166 rfl) rfl (lenOf d_13 rfl) k_278 rfl rfl rfl (W := 1) (Nat.le_of_eq rfl) (by decide)
  have N64 := Fr.app N61 N64q
  have O64 : Old Z n0 T64.heap := O61.keep K64 all0
  have f_65 := ((Fv2.other W61 (Or.inr (slot_ne (Or.inr (oW hw 4 rfl)) (Or.inr (oW hw 5 rfl)) (by decide) (t := (.array .byte)) (t' := .byte) (by decide) (by decide)))).keep K64 nin0)
  obtain ⟨T66, h66, X66, e66, W66, Fw66, pre_66⟩ := pF pre_64 K X64 rfl (.array .byte) (oW hw 85 rfl) f_65 ((E2.wr W61).keep K64) (Or.inr ⟨(oW hw 4 rfl), rfl, hnm⟩) (oW hw 2 rfl) k_279 rfl rfl (by decide) rfl rfl
  have N66 := Fr.snoc X66 N64 g3
  have O66 := O64.wr W66 g3
  have pre_67 := fun t k => pre_66 t <| XS.goto X66.here hx rfl (pc0 := 38) (pc' := 97) rfl (hb hby k_280) (by decide) (by decide) <| k
  have x_68 := (Ne.symm (Nat.ne_of_lt (Nat.lt_of_lt_of_le (E2.wr W61).lt sb64)))
  have u_69 := (((Keep.refl h0 [s1]).wr W61 (Or.inl (List.mem_of_getElem? (i := 0) rfl))).trans K64 all0)
  have f_70 := ((Fw61.keep K64 nin0).other W66 (Or.inr (slot_ne (Or.inr (oW hw 5 rfl)) (Or.inr (oW hw 4 rfl)) (by decide) (t := .byte) (t' := (.array .byte)) (by decide) (by decide))))
  exact rtV pre_67 K X66 e66 hret hlk k_281 (by decide) (hP _ _ _ ⟨rfl, N66, (u_69.wr W66 (Or.inl (List.mem_of_getElem? (i := 0) rfl))), f_70, b64, kN64, (Nat.le_trans ((Keep.refl h0 [s1]).wr W61 (Or.inl (List.mem_of_getElem? (i := 0) rfl))).1 sb64), Fw66, (Vb64.other W66 x_68)⟩)
theorem rm_si10 (hw : Hw a0 Z) (s1 : Addr) (a1 : Addr) (u1 u2 : Value) (G1 z1 : Int32) (c1 : Int32) (b2 : Addr) (kD : ClassId) (vd : List Value) (h0 : Heap) (n0 : Nat) (O0 : Old Z n0 h0) (E2 : Exa Z h0 s1 s2_) (Fc2 : Fld Z h0 s1 s2_ "coder" "B" u2) (Fv2 : Fld Z h0 s1 s2_ "value" "[B" u1) (g3 : n0 ≤ s1) (Ea1 : Exa Z h0 a1 s4_) (Fb1 : Fld Z h0 a1 s1_ "value" "[B" (.ref b2)) (Fb2 : Fld Z h0 a1 s1_ "coder" "B" (.int 0)) (Fb3 : Fld Z h0 a1 s1_ "count" "I" (.int c1)) (Fb4 : Fld Z h0 a1 s1_ s5_ "Z" (.int 0)) (V3 : Arv Z h0 b2 kD .byte z1 vd (.int 0)) (SC : Sta Z Z.heap s2_ s6_ "Z" (.int G1)) (hG : ¬ G1 = (0 : Int32)) (hz : ¬ c1 < (0 : Int32)) (hlt : c1 < z1) (hz2 : (c1).toNatClampNeg ≤ 284) (hz3 : (c1).toNatClampNeg ≤ z1.toNatClampNeg) (hl : vd.length = (c1).toNatClampNeg) : Met l Z y_25 c_25 2 none (Rm 4 1 284 90) #[(.ref s1), (.ref a1)] h0 (fun v h L => v = none ∧ Fr n0 L ∧ Keep h0 h [s1] ∧ Fld Z h s1 s2_ "coder" "B" (.int 0) ∧ ∃ b kN, h0.size ≤ b ∧ Fld Z h s1 s2_ "value" "[B" (.ref b) ∧ Arv Z h b kN .byte c1 vd (.int 0)) := by
  refine own_met (own := s2_) (G := fun m => (mkF m 0 #[vr s1, vr a1] [])) rfl n_25 ?_
  intro p e s m below meth c s₁ E0 P hP K hnm hret hlk hh X0 eH pre0
  obtain ⟨hx, hZ, hown, hby, hml⟩ := id K
  have pre_51 := fun t k => pre0 t <| oA K X0 k_282 rfl rfl rfl <| oA K X0 k_283 rfl rfl rfl <| XS.aconstNull X0.here hx rfl (hb hby k_284) <| k
  obtain ⟨T52, _, L52, X52, ⟨rfl, N52q, K52, rb52⟩, pre_52⟩ := cI pre_51 K X0 eH (rm_si20 l Z a0 hw s1 a1 u1 u2 G1 z1 c1 b2 kD vd h0 n0 O0 E2 Fc2 Fv2 g3 Ea1 Fb1 Fb2 Fb3 Fb4 V3 SC hG hz hlt hz2 hz3 hl) (oW hw 146 rfl) (oW hw 147 rfl) (oW hw 1 rfl) (oW hw 148 rfl) rfl (lenOf d_16 rfl) k_285 rfl rfl rfl (W := 0) (Nat.le_of_eq rfl) (by decide) rfl
  have N52 := Fr.app (Fr.nil n0) N52q
  have O52 : Old Z n0 T52.heap := O0.keep K52 (allS g3 all0)
  exact rtV pre_52 K X52 rfl hret hlk k_286 (by decide) (hP _ _ _ ⟨rfl, N52, ((Keep.refl h0 [s1]).trans K52 (allS (Or.inl (List.mem_of_getElem? (i := 0) rfl)) all0)), rb52⟩)
theorem rm_tos0 (hw : Hw a0 Z) (a1 : Addr) (G1 z1 : Int32) (c1 : Int32) (b2 : Addr) (kD : ClassId) (vd : List Value) (h0 : Heap) (n0 : Nat) (O0 : Old Z n0 h0) (Ea1 : Exa Z h0 a1 s4_) (Fb1 : Fld Z h0 a1 s1_ "value" "[B" (.ref b2)) (Fb2 : Fld Z h0 a1 s1_ "coder" "B" (.int 0)) (Fb3 : Fld Z h0 a1 s1_ "count" "I" (.int c1)) (Fb4 : Fld Z h0 a1 s1_ s5_ "Z" (.int 0)) (V3 : Arv Z h0 b2 kD .byte z1 vd (.int 0)) (SC : Sta Z Z.heap s2_ s6_ "Z" (.int G1)) (hG : ¬ G1 = (0 : Int32)) (hz : ¬ c1 < (0 : Int32)) (hlt : c1 < z1) (hz2 : (c1).toNatClampNeg ≤ 284) (hz3 : (c1).toNatClampNeg ≤ z1.toNatClampNeg) (hl : vd.length = (c1).toNatClampNeg) : Met l Z y_26 c_26 1 (some (.object s2_)) (Rm 5 2 288 110) #[(.ref a1)] h0 (fun v h L => ∃ s1, v = some (.ref s1) ∧ Fr n0 L ∧ Keep h0 h [] ∧ h0.size ≤ s1 ∧ Exa Z h s1 s2_ ∧ Fld Z h s1 s2_ "coder" "B" (.int 0) ∧ ∃ b kN, h0.size ≤ b ∧ Fld Z h s1 s2_ "value" "[B" (.ref b) ∧ Arv Z h b kN .byte c1 vd (.int 0)) := by
  refine own_met (own := s4_) (G := fun m => (mkF m 0 #[vr a1] [])) rfl n_26 ?_
  intro p e s m below meth c s₁ E0 P hP K hnm hret hlk hh X0 eH pre0
  obtain ⟨hx, hZ, hown, hby, hml⟩ := id K
  obtain ⟨T51, h51, X51, e51, E51, A51, D51, U51, st51⟩ := newO X0 hx hZ hown (oW hw 141 rfl) (oW hw 2 rfl) (oW hw 1 rfl) eH (g := (mkF m 0 #[vr a1] [])) rfl (hb hby k_287) (by decide) (by decide)
  obtain ⟨b51, g51⟩ : ∃ z, z = h0.size := ⟨_, rfl⟩
  rw [← g51] at A51 D51 U51 st51
  have O51 : Old Z n0 h51 := O0.ext E51
  have gl51 := Nat.le_of_eq g51.symm
  have F52 : Fld Z h51 b51 s2_ "value" "[B" .null := D51 (Or.inr (oW hw 4 rfl)) (ty := (.array .byte)) (by decide)
  have F53 : Fld Z h51 b51 s2_ "coder" "B" (.int 0) := D51 (Or.inr (oW hw 5 rfl)) (ty := .byte) (by decide)
  have pre_54 : Pr p e below E0 T51 (mkF m 3 #[vr a1] [(.ref b51)]) := fun t k => pre0 t (st51 t k)
  have v_55 := (Nat.le_trans (own_le O0) gl51)
  have pre_56 := fun t k => pre_54 t <| XS.dup X51.here hx rfl (hb hby k_288) rfl rfl <| oA K X51 k_289 rfl rfl rfl <| k
  obtain ⟨T57, _, L57, X57, ⟨rfl, N57q, K57, Fc57, b57, kN57, sb57, Fv57, Vb57⟩, pre_57⟩ := cI pre_56 K X51 e51 (rm_si10 l Z a0 hw b51 a1 .null (.int 0) G1 z1 c1 b2 kD vd h51 n0 O51 A51 F53 F52 v_55 (Ea1.ext E51) (Fb1.ext E51) (Fb2.ext E51) (Fb3.ext E51) (Fb4.ext E51) (V3.ext E51) SC hG hz hlt hz2 hz3 hl) (oW hw 142 rfl) (oW hw 143 rfl) (oW hw 1 rfl) (oW hw 145 rfl) rfl (lenOf d_17 rfl) k_290 rfl rfl rfl (W := 1) (Nat.le_of_eq rfl) (by decide) rfl
  have N57 := Fr.app (Fr.nil n0) N57q
  have O57 : Old Z n0 T57.heap := O51.keep K57 (allS v_55 all0)
  have u_58 := (((Keep.refl h0 []).ext E51).trans K57 (allS (Or.inr (Nat.le_trans (Keep.refl h0 []).1 gl51)) all0))
  exact rtA pre_57 K X57 rfl hret hlk k_291 (by decide) ⟨rfl, rfl⟩ (hP _ _ _ ⟨b51, rfl, N57, u_58, (Nat.le_trans (Keep.refl h0 []).1 gl51), (A51.keep K57), Fc57, b57, kN57, (Nat.le_trans ((Keep.refl h0 []).ext E51).1 sb57), Fv57, Vb57⟩)
theorem rm_si21 (hw : Hw a0 Z) (s1 : Addr) (a1 : Addr) (u1 u2 : Value) (G1 z1 t1 : Int32) (c1 : Int32) (b2 : Addr) (kD : ClassId) (vd : List Value) (h0 : Heap) (n0 : Nat) (O0 : Old Z n0 h0) (E2 : Exa Z h0 s1 s2_) (Fc2 : Fld Z h0 s1 s2_ "coder" "B" u2) (Fv2 : Fld Z h0 s1 s2_ "value" "[B" u1) (g3 : n0 ≤ s1) (Ea1 : Exa Z h0 a1 s4_) (Fb1 : Fld Z h0 a1 s1_ "value" "[B" (.ref b2)) (Fb2 : Fld Z h0 a1 s1_ "coder" "B" (.int 1)) (Fb3 : Fld Z h0 a1 s1_ "count" "I" (.int c1)) (Fb4 : Fld Z h0 a1 s1_ s5_ "Z" (.int 0)) (V3 : Arv Z h0 b2 kD .byte z1 vd (.int 0)) (SC : Sta Z Z.heap s2_ s6_ "Z" (.int G1)) (hG : ¬ G1 = (0 : Int32)) (hz : ¬ t1 < (0 : Int32)) (hlt : t1 < z1) (hz2 : (t1).toNatClampNeg ≤ 284) (hz3 : (t1).toNatClampNeg ≤ z1.toNatClampNeg) (hl : vd.length = (t1).toNatClampNeg) (ht : (c1 <<< ((1 : Int32) &&& 31)) = t1) : Met l Z y_24 c_24 5 none (Rm 3 1 284 70) #[(.ref s1), (.ref a1), .null] h0 (fun v h L => v = none ∧ Fr n0 L ∧ Keep h0 h [s1] ∧ Fld Z h s1 s2_ "coder" "B" (.int 1) ∧ ∃ b kN, h0.size ≤ b ∧ Fld Z h s1 s2_ "value" "[B" (.ref b) ∧ Arv Z h b kN .byte t1 vd (.int 0)) := by
  refine own_met (own := s2_) (G := fun m => (mkF m 0 #[vr s1, vr a1, .val .null, uz, uz] [])) rfl n_24 ?_
  intro p e s m below meth c s₁ E0 P hP K hnm hret hlk hh X0 eH pre0
  obtain ⟨hx, hZ, hown, hby, hml⟩ := id K
  have pre_51 := fun t k => pre0 t <| oA K X0 k_260 rfl rfl rfl <| k
  obtain ⟨T52, X52, e52, st52⟩ := initO X0 hx hZ hown (oW hw 149 rfl) (oW hw 29 rfl) (oW hw 30 rfl) eH (g := (mkF m 1 #[vr s1, vr a1, .val .null, uz, uz] [(.ref s1)])) rfl (by rw [hml]; rfl) rfl (hb hby k_261) (by decide) (W := 0) (by show 2 * 0 + _ ≤ _; exact Nat.le_of_eq rfl) (by decide)
  have pre_53 : Pr p e below E0 T52 (mkF m 4 #[vr s1, vr a1, .val .null, uz, uz] []) := fun t k => pre_51 t (st52 t k)
  have pre_54 := fun t k => pre_53 t <| oA K X52 k_262 rfl rfl rfl <| k
  obtain ⟨T55, _, L55, X55, ⟨rfl, N55q, e55⟩, pre_55⟩ := cV pre_54 K X52 e52 (rm_gvl l Z a0 hw a1 b2 h0 n0 O0 Fb1) (oW hw 150 rfl) (oW hw 152 rfl) (oW hw 26 rfl) (oW hw 154 rfl) (oW hw 151 rfl) (oW hw 153 rfl) (notFace_of_selects (args := #[]) (mvT hZ (oW hw 153 rfl))) Ea1 rfl (lenOf d_14 rfl) k_263 rfl rfl rfl (W := 0) (Nat.le_of_eq rfl) (by decide)
  have N55 := Fr.app (Fr.nil n0) N55q
  have pre_56 := fun t k => pre_55 t <| XS.astoreN X55.here hx rfl (hb hby k_264) rfl rfl (l' := #[vr s1, vr a1, .val .null, vr b2, uz]) rfl <| oA K X55 k_265 rfl rfl rfl <| k
  obtain ⟨T57, _, L57, X57, ⟨rfl, N57q, e57⟩, pre_57⟩ := cV pre_56 K X55 e55 (rm_bln l Z a0 hw a1 c1 h0 n0 O0 Ea1 Fb3) (oW hw 155 rfl) (oW hw 159 rfl) (oW hw 18 rfl) (oW hw 160 rfl) (oW hw 156 rfl) (oW hw 158 rfl) (own_nf (args := #[]) (mvT hZ (oW hw 57 rfl)) (mvT hZ (oW hw 55 rfl)) rfl) Ea1 rfl (lenOf d_8 rfl) k_266 rfl rfl rfl (W := 0) (Nat.le_of_eq rfl) (by decide)
  have N57 := Fr.app N55 N57q
  have pre_58 := fun t k => pre_57 t <| XS.istore X57.here hx rfl (hb hby k_267) rfl (l' := #[vr s1, vr a1, .val .null, vr b2, vi c1]) rfl <| oA K X57 k_268 rfl rfl rfl <| k
  obtain ⟨T59, _, L59, X59, ⟨rfl, N59q, e59⟩, pre_59⟩ := cV pre_58 K X57 e57 (rm_bl1 l Z a0 hw a1 G1 h0 n0 O0 Fb2 SC hG) (oW hw 163 rfl) (oW hw 61 rfl) (oW hw 26 rfl) (oW hw 63 rfl) (oW hw 60 rfl) (oW hw 62 rfl) (notFace_of_selects (args := #[]) (mvT hZ (oW hw 62 rfl))) Ea1 rfl (lenOf d_15 rfl) k_269 rfl rfl rfl (W := 0) (Nat.le_of_eq rfl) (by decide)
  have N59 := Fr.app N57 N59q
  have pre_60 := fun t k => pre_59 t <| XS.ifYes X59.here hx rfl (pc0 := 19) (pc' := 41) rfl (hb hby k_270) rfl (XT.i0_eq_t (by decide)) (by decide) (by decide) <| k
  obtain ⟨T61, X61, e61, pre_61⟩ := gS pre_60 K X59 e59 (oW hw 91 rfl) (SC.ext O0.2) k_292 rfl
  have pre_62 := fun t k => pre_61 t <| XS.ifNo X61.here hx rfl (hb hby k_293) rfl (XT.i0_eq_f hG) <| oA K X61 k_294 rfl rfl rfl <| k
  obtain ⟨T63, X63, e63, pre_63⟩ := gF pre_62 K X61 e61 (oW hw 405 rfl) Via.refl Fb4 k_295 rfl rfl
  have pre_64 : Pr p e below E0 T63 (mkF m 81 #[vr s1, vr a1, .val .null, vr b2, vi c1] [(.int 1), (.ref s1)]) := fun t k => pre_63 t <| XS.ifYes X63.here hx rfl (pc0 := 51) (pc' := 79) rfl (hb hby k_296) rfl (XT.i0_eq_t (by decide)) (by decide) (by decide) <| oA K X63 k_297 rfl rfl rfl <| XS.iconst X63.here hx rfl (hb hby k_298) <| k
  obtain ⟨T65, h65, X65, e65, W65, Fw65, pre_65⟩ := pF pre_64 K X63 e63 .byte (oW hw 92 rfl) Fc2 E2 (Or.inr ⟨(oW hw 5 rfl), rfl, hnm⟩) (oW hw 2 rfl) k_299 rfl rfl (by decide) rfl rfl
  have N65 := Fr.snoc X65 N59 g3
  have O65 := O0.wr W65 g3
  have pre_66 := fun t k => pre_65 t <| oA K X65 k_300 rfl rfl rfl <| oA K X65 k_301 rfl rfl rfl <| XS.iconst X65.here hx rfl (hb hby k_302) <| oJ K X65 k_303 rfl rfl <| XS.iconst X65.here hx rfl (hb hby k_304) <| XT.ishl X65.here hx rfl (hb hby k_305) rfl <| k
  have pre_67 : Pr p e below E0 T65 (mkF m 91 #[vr s1, vr a1, .val .null, vr b2, vi c1] [(.int (c1 <<< ((1 : Int32) &&& 31))), (.int 0), (.ref b2), (.ref s1)]) := pre_66
  rw [ht] at pre_67
  have f_68 := (V3.other W65 (Ne.symm (Exa.neArv E2 V3 (oW hw 2 rfl))))
  obtain ⟨T69, _, L69, X69, ⟨b69, kN69, rfl, N69q, K69, sb69, Vb69⟩, pre_69⟩ := cS pre_67 K X65 e65 (rm_cor l Z a0 hw b2 t1 z1 kD vd h65 n0 O65 f_68 hz hlt hz2 hz3 hl) (oW hw 164 rfl) (oW hw 165 rfl) (oW hw 110 rfl) (oW hw 166 rfl) rfl (lenOf d_13 rfl) k_306 rfl rfl rfl (W := 1) (Nat.le_of_eq rfl) (by decide)
  have N69 := Fr.app N65 N69q
  have O69 : Old Z n0 T69.heap := O65.keep K69 all0
  have f_70 := ((Fv2.other W65 (Or.inr (slot_ne (Or.inr (oW hw 4 rfl)) (Or.inr (oW hw 5 rfl)) (by decide) (t := (.array .byte)) (t' := .byte) (by decide) (by decide)))).keep K69 nin0)
  obtain ⟨T71, h71, X71, e71, W71, Fw71, pre_71⟩ := pF pre_69 K X69 rfl (.array .byte) (oW hw 85 rfl) f_70 ((E2.wr W65).keep K69) (Or.inr ⟨(oW hw 4 rfl), rfl, hnm⟩) (oW hw 2 rfl) k_307 rfl rfl (by decide) rfl rfl
  have N71 := Fr.snoc X71 N69 g3
  have O71 := O69.wr W71 g3
  have x_72 := (Ne.symm (Nat.ne_of_lt (Nat.lt_of_lt_of_le (E2.wr W65).lt sb69)))
  have u_73 := (((Keep.refl h0 [s1]).wr W65 (Or.inl (List.mem_of_getElem? (i := 0) rfl))).trans K69 all0)
  have f_74 := ((Fw65.keep K69 nin0).other W71 (Or.inr (slot_ne (Or.inr (oW hw 5 rfl)) (Or.inr (oW hw 4 rfl)) (by decide) (t := .byte) (t' := (.array .byte)) (by decide) (by decide))))
  exact rtV pre_71 K X71 e71 hret hlk k_281 (by decide) (hP _ _ _ ⟨rfl, N71, (u_73.wr W71 (Or.inl (List.mem_of_getElem? (i := 0) rfl))), f_74, b69, kN69, (Nat.le_trans ((Keep.refl h0 [s1]).wr W65 (Or.inl (List.mem_of_getElem? (i := 0) rfl))).1 sb69), Fw71, (Vb69.other W71 x_72)⟩)
theorem rm_si11 (hw : Hw a0 Z) (s1 : Addr) (a1 : Addr) (u1 u2 : Value) (G1 z1 t1 : Int32) (c1 : Int32) (b2 : Addr) (kD : ClassId) (vd : List Value) (h0 : Heap) (n0 : Nat) (O0 : Old Z n0 h0) (E2 : Exa Z h0 s1 s2_) (Fc2 : Fld Z h0 s1 s2_ "coder" "B" u2) (Fv2 : Fld Z h0 s1 s2_ "value" "[B" u1) (g3 : n0 ≤ s1) (Ea1 : Exa Z h0 a1 s4_) (Fb1 : Fld Z h0 a1 s1_ "value" "[B" (.ref b2)) (Fb2 : Fld Z h0 a1 s1_ "coder" "B" (.int 1)) (Fb3 : Fld Z h0 a1 s1_ "count" "I" (.int c1)) (Fb4 : Fld Z h0 a1 s1_ s5_ "Z" (.int 0)) (V3 : Arv Z h0 b2 kD .byte z1 vd (.int 0)) (SC : Sta Z Z.heap s2_ s6_ "Z" (.int G1)) (hG : ¬ G1 = (0 : Int32)) (hz : ¬ t1 < (0 : Int32)) (hlt : t1 < z1) (hz2 : (t1).toNatClampNeg ≤ 284) (hz3 : (t1).toNatClampNeg ≤ z1.toNatClampNeg) (hl : vd.length = (t1).toNatClampNeg) (ht : (c1 <<< ((1 : Int32) &&& 31)) = t1) : Met l Z y_25 c_25 2 none (Rm 4 1 284 90) #[(.ref s1), (.ref a1)] h0 (fun v h L => v = none ∧ Fr n0 L ∧ Keep h0 h [s1] ∧ Fld Z h s1 s2_ "coder" "B" (.int 1) ∧ ∃ b kN, h0.size ≤ b ∧ Fld Z h s1 s2_ "value" "[B" (.ref b) ∧ Arv Z h b kN .byte t1 vd (.int 0)) := by
  refine own_met (own := s2_) (G := fun m => (mkF m 0 #[vr s1, vr a1] [])) rfl n_25 ?_
  intro p e s m below meth c s₁ E0 P hP K hnm hret hlk hh X0 eH pre0
  obtain ⟨hx, hZ, hown, hby, hml⟩ := id K
  have pre_51 := fun t k => pre0 t <| oA K X0 k_282 rfl rfl rfl <| oA K X0 k_283 rfl rfl rfl <| XS.aconstNull X0.here hx rfl (hb hby k_284) <| k
  obtain ⟨T52, _, L52, X52, ⟨rfl, N52q, K52, rb52⟩, pre_52⟩ := cI pre_51 K X0 eH (rm_si21 l Z a0 hw s1 a1 u1 u2 G1 z1 t1 c1 b2 kD vd h0 n0 O0 E2 Fc2 Fv2 g3 Ea1 Fb1 Fb2 Fb3 Fb4 V3 SC hG hz hlt hz2 hz3 hl ht) (oW hw 146 rfl) (oW hw 147 rfl) (oW hw 1 rfl) (oW hw 148 rfl) rfl (lenOf d_16 rfl) k_285 rfl rfl rfl (W := 0) (Nat.le_of_eq rfl) (by decide) rfl
  have N52 := Fr.app (Fr.nil n0) N52q
  have O52 : Old Z n0 T52.heap := O0.keep K52 (allS g3 all0)
  exact rtV pre_52 K X52 rfl hret hlk k_286 (by decide) (hP _ _ _ ⟨rfl, N52, ((Keep.refl h0 [s1]).trans K52 (allS (Or.inl (List.mem_of_getElem? (i := 0) rfl)) all0)), rb52⟩)
theorem rm_tos1 (hw : Hw a0 Z) (a1 : Addr) (G1 z1 t1 : Int32) (c1 : Int32) (b2 : Addr) (kD : ClassId) (vd : List Value) (h0 : Heap) (n0 : Nat) (O0 : Old Z n0 h0) (Ea1 : Exa Z h0 a1 s4_) (Fb1 : Fld Z h0 a1 s1_ "value" "[B" (.ref b2)) (Fb2 : Fld Z h0 a1 s1_ "coder" "B" (.int 1)) (Fb3 : Fld Z h0 a1 s1_ "count" "I" (.int c1)) (Fb4 : Fld Z h0 a1 s1_ s5_ "Z" (.int 0)) (V3 : Arv Z h0 b2 kD .byte z1 vd (.int 0)) (SC : Sta Z Z.heap s2_ s6_ "Z" (.int G1)) (hG : ¬ G1 = (0 : Int32)) (hz : ¬ t1 < (0 : Int32)) (hlt : t1 < z1) (hz2 : (t1).toNatClampNeg ≤ 284) (hz3 : (t1).toNatClampNeg ≤ z1.toNatClampNeg) (hl : vd.length = (t1).toNatClampNeg) (ht : (c1 <<< ((1 : Int32) &&& 31)) = t1) : Met l Z y_26 c_26 1 (some (.object s2_)) (Rm 5 2 288 110) #[(.ref a1)] h0 (fun v h L => ∃ s1, v = some (.ref s1) ∧ Fr n0 L ∧ Keep h0 h [] ∧ h0.size ≤ s1 ∧ Exa Z h s1 s2_ ∧ Fld Z h s1 s2_ "coder" "B" (.int 1) ∧ ∃ b kN, h0.size ≤ b ∧ Fld Z h s1 s2_ "value" "[B" (.ref b) ∧ Arv Z h b kN .byte t1 vd (.int 0)) := by
  refine own_met (own := s4_) (G := fun m => (mkF m 0 #[vr a1] [])) rfl n_26 ?_
  intro p e s m below meth c s₁ E0 P hP K hnm hret hlk hh X0 eH pre0
  obtain ⟨hx, hZ, hown, hby, hml⟩ := id K
  obtain ⟨T51, h51, X51, e51, E51, A51, D51, U51, st51⟩ := newO X0 hx hZ hown (oW hw 141 rfl) (oW hw 2 rfl) (oW hw 1 rfl) eH (g := (mkF m 0 #[vr a1] [])) rfl (hb hby k_287) (by decide) (by decide)
  obtain ⟨b51, g51⟩ : ∃ z, z = h0.size := ⟨_, rfl⟩
  rw [← g51] at A51 D51 U51 st51
  have O51 : Old Z n0 h51 := O0.ext E51
  have gl51 := Nat.le_of_eq g51.symm
  have F52 : Fld Z h51 b51 s2_ "value" "[B" .null := D51 (Or.inr (oW hw 4 rfl)) (ty := (.array .byte)) (by decide)
  have F53 : Fld Z h51 b51 s2_ "coder" "B" (.int 0) := D51 (Or.inr (oW hw 5 rfl)) (ty := .byte) (by decide)
  have pre_54 : Pr p e below E0 T51 (mkF m 3 #[vr a1] [(.ref b51)]) := fun t k => pre0 t (st51 t k)
  have v_55 := (Nat.le_trans (own_le O0) gl51)
  have pre_56 := fun t k => pre_54 t <| XS.dup X51.here hx rfl (hb hby k_288) rfl rfl <| oA K X51 k_289 rfl rfl rfl <| k
  obtain ⟨T57, _, L57, X57, ⟨rfl, N57q, K57, Fc57, b57, kN57, sb57, Fv57, Vb57⟩, pre_57⟩ := cI pre_56 K X51 e51 (rm_si11 l Z a0 hw b51 a1 .null (.int 0) G1 z1 t1 c1 b2 kD vd h51 n0 O51 A51 F53 F52 v_55 (Ea1.ext E51) (Fb1.ext E51) (Fb2.ext E51) (Fb3.ext E51) (Fb4.ext E51) (V3.ext E51) SC hG hz hlt hz2 hz3 hl ht) (oW hw 142 rfl) (oW hw 143 rfl) (oW hw 1 rfl) (oW hw 145 rfl) rfl (lenOf d_17 rfl) k_290 rfl rfl rfl (W := 1) (Nat.le_of_eq rfl) (by decide) rfl
  have N57 := Fr.app (Fr.nil n0) N57q
  have O57 : Old Z n0 T57.heap := O51.keep K57 (allS v_55 all0)
  have u_58 := (((Keep.refl h0 []).ext E51).trans K57 (allS (Or.inr (Nat.le_trans (Keep.refl h0 []).1 gl51)) all0))
  exact rtA pre_57 K X57 rfl hret hlk k_291 (by decide) ⟨rfl, rfl⟩ (hP _ _ _ ⟨b51, rfl, N57, u_58, (Nat.le_trans (Keep.refl h0 []).1 gl51), (A51.keep K57), Fc57, b57, kN57, (Nat.le_trans ((Keep.refl h0 []).ext E51).1 sb57), Fv57, Vb57⟩)
theorem rm_put (hw : Hw a0 Z) (a1 : Addr) (x1 : Int32) (c1 : Int32) (j1 z1 : Int32) (kB : ClassId) (ls : List Value) (h0 : Heap) (n0 : Nat) (O0 : Old Z n0 h0) (V1 : Arv Z h0 a1 kB .byte z1 ls (.int 0)) (g1 : n0 ≤ a1) (hj : (x1 <<< ((1 : Int32) &&& 31)) = j1) (hb1 : ¬ j1 < 0 ∧ j1 < z1) (hb2 : ¬ (j1 + (1 : Int32)) < 0 ∧ (j1 + (1 : Int32)) < z1) (hn1 : j1.toNatClampNeg = ls.length) (hn2 : (j1 + (1 : Int32)).toNatClampNeg = ls.length + 1) (SU1 : Sta Z Z.heap s3_ s9_ "Z" (.int 1)) (SU2 : Sta Z Z.heap s3_ s10_ "I" (.int 0)) (SU3 : Sta Z Z.heap s3_ s11_ "I" (.int 8)) : Met l Z y_27 c_27 3 none (Rm 0 0 0 0) #[(.ref a1), (.int x1), (.int c1)] h0 (fun v h L => v = none ∧ Fr n0 L ∧ Keep h0 h [a1] ∧ Arv Z h a1 kB .byte z1 (ls ++ [(.int (own_lo c1)), (.int (own_hi c1))]) (.int 0)) := by
  refine own_met (own := s3_) (G := fun m => (mkF m 0 #[vr a1, vi x1, vi c1] [])) rfl n_27 ?_
  intro p e s m below meth c s₁ E0 P hP K hnm hret hlk hh X0 eH pre0
  obtain ⟨hx, hZ, hown, hby, hml⟩ := id K
  obtain ⟨T51, X51, e51, pre_51⟩ := gS pre0 K X0 eH (oW hw 318 rfl) (SU1.ext O0.2) k_308 rfl
  have pre_52 := fun t k => pre_51 t <| XS.ifYes X51.here hx rfl (pc0 := 3) (pc' := 28) rfl (hb hby k_309) rfl (XT.i0_ne_t (by decide)) (by decide) (by decide) <| oI K X51 k_310 rfl rfl <| XS.iconst X51.here hx rfl (hb hby k_311) <| XT.ishl X51.here hx rfl (hb hby k_312) rfl <| k
  have pre_53 : Pr p e below E0 T51 (mkF m 31 #[vr a1, vi x1, vi c1] [(.int (x1 <<< ((1 : Int32) &&& 31)))]) := pre_52
  rw [hj] at pre_53
  have pre_54 := fun t k => pre_53 t <| XS.istoreN X51.here hx rfl (hb hby k_313) rfl (l' := #[vr a1, vi j1, vi c1]) rfl <| oA K X51 k_314 rfl rfl rfl <| oI K X51 k_315 rfl rfl <| XS.iinc X51.here hx rfl (hb hby k_316) rfl (l' := #[vr a1, vi (j1 + (1 : Int32)), vi c1]) rfl <| oI K X51 k_317 rfl rfl <| k
  obtain ⟨T55, X55, e55, pre_55⟩ := gS pre_54 K X51 e51 (oW hw 319 rfl) (SU2.ext O0.2) k_318 rfl
  have pre_56 := fun t k => pre_55 t <| XT.ishr X55.here hx rfl (hb hby k_319) rfl <| XT.i2b X55.here hx rfl (hb hby k_320) rfl <| k
  obtain ⟨cl57, Ar57, q57, S57, M57, H57, G57⟩ := id (Arv.pad V1 (pad_rep ls _ 1))
  obtain ⟨T57, h57, X57, e57, W57, st57⟩ := stB X55 hx hZ e55 Ar57 (j := j1) (inb_of S57 hb1) (g := (mkF m 43 #[vr a1, vi (j1 + (1 : Int32)), vi c1] [(.int (((c1 >>> ((0 : Int32) &&& 31))).toInt8.toInt32)), (.int j1), (.ref a1)])) rfl rfl (hb hby k_321)
  have N57 := Fr.snoc X57 (Fr.nil n0) g1
  have O57 : Old Z n0 h57 := O0.wr W57 g1
  rw [(own_nb _)] at W57
  have V57 : Arv Z h57 a1 kB .byte z1 (ls ++ [(.int (((c1 >>> ((0 : Int32) &&& 31))).toInt8.toInt32))]) (.int 0) := by
    have r := Arv.set Ar57 q57 S57 M57 H57 G57 (by rw [← (own_nb _)]; exact fits_nar_byte _) W57 (List.length ls) hn1 (by simp)
    rw [own_set] at r; exact r
  have pre_58 : Pr p e below E0 T57 (mkF m 44 #[vr a1, vi (j1 + (1 : Int32)), vi c1] []) := fun t k => pre_56 t (st57 t k)
  have pre_59 := fun t k => pre_58 t <| oA K X57 k_322 rfl rfl rfl <| oI K X57 k_323 rfl rfl <| oI K X57 k_324 rfl rfl <| k
  obtain ⟨T60, X60, e60, pre_60⟩ := gS pre_59 K X57 e57 (oW hw 320 rfl) (SU3.ext O57.2) k_325 rfl
  have pre_61 := fun t k => pre_60 t <| XT.ishr X60.here hx rfl (hb hby k_326) rfl <| XT.i2b X60.here hx rfl (hb hby k_327) rfl <| k
  obtain ⟨cl62, Ar62, q62, S62, M62, H62, G62⟩ := id (Arv.pad V57 (pad_rep (ls ++ [(.int (((c1 >>> ((0 : Int32) &&& 31))).toInt8.toInt32))]) _ 1))
  obtain ⟨T62, h62, X62, e62, W62, st62⟩ := stB X60 hx hZ e60 Ar62 (j := (j1 + (1 : Int32))) (inb_of S62 hb2) (g := (mkF m 52 #[vr a1, vi (j1 + (1 : Int32)), vi c1] [(.int (((c1 >>> ((8 : Int32) &&& 31))).toInt8.toInt32)), (.int (j1 + (1 : Int32))), (.ref a1)])) rfl rfl (hb hby k_328)
  have N62 := Fr.snoc X62 N57 g1
  have O62 : Old Z n0 h62 := O57.wr W62 g1
  rw [(own_nb _)] at W62
  have V62 : Arv Z h62 a1 kB .byte z1 ((ls ++ [(.int (((c1 >>> ((0 : Int32) &&& 31))).toInt8.toInt32))]) ++ [(.int (((c1 >>> ((8 : Int32) &&& 31))).toInt8.toInt32))]) (.int 0) := by
    have r := Arv.set Ar62 q62 S62 M62 H62 G62 (by rw [← (own_nb _)]; exact fits_nar_byte _) W62 (List.length (ls ++ [(.int (((c1 >>> ((0 : Int32) &&& 31))).toInt8.toInt32))])) (by rw [hn2]; simp) (by simp)
    rw [own_set] at r; exact r
  have pre_63 : Pr p e below E0 T62 (mkF m 53 #[vr a1, vi (j1 + (1 : Int32)), vi c1] []) := fun t k => pre_61 t (st62 t k)
  have u_64 := (((Keep.refl h0 [a1]).wr W57 (Or.inl (List.mem_of_getElem? (i := 0) rfl))).wr W62 (Or.inl (List.mem_of_getElem? (i := 0) rfl)))
  exact rtV pre_63 K X62 e62 hret hlk k_329 (by decide) (hP _ _ _ ⟨rfl, N62, u_64, by have r := V62; rw [own_two] at r; exact r⟩)
theorem rm_cfs (hw : Hw a0 Z) (o1 : Int32) (n1 : Int32) (l1 : Int32) (w1 : Value)  (h0 : Heap) (n0 : Nat) (O0 : Old Z n0 h0) (hr : w1.isRef = true) (h1 : ¬ ((l1 ||| o1) ||| n1) < (0 : Int32)) (h2 : ¬ (l1 - o1) < n1) : Met l Z y_28 c_28 4 (some .int) (Rm 0 0 0 0) #[(.int o1), (.int n1), (.int l1), w1] h0 (fun v h L => v = some (.int o1) ∧ Fr n0 L ∧ h = h0) := by
  refine own_met (own := s8_) (G := fun m => (mkF m 0 #[vi o1, vi n1, vi l1, .val w1] [])) rfl n_28 (ef := fun m => by rcases ref_cases hr with rfl | ⟨z, rfl⟩ <;> first | (simp [entryFrame, mkF, argsToLocals, Value.category]; done) | rfl) ?_
  intro p e s m below meth c s₁ E0 P hP K hnm hret hlk hh X0 eH pre0
  obtain ⟨hx, hZ, hown, hby, hml⟩ := id K
  have pre_51 := fun t k => pre0 t <| oI K X0 k_330 rfl rfl <| oI K X0 k_331 rfl rfl <| XT.ior X0.here hx rfl (hb hby k_332) rfl <| oI K X0 k_333 rfl rfl <| XT.ior X0.here hx rfl (hb hby k_334) rfl <| XS.ifNo X0.here hx rfl (hb hby k_335) rfl (XT.i0_lt_f h1) <| oI K X0 k_336 rfl rfl <| oI K X0 k_337 rfl rfl <| oI K X0 k_338 rfl rfl <| XS.isub X0.here hx rfl (hb hby k_339) rfl <| XS.icmpYes X0.here hx rfl (pc0 := 12) (pc' := 23) rfl (hb hby k_340) rfl (XT.ii_le_t h2) (by decide) (by decide) <| oI K X0 k_341 rfl rfl <| k
  have pre_52 : Pr p e below E0 s₁ (mkF m 24 #[vi o1, vi n1, vi l1, .val w1] [(.int o1)]) := pre_51
  exact rtI pre_52 K X0 eH hret hlk k_342 (by decide) (hP _ _ _ ⟨rfl, (Fr.nil n0), rfl⟩)
theorem rm_sbo (hw : Hw a0 Z) (o1 : Int32) (n1 : Int32) (l1 : Int32) (w1 : Value) (h0 : Heap) (n0 : Nat) (O0 : Old Z n0 h0) (SF : Sta Z Z.heap s8_ s12_ s13_ w1) (hr : w1.isRef = true) (h1 : ¬ ((l1 ||| o1) ||| n1) < (0 : Int32)) (h2 : ¬ (l1 - o1) < n1) : Met l Z y_29 c_29 3 (some .int) (Rm 1 0 0 16) #[(.int o1), (.int n1), (.int l1)] h0 (fun v h L => v = some (.int o1) ∧ Fr n0 L ∧ h = h0) := by
  refine own_met (own := s2_) (G := fun m => (mkF m 0 #[vi o1, vi n1, vi l1] [])) rfl n_29 ?_
  intro p e s m below meth c s₁ E0 P hP K hnm hret hlk hh X0 eH pre0
  obtain ⟨hx, hZ, hown, hby, hml⟩ := id K
  have pre_51 := fun t k => pre0 t <| oI K X0 k_343 rfl rfl <| oI K X0 k_344 rfl rfl <| oI K X0 k_345 rfl rfl <| k
  obtain ⟨T52, X52, e52, pre_52⟩ := gS pre_51 K X0 eH (oW hw 353 rfl) (SF.ext O0.2) k_346 rfl
  obtain ⟨T53, _, L53, X53, ⟨rfl, N53q, e53⟩, pre_53⟩ := cS pre_52 K X52 e52 (rm_cfs l Z a0 hw o1 n1 l1 w1 h0 n0 O0 hr h1 h2) (oW hw 387 rfl) (oW hw 388 rfl) (oW hw 191 rfl) (oW hw 389 rfl) rfl (lenOf d_18 rfl) k_347 rfl rfl rfl (W := 0) (Nat.le_of_eq rfl) (by decide)
  have N53 := Fr.app (Fr.nil n0) N53q
  have pre_54 : Pr p e below E0 T53 (mkF m 9 #[vi o1, vi n1, vi l1] [(.int o1)]) := pre_53
  exact rtI pre_54 K X53 e53 hret hlk k_348 (by decide) (hP _ _ _ ⟨rfl, N53, rfl⟩)
theorem rm_uln (hw : Hw a0 Z) (a1 : Addr) (z1 l1 : Int32) (kB : ClassId) (ls : List Value) (h0 : Heap) (n0 : Nat) (O0 : Old Z n0 h0) (V1 : Arv Z h0 a1 kB .byte z1 ls (.int 0)) (hl : (z1 >>> ((1 : Int32) &&& 31)) = l1) : Met l Z y_30 c_30 1 (some .int) (Rm 0 0 0 0) #[(.ref a1)] h0 (fun v h L => v = some (.int l1) ∧ Fr n0 L ∧ h = h0) := by
  refine own_met (own := s3_) (G := fun m => (mkF m 0 #[vr a1] [])) rfl n_30 ?_
  intro p e s m below meth c s₁ E0 P hP K hnm hret hlk hh X0 eH pre0
  obtain ⟨hx, hZ, hown, hby, hml⟩ := id K
  have pre_51 := fun t k => pre0 t <| oA K X0 k_349 rfl rfl rfl <| oAl K X0 eH V1 k_350 rfl rfl <| XS.iconst X0.here hx rfl (hb hby k_351) <| XT.ishr X0.here hx rfl (hb hby k_352) rfl <| k
  have pre_52 : Pr p e below E0 s₁ (mkF m 4 #[vr a1] [(.int (z1 >>> ((1 : Int32) &&& 31)))]) := pre_51
  exact rtI pre_52 K X0 eH hret hlk k_353 (by decide) (hP _ _ _ ⟨by rw [hl], (Fr.nil n0), rfl⟩)
theorem rm_ubo (hw : Hw a0 Z) (o1 : Int32) (n1 : Int32) (a1 : Addr) (z1 l1 : Int32) (kB : ClassId) (ls : List Value) (w1 : Value) (h0 : Heap) (n0 : Nat) (O0 : Old Z n0 h0) (V1 : Arv Z h0 a1 kB .byte z1 ls (.int 0)) (hl : (z1 >>> ((1 : Int32) &&& 31)) = l1) (SF : Sta Z Z.heap s8_ s12_ s13_ w1) (hr : w1.isRef = true) (h1 : ¬ ((l1 ||| o1) ||| n1) < (0 : Int32)) (h2 : ¬ (l1 - o1) < n1) : Met l Z y_31 c_31 3 none (Rm 2 0 0 34) #[(.int o1), (.int n1), (.ref a1)] h0 (fun v h L => v = none ∧ Fr n0 L ∧ h = h0) := by
  refine own_met (own := s3_) (G := fun m => (mkF m 0 #[vi o1, vi n1, vr a1] [])) rfl n_31 ?_
  intro p e s m below meth c s₁ E0 P hP K hnm hret hlk hh X0 eH pre0
  obtain ⟨hx, hZ, hown, hby, hml⟩ := id K
  have pre_51 := fun t k => pre0 t <| oI K X0 k_354 rfl rfl <| oI K X0 k_355 rfl rfl <| oA K X0 k_356 rfl rfl rfl <| k
  obtain ⟨T52, _, L52, X52, ⟨rfl, N52q, e52⟩, pre_52⟩ := cS pre_51 K X0 eH (rm_uln l Z a0 hw a1 z1 l1 kB ls h0 n0 O0 V1 hl) (oW hw 381 rfl) (oW hw 382 rfl) (oW hw 297 rfl) (oW hw 383 rfl) rfl (lenOf d_19 rfl) k_357 rfl rfl rfl (W := 2) (Nat.le_of_eq rfl) (by decide)
  have N52 := Fr.app (Fr.nil n0) N52q
  obtain ⟨T53, _, L53, X53, ⟨rfl, N53q, e53⟩, pre_53⟩ := cS pre_52 K X52 e52 (rm_sbo l Z a0 hw o1 n1 l1 w1 h0 n0 O0 SF hr h1 h2) (oW hw 384 rfl) (oW hw 385 rfl) (oW hw 1 rfl) (oW hw 386 rfl) rfl (lenOf d_3 rfl) k_358 rfl rfl rfl (W := 0) (Nat.le_of_eq rfl) (by decide)
  have N53 := Fr.app N52 N53q
  have pre_54 := fun t k => pre_53 t <| XT.pop X53.here hx rfl (hb hby k_359) rfl rfl <| k
  exact rtV pre_54 K X53 e53 hret hlk k_360 (by decide) (hP _ _ _ ⟨rfl, N53, rfl⟩)
theorem rm_uin (hw : Hw a0 Z) (a1 : Addr) (a3 : Addr) (o1 : Int32) (n1 : Int32) (xs : List Int32) (D zN sN : Nat) (z1 s1 l1 : Int32) (kA kD : ClassId) (vd : List Value) (w1 : Value) (h0 : Heap) (n0 : Nat) (O0 : Old Z n0 h0) (V1 : Arv Z h0 a1 kA .byte s1 (xs.map Value.int) (.int 0)) (V3 : Arv Z h0 a3 kD .byte z1 vd (.int 0)) (g3 : n0 ≤ a3) (ne13 : a1 ≠ a3) (ho : o1 = Int32.ofNat D) (hn : n1 = Int32.ofNat xs.length) (hz : z1 = Int32.ofNat zN) (hs : s1 = Int32.ofNat sN) (hsl : xs.length ≤ sN) (hsk : sN < 1000) (hvd : vd.length = 2 * D) (hzz : 2 * (D + xs.length) ≤ zN) (hzk : zN < 1000) (hl : (z1 >>> ((1 : Int32) &&& 31)) = l1) (SF : Sta Z Z.heap s8_ s12_ s13_ w1) (hr : w1.isRef = true) (h1 : ¬ ((l1 ||| o1) ||| n1) < (0 : Int32)) (h2 : ¬ (l1 - o1) < n1) (SU1 : Sta Z Z.heap s3_ s9_ "Z" (.int 1)) (SU2 : Sta Z Z.heap s3_ s10_ "I" (.int 0)) (SU3 : Sta Z Z.heap s3_ s11_ "I" (.int 8)) : Met l Z y_32 c_32 6 none (Rm 3 0 0 60) #[(.ref a1), (.int 0), (.ref a3), (.int o1), (.int n1)] h0 (fun v h L => v = none ∧ Fr n0 L ∧ Keep h0 h [a3] ∧ Arv Z h a3 kD .byte z1 (vd ++ own_inf xs) (.int 0)) := by
  refine own_met (own := s3_) (G := fun m => (mkF m 0 #[vr a1, vi 0, vr a3, vi o1, vi n1, uz] [])) rfl n_32 ?_
  intro p e s m below meth c s₁ E0 P hP K hnm hret hlk hh X0 eH pre0
  obtain ⟨hx, hZ, hown, hby, hml⟩ := id K
  have pre_51 := fun t k => pre0 t <| oI K X0 k_361 rfl rfl <| oJ K X0 k_362 rfl rfl <| oA K X0 k_363 rfl rfl rfl <| k
  obtain ⟨T52, _, L52, X52, ⟨rfl, N52q, e52⟩, pre_52⟩ := cS pre_51 K X0 eH (rm_ubo l Z a0 hw o1 n1 a3 z1 l1 kD vd w1 h0 n0 O0 V3 hl SF hr h1 h2) (oW hw 378 rfl) (oW hw 379 rfl) (oW hw 297 rfl) (oW hw 380 rfl) rfl (lenOf d_20 rfl) k_364 rfl rfl rfl (W := 0) (Nat.le_of_eq rfl) (by decide)
  have N52 := Fr.app (Fr.nil n0) N52q
  have pre_53 := fun t k => pre_52 t <| XS.iconst X52.here hx rfl (hb hby k_365) <| XS.istore X52.here hx rfl (hb hby k_366) rfl (l' := #[vr a1, vi 0, vr a3, vi o1, vi n1, vi 0]) rfl <| k
  have loop : ∀ (rs ds : List Int32), xs = ds ++ rs → ∀ (iv jv : Int32), iv = Int32.ofNat ds.length → jv = Int32.ofNat (D + ds.length) → ∀ (Tt : State) (lt : List Loc) (ht : Heap) (Xt : Stand p l e (Rm 3 0 0 60) s m #[(.ref a1), (.int 0), (.ref a3), (.int o1), (.int n1)] below meth c Tt lt 0 0) (Nt : Fr n0 lt) (et : Tt.heap = ht) (Ot : Old Z n0 ht) (Kt : Keep h0 ht [a3]) (Vs : Arv Z ht a1 kA .byte s1 (xs.map Value.int) (.int 0)) (Vt : Arv Z ht a3 kD .byte z1 (vd ++ own_inf ds) (.int 0)) (pt : Pr p e below E0 Tt (mkF m 10 #[vr a1, vi iv, vr a3, vi jv, vi n1, vi iv] [])), Gl p e below s E0 P (Rm 3 0 0 60).cells (Rm 3 0 0 60).slots := by
    intro rs
    induction rs with
    | nil =>
      intro ds hxs iv jv hiv hjv Tt lt ht Xt Nt et Ot Kt Vs Vt pt
      have hlt : ¬ iv < n1 := by rw [hiv, hn, hxs, List.append_nil]; exact Int32.lt_irrefl
      have pre_54 := fun t k => pt t <| oJ K Xt k_367 rfl rfl <| oJ K Xt k_368 rfl rfl <| XS.icmpYes Xt.here hx rfl (pc0 := 14) (pc' := 41) rfl (hb hby k_369) rfl (XT.ii_ge_t hlt) (by decide) (by decide) <| k
      exact rtV pre_54 K Xt et hret hlk k_370 (by decide) (hP _ _ _ ⟨rfl, Nt, ((Keep.refl h0 [a3]).trans Kt (allS (Or.inl (List.mem_of_getElem? (i := 0) rfl)) all0)), by rw [hxs, List.append_nil]; exact Vt⟩)
    | cons r rs ih =>
      intro ds hxs iv jv hiv hjv Tt lt ht Xt Nt et Ot Kt Vs Vt pt
      have hls : xs.length = ds.length + (rs.length + 1) := by rw [hxs]; simp
      have hlt : iv < n1 := (own_ix hiv hn (by omega) (by omega)).2
      have hpt := own_pt hjv hz (by omega) hzk
      have hll : (vd ++ own_inf ds).length = 2 * (D + ds.length) := by rw [List.length_append, own_infl]; omega
      have pre_55 : Pr p e below E0 Tt (mkF m 32 #[vr a1, vi (iv + (1 : Int32)), vr a3, vi (jv + (1 : Int32)), vi n1, vi iv] [(.int (r &&& (255 : Int32))), (.int jv), (.ref a3)]) := fun t k => pt t <| oJ K Xt k_367 rfl rfl <| oJ K Xt k_368 rfl rfl <| XS.icmpNo Xt.here hx rfl (hb hby k_369) rfl (XT.ii_ge_f hlt) <| oA K Xt k_371 rfl rfl rfl <| oI K Xt k_372 rfl rfl <| XS.iinc Xt.here hx rfl (hb hby k_373) rfl (l' := #[vr a1, vi iv, vr a3, vi (jv + (1 : Int32)), vi n1, vi iv]) rfl <| oA K Xt k_374 rfl rfl rfl <| oI K Xt k_375 rfl rfl <| XS.iinc Xt.here hx rfl (hb hby k_376) rfl (l' := #[vr a1, vi (iv + (1 : Int32)), vr a3, vi (jv + (1 : Int32)), vi n1, vi iv]) rfl <| oBa K Xt et Vs (own_ix hiv hs (by omega) hsk) (by rw [hiv, own_onN (by omega), hxs]; exact own_midd ds rs r _) k_377 rfl rfl <| XS.sipush Xt.here hx rfl (hb hby k_378) <| XS.iand Xt.here hx rfl (hb hby k_379) rfl <| k
      obtain ⟨T56, _, L56, X56, ⟨rfl, N56q, K56, Vb56⟩, pre_56⟩ := cS pre_55 K Xt et (rm_put l Z a0 hw a3 jv (r &&& (255 : Int32)) (jv <<< ((1 : Int32) &&& 31)) z1 kD (vd ++ own_inf ds) ht n0 Ot Vt g3 rfl hpt.1 hpt.2.1 (hpt.2.2.1.trans hll.symm) (hpt.2.2.2.trans (congrArg (· + 1) hll.symm)) SU1 SU2 SU3) (oW hw 315 rfl) (oW hw 316 rfl) (oW hw 297 rfl) (oW hw 317 rfl) rfl (lenOf d_21 rfl) k_380 rfl rfl rfl (W := 0) (Nat.le_of_eq rfl) (by decide)
      have N56 := Fr.app Nt N56q
      have O56 : Old Z n0 T56.heap := Ot.keep K56 (allS g3 all0)
      have pre_57 := fun t k => pre_56 t <| XS.iinc X56.here hx rfl (hb hby k_381) rfl (l' := #[vr a1, vi (iv + (1 : Int32)), vr a3, vi (jv + (1 : Int32)), vi n1, vi (iv + (1 : Int32))]) rfl <| XS.goto X56.here hx rfl (pc0 := 38) (pc' := 10) rfl (hb hby k_382) (by decide) (by decide) <| k
      have u_58 := (((Keep.refl h0 [a3]).trans Kt (allS (Or.inl (List.mem_of_getElem? (i := 0) rfl)) all0)).trans K56 (allS (Or.inl (List.mem_of_getElem? (i := 0) rfl)) all0))
      exact ih (ds ++ [r]) (by simp [hxs]) (iv + (1 : Int32)) (jv + (1 : Int32)) (by rw [hiv, own_on1 (by omega)]; simp) (by rw [hjv, own_on1 (by omega)]; simp [Nat.add_assoc]) T56 _ T56.heap X56 N56 rfl O56 u_58 (Vs.keep K56 (ninS ne13 nin0)) (by rw [own_infs, ← List.append_assoc]; exact Vb56) pre_57
  exact loop xs [] rfl (0 : Int32) o1 rfl ho T52 _ h0 X52 N52 e52 O0 (Keep.refl h0 [a3]) V1 (by rw [show own_inf [] = [] from rfl, List.append_nil]; exact V3) pre_53
theorem rm_lin (hw : Hw a0 Z) (a1 : Addr) (a3 : Addr) (o1 : Int32) (n1 : Int32) (xs : List Int32) (D zN sN : Nat) (z1 s1 l1 : Int32) (kA kD : ClassId) (vd : List Value) (w1 : Value) (h0 : Heap) (n0 : Nat) (O0 : Old Z n0 h0) (V1 : Arv Z h0 a1 kA .byte s1 (xs.map Value.int) (.int 0)) (V3 : Arv Z h0 a3 kD .byte z1 vd (.int 0)) (g3 : n0 ≤ a3) (ne13 : a1 ≠ a3) (ho : o1 = Int32.ofNat D) (hn : n1 = Int32.ofNat xs.length) (hz : z1 = Int32.ofNat zN) (hs : s1 = Int32.ofNat sN) (hsl : xs.length ≤ sN) (hsk : sN < 1000) (hvd : vd.length = 2 * D) (hzz : 2 * (D + xs.length) ≤ zN) (hzk : zN < 1000) (hl : (z1 >>> ((1 : Int32) &&& 31)) = l1) (SF : Sta Z Z.heap s8_ s12_ s13_ w1) (hr : w1.isRef = true) (h1 : ¬ ((l1 ||| o1) ||| n1) < (0 : Int32)) (h2 : ¬ (l1 - o1) < n1) (SU1 : Sta Z Z.heap s3_ s9_ "Z" (.int 1)) (SU2 : Sta Z Z.heap s3_ s10_ "I" (.int 0)) (SU3 : Sta Z Z.heap s3_ s11_ "I" (.int 8)) : Met l Z y_33 c_33 5 none (Rm 4 0 0 80) #[(.ref a1), (.int 0), (.ref a3), (.int o1), (.int n1)] h0 (fun v h L => v = none ∧ Fr n0 L ∧ Keep h0 h [a3] ∧ Arv Z h a3 kD .byte z1 (vd ++ own_inf xs) (.int 0)) := by
  refine own_met (own := "java/lang/StringLatin1") (G := fun m => (mkF m 0 #[vr a1, vi 0, vr a3, vi o1, vi n1] [])) rfl n_33 ?_
  intro p e s m below meth c s₁ E0 P hP K hnm hret hlk hh X0 eH pre0
  obtain ⟨hx, hZ, hown, hby, hml⟩ := id K
  have pre_51 := fun t k => pre0 t <| oA K X0 k_383 rfl rfl rfl <| oI K X0 k_384 rfl rfl <| oA K X0 k_385 rfl rfl rfl <| oI K X0 k_386 rfl rfl <| oJ K X0 k_387 rfl rfl <| k
  obtain ⟨T52, _, L52, X52, ⟨rfl, N52q, K52, Vb52⟩, pre_52⟩ := cS pre_51 K X0 eH (rm_uin l Z a0 hw a1 a3 o1 n1 xs D zN sN z1 s1 l1 kA kD vd w1 h0 n0 O0 V1 V3 g3 ne13 ho hn hz hs hsl hsk hvd hzz hzk hl SF hr h1 h2 SU1 SU2 SU3) (oW hw 375 rfl) (oW hw 376 rfl) (oW hw 297 rfl) (oW hw 377 rfl) rfl (lenOf d_22 rfl) k_388 rfl rfl rfl (W := 0) (Nat.le_of_eq rfl) (by decide)
  have N52 := Fr.app (Fr.nil n0) N52q
  have O52 : Old Z n0 T52.heap := O0.keep K52 (allS g3 all0)
  exact rtV pre_52 K X52 rfl hret hlk k_389 (by decide) (hP _ _ _ ⟨rfl, N52, ((Keep.refl h0 [a3]).trans K52 (allS (Or.inl (List.mem_of_getElem? (i := 0) rfl)) all0)), Vb52⟩)
theorem rm_gbx (hw : Hw a0 Z) (s1 : Addr) (b2 : Addr) (i1 : Int32) (G1 n1 : Int32) (b1 : Addr) (kB : ClassId) (xs : List Int32) (z1 : Int32) (kD : ClassId) (vd : List Value) (D zN : Nat) (l1 : Int32) (w1 : Value) (h0 : Heap) (n0 : Nat) (O0 : Old Z n0 h0) (E2 : Exa Z h0 s1 s2_) (Fc2 : Fld Z h0 s1 s2_ "coder" "B" (.int 0)) (Fv2 : Fld Z h0 s1 s2_ "value" "[B" (.ref b1)) (V2 : Arv Z h0 b1 kB .byte n1 (xs.map Value.int) (.int 0)) (SC : Sta Z Z.heap s2_ s6_ "Z" (.int G1)) (hG : ¬ G1 = (0 : Int32)) (V3 : Arv Z h0 b2 kD .byte z1 vd (.int 0)) (g2 : n0 ≤ b2) (ne12 : b1 ≠ b2) (ho : i1 = Int32.ofNat D) (hn : n1 = Int32.ofNat xs.length) (hz : z1 = Int32.ofNat zN) (hvd : vd.length = 2 * D) (hzz : 2 * (D + xs.length) ≤ zN) (hzk : zN < 1000) (hl : (z1 >>> ((1 : Int32) &&& 31)) = l1) (SF : Sta Z Z.heap s8_ s12_ s13_ w1) (hr : w1.isRef = true) (h1 : ¬ ((l1 ||| i1) ||| n1) < (0 : Int32)) (h2 : ¬ (l1 - i1) < n1) (SU1 : Sta Z Z.heap s3_ s9_ "Z" (.int 1)) (SU2 : Sta Z Z.heap s3_ s10_ "I" (.int 0)) (SU3 : Sta Z Z.heap s3_ s11_ "I" (.int 8)) : Met l Z y_11 c_11 4 none (Rm 5 0 0 105) #[(.ref s1), (.ref b2), (.int i1), (.int 1)] h0 (fun v h L => v = none ∧ Fr n0 L ∧ Keep h0 h [b2] ∧ Arv Z h b2 kD .byte z1 (vd ++ own_inf xs) (.int 0)) := by
  refine own_met (own := s2_) (G := fun m => (mkF m 0 #[vr s1, vr b2, vi i1, vi 1] [])) rfl n_11 ?_
  intro p e s m below meth c s₁ E0 P hP K hnm hret hlk hh X0 eH pre0
  obtain ⟨hx, hZ, hown, hby, hml⟩ := id K
  have pre_51 := fun t k => pre0 t <| oA K X0 k_129 rfl rfl rfl <| k
  obtain ⟨T52, _, L52, X52, ⟨rfl, N52q, e52⟩, pre_52⟩ := cV pre_51 K X0 eH (rm_cod0 l Z a0 hw s1 G1 h0 n0 O0 Fc2 SC hG) (oW hw 86 rfl) (oW hw 88 rfl) (oW hw 1 rfl) (oW hw 90 rfl) (oW hw 87 rfl) (oW hw 89 rfl) (notFace_of_selects (args := #[]) (mvT hZ (oW hw 89 rfl))) E2 rfl (lenOf d_1 rfl) k_130 rfl rfl rfl (W := 0) (Nat.le_of_eq rfl) (by decide)
  have N52 := Fr.app (Fr.nil n0) N52q
  have pre_53 := fun t k => pre_52 t <| oI K X52 k_131 rfl rfl <| XS.icmpYes X52.here hx rfl (pc0 := 5) (pc' := 28) rfl (hb hby k_132) rfl (XT.ii_ne_t (by decide)) (by decide) (by decide) <| oA K X52 k_390 rfl rfl rfl <| k
  obtain ⟨T54, X54, e54, pre_54⟩ := gF pre_53 K X52 e52 (oW hw 85 rfl) Via.refl Fv2 k_391 rfl rfl
  have pre_55 := fun t k => pre_54 t <| XS.iconst X54.here hx rfl (hb hby k_392) <| oA K X54 k_393 rfl rfl rfl <| oI K X54 k_394 rfl rfl <| oA K X54 k_395 rfl rfl rfl <| k
  obtain ⟨T56, X56, e56, pre_56⟩ := gF pre_55 K X54 e54 (oW hw 85 rfl) Via.refl Fv2 k_396 rfl rfl
  have pre_57 := fun t k => pre_56 t <| oAl K X56 e56 V2 k_397 rfl rfl <| k
  obtain ⟨T58, _, L58, X58, ⟨rfl, N58q, K58, Vb58⟩, pre_58⟩ := cS pre_57 K X56 e56 (rm_lin l Z a0 hw b1 b2 i1 n1 xs D zN xs.length z1 n1 l1 kB kD vd w1 h0 n0 O0 V2 V3 g2 ne12 ho hn hz hn (Nat.le_refl _) (by omega) hvd hzz hzk hl SF hr h1 h2 SU1 SU2 SU3) (oW hw 390 rfl) (oW hw 373 rfl) (oW hw 284 rfl) (oW hw 374 rfl) rfl (lenOf d_22 rfl) k_398 rfl rfl rfl (W := 0) (Nat.le_of_eq rfl) (by decide)
  have N58 := Fr.app N52 N58q
  have O58 : Old Z n0 T58.heap := O0.keep K58 (allS g2 all0)
  exact rtV pre_58 K X58 rfl hret hlk k_145 (by decide) (hP _ _ _ ⟨rfl, N58, ((Keep.refl h0 [b2]).trans K58 (allS (Or.inl (List.mem_of_getElem? (i := 0) rfl)) all0)), Vb58⟩)
theorem rm_nbl (hw : Hw a0 Z) (x1 : Int32) (y1 : Int32) (h0 : Heap) (n0 : Nat) (O0 : Old Z n0 h0) (hx0 : ¬ x1 < (0 : Int32)) (hx1 : x1 < (1073741823 : Int32)) (hy : (x1 <<< ((1 : Int32) &&& 31)) = y1) : Met l Z y_34 c_34 1 (some .int) (Rm 0 0 0 0) #[(.int x1)] h0 (fun v h L => v = some (.int y1) ∧ Fr n0 L ∧ h = h0) := by
  refine own_met (own := s3_) (G := fun m => (mkF m 0 #[vi x1] [])) rfl n_34 ?_
  intro p e s m below meth c s₁ E0 P hP K hnm hret hlk hh X0 eH pre0
  obtain ⟨hx, hZ, hown, hby, hml⟩ := id K
  have pre_51 := fun t k => pre0 t <| oI K X0 k_399 rfl rfl <| XS.ifYes X0.here hx rfl (pc0 := 1) (pc' := 12) rfl (hb hby k_400) rfl (XT.i0_ge_t hx0) (by decide) (by decide) <| oI K X0 k_401 rfl rfl <| oLi K X0 (oW hw 314 rfl) k_402 rfl <| XS.icmpYes X0.here hx rfl (pc0 := 15) (pc' := 55) rfl (hb hby k_403) rfl (XT.ii_lt_t hx1) (by decide) (by decide) <| oI K X0 k_404 rfl rfl <| XS.iconst X0.here hx rfl (hb hby k_405) <| XT.ishl X0.here hx rfl (hb hby k_406) rfl <| k
  have pre_52 : Pr p e below E0 s₁ (mkF m 58 #[vi x1] [(.int (x1 <<< ((1 : Int32) &&& 31)))]) := pre_51
  exact rtI pre_52 K X0 eH hret hlk k_407 (by decide) (hP _ _ _ ⟨by rw [hy], (Fr.nil n0), rfl⟩)
theorem rm_nbf (hw : Hw a0 Z) (x1 : Int32) (y1 : Int32) (h0 : Heap) (n0 : Nat) (O0 : Old Z n0 h0) (hx0 : ¬ x1 < (0 : Int32)) (hx1 : x1 < (1073741823 : Int32)) (hy : (x1 <<< ((1 : Int32) &&& 31)) = y1) (hy0 : ¬ y1 < 0) (hy1 : y1.toNatClampNeg ≤ 284) : Met l Z y_35 c_35 1 (some (.array .byte)) (Rm 1 1 284 12) #[(.int x1)] h0 (fun v h L => ∃ b kN, v = some (.ref b) ∧ Fr n0 L ∧ Keep h0 h [] ∧ h0.size ≤ b ∧ Arv Z h b kN .byte y1 [] (.int 0)) := by
  refine own_met (own := s3_) (G := fun m => (mkF m 0 #[vi x1] [])) rfl n_35 ?_
  intro p e s m below meth c s₁ E0 P hP K hnm hret hlk hh X0 eH pre0
  obtain ⟨hx, hZ, hown, hby, hml⟩ := id K
  have pre_51 := fun t k => pre0 t <| oI K X0 k_408 rfl rfl <| k
  obtain ⟨T52, _, L52, X52, ⟨rfl, N52q, e52⟩, pre_52⟩ := cS pre_51 K X0 eH (rm_nbl l Z a0 hw x1 y1 h0 n0 O0 hx0 hx1 hy) (oW hw 311 rfl) (oW hw 312 rfl) (oW hw 297 rfl) (oW hw 313 rfl) rfl (lenOf d_4 rfl) k_409 rfl rfl rfl (W := 0) (Nat.le_of_eq rfl) (by decide)
  have N52 := Fr.app (Fr.nil n0) N52q
  obtain ⟨T53, h53, cA53, X53, e53, E53, A53, st53⟩ := newP X52 hx hZ (oW hw 3 rfl) e52 (g := (mkF m 4 #[vi x1] [(.int y1)])) rfl (hb hby k_410) rfl hy0 (cap := 284) hy1 (by decide) (by decide) (by decide)
  obtain ⟨b53, g53⟩ : ∃ z, z = h0.size := ⟨_, rfl⟩
  rw [← g53] at A53 st53
  have O53 : Old Z n0 h53 := O0.ext E53
  have V53 : Arv Z h53 b53 cA53 .byte y1 [] (.int 0) := Arv.new A53 hy0
  have gl53 := Nat.le_of_eq g53.symm
  have pre_54 : Pr p e below E0 T53 (mkF m 6 #[vi x1] [(.ref b53)]) := fun t k => pre_52 t (st53 t k)
  exact rtA pre_54 K X53 e53 hret hlk k_411 (by decide) ⟨rfl, rfl⟩ (hP _ _ _ ⟨b53, cA53, rfl, N52, ((Keep.refl h0 []).ext E53), (Nat.le_trans (Keep.refl h0 []).1 gl53), V53⟩)
theorem rm_inf (hw : Hw a0 Z) (a1 : Addr) (G1 : Int32) (b2 : Addr) (kD : ClassId) (xs : List Int32) (w1 : Value) (h0 : Heap) (n0 : Nat) (O0 : Old Z n0 h0) (Ea1 : Exa Z h0 a1 s4_) (g1 : n0 ≤ a1) (Fb1 : Fld Z h0 a1 s1_ "value" "[B" (.ref b2)) (Fb2 : Fld Z h0 a1 s1_ "coder" "B" (.int 0)) (Fb3 : Fld Z h0 a1 s1_ "count" "I" (.int 24)) (Fb4 : Fld Z h0 a1 s1_ s5_ "Z" (.int 0)) (V3 : Arv Z h0 b2 kD .byte (34 : Int32) (xs.map Value.int) (.int 0)) (g2 : n0 ≤ b2) (SC : Sta Z Z.heap s2_ s6_ "Z" (.int G1)) (hG : ¬ G1 = (0 : Int32)) (SF : Sta Z Z.heap s8_ s12_ s13_ w1) (hr : w1.isRef = true) (SU1 : Sta Z Z.heap s3_ s9_ "Z" (.int 1)) (SU2 : Sta Z Z.heap s3_ s10_ "I" (.int 0)) (SU3 : Sta Z Z.heap s3_ s11_ "I" (.int 8)) (hxl : xs.length = 24) : Met l Z y_36 c_36 2 none (Rm 5 1 284 110) #[(.ref a1)] h0 (fun v h L => v = none ∧ Fr n0 L ∧ Keep h0 h [a1] ∧ ∃ b kN, h0.size ≤ b ∧ Fld Z h a1 s1_ "value" "[B" (.ref b) ∧ Fld Z h a1 s1_ "coder" "B" (.int 1) ∧ Fld Z h a1 s1_ "count" "I" (.int 24) ∧ Fld Z h a1 s1_ s5_ "Z" (.int 0) ∧ Arv Z h b kN .byte (68 : Int32) (own_inf xs) (.int 0)) := by
  refine own_met (own := s1_) (G := fun m => (mkF m 0 #[vr a1, uz] [])) rfl n_36 ?_
  intro p e s m below meth c s₁ E0 P hP K hnm hret hlk hh X0 eH pre0
  obtain ⟨hx, hZ, hown, hby, hml⟩ := id K
  have pre_51 := fun t k => pre0 t <| oA K X0 k_412 rfl rfl rfl <| k
  obtain ⟨T52, _, L52, X52, ⟨rfl, N52q, e52⟩, pre_52⟩ := cV pre_51 K X0 eH (rm_bl0 l Z a0 hw a1 G1 h0 n0 O0 Fb2 SC hG) (oW hw 59 rfl) (oW hw 61 rfl) (oW hw 26 rfl) (oW hw 63 rfl) (oW hw 60 rfl) (oW hw 62 rfl) (notFace_of_selects (args := #[]) (mvT hZ (oW hw 62 rfl))) Ea1 rfl (lenOf d_15 rfl) k_413 rfl rfl rfl (W := 0) (Nat.le_of_eq rfl) (by decide)
  have N52 := Fr.app (Fr.nil n0) N52q
  have pre_53 := fun t k => pre_52 t <| XS.ifYes X52.here hx rfl (pc0 := 4) (pc' := 8) rfl (hb hby k_414) rfl (XT.i0_ne_t (by decide)) (by decide) (by decide) <| oA K X52 k_415 rfl rfl rfl <| k
  obtain ⟨T54, X54, e54, pre_54⟩ := gF pre_53 K X52 e52 (oW hw 32 rfl) Via.refl Fb1 k_416 rfl rfl
  have pre_55 := fun t k => pre_54 t <| oAl K X54 e54 V3 k_417 rfl rfl <| k
  obtain ⟨T56, _, L56, X56, ⟨b56, kN56, rfl, N56q, K56, sb56, Vb56⟩, pre_56⟩ := cS pre_55 K X54 e54 (rm_nbf l Z a0 hw (34 : Int32) (68 : Int32) h0 n0 O0 (by decide) (by decide) (by decide) (by decide) (by decide)) (oW hw 371 rfl) (oW hw 309 rfl) (oW hw 297 rfl) (oW hw 310 rfl) rfl (lenOf d_23 rfl) k_418 rfl rfl rfl (W := 0) (Nat.le_of_eq rfl) (by decide)
  have N56 := Fr.app N52 N56q
  have O56 : Old Z n0 T56.heap := O0.keep K56 all0
  have pre_57 := fun t k => pre_56 t <| XS.astoreN X56.here hx rfl (hb hby k_419) rfl rfl (l' := #[vr a1, vr b56]) rfl <| oA K X56 k_420 rfl rfl rfl <| k
  obtain ⟨T58, X58, e58, pre_58⟩ := gF pre_57 K X56 rfl (oW hw 32 rfl) Via.refl (Fb1.keep K56 nin0) k_421 rfl rfl
  have pre_59 : Pr p e below E0 T58 (mkF m 25 #[vr a1, vr b56] [(.ref a1), (.int 0), (.ref b56), (.int 0), (.ref b2)]) := fun t k => pre_58 t <| XS.iconst X58.here hx rfl (hb hby k_422) <| oA K X58 k_423 rfl rfl rfl <| XS.iconst X58.here hx rfl (hb hby k_424) <| oA K X58 k_425 rfl rfl rfl <| k
  obtain ⟨T60, X60, e60, pre_60⟩ := gF pre_59 K X58 e58 (oW hw 47 rfl) Via.refl (Fb3.keep K56 nin0) k_426 rfl rfl
  have v_61 := (Nat.le_trans (own_le O0) sb56)
  have x_62 := (Nat.ne_of_lt (Nat.lt_of_lt_of_le V3.lt sb56))
  obtain ⟨T63, _, L63, X63, ⟨rfl, N63q, K63, Vb63⟩, pre_63⟩ := cS pre_60 K X60 e60 (rm_lin l Z a0 hw b2 b56 (0 : Int32) (24 : Int32) xs 0 68 34 (68 : Int32) (34 : Int32) (34 : Int32) kD kN56 [] w1 T56.heap n0 O56 (V3.keep K56 nin0) Vb56 v_61 x_62 rfl (by rw [hxl]; rfl) rfl rfl (by omega) (by decide) rfl (by omega) (by decide) (by decide) SF hr (by decide) (by decide) SU1 SU2 SU3) (oW hw 372 rfl) (oW hw 373 rfl) (oW hw 284 rfl) (oW hw 374 rfl) rfl (lenOf d_22 rfl) k_427 rfl rfl rfl (W := 0) (Nat.le_of_eq rfl) (by decide)
  have N63 := Fr.app N56 N63q
  have O63 : Old Z n0 T63.heap := O56.keep K63 (allS v_61 all0)
  have pre_64 := fun t k => pre_63 t <| oA K X63 k_428 rfl rfl rfl <| oA K X63 k_429 rfl rfl rfl <| k
  have x_65 := (Nat.ne_of_lt (Nat.lt_of_lt_of_le Ea1.lt sb56))
  have f_66 := ((Fb1.keep K56 nin0).keep K63 (ninS x_65 nin0))
  obtain ⟨T67, h67, X67, e67, W67, Fw67, pre_67⟩ := pF pre_64 K X63 rfl (.array .byte) (oW hw 32 rfl) f_66 ((Ea1.keep K56).keep K63) (Or.inl (oW hw 33 rfl)) (oW hw 17 rfl) k_430 rfl rfl (by decide) rfl rfl
  have N67 := Fr.snoc X67 N63 g1
  have O67 := O63.wr W67 g1
  have pre_68 := fun t k => pre_67 t <| oA K X67 k_431 rfl rfl rfl <| XS.iconst X67.here hx rfl (hb hby k_432) <| k
  have f_69 := (((Fb2.keep K56 nin0).keep K63 (ninS x_65 nin0)).other W67 (Or.inr (slot_ne (Or.inl (oW hw 35 rfl)) (Or.inl (oW hw 33 rfl)) (by decide) (t := .byte) (t' := (.array .byte)) (by decide) (by decide))))
  obtain ⟨T70, h70, X70, e70, W70, Fw70, pre_70⟩ := pF pre_68 K X67 e67 .byte (oW hw 34 rfl) f_69 (((Ea1.keep K56).keep K63).wr W67) (Or.inl (oW hw 35 rfl)) (oW hw 17 rfl) k_433 rfl rfl (by decide) rfl rfl
  have N70 := Fr.snoc X70 N67 g1
  have O70 := O67.wr W70 g1
  have f_71 := (Fw67.other W70 (Or.inr (slot_ne (Or.inl (oW hw 33 rfl)) (Or.inl (oW hw 35 rfl)) (by decide) (t := (.array .byte)) (t' := .byte) (by decide) (by decide))))
  have u_72 := (((Keep.refl h0 [a1]).trans K56 all0).trans K63 (allS (Or.inr (Nat.le_trans (Keep.refl h0 [a1]).1 sb56)) all0))
  have u_73 := ((u_72.wr W67 (Or.inl (List.mem_of_getElem? (i := 0) rfl))).wr W70 (Or.inl (List.mem_of_getElem? (i := 0) rfl)))
  have f_74 := ((Vb63.other W67 (Ne.symm x_65)).other W70 (Ne.symm x_65))
  have f_75 := ((((Fb3.keep K56 nin0).keep K63 (ninS x_65 nin0)).other W67 (Or.inr (slot_ne (Or.inl (oW hw 48 rfl)) (Or.inl (oW hw 33 rfl)) (by decide) (t := .int) (t' := (.array .byte)) (by decide) (by decide)))).other W70 (Or.inr (slot_ne (Or.inl (oW hw 48 rfl)) (Or.inl (oW hw 35 rfl)) (by decide) (t := .int) (t' := .byte) (by decide) (by decide))))
  have f_76 := ((((Fb4.keep K56 nin0).keep K63 (ninS x_65 nin0)).other W67 (Or.inr (slot_ne (Or.inl (oW hw 406 rfl)) (Or.inl (oW hw 33 rfl)) (by decide) (t := .boolean) (t' := (.array .byte)) (by decide) (by decide)))).other W70 (Or.inr (slot_ne (Or.inl (oW hw 406 rfl)) (Or.inl (oW hw 35 rfl)) (by decide) (t := .boolean) (t' := .byte) (by decide) (by decide))))
  exact rtV pre_70 K X70 e70 hret hlk k_434 (by decide) (hP _ _ _ ⟨rfl, N70, u_73, b56, kN56, (Nat.le_trans (Keep.refl h0 [a1]).1 sb56), f_71, Fw70, f_75, f_76, f_74⟩)
theorem rm_if0 (hw : Hw a0 Z) (a1 : Addr) (G1 : Int32) (h0 : Heap) (n0 : Nat) (O0 : Old Z n0 h0) (Fb2 : Fld Z h0 a1 s1_ "coder" "B" (.int 1)) (Ea1 : Exa Z h0 a1 s4_) (SC : Sta Z Z.heap s2_ s6_ "Z" (.int G1)) (hG : ¬ G1 = (0 : Int32)) : Met l Z y_36 c_36 2 none (Rm 1 0 0 14) #[(.ref a1)] h0 (fun v h L => v = none ∧ Fr n0 L ∧ h = h0) := by
  refine own_met (own := s1_) (G := fun m => (mkF m 0 #[vr a1, uz] [])) rfl n_36 ?_
  intro p e s m below meth c s₁ E0 P hP K hnm hret hlk hh X0 eH pre0
  obtain ⟨hx, hZ, hown, hby, hml⟩ := id K
  have pre_51 := fun t k => pre0 t <| oA K X0 k_412 rfl rfl rfl <| k
  obtain ⟨T52, _, L52, X52, ⟨rfl, N52q, e52⟩, pre_52⟩ := cV pre_51 K X0 eH (rm_bl1 l Z a0 hw a1 G1 h0 n0 O0 Fb2 SC hG) (oW hw 59 rfl) (oW hw 61 rfl) (oW hw 26 rfl) (oW hw 63 rfl) (oW hw 60 rfl) (oW hw 62 rfl) (notFace_of_selects (args := #[]) (mvT hZ (oW hw 62 rfl))) Ea1 rfl (lenOf d_15 rfl) k_413 rfl rfl rfl (W := 0) (Nat.le_of_eq rfl) (by decide)
  have N52 := Fr.app (Fr.nil n0) N52q
  have pre_53 := fun t k => pre_52 t <| XS.ifNo X52.here hx rfl (hb hby k_414) rfl (XT.i0_ne_f (by decide)) <| k
  exact rtV pre_53 K X52 e52 hret hlk k_435 (by decide) (hP _ _ _ ⟨rfl, N52, rfl⟩)
theorem rm_ini (hw : Hw a0 Z) (a1 : Addr) (s1 : Addr) (G1 : Int32) (b2 : Addr) (kD : ClassId) (xs : List Int32) (w1 : Value) (h0 : Heap) (n0 : Nat) (O0 : Old Z n0 h0) (Ea1 : Exa Z h0 a1 s4_) (g1 : n0 ≤ a1) (Fb1 : Fld Z h0 a1 s1_ "value" "[B" (.ref b2)) (Fb2 : Fld Z h0 a1 s1_ "coder" "B" (.int 0)) (Fb3 : Fld Z h0 a1 s1_ "count" "I" (.int 24)) (Fb4 : Fld Z h0 a1 s1_ s5_ "Z" (.int 0)) (V3 : Arv Z h0 b2 kD .byte (34 : Int32) (xs.map Value.int) (.int 0)) (g2 : n0 ≤ b2) (SC : Sta Z Z.heap s2_ s6_ "Z" (.int G1)) (hG : ¬ G1 = (0 : Int32)) (SF : Sta Z Z.heap s8_ s12_ s13_ w1) (hr : w1.isRef = true) (SU1 : Sta Z Z.heap s3_ s9_ "Z" (.int 1)) (SU2 : Sta Z Z.heap s3_ s10_ "I" (.int 0)) (SU3 : Sta Z Z.heap s3_ s11_ "I" (.int 8)) (hxl : xs.length = 24) (E2 : Exa Z h0 s1 s2_) (Fc2 : Fld Z h0 s1 s2_ "coder" "B" (.int 1)) : Met l Z y_12 c_12 2 none (Rm 6 1 284 130) #[(.ref a1), (.ref s1)] h0 (fun v h L => v = none ∧ Fr n0 L ∧ Keep h0 h [a1] ∧ ∃ b kN, h0.size ≤ b ∧ Fld Z h a1 s1_ "value" "[B" (.ref b) ∧ Fld Z h a1 s1_ "coder" "B" (.int 1) ∧ Fld Z h a1 s1_ "count" "I" (.int 24) ∧ Fld Z h a1 s1_ s5_ "Z" (.int 0) ∧ Arv Z h b kN .byte (68 : Int32) (own_inf xs) (.int 0)) := by
  refine own_met (own := s1_) (G := fun m => (mkF m 0 #[vr a1, vr s1] [])) rfl n_12 ?_
  intro p e s m below meth c s₁ E0 P hP K hnm hret hlk hh X0 eH pre0
  obtain ⟨hx, hZ, hown, hby, hml⟩ := id K
  obtain ⟨T51, X51, e51, pre_51⟩ := gS pre0 K X0 eH (oW hw 31 rfl) (SC.ext O0.2) k_146 rfl
  have pre_52 := fun t k => pre_51 t <| XS.ifNo X51.here hx rfl (hb hby k_147) rfl (XT.i0_eq_f hG) <| oA K X51 k_148 rfl rfl rfl <| k
  obtain ⟨T53, X53, e53, pre_53⟩ := gF pre_52 K X51 e51 (oW hw 34 rfl) Via.refl Fb2 k_149 rfl rfl
  have pre_54 := fun t k => pre_53 t <| oA K X53 k_150 rfl rfl rfl <| k
  obtain ⟨T55, _, L55, X55, ⟨rfl, N55q, e55⟩, pre_55⟩ := cV pre_54 K X53 e53 (rm_cod1 l Z a0 hw s1 G1 h0 n0 O0 Fc2 SC hG) (oW hw 129 rfl) (oW hw 88 rfl) (oW hw 1 rfl) (oW hw 90 rfl) (oW hw 87 rfl) (oW hw 89 rfl) (notFace_of_selects (args := #[]) (mvT hZ (oW hw 89 rfl))) E2 rfl (lenOf d_1 rfl) k_151 rfl rfl rfl (W := 1) (Nat.le_of_eq rfl) (by decide)
  have N55 := Fr.app (Fr.nil n0) N55q
  have pre_56 := fun t k => pre_55 t <| XS.icmpNo X55.here hx rfl (hb hby k_152) rfl (XT.ii_eq_f (by decide)) <| oA K X55 k_436 rfl rfl rfl <| k
  obtain ⟨T57, _, L57, X57, ⟨rfl, N57q, K57, b57, kN57, sb57, Fv57, Fd57, Fk57, Fm57, Vb57⟩, pre_57⟩ := cP pre_56 K X55 e55 (rm_inf l Z a0 hw a1 G1 b2 kD xs w1 h0 n0 O0 Ea1 g1 Fb1 Fb2 Fb3 Fb4 V3 g2 SC hG SF hr SU1 SU2 SU3 hxl) (oW hw 366 rfl) (oW hw 367 rfl) (oW hw 26 rfl) (oW hw 370 rfl) (oW hw 368 rfl) (oW hw 369 rfl) Ea1 rfl (lenOf d_24 rfl) k_437 rfl rfl rfl (W := 0) (Nat.le_of_eq rfl) (by decide)
  have N57 := Fr.app N55 N57q
  have O57 : Old Z n0 T57.heap := O0.keep K57 (allS g1 all0)
  exact rtV pre_57 K X57 rfl hret hlk k_153 (by decide) (hP _ _ _ ⟨rfl, N57, ((Keep.refl h0 [a1]).trans K57 (allS (Or.inl (List.mem_of_getElem? (i := 0) rfl)) all0)), b57, kN57, (Nat.le_trans (Keep.refl h0 [a1]).1 sb57), Fv57, Fd57, Fk57, Fm57, Vb57⟩)
theorem rm_inx (hw : Hw a0 Z) (a1 : Addr) (s1 : Addr) (G1 : Int32) (h0 : Heap) (n0 : Nat) (O0 : Old Z n0 h0) (Fb2 : Fld Z h0 a1 s1_ "coder" "B" (.int 1)) (Ea1 : Exa Z h0 a1 s4_) (E2 : Exa Z h0 s1 s2_) (Fc2 : Fld Z h0 s1 s2_ "coder" "B" (.int 0)) (SC : Sta Z Z.heap s2_ s6_ "Z" (.int G1)) (hG : ¬ G1 = (0 : Int32)) : Met l Z y_12 c_12 2 none (Rm 2 0 0 28) #[(.ref a1), (.ref s1)] h0 (fun v h L => v = none ∧ Fr n0 L ∧ h = h0) := by
  refine own_met (own := s1_) (G := fun m => (mkF m 0 #[vr a1, vr s1] [])) rfl n_12 ?_
  intro p e s m below meth c s₁ E0 P hP K hnm hret hlk hh X0 eH pre0
  obtain ⟨hx, hZ, hown, hby, hml⟩ := id K
  obtain ⟨T51, X51, e51, pre_51⟩ := gS pre0 K X0 eH (oW hw 31 rfl) (SC.ext O0.2) k_146 rfl
  have pre_52 := fun t k => pre_51 t <| XS.ifNo X51.here hx rfl (hb hby k_147) rfl (XT.i0_eq_f hG) <| oA K X51 k_148 rfl rfl rfl <| k
  obtain ⟨T53, X53, e53, pre_53⟩ := gF pre_52 K X51 e51 (oW hw 34 rfl) Via.refl Fb2 k_149 rfl rfl
  have pre_54 := fun t k => pre_53 t <| oA K X53 k_150 rfl rfl rfl <| k
  obtain ⟨T55, _, L55, X55, ⟨rfl, N55q, e55⟩, pre_55⟩ := cV pre_54 K X53 e53 (rm_cod0 l Z a0 hw s1 G1 h0 n0 O0 Fc2 SC hG) (oW hw 129 rfl) (oW hw 88 rfl) (oW hw 1 rfl) (oW hw 90 rfl) (oW hw 87 rfl) (oW hw 89 rfl) (notFace_of_selects (args := #[]) (mvT hZ (oW hw 89 rfl))) E2 rfl (lenOf d_1 rfl) k_151 rfl rfl rfl (W := 1) (Nat.le_of_eq rfl) (by decide)
  have N55 := Fr.app (Fr.nil n0) N55q
  have pre_56 := fun t k => pre_55 t <| XS.icmpNo X55.here hx rfl (hb hby k_152) rfl (XT.ii_eq_f (by decide)) <| oA K X55 k_436 rfl rfl rfl <| k
  obtain ⟨T57, _, L57, X57, ⟨rfl, N57q, e57⟩, pre_57⟩ := cP pre_56 K X55 e55 (rm_if0 l Z a0 hw a1 G1 h0 n0 O0 Fb2 Ea1 SC hG) (oW hw 366 rfl) (oW hw 367 rfl) (oW hw 26 rfl) (oW hw 370 rfl) (oW hw 368 rfl) (oW hw 369 rfl) Ea1 rfl (lenOf d_24 rfl) k_437 rfl rfl rfl (W := 0) (Nat.le_of_eq rfl) (by decide)
  have N57 := Fr.app N55 N57q
  exact rtV pre_57 K X57 e57 hret hlk k_153 (by decide) (hP _ _ _ ⟨rfl, N57, rfl⟩)
theorem rm_psi (hw : Hw a0 Z) (a1 : Addr) (s1 : Addr) (G1 : Int32) (b1 : Addr) (kB : ClassId) (vs : List Value) (b2 : Addr) (kD : ClassId) (xs : List Int32) (w1 : Value) (h0 : Heap) (n0 : Nat) (O0 : Old Z n0 h0) (Ea1 : Exa Z h0 a1 s4_) (g1 : n0 ≤ a1) (Fb1 : Fld Z h0 a1 s1_ "value" "[B" (.ref b2)) (Fb2 : Fld Z h0 a1 s1_ "coder" "B" (.int 0)) (Fb3 : Fld Z h0 a1 s1_ "count" "I" (.int 24)) (Fb4 : Fld Z h0 a1 s1_ s5_ "Z" (.int 0)) (V3 : Arv Z h0 b2 kD .byte (34 : Int32) (xs.map Value.int) (.int 0)) (g2 : n0 ≤ b2) (SC : Sta Z Z.heap s2_ s6_ "Z" (.int G1)) (hG : ¬ G1 = (0 : Int32)) (SF : Sta Z Z.heap s8_ s12_ s13_ w1) (hr : w1.isRef = true) (SU1 : Sta Z Z.heap s3_ s9_ "Z" (.int 1)) (SU2 : Sta Z Z.heap s3_ s10_ "I" (.int 0)) (SU3 : Sta Z Z.heap s3_ s11_ "I" (.int 8)) (hxl : xs.length = 24) (E2 : Exa Z h0 s1 s2_) (Fc2 : Fld Z h0 s1 s2_ "coder" "B" (.int 1)) (Fv2 : Fld Z h0 s1 s2_ "value" "[B" (.ref b1)) (V2 : Arv Z h0 b1 kB .byte (4 : Int32) vs (.int 0)) (hv4 : vs.length = (4 : Int32).toNatClampNeg) : Met l Z y_13 c_13 3 none (Rm 7 1 284 150) #[(.ref a1), (.int 24), (.ref s1)] h0 (fun v h L => v = none ∧ Fr n0 L ∧ Keep h0 h [a1] ∧ ∃ b kN, h0.size ≤ b ∧ Fld Z h a1 s1_ "value" "[B" (.ref b) ∧ Fld Z h a1 s1_ "coder" "B" (.int 1) ∧ Fld Z h a1 s1_ "count" "I" (.int 24) ∧ Fld Z h a1 s1_ s5_ "Z" (.int 0) ∧ Arv Z h b kN .byte (68 : Int32) (own_inf xs ++ vs) (.int 0)) := by
  refine own_met (own := s1_) (G := fun m => (mkF m 0 #[vr a1, vi 24, vr s1] [])) rfl n_13 ?_
  intro p e s m below meth c s₁ E0 P hP K hnm hret hlk hh X0 eH pre0
  obtain ⟨hx, hZ, hown, hby, hml⟩ := id K
  have pre_51 := fun t k => pre0 t <| oA K X0 k_154 rfl rfl rfl <| oA K X0 k_155 rfl rfl rfl <| k
  obtain ⟨T52, _, L52, X52, ⟨rfl, N52q, K52, b52, kN52, sb52, Fv52, Fd52, Fk52, Fm52, Vb52⟩, pre_52⟩ := cP pre_51 K X0 eH (rm_ini l Z a0 hw a1 s1 G1 b2 kD xs w1 h0 n0 O0 Ea1 g1 Fb1 Fb2 Fb3 Fb4 V3 g2 SC hG SF hr SU1 SU2 SU3 hxl E2 Fc2) (oW hw 124 rfl) (oW hw 125 rfl) (oW hw 26 rfl) (oW hw 128 rfl) (oW hw 126 rfl) (oW hw 127 rfl) Ea1 rfl (lenOf d_6 rfl) k_156 rfl rfl rfl (W := 0) (Nat.le_of_eq rfl) (by decide)
  have N52 := Fr.app (Fr.nil n0) N52q
  have O52 : Old Z n0 T52.heap := O0.keep K52 (allS g1 all0)
  have pre_53 := fun t k => pre_52 t <| oA K X52 k_157 rfl rfl rfl <| oA K X52 k_158 rfl rfl rfl <| k
  obtain ⟨T54, X54, e54, pre_54⟩ := gF pre_53 K X52 rfl (oW hw 32 rfl) Via.refl Fv52 k_159 rfl rfl
  have pre_55 := fun t k => pre_54 t <| oI K X54 k_160 rfl rfl <| oA K X54 k_161 rfl rfl rfl <| k
  obtain ⟨T56, X56, e56, pre_56⟩ := gF pre_55 K X54 e54 (oW hw 34 rfl) Via.refl Fd52 k_162 rfl rfl
  have f_57 := (Fc2.keep K52 (ninS (Exa.ne E2 Ea1 (by decide)) nin0))
  have f_58 := (Fv2.keep K52 (ninS (Exa.ne E2 Ea1 (by decide)) nin0))
  have x_59 := (Ne.symm (Exa.neArv Ea1 V2 (oW hw 17 rfl)))
  have v_60 := (Nat.le_trans (own_le O0) sb52)
  have x_61 := (Nat.ne_of_lt (Nat.lt_of_lt_of_le V2.lt sb52))
  obtain ⟨T62, _, L62, X62, ⟨rfl, N62q, K62, Vb62⟩, pre_62⟩ := cV pre_56 K X56 e56 (rm_gby1 l Z a0 hw s1 b52 (24 : Int32) G1 (4 : Int32) b1 kB vs (68 : Int32) (48 : Int32) kN52 (own_inf xs) T52.heap n0 O52 (E2.keep K52) f_57 f_58 (V2.keep K52 (ninS x_59 nin0)) SC hG Vb52 v_60 x_61 (by decide) (by decide) (by decide) (by decide) (by rw [own_infl, hxl]; rfl) hv4 (by decide)) (oW hw 130 rfl) (oW hw 132 rfl) (oW hw 1 rfl) (oW hw 134 rfl) (oW hw 131 rfl) (oW hw 133 rfl) (notFace_of_selects (args := #[]) (mvT hZ (oW hw 133 rfl))) (E2.keep K52) rfl (lenOf d_7 rfl) k_163 rfl rfl rfl (W := 0) (Nat.le_of_eq rfl) (by decide)
  have N62 := Fr.app N52 N62q
  have O62 : Old Z n0 T62.heap := O52.keep K62 (allS v_60 all0)
  have x_63 := (Nat.ne_of_lt (Nat.lt_of_lt_of_le Ea1.lt sb52))
  have u_64 := (((Keep.refl h0 [a1]).trans K52 (allS (Or.inl (List.mem_of_getElem? (i := 0) rfl)) all0)).trans K62 (allS (Or.inr (Nat.le_trans (Keep.refl h0 [a1]).1 sb52)) all0))
  exact rtV pre_62 K X62 rfl hret hlk k_164 (by decide) (hP _ _ _ ⟨rfl, N62, u_64, b52, kN52, (Nat.le_trans (Keep.refl h0 [a1]).1 sb52), (Fv52.keep K62 (ninS x_63 nin0)), (Fd52.keep K62 (ninS x_63 nin0)), (Fk52.keep K62 (ninS x_63 nin0)), (Fm52.keep K62 (ninS x_63 nin0)), Vb62⟩)
theorem rm_psx (hw : Hw a0 Z) (a1 : Addr) (i1 : Int32) (s1 : Addr) (G1 n1 : Int32) (b1 : Addr) (kB : ClassId) (xs : List Int32) (z1 : Int32) (b2 : Addr) (kD : ClassId) (vd : List Value) (D zN : Nat) (l1 : Int32) (w1 : Value) (h0 : Heap) (n0 : Nat) (O0 : Old Z n0 h0) (Ea1 : Exa Z h0 a1 s4_) (g1 : n0 ≤ a1) (Fb1 : Fld Z h0 a1 s1_ "value" "[B" (.ref b2)) (Fb2 : Fld Z h0 a1 s1_ "coder" "B" (.int 1)) (V3 : Arv Z h0 b2 kD .byte z1 vd (.int 0)) (g2 : n0 ≤ b2) (E2 : Exa Z h0 s1 s2_) (Fc2 : Fld Z h0 s1 s2_ "coder" "B" (.int 0)) (Fv2 : Fld Z h0 s1 s2_ "value" "[B" (.ref b1)) (V2 : Arv Z h0 b1 kB .byte n1 (xs.map Value.int) (.int 0)) (SC : Sta Z Z.heap s2_ s6_ "Z" (.int G1)) (hG : ¬ G1 = (0 : Int32)) (ne12 : b1 ≠ b2) (ho : i1 = Int32.ofNat D) (hn : n1 = Int32.ofNat xs.length) (hz : z1 = Int32.ofNat zN) (hvd : vd.length = 2 * D) (hzz : 2 * (D + xs.length) ≤ zN) (hzk : zN < 1000) (hl : (z1 >>> ((1 : Int32) &&& 31)) = l1) (SF : Sta Z Z.heap s8_ s12_ s13_ w1) (hr : w1.isRef = true) (h1 : ¬ ((l1 ||| i1) ||| n1) < (0 : Int32)) (h2 : ¬ (l1 - i1) < n1) (SU1 : Sta Z Z.heap s3_ s9_ "Z" (.int 1)) (SU2 : Sta Z Z.heap s3_ s10_ "I" (.int 0)) (SU3 : Sta Z Z.heap s3_ s11_ "I" (.int 8)) : Met l Z y_13 c_13 3 none (Rm 6 0 0 130) #[(.ref a1), (.int i1), (.ref s1)] h0 (fun v h L => v = none ∧ Fr n0 L ∧ Keep h0 h [b2] ∧ Arv Z h b2 kD .byte z1 (vd ++ own_inf xs) (.int 0)) := by
  refine own_met (own := s1_) (G := fun m => (mkF m 0 #[vr a1, vi i1, vr s1] [])) rfl n_13 ?_
  intro p e s m below meth c s₁ E0 P hP K hnm hret hlk hh X0 eH pre0
  obtain ⟨hx, hZ, hown, hby, hml⟩ := id K
  have pre_51 := fun t k => pre0 t <| oA K X0 k_154 rfl rfl rfl <| oA K X0 k_155 rfl rfl rfl <| k
  obtain ⟨T52, _, L52, X52, ⟨rfl, N52q, e52⟩, pre_52⟩ := cP pre_51 K X0 eH (rm_inx l Z a0 hw a1 s1 G1 h0 n0 O0 Fb2 Ea1 E2 Fc2 SC hG) (oW hw 124 rfl) (oW hw 125 rfl) (oW hw 26 rfl) (oW hw 128 rfl) (oW hw 126 rfl) (oW hw 127 rfl) Ea1 rfl (lenOf d_6 rfl) k_156 rfl rfl rfl (W := 0) (Nat.le_of_eq rfl) (by decide)
  have N52 := Fr.app (Fr.nil n0) N52q
  have pre_53 := fun t k => pre_52 t <| oA K X52 k_157 rfl rfl rfl <| oA K X52 k_158 rfl rfl rfl <| k
  obtain ⟨T54, X54, e54, pre_54⟩ := gF pre_53 K X52 e52 (oW hw 32 rfl) Via.refl Fb1 k_159 rfl rfl
  have pre_55 := fun t k => pre_54 t <| oI K X54 k_160 rfl rfl <| oA K X54 k_161 rfl rfl rfl <| k
  obtain ⟨T56, X56, e56, pre_56⟩ := gF pre_55 K X54 e54 (oW hw 34 rfl) Via.refl Fb2 k_162 rfl rfl
  obtain ⟨T57, _, L57, X57, ⟨rfl, N57q, K57, Vb57⟩, pre_57⟩ := cV pre_56 K X56 e56 (rm_gbx l Z a0 hw s1 b2 i1 G1 n1 b1 kB xs z1 kD vd D zN l1 w1 h0 n0 O0 E2 Fc2 Fv2 V2 SC hG V3 g2 ne12 ho hn hz hvd hzz hzk hl SF hr h1 h2 SU1 SU2 SU3) (oW hw 130 rfl) (oW hw 132 rfl) (oW hw 1 rfl) (oW hw 134 rfl) (oW hw 131 rfl) (oW hw 133 rfl) (notFace_of_selects (args := #[]) (mvT hZ (oW hw 133 rfl))) E2 rfl (lenOf d_7 rfl) k_163 rfl rfl rfl (W := 0) (Nat.le_of_eq rfl) (by decide)
  have N57 := Fr.app N52 N57q
  have O57 : Old Z n0 T57.heap := O0.keep K57 (allS g2 all0)
  exact rtV pre_57 K X57 rfl hret hlk k_164 (by decide) (hP _ _ _ ⟨rfl, N57, ((Keep.refl h0 [b2]).trans K57 (allS (Or.inl (List.mem_of_getElem? (i := 0) rfl)) all0)), Vb57⟩)
theorem rm_aapi (hw : Hw a0 Z) (a1 : Addr) (s1 : Addr) (G1 : Int32) (b1 : Addr) (kB : ClassId) (vs : List Value) (b2 : Addr) (kD : ClassId) (xs : List Int32) (w1 : Value) (h0 : Heap) (n0 : Nat) (O0 : Old Z n0 h0) (Ea1 : Exa Z h0 a1 s4_) (g1 : n0 ≤ a1) (Fb1 : Fld Z h0 a1 s1_ "value" "[B" (.ref b2)) (Fb2 : Fld Z h0 a1 s1_ "coder" "B" (.int 0)) (Fb3 : Fld Z h0 a1 s1_ "count" "I" (.int 24)) (Fb4 : Fld Z h0 a1 s1_ s5_ "Z" (.int 0)) (V3 : Arv Z h0 b2 kD .byte (34 : Int32) (xs.map Value.int) (.int 0)) (g2 : n0 ≤ b2) (SC : Sta Z Z.heap s2_ s6_ "Z" (.int G1)) (hG : ¬ G1 = (0 : Int32)) (SF : Sta Z Z.heap s8_ s12_ s13_ w1) (hr : w1.isRef = true) (SU1 : Sta Z Z.heap s3_ s9_ "Z" (.int 1)) (SU2 : Sta Z Z.heap s3_ s10_ "I" (.int 0)) (SU3 : Sta Z Z.heap s3_ s11_ "I" (.int 8)) (hxl : xs.length = 24) (E2 : Exa Z h0 s1 s2_) (Fc2 : Fld Z h0 s1 s2_ "coder" "B" (.int 1)) (Fv2 : Fld Z h0 s1 s2_ "value" "[B" (.ref b1)) (V2 : Arv Z h0 b1 kB .byte (4 : Int32) vs (.int 0)) (hv4 : vs.length = (4 : Int32).toNatClampNeg) : Met l Z y_14 c_14 3 (some (.object s1_)) (Rm 8 1 284 172) #[(.ref a1), (.ref s1)] h0 (fun v h L => v = some (.ref a1) ∧ Fr n0 L ∧ Keep h0 h [a1] ∧ ∃ b kN, h0.size ≤ b ∧ Fld Z h a1 s1_ "value" "[B" (.ref b) ∧ Fld Z h a1 s1_ "coder" "B" (.int 1) ∧ Fld Z h a1 s1_ "count" "I" (.int 26) ∧ Fld Z h a1 s1_ s5_ "Z" (.int 0) ∧ Arv Z h b kN .byte (68 : Int32) (own_inf xs ++ vs) (.int 0)) := by
  refine own_met (own := s1_) (G := fun m => (mkF m 0 #[vr a1, vr s1, uz] [])) rfl n_14 ?_
  intro p e s m below meth c s₁ E0 P hP K hnm hret hlk hh X0 eH pre0
  obtain ⟨hx, hZ, hown, hby, hml⟩ := id K
  have pre_51 := fun t k => pre0 t <| oA K X0 k_165 rfl rfl rfl <| XT.ifnonnullYes X0.here hx rfl (pc0 := 1) (pc' := 9) rfl (hb hby k_166) rfl (by decide) (by decide) <| oA K X0 k_167 rfl rfl rfl <| k
  obtain ⟨T52, _, L52, X52, ⟨rfl, N52q, e52⟩, pre_52⟩ := cV pre_51 K X0 eH (rm_len1 l Z a0 hw s1 G1 (4 : Int32) (2 : Int32) b1 kB vs h0 n0 O0 E2 Fc2 Fv2 V2 (by decide) SC hG) (oW hw 80 rfl) (oW hw 82 rfl) (oW hw 1 rfl) (oW hw 84 rfl) (oW hw 81 rfl) (oW hw 83 rfl) (notFace_of_selects (args := #[]) (mvT hZ (oW hw 83 rfl))) E2 rfl (lenOf d_8 rfl) k_168 rfl rfl rfl (W := 0) (Nat.le_of_eq rfl) (by decide)
  have N52 := Fr.app (Fr.nil n0) N52q
  have pre_53 := fun t k => pre_52 t <| XS.istoreN X52.here hx rfl (hb hby k_169) rfl (l' := #[vr a1, vr s1, vi 2]) rfl <| oA K X52 k_170 rfl rfl rfl <| oA K X52 k_171 rfl rfl rfl <| k
  obtain ⟨T54, X54, e54, pre_54⟩ := gF pre_53 K X52 e52 (oW hw 47 rfl) Via.refl Fb3 k_172 rfl rfl
  have pre_55 := fun t k => pre_54 t <| oI K X54 k_173 rfl rfl <| XS.iadd X54.here hx rfl (hb hby k_174) rfl <| k
  obtain ⟨T56, _, L56, X56, ⟨rfl, N56q, e56⟩, pre_56⟩ := cP pre_55 K X54 e54 (rm_ecn0 l Z a0 hw a1 (26 : Int32) (34 : Int32) b2 kD (xs.map Value.int) h0 n0 O0 Fb1 Fb2 V3 (by decide)) (oW hw 54 rfl) (oW hw 55 rfl) (oW hw 26 rfl) (oW hw 58 rfl) (oW hw 56 rfl) (oW hw 57 rfl) Ea1 rfl (lenOf d_9 rfl) k_175 rfl rfl rfl (W := 0) (Nat.le_of_eq rfl) (by decide)
  have N56 := Fr.app N52 N56q
  have pre_57 := fun t k => pre_56 t <| oA K X56 k_176 rfl rfl rfl <| oA K X56 k_177 rfl rfl rfl <| k
  obtain ⟨T58, X58, e58, pre_58⟩ := gF pre_57 K X56 e56 (oW hw 47 rfl) Via.refl Fb3 k_178 rfl rfl
  have pre_59 : Pr p e below E0 T58 (mkF m 30 #[vr a1, vr s1, vi 2] [(.ref s1), (.int 24), (.ref a1)]) := fun t k => pre_58 t <| oA K X58 k_179 rfl rfl rfl <| k
  obtain ⟨T60, _, L60, X60, ⟨rfl, N60q, K60, b60, kN60, sb60, Fv60, Fd60, Fk60, Fm60, Vb60⟩, pre_60⟩ := cP pre_59 K X58 e58 (rm_psi l Z a0 hw a1 s1 G1 b1 kB vs b2 kD xs w1 h0 n0 O0 Ea1 g1 Fb1 Fb2 Fb3 Fb4 V3 g2 SC hG SF hr SU1 SU2 SU3 hxl E2 Fc2 Fv2 V2 hv4) (oW hw 119 rfl) (oW hw 120 rfl) (oW hw 26 rfl) (oW hw 123 rfl) (oW hw 121 rfl) (oW hw 122 rfl) Ea1 rfl (lenOf d_10 rfl) k_180 rfl rfl rfl (W := 0) (Nat.le_of_eq rfl) (by decide)
  have N60 := Fr.app N56 N60q
  have O60 : Old Z n0 T60.heap := O0.keep K60 (allS g1 all0)
  have pre_61 := fun t k => pre_60 t <| oA K X60 k_181 rfl rfl rfl <| XS.dup X60.here hx rfl (hb hby k_182) rfl rfl <| k
  obtain ⟨T62, X62, e62, pre_62⟩ := gF pre_61 K X60 rfl (oW hw 47 rfl) Via.refl Fk60 k_183 rfl rfl
  have pre_63 := fun t k => pre_62 t <| oI K X62 k_184 rfl rfl <| XS.iadd X62.here hx rfl (hb hby k_185) rfl <| k
  obtain ⟨T64, h64, X64, e64, W64, Fw64, pre_64⟩ := pF pre_63 K X62 e62 .int (oW hw 47 rfl) Fk60 (Ea1.keep K60) (Or.inl (oW hw 48 rfl)) (oW hw 17 rfl) k_186 rfl rfl (by decide) rfl rfl
  have N64 := Fr.snoc X64 N60 g1
  have O64 := O60.wr W64 g1
  have pre_65 := fun t k => pre_64 t <| oA K X64 k_187 rfl rfl rfl <| k
  have f_66 := (Fv60.other W64 (Or.inr (slot_ne (Or.inl (oW hw 33 rfl)) (Or.inl (oW hw 48 rfl)) (by decide) (t := (.array .byte)) (t' := .int) (by decide) (by decide))))
  have x_67 := (Ne.symm (Nat.ne_of_lt (Nat.lt_of_lt_of_le Ea1.lt sb60)))
  have u_68 := (((Keep.refl h0 [a1]).trans K60 (allS (Or.inl (List.mem_of_getElem? (i := 0) rfl)) all0)).wr W64 (Or.inl (List.mem_of_getElem? (i := 0) rfl)))
  have f_69 := (Fd60.other W64 (Or.inr (slot_ne (Or.inl (oW hw 35 rfl)) (Or.inl (oW hw 48 rfl)) (by decide) (t := .byte) (t' := .int) (by decide) (by decide))))
  have f_70 := (Fm60.other W64 (Or.inr (slot_ne (Or.inl (oW hw 406 rfl)) (Or.inl (oW hw 48 rfl)) (by decide) (t := .boolean) (t' := .int) (by decide) (by decide))))
  exact rtA pre_65 K X64 e64 hret hlk k_188 (by decide) ⟨rfl, rfl⟩ (hP _ _ _ ⟨rfl, N64, u_68, b60, kN60, (Nat.le_trans (Keep.refl h0 [a1]).1 sb60), f_66, f_69, Fw64, f_70, (Vb60.other W64 x_67)⟩)
theorem rm_bapi (hw : Hw a0 Z) (a1 : Addr) (s1 : Addr) (G1 : Int32) (b1 : Addr) (kB : ClassId) (vs : List Value) (b2 : Addr) (kD : ClassId) (xs : List Int32) (w1 : Value) (h0 : Heap) (n0 : Nat) (O0 : Old Z n0 h0) (Ea1 : Exa Z h0 a1 s4_) (g1 : n0 ≤ a1) (Fb1 : Fld Z h0 a1 s1_ "value" "[B" (.ref b2)) (Fb2 : Fld Z h0 a1 s1_ "coder" "B" (.int 0)) (Fb3 : Fld Z h0 a1 s1_ "count" "I" (.int 24)) (Fb4 : Fld Z h0 a1 s1_ s5_ "Z" (.int 0)) (V3 : Arv Z h0 b2 kD .byte (34 : Int32) (xs.map Value.int) (.int 0)) (g2 : n0 ≤ b2) (SC : Sta Z Z.heap s2_ s6_ "Z" (.int G1)) (hG : ¬ G1 = (0 : Int32)) (SF : Sta Z Z.heap s8_ s12_ s13_ w1) (hr : w1.isRef = true) (SU1 : Sta Z Z.heap s3_ s9_ "Z" (.int 1)) (SU2 : Sta Z Z.heap s3_ s10_ "I" (.int 0)) (SU3 : Sta Z Z.heap s3_ s11_ "I" (.int 8)) (hxl : xs.length = 24) (E2 : Exa Z h0 s1 s2_) (Fc2 : Fld Z h0 s1 s2_ "coder" "B" (.int 1)) (Fv2 : Fld Z h0 s1 s2_ "value" "[B" (.ref b1)) (V2 : Arv Z h0 b1 kB .byte (4 : Int32) vs (.int 0)) (hv4 : vs.length = (4 : Int32).toNatClampNeg) : Met l Z y_15 c_15 2 (some (.object s4_)) (Rm 9 1 284 190) #[(.ref a1), (.ref s1)] h0 (fun v h L => v = some (.ref a1) ∧ Fr n0 L ∧ Keep h0 h [a1] ∧ ∃ b kN, h0.size ≤ b ∧ Fld Z h a1 s1_ "value" "[B" (.ref b) ∧ Fld Z h a1 s1_ "coder" "B" (.int 1) ∧ Fld Z h a1 s1_ "count" "I" (.int 26) ∧ Fld Z h a1 s1_ s5_ "Z" (.int 0) ∧ Arv Z h b kN .byte (68 : Int32) (own_inf xs ++ vs) (.int 0)) := by
  refine own_met (own := s4_) (G := fun m => (mkF m 0 #[vr a1, vr s1] [])) rfl n_15 ?_
  intro p e s m below meth c s₁ E0 P hP K hnm hret hlk hh X0 eH pre0
  obtain ⟨hx, hZ, hown, hby, hml⟩ := id K
  have pre_51 := fun t k => pre0 t <| oA K X0 k_189 rfl rfl rfl <| oA K X0 k_190 rfl rfl rfl <| k
  obtain ⟨T52, _, L52, X52, ⟨rfl, N52q, K52, b52, kN52, sb52, Fv52, Fd52, Fk52, Fm52, Vb52⟩, pre_52⟩ := cU pre_51 K X0 eH (rm_aapi l Z a0 hw a1 s1 G1 b1 kB vs b2 kD xs w1 h0 n0 O0 Ea1 g1 Fb1 Fb2 Fb3 Fb4 V3 g2 SC hG SF hr SU1 SU2 SU3 hxl E2 Fc2 Fv2 V2 hv4) (oW hw 76 rfl) (oW hw 77 rfl) (oW hw 26 rfl) (oW hw 79 rfl) (oW hw 57 rfl) (oW hw 55 rfl) (oW hw 44 rfl) rfl Ea1 rfl (lenOf d_11 rfl) k_191 rfl rfl rfl (W := 0) (Nat.le_of_eq rfl) (by decide) (by decide)
  have N52 := Fr.app (Fr.nil n0) N52q
  have O52 : Old Z n0 T52.heap := O0.keep K52 (allS g1 all0)
  have pre_53 := fun t k => pre_52 t <| XT.pop X52.here hx rfl (hb hby k_192) rfl rfl <| oA K X52 k_193 rfl rfl rfl <| k
  exact rtA pre_53 K X52 rfl hret hlk k_194 (by decide) ⟨rfl, rfl⟩ (hP _ _ _ ⟨rfl, N52, ((Keep.refl h0 [a1]).trans K52 (allS (Or.inl (List.mem_of_getElem? (i := 0) rfl)) all0)), b52, kN52, (Nat.le_trans (Keep.refl h0 [a1]).1 sb52), Fv52, Fd52, Fk52, Fm52, Vb52⟩)
theorem rm_aapx68 (hw : Hw a0 Z) (a1 : Addr) (s1 : Addr) (G1 n1 : Int32) (b1 : Addr) (kB : ClassId) (xs : List Int32) (c1 : Int32) (b2 : Addr) (kD : ClassId) (vd : List Value) (c2 : Int32) (D zN : Nat) (l1 : Int32) (w1 : Value) (h0 : Heap) (n0 : Nat) (O0 : Old Z n0 h0) (Ea1 : Exa Z h0 a1 s4_) (g1 : n0 ≤ a1) (Fb1 : Fld Z h0 a1 s1_ "value" "[B" (.ref b2)) (Fb2 : Fld Z h0 a1 s1_ "coder" "B" (.int 1)) (Fb3 : Fld Z h0 a1 s1_ "count" "I" (.int c1)) (Fb4 : Fld Z h0 a1 s1_ s5_ "Z" (.int 0)) (V3 : Arv Z h0 b2 kD .byte (68 : Int32) vd (.int 0)) (g2 : n0 ≤ b2) (E2 : Exa Z h0 s1 s2_) (Fc2 : Fld Z h0 s1 s2_ "coder" "B" (.int 0)) (Fv2 : Fld Z h0 s1 s2_ "value" "[B" (.ref b1)) (V2 : Arv Z h0 b1 kB .byte n1 (xs.map Value.int) (.int 0)) (SC : Sta Z Z.heap s2_ s6_ "Z" (.int G1)) (hG : ¬ G1 = (0 : Int32)) (ne12 : b1 ≠ b2) (hm : (n1 >>> ((0 : Int32) &&& 31)) = n1) (hsum : (c1 + n1) = c2) (ho : c1 = Int32.ofNat D) (hn : n1 = Int32.ofNat xs.length) (hz : (140 : Int32) = Int32.ofNat zN) (hvd : vd.length = 2 * D) (hzz : 2 * (D + xs.length) ≤ zN) (hzk : zN < 1000) (hl : ((140 : Int32) >>> ((1 : Int32) &&& 31)) = l1) (SF : Sta Z Z.heap s8_ s12_ s13_ w1) (hr : w1.isRef = true) (h1 : ¬ ((l1 ||| c1) ||| n1) < (0 : Int32)) (h2 : ¬ (l1 - c1) < n1) (SU1 : Sta Z Z.heap s3_ s9_ "Z" (.int 1)) (SU2 : Sta Z Z.heap s3_ s10_ "I" (.int 0)) (SU3 : Sta Z Z.heap s3_ s11_ "I" (.int 8)) (hc : ((c2 <<< ((1 : Int32) &&& 31)) - (68 : Int32)) < (72 : Int32)) (hp : (0 : Int32) < (c2 - (34 : Int32))) (hle : vd.length ≤ 68) : Met l Z y_14 c_14 3 (some (.object s1_)) (Rm 7 1 284 152) #[(.ref a1), (.ref s1)] h0 (fun v h L => v = some (.ref a1) ∧ Fr n0 L ∧ Keep h0 h [a1] ∧ ∃ b kN, h0.size ≤ b ∧ Fld Z h a1 s1_ "value" "[B" (.ref b) ∧ Fld Z h a1 s1_ "coder" "B" (.int 1) ∧ Fld Z h a1 s1_ "count" "I" (.int c2) ∧ Fld Z h a1 s1_ s5_ "Z" (.int 0) ∧ Arv Z h b kN .byte (140 : Int32) (vd ++ own_inf xs) (.int 0)) := by
  refine own_met (own := s1_) (G := fun m => (mkF m 0 #[vr a1, vr s1, uz] [])) rfl n_14 ?_
  intro p e s m below meth c s₁ E0 P hP K hnm hret hlk hh X0 eH pre0
  obtain ⟨hx, hZ, hown, hby, hml⟩ := id K
  have pre_51 := fun t k => pre0 t <| oA K X0 k_165 rfl rfl rfl <| XT.ifnonnullYes X0.here hx rfl (pc0 := 1) (pc' := 9) rfl (hb hby k_166) rfl (by decide) (by decide) <| oA K X0 k_167 rfl rfl rfl <| k
  obtain ⟨T52, _, L52, X52, ⟨rfl, N52q, e52⟩, pre_52⟩ := cV pre_51 K X0 eH (rm_len0 l Z a0 hw s1 G1 n1 n1 b1 kB (xs.map Value.int) h0 n0 O0 E2 Fc2 Fv2 V2 hm SC hG) (oW hw 80 rfl) (oW hw 82 rfl) (oW hw 1 rfl) (oW hw 84 rfl) (oW hw 81 rfl) (oW hw 83 rfl) (notFace_of_selects (args := #[]) (mvT hZ (oW hw 83 rfl))) E2 rfl (lenOf d_8 rfl) k_168 rfl rfl rfl (W := 0) (Nat.le_of_eq rfl) (by decide)
  have N52 := Fr.app (Fr.nil n0) N52q
  have pre_53 := fun t k => pre_52 t <| XS.istoreN X52.here hx rfl (hb hby k_169) rfl (l' := #[vr a1, vr s1, vi n1]) rfl <| oA K X52 k_170 rfl rfl rfl <| oA K X52 k_171 rfl rfl rfl <| k
  obtain ⟨T54, X54, e54, pre_54⟩ := gF pre_53 K X52 e52 (oW hw 47 rfl) Via.refl Fb3 k_172 rfl rfl
  have pre_55 := fun t k => pre_54 t <| oI K X54 k_173 rfl rfl <| XS.iadd X54.here hx rfl (hb hby k_174) rfl <| k
  have pre_56 : Pr p e below E0 T54 (mkF m 21 #[vr a1, vr s1, vi n1] [(.int (c1 + n1)), (.ref a1)]) := pre_55
  rw [hsum] at pre_56
  obtain ⟨T57, _, L57, X57, ⟨rfl, N57q, K57, b57, kN57, sb57, Fv57, Fd57, Fk57, Fm57, Vb57⟩, pre_57⟩ := cP pre_56 K X54 e54 (rm_ecg68 l Z a0 hw a1 c2 b2 kD vd c1 h0 n0 O0 Fb3 Fb4 Ea1 g1 Fb1 Fb2 V3 hc hp hle) (oW hw 54 rfl) (oW hw 55 rfl) (oW hw 26 rfl) (oW hw 58 rfl) (oW hw 56 rfl) (oW hw 57 rfl) Ea1 rfl (lenOf d_9 rfl) k_175 rfl rfl rfl (W := 0) (Nat.le_of_eq rfl) (by decide)
  have N57 := Fr.app N52 N57q
  have O57 : Old Z n0 T57.heap := O0.keep K57 (allS g1 all0)
  have pre_58 := fun t k => pre_57 t <| oA K X57 k_176 rfl rfl rfl <| oA K X57 k_177 rfl rfl rfl <| k
  obtain ⟨T59, X59, e59, pre_59⟩ := gF pre_58 K X57 rfl (oW hw 47 rfl) Via.refl Fk57 k_178 rfl rfl
  have v_60 := (Nat.le_trans (own_le O0) sb57)
  have f_61 := (Fc2.keep K57 (ninS (Exa.ne E2 Ea1 (by decide)) nin0))
  have f_62 := (Fv2.keep K57 (ninS (Exa.ne E2 Ea1 (by decide)) nin0))
  have x_63 := (Ne.symm (Exa.neArv Ea1 V2 (oW hw 17 rfl)))
  have x_64 := (Nat.ne_of_lt (Nat.lt_of_lt_of_le V2.lt sb57))
  have pre_65 := fun t k => pre_59 t <| oA K X59 k_179 rfl rfl rfl <| k
  obtain ⟨T66, _, L66, X66, ⟨rfl, N66q, K66, Vb66⟩, pre_66⟩ := cP pre_65 K X59 e59 (rm_psx l Z a0 hw a1 c1 s1 G1 n1 b1 kB xs (140 : Int32) b57 kN57 vd D zN l1 w1 T57.heap n0 O57 (Ea1.keep K57) g1 Fv57 Fd57 Vb57 v_60 (E2.keep K57) f_61 f_62 (V2.keep K57 (ninS x_63 nin0)) SC hG x_64 ho hn hz hvd hzz hzk hl SF hr h1 h2 SU1 SU2 SU3) (oW hw 119 rfl) (oW hw 120 rfl) (oW hw 26 rfl) (oW hw 123 rfl) (oW hw 121 rfl) (oW hw 122 rfl) (Ea1.keep K57) rfl (lenOf d_10 rfl) k_180 rfl rfl rfl (W := 0) (Nat.le_of_eq rfl) (by decide)
  have N66 := Fr.app N57 N66q
  have O66 : Old Z n0 T66.heap := O57.keep K66 (allS v_60 all0)
  have pre_67 := fun t k => pre_66 t <| oA K X66 k_181 rfl rfl rfl <| XS.dup X66.here hx rfl (hb hby k_182) rfl rfl <| k
  have x_68 := (Nat.ne_of_lt (Nat.lt_of_lt_of_le Ea1.lt sb57))
  obtain ⟨T69, X69, e69, pre_69⟩ := gF pre_67 K X66 rfl (oW hw 47 rfl) Via.refl (Fk57.keep K66 (ninS x_68 nin0)) k_183 rfl rfl
  have pre_70 := fun t k => pre_69 t <| oI K X69 k_184 rfl rfl <| XS.iadd X69.here hx rfl (hb hby k_185) rfl <| k
  have pre_71 : Pr p e below E0 T69 (mkF m 40 #[vr a1, vr s1, vi n1] [(.int (c1 + n1)), (.ref a1)]) := pre_70
  rw [hsum] at pre_71
  obtain ⟨T72, h72, X72, e72, W72, Fw72, pre_72⟩ := pF pre_71 K X69 e69 .int (oW hw 47 rfl) (Fk57.keep K66 (ninS x_68 nin0)) ((Ea1.keep K57).keep K66) (Or.inl (oW hw 48 rfl)) (oW hw 17 rfl) k_186 rfl rfl (by decide) rfl rfl
  have N72 := Fr.snoc X72 N66 g1
  have O72 := O66.wr W72 g1
  have pre_73 := fun t k => pre_72 t <| oA K X72 k_187 rfl rfl rfl <| k
  have f_74 := ((Fv57.keep K66 (ninS x_68 nin0)).other W72 (Or.inr (slot_ne (Or.inl (oW hw 33 rfl)) (Or.inl (oW hw 48 rfl)) (by decide) (t := (.array .byte)) (t' := .int) (by decide) (by decide))))
  have u_75 := (((Keep.refl h0 [a1]).trans K57 (allS (Or.inl (List.mem_of_getElem? (i := 0) rfl)) all0)).trans K66 (allS (Or.inr (Nat.le_trans (Keep.refl h0 [a1]).1 sb57)) all0))
  have f_76 := ((Fd57.keep K66 (ninS x_68 nin0)).other W72 (Or.inr (slot_ne (Or.inl (oW hw 35 rfl)) (Or.inl (oW hw 48 rfl)) (by decide) (t := .byte) (t' := .int) (by decide) (by decide))))
  have f_77 := ((Fm57.keep K66 (ninS x_68 nin0)).other W72 (Or.inr (slot_ne (Or.inl (oW hw 406 rfl)) (Or.inl (oW hw 48 rfl)) (by decide) (t := .boolean) (t' := .int) (by decide) (by decide))))
  exact rtA pre_73 K X72 e72 hret hlk k_188 (by decide) ⟨rfl, rfl⟩ (hP _ _ _ ⟨rfl, N72, (u_75.wr W72 (Or.inl (List.mem_of_getElem? (i := 0) rfl))), b57, kN57, (Nat.le_trans (Keep.refl h0 [a1]).1 sb57), f_74, f_76, Fw72, f_77, (Vb66.other W72 (Ne.symm x_68))⟩)
theorem rm_bapx68 (hw : Hw a0 Z) (a1 : Addr) (s1 : Addr) (G1 n1 : Int32) (b1 : Addr) (kB : ClassId) (xs : List Int32) (c1 : Int32) (b2 : Addr) (kD : ClassId) (vd : List Value) (c2 : Int32) (D zN : Nat) (l1 : Int32) (w1 : Value) (h0 : Heap) (n0 : Nat) (O0 : Old Z n0 h0) (Ea1 : Exa Z h0 a1 s4_) (g1 : n0 ≤ a1) (Fb1 : Fld Z h0 a1 s1_ "value" "[B" (.ref b2)) (Fb2 : Fld Z h0 a1 s1_ "coder" "B" (.int 1)) (Fb3 : Fld Z h0 a1 s1_ "count" "I" (.int c1)) (Fb4 : Fld Z h0 a1 s1_ s5_ "Z" (.int 0)) (V3 : Arv Z h0 b2 kD .byte (68 : Int32) vd (.int 0)) (g2 : n0 ≤ b2) (E2 : Exa Z h0 s1 s2_) (Fc2 : Fld Z h0 s1 s2_ "coder" "B" (.int 0)) (Fv2 : Fld Z h0 s1 s2_ "value" "[B" (.ref b1)) (V2 : Arv Z h0 b1 kB .byte n1 (xs.map Value.int) (.int 0)) (SC : Sta Z Z.heap s2_ s6_ "Z" (.int G1)) (hG : ¬ G1 = (0 : Int32)) (ne12 : b1 ≠ b2) (hm : (n1 >>> ((0 : Int32) &&& 31)) = n1) (hsum : (c1 + n1) = c2) (ho : c1 = Int32.ofNat D) (hn : n1 = Int32.ofNat xs.length) (hz : (140 : Int32) = Int32.ofNat zN) (hvd : vd.length = 2 * D) (hzz : 2 * (D + xs.length) ≤ zN) (hzk : zN < 1000) (hl : ((140 : Int32) >>> ((1 : Int32) &&& 31)) = l1) (SF : Sta Z Z.heap s8_ s12_ s13_ w1) (hr : w1.isRef = true) (h1 : ¬ ((l1 ||| c1) ||| n1) < (0 : Int32)) (h2 : ¬ (l1 - c1) < n1) (SU1 : Sta Z Z.heap s3_ s9_ "Z" (.int 1)) (SU2 : Sta Z Z.heap s3_ s10_ "I" (.int 0)) (SU3 : Sta Z Z.heap s3_ s11_ "I" (.int 8)) (hc : ((c2 <<< ((1 : Int32) &&& 31)) - (68 : Int32)) < (72 : Int32)) (hp : (0 : Int32) < (c2 - (34 : Int32))) (hle : vd.length ≤ 68) : Met l Z y_15 c_15 2 (some (.object s4_)) (Rm 8 1 284 170) #[(.ref a1), (.ref s1)] h0 (fun v h L => v = some (.ref a1) ∧ Fr n0 L ∧ Keep h0 h [a1] ∧ ∃ b kN, h0.size ≤ b ∧ Fld Z h a1 s1_ "value" "[B" (.ref b) ∧ Fld Z h a1 s1_ "coder" "B" (.int 1) ∧ Fld Z h a1 s1_ "count" "I" (.int c2) ∧ Fld Z h a1 s1_ s5_ "Z" (.int 0) ∧ Arv Z h b kN .byte (140 : Int32) (vd ++ own_inf xs) (.int 0)) := by
  refine own_met (own := s4_) (G := fun m => (mkF m 0 #[vr a1, vr s1] [])) rfl n_15 ?_
  intro p e s m below meth c s₁ E0 P hP K hnm hret hlk hh X0 eH pre0
  obtain ⟨hx, hZ, hown, hby, hml⟩ := id K
  have pre_51 := fun t k => pre0 t <| oA K X0 k_189 rfl rfl rfl <| oA K X0 k_190 rfl rfl rfl <| k
  obtain ⟨T52, _, L52, X52, ⟨rfl, N52q, K52, b52, kN52, sb52, Fv52, Fd52, Fk52, Fm52, Vb52⟩, pre_52⟩ := cU pre_51 K X0 eH (rm_aapx68 l Z a0 hw a1 s1 G1 n1 b1 kB xs c1 b2 kD vd c2 D zN l1 w1 h0 n0 O0 Ea1 g1 Fb1 Fb2 Fb3 Fb4 V3 g2 E2 Fc2 Fv2 V2 SC hG ne12 hm hsum ho hn hz hvd hzz hzk hl SF hr h1 h2 SU1 SU2 SU3 hc hp hle) (oW hw 76 rfl) (oW hw 77 rfl) (oW hw 26 rfl) (oW hw 79 rfl) (oW hw 57 rfl) (oW hw 55 rfl) (oW hw 44 rfl) rfl Ea1 rfl (lenOf d_11 rfl) k_191 rfl rfl rfl (W := 0) (Nat.le_of_eq rfl) (by decide) (by decide)
  have N52 := Fr.app (Fr.nil n0) N52q
  have O52 : Old Z n0 T52.heap := O0.keep K52 (allS g1 all0)
  have pre_53 := fun t k => pre_52 t <| XT.pop X52.here hx rfl (hb hby k_192) rfl rfl <| oA K X52 k_193 rfl rfl rfl <| k
  exact rtA pre_53 K X52 rfl hret hlk k_194 (by decide) ⟨rfl, rfl⟩ (hP _ _ _ ⟨rfl, N52, ((Keep.refl h0 [a1]).trans K52 (allS (Or.inl (List.mem_of_getElem? (i := 0) rfl)) all0)), b52, kN52, (Nat.le_trans (Keep.refl h0 [a1]).1 sb52), Fv52, Fd52, Fk52, Fm52, Vb52⟩)
theorem rm_aapx140 (hw : Hw a0 Z) (a1 : Addr) (s1 : Addr) (G1 n1 : Int32) (b1 : Addr) (kB : ClassId) (xs : List Int32) (c1 : Int32) (b2 : Addr) (kD : ClassId) (vd : List Value) (c2 : Int32) (D zN : Nat) (l1 : Int32) (w1 : Value) (h0 : Heap) (n0 : Nat) (O0 : Old Z n0 h0) (Ea1 : Exa Z h0 a1 s4_) (g1 : n0 ≤ a1) (Fb1 : Fld Z h0 a1 s1_ "value" "[B" (.ref b2)) (Fb2 : Fld Z h0 a1 s1_ "coder" "B" (.int 1)) (Fb3 : Fld Z h0 a1 s1_ "count" "I" (.int c1)) (Fb4 : Fld Z h0 a1 s1_ s5_ "Z" (.int 0)) (V3 : Arv Z h0 b2 kD .byte (140 : Int32) vd (.int 0)) (g2 : n0 ≤ b2) (E2 : Exa Z h0 s1 s2_) (Fc2 : Fld Z h0 s1 s2_ "coder" "B" (.int 0)) (Fv2 : Fld Z h0 s1 s2_ "value" "[B" (.ref b1)) (V2 : Arv Z h0 b1 kB .byte n1 (xs.map Value.int) (.int 0)) (SC : Sta Z Z.heap s2_ s6_ "Z" (.int G1)) (hG : ¬ G1 = (0 : Int32)) (ne12 : b1 ≠ b2) (hm : (n1 >>> ((0 : Int32) &&& 31)) = n1) (hsum : (c1 + n1) = c2) (ho : c1 = Int32.ofNat D) (hn : n1 = Int32.ofNat xs.length) (hz : (284 : Int32) = Int32.ofNat zN) (hvd : vd.length = 2 * D) (hzz : 2 * (D + xs.length) ≤ zN) (hzk : zN < 1000) (hl : ((284 : Int32) >>> ((1 : Int32) &&& 31)) = l1) (SF : Sta Z Z.heap s8_ s12_ s13_ w1) (hr : w1.isRef = true) (h1 : ¬ ((l1 ||| c1) ||| n1) < (0 : Int32)) (h2 : ¬ (l1 - c1) < n1) (SU1 : Sta Z Z.heap s3_ s9_ "Z" (.int 1)) (SU2 : Sta Z Z.heap s3_ s10_ "I" (.int 0)) (SU3 : Sta Z Z.heap s3_ s11_ "I" (.int 8)) (hc : ((c2 <<< ((1 : Int32) &&& 31)) - (140 : Int32)) < (144 : Int32)) (hp : (0 : Int32) < (c2 - (70 : Int32))) (hle : vd.length ≤ 140) : Met l Z y_14 c_14 3 (some (.object s1_)) (Rm 7 1 284 152) #[(.ref a1), (.ref s1)] h0 (fun v h L => v = some (.ref a1) ∧ Fr n0 L ∧ Keep h0 h [a1] ∧ ∃ b kN, h0.size ≤ b ∧ Fld Z h a1 s1_ "value" "[B" (.ref b) ∧ Fld Z h a1 s1_ "coder" "B" (.int 1) ∧ Fld Z h a1 s1_ "count" "I" (.int c2) ∧ Fld Z h a1 s1_ s5_ "Z" (.int 0) ∧ Arv Z h b kN .byte (284 : Int32) (vd ++ own_inf xs) (.int 0)) := by
  refine own_met (own := s1_) (G := fun m => (mkF m 0 #[vr a1, vr s1, uz] [])) rfl n_14 ?_
  intro p e s m below meth c s₁ E0 P hP K hnm hret hlk hh X0 eH pre0
  obtain ⟨hx, hZ, hown, hby, hml⟩ := id K
  have pre_51 := fun t k => pre0 t <| oA K X0 k_165 rfl rfl rfl <| XT.ifnonnullYes X0.here hx rfl (pc0 := 1) (pc' := 9) rfl (hb hby k_166) rfl (by decide) (by decide) <| oA K X0 k_167 rfl rfl rfl <| k
  obtain ⟨T52, _, L52, X52, ⟨rfl, N52q, e52⟩, pre_52⟩ := cV pre_51 K X0 eH (rm_len0 l Z a0 hw s1 G1 n1 n1 b1 kB (xs.map Value.int) h0 n0 O0 E2 Fc2 Fv2 V2 hm SC hG) (oW hw 80 rfl) (oW hw 82 rfl) (oW hw 1 rfl) (oW hw 84 rfl) (oW hw 81 rfl) (oW hw 83 rfl) (notFace_of_selects (args := #[]) (mvT hZ (oW hw 83 rfl))) E2 rfl (lenOf d_8 rfl) k_168 rfl rfl rfl (W := 0) (Nat.le_of_eq rfl) (by decide)
  have N52 := Fr.app (Fr.nil n0) N52q
  have pre_53 := fun t k => pre_52 t <| XS.istoreN X52.here hx rfl (hb hby k_169) rfl (l' := #[vr a1, vr s1, vi n1]) rfl <| oA K X52 k_170 rfl rfl rfl <| oA K X52 k_171 rfl rfl rfl <| k
  obtain ⟨T54, X54, e54, pre_54⟩ := gF pre_53 K X52 e52 (oW hw 47 rfl) Via.refl Fb3 k_172 rfl rfl
  have pre_55 := fun t k => pre_54 t <| oI K X54 k_173 rfl rfl <| XS.iadd X54.here hx rfl (hb hby k_174) rfl <| k
  have pre_56 : Pr p e below E0 T54 (mkF m 21 #[vr a1, vr s1, vi n1] [(.int (c1 + n1)), (.ref a1)]) := pre_55
  rw [hsum] at pre_56
  obtain ⟨T57, _, L57, X57, ⟨rfl, N57q, K57, b57, kN57, sb57, Fv57, Fd57, Fk57, Fm57, Vb57⟩, pre_57⟩ := cP pre_56 K X54 e54 (rm_ecg140 l Z a0 hw a1 c2 b2 kD vd c1 h0 n0 O0 Fb3 Fb4 Ea1 g1 Fb1 Fb2 V3 hc hp hle) (oW hw 54 rfl) (oW hw 55 rfl) (oW hw 26 rfl) (oW hw 58 rfl) (oW hw 56 rfl) (oW hw 57 rfl) Ea1 rfl (lenOf d_9 rfl) k_175 rfl rfl rfl (W := 0) (Nat.le_of_eq rfl) (by decide)
  have N57 := Fr.app N52 N57q
  have O57 : Old Z n0 T57.heap := O0.keep K57 (allS g1 all0)
  have pre_58 := fun t k => pre_57 t <| oA K X57 k_176 rfl rfl rfl <| oA K X57 k_177 rfl rfl rfl <| k
  obtain ⟨T59, X59, e59, pre_59⟩ := gF pre_58 K X57 rfl (oW hw 47 rfl) Via.refl Fk57 k_178 rfl rfl
  have v_60 := (Nat.le_trans (own_le O0) sb57)
  have f_61 := (Fc2.keep K57 (ninS (Exa.ne E2 Ea1 (by decide)) nin0))
  have f_62 := (Fv2.keep K57 (ninS (Exa.ne E2 Ea1 (by decide)) nin0))
  have x_63 := (Ne.symm (Exa.neArv Ea1 V2 (oW hw 17 rfl)))
  have x_64 := (Nat.ne_of_lt (Nat.lt_of_lt_of_le V2.lt sb57))
  have pre_65 := fun t k => pre_59 t <| oA K X59 k_179 rfl rfl rfl <| k
  obtain ⟨T66, _, L66, X66, ⟨rfl, N66q, K66, Vb66⟩, pre_66⟩ := cP pre_65 K X59 e59 (rm_psx l Z a0 hw a1 c1 s1 G1 n1 b1 kB xs (284 : Int32) b57 kN57 vd D zN l1 w1 T57.heap n0 O57 (Ea1.keep K57) g1 Fv57 Fd57 Vb57 v_60 (E2.keep K57) f_61 f_62 (V2.keep K57 (ninS x_63 nin0)) SC hG x_64 ho hn hz hvd hzz hzk hl SF hr h1 h2 SU1 SU2 SU3) (oW hw 119 rfl) (oW hw 120 rfl) (oW hw 26 rfl) (oW hw 123 rfl) (oW hw 121 rfl) (oW hw 122 rfl) (Ea1.keep K57) rfl (lenOf d_10 rfl) k_180 rfl rfl rfl (W := 0) (Nat.le_of_eq rfl) (by decide)
  have N66 := Fr.app N57 N66q
  have O66 : Old Z n0 T66.heap := O57.keep K66 (allS v_60 all0)
  have pre_67 := fun t k => pre_66 t <| oA K X66 k_181 rfl rfl rfl <| XS.dup X66.here hx rfl (hb hby k_182) rfl rfl <| k
  have x_68 := (Nat.ne_of_lt (Nat.lt_of_lt_of_le Ea1.lt sb57))
  obtain ⟨T69, X69, e69, pre_69⟩ := gF pre_67 K X66 rfl (oW hw 47 rfl) Via.refl (Fk57.keep K66 (ninS x_68 nin0)) k_183 rfl rfl
  have pre_70 := fun t k => pre_69 t <| oI K X69 k_184 rfl rfl <| XS.iadd X69.here hx rfl (hb hby k_185) rfl <| k
  have pre_71 : Pr p e below E0 T69 (mkF m 40 #[vr a1, vr s1, vi n1] [(.int (c1 + n1)), (.ref a1)]) := pre_70
  rw [hsum] at pre_71
  obtain ⟨T72, h72, X72, e72, W72, Fw72, pre_72⟩ := pF pre_71 K X69 e69 .int (oW hw 47 rfl) (Fk57.keep K66 (ninS x_68 nin0)) ((Ea1.keep K57).keep K66) (Or.inl (oW hw 48 rfl)) (oW hw 17 rfl) k_186 rfl rfl (by decide) rfl rfl
  have N72 := Fr.snoc X72 N66 g1
  have O72 := O66.wr W72 g1
  have pre_73 := fun t k => pre_72 t <| oA K X72 k_187 rfl rfl rfl <| k
  have f_74 := ((Fv57.keep K66 (ninS x_68 nin0)).other W72 (Or.inr (slot_ne (Or.inl (oW hw 33 rfl)) (Or.inl (oW hw 48 rfl)) (by decide) (t := (.array .byte)) (t' := .int) (by decide) (by decide))))
  have u_75 := (((Keep.refl h0 [a1]).trans K57 (allS (Or.inl (List.mem_of_getElem? (i := 0) rfl)) all0)).trans K66 (allS (Or.inr (Nat.le_trans (Keep.refl h0 [a1]).1 sb57)) all0))
  have f_76 := ((Fd57.keep K66 (ninS x_68 nin0)).other W72 (Or.inr (slot_ne (Or.inl (oW hw 35 rfl)) (Or.inl (oW hw 48 rfl)) (by decide) (t := .byte) (t' := .int) (by decide) (by decide))))
  have f_77 := ((Fm57.keep K66 (ninS x_68 nin0)).other W72 (Or.inr (slot_ne (Or.inl (oW hw 406 rfl)) (Or.inl (oW hw 48 rfl)) (by decide) (t := .boolean) (t' := .int) (by decide) (by decide))))
  exact rtA pre_73 K X72 e72 hret hlk k_188 (by decide) ⟨rfl, rfl⟩ (hP _ _ _ ⟨rfl, N72, (u_75.wr W72 (Or.inl (List.mem_of_getElem? (i := 0) rfl))), b57, kN57, (Nat.le_trans (Keep.refl h0 [a1]).1 sb57), f_74, f_76, Fw72, f_77, (Vb66.other W72 (Ne.symm x_68))⟩)
theorem rm_bapx140 (hw : Hw a0 Z) (a1 : Addr) (s1 : Addr) (G1 n1 : Int32) (b1 : Addr) (kB : ClassId) (xs : List Int32) (c1 : Int32) (b2 : Addr) (kD : ClassId) (vd : List Value) (c2 : Int32) (D zN : Nat) (l1 : Int32) (w1 : Value) (h0 : Heap) (n0 : Nat) (O0 : Old Z n0 h0) (Ea1 : Exa Z h0 a1 s4_) (g1 : n0 ≤ a1) (Fb1 : Fld Z h0 a1 s1_ "value" "[B" (.ref b2)) (Fb2 : Fld Z h0 a1 s1_ "coder" "B" (.int 1)) (Fb3 : Fld Z h0 a1 s1_ "count" "I" (.int c1)) (Fb4 : Fld Z h0 a1 s1_ s5_ "Z" (.int 0)) (V3 : Arv Z h0 b2 kD .byte (140 : Int32) vd (.int 0)) (g2 : n0 ≤ b2) (E2 : Exa Z h0 s1 s2_) (Fc2 : Fld Z h0 s1 s2_ "coder" "B" (.int 0)) (Fv2 : Fld Z h0 s1 s2_ "value" "[B" (.ref b1)) (V2 : Arv Z h0 b1 kB .byte n1 (xs.map Value.int) (.int 0)) (SC : Sta Z Z.heap s2_ s6_ "Z" (.int G1)) (hG : ¬ G1 = (0 : Int32)) (ne12 : b1 ≠ b2) (hm : (n1 >>> ((0 : Int32) &&& 31)) = n1) (hsum : (c1 + n1) = c2) (ho : c1 = Int32.ofNat D) (hn : n1 = Int32.ofNat xs.length) (hz : (284 : Int32) = Int32.ofNat zN) (hvd : vd.length = 2 * D) (hzz : 2 * (D + xs.length) ≤ zN) (hzk : zN < 1000) (hl : ((284 : Int32) >>> ((1 : Int32) &&& 31)) = l1) (SF : Sta Z Z.heap s8_ s12_ s13_ w1) (hr : w1.isRef = true) (h1 : ¬ ((l1 ||| c1) ||| n1) < (0 : Int32)) (h2 : ¬ (l1 - c1) < n1) (SU1 : Sta Z Z.heap s3_ s9_ "Z" (.int 1)) (SU2 : Sta Z Z.heap s3_ s10_ "I" (.int 0)) (SU3 : Sta Z Z.heap s3_ s11_ "I" (.int 8)) (hc : ((c2 <<< ((1 : Int32) &&& 31)) - (140 : Int32)) < (144 : Int32)) (hp : (0 : Int32) < (c2 - (70 : Int32))) (hle : vd.length ≤ 140) : Met l Z y_15 c_15 2 (some (.object s4_)) (Rm 8 1 284 170) #[(.ref a1), (.ref s1)] h0 (fun v h L => v = some (.ref a1) ∧ Fr n0 L ∧ Keep h0 h [a1] ∧ ∃ b kN, h0.size ≤ b ∧ Fld Z h a1 s1_ "value" "[B" (.ref b) ∧ Fld Z h a1 s1_ "coder" "B" (.int 1) ∧ Fld Z h a1 s1_ "count" "I" (.int c2) ∧ Fld Z h a1 s1_ s5_ "Z" (.int 0) ∧ Arv Z h b kN .byte (284 : Int32) (vd ++ own_inf xs) (.int 0)) := by
  refine own_met (own := s4_) (G := fun m => (mkF m 0 #[vr a1, vr s1] [])) rfl n_15 ?_
  intro p e s m below meth c s₁ E0 P hP K hnm hret hlk hh X0 eH pre0
  obtain ⟨hx, hZ, hown, hby, hml⟩ := id K
  have pre_51 := fun t k => pre0 t <| oA K X0 k_189 rfl rfl rfl <| oA K X0 k_190 rfl rfl rfl <| k
  obtain ⟨T52, _, L52, X52, ⟨rfl, N52q, K52, b52, kN52, sb52, Fv52, Fd52, Fk52, Fm52, Vb52⟩, pre_52⟩ := cU pre_51 K X0 eH (rm_aapx140 l Z a0 hw a1 s1 G1 n1 b1 kB xs c1 b2 kD vd c2 D zN l1 w1 h0 n0 O0 Ea1 g1 Fb1 Fb2 Fb3 Fb4 V3 g2 E2 Fc2 Fv2 V2 SC hG ne12 hm hsum ho hn hz hvd hzz hzk hl SF hr h1 h2 SU1 SU2 SU3 hc hp hle) (oW hw 76 rfl) (oW hw 77 rfl) (oW hw 26 rfl) (oW hw 79 rfl) (oW hw 57 rfl) (oW hw 55 rfl) (oW hw 44 rfl) rfl Ea1 rfl (lenOf d_11 rfl) k_191 rfl rfl rfl (W := 0) (Nat.le_of_eq rfl) (by decide) (by decide)
  have N52 := Fr.app (Fr.nil n0) N52q
  have O52 : Old Z n0 T52.heap := O0.keep K52 (allS g1 all0)
  have pre_53 := fun t k => pre_52 t <| XT.pop X52.here hx rfl (hb hby k_192) rfl rfl <| oA K X52 k_193 rfl rfl rfl <| k
  exact rtA pre_53 K X52 rfl hret hlk k_194 (by decide) ⟨rfl, rfl⟩ (hP _ _ _ ⟨rfl, N52, ((Keep.refl h0 [a1]).trans K52 (allS (Or.inl (List.mem_of_getElem? (i := 0) rfl)) all0)), b52, kN52, (Nat.le_trans (Keep.refl h0 [a1]).1 sb52), Fv52, Fd52, Fk52, Fm52, Vb52⟩)
theorem rm_aapxn (hw : Hw a0 Z) (a1 : Addr) (s1 : Addr) (G1 n1 : Int32) (b1 : Addr) (kB : ClassId) (xs : List Int32) (c1 : Int32) (b2 : Addr) (kD : ClassId) (vd : List Value) (c2 : Int32) (D zN : Nat) (l1 : Int32) (w1 : Value) (z1 : Int32) (h0 : Heap) (n0 : Nat) (O0 : Old Z n0 h0) (Ea1 : Exa Z h0 a1 s4_) (g1 : n0 ≤ a1) (Fb1 : Fld Z h0 a1 s1_ "value" "[B" (.ref b2)) (Fb2 : Fld Z h0 a1 s1_ "coder" "B" (.int 1)) (Fb3 : Fld Z h0 a1 s1_ "count" "I" (.int c1)) (Fb4 : Fld Z h0 a1 s1_ s5_ "Z" (.int 0)) (V3 : Arv Z h0 b2 kD .byte z1 vd (.int 0)) (g2 : n0 ≤ b2) (E2 : Exa Z h0 s1 s2_) (Fc2 : Fld Z h0 s1 s2_ "coder" "B" (.int 0)) (Fv2 : Fld Z h0 s1 s2_ "value" "[B" (.ref b1)) (V2 : Arv Z h0 b1 kB .byte n1 (xs.map Value.int) (.int 0)) (SC : Sta Z Z.heap s2_ s6_ "Z" (.int G1)) (hG : ¬ G1 = (0 : Int32)) (ne12 : b1 ≠ b2) (hm : (n1 >>> ((0 : Int32) &&& 31)) = n1) (hsum : (c1 + n1) = c2) (ho : c1 = Int32.ofNat D) (hn : n1 = Int32.ofNat xs.length) (hz : z1 = Int32.ofNat zN) (hvd : vd.length = 2 * D) (hzz : 2 * (D + xs.length) ≤ zN) (hzk : zN < 1000) (hl : (z1 >>> ((1 : Int32) &&& 31)) = l1) (SF : Sta Z Z.heap s8_ s12_ s13_ w1) (hr : w1.isRef = true) (h1 : ¬ ((l1 ||| c1) ||| n1) < (0 : Int32)) (h2 : ¬ (l1 - c1) < n1) (SU1 : Sta Z Z.heap s3_ s9_ "Z" (.int 1)) (SU2 : Sta Z Z.heap s3_ s10_ "I" (.int 0)) (SU3 : Sta Z Z.heap s3_ s11_ "I" (.int 8)) (hno : ¬ (0 : Int32) < (c2 - (z1 >>> ((1 : Int32) &&& 31)))) : Met l Z y_14 c_14 3 (some (.object s1_)) (Rm 7 0 0 152) #[(.ref a1), (.ref s1)] h0 (fun v h L => v = some (.ref a1) ∧ Fr n0 L ∧ Keep h0 h [a1, b2] ∧ Fld Z h a1 s1_ "value" "[B" (.ref b2) ∧ Fld Z h a1 s1_ "coder" "B" (.int 1) ∧ Fld Z h a1 s1_ "count" "I" (.int c2) ∧ Fld Z h a1 s1_ s5_ "Z" (.int 0) ∧ Arv Z h b2 kD .byte z1 (vd ++ own_inf xs) (.int 0)) := by
  refine own_met (own := s1_) (G := fun m => (mkF m 0 #[vr a1, vr s1, uz] [])) rfl n_14 ?_
  intro p e s m below meth c s₁ E0 P hP K hnm hret hlk hh X0 eH pre0
  obtain ⟨hx, hZ, hown, hby, hml⟩ := id K
  have pre_51 := fun t k => pre0 t <| oA K X0 k_165 rfl rfl rfl <| XT.ifnonnullYes X0.here hx rfl (pc0 := 1) (pc' := 9) rfl (hb hby k_166) rfl (by decide) (by decide) <| oA K X0 k_167 rfl rfl rfl <| k
  obtain ⟨T52, _, L52, X52, ⟨rfl, N52q, e52⟩, pre_52⟩ := cV pre_51 K X0 eH (rm_len0 l Z a0 hw s1 G1 n1 n1 b1 kB (xs.map Value.int) h0 n0 O0 E2 Fc2 Fv2 V2 hm SC hG) (oW hw 80 rfl) (oW hw 82 rfl) (oW hw 1 rfl) (oW hw 84 rfl) (oW hw 81 rfl) (oW hw 83 rfl) (notFace_of_selects (args := #[]) (mvT hZ (oW hw 83 rfl))) E2 rfl (lenOf d_8 rfl) k_168 rfl rfl rfl (W := 0) (Nat.le_of_eq rfl) (by decide)
  have N52 := Fr.app (Fr.nil n0) N52q
  have pre_53 := fun t k => pre_52 t <| XS.istoreN X52.here hx rfl (hb hby k_169) rfl (l' := #[vr a1, vr s1, vi n1]) rfl <| oA K X52 k_170 rfl rfl rfl <| oA K X52 k_171 rfl rfl rfl <| k
  obtain ⟨T54, X54, e54, pre_54⟩ := gF pre_53 K X52 e52 (oW hw 47 rfl) Via.refl Fb3 k_172 rfl rfl
  have pre_55 := fun t k => pre_54 t <| oI K X54 k_173 rfl rfl <| XS.iadd X54.here hx rfl (hb hby k_174) rfl <| k
  have pre_56 : Pr p e below E0 T54 (mkF m 21 #[vr a1, vr s1, vi n1] [(.int (c1 + n1)), (.ref a1)]) := pre_55
  rw [hsum] at pre_56
  obtain ⟨T57, _, L57, X57, ⟨rfl, N57q, e57⟩, pre_57⟩ := cP pre_56 K X54 e54 (rm_ecn1 l Z a0 hw a1 c2 z1 b2 kD vd h0 n0 O0 Fb1 Fb2 V3 hno) (oW hw 54 rfl) (oW hw 55 rfl) (oW hw 26 rfl) (oW hw 58 rfl) (oW hw 56 rfl) (oW hw 57 rfl) Ea1 rfl (lenOf d_9 rfl) k_175 rfl rfl rfl (W := 0) (Nat.le_of_eq rfl) (by decide)
  have N57 := Fr.app N52 N57q
  have pre_58 := fun t k => pre_57 t <| oA K X57 k_176 rfl rfl rfl <| oA K X57 k_177 rfl rfl rfl <| k
  obtain ⟨T59, X59, e59, pre_59⟩ := gF pre_58 K X57 e57 (oW hw 47 rfl) Via.refl Fb3 k_178 rfl rfl
  have pre_60 := fun t k => pre_59 t <| oA K X59 k_179 rfl rfl rfl <| k
  obtain ⟨T61, _, L61, X61, ⟨rfl, N61q, K61, Vb61⟩, pre_61⟩ := cP pre_60 K X59 e59 (rm_psx l Z a0 hw a1 c1 s1 G1 n1 b1 kB xs z1 b2 kD vd D zN l1 w1 h0 n0 O0 Ea1 g1 Fb1 Fb2 V3 g2 E2 Fc2 Fv2 V2 SC hG ne12 ho hn hz hvd hzz hzk hl SF hr h1 h2 SU1 SU2 SU3) (oW hw 119 rfl) (oW hw 120 rfl) (oW hw 26 rfl) (oW hw 123 rfl) (oW hw 121 rfl) (oW hw 122 rfl) Ea1 rfl (lenOf d_10 rfl) k_180 rfl rfl rfl (W := 0) (Nat.le_of_eq rfl) (by decide)
  have N61 := Fr.app N57 N61q
  have O61 : Old Z n0 T61.heap := O0.keep K61 (allS g2 all0)
  have pre_62 := fun t k => pre_61 t <| oA K X61 k_181 rfl rfl rfl <| XS.dup X61.here hx rfl (hb hby k_182) rfl rfl <| k
  have x_63 := ((Exa.neArv (Ea1.keep K61) Vb61 (oW hw 17 rfl)))
  obtain ⟨T64, X64, e64, pre_64⟩ := gF pre_62 K X61 rfl (oW hw 47 rfl) Via.refl (Fb3.keep K61 (ninS x_63 nin0)) k_183 rfl rfl
  have pre_65 := fun t k => pre_64 t <| oI K X64 k_184 rfl rfl <| XS.iadd X64.here hx rfl (hb hby k_185) rfl <| k
  have pre_66 : Pr p e below E0 T64 (mkF m 40 #[vr a1, vr s1, vi n1] [(.int (c1 + n1)), (.ref a1)]) := pre_65
  rw [hsum] at pre_66
  obtain ⟨T67, h67, X67, e67, W67, Fw67, pre_67⟩ := pF pre_66 K X64 e64 .int (oW hw 47 rfl) (Fb3.keep K61 (ninS x_63 nin0)) (Ea1.keep K61) (Or.inl (oW hw 48 rfl)) (oW hw 17 rfl) k_186 rfl rfl (by decide) rfl rfl
  have N67 := Fr.snoc X67 N61 g1
  have O67 := O61.wr W67 g1
  have pre_68 := fun t k => pre_67 t <| oA K X67 k_187 rfl rfl rfl <| k
  have f_69 := ((Fb1.keep K61 (ninS x_63 nin0)).other W67 (Or.inr (slot_ne (Or.inl (oW hw 33 rfl)) (Or.inl (oW hw 48 rfl)) (by decide) (t := (.array .byte)) (t' := .int) (by decide) (by decide))))
  have u_70 := ((Keep.refl h0 [a1, b2]).trans K61 (allS (Or.inl (List.mem_of_getElem? (i := 1) rfl)) all0))
  have f_71 := ((Fb2.keep K61 (ninS x_63 nin0)).other W67 (Or.inr (slot_ne (Or.inl (oW hw 35 rfl)) (Or.inl (oW hw 48 rfl)) (by decide) (t := .byte) (t' := .int) (by decide) (by decide))))
  have f_72 := ((Fb4.keep K61 (ninS x_63 nin0)).other W67 (Or.inr (slot_ne (Or.inl (oW hw 406 rfl)) (Or.inl (oW hw 48 rfl)) (by decide) (t := .boolean) (t' := .int) (by decide) (by decide))))
  exact rtA pre_68 K X67 e67 hret hlk k_188 (by decide) ⟨rfl, rfl⟩ (hP _ _ _ ⟨rfl, N67, (u_70.wr W67 (Or.inl (List.mem_of_getElem? (i := 0) rfl))), f_69, f_71, Fw67, f_72, (Vb61.other W67 (Ne.symm x_63))⟩)
theorem rm_bapxn (hw : Hw a0 Z) (a1 : Addr) (s1 : Addr) (G1 n1 : Int32) (b1 : Addr) (kB : ClassId) (xs : List Int32) (c1 : Int32) (b2 : Addr) (kD : ClassId) (vd : List Value) (c2 : Int32) (D zN : Nat) (l1 : Int32) (w1 : Value) (z1 : Int32) (h0 : Heap) (n0 : Nat) (O0 : Old Z n0 h0) (Ea1 : Exa Z h0 a1 s4_) (g1 : n0 ≤ a1) (Fb1 : Fld Z h0 a1 s1_ "value" "[B" (.ref b2)) (Fb2 : Fld Z h0 a1 s1_ "coder" "B" (.int 1)) (Fb3 : Fld Z h0 a1 s1_ "count" "I" (.int c1)) (Fb4 : Fld Z h0 a1 s1_ s5_ "Z" (.int 0)) (V3 : Arv Z h0 b2 kD .byte z1 vd (.int 0)) (g2 : n0 ≤ b2) (E2 : Exa Z h0 s1 s2_) (Fc2 : Fld Z h0 s1 s2_ "coder" "B" (.int 0)) (Fv2 : Fld Z h0 s1 s2_ "value" "[B" (.ref b1)) (V2 : Arv Z h0 b1 kB .byte n1 (xs.map Value.int) (.int 0)) (SC : Sta Z Z.heap s2_ s6_ "Z" (.int G1)) (hG : ¬ G1 = (0 : Int32)) (ne12 : b1 ≠ b2) (hm : (n1 >>> ((0 : Int32) &&& 31)) = n1) (hsum : (c1 + n1) = c2) (ho : c1 = Int32.ofNat D) (hn : n1 = Int32.ofNat xs.length) (hz : z1 = Int32.ofNat zN) (hvd : vd.length = 2 * D) (hzz : 2 * (D + xs.length) ≤ zN) (hzk : zN < 1000) (hl : (z1 >>> ((1 : Int32) &&& 31)) = l1) (SF : Sta Z Z.heap s8_ s12_ s13_ w1) (hr : w1.isRef = true) (h1 : ¬ ((l1 ||| c1) ||| n1) < (0 : Int32)) (h2 : ¬ (l1 - c1) < n1) (SU1 : Sta Z Z.heap s3_ s9_ "Z" (.int 1)) (SU2 : Sta Z Z.heap s3_ s10_ "I" (.int 0)) (SU3 : Sta Z Z.heap s3_ s11_ "I" (.int 8)) (hno : ¬ (0 : Int32) < (c2 - (z1 >>> ((1 : Int32) &&& 31)))) : Met l Z y_15 c_15 2 (some (.object s4_)) (Rm 8 0 0 170) #[(.ref a1), (.ref s1)] h0 (fun v h L => v = some (.ref a1) ∧ Fr n0 L ∧ Keep h0 h [a1, b2] ∧ Fld Z h a1 s1_ "value" "[B" (.ref b2) ∧ Fld Z h a1 s1_ "coder" "B" (.int 1) ∧ Fld Z h a1 s1_ "count" "I" (.int c2) ∧ Fld Z h a1 s1_ s5_ "Z" (.int 0) ∧ Arv Z h b2 kD .byte z1 (vd ++ own_inf xs) (.int 0)) := by
  refine own_met (own := s4_) (G := fun m => (mkF m 0 #[vr a1, vr s1] [])) rfl n_15 ?_
  intro p e s m below meth c s₁ E0 P hP K hnm hret hlk hh X0 eH pre0
  obtain ⟨hx, hZ, hown, hby, hml⟩ := id K
  have pre_51 := fun t k => pre0 t <| oA K X0 k_189 rfl rfl rfl <| oA K X0 k_190 rfl rfl rfl <| k
  obtain ⟨T52, _, L52, X52, ⟨rfl, N52q, K52, Fv52, Fd52, Fk52, Fm52, Vb52⟩, pre_52⟩ := cU pre_51 K X0 eH (rm_aapxn l Z a0 hw a1 s1 G1 n1 b1 kB xs c1 b2 kD vd c2 D zN l1 w1 z1 h0 n0 O0 Ea1 g1 Fb1 Fb2 Fb3 Fb4 V3 g2 E2 Fc2 Fv2 V2 SC hG ne12 hm hsum ho hn hz hvd hzz hzk hl SF hr h1 h2 SU1 SU2 SU3 hno) (oW hw 76 rfl) (oW hw 77 rfl) (oW hw 26 rfl) (oW hw 79 rfl) (oW hw 57 rfl) (oW hw 55 rfl) (oW hw 44 rfl) rfl Ea1 rfl (lenOf d_11 rfl) k_191 rfl rfl rfl (W := 0) (Nat.le_of_eq rfl) (by decide) (by decide)
  have N52 := Fr.app (Fr.nil n0) N52q
  have O52 : Old Z n0 T52.heap := O0.keep K52 (allS g1 (allS g2 all0))
  have pre_53 := fun t k => pre_52 t <| XT.pop X52.here hx rfl (hb hby k_192) rfl rfl <| oA K X52 k_193 rfl rfl rfl <| k
  have u_54 := ((Keep.refl h0 [a1, b2]).trans K52 (allS (Or.inl (List.mem_of_getElem? (i := 0) rfl)) (allS (Or.inl (List.mem_of_getElem? (i := 1) rfl)) all0)))
  exact rtA pre_53 K X52 rfl hret hlk k_194 (by decide) ⟨rfl, rfl⟩ (hP _ _ _ ⟨rfl, N52, u_54, Fv52, Fd52, Fk52, Fm52, Vb52⟩)
theorem rm_iss (hw : Hw a0 Z) (p1 : Int32)  (h0 : Heap) (n0 : Nat) (O0 : Old Z n0 h0) (hd : p1 = (1 : Int32) ∨ p1 = (2 : Int32)) : Met l Z y_37 c_37 4 (some .int) (Rm 0 0 0 0) #[(.int p1)] h0 (fun v h L => v = some (.int 1) ∧ Fr n0 L ∧ h = h0) := by
  refine own_met (own := s14_) (G := fun m => (mkF m 0 #[vi p1, uz, uz, uz] [])) rfl n_37 ?_
  intro p e s m below meth c s₁ E0 P hP K hnm hret hlk hh X0 eH pre0
  obtain ⟨hx, hZ, hown, hby, hml⟩ := id K
  have pre_51 : Pr p e below E0 s₁ (mkF m 30 #[vi (-p1), vi 0, vi (-10), vi 1] [(.int 1)]) := fun t k => pre0 t <| XS.iconst X0.here hx rfl (hb hby k_438) <| XS.istoreN X0.here hx rfl (hb hby k_439) rfl (l' := #[vi p1, vi 1, uz, uz]) rfl <| oI K X0 k_440 rfl rfl <| XS.ifNo X0.here hx rfl (hb hby k_441) rfl (XT.i0_lt_f (own_d12 hd).1) <| XS.iconst X0.here hx rfl (hb hby k_442) <| XS.istoreN X0.here hx rfl (hb hby k_443) rfl (l' := #[vi p1, vi 0, uz, uz]) rfl <| oI K X0 k_444 rfl rfl <| XS.ineg X0.here hx rfl (hb hby k_445) rfl <| XS.istoreN X0.here hx rfl (hb hby k_446) rfl (l' := #[vi (-p1), vi 0, uz, uz]) rfl <| XS.bipush X0.here hx rfl (hb hby k_447) <| XS.istoreN X0.here hx rfl (hb hby k_448) rfl (l' := #[vi (-p1), vi 0, vi (-10), uz]) rfl <| XS.iconst X0.here hx rfl (hb hby k_449) <| XS.istoreN X0.here hx rfl (hb hby k_450) rfl (l' := #[vi (-p1), vi 0, vi (-10), vi 1]) rfl <| oI K X0 k_451 rfl rfl <| XS.bipush X0.here hx rfl (hb hby k_452) <| XS.icmpNo X0.here hx rfl (hb hby k_453) rfl (XT.ii_ge_f (by decide)) <| oI K X0 k_454 rfl rfl <| oI K X0 k_455 rfl rfl <| XS.icmpNo X0.here hx rfl (hb hby k_456) rfl (XT.ii_le_f (own_d12 hd).2.1) <| oI K X0 k_457 rfl rfl <| oI K X0 k_458 rfl rfl <| XS.iadd X0.here hx rfl (hb hby k_459) rfl <| k
  exact rtI pre_51 K X0 eH hret hlk k_460 (by decide) (hP _ _ _ ⟨rfl, (Fr.nil n0), rfl⟩)
theorem rm_igc (hw : Hw a0 Z) (p1 : Int32) (a3 : Addr) (aO : Addr) (kO : ClassId) (kD : ClassId) (vd : List Value) (h0 : Heap) (n0 : Nat) (O0 : Old Z n0 h0) (hd : p1 = (1 : Int32) ∨ p1 = (2 : Int32)) (SD1 : Sta Z Z.heap s14_ "DigitOnes" "[B" (.ref aO)) (VO : Arv Z Z.heap aO kO .byte (100 : Int32) own_ones (.int 0)) (V3 : Arv Z h0 a3 kD .byte (70 : Int32) vd (.int 0)) (g3 : n0 ≤ a3) (hvl : (65 : Int32).toNatClampNeg = vd.length) : Met l Z y_38 c_38 7 (some .int) (Rm 0 0 0 0) #[(.int p1), (.int 66), (.ref a3)] h0 (fun v h L => v = some (.int 65) ∧ Fr n0 L ∧ Keep h0 h [a3] ∧ Arv Z h a3 kD .byte (70 : Int32) (vd ++ [(.int (own_o p1))]) (.int 0)) := by
  refine own_met (own := s14_) (G := fun m => (mkF m 0 #[vi p1, vi 66, vr a3, uz, uz, uz, uz] [])) rfl n_38 ?_
  intro p e s m below meth c s₁ E0 P hP K hnm hret hlk hh X0 eH pre0
  obtain ⟨hx, hZ, hown, hby, hml⟩ := id K
  have pre_51 : Pr p e below E0 s₁ (mkF m 78 #[vi (-p1), vi 66, vr a3, uz, uz, vi 65, vi 0] [(.int 65), (.ref a3)]) := fun t k => pre0 t <| oI K X0 k_461 rfl rfl <| XS.istore X0.here hx rfl (hb hby k_462) rfl (l' := #[vi p1, vi 66, vr a3, uz, uz, vi 66, uz]) rfl <| oI K X0 k_463 rfl rfl <| XS.ifYes X0.here hx rfl (pc0 := 4) (pc' := 11) rfl (hb hby k_464) rfl (XT.i0_ge_t (own_d12 hd).1) (by decide) (by decide) <| XS.iconst X0.here hx rfl (hb hby k_465) <| XS.istore X0.here hx rfl (hb hby k_466) rfl (l' := #[vi p1, vi 66, vr a3, uz, uz, vi 66, vi 0]) rfl <| oJ K X0 k_467 rfl rfl <| XS.ifNo X0.here hx rfl (hb hby k_468) rfl (XT.i0_ne_f (by decide)) <| oI K X0 k_469 rfl rfl <| XS.ineg X0.here hx rfl (hb hby k_470) rfl <| XS.istoreN X0.here hx rfl (hb hby k_471) rfl (l' := #[vi (-p1), vi 66, vr a3, uz, uz, vi 66, vi 0]) rfl <| oI K X0 k_472 rfl rfl <| XS.bipush X0.here hx rfl (hb hby k_473) <| XS.icmpYes X0.here hx rfl (pc0 := 25) (pc' := 72) rfl (hb hby k_474) rfl (XT.ii_gt_t (own_d12 hd).2.2.1) (by decide) (by decide) <| oA K X0 k_475 rfl rfl rfl <| XS.iinc X0.here hx rfl (hb hby k_476) rfl (l' := #[vi (-p1), vi 66, vr a3, uz, uz, vi 65, vi 0]) rfl <| oJ K X0 k_477 rfl rfl <| k
  obtain ⟨T52, X52, e52, pre_52⟩ := gS pre_51 K X0 eH (oW hw 213 rfl) (SD1.ext O0.2) k_478 rfl
  have pre_53 := fun t k => pre_52 t <| oI K X52 k_479 rfl rfl <| XS.ineg X52.here hx rfl (hb hby k_480) rfl <| k
  have pre_54 : Pr p e below E0 T52 (mkF m 83 #[vi (-p1), vi 66, vr a3, uz, uz, vi 65, vi 0] [(.int (-(-p1))), (.ref aO), (.int 65), (.ref a3)]) := pre_53
  rw [(own_d12 hd).2.2.2.2.1] at pre_54
  have pre_55 := fun t k => pre_54 t <| oBa K X52 e52 (VO.ext O0.2) (own_d12 hd).2.2.2.2.2.1 (own_d12g hd _) k_481 rfl rfl <| k
  obtain ⟨cl56, Ar56, q56, S56, M56, H56, G56⟩ := id (Arv.pad V3 (pad_rep vd _ 1))
  obtain ⟨T56, h56, X56, e56, W56, st56⟩ := stB X52 hx hZ e52 Ar56 (j := (65 : Int32)) (inb_of S56 (by decide)) (g := (mkF m 84 #[vi (-p1), vi 66, vr a3, uz, uz, vi 65, vi 0] [(.int (own_o p1)), (.int 65), (.ref a3)])) rfl rfl (hb hby k_482)
  have N56 := Fr.snoc X56 (Fr.nil n0) g3
  have O56 : Old Z n0 h56 := O0.wr W56 g3
  rw [(own_d12 hd).2.2.2.2.2.2] at W56
  have V56 : Arv Z h56 a3 kD .byte (70 : Int32) (vd ++ [(.int (own_o p1))]) (.int 0) := by
    have r := Arv.set Ar56 q56 S56 M56 H56 G56 (by rw [← (own_d12 hd).2.2.2.2.2.2]; exact fits_nar_byte _) W56 (List.length vd) hvl (by simp)
    rw [own_set] at r; exact r
  have pre_57 : Pr p e below E0 T56 (mkF m 85 #[vi (-p1), vi 66, vr a3, uz, uz, vi 65, vi 0] []) := fun t k => pre_55 t (st56 t k)
  have pre_58 := fun t k => pre_57 t <| oI K X56 k_483 rfl rfl <| XS.bipush X56.here hx rfl (hb hby k_484) <| XS.icmpYes X56.here hx rfl (pc0 := 88) (pc' := 104) rfl (hb hby k_485) rfl (XT.ii_ge_t (own_d12 hd).2.2.2.1) (by decide) (by decide) <| oJ K X56 k_486 rfl rfl <| XS.ifYes X56.here hx rfl (pc0 := 106) (pc' := 118) rfl (hb hby k_487) rfl (XT.i0_eq_t (by decide)) (by decide) (by decide) <| oJ K X56 k_488 rfl rfl <| k
  have pre_59 : Pr p e below E0 T56 (mkF m 120 #[vi (-p1), vi 66, vr a3, uz, uz, vi 65, vi 0] [(.int 65)]) := pre_58
  exact rtI pre_59 K X56 e56 hret hlk k_489 (by decide) (hP _ _ _ ⟨rfl, N56, ((Keep.refl h0 [a3]).wr W56 (Or.inl (List.mem_of_getElem? (i := 0) rfl))), V56⟩)
theorem rm_ugc (hw : Hw a0 Z) (p1 : Int32) (a3 : Addr) (aO : Addr) (kO : ClassId) (kD : ClassId) (vd : List Value) (h0 : Heap) (n0 : Nat) (O0 : Old Z n0 h0) (hd : p1 = (1 : Int32) ∨ p1 = (2 : Int32)) (SD1 : Sta Z Z.heap s14_ "DigitOnes" "[B" (.ref aO)) (VO : Arv Z Z.heap aO kO .byte (100 : Int32) own_ones (.int 0)) (V3 : Arv Z h0 a3 kD .byte (140 : Int32) vd (.int 0)) (g3 : n0 ≤ a3) (hvl : (130 : Int32).toNatClampNeg = vd.length) (SU1 : Sta Z Z.heap s3_ s9_ "Z" (.int 1)) (SU2 : Sta Z Z.heap s3_ s10_ "I" (.int 0)) (SU3 : Sta Z Z.heap s3_ s11_ "I" (.int 8)) : Met l Z y_39 c_39 7 (some .int) (Rm 1 0 0 20) #[(.int p1), (.int 66), (.ref a3)] h0 (fun v h L => v = some (.int 65) ∧ Fr n0 L ∧ Keep h0 h [a3] ∧ Arv Z h a3 kD .byte (140 : Int32) (vd ++ [(.int (own_lo (own_o p1))), (.int (own_hi (own_o p1)))]) (.int 0)) := by
  refine own_met (own := s3_) (G := fun m => (mkF m 0 #[vi p1, vi 66, vr a3, uz, uz, uz, uz] [])) rfl n_39 ?_
  intro p e s m below meth c s₁ E0 P hP K hnm hret hlk hh X0 eH pre0
  obtain ⟨hx, hZ, hown, hby, hml⟩ := id K
  have pre_51 : Pr p e below E0 s₁ (mkF m 82 #[vi (-p1), vi 66, vr a3, uz, uz, vi 65, vi 0] [(.int 65), (.ref a3)]) := fun t k => pre0 t <| oI K X0 k_490 rfl rfl <| XS.istore X0.here hx rfl (hb hby k_491) rfl (l' := #[vi p1, vi 66, vr a3, uz, uz, vi 66, uz]) rfl <| oI K X0 k_492 rfl rfl <| XS.ifYes X0.here hx rfl (pc0 := 4) (pc' := 11) rfl (hb hby k_493) rfl (XT.i0_ge_t (own_d12 hd).1) (by decide) (by decide) <| XS.iconst X0.here hx rfl (hb hby k_494) <| XS.istore X0.here hx rfl (hb hby k_495) rfl (l' := #[vi p1, vi 66, vr a3, uz, uz, vi 66, vi 0]) rfl <| oJ K X0 k_496 rfl rfl <| XS.ifNo X0.here hx rfl (hb hby k_497) rfl (XT.i0_ne_f (by decide)) <| oI K X0 k_498 rfl rfl <| XS.ineg X0.here hx rfl (hb hby k_499) rfl <| XS.istoreN X0.here hx rfl (hb hby k_500) rfl (l' := #[vi (-p1), vi 66, vr a3, uz, uz, vi 66, vi 0]) rfl <| oI K X0 k_501 rfl rfl <| XS.bipush X0.here hx rfl (hb hby k_502) <| XS.icmpYes X0.here hx rfl (pc0 := 25) (pc' := 76) rfl (hb hby k_503) rfl (XT.ii_gt_t (own_d12 hd).2.2.1) (by decide) (by decide) <| oA K X0 k_504 rfl rfl rfl <| XS.iinc X0.here hx rfl (hb hby k_505) rfl (l' := #[vi (-p1), vi 66, vr a3, uz, uz, vi 65, vi 0]) rfl <| oJ K X0 k_506 rfl rfl <| k
  obtain ⟨T52, X52, e52, pre_52⟩ := gS pre_51 K X0 eH (oW hw 404 rfl) (SD1.ext O0.2) k_507 rfl
  have pre_53 := fun t k => pre_52 t <| oI K X52 k_508 rfl rfl <| XS.ineg X52.here hx rfl (hb hby k_509) rfl <| k
  have pre_54 : Pr p e below E0 T52 (mkF m 87 #[vi (-p1), vi 66, vr a3, uz, uz, vi 65, vi 0] [(.int (-(-p1))), (.ref aO), (.int 65), (.ref a3)]) := pre_53
  rw [(own_d12 hd).2.2.2.2.1] at pre_54
  have pre_55 := fun t k => pre_54 t <| oBa K X52 e52 (VO.ext O0.2) (own_d12 hd).2.2.2.2.2.1 (own_d12g hd _) k_510 rfl rfl <| k
  obtain ⟨T56, _, L56, X56, ⟨rfl, N56q, K56, Vb56⟩, pre_56⟩ := cS pre_55 K X52 e52 (rm_put l Z a0 hw a3 (65 : Int32) (own_o p1) (130 : Int32) (140 : Int32) kD vd h0 n0 O0 V3 g3 (by decide) (by decide) (by decide) hvl (by rw [← hvl]; rfl) SU1 SU2 SU3) (oW hw 315 rfl) (oW hw 316 rfl) (oW hw 297 rfl) (oW hw 317 rfl) rfl (lenOf d_21 rfl) k_511 rfl rfl rfl (W := 0) (Nat.le_of_eq rfl) (by decide)
  have N56 := Fr.app (Fr.nil n0) N56q
  have O56 : Old Z n0 T56.heap := O0.keep K56 (allS g3 all0)
  have pre_57 := fun t k => pre_56 t <| oI K X56 k_512 rfl rfl <| XS.bipush X56.here hx rfl (hb hby k_513) <| XS.icmpYes X56.here hx rfl (pc0 := 94) (pc' := 112) rfl (hb hby k_514) rfl (XT.ii_ge_t (own_d12 hd).2.2.2.1) (by decide) (by decide) <| oJ K X56 k_515 rfl rfl <| XS.ifYes X56.here hx rfl (pc0 := 114) (pc' := 128) rfl (hb hby k_516) rfl (XT.i0_eq_t (by decide)) (by decide) (by decide) <| oJ K X56 k_517 rfl rfl <| k
  have pre_58 : Pr p e below E0 T56 (mkF m 130 #[vi (-p1), vi 66, vr a3, uz, uz, vi 65, vi 0] [(.int 65)]) := pre_57
  exact rtI pre_58 K X56 rfl hret hlk k_518 (by decide) (hP _ _ _ ⟨rfl, N56, ((Keep.refl h0 [a3]).trans K56 (allS (Or.inl (List.mem_of_getElem? (i := 0) rfl)) all0)), Vb56⟩)
theorem rm_cft (hw : Hw a0 Z) (x1 : Int32) (x2 : Int32) (x3 : Int32) (w1 : Value)  (h0 : Heap) (n0 : Nat) (O0 : Old Z n0 h0) (hr : w1.isRef = true) (hb1 : ¬ x1 < (0 : Int32)) (hb2 : ¬ x2 < x1) (hb3 : ¬ x3 < x2) : Met l Z y_40 c_40 4 (some .int) (Rm 0 0 0 0) #[(.int x1), (.int x2), (.int x3), w1] h0 (fun v h L => v = some (.int x1) ∧ Fr n0 L ∧ h = h0) := by
  refine own_met (own := s8_) (G := fun m => (mkF m 0 #[vi x1, vi x2, vi x3, .val w1] [])) rfl n_40 (ef := fun m => by rcases ref_cases hr with rfl | ⟨z, rfl⟩ <;> first | (simp [entryFrame, mkF, argsToLocals, Value.category]; done) | rfl) ?_
  intro p e s m below meth c s₁ E0 P hP K hnm hret hlk hh X0 eH pre0
  obtain ⟨hx, hZ, hown, hby, hml⟩ := id K
  have pre_51 := fun t k => pre0 t <| oI K X0 k_519 rfl rfl <| XS.ifNo X0.here hx rfl (hb hby k_520) rfl (XT.i0_lt_f hb1) <| oI K X0 k_521 rfl rfl <| oI K X0 k_522 rfl rfl <| XS.icmpNo X0.here hx rfl (hb hby k_523) rfl (XT.ii_gt_f hb2) <| oI K X0 k_524 rfl rfl <| oI K X0 k_525 rfl rfl <| XS.icmpYes X0.here hx rfl (pc0 := 11) (pc' := 22) rfl (hb hby k_526) rfl (XT.ii_le_t hb3) (by decide) (by decide) <| oI K X0 k_527 rfl rfl <| k
  have pre_52 : Pr p e below E0 s₁ (mkF m 23 #[vi x1, vi x2, vi x3, .val w1] [(.int x1)]) := pre_51
  exact rtI pre_52 K X0 eH hret hlk k_528 (by decide) (hP _ _ _ ⟨rfl, (Fr.nil n0), rfl⟩)
theorem rm_sbb (hw : Hw a0 Z) (x1 : Int32) (x2 : Int32) (x3 : Int32) (w1 : Value) (h0 : Heap) (n0 : Nat) (O0 : Old Z n0 h0) (SF : Sta Z Z.heap s8_ s12_ s13_ w1) (hr : w1.isRef = true) (hb1 : ¬ x1 < (0 : Int32)) (hb2 : ¬ x2 < x1) (hb3 : ¬ x3 < x2) : Met l Z y_41 c_41 3 none (Rm 1 0 0 16) #[(.int x1), (.int x2), (.int x3)] h0 (fun v h L => v = none ∧ Fr n0 L ∧ h = h0) := by
  refine own_met (own := s2_) (G := fun m => (mkF m 0 #[vi x1, vi x2, vi x3] [])) rfl n_41 ?_
  intro p e s m below meth c s₁ E0 P hP K hnm hret hlk hh X0 eH pre0
  obtain ⟨hx, hZ, hown, hby, hml⟩ := id K
  have pre_51 := fun t k => pre0 t <| oI K X0 k_529 rfl rfl <| oI K X0 k_530 rfl rfl <| oI K X0 k_531 rfl rfl <| k
  obtain ⟨T52, X52, e52, pre_52⟩ := gS pre_51 K X0 eH (oW hw 353 rfl) (SF.ext O0.2) k_532 rfl
  obtain ⟨T53, _, L53, X53, ⟨rfl, N53q, e53⟩, pre_53⟩ := cS pre_52 K X52 e52 (rm_cft l Z a0 hw x1 x2 x3 w1 h0 n0 O0 hr hb1 hb2 hb3) (oW hw 400 rfl) (oW hw 190 rfl) (oW hw 191 rfl) (oW hw 192 rfl) rfl (lenOf d_18 rfl) k_533 rfl rfl rfl (W := 0) (Nat.le_of_eq rfl) (by decide)
  have N53 := Fr.app (Fr.nil n0) N53q
  have pre_54 := fun t k => pre_53 t <| XT.pop X53.here hx rfl (hb hby k_534) rfl rfl <| k
  exact rtV pre_54 K X53 e53 hret hlk k_535 (by decide) (hP _ _ _ ⟨rfl, N53, rfl⟩)
theorem rm_oft (hw : Hw a0 Z) (x1 : Int32) (x2 : Int32) (x3 : Int32)  (h0 : Heap) (n0 : Nat) (O0 : Old Z n0 h0) (hb1 : ¬ x1 < (0 : Int32)) (hb2 : ¬ x2 < x1) (hb3 : ¬ x3 < x2) : Met l Z y_42 c_42 3 (some .int) (Rm 1 0 0 16) #[(.int x1), (.int x2), (.int x3)] h0 (fun v h L => v = some (.int x1) ∧ Fr n0 L ∧ h = h0) := by
  refine own_met (own := "java/util/Objects") (G := fun m => (mkF m 0 #[vi x1, vi x2, vi x3] [])) rfl n_42 ?_
  intro p e s m below meth c s₁ E0 P hP K hnm hret hlk hh X0 eH pre0
  obtain ⟨hx, hZ, hown, hby, hml⟩ := id K
  have pre_51 := fun t k => pre0 t <| oI K X0 k_536 rfl rfl <| oI K X0 k_537 rfl rfl <| oI K X0 k_538 rfl rfl <| XS.aconstNull X0.here hx rfl (hb hby k_539) <| k
  obtain ⟨T52, _, L52, X52, ⟨rfl, N52q, e52⟩, pre_52⟩ := cS pre_51 K X0 eH (rm_cft l Z a0 hw x1 x2 x3 .null h0 n0 O0 rfl hb1 hb2 hb3) (oW hw 189 rfl) (oW hw 190 rfl) (oW hw 191 rfl) (oW hw 192 rfl) rfl (lenOf d_18 rfl) k_540 rfl rfl rfl (W := 0) (Nat.le_of_eq rfl) (by decide)
  have N52 := Fr.app (Fr.nil n0) N52q
  have pre_53 : Pr p e below E0 T52 (mkF m 7 #[vi x1, vi x2, vi x3] [(.int x1)]) := pre_52
  exact rtI pre_53 K X52 e52 hret hlk k_541 (by decide) (hP _ _ _ ⟨rfl, N52, rfl⟩)
theorem rm_ucb (hw : Hw a0 Z) (a3 : Addr) (kD : ClassId) (vd : List Value) (w1 : Value) (h0 : Heap) (n0 : Nat) (O0 : Old Z n0 h0) (V3 : Arv Z h0 a3 kD .byte (140 : Int32) vd (.int 0)) (SF : Sta Z Z.heap s8_ s12_ s13_ w1) (hr : w1.isRef = true) : Met l Z y_43 c_43 3 none (Rm 2 0 0 34) #[(.int 65), (.int 66), (.ref a3)] h0 (fun v h L => v = none ∧ Fr n0 L ∧ h = h0) := by
  refine own_met (own := s3_) (G := fun m => (mkF m 0 #[vi 65, vi 66, vr a3] [])) rfl n_43 ?_
  intro p e s m below meth c s₁ E0 P hP K hnm hret hlk hh X0 eH pre0
  obtain ⟨hx, hZ, hown, hby, hml⟩ := id K
  have pre_51 := fun t k => pre0 t <| oI K X0 k_542 rfl rfl <| oI K X0 k_543 rfl rfl <| oA K X0 k_544 rfl rfl rfl <| k
  obtain ⟨T52, _, L52, X52, ⟨rfl, N52q, e52⟩, pre_52⟩ := cS pre_51 K X0 eH (rm_uln l Z a0 hw a3 (140 : Int32) (70 : Int32) kD vd h0 n0 O0 V3 (by decide)) (oW hw 381 rfl) (oW hw 382 rfl) (oW hw 297 rfl) (oW hw 383 rfl) rfl (lenOf d_19 rfl) k_545 rfl rfl rfl (W := 2) (Nat.le_of_eq rfl) (by decide)
  have N52 := Fr.app (Fr.nil n0) N52q
  obtain ⟨T53, _, L53, X53, ⟨rfl, N53q, e53⟩, pre_53⟩ := cS pre_52 K X52 e52 (rm_sbb l Z a0 hw (65 : Int32) (66 : Int32) (70 : Int32) w1 h0 n0 O0 SF hr (by decide) (by decide) (by decide)) (oW hw 397 rfl) (oW hw 398 rfl) (oW hw 1 rfl) (oW hw 399 rfl) rfl (lenOf d_25 rfl) k_546 rfl rfl rfl (W := 0) (Nat.le_of_eq rfl) (by decide)
  have N53 := Fr.app N52 N53q
  exact rtV pre_53 K X53 e53 hret hlk k_547 (by decide) (hP _ _ _ ⟨rfl, N53, rfl⟩)
theorem rm_ugd (hw : Hw a0 Z) (p1 : Int32) (a3 : Addr) (aO : Addr) (kO : ClassId) (kD : ClassId) (vd : List Value) (w1 : Value) (h0 : Heap) (n0 : Nat) (O0 : Old Z n0 h0) (hd : p1 = (1 : Int32) ∨ p1 = (2 : Int32)) (SD1 : Sta Z Z.heap s14_ "DigitOnes" "[B" (.ref aO)) (VO : Arv Z Z.heap aO kO .byte (100 : Int32) own_ones (.int 0)) (V3 : Arv Z h0 a3 kD .byte (140 : Int32) vd (.int 0)) (g3 : n0 ≤ a3) (hvl : (130 : Int32).toNatClampNeg = vd.length) (SU1 : Sta Z Z.heap s3_ s9_ "Z" (.int 1)) (SU2 : Sta Z Z.heap s3_ s10_ "I" (.int 0)) (SU3 : Sta Z Z.heap s3_ s11_ "I" (.int 8)) (SF : Sta Z Z.heap s8_ s12_ s13_ w1) (hr : w1.isRef = true) : Met l Z y_44 c_44 5 (some .int) (Rm 3 0 0 50) #[(.int p1), (.int 65), (.int 66), (.ref a3)] h0 (fun v h L => v = some (.int 65) ∧ Fr n0 L ∧ Keep h0 h [a3] ∧ Arv Z h a3 kD .byte (140 : Int32) (vd ++ [(.int (own_lo (own_o p1))), (.int (own_hi (own_o p1)))]) (.int 0)) := by
  refine own_met (own := s3_) (G := fun m => (mkF m 0 #[vi p1, vi 65, vi 66, vr a3, uz] [])) rfl n_44 ?_
  intro p e s m below meth c s₁ E0 P hP K hnm hret hlk hh X0 eH pre0
  obtain ⟨hx, hZ, hown, hby, hml⟩ := id K
  have pre_51 := fun t k => pre0 t <| oI K X0 k_548 rfl rfl <| oI K X0 k_549 rfl rfl <| oA K X0 k_550 rfl rfl rfl <| k
  obtain ⟨T52, _, L52, X52, ⟨rfl, N52q, e52⟩, pre_52⟩ := cS pre_51 K X0 eH (rm_ucb l Z a0 hw a3 kD vd w1 h0 n0 O0 V3 SF hr) (oW hw 394 rfl) (oW hw 395 rfl) (oW hw 297 rfl) (oW hw 396 rfl) rfl (lenOf d_20 rfl) k_551 rfl rfl rfl (W := 0) (Nat.le_of_eq rfl) (by decide)
  have N52 := Fr.app (Fr.nil n0) N52q
  have pre_53 := fun t k => pre_52 t <| oI K X52 k_552 rfl rfl <| oI K X52 k_553 rfl rfl <| oA K X52 k_554 rfl rfl rfl <| k
  obtain ⟨T54, _, L54, X54, ⟨rfl, N54q, K54, Vb54⟩, pre_54⟩ := cS pre_53 K X52 e52 (rm_ugc l Z a0 hw p1 a3 aO kO kD vd h0 n0 O0 hd SD1 VO V3 g3 hvl SU1 SU2 SU3) (oW hw 401 rfl) (oW hw 402 rfl) (oW hw 297 rfl) (oW hw 403 rfl) rfl (lenOf d_26 rfl) k_555 rfl rfl rfl (W := 0) (Nat.le_of_eq rfl) (by decide)
  have N54 := Fr.app N52 N54q
  have O54 : Old Z n0 T54.heap := O0.keep K54 (allS g3 all0)
  have pre_55 := fun t k => pre_54 t <| XS.istore X54.here hx rfl (hb hby k_556) rfl (l' := #[vi p1, vi 65, vi 66, vr a3, vi 65]) rfl <| k
  obtain ⟨T56, X56, e56, pre_56⟩ := gS pre_55 K X54 rfl (oW hw 318 rfl) (SU1.ext O54.2) k_557 rfl
  have pre_57 := fun t k => pre_56 t <| XS.ifYes X56.here hx rfl (pc0 := 17) (pc' := 34) rfl (hb hby k_558) rfl (XT.i0_ne_t (by decide)) (by decide) (by decide) <| oJ K X56 k_559 rfl rfl <| k
  have pre_58 : Pr p e below E0 T56 (mkF m 36 #[vi p1, vi 65, vi 66, vr a3, vi 65] [(.int 65)]) := pre_57
  exact rtI pre_58 K X56 e56 hret hlk k_560 (by decide) (hP _ _ _ ⟨rfl, N54, ((Keep.refl h0 [a3]).trans K54 (allS (Or.inl (List.mem_of_getElem? (i := 0) rfl)) all0)), Vb54⟩)
theorem rm_aai0 (hw : Hw a0 Z) (a1 : Addr) (p1 : Int32) (G1 : Int32) (b2 : Addr) (kD : ClassId) (vd : List Value) (aO : Addr) (kO : ClassId) (h0 : Heap) (n0 : Nat) (O0 : Old Z n0 h0) (Ea1 : Exa Z h0 a1 s4_) (g1 : n0 ≤ a1) (Fb1 : Fld Z h0 a1 s1_ "value" "[B" (.ref b2)) (Fb2 : Fld Z h0 a1 s1_ "coder" "B" (.int 0)) (Fb3 : Fld Z h0 a1 s1_ "count" "I" (.int 65)) (Fb4 : Fld Z h0 a1 s1_ s5_ "Z" (.int 0)) (V3 : Arv Z h0 b2 kD .byte (70 : Int32) vd (.int 0)) (g2 : n0 ≤ b2) (SC : Sta Z Z.heap s2_ s6_ "Z" (.int G1)) (hG : ¬ G1 = (0 : Int32)) (hd : p1 = (1 : Int32) ∨ p1 = (2 : Int32)) (SD1 : Sta Z Z.heap s14_ "DigitOnes" "[B" (.ref aO)) (VO : Arv Z Z.heap aO kO .byte (100 : Int32) own_ones (.int 0)) (hvl : (65 : Int32).toNatClampNeg = vd.length) : Met l Z y_45 c_45 4 (some (.object s1_)) (Rm 5 0 0 95) #[(.ref a1), (.int p1)] h0 (fun v h L => v = some (.ref a1) ∧ Fr n0 L ∧ Keep h0 h [a1, b2] ∧ Fld Z h a1 s1_ "value" "[B" (.ref b2) ∧ Fld Z h a1 s1_ "coder" "B" (.int 0) ∧ Fld Z h a1 s1_ "count" "I" (.int 66) ∧ Fld Z h a1 s1_ s5_ "Z" (.int 0) ∧ Arv Z h b2 kD .byte (70 : Int32) (vd ++ [(.int (own_o p1))]) (.int 0)) := by
  refine own_met (own := s1_) (G := fun m => (mkF m 0 #[vr a1, vi p1, uz, uz] [])) rfl n_45 ?_
  intro p e s m below meth c s₁ E0 P hP K hnm hret hlk hh X0 eH pre0
  obtain ⟨hx, hZ, hown, hby, hml⟩ := id K
  have pre_51 := fun t k => pre0 t <| oA K X0 k_561 rfl rfl rfl <| k
  obtain ⟨T52, X52, e52, pre_52⟩ := gF pre_51 K X0 eH (oW hw 47 rfl) Via.refl Fb3 k_562 rfl rfl
  have pre_53 := fun t k => pre_52 t <| XS.istoreN X52.here hx rfl (hb hby k_563) rfl (l' := #[vr a1, vi p1, vi 65, uz]) rfl <| oI K X52 k_564 rfl rfl <| oI K X52 k_565 rfl rfl <| k
  obtain ⟨T54, _, L54, X54, ⟨rfl, N54q, e54⟩, pre_54⟩ := cS pre_53 K X52 e52 (rm_iss l Z a0 hw p1 h0 n0 O0 hd) (oW hw 207 rfl) (oW hw 208 rfl) (oW hw 69 rfl) (oW hw 209 rfl) rfl (lenOf d_4 rfl) k_566 rfl rfl rfl (W := 1) (Nat.le_of_eq rfl) (by decide)
  have N54 := Fr.app (Fr.nil n0) N54q
  have pre_55 := fun t k => pre_54 t <| XS.iadd X54.here hx rfl (hb hby k_567) rfl <| XS.istoreN X54.here hx rfl (hb hby k_568) rfl (l' := #[vr a1, vi p1, vi 65, vi 66]) rfl <| oA K X54 k_569 rfl rfl rfl <| oI K X54 k_570 rfl rfl <| k
  obtain ⟨T56, _, L56, X56, ⟨rfl, N56q, e56⟩, pre_56⟩ := cP pre_55 K X54 e54 (rm_ecn0 l Z a0 hw a1 (66 : Int32) (70 : Int32) b2 kD vd h0 n0 O0 Fb1 Fb2 V3 (by decide)) (oW hw 54 rfl) (oW hw 55 rfl) (oW hw 26 rfl) (oW hw 58 rfl) (oW hw 56 rfl) (oW hw 57 rfl) Ea1 rfl (lenOf d_9 rfl) k_571 rfl rfl rfl (W := 0) (Nat.le_of_eq rfl) (by decide)
  have N56 := Fr.app N54 N56q
  have pre_57 := fun t k => pre_56 t <| oA K X56 k_572 rfl rfl rfl <| k
  obtain ⟨T58, _, L58, X58, ⟨rfl, N58q, e58⟩, pre_58⟩ := cV pre_57 K X56 e56 (rm_bl0 l Z a0 hw a1 G1 h0 n0 O0 Fb2 SC hG) (oW hw 59 rfl) (oW hw 61 rfl) (oW hw 26 rfl) (oW hw 63 rfl) (oW hw 60 rfl) (oW hw 62 rfl) (notFace_of_selects (args := #[]) (mvT hZ (oW hw 62 rfl))) Ea1 rfl (lenOf d_15 rfl) k_573 rfl rfl rfl (W := 0) (Nat.le_of_eq rfl) (by decide)
  have N58 := Fr.app N56 N58q
  have pre_59 : Pr p e below E0 T58 (mkF m 27 #[vr a1, vi p1, vi 65, vi 66] [(.ref a1), (.int 66), (.int p1)]) := fun t k => pre_58 t <| XS.ifNo X58.here hx rfl (hb hby k_574) rfl (XT.i0_eq_f (by decide)) <| oI K X58 k_575 rfl rfl <| oI K X58 k_576 rfl rfl <| oA K X58 k_577 rfl rfl rfl <| k
  obtain ⟨T60, X60, e60, pre_60⟩ := gF pre_59 K X58 e58 (oW hw 32 rfl) Via.refl Fb1 k_578 rfl rfl
  obtain ⟨T61, _, L61, X61, ⟨rfl, N61q, K61, Vb61⟩, pre_61⟩ := cS pre_60 K X60 e60 (rm_igc l Z a0 hw p1 b2 aO kO kD vd h0 n0 O0 hd SD1 VO V3 g2 hvl) (oW hw 210 rfl) (oW hw 211 rfl) (oW hw 69 rfl) (oW hw 212 rfl) rfl (lenOf d_26 rfl) k_579 rfl rfl rfl (W := 0) (Nat.le_of_eq rfl) (by decide)
  have N61 := Fr.app N58 N61q
  have O61 : Old Z n0 T61.heap := O0.keep K61 (allS g2 all0)
  have pre_62 := fun t k => pre_61 t <| XT.pop X61.here hx rfl (hb hby k_580) rfl rfl <| XS.goto X61.here hx rfl (pc0 := 34) (pc' := 48) rfl (hb hby k_581) (by decide) (by decide) <| oA K X61 k_582 rfl rfl rfl <| oI K X61 k_583 rfl rfl <| k
  have x_63 := ((Exa.neArv (Ea1.keep K61) Vb61 (oW hw 17 rfl)))
  obtain ⟨T64, h64, X64, e64, W64, Fw64, pre_64⟩ := pF pre_62 K X61 rfl .int (oW hw 47 rfl) (Fb3.keep K61 (ninS x_63 nin0)) (Ea1.keep K61) (Or.inl (oW hw 48 rfl)) (oW hw 17 rfl) k_584 rfl rfl (by decide) rfl rfl
  have N64 := Fr.snoc X64 N61 g1
  have O64 := O61.wr W64 g1
  have pre_65 := fun t k => pre_64 t <| oA K X64 k_585 rfl rfl rfl <| k
  have f_66 := ((Fb1.keep K61 (ninS x_63 nin0)).other W64 (Or.inr (slot_ne (Or.inl (oW hw 33 rfl)) (Or.inl (oW hw 48 rfl)) (by decide) (t := (.array .byte)) (t' := .int) (by decide) (by decide))))
  have u_67 := ((Keep.refl h0 [a1, b2]).trans K61 (allS (Or.inl (List.mem_of_getElem? (i := 1) rfl)) all0))
  have f_68 := ((Fb2.keep K61 (ninS x_63 nin0)).other W64 (Or.inr (slot_ne (Or.inl (oW hw 35 rfl)) (Or.inl (oW hw 48 rfl)) (by decide) (t := .byte) (t' := .int) (by decide) (by decide))))
  have f_69 := ((Fb4.keep K61 (ninS x_63 nin0)).other W64 (Or.inr (slot_ne (Or.inl (oW hw 406 rfl)) (Or.inl (oW hw 48 rfl)) (by decide) (t := .boolean) (t' := .int) (by decide) (by decide))))
  exact rtA pre_65 K X64 e64 hret hlk k_586 (by decide) ⟨rfl, rfl⟩ (hP _ _ _ ⟨rfl, N64, (u_67.wr W64 (Or.inl (List.mem_of_getElem? (i := 0) rfl))), f_66, f_68, Fw64, f_69, (Vb61.other W64 (Ne.symm x_63))⟩)
theorem rm_bai0 (hw : Hw a0 Z) (a1 : Addr) (p1 : Int32) (G1 : Int32) (b2 : Addr) (kD : ClassId) (vd : List Value) (aO : Addr) (kO : ClassId) (h0 : Heap) (n0 : Nat) (O0 : Old Z n0 h0) (Ea1 : Exa Z h0 a1 s4_) (g1 : n0 ≤ a1) (Fb1 : Fld Z h0 a1 s1_ "value" "[B" (.ref b2)) (Fb2 : Fld Z h0 a1 s1_ "coder" "B" (.int 0)) (Fb3 : Fld Z h0 a1 s1_ "count" "I" (.int 65)) (Fb4 : Fld Z h0 a1 s1_ s5_ "Z" (.int 0)) (V3 : Arv Z h0 b2 kD .byte (70 : Int32) vd (.int 0)) (g2 : n0 ≤ b2) (SC : Sta Z Z.heap s2_ s6_ "Z" (.int G1)) (hG : ¬ G1 = (0 : Int32)) (hd : p1 = (1 : Int32) ∨ p1 = (2 : Int32)) (SD1 : Sta Z Z.heap s14_ "DigitOnes" "[B" (.ref aO)) (VO : Arv Z Z.heap aO kO .byte (100 : Int32) own_ones (.int 0)) (hvl : (65 : Int32).toNatClampNeg = vd.length) : Met l Z y_46 c_46 2 (some (.object s4_)) (Rm 6 0 0 112) #[(.ref a1), (.int p1)] h0 (fun v h L => v = some (.ref a1) ∧ Fr n0 L ∧ Keep h0 h [a1, b2] ∧ Fld Z h a1 s1_ "value" "[B" (.ref b2) ∧ Fld Z h a1 s1_ "coder" "B" (.int 0) ∧ Fld Z h a1 s1_ "count" "I" (.int 66) ∧ Fld Z h a1 s1_ s5_ "Z" (.int 0) ∧ Arv Z h b2 kD .byte (70 : Int32) (vd ++ [(.int (own_o p1))]) (.int 0)) := by
  refine own_met (own := s4_) (G := fun m => (mkF m 0 #[vr a1, vi p1] [])) rfl n_46 ?_
  intro p e s m below meth c s₁ E0 P hP K hnm hret hlk hh X0 eH pre0
  obtain ⟨hx, hZ, hown, hby, hml⟩ := id K
  have pre_51 := fun t k => pre0 t <| oA K X0 k_587 rfl rfl rfl <| oI K X0 k_588 rfl rfl <| k
  obtain ⟨T52, _, L52, X52, ⟨rfl, N52q, K52, Fv52, Fd52, Fk52, Fm52, Vb52⟩, pre_52⟩ := cU pre_51 K X0 eH (rm_aai0 l Z a0 hw a1 p1 G1 b2 kD vd aO kO h0 n0 O0 Ea1 g1 Fb1 Fb2 Fb3 Fb4 V3 g2 SC hG hd SD1 VO hvl) (oW hw 203 rfl) (oW hw 204 rfl) (oW hw 26 rfl) (oW hw 206 rfl) (oW hw 57 rfl) (oW hw 55 rfl) (oW hw 44 rfl) rfl Ea1 rfl (lenOf d_27 rfl) k_589 rfl rfl rfl (W := 0) (Nat.le_of_eq rfl) (by decide) (by decide)
  have N52 := Fr.app (Fr.nil n0) N52q
  have O52 : Old Z n0 T52.heap := O0.keep K52 (allS g1 (allS g2 all0))
  have pre_53 := fun t k => pre_52 t <| XT.pop X52.here hx rfl (hb hby k_590) rfl rfl <| oA K X52 k_591 rfl rfl rfl <| k
  have u_54 := ((Keep.refl h0 [a1, b2]).trans K52 (allS (Or.inl (List.mem_of_getElem? (i := 0) rfl)) (allS (Or.inl (List.mem_of_getElem? (i := 1) rfl)) all0)))
  exact rtA pre_53 K X52 rfl hret hlk k_592 (by decide) ⟨rfl, rfl⟩ (hP _ _ _ ⟨rfl, N52, u_54, Fv52, Fd52, Fk52, Fm52, Vb52⟩)
theorem rm_aai1 (hw : Hw a0 Z) (a1 : Addr) (p1 : Int32) (G1 : Int32) (b2 : Addr) (kD : ClassId) (vd : List Value) (aO : Addr) (kO : ClassId) (w1 : Value) (h0 : Heap) (n0 : Nat) (O0 : Old Z n0 h0) (Ea1 : Exa Z h0 a1 s4_) (g1 : n0 ≤ a1) (Fb1 : Fld Z h0 a1 s1_ "value" "[B" (.ref b2)) (Fb2 : Fld Z h0 a1 s1_ "coder" "B" (.int 1)) (Fb3 : Fld Z h0 a1 s1_ "count" "I" (.int 65)) (Fb4 : Fld Z h0 a1 s1_ s5_ "Z" (.int 0)) (V3 : Arv Z h0 b2 kD .byte (140 : Int32) vd (.int 0)) (g2 : n0 ≤ b2) (SC : Sta Z Z.heap s2_ s6_ "Z" (.int G1)) (hG : ¬ G1 = (0 : Int32)) (hd : p1 = (1 : Int32) ∨ p1 = (2 : Int32)) (SD1 : Sta Z Z.heap s14_ "DigitOnes" "[B" (.ref aO)) (VO : Arv Z Z.heap aO kO .byte (100 : Int32) own_ones (.int 0)) (hvl : (130 : Int32).toNatClampNeg = vd.length) (SU1 : Sta Z Z.heap s3_ s9_ "Z" (.int 1)) (SU2 : Sta Z Z.heap s3_ s10_ "I" (.int 0)) (SU3 : Sta Z Z.heap s3_ s11_ "I" (.int 8)) (SF : Sta Z Z.heap s8_ s12_ s13_ w1) (hr : w1.isRef = true) : Met l Z y_45 c_45 4 (some (.object s1_)) (Rm 5 0 0 95) #[(.ref a1), (.int p1)] h0 (fun v h L => v = some (.ref a1) ∧ Fr n0 L ∧ Keep h0 h [a1, b2] ∧ Fld Z h a1 s1_ "value" "[B" (.ref b2) ∧ Fld Z h a1 s1_ "coder" "B" (.int 1) ∧ Fld Z h a1 s1_ "count" "I" (.int 66) ∧ Fld Z h a1 s1_ s5_ "Z" (.int 0) ∧ Arv Z h b2 kD .byte (140 : Int32) (vd ++ [(.int (own_lo (own_o p1))), (.int (own_hi (own_o p1)))]) (.int 0)) := by
  refine own_met (own := s1_) (G := fun m => (mkF m 0 #[vr a1, vi p1, uz, uz] [])) rfl n_45 ?_
  intro p e s m below meth c s₁ E0 P hP K hnm hret hlk hh X0 eH pre0
  obtain ⟨hx, hZ, hown, hby, hml⟩ := id K
  have pre_51 := fun t k => pre0 t <| oA K X0 k_561 rfl rfl rfl <| k
  obtain ⟨T52, X52, e52, pre_52⟩ := gF pre_51 K X0 eH (oW hw 47 rfl) Via.refl Fb3 k_562 rfl rfl
  have pre_53 := fun t k => pre_52 t <| XS.istoreN X52.here hx rfl (hb hby k_563) rfl (l' := #[vr a1, vi p1, vi 65, uz]) rfl <| oI K X52 k_564 rfl rfl <| oI K X52 k_565 rfl rfl <| k
  obtain ⟨T54, _, L54, X54, ⟨rfl, N54q, e54⟩, pre_54⟩ := cS pre_53 K X52 e52 (rm_iss l Z a0 hw p1 h0 n0 O0 hd) (oW hw 207 rfl) (oW hw 208 rfl) (oW hw 69 rfl) (oW hw 209 rfl) rfl (lenOf d_4 rfl) k_566 rfl rfl rfl (W := 1) (Nat.le_of_eq rfl) (by decide)
  have N54 := Fr.app (Fr.nil n0) N54q
  have pre_55 := fun t k => pre_54 t <| XS.iadd X54.here hx rfl (hb hby k_567) rfl <| XS.istoreN X54.here hx rfl (hb hby k_568) rfl (l' := #[vr a1, vi p1, vi 65, vi 66]) rfl <| oA K X54 k_569 rfl rfl rfl <| oI K X54 k_570 rfl rfl <| k
  obtain ⟨T56, _, L56, X56, ⟨rfl, N56q, e56⟩, pre_56⟩ := cP pre_55 K X54 e54 (rm_ecn1 l Z a0 hw a1 (66 : Int32) (140 : Int32) b2 kD vd h0 n0 O0 Fb1 Fb2 V3 (by decide)) (oW hw 54 rfl) (oW hw 55 rfl) (oW hw 26 rfl) (oW hw 58 rfl) (oW hw 56 rfl) (oW hw 57 rfl) Ea1 rfl (lenOf d_9 rfl) k_571 rfl rfl rfl (W := 0) (Nat.le_of_eq rfl) (by decide)
  have N56 := Fr.app N54 N56q
  have pre_57 := fun t k => pre_56 t <| oA K X56 k_572 rfl rfl rfl <| k
  obtain ⟨T58, _, L58, X58, ⟨rfl, N58q, e58⟩, pre_58⟩ := cV pre_57 K X56 e56 (rm_bl1 l Z a0 hw a1 G1 h0 n0 O0 Fb2 SC hG) (oW hw 59 rfl) (oW hw 61 rfl) (oW hw 26 rfl) (oW hw 63 rfl) (oW hw 60 rfl) (oW hw 62 rfl) (notFace_of_selects (args := #[]) (mvT hZ (oW hw 62 rfl))) Ea1 rfl (lenOf d_15 rfl) k_573 rfl rfl rfl (W := 0) (Nat.le_of_eq rfl) (by decide)
  have N58 := Fr.app N56 N58q
  have pre_59 : Pr p e below E0 T58 (mkF m 41 #[vr a1, vi p1, vi 65, vi 66] [(.ref a1), (.int 66), (.int 65), (.int p1)]) := fun t k => pre_58 t <| XS.ifYes X58.here hx rfl (pc0 := 21) (pc' := 37) rfl (hb hby k_574) rfl (XT.i0_eq_t (by decide)) (by decide) (by decide) <| oI K X58 k_593 rfl rfl <| oI K X58 k_594 rfl rfl <| oI K X58 k_595 rfl rfl <| oA K X58 k_596 rfl rfl rfl <| k
  obtain ⟨T60, X60, e60, pre_60⟩ := gF pre_59 K X58 e58 (oW hw 32 rfl) Via.refl Fb1 k_597 rfl rfl
  obtain ⟨T61, _, L61, X61, ⟨rfl, N61q, K61, Vb61⟩, pre_61⟩ := cS pre_60 K X60 e60 (rm_ugd l Z a0 hw p1 b2 aO kO kD vd w1 h0 n0 O0 hd SD1 VO V3 g2 hvl SU1 SU2 SU3 SF hr) (oW hw 391 rfl) (oW hw 392 rfl) (oW hw 297 rfl) (oW hw 393 rfl) rfl (lenOf d_28 rfl) k_598 rfl rfl rfl (W := 0) (Nat.le_of_eq rfl) (by decide)
  have N61 := Fr.app N58 N61q
  have O61 : Old Z n0 T61.heap := O0.keep K61 (allS g2 all0)
  have pre_62 := fun t k => pre_61 t <| XT.pop X61.here hx rfl (hb hby k_599) rfl rfl <| oA K X61 k_582 rfl rfl rfl <| oI K X61 k_583 rfl rfl <| k
  have x_63 := ((Exa.neArv (Ea1.keep K61) Vb61 (oW hw 17 rfl)))
  obtain ⟨T64, h64, X64, e64, W64, Fw64, pre_64⟩ := pF pre_62 K X61 rfl .int (oW hw 47 rfl) (Fb3.keep K61 (ninS x_63 nin0)) (Ea1.keep K61) (Or.inl (oW hw 48 rfl)) (oW hw 17 rfl) k_584 rfl rfl (by decide) rfl rfl
  have N64 := Fr.snoc X64 N61 g1
  have O64 := O61.wr W64 g1
  have pre_65 := fun t k => pre_64 t <| oA K X64 k_585 rfl rfl rfl <| k
  have f_66 := ((Fb1.keep K61 (ninS x_63 nin0)).other W64 (Or.inr (slot_ne (Or.inl (oW hw 33 rfl)) (Or.inl (oW hw 48 rfl)) (by decide) (t := (.array .byte)) (t' := .int) (by decide) (by decide))))
  have u_67 := ((Keep.refl h0 [a1, b2]).trans K61 (allS (Or.inl (List.mem_of_getElem? (i := 1) rfl)) all0))
  have f_68 := ((Fb2.keep K61 (ninS x_63 nin0)).other W64 (Or.inr (slot_ne (Or.inl (oW hw 35 rfl)) (Or.inl (oW hw 48 rfl)) (by decide) (t := .byte) (t' := .int) (by decide) (by decide))))
  have f_69 := ((Fb4.keep K61 (ninS x_63 nin0)).other W64 (Or.inr (slot_ne (Or.inl (oW hw 406 rfl)) (Or.inl (oW hw 48 rfl)) (by decide) (t := .boolean) (t' := .int) (by decide) (by decide))))
  exact rtA pre_65 K X64 e64 hret hlk k_586 (by decide) ⟨rfl, rfl⟩ (hP _ _ _ ⟨rfl, N64, (u_67.wr W64 (Or.inl (List.mem_of_getElem? (i := 0) rfl))), f_66, f_68, Fw64, f_69, (Vb61.other W64 (Ne.symm x_63))⟩)
theorem rm_bai1 (hw : Hw a0 Z) (a1 : Addr) (p1 : Int32) (G1 : Int32) (b2 : Addr) (kD : ClassId) (vd : List Value) (aO : Addr) (kO : ClassId) (w1 : Value) (h0 : Heap) (n0 : Nat) (O0 : Old Z n0 h0) (Ea1 : Exa Z h0 a1 s4_) (g1 : n0 ≤ a1) (Fb1 : Fld Z h0 a1 s1_ "value" "[B" (.ref b2)) (Fb2 : Fld Z h0 a1 s1_ "coder" "B" (.int 1)) (Fb3 : Fld Z h0 a1 s1_ "count" "I" (.int 65)) (Fb4 : Fld Z h0 a1 s1_ s5_ "Z" (.int 0)) (V3 : Arv Z h0 b2 kD .byte (140 : Int32) vd (.int 0)) (g2 : n0 ≤ b2) (SC : Sta Z Z.heap s2_ s6_ "Z" (.int G1)) (hG : ¬ G1 = (0 : Int32)) (hd : p1 = (1 : Int32) ∨ p1 = (2 : Int32)) (SD1 : Sta Z Z.heap s14_ "DigitOnes" "[B" (.ref aO)) (VO : Arv Z Z.heap aO kO .byte (100 : Int32) own_ones (.int 0)) (hvl : (130 : Int32).toNatClampNeg = vd.length) (SU1 : Sta Z Z.heap s3_ s9_ "Z" (.int 1)) (SU2 : Sta Z Z.heap s3_ s10_ "I" (.int 0)) (SU3 : Sta Z Z.heap s3_ s11_ "I" (.int 8)) (SF : Sta Z Z.heap s8_ s12_ s13_ w1) (hr : w1.isRef = true) : Met l Z y_46 c_46 2 (some (.object s4_)) (Rm 6 0 0 112) #[(.ref a1), (.int p1)] h0 (fun v h L => v = some (.ref a1) ∧ Fr n0 L ∧ Keep h0 h [a1, b2] ∧ Fld Z h a1 s1_ "value" "[B" (.ref b2) ∧ Fld Z h a1 s1_ "coder" "B" (.int 1) ∧ Fld Z h a1 s1_ "count" "I" (.int 66) ∧ Fld Z h a1 s1_ s5_ "Z" (.int 0) ∧ Arv Z h b2 kD .byte (140 : Int32) (vd ++ [(.int (own_lo (own_o p1))), (.int (own_hi (own_o p1)))]) (.int 0)) := by
  refine own_met (own := s4_) (G := fun m => (mkF m 0 #[vr a1, vi p1] [])) rfl n_46 ?_
  intro p e s m below meth c s₁ E0 P hP K hnm hret hlk hh X0 eH pre0
  obtain ⟨hx, hZ, hown, hby, hml⟩ := id K
  have pre_51 := fun t k => pre0 t <| oA K X0 k_587 rfl rfl rfl <| oI K X0 k_588 rfl rfl <| k
  obtain ⟨T52, _, L52, X52, ⟨rfl, N52q, K52, Fv52, Fd52, Fk52, Fm52, Vb52⟩, pre_52⟩ := cU pre_51 K X0 eH (rm_aai1 l Z a0 hw a1 p1 G1 b2 kD vd aO kO w1 h0 n0 O0 Ea1 g1 Fb1 Fb2 Fb3 Fb4 V3 g2 SC hG hd SD1 VO hvl SU1 SU2 SU3 SF hr) (oW hw 203 rfl) (oW hw 204 rfl) (oW hw 26 rfl) (oW hw 206 rfl) (oW hw 57 rfl) (oW hw 55 rfl) (oW hw 44 rfl) rfl Ea1 rfl (lenOf d_27 rfl) k_589 rfl rfl rfl (W := 0) (Nat.le_of_eq rfl) (by decide) (by decide)
  have N52 := Fr.app (Fr.nil n0) N52q
  have O52 : Old Z n0 T52.heap := O0.keep K52 (allS g1 (allS g2 all0))
  have pre_53 := fun t k => pre_52 t <| XT.pop X52.here hx rfl (hb hby k_590) rfl rfl <| oA K X52 k_591 rfl rfl rfl <| k
  have u_54 := ((Keep.refl h0 [a1, b2]).trans K52 (allS (Or.inl (List.mem_of_getElem? (i := 0) rfl)) (allS (Or.inl (List.mem_of_getElem? (i := 1) rfl)) all0)))
  exact rtA pre_53 K X52 rfl hret hlk k_592 (by decide) ⟨rfl, rfl⟩ (hP _ _ _ ⟨rfl, N52, u_54, Fv52, Fd52, Fk52, Fm52, Vb52⟩)
theorem rm_lss (hw : Hw a0 Z) (n1 : Int32)  (h0 : Heap) (n0 : Nat) (O0 : Old Z n0 h0) (hn : -8192 ≤ n1.toInt ∧ n1.toInt ≤ 8191) : Met l Z y_47 c_47 6 (some .int) (Rm 0 0 0 0) #[(.long (n1.toInt64))] h0 (fun v h L => v = some (.int (own_len n1)) ∧ Fr n0 L ∧ h = h0) := by
  refine own_met (own := "java/lang/Long") (G := fun m => (mkF m 0 #[.val (.long (n1.toInt64)), .second, uz, uz, uz, uz] [])) rfl n_47 ?_
  intro p e s m below meth c s₁ E0 P hP K hnm hret hlk hh X0 eH pre0
  obtain ⟨hx, hZ, hown, hby, hml⟩ := id K
  have pre_51 := fun t k => pre0 t <| XS.iconst X0.here hx rfl (hb hby k_600) <| XS.istoreN X0.here hx rfl (hb hby k_601) rfl (l' := #[.val (.long (n1.toInt64)), .second, vi 1, uz, uz, uz]) rfl <| XT.lloadN X0.here hx rfl (hb hby k_602) rfl <| XT.lconst X0.here hx rfl (hb hby k_603) <| XT.lcmp X0.here hx rfl (hb hby k_604) rfl <| k
  by_cases hc52 : (n1.toInt64) < (0 : Int64)
  · skip
    have pre_53 : Pr p e below E0 s₁ (mkF m 30 #[.val (.long (n1.toInt64)), .second, vi 1, .val (.long (-10 : Int64)), .second, vi 1] [(.int (XT.cmpL (n1.toInt64) (-10 : Int64)))]) := fun t k => pre_51 t <| XS.ifYes X0.here hx rfl (pc0 := 5) (pc' := 13) rfl (hb hby k_605) rfl (XT.ll_lt_t hc52) (by decide) (by decide) <| oLl K X0 (oW hw 53 rfl) k_606 rfl <| XT.lstoreN X0.here hx rfl (hb hby k_607) rfl (l' := #[.val (.long (n1.toInt64)), .second, vi 1, .val (.long (-10 : Int64)), .second, uz]) rfl <| XS.iconst X0.here hx rfl (hb hby k_608) <| XS.istore X0.here hx rfl (hb hby k_609) rfl (l' := #[.val (.long (n1.toInt64)), .second, vi 1, .val (.long (-10 : Int64)), .second, vi 1]) rfl <| oJ K X0 k_610 rfl rfl <| XS.bipush X0.here hx rfl (hb hby k_611) <| XS.icmpNo X0.here hx rfl (hb hby k_612) rfl (XT.ii_ge_f (by decide)) <| XT.lloadN X0.here hx rfl (hb hby k_613) rfl <| XT.lloadN X0.here hx rfl (hb hby k_614) rfl <| XT.lcmp X0.here hx rfl (hb hby k_615) rfl <| k
    by_cases hc54 : (-10 : Int64) < (n1.toInt64)
    · skip
      have pre_55 := fun t k => pre_53 t <| XS.ifNo X0.here hx rfl (hb hby k_616) rfl (XT.ll_le_f hc54) <| oJ K X0 k_617 rfl rfl <| oI K X0 k_618 rfl rfl <| XS.iadd X0.here hx rfl (hb hby k_619) rfl <| k
      have pre_56 : Pr p e below E0 s₁ (mkF m 37 #[.val (.long (n1.toInt64)), .second, vi 1, .val (.long (-10 : Int64)), .second, vi 1] [(.int 2)]) := pre_55
      exact rtI pre_56 K X0 eH hret hlk k_620 (by decide) (hP _ _ _ ⟨congrArg (fun z => some (Value.int z)) (own_ll11 hn hc52 hc54), (Fr.nil n0), rfl⟩)
    · skip
      have pre_57 := fun t k => pre_53 t <| XS.ifYes X0.here hx rfl (pc0 := 30) (pc' := 38) rfl (hb hby k_616) rfl (XT.ll_le_t hc54) (by decide) (by decide) <| oLl K X0 (oW hw 364 rfl) k_621 rfl <| XT.lloadN X0.here hx rfl (hb hby k_622) rfl <| XT.lmul X0.here hx rfl (hb hby k_623) rfl <| XT.lstoreN X0.here hx rfl (hb hby k_624) rfl (l' := #[.val (.long (n1.toInt64)), .second, vi 1, .val (.long (-100 : Int64)), .second, vi 1]) rfl <| XS.iinc X0.here hx rfl (hb hby k_625) rfl (l' := #[.val (.long (n1.toInt64)), .second, vi 1, .val (.long (-100 : Int64)), .second, vi 2]) rfl <| XS.goto X0.here hx rfl (pc0 := 47) (pc' := 20) rfl (hb hby k_626) (by decide) (by decide) <| oJ K X0 k_610 rfl rfl <| XS.bipush X0.here hx rfl (hb hby k_611) <| XS.icmpNo X0.here hx rfl (hb hby k_612) rfl (XT.ii_ge_f (by decide)) <| XT.lloadN X0.here hx rfl (hb hby k_613) rfl <| XT.lloadN X0.here hx rfl (hb hby k_614) rfl <| XT.lcmp X0.here hx rfl (hb hby k_615) rfl <| k
      by_cases hc58 : (-100 : Int64) < (n1.toInt64)
      · skip
        have pre_59 : Pr p e below E0 s₁ (mkF m 37 #[.val (.long (n1.toInt64)), .second, vi 1, .val (.long (-100 : Int64)), .second, vi 2] [(.int 3)]) := fun t k => pre_57 t <| XS.ifNo X0.here hx rfl (hb hby k_616) rfl (XT.ll_le_f hc58) <| oJ K X0 k_617 rfl rfl <| oI K X0 k_618 rfl rfl <| XS.iadd X0.here hx rfl (hb hby k_619) rfl <| k
        exact rtI pre_59 K X0 eH hret hlk k_620 (by decide) (hP _ _ _ ⟨congrArg (fun z => some (Value.int z)) (own_ll12 hn hc52 hc54 hc58), (Fr.nil n0), rfl⟩)
      · skip
        have pre_60 : Pr p e below E0 s₁ (mkF m 30 #[.val (.long (n1.toInt64)), .second, vi 1, .val (.long (-1000 : Int64)), .second, vi 3] [(.int (XT.cmpL (n1.toInt64) (-1000 : Int64)))]) := fun t k => pre_57 t <| XS.ifYes X0.here hx rfl (pc0 := 30) (pc' := 38) rfl (hb hby k_616) rfl (XT.ll_le_t hc58) (by decide) (by decide) <| oLl K X0 (oW hw 364 rfl) k_621 rfl <| XT.lloadN X0.here hx rfl (hb hby k_622) rfl <| XT.lmul X0.here hx rfl (hb hby k_623) rfl <| XT.lstoreN X0.here hx rfl (hb hby k_624) rfl (l' := #[.val (.long (n1.toInt64)), .second, vi 1, .val (.long (-1000 : Int64)), .second, vi 2]) rfl <| XS.iinc X0.here hx rfl (hb hby k_625) rfl (l' := #[.val (.long (n1.toInt64)), .second, vi 1, .val (.long (-1000 : Int64)), .second, vi 3]) rfl <| XS.goto X0.here hx rfl (pc0 := 47) (pc' := 20) rfl (hb hby k_626) (by decide) (by decide) <| oJ K X0 k_610 rfl rfl <| XS.bipush X0.here hx rfl (hb hby k_611) <| XS.icmpNo X0.here hx rfl (hb hby k_612) rfl (XT.ii_ge_f (by decide)) <| XT.lloadN X0.here hx rfl (hb hby k_613) rfl <| XT.lloadN X0.here hx rfl (hb hby k_614) rfl <| XT.lcmp X0.here hx rfl (hb hby k_615) rfl <| k
        by_cases hc61 : (-1000 : Int64) < (n1.toInt64)
        · skip
          have pre_62 := fun t k => pre_60 t <| XS.ifNo X0.here hx rfl (hb hby k_616) rfl (XT.ll_le_f hc61) <| oJ K X0 k_617 rfl rfl <| oI K X0 k_618 rfl rfl <| XS.iadd X0.here hx rfl (hb hby k_619) rfl <| k
          have pre_63 : Pr p e below E0 s₁ (mkF m 37 #[.val (.long (n1.toInt64)), .second, vi 1, .val (.long (-1000 : Int64)), .second, vi 3] [(.int 4)]) := pre_62
          exact rtI pre_63 K X0 eH hret hlk k_620 (by decide) (hP _ _ _ ⟨congrArg (fun z => some (Value.int z)) (own_ll13 hn hc52 hc54 hc58 hc61), (Fr.nil n0), rfl⟩)
        · skip
          have pre_64 : Pr p e below E0 s₁ (mkF m 37 #[.val (.long (n1.toInt64)), .second, vi 1, .val (.long (-10000 : Int64)), .second, vi 4] [(.int 5)]) := fun t k => pre_60 t <| XS.ifYes X0.here hx rfl (pc0 := 30) (pc' := 38) rfl (hb hby k_616) rfl (XT.ll_le_t hc61) (by decide) (by decide) <| oLl K X0 (oW hw 364 rfl) k_621 rfl <| XT.lloadN X0.here hx rfl (hb hby k_622) rfl <| XT.lmul X0.here hx rfl (hb hby k_623) rfl <| XT.lstoreN X0.here hx rfl (hb hby k_624) rfl (l' := #[.val (.long (n1.toInt64)), .second, vi 1, .val (.long (-10000 : Int64)), .second, vi 3]) rfl <| XS.iinc X0.here hx rfl (hb hby k_625) rfl (l' := #[.val (.long (n1.toInt64)), .second, vi 1, .val (.long (-10000 : Int64)), .second, vi 4]) rfl <| XS.goto X0.here hx rfl (pc0 := 47) (pc' := 20) rfl (hb hby k_626) (by decide) (by decide) <| oJ K X0 k_610 rfl rfl <| XS.bipush X0.here hx rfl (hb hby k_611) <| XS.icmpNo X0.here hx rfl (hb hby k_612) rfl (XT.ii_ge_f (by decide)) <| XT.lloadN X0.here hx rfl (hb hby k_613) rfl <| XT.lloadN X0.here hx rfl (hb hby k_614) rfl <| XT.lcmp X0.here hx rfl (hb hby k_615) rfl <| XS.ifNo X0.here hx rfl (hb hby k_616) rfl (XT.ll_le_f (own_m4 hn).1) <| oJ K X0 k_617 rfl rfl <| oI K X0 k_618 rfl rfl <| XS.iadd X0.here hx rfl (hb hby k_619) rfl <| k
          exact rtI pre_64 K X0 eH hret hlk k_620 (by decide) (hP _ _ _ ⟨congrArg (fun z => some (Value.int z)) (own_ll14 hn hc52 hc54 hc58 hc61), (Fr.nil n0), rfl⟩)
  · skip
    have pre_65 : Pr p e below E0 s₁ (mkF m 30 #[.val (.long (-(n1.toInt64))), .second, vi 0, .val (.long (-10 : Int64)), .second, vi 1] [(.int (XT.cmpL (-(n1.toInt64)) (-10 : Int64)))]) := fun t k => pre_51 t <| XS.ifNo X0.here hx rfl (hb hby k_605) rfl (XT.ll_lt_f hc52) <| XS.iconst X0.here hx rfl (hb hby k_627) <| XS.istoreN X0.here hx rfl (hb hby k_628) rfl (l' := #[.val (.long (n1.toInt64)), .second, vi 0, uz, uz, uz]) rfl <| XT.lloadN X0.here hx rfl (hb hby k_629) rfl <| XT.lneg X0.here hx rfl (hb hby k_630) rfl <| XT.lstoreN X0.here hx rfl (hb hby k_631) rfl (l' := #[.val (.long (-(n1.toInt64))), .second, vi 0, uz, uz, uz]) rfl <| oLl K X0 (oW hw 53 rfl) k_606 rfl <| XT.lstoreN X0.here hx rfl (hb hby k_607) rfl (l' := #[.val (.long (-(n1.toInt64))), .second, vi 0, .val (.long (-10 : Int64)), .second, uz]) rfl <| XS.iconst X0.here hx rfl (hb hby k_608) <| XS.istore X0.here hx rfl (hb hby k_609) rfl (l' := #[.val (.long (-(n1.toInt64))), .second, vi 0, .val (.long (-10 : Int64)), .second, vi 1]) rfl <| oJ K X0 k_610 rfl rfl <| XS.bipush X0.here hx rfl (hb hby k_611) <| XS.icmpNo X0.here hx rfl (hb hby k_612) rfl (XT.ii_ge_f (by decide)) <| XT.lloadN X0.here hx rfl (hb hby k_613) rfl <| XT.lloadN X0.here hx rfl (hb hby k_614) rfl <| XT.lcmp X0.here hx rfl (hb hby k_615) rfl <| k
    by_cases hc66 : (-10 : Int64) < (-(n1.toInt64))
    · skip
      have pre_67 := fun t k => pre_65 t <| XS.ifNo X0.here hx rfl (hb hby k_616) rfl (XT.ll_le_f hc66) <| oJ K X0 k_617 rfl rfl <| oI K X0 k_618 rfl rfl <| XS.iadd X0.here hx rfl (hb hby k_619) rfl <| k
      have pre_68 : Pr p e below E0 s₁ (mkF m 37 #[.val (.long (-(n1.toInt64))), .second, vi 0, .val (.long (-10 : Int64)), .second, vi 1] [(.int 1)]) := pre_67
      exact rtI pre_68 K X0 eH hret hlk k_620 (by decide) (hP _ _ _ ⟨congrArg (fun z => some (Value.int z)) (own_ll01 hn hc52 hc66), (Fr.nil n0), rfl⟩)
    · skip
      have pre_69 := fun t k => pre_65 t <| XS.ifYes X0.here hx rfl (pc0 := 30) (pc' := 38) rfl (hb hby k_616) rfl (XT.ll_le_t hc66) (by decide) (by decide) <| oLl K X0 (oW hw 364 rfl) k_621 rfl <| XT.lloadN X0.here hx rfl (hb hby k_622) rfl <| XT.lmul X0.here hx rfl (hb hby k_623) rfl <| XT.lstoreN X0.here hx rfl (hb hby k_624) rfl (l' := #[.val (.long (-(n1.toInt64))), .second, vi 0, .val (.long (-100 : Int64)), .second, vi 1]) rfl <| XS.iinc X0.here hx rfl (hb hby k_625) rfl (l' := #[.val (.long (-(n1.toInt64))), .second, vi 0, .val (.long (-100 : Int64)), .second, vi 2]) rfl <| XS.goto X0.here hx rfl (pc0 := 47) (pc' := 20) rfl (hb hby k_626) (by decide) (by decide) <| oJ K X0 k_610 rfl rfl <| XS.bipush X0.here hx rfl (hb hby k_611) <| XS.icmpNo X0.here hx rfl (hb hby k_612) rfl (XT.ii_ge_f (by decide)) <| XT.lloadN X0.here hx rfl (hb hby k_613) rfl <| XT.lloadN X0.here hx rfl (hb hby k_614) rfl <| XT.lcmp X0.here hx rfl (hb hby k_615) rfl <| k
      by_cases hc70 : (-100 : Int64) < (-(n1.toInt64))
      · skip
        have pre_71 : Pr p e below E0 s₁ (mkF m 37 #[.val (.long (-(n1.toInt64))), .second, vi 0, .val (.long (-100 : Int64)), .second, vi 2] [(.int 2)]) := fun t k => pre_69 t <| XS.ifNo X0.here hx rfl (hb hby k_616) rfl (XT.ll_le_f hc70) <| oJ K X0 k_617 rfl rfl <| oI K X0 k_618 rfl rfl <| XS.iadd X0.here hx rfl (hb hby k_619) rfl <| k
        exact rtI pre_71 K X0 eH hret hlk k_620 (by decide) (hP _ _ _ ⟨congrArg (fun z => some (Value.int z)) (own_ll02 hn hc52 hc66 hc70), (Fr.nil n0), rfl⟩)
      · skip
        have pre_72 : Pr p e below E0 s₁ (mkF m 30 #[.val (.long (-(n1.toInt64))), .second, vi 0, .val (.long (-1000 : Int64)), .second, vi 3] [(.int (XT.cmpL (-(n1.toInt64)) (-1000 : Int64)))]) := fun t k => pre_69 t <| XS.ifYes X0.here hx rfl (pc0 := 30) (pc' := 38) rfl (hb hby k_616) rfl (XT.ll_le_t hc70) (by decide) (by decide) <| oLl K X0 (oW hw 364 rfl) k_621 rfl <| XT.lloadN X0.here hx rfl (hb hby k_622) rfl <| XT.lmul X0.here hx rfl (hb hby k_623) rfl <| XT.lstoreN X0.here hx rfl (hb hby k_624) rfl (l' := #[.val (.long (-(n1.toInt64))), .second, vi 0, .val (.long (-1000 : Int64)), .second, vi 2]) rfl <| XS.iinc X0.here hx rfl (hb hby k_625) rfl (l' := #[.val (.long (-(n1.toInt64))), .second, vi 0, .val (.long (-1000 : Int64)), .second, vi 3]) rfl <| XS.goto X0.here hx rfl (pc0 := 47) (pc' := 20) rfl (hb hby k_626) (by decide) (by decide) <| oJ K X0 k_610 rfl rfl <| XS.bipush X0.here hx rfl (hb hby k_611) <| XS.icmpNo X0.here hx rfl (hb hby k_612) rfl (XT.ii_ge_f (by decide)) <| XT.lloadN X0.here hx rfl (hb hby k_613) rfl <| XT.lloadN X0.here hx rfl (hb hby k_614) rfl <| XT.lcmp X0.here hx rfl (hb hby k_615) rfl <| k
        by_cases hc73 : (-1000 : Int64) < (-(n1.toInt64))
        · skip
          have pre_74 := fun t k => pre_72 t <| XS.ifNo X0.here hx rfl (hb hby k_616) rfl (XT.ll_le_f hc73) <| oJ K X0 k_617 rfl rfl <| oI K X0 k_618 rfl rfl <| XS.iadd X0.here hx rfl (hb hby k_619) rfl <| k
          have pre_75 : Pr p e below E0 s₁ (mkF m 37 #[.val (.long (-(n1.toInt64))), .second, vi 0, .val (.long (-1000 : Int64)), .second, vi 3] [(.int 3)]) := pre_74
          exact rtI pre_75 K X0 eH hret hlk k_620 (by decide) (hP _ _ _ ⟨congrArg (fun z => some (Value.int z)) (own_ll03 hn hc52 hc66 hc70 hc73), (Fr.nil n0), rfl⟩)
        · skip
          have pre_76 : Pr p e below E0 s₁ (mkF m 37 #[.val (.long (-(n1.toInt64))), .second, vi 0, .val (.long (-10000 : Int64)), .second, vi 4] [(.int 4)]) := fun t k => pre_72 t <| XS.ifYes X0.here hx rfl (pc0 := 30) (pc' := 38) rfl (hb hby k_616) rfl (XT.ll_le_t hc73) (by decide) (by decide) <| oLl K X0 (oW hw 364 rfl) k_621 rfl <| XT.lloadN X0.here hx rfl (hb hby k_622) rfl <| XT.lmul X0.here hx rfl (hb hby k_623) rfl <| XT.lstoreN X0.here hx rfl (hb hby k_624) rfl (l' := #[.val (.long (-(n1.toInt64))), .second, vi 0, .val (.long (-10000 : Int64)), .second, vi 3]) rfl <| XS.iinc X0.here hx rfl (hb hby k_625) rfl (l' := #[.val (.long (-(n1.toInt64))), .second, vi 0, .val (.long (-10000 : Int64)), .second, vi 4]) rfl <| XS.goto X0.here hx rfl (pc0 := 47) (pc' := 20) rfl (hb hby k_626) (by decide) (by decide) <| oJ K X0 k_610 rfl rfl <| XS.bipush X0.here hx rfl (hb hby k_611) <| XS.icmpNo X0.here hx rfl (hb hby k_612) rfl (XT.ii_ge_f (by decide)) <| XT.lloadN X0.here hx rfl (hb hby k_613) rfl <| XT.lloadN X0.here hx rfl (hb hby k_614) rfl <| XT.lcmp X0.here hx rfl (hb hby k_615) rfl <| XS.ifNo X0.here hx rfl (hb hby k_616) rfl (XT.ll_le_f (own_m4 hn).2.1) <| oJ K X0 k_617 rfl rfl <| oI K X0 k_618 rfl rfl <| XS.iadd X0.here hx rfl (hb hby k_619) rfl <| k
          exact rtI pre_76 K X0 eH hret hlk k_620 (by decide) (hP _ _ _ ⟨congrArg (fun z => some (Value.int z)) (own_ll04 hn hc52 hc66 hc70 hc73), (Fr.nil n0), rfl⟩)
theorem rm_lgc (hw : Hw a0 Z) (n1 : Int32) (i2 : Int32) (a3 : Addr) (aO : Addr) (kO : ClassId) (aT : Addr) (kT : ClassId) (kB : ClassId) (h0 : Heap) (n0 : Nat) (O0 : Old Z n0 h0) (hn : -8192 ≤ n1.toInt ∧ n1.toInt ≤ 8191) (SD1 : Sta Z Z.heap s14_ "DigitOnes" "[B" (.ref aO)) (VO : Arv Z Z.heap aO kO .byte (100 : Int32) own_ones (.int 0)) (SD2 : Sta Z Z.heap s14_ "DigitTens" "[B" (.ref aT)) (VT : Arv Z Z.heap aT kT .byte (100 : Int32) own_tens (.int 0)) (V3 : Arv Z h0 a3 kB .byte (16 : Int32) [] (.int 0)) (g3 : n0 ≤ a3) (hi : i2 = own_len n1) : Met l Z y_48 c_48 11 (some .int) (Rm 0 0 0 0) #[(.long (n1.toInt64)), (.int i2), (.ref a3)] h0 (fun v h L => v = some (.int 0) ∧ Fr n0 L ∧ Keep h0 h [a3] ∧ Arv Z h a3 kB .byte (16 : Int32) ((own_dig n1).map Value.int) (.int 0)) := by
  refine own_met (own := "java/lang/Long") (G := fun m => (mkF m 0 #[.val (.long (n1.toInt64)), .second, vi i2, vr a3, uz, uz, uz, uz, uz, uz, uz] [])) rfl n_48 ?_
  intro p e s m below meth c s₁ E0 P hP K hnm hret hlk hh X0 eH pre0
  obtain ⟨hx, hZ, hown, hby, hml⟩ := id K
  have V3p : Arv Z h0 a3 kB .byte (16 : Int32) (own_z (own_dig n1).length []) (.int 0) := V3.pad (own_zpad _)
  have tA : ∀ (xl : Int64) (s6 s9 s10 : Slot) (iv sv : Int32) (i : Nat) (suf : List Int32) (hiv : iv = Int32.ofNat i) (hsv : (sv = (0 : Int32) ∧ i = 0 ∧ suf = own_dig n1) ∨ (sv = (1 : Int32) ∧ i = 0 + 1 ∧ ((45 : Int32) :: suf) = own_dig n1)) (Tt : State) (lt : List Loc) (ht : Heap) (Xt : Stand p l e (Rm 0 0 0 0) s m #[(.long (n1.toInt64)), (.int i2), (.ref a3)] below meth c Tt lt 0 0) (Nt : Fr n0 lt) (et : Tt.heap = ht) (Ot : Old Z n0 ht) (Kt : Keep h0 ht [a3]) (Vt : Arv Z ht a3 kB .byte (16 : Int32) (own_z i suf) (.int 0)) (pt : Pr p e below E0 Tt (mkF m 178 #[.val (.long xl), .second, vi i2, vr a3, uz, uz, s6, vi iv, vi sv, s9, s10] [])), Gl p e below s E0 P (Rm 0 0 0 0).cells (Rm 0 0 0 0).slots := by
    intro xl s6 s9 s10 iv sv i suf hiv hsv Tt lt ht Xt Nt et Ot Kt Vt pt
    rcases hsv with ⟨rfl, rfl, rfl⟩ | ⟨rfl, rfl, hsuf⟩
    · skip
      have pre_51 := fun t k => pt t <| oJ K Xt k_632 rfl rfl <| XS.ifYes Xt.here hx rfl (pc0 := 180) (pc' := 192) rfl (hb hby k_633) rfl (XT.i0_eq_t (by decide)) (by decide) (by decide) <| oJ K Xt k_634 rfl rfl <| k
      have pre_52 : Pr p e below E0 Tt (mkF m 194 #[.val (.long xl), .second, vi i2, vr a3, uz, uz, s6, vi iv, vi 0, s9, s10] [(.int iv)]) := pre_51
      exact rtI pre_52 K Xt et hret hlk k_635 (by decide) (hP _ _ _ ⟨congrArg (fun z => some (Value.int z)) hiv, Nt, ((Keep.refl h0 [a3]).trans Kt (allS (Or.inl (List.mem_of_getElem? (i := 0) rfl)) all0)), Vt⟩)
    · skip
      have hj := own_dn hiv (by omega)
      have pre_53 := fun t k => pt t <| oJ K Xt k_632 rfl rfl <| XS.ifNo Xt.here hx rfl (hb hby k_633) rfl (XT.i0_eq_f (by decide)) <| oA K Xt k_636 rfl rfl rfl <| XS.iinc Xt.here hx rfl (hb hby k_637) rfl (l' := #[.val (.long xl), .second, vi i2, vr a3, uz, uz, s6, vi (iv + (-1 : Int32)), vi 1, s9, s10]) rfl <| oJ K Xt k_638 rfl rfl <| XS.bipush Xt.here hx rfl (hb hby k_639) <| k
      obtain ⟨cl54, Ar54, q54, S54, M54, H54, G54⟩ := id Vt
      obtain ⟨T54, h54, X54, e54, W54, st54⟩ := stB Xt hx hZ et Ar54 (j := (iv + (-1 : Int32))) (inb_of S54 hj.2.1) (g := (mkF m 191 #[.val (.long xl), .second, vi i2, vr a3, uz, uz, s6, vi (iv + (-1 : Int32)), vi 1, s9, s10] [(.int 45), (.int (iv + (-1 : Int32))), (.ref a3)])) rfl rfl (hb hby k_640)
      have N54 := Fr.snoc X54 Nt g3
      have O54 : Old Z n0 h54 := Ot.wr W54 g3
      rw [own_n45] at W54
      have V54 : Arv Z h54 a3 kB .byte (16 : Int32) (own_z 0 ((45 : Int32) :: suf)) (.int 0) := by
        have r := Arv.set Ar54 q54 S54 M54 H54 G54 (by rw [← own_n45]; exact fits_nar_byte _) W54 (0) hj.2.2 (own_zlt _ _)
        rw [own_zset] at r; exact r
      have pre_55 : Pr p e below E0 T54 (mkF m 192 #[.val (.long xl), .second, vi i2, vr a3, uz, uz, s6, vi (iv + (-1 : Int32)), vi 1, s9, s10] []) := fun t k => pre_53 t (st54 t k)
      have pre_56 := fun t k => pre_55 t <| oJ K X54 k_634 rfl rfl <| k
      have pre_57 : Pr p e below E0 T54 (mkF m 194 #[.val (.long xl), .second, vi i2, vr a3, uz, uz, s6, vi (iv + (-1 : Int32)), vi 1, s9, s10] [(.int (iv + (-1 : Int32)))]) := pre_56
      have u_58 := (((Keep.refl h0 [a3]).trans Kt (allS (Or.inl (List.mem_of_getElem? (i := 0) rfl)) all0)).wr W54 (Or.inl (List.mem_of_getElem? (i := 0) rfl)))
      exact rtI pre_57 K X54 e54 hret hlk k_635 (by decide) (hP _ _ _ ⟨congrArg (fun z => some (Value.int z)) hj.1, N54, u_58, by rw [← hsuf]; exact V54⟩)
  have tB : ∀ (xl : Int64) (s6 s9 : Slot) (iv sv w : Int32) (i : Nat) (suf : List Int32) (hiv : iv = Int32.ofNat i) (hi5 : i ≤ 5) (hr : ¬ (-w) < (0 : Int32) ∧ (-w) < (100 : Int32)) (hfin : own_fin sv i w suf (own_dig n1)) (Tt : State) (lt : List Loc) (ht : Heap) (Xt : Stand p l e (Rm 0 0 0 0) s m #[(.long (n1.toInt64)), (.int i2), (.ref a3)] below meth c Tt lt 0 0) (Nt : Fr n0 lt) (et : Tt.heap = ht) (Ot : Old Z n0 ht) (Kt : Keep h0 ht [a3]) (Vt : Arv Z ht a3 kB .byte (16 : Int32) (own_z i suf) (.int 0)) (pt : Pr p e below E0 Tt (mkF m 143 #[.val (.long xl), .second, vi i2, vr a3, uz, uz, s6, vi iv, vi sv, s9, vi w] [])), Gl p e below s E0 P (Rm 0 0 0 0).cells (Rm 0 0 0 0).slots := by
    intro xl s6 s9 iv sv w i suf hiv hi5 hr hfin Tt lt ht Xt Nt et Ot Kt Vt pt
    obtain ⟨j, rfl⟩ : ∃ j, i = j + 1 := own_fin1 hfin
    have hj := own_dn hiv (by omega)
    have pre_59 := fun t k => pt t <| oA K Xt k_641 rfl rfl rfl <| XS.iinc Xt.here hx rfl (hb hby k_642) rfl (l' := #[.val (.long xl), .second, vi i2, vr a3, uz, uz, s6, vi (iv + (-1 : Int32)), vi sv, s9, vi w]) rfl <| oJ K Xt k_643 rfl rfl <| k
    obtain ⟨T60, X60, e60, pre_60⟩ := gS pre_59 K Xt et (oW hw 68 rfl) (SD1.ext Ot.2) k_644 rfl
    have pre_61 := fun t k => pre_60 t <| oJ K X60 k_645 rfl rfl <| XS.ineg X60.here hx rfl (hb hby k_646) rfl <| oBa K X60 e60 (VO.ext Ot.2) hr (own_og hr _) k_647 rfl rfl <| k
    obtain ⟨cl62, Ar62, q62, S62, M62, H62, G62⟩ := id Vt
    obtain ⟨T62, h62, X62, e62, W62, st62⟩ := stB X60 hx hZ e60 Ar62 (j := (iv + (-1 : Int32))) (inb_of S62 hj.2.1) (g := (mkF m 156 #[.val (.long xl), .second, vi i2, vr a3, uz, uz, s6, vi (iv + (-1 : Int32)), vi sv, s9, vi w] [(.int (own_o (-w))), (.int (iv + (-1 : Int32))), (.ref a3)])) rfl rfl (hb hby k_648)
    have N62 := Fr.snoc X62 Nt g3
    have O62 : Old Z n0 h62 := Ot.wr W62 g3
    rw [(own_onar hr)] at W62
    have V62 : Arv Z h62 a3 kB .byte (16 : Int32) (own_z j ((own_o (-w)) :: suf)) (.int 0) := by
      have r := Arv.set Ar62 q62 S62 M62 H62 G62 (by rw [← (own_onar hr)]; exact fits_nar_byte _) W62 (j) hj.2.2 (own_zlt _ _)
      rw [own_zset] at r; exact r
    have pre_63 : Pr p e below E0 T62 (mkF m 157 #[.val (.long xl), .second, vi i2, vr a3, uz, uz, s6, vi (iv + (-1 : Int32)), vi sv, s9, vi w] []) := fun t k => pre_61 t (st62 t k)
    have pre_64 := fun t k => pre_63 t <| oJ K X62 k_649 rfl rfl <| XS.bipush X62.here hx rfl (hb hby k_650) <| k
    by_cases hc65 : w < (-9 : Int32)
    · skip
      have pre_66 := fun t k => pre_64 t <| XS.icmpNo X62.here hx rfl (hb hby k_651) rfl (XT.ii_ge_f hc65) <| k
      obtain ⟨j2, rfl⟩ := own_fin2 hfin hc65
      have hj2 := own_dn (j := j2) hj.1 (by omega)
      have pre_67 := fun t k => pre_66 t <| oA K X62 k_652 rfl rfl rfl <| XS.iinc X62.here hx rfl (hb hby k_653) rfl (l' := #[.val (.long xl), .second, vi i2, vr a3, uz, uz, s6, vi ((iv + (-1 : Int32)) + (-1 : Int32)), vi sv, s9, vi w]) rfl <| oJ K X62 k_654 rfl rfl <| k
      obtain ⟨T68, X68, e68, pre_68⟩ := gS pre_67 K X62 e62 (oW hw 365 rfl) (SD2.ext O62.2) k_655 rfl
      have pre_69 := fun t k => pre_68 t <| oJ K X68 k_656 rfl rfl <| XS.ineg X68.here hx rfl (hb hby k_657) rfl <| oBa K X68 e68 (VT.ext O62.2) hr (own_tg hr _) k_658 rfl rfl <| k
      obtain ⟨cl70, Ar70, q70, S70, M70, H70, G70⟩ := id V62
      obtain ⟨T70, h70, X70, e70, W70, st70⟩ := stB X68 hx hZ e68 Ar70 (j := ((iv + (-1 : Int32)) + (-1 : Int32))) (inb_of S70 hj2.2.1) (g := (mkF m 177 #[.val (.long xl), .second, vi i2, vr a3, uz, uz, s6, vi ((iv + (-1 : Int32)) + (-1 : Int32)), vi sv, s9, vi w] [(.int (own_t (-w))), (.int ((iv + (-1 : Int32)) + (-1 : Int32))), (.ref a3)])) rfl rfl (hb hby k_659)
      have N70 := Fr.snoc X70 N62 g3
      have O70 : Old Z n0 h70 := O62.wr W70 g3
      rw [(own_tnar hr)] at W70
      have V70 : Arv Z h70 a3 kB .byte (16 : Int32) (own_z j2 ((own_t (-w)) :: ((own_o (-w)) :: suf))) (.int 0) := by
        have r := Arv.set Ar70 q70 S70 M70 H70 G70 (by rw [← (own_tnar hr)]; exact fits_nar_byte _) W70 (j2) hj2.2.2 (own_zlt _ _)
        rw [own_zset] at r; exact r
      have pre_71 : Pr p e below E0 T70 (mkF m 178 #[.val (.long xl), .second, vi i2, vr a3, uz, uz, s6, vi ((iv + (-1 : Int32)) + (-1 : Int32)), vi sv, s9, vi w] []) := fun t k => pre_69 t (st70 t k)
      have u_72 := (((Keep.refl h0 [a3]).trans Kt (allS (Or.inl (List.mem_of_getElem? (i := 0) rfl)) all0)).wr W62 (Or.inl (List.mem_of_getElem? (i := 0) rfl)))
      exact tA xl (s6) (s9) (vi w) ((iv + (-1 : Int32)) + (-1 : Int32)) sv j2 ((own_t (-w)) :: ((own_o (-w)) :: suf)) hj2.1 (own_finT hfin hc65) T70 _ h70 X70 N70 e70 O70 (u_72.wr W70 (Or.inl (List.mem_of_getElem? (i := 0) rfl))) V70 pre_71
    · skip
      have pre_73 := fun t k => pre_64 t <| XS.icmpYes X62.here hx rfl (pc0 := 161) (pc' := 178) rfl (hb hby k_651) rfl (XT.ii_ge_t hc65) (by decide) (by decide) <| k
      have u_74 := (((Keep.refl h0 [a3]).trans Kt (allS (Or.inl (List.mem_of_getElem? (i := 0) rfl)) all0)).wr W62 (Or.inl (List.mem_of_getElem? (i := 0) rfl)))
      exact tA xl (s6) (s9) (vi w) (iv + (-1 : Int32)) sv j ((own_o (-w)) :: suf) hj.1 (own_finF hfin hc65) T62 _ h62 X62 N62 e62 O62 u_74 V62 pre_73
  have pre_75 := fun t k => pre0 t <| oI K X0 k_660 rfl rfl <| XS.istore X0.here hx rfl (hb hby k_661) rfl (l' := #[.val (.long (n1.toInt64)), .second, vi i2, vr a3, uz, uz, uz, vi i2, uz, uz, uz]) rfl <| XT.lloadN X0.here hx rfl (hb hby k_662) rfl <| XT.lconst X0.here hx rfl (hb hby k_663) <| XT.lcmp X0.here hx rfl (hb hby k_664) rfl <| k
  by_cases hc76 : (n1.toInt64) < (0 : Int64)
  · skip
    have pre_77 : Pr p e below E0 s₁ (mkF m 84 #[.val (.long (n1.toInt64)), .second, vi i2, vr a3, uz, uz, uz, vi i2, vi 1, uz, uz] [(.int ((n1.toInt64)).toInt32)]) := fun t k => pre_75 t <| XS.ifNo X0.here hx rfl (hb hby k_665) rfl (XT.ll_ge_f hc76) <| XS.iconst X0.here hx rfl (hb hby k_666) <| XS.goto X0.here hx rfl (pc0 := 10) (pc' := 14) rfl (hb hby k_667) (by decide) (by decide) <| XS.istore X0.here hx rfl (hb hby k_668) rfl (l' := #[.val (.long (n1.toInt64)), .second, vi i2, vr a3, uz, uz, uz, vi i2, vi 1, uz, uz]) rfl <| oJ K X0 k_669 rfl rfl <| XS.ifYes X0.here hx rfl (pc0 := 18) (pc' := 24) rfl (hb hby k_670) rfl (XT.i0_ne_t (by decide)) (by decide) (by decide) <| XT.lloadN X0.here hx rfl (hb hby k_671) rfl <| oLl K X0 (oW hw 67 rfl) k_672 rfl <| XT.lcmp X0.here hx rfl (hb hby k_673) rfl <| XS.ifYes X0.here hx rfl (pc0 := 29) (pc' := 82) rfl (hb hby k_674) rfl (XT.ll_gt_t (own_m4 hn).2.2.1) (by decide) (by decide) <| XT.lloadN X0.here hx rfl (hb hby k_675) rfl <| XT.l2i X0.here hx rfl (hb hby k_676) rfl <| k
    rw [(own_w64n n1)] at pre_77
    have pre_78 := fun t k => pre_77 t <| XS.istore X0.here hx rfl (hb hby k_677) rfl (l' := #[.val (.long (n1.toInt64)), .second, vi i2, vr a3, uz, uz, uz, vi i2, vi 1, uz, vi n1]) rfl <| k
    by_cases hs86 : (-100 : Int32) < n1
    · skip
      obtain ⟨g1, g2⟩ := own_one1 hn hc76 hs86
      have pre_79 := fun t k => pre_78 t <| oJ K X0 k_678 rfl rfl <| XS.bipush X0.here hx rfl (hb hby k_679) <| XS.icmpYes X0.here hx rfl (pc0 := 90) (pc' := 143) rfl (hb hby k_680) rfl (XT.ii_gt_t hs86) (by decide) (by decide) <| k
      exact tB (n1.toInt64) (uz) (uz) i2 (1 : Int32) n1 (own_dig n1).length [] (hi.trans (own_dl hn)) (own_dl5 hn) g1 g2 s₁ _ h0 X0 (Fr.nil n0) eH O0 (Keep.refl h0 [a3]) V3p pre_79
    · skip
      obtain ⟨k2, hk2, g1, g2, g4, g5⟩ := own_two1 hn hc76 hs86
      have V3q := V3p
      rw [hk2] at V3q
      have hj := own_dn (j := k2 + 1) ((hi.trans (own_dl hn)).trans (congrArg Int32.ofNat hk2)) (by have := own_dl5 hn; omega)
      have hj2 := own_dn (j := k2) hj.1 (by have := own_dl5 hn; omega)
      have pre_80 : Pr p e below E0 s₁ (mkF m 120 #[.val (.long (n1.toInt64)), .second, vi i2, vr a3, uz, uz, vi (((n1 / (100 : Int32)) * (100 : Int32)) - n1), vi (i2 + (-1 : Int32)), vi 1, vi (n1 / (100 : Int32)), vi (n1 / (100 : Int32))] [(.int (i2 + (-1 : Int32))), (.ref a3)]) := fun t k => pre_78 t <| oJ K X0 k_678 rfl rfl <| XS.bipush X0.here hx rfl (hb hby k_679) <| XS.icmpNo X0.here hx rfl (hb hby k_680) rfl (XT.ii_gt_f hs86) <| oJ K X0 k_681 rfl rfl <| XS.bipush X0.here hx rfl (hb hby k_682) <| XS.idiv X0.here hx rfl (hb hby k_683) rfl (by decide) <| XS.istore X0.here hx rfl (hb hby k_684) rfl (l' := #[.val (.long (n1.toInt64)), .second, vi i2, vr a3, uz, uz, uz, vi i2, vi 1, vi (n1 / (100 : Int32)), vi n1]) rfl <| oJ K X0 k_685 rfl rfl <| XS.bipush X0.here hx rfl (hb hby k_686) <| XS.imul X0.here hx rfl (hb hby k_687) rfl <| oJ K X0 k_688 rfl rfl <| XS.isub X0.here hx rfl (hb hby k_689) rfl <| XS.istore X0.here hx rfl (hb hby k_690) rfl (l' := #[.val (.long (n1.toInt64)), .second, vi i2, vr a3, uz, uz, vi (((n1 / (100 : Int32)) * (100 : Int32)) - n1), vi i2, vi 1, vi (n1 / (100 : Int32)), vi n1]) rfl <| oJ K X0 k_691 rfl rfl <| XS.istore X0.here hx rfl (hb hby k_692) rfl (l' := #[.val (.long (n1.toInt64)), .second, vi i2, vr a3, uz, uz, vi (((n1 / (100 : Int32)) * (100 : Int32)) - n1), vi i2, vi 1, vi (n1 / (100 : Int32)), vi (n1 / (100 : Int32))]) rfl <| oA K X0 k_693 rfl rfl rfl <| XS.iinc X0.here hx rfl (hb hby k_694) rfl (l' := #[.val (.long (n1.toInt64)), .second, vi i2, vr a3, uz, uz, vi (((n1 / (100 : Int32)) * (100 : Int32)) - n1), vi (i2 + (-1 : Int32)), vi 1, vi (n1 / (100 : Int32)), vi (n1 / (100 : Int32))]) rfl <| oJ K X0 k_695 rfl rfl <| k
      obtain ⟨T81, X81, e81, pre_81⟩ := gS pre_80 K X0 eH (oW hw 68 rfl) (SD1.ext O0.2) k_696 rfl
      have pre_82 := fun t k => pre_81 t <| oJ K X81 k_697 rfl rfl <| oBa K X81 e81 (VO.ext O0.2) g1 (own_og g1 _) k_698 rfl rfl <| k
      obtain ⟨cl83, Ar83, q83, S83, M83, H83, G83⟩ := id V3q
      obtain ⟨T83, h83, X83, e83, W83, st83⟩ := stB X81 hx hZ e81 Ar83 (j := (i2 + (-1 : Int32))) (inb_of S83 hj.2.1) (g := (mkF m 126 #[.val (.long (n1.toInt64)), .second, vi i2, vr a3, uz, uz, vi (((n1 / (100 : Int32)) * (100 : Int32)) - n1), vi (i2 + (-1 : Int32)), vi 1, vi (n1 / (100 : Int32)), vi (n1 / (100 : Int32))] [(.int (own_o (((n1 / (100 : Int32)) * (100 : Int32)) - n1))), (.int (i2 + (-1 : Int32))), (.ref a3)])) rfl rfl (hb hby k_699)
      have N83 := Fr.snoc X83 (Fr.nil n0) g3
      have O83 : Old Z n0 h83 := O0.wr W83 g3
      rw [(own_onar g1)] at W83
      have V83 : Arv Z h83 a3 kB .byte (16 : Int32) (own_z (k2 + 1) ((own_o (((n1 / (100 : Int32)) * (100 : Int32)) - n1)) :: [])) (.int 0) := by
        have r := Arv.set Ar83 q83 S83 M83 H83 G83 (by rw [← (own_onar g1)]; exact fits_nar_byte _) W83 ((k2 + 1)) hj.2.2 (own_zlt _ _)
        rw [own_zset] at r; exact r
      have pre_84 : Pr p e below E0 T83 (mkF m 127 #[.val (.long (n1.toInt64)), .second, vi i2, vr a3, uz, uz, vi (((n1 / (100 : Int32)) * (100 : Int32)) - n1), vi (i2 + (-1 : Int32)), vi 1, vi (n1 / (100 : Int32)), vi (n1 / (100 : Int32))] []) := fun t k => pre_82 t (st83 t k)
      have pre_85 := fun t k => pre_84 t <| oA K X83 k_700 rfl rfl rfl <| XS.iinc X83.here hx rfl (hb hby k_701) rfl (l' := #[.val (.long (n1.toInt64)), .second, vi i2, vr a3, uz, uz, vi (((n1 / (100 : Int32)) * (100 : Int32)) - n1), vi ((i2 + (-1 : Int32)) + (-1 : Int32)), vi 1, vi (n1 / (100 : Int32)), vi (n1 / (100 : Int32))]) rfl <| oJ K X83 k_702 rfl rfl <| k
      obtain ⟨T86, X86, e86, pre_86⟩ := gS pre_85 K X83 e83 (oW hw 365 rfl) (SD2.ext O83.2) k_703 rfl
      have pre_87 := fun t k => pre_86 t <| oJ K X86 k_704 rfl rfl <| oBa K X86 e86 (VT.ext O83.2) g1 (own_tg g1 _) k_705 rfl rfl <| k
      obtain ⟨cl88, Ar88, q88, S88, M88, H88, G88⟩ := id V83
      obtain ⟨T88, h88, X88, e88, W88, st88⟩ := stB X86 hx hZ e86 Ar88 (j := ((i2 + (-1 : Int32)) + (-1 : Int32))) (inb_of S88 hj2.2.1) (g := (mkF m 139 #[.val (.long (n1.toInt64)), .second, vi i2, vr a3, uz, uz, vi (((n1 / (100 : Int32)) * (100 : Int32)) - n1), vi ((i2 + (-1 : Int32)) + (-1 : Int32)), vi 1, vi (n1 / (100 : Int32)), vi (n1 / (100 : Int32))] [(.int (own_t (((n1 / (100 : Int32)) * (100 : Int32)) - n1))), (.int ((i2 + (-1 : Int32)) + (-1 : Int32))), (.ref a3)])) rfl rfl (hb hby k_706)
      have N88 := Fr.snoc X88 N83 g3
      have O88 : Old Z n0 h88 := O83.wr W88 g3
      rw [(own_tnar g1)] at W88
      have V88 : Arv Z h88 a3 kB .byte (16 : Int32) (own_z k2 ((own_t (((n1 / (100 : Int32)) * (100 : Int32)) - n1)) :: ((own_o (((n1 / (100 : Int32)) * (100 : Int32)) - n1)) :: []))) (.int 0) := by
        have r := Arv.set Ar88 q88 S88 M88 H88 G88 (by rw [← (own_tnar g1)]; exact fits_nar_byte _) W88 (k2) hj2.2.2 (own_zlt _ _)
        rw [own_zset] at r; exact r
      have pre_89 : Pr p e below E0 T88 (mkF m 140 #[.val (.long (n1.toInt64)), .second, vi i2, vr a3, uz, uz, vi (((n1 / (100 : Int32)) * (100 : Int32)) - n1), vi ((i2 + (-1 : Int32)) + (-1 : Int32)), vi 1, vi (n1 / (100 : Int32)), vi (n1 / (100 : Int32))] []) := fun t k => pre_87 t (st88 t k)
      have pre_90 := fun t k => pre_89 t <| XS.goto X88.here hx rfl (pc0 := 140) (pc' := 86) rfl (hb hby k_707) (by decide) (by decide) <| oJ K X88 k_678 rfl rfl <| XS.bipush X88.here hx rfl (hb hby k_679) <| XS.icmpYes X88.here hx rfl (pc0 := 90) (pc' := 143) rfl (hb hby k_680) rfl (XT.ii_gt_t g2) (by decide) (by decide) <| k
      have u_91 := (((Keep.refl h0 [a3]).wr W83 (Or.inl (List.mem_of_getElem? (i := 0) rfl))).wr W88 (Or.inl (List.mem_of_getElem? (i := 0) rfl)))
      exact tB (n1.toInt64) (vi (((n1 / (100 : Int32)) * (100 : Int32)) - n1)) (vi (n1 / (100 : Int32))) ((i2 + (-1 : Int32)) + (-1 : Int32)) (1 : Int32) (n1 / (100 : Int32)) k2 [(own_t (((n1 / (100 : Int32)) * (100 : Int32)) - n1)), (own_o (((n1 / (100 : Int32)) * (100 : Int32)) - n1))] hj2.1 (by have := own_dl5 hn; omega) g4 g5 T88 _ h88 X88 N88 e88 O88 u_91 V88 pre_90
  · skip
    have pre_92 : Pr p e below E0 s₁ (mkF m 84 #[.val (.long (-(n1.toInt64))), .second, vi i2, vr a3, uz, uz, uz, vi i2, vi 0, uz, uz] [(.int ((-(n1.toInt64))).toInt32)]) := fun t k => pre_75 t <| XS.ifYes X0.here hx rfl (pc0 := 6) (pc' := 13) rfl (hb hby k_665) rfl (XT.ll_ge_t hc76) (by decide) (by decide) <| XS.iconst X0.here hx rfl (hb hby k_708) <| XS.istore X0.here hx rfl (hb hby k_668) rfl (l' := #[.val (.long (n1.toInt64)), .second, vi i2, vr a3, uz, uz, uz, vi i2, vi 0, uz, uz]) rfl <| oJ K X0 k_669 rfl rfl <| XS.ifNo X0.here hx rfl (hb hby k_670) rfl (XT.i0_ne_f (by decide)) <| XT.lloadN X0.here hx rfl (hb hby k_709) rfl <| XT.lneg X0.here hx rfl (hb hby k_710) rfl <| XT.lstoreN X0.here hx rfl (hb hby k_711) rfl (l' := #[.val (.long (-(n1.toInt64))), .second, vi i2, vr a3, uz, uz, uz, vi i2, vi 0, uz, uz]) rfl <| XT.lloadN X0.here hx rfl (hb hby k_671) rfl <| oLl K X0 (oW hw 67 rfl) k_672 rfl <| XT.lcmp X0.here hx rfl (hb hby k_673) rfl <| XS.ifYes X0.here hx rfl (pc0 := 29) (pc' := 82) rfl (hb hby k_674) rfl (XT.ll_gt_t (own_m4 hn).2.2.2) (by decide) (by decide) <| XT.lloadN X0.here hx rfl (hb hby k_675) rfl <| XT.l2i X0.here hx rfl (hb hby k_676) rfl <| k
    rw [(own_w64p n1)] at pre_92
    have pre_93 := fun t k => pre_92 t <| XS.istore X0.here hx rfl (hb hby k_677) rfl (l' := #[.val (.long (-(n1.toInt64))), .second, vi i2, vr a3, uz, uz, uz, vi i2, vi 0, uz, vi (-n1)]) rfl <| k
    by_cases hs86 : (-100 : Int32) < (-n1)
    · skip
      obtain ⟨g1, g2⟩ := own_one0 hn hc76 hs86
      have pre_94 := fun t k => pre_93 t <| oJ K X0 k_678 rfl rfl <| XS.bipush X0.here hx rfl (hb hby k_679) <| XS.icmpYes X0.here hx rfl (pc0 := 90) (pc' := 143) rfl (hb hby k_680) rfl (XT.ii_gt_t hs86) (by decide) (by decide) <| k
      exact tB (-(n1.toInt64)) (uz) (uz) i2 (0 : Int32) (-n1) (own_dig n1).length [] (hi.trans (own_dl hn)) (own_dl5 hn) g1 g2 s₁ _ h0 X0 (Fr.nil n0) eH O0 (Keep.refl h0 [a3]) V3p pre_94
    · skip
      obtain ⟨k2, hk2, g1, g2, g4, g5⟩ := own_two0 hn hc76 hs86
      have V3q := V3p
      rw [hk2] at V3q
      have hj := own_dn (j := k2 + 1) ((hi.trans (own_dl hn)).trans (congrArg Int32.ofNat hk2)) (by have := own_dl5 hn; omega)
      have hj2 := own_dn (j := k2) hj.1 (by have := own_dl5 hn; omega)
      have pre_95 : Pr p e below E0 s₁ (mkF m 120 #[.val (.long (-(n1.toInt64))), .second, vi i2, vr a3, uz, uz, vi ((((-n1) / (100 : Int32)) * (100 : Int32)) - (-n1)), vi (i2 + (-1 : Int32)), vi 0, vi ((-n1) / (100 : Int32)), vi ((-n1) / (100 : Int32))] [(.int (i2 + (-1 : Int32))), (.ref a3)]) := fun t k => pre_93 t <| oJ K X0 k_678 rfl rfl <| XS.bipush X0.here hx rfl (hb hby k_679) <| XS.icmpNo X0.here hx rfl (hb hby k_680) rfl (XT.ii_gt_f hs86) <| oJ K X0 k_681 rfl rfl <| XS.bipush X0.here hx rfl (hb hby k_682) <| XS.idiv X0.here hx rfl (hb hby k_683) rfl (by decide) <| XS.istore X0.here hx rfl (hb hby k_684) rfl (l' := #[.val (.long (-(n1.toInt64))), .second, vi i2, vr a3, uz, uz, uz, vi i2, vi 0, vi ((-n1) / (100 : Int32)), vi (-n1)]) rfl <| oJ K X0 k_685 rfl rfl <| XS.bipush X0.here hx rfl (hb hby k_686) <| XS.imul X0.here hx rfl (hb hby k_687) rfl <| oJ K X0 k_688 rfl rfl <| XS.isub X0.here hx rfl (hb hby k_689) rfl <| XS.istore X0.here hx rfl (hb hby k_690) rfl (l' := #[.val (.long (-(n1.toInt64))), .second, vi i2, vr a3, uz, uz, vi ((((-n1) / (100 : Int32)) * (100 : Int32)) - (-n1)), vi i2, vi 0, vi ((-n1) / (100 : Int32)), vi (-n1)]) rfl <| oJ K X0 k_691 rfl rfl <| XS.istore X0.here hx rfl (hb hby k_692) rfl (l' := #[.val (.long (-(n1.toInt64))), .second, vi i2, vr a3, uz, uz, vi ((((-n1) / (100 : Int32)) * (100 : Int32)) - (-n1)), vi i2, vi 0, vi ((-n1) / (100 : Int32)), vi ((-n1) / (100 : Int32))]) rfl <| oA K X0 k_693 rfl rfl rfl <| XS.iinc X0.here hx rfl (hb hby k_694) rfl (l' := #[.val (.long (-(n1.toInt64))), .second, vi i2, vr a3, uz, uz, vi ((((-n1) / (100 : Int32)) * (100 : Int32)) - (-n1)), vi (i2 + (-1 : Int32)), vi 0, vi ((-n1) / (100 : Int32)), vi ((-n1) / (100 : Int32))]) rfl <| oJ K X0 k_695 rfl rfl <| k
      obtain ⟨T96, X96, e96, pre_96⟩ := gS pre_95 K X0 eH (oW hw 68 rfl) (SD1.ext O0.2) k_696 rfl
      have pre_97 := fun t k => pre_96 t <| oJ K X96 k_697 rfl rfl <| oBa K X96 e96 (VO.ext O0.2) g1 (own_og g1 _) k_698 rfl rfl <| k
      obtain ⟨cl98, Ar98, q98, S98, M98, H98, G98⟩ := id V3q
      obtain ⟨T98, h98, X98, e98, W98, st98⟩ := stB X96 hx hZ e96 Ar98 (j := (i2 + (-1 : Int32))) (inb_of S98 hj.2.1) (g := (mkF m 126 #[.val (.long (-(n1.toInt64))), .second, vi i2, vr a3, uz, uz, vi ((((-n1) / (100 : Int32)) * (100 : Int32)) - (-n1)), vi (i2 + (-1 : Int32)), vi 0, vi ((-n1) / (100 : Int32)), vi ((-n1) / (100 : Int32))] [(.int (own_o ((((-n1) / (100 : Int32)) * (100 : Int32)) - (-n1)))), (.int (i2 + (-1 : Int32))), (.ref a3)])) rfl rfl (hb hby k_699)
      have N98 := Fr.snoc X98 (Fr.nil n0) g3
      have O98 : Old Z n0 h98 := O0.wr W98 g3
      rw [(own_onar g1)] at W98
      have V98 : Arv Z h98 a3 kB .byte (16 : Int32) (own_z (k2 + 1) ((own_o ((((-n1) / (100 : Int32)) * (100 : Int32)) - (-n1))) :: [])) (.int 0) := by
        have r := Arv.set Ar98 q98 S98 M98 H98 G98 (by rw [← (own_onar g1)]; exact fits_nar_byte _) W98 ((k2 + 1)) hj.2.2 (own_zlt _ _)
        rw [own_zset] at r; exact r
      have pre_99 : Pr p e below E0 T98 (mkF m 127 #[.val (.long (-(n1.toInt64))), .second, vi i2, vr a3, uz, uz, vi ((((-n1) / (100 : Int32)) * (100 : Int32)) - (-n1)), vi (i2 + (-1 : Int32)), vi 0, vi ((-n1) / (100 : Int32)), vi ((-n1) / (100 : Int32))] []) := fun t k => pre_97 t (st98 t k)
      have pre_100 := fun t k => pre_99 t <| oA K X98 k_700 rfl rfl rfl <| XS.iinc X98.here hx rfl (hb hby k_701) rfl (l' := #[.val (.long (-(n1.toInt64))), .second, vi i2, vr a3, uz, uz, vi ((((-n1) / (100 : Int32)) * (100 : Int32)) - (-n1)), vi ((i2 + (-1 : Int32)) + (-1 : Int32)), vi 0, vi ((-n1) / (100 : Int32)), vi ((-n1) / (100 : Int32))]) rfl <| oJ K X98 k_702 rfl rfl <| k
      obtain ⟨T101, X101, e101, pre_101⟩ := gS pre_100 K X98 e98 (oW hw 365 rfl) (SD2.ext O98.2) k_703 rfl
      have pre_102 := fun t k => pre_101 t <| oJ K X101 k_704 rfl rfl <| oBa K X101 e101 (VT.ext O98.2) g1 (own_tg g1 _) k_705 rfl rfl <| k
      obtain ⟨cl103, Ar103, q103, S103, M103, H103, G103⟩ := id V98
      obtain ⟨T103, h103, X103, e103, W103, st103⟩ := stB X101 hx hZ e101 Ar103 (j := ((i2 + (-1 : Int32)) + (-1 : Int32))) (inb_of S103 hj2.2.1) (g := (mkF m 139 #[.val (.long (-(n1.toInt64))), .second, vi i2, vr a3, uz, uz, vi ((((-n1) / (100 : Int32)) * (100 : Int32)) - (-n1)), vi ((i2 + (-1 : Int32)) + (-1 : Int32)), vi 0, vi ((-n1) / (100 : Int32)), vi ((-n1) / (100 : Int32))] [(.int (own_t ((((-n1) / (100 : Int32)) * (100 : Int32)) - (-n1)))), (.int ((i2 + (-1 : Int32)) + (-1 : Int32))), (.ref a3)])) rfl rfl (hb hby k_706)
      have N103 := Fr.snoc X103 N98 g3
      have O103 : Old Z n0 h103 := O98.wr W103 g3
      rw [(own_tnar g1)] at W103
      have V103 : Arv Z h103 a3 kB .byte (16 : Int32) (own_z k2 ((own_t ((((-n1) / (100 : Int32)) * (100 : Int32)) - (-n1))) :: ((own_o ((((-n1) / (100 : Int32)) * (100 : Int32)) - (-n1))) :: []))) (.int 0) := by
        have r := Arv.set Ar103 q103 S103 M103 H103 G103 (by rw [← (own_tnar g1)]; exact fits_nar_byte _) W103 (k2) hj2.2.2 (own_zlt _ _)
        rw [own_zset] at r; exact r
      have pre_104 : Pr p e below E0 T103 (mkF m 140 #[.val (.long (-(n1.toInt64))), .second, vi i2, vr a3, uz, uz, vi ((((-n1) / (100 : Int32)) * (100 : Int32)) - (-n1)), vi ((i2 + (-1 : Int32)) + (-1 : Int32)), vi 0, vi ((-n1) / (100 : Int32)), vi ((-n1) / (100 : Int32))] []) := fun t k => pre_102 t (st103 t k)
      have pre_105 := fun t k => pre_104 t <| XS.goto X103.here hx rfl (pc0 := 140) (pc' := 86) rfl (hb hby k_707) (by decide) (by decide) <| oJ K X103 k_678 rfl rfl <| XS.bipush X103.here hx rfl (hb hby k_679) <| XS.icmpYes X103.here hx rfl (pc0 := 90) (pc' := 143) rfl (hb hby k_680) rfl (XT.ii_gt_t g2) (by decide) (by decide) <| k
      have u_106 := (((Keep.refl h0 [a3]).wr W98 (Or.inl (List.mem_of_getElem? (i := 0) rfl))).wr W103 (Or.inl (List.mem_of_getElem? (i := 0) rfl)))
      exact tB (-(n1.toInt64)) (vi ((((-n1) / (100 : Int32)) * (100 : Int32)) - (-n1))) (vi ((-n1) / (100 : Int32))) ((i2 + (-1 : Int32)) + (-1 : Int32)) (0 : Int32) ((-n1) / (100 : Int32)) k2 [(own_t ((((-n1) / (100 : Int32)) * (100 : Int32)) - (-n1))), (own_o ((((-n1) / (100 : Int32)) * (100 : Int32)) - (-n1)))] hj2.1 (by have := own_dl5 hn; omega) g4 g5 T103 _ h103 X103 N103 e103 O103 u_106 V103 pre_105
theorem rm_aaj (hw : Hw a0 Z) (a1 : Addr) (n1 : Int32) (G1 : Int32) (b2 : Addr) (kD : ClassId) (aO : Addr) (kO : ClassId) (aT : Addr) (kT : ClassId) (h0 : Heap) (n0 : Nat) (O0 : Old Z n0 h0) (Ea1 : Exa Z h0 a1 s4_) (g1 : n0 ≤ a1) (Fb1 : Fld Z h0 a1 s1_ "value" "[B" (.ref b2)) (Fb2 : Fld Z h0 a1 s1_ "coder" "B" (.int 0)) (Fb3 : Fld Z h0 a1 s1_ "count" "I" (.int 0)) (Fb4 : Fld Z h0 a1 s1_ s5_ "Z" (.int 0)) (V3 : Arv Z h0 b2 kD .byte (16 : Int32) [] (.int 0)) (g2 : n0 ≤ b2) (SC : Sta Z Z.heap s2_ s6_ "Z" (.int G1)) (hG : ¬ G1 = (0 : Int32)) (hn : -8192 ≤ n1.toInt ∧ n1.toInt ≤ 8191) (SD1 : Sta Z Z.heap s14_ "DigitOnes" "[B" (.ref aO)) (VO : Arv Z Z.heap aO kO .byte (100 : Int32) own_ones (.int 0)) (SD2 : Sta Z Z.heap s14_ "DigitTens" "[B" (.ref aT)) (VT : Arv Z Z.heap aT kT .byte (100 : Int32) own_tens (.int 0)) : Met l Z y_49 c_49 5 (some (.object s1_)) (Rm 4 0 0 60) #[(.ref a1), (.long (n1.toInt64))] h0 (fun v h L => v = some (.ref a1) ∧ Fr n0 L ∧ Keep h0 h [a1, b2] ∧ Fld Z h a1 s1_ "value" "[B" (.ref b2) ∧ Fld Z h a1 s1_ "coder" "B" (.int 0) ∧ Fld Z h a1 s1_ "count" "I" (.int (own_len n1)) ∧ Fld Z h a1 s1_ s5_ "Z" (.int 0) ∧ Arv Z h b2 kD .byte (16 : Int32) ((own_dig n1).map Value.int) (.int 0)) := by
  refine own_met (own := s1_) (G := fun m => (mkF m 0 #[vr a1, .val (.long (n1.toInt64)), .second, uz, uz] [])) rfl n_49 ?_
  intro p e s m below meth c s₁ E0 P hP K hnm hret hlk hh X0 eH pre0
  obtain ⟨hx, hZ, hown, hby, hml⟩ := id K
  have pre_51 := fun t k => pre0 t <| oA K X0 k_712 rfl rfl rfl <| k
  obtain ⟨T52, X52, e52, pre_52⟩ := gF pre_51 K X0 eH (oW hw 47 rfl) Via.refl Fb3 k_713 rfl rfl
  have pre_53 := fun t k => pre_52 t <| XS.istoreN X52.here hx rfl (hb hby k_714) rfl (l' := #[vr a1, .val (.long (n1.toInt64)), .second, vi 0, uz]) rfl <| oI K X52 k_715 rfl rfl <| XT.lloadN X52.here hx rfl (hb hby k_716) rfl <| k
  obtain ⟨T54, _, L54, X54, ⟨rfl, N54q, e54⟩, pre_54⟩ := cS pre_53 K X52 e52 (rm_lss l Z a0 hw n1 h0 n0 O0 hn) (oW hw 49 rfl) (oW hw 50 rfl) (oW hw 51 rfl) (oW hw 52 rfl) rfl (lenOf d_29 rfl) k_717 rfl rfl rfl (W := 1) (Nat.le_of_eq rfl) (by decide)
  have N54 := Fr.app (Fr.nil n0) N54q
  have pre_55 := fun t k => pre_54 t <| XS.iadd X54.here hx rfl (hb hby k_718) rfl <| k
  have pre_56 : Pr p e below E0 T54 (mkF m 11 #[vr a1, .val (.long (n1.toInt64)), .second, vi 0, uz] [(.int ((0 : Int32) + (own_len n1)))]) := pre_55
  rw [(own_z0 (own_len n1))] at pre_56
  have pre_57 := fun t k => pre_56 t <| XS.istore X54.here hx rfl (hb hby k_719) rfl (l' := #[vr a1, .val (.long (n1.toInt64)), .second, vi 0, vi (own_len n1)]) rfl <| oA K X54 k_720 rfl rfl rfl <| oJ K X54 k_721 rfl rfl <| k
  obtain ⟨T58, _, L58, X58, ⟨rfl, N58q, e58⟩, pre_58⟩ := cP pre_57 K X54 e54 (rm_ecn0 l Z a0 hw a1 (own_len n1) (16 : Int32) b2 kD [] h0 n0 O0 Fb1 Fb2 V3 (own_l16 hn)) (oW hw 54 rfl) (oW hw 55 rfl) (oW hw 26 rfl) (oW hw 58 rfl) (oW hw 56 rfl) (oW hw 57 rfl) Ea1 rfl (lenOf d_9 rfl) k_722 rfl rfl rfl (W := 0) (Nat.le_of_eq rfl) (by decide)
  have N58 := Fr.app N54 N58q
  have pre_59 := fun t k => pre_58 t <| oA K X58 k_723 rfl rfl rfl <| k
  obtain ⟨T60, _, L60, X60, ⟨rfl, N60q, e60⟩, pre_60⟩ := cV pre_59 K X58 e58 (rm_bl0 l Z a0 hw a1 G1 h0 n0 O0 Fb2 SC hG) (oW hw 59 rfl) (oW hw 61 rfl) (oW hw 26 rfl) (oW hw 63 rfl) (oW hw 60 rfl) (oW hw 62 rfl) (notFace_of_selects (args := #[]) (mvT hZ (oW hw 62 rfl))) Ea1 rfl (lenOf d_15 rfl) k_724 rfl rfl rfl (W := 0) (Nat.le_of_eq rfl) (by decide)
  have N60 := Fr.app N58 N60q
  have pre_61 := fun t k => pre_60 t <| XS.ifNo X60.here hx rfl (hb hby k_725) rfl (XT.i0_eq_f (by decide)) <| XT.lloadN X60.here hx rfl (hb hby k_726) rfl <| oJ K X60 k_727 rfl rfl <| oA K X60 k_728 rfl rfl rfl <| k
  obtain ⟨T62, X62, e62, pre_62⟩ := gF pre_61 K X60 e60 (oW hw 32 rfl) Via.refl Fb1 k_729 rfl rfl
  obtain ⟨T63, _, L63, X63, ⟨rfl, N63q, K63, Vb63⟩, pre_63⟩ := cS pre_62 K X62 e62 (rm_lgc l Z a0 hw n1 (own_len n1) b2 aO kO aT kT kD h0 n0 O0 hn SD1 VO SD2 VT V3 g2 rfl) (oW hw 64 rfl) (oW hw 65 rfl) (oW hw 51 rfl) (oW hw 66 rfl) rfl (lenOf d_30 rfl) k_730 rfl rfl rfl (W := 0) (Nat.le_of_eq rfl) (by decide)
  have N63 := Fr.app N60 N63q
  have O63 : Old Z n0 T63.heap := O0.keep K63 (allS g2 all0)
  have pre_64 : Pr p e below E0 T63 (mkF m 55 #[vr a1, .val (.long (n1.toInt64)), .second, vi 0, vi (own_len n1)] [(.int (own_len n1)), (.ref a1)]) := fun t k => pre_63 t <| XT.pop X63.here hx rfl (hb hby k_731) rfl rfl <| XS.goto X63.here hx rfl (pc0 := 37) (pc' := 52) rfl (hb hby k_732) (by decide) (by decide) <| oA K X63 k_733 rfl rfl rfl <| oJ K X63 k_734 rfl rfl <| k
  have x_65 := ((Exa.neArv (Ea1.keep K63) Vb63 (oW hw 17 rfl)))
  obtain ⟨T66, h66, X66, e66, W66, Fw66, pre_66⟩ := pF pre_64 K X63 rfl .int (oW hw 47 rfl) (Fb3.keep K63 (ninS x_65 nin0)) (Ea1.keep K63) (Or.inl (oW hw 48 rfl)) (oW hw 17 rfl) k_735 rfl rfl (by decide) rfl rfl
  have N66 := Fr.snoc X66 N63 g1
  have O66 := O63.wr W66 g1
  have pre_67 := fun t k => pre_66 t <| oA K X66 k_736 rfl rfl rfl <| k
  have f_68 := ((Fb1.keep K63 (ninS x_65 nin0)).other W66 (Or.inr (slot_ne (Or.inl (oW hw 33 rfl)) (Or.inl (oW hw 48 rfl)) (by decide) (t := (.array .byte)) (t' := .int) (by decide) (by decide))))
  have u_69 := ((Keep.refl h0 [a1, b2]).trans K63 (allS (Or.inl (List.mem_of_getElem? (i := 1) rfl)) all0))
  have f_70 := ((Fb2.keep K63 (ninS x_65 nin0)).other W66 (Or.inr (slot_ne (Or.inl (oW hw 35 rfl)) (Or.inl (oW hw 48 rfl)) (by decide) (t := .byte) (t' := .int) (by decide) (by decide))))
  have f_71 := ((Fb4.keep K63 (ninS x_65 nin0)).other W66 (Or.inr (slot_ne (Or.inl (oW hw 406 rfl)) (Or.inl (oW hw 48 rfl)) (by decide) (t := .boolean) (t' := .int) (by decide) (by decide))))
  exact rtA pre_67 K X66 e66 hret hlk k_737 (by decide) ⟨rfl, rfl⟩ (hP _ _ _ ⟨rfl, N66, (u_69.wr W66 (Or.inl (List.mem_of_getElem? (i := 0) rfl))), f_68, f_70, Fw66, f_71, (Vb63.other W66 (Ne.symm x_65))⟩)
theorem rm_baj (hw : Hw a0 Z) (a1 : Addr) (n1 : Int32) (G1 : Int32) (b2 : Addr) (kD : ClassId) (aO : Addr) (kO : ClassId) (aT : Addr) (kT : ClassId) (h0 : Heap) (n0 : Nat) (O0 : Old Z n0 h0) (Ea1 : Exa Z h0 a1 s4_) (g1 : n0 ≤ a1) (Fb1 : Fld Z h0 a1 s1_ "value" "[B" (.ref b2)) (Fb2 : Fld Z h0 a1 s1_ "coder" "B" (.int 0)) (Fb3 : Fld Z h0 a1 s1_ "count" "I" (.int 0)) (Fb4 : Fld Z h0 a1 s1_ s5_ "Z" (.int 0)) (V3 : Arv Z h0 b2 kD .byte (16 : Int32) [] (.int 0)) (g2 : n0 ≤ b2) (SC : Sta Z Z.heap s2_ s6_ "Z" (.int G1)) (hG : ¬ G1 = (0 : Int32)) (hn : -8192 ≤ n1.toInt ∧ n1.toInt ≤ 8191) (SD1 : Sta Z Z.heap s14_ "DigitOnes" "[B" (.ref aO)) (VO : Arv Z Z.heap aO kO .byte (100 : Int32) own_ones (.int 0)) (SD2 : Sta Z Z.heap s14_ "DigitTens" "[B" (.ref aT)) (VT : Arv Z Z.heap aT kT .byte (100 : Int32) own_tens (.int 0)) : Met l Z y_50 c_50 3 (some (.object s4_)) (Rm 5 0 0 80) #[(.ref a1), (.long (n1.toInt64))] h0 (fun v h L => v = some (.ref a1) ∧ Fr n0 L ∧ Keep h0 h [a1, b2] ∧ Fld Z h a1 s1_ "value" "[B" (.ref b2) ∧ Fld Z h a1 s1_ "coder" "B" (.int 0) ∧ Fld Z h a1 s1_ "count" "I" (.int (own_len n1)) ∧ Fld Z h a1 s1_ s5_ "Z" (.int 0) ∧ Arv Z h b2 kD .byte (16 : Int32) ((own_dig n1).map Value.int) (.int 0)) := by
  refine own_met (own := s4_) (G := fun m => (mkF m 0 #[vr a1, .val (.long (n1.toInt64)), .second] [])) rfl n_50 ?_
  intro p e s m below meth c s₁ E0 P hP K hnm hret hlk hh X0 eH pre0
  obtain ⟨hx, hZ, hown, hby, hml⟩ := id K
  have pre_51 := fun t k => pre0 t <| oA K X0 k_738 rfl rfl rfl <| XT.lloadN X0.here hx rfl (hb hby k_739) rfl <| k
  obtain ⟨T52, _, L52, X52, ⟨rfl, N52q, K52, Fv52, Fd52, Fk52, Fm52, Vb52⟩, pre_52⟩ := cU pre_51 K X0 eH (rm_aaj l Z a0 hw a1 n1 G1 b2 kD aO kO aT kT h0 n0 O0 Ea1 g1 Fb1 Fb2 Fb3 Fb4 V3 g2 SC hG hn SD1 VO SD2 VT) (oW hw 42 rfl) (oW hw 43 rfl) (oW hw 26 rfl) (oW hw 46 rfl) (oW hw 57 rfl) (oW hw 55 rfl) (oW hw 44 rfl) rfl Ea1 rfl (lenOf d_31 rfl) k_740 rfl rfl rfl (W := 0) (Nat.le_of_eq rfl) (by decide) (by decide)
  have N52 := Fr.app (Fr.nil n0) N52q
  have O52 : Old Z n0 T52.heap := O0.keep K52 (allS g1 (allS g2 all0))
  have pre_53 := fun t k => pre_52 t <| XT.pop X52.here hx rfl (hb hby k_741) rfl rfl <| oA K X52 k_742 rfl rfl rfl <| k
  have u_54 := ((Keep.refl h0 [a1, b2]).trans K52 (allS (Or.inl (List.mem_of_getElem? (i := 0) rfl)) (allS (Or.inl (List.mem_of_getElem? (i := 1) rfl)) all0)))
  exact rtA pre_53 K X52 rfl hret hlk k_743 (by decide) ⟨rfl, rfl⟩ (hP _ _ _ ⟨rfl, N52, u_54, Fv52, Fd52, Fk52, Fm52, Vb52⟩)
theorem rm_gch (hw : Hw a0 Z) (a1 : Addr) (i1 : Int32) (j1 z1 c1 : Int32) (kB : ClassId) (ls : List Value) (h0 : Heap) (n0 : Nat) (O0 : Old Z n0 h0) (V1 : Arv Z h0 a1 kB .byte z1 ls (.int 0)) (hj : (i1 <<< ((1 : Int32) &&& 31)) = j1) (hb1 : ¬ j1 < 0 ∧ j1 < z1) (hb2 : ¬ (j1 + (1 : Int32)) < 0 ∧ (j1 + (1 : Int32)) < z1) (hg1 : ls.getD j1.toNatClampNeg (.int 0) = .int (own_lo c1)) (hg2 : ls.getD (j1 + (1 : Int32)).toNatClampNeg (.int 0) = .int (own_hi c1)) (hc : 0 ≤ c1.toInt ∧ c1.toInt < 65536) (SU1 : Sta Z Z.heap s3_ s9_ "Z" (.int 1)) (SU2 : Sta Z Z.heap s3_ s10_ "I" (.int 0)) (SU3 : Sta Z Z.heap s3_ s11_ "I" (.int 8)) : Met l Z y_51 c_51 2 (some .char) (Rm 0 0 0 0) #[(.ref a1), (.int i1)] h0 (fun v h L => v = some (.int c1) ∧ Fr n0 L ∧ h = h0) := by
  refine own_met (own := s3_) (G := fun m => (mkF m 0 #[vr a1, vi i1] [])) rfl n_51 ?_
  intro p e s m below meth c s₁ E0 P hP K hnm hret hlk hh X0 eH pre0
  obtain ⟨hx, hZ, hown, hby, hml⟩ := id K
  obtain ⟨T51, X51, e51, pre_51⟩ := gS pre0 K X0 eH (oW hw 318 rfl) (SU1.ext O0.2) k_744 rfl
  have pre_52 := fun t k => pre_51 t <| XS.ifYes X51.here hx rfl (pc0 := 3) (pc' := 28) rfl (hb hby k_745) rfl (XT.i0_ne_t (by decide)) (by decide) (by decide) <| oI K X51 k_746 rfl rfl <| XS.iconst X51.here hx rfl (hb hby k_747) <| XT.ishl X51.here hx rfl (hb hby k_748) rfl <| k
  have pre_53 : Pr p e below E0 T51 (mkF m 31 #[vr a1, vi i1] [(.int (i1 <<< ((1 : Int32) &&& 31)))]) := pre_52
  rw [hj] at pre_53
  have pre_54 := fun t k => pre_53 t <| XS.istoreN X51.here hx rfl (hb hby k_749) rfl (l' := #[vr a1, vi j1]) rfl <| oA K X51 k_750 rfl rfl rfl <| oI K X51 k_751 rfl rfl <| XS.iinc X51.here hx rfl (hb hby k_752) rfl (l' := #[vr a1, vi (j1 + (1 : Int32))]) rfl <| oBa K X51 e51 V1 hb1 hg1 k_753 rfl rfl <| XS.sipush X51.here hx rfl (hb hby k_754) <| XS.iand X51.here hx rfl (hb hby k_755) rfl <| k
  obtain ⟨T55, X55, e55, pre_55⟩ := gS pre_54 K X51 e51 (oW hw 319 rfl) (SU2.ext O0.2) k_756 rfl
  have pre_56 : Pr p e below E0 T55 (mkF m 53 #[vr a1, vi (j1 + (1 : Int32))] [(.int ((own_hi c1) &&& (255 : Int32))), (.int (((own_lo c1) &&& (255 : Int32)) <<< ((0 : Int32) &&& 31)))]) := fun t k => pre_55 t <| XT.ishl X55.here hx rfl (hb hby k_757) rfl <| oA K X55 k_758 rfl rfl rfl <| oI K X55 k_759 rfl rfl <| oBa K X55 e55 V1 hb2 hg2 k_760 rfl rfl <| XS.sipush X55.here hx rfl (hb hby k_761) <| XS.iand X55.here hx rfl (hb hby k_762) rfl <| k
  obtain ⟨T57, X57, e57, pre_57⟩ := gS pre_56 K X55 e55 (oW hw 320 rfl) (SU3.ext O0.2) k_763 rfl
  have pre_58 := fun t k => pre_57 t <| XT.ishl X57.here hx rfl (hb hby k_764) rfl <| XT.ior X57.here hx rfl (hb hby k_765) rfl <| XT.i2c X57.here hx rfl (hb hby k_766) rfl <| k
  have pre_59 : Pr p e below E0 T57 (mkF m 59 #[vr a1, vi (j1 + (1 : Int32))] [(.int ((((((own_lo c1) &&& (255 : Int32)) <<< ((0 : Int32) &&& 31)) ||| (((own_hi c1) &&& (255 : Int32)) <<< ((8 : Int32) &&& 31)))).toUInt32.toUInt16.toUInt32.toInt32))]) := pre_58
  exact rtN pre_59 K X57 e57 hret hlk k_767 (by decide) (by simp) (hP _ _ _ ⟨by rw [own_nch, own_lohi c1 hc.1 hc.2], (Fr.nil n0), rfl⟩)
theorem rm_cmpa2 (hw : Hw a0 Z) (a1 : Addr) (a3 : Addr) (kC kB : ClassId) (c0 c1 : Int32) (h0 : Heap) (n0 : Nat) (O0 : Old Z n0 h0) (VC : Arv Z h0 a1 kC .char (2 : Int32) [(.int c0), (.int c1)] (.int 0)) (VB : Arv Z h0 a3 kB .byte (2 : Int32) [(.int 0), (.int 0)] (.int 0)) (g3 : n0 ≤ a3) (ne13 : a1 ≠ a3) (hc0 : ¬ (255 : Int32) < c0) (hc1 : ¬ (255 : Int32) < c1) : Met l Z y_52 c_52 7 (some .int) (Rm 0 0 0 0) #[(.ref a1), (.int 0), (.ref a3), (.int 0), (.int 2)] h0 (fun v h L => v = some (.int 2) ∧ Fr n0 L ∧ Keep h0 h [a3] ∧ Arv Z h a3 kB .byte (2 : Int32) [(.int (c0).toInt8.toInt32), (.int (c1).toInt8.toInt32)] (.int 0)) := by
  refine own_met (own := s3_) (G := fun m => (mkF m 0 #[vr a1, vi 0, vr a3, vi 0, vi 2, uz, uz] [])) rfl n_52 ?_
  intro p e s m below meth c s₁ E0 P hP K hnm hret hlk hh X0 eH pre0
  obtain ⟨hx, hZ, hown, hby, hml⟩ := id K
  have pre_51 : Pr p e below E0 s₁ (mkF m 31 #[vr a1, vi 0, vr a3, vi 0, vi 2, vi 0, vi c0] [(.int ((c0).toInt8.toInt32)), (.int 0), (.ref a3)]) := fun t k => pre0 t <| XS.iconst X0.here hx rfl (hb hby k_768) <| XS.istore X0.here hx rfl (hb hby k_769) rfl (l' := #[vr a1, vi 0, vr a3, vi 0, vi 2, vi 0, uz]) rfl <| oJ K X0 k_770 rfl rfl <| oJ K X0 k_771 rfl rfl <| XS.icmpNo X0.here hx rfl (hb hby k_772) rfl (XT.ii_ge_f (by decide)) <| oA K X0 k_773 rfl rfl rfl <| oI K X0 k_774 rfl rfl <| oCa K X0 eH VC (by decide) rfl k_775 rfl rfl <| XS.istore X0.here hx rfl (hb hby k_776) rfl (l' := #[vr a1, vi 0, vr a3, vi 0, vi 2, vi 0, vi c0]) rfl <| oJ K X0 k_777 rfl rfl <| XS.sipush X0.here hx rfl (hb hby k_778) <| XS.icmpYes X0.here hx rfl (pc0 := 20) (pc' := 26) rfl (hb hby k_779) rfl (XT.ii_le_t hc0) (by decide) (by decide) <| oA K X0 k_780 rfl rfl rfl <| oI K X0 k_781 rfl rfl <| oJ K X0 k_782 rfl rfl <| XT.i2b X0.here hx rfl (hb hby k_783) rfl <| k
  obtain ⟨cl52, Ar52, q52, S52, M52, H52, G52⟩ := id VB
  obtain ⟨T52, h52, X52, e52, W52, st52⟩ := stB X0 hx hZ eH Ar52 (j := (0 : Int32)) (inb_of S52 (by decide)) (g := (mkF m 31 #[vr a1, vi 0, vr a3, vi 0, vi 2, vi 0, vi c0] [(.int ((c0).toInt8.toInt32)), (.int 0), (.ref a3)])) rfl rfl (hb hby k_784)
  have N52 := Fr.snoc X52 (Fr.nil n0) g3
  have O52 : Old Z n0 h52 := O0.wr W52 g3
  rw [(own_nb c0)] at W52
  have V52 : Arv Z h52 a3 kB .byte (2 : Int32) [(.int ((c0).toInt8.toInt32)), (.int 0)] (.int 0) := Arv.set Ar52 q52 S52 M52 H52 G52 (by rw [← (own_nb c0)]; exact (fits_nar_byte _)) W52 0 rfl (Nat.le_of_ble_eq_true rfl)
  have pre_53 : Pr p e below E0 T52 (mkF m 32 #[vr a1, vi 0, vr a3, vi 0, vi 2, vi 0, vi c0] []) := fun t k => pre_51 t (st52 t k)
  have pre_54 : Pr p e below E0 T52 (mkF m 31 #[vr a1, vi 1, vr a3, vi 1, vi 2, vi 1, vi c1] [(.int ((c1).toInt8.toInt32)), (.int 1), (.ref a3)]) := fun t k => pre_53 t <| XS.iinc X52.here hx rfl (hb hby k_785) rfl (l' := #[vr a1, vi 1, vr a3, vi 0, vi 2, vi 0, vi c0]) rfl <| XS.iinc X52.here hx rfl (hb hby k_786) rfl (l' := #[vr a1, vi 1, vr a3, vi 1, vi 2, vi 0, vi c0]) rfl <| XS.iinc X52.here hx rfl (hb hby k_787) rfl (l' := #[vr a1, vi 1, vr a3, vi 1, vi 2, vi 1, vi c0]) rfl <| XS.goto X52.here hx rfl (pc0 := 41) (pc' := 3) rfl (hb hby k_788) (by decide) (by decide) <| oJ K X52 k_770 rfl rfl <| oJ K X52 k_771 rfl rfl <| XS.icmpNo X52.here hx rfl (hb hby k_772) rfl (XT.ii_ge_f (by decide)) <| oA K X52 k_773 rfl rfl rfl <| oI K X52 k_774 rfl rfl <| oCa K X52 e52 (VC.other W52 ne13) (by decide) rfl k_775 rfl rfl <| XS.istore X52.here hx rfl (hb hby k_776) rfl (l' := #[vr a1, vi 1, vr a3, vi 1, vi 2, vi 1, vi c1]) rfl <| oJ K X52 k_777 rfl rfl <| XS.sipush X52.here hx rfl (hb hby k_778) <| XS.icmpYes X52.here hx rfl (pc0 := 20) (pc' := 26) rfl (hb hby k_779) rfl (XT.ii_le_t hc1) (by decide) (by decide) <| oA K X52 k_780 rfl rfl rfl <| oI K X52 k_781 rfl rfl <| oJ K X52 k_782 rfl rfl <| XT.i2b X52.here hx rfl (hb hby k_783) rfl <| k
  obtain ⟨cl55, Ar55, q55, S55, M55, H55, G55⟩ := id V52
  obtain ⟨T55, h55, X55, e55, W55, st55⟩ := stB X52 hx hZ e52 Ar55 (j := (1 : Int32)) (inb_of S55 (by decide)) (g := (mkF m 31 #[vr a1, vi 1, vr a3, vi 1, vi 2, vi 1, vi c1] [(.int ((c1).toInt8.toInt32)), (.int 1), (.ref a3)])) rfl rfl (hb hby k_784)
  have N55 := Fr.snoc X55 N52 g3
  have O55 : Old Z n0 h55 := O52.wr W55 g3
  rw [(own_nb c1)] at W55
  have V55 : Arv Z h55 a3 kB .byte (2 : Int32) [(.int ((c0).toInt8.toInt32)), (.int ((c1).toInt8.toInt32))] (.int 0) := Arv.set Ar55 q55 S55 M55 H55 G55 (by rw [← (own_nb c1)]; exact (fits_nar_byte _)) W55 1 rfl (Nat.le_of_ble_eq_true rfl)
  have pre_56 : Pr p e below E0 T55 (mkF m 32 #[vr a1, vi 1, vr a3, vi 1, vi 2, vi 1, vi c1] []) := fun t k => pre_54 t (st55 t k)
  have pre_57 := fun t k => pre_56 t <| XS.iinc X55.here hx rfl (hb hby k_785) rfl (l' := #[vr a1, vi 2, vr a3, vi 1, vi 2, vi 1, vi c1]) rfl <| XS.iinc X55.here hx rfl (hb hby k_786) rfl (l' := #[vr a1, vi 2, vr a3, vi 2, vi 2, vi 1, vi c1]) rfl <| XS.iinc X55.here hx rfl (hb hby k_787) rfl (l' := #[vr a1, vi 2, vr a3, vi 2, vi 2, vi 2, vi c1]) rfl <| XS.goto X55.here hx rfl (pc0 := 41) (pc' := 3) rfl (hb hby k_788) (by decide) (by decide) <| oJ K X55 k_770 rfl rfl <| oJ K X55 k_771 rfl rfl <| XS.icmpYes X55.here hx rfl (pc0 := 7) (pc' := 44) rfl (hb hby k_772) rfl (XT.ii_ge_t (by decide)) (by decide) (by decide) <| oJ K X55 k_789 rfl rfl <| k
  have pre_58 : Pr p e below E0 T55 (mkF m 46 #[vr a1, vi 2, vr a3, vi 2, vi 2, vi 2, vi c1] [(.int 2)]) := pre_57
  have u_59 := (((Keep.refl h0 [a3]).wr W52 (Or.inl (List.mem_of_getElem? (i := 0) rfl))).wr W55 (Or.inl (List.mem_of_getElem? (i := 0) rfl)))
  exact rtI pre_58 K X55 e55 hret hlk k_790 (by decide) (hP _ _ _ ⟨rfl, N55, u_59, V55⟩)
theorem rm_cmpb2 (hw : Hw a0 Z) (a1 : Addr) (kC : ClassId) (c0 c1 : Int32) (h0 : Heap) (n0 : Nat) (O0 : Old Z n0 h0) (VC : Arv Z h0 a1 kC .char (2 : Int32) [(.int c0), (.int c1)] (.int 0)) (hc0 : ¬ (255 : Int32) < c0) (hc1 : ¬ (255 : Int32) < c1) : Met l Z y_53 c_53 6 (some (.array .byte)) (Rm 1 1 2 18) #[(.ref a1), (.int 0), (.int 2)] h0 (fun v h L => ∃ b kB, v = some (.ref b) ∧ Fr n0 L ∧ Keep h0 h [] ∧ h0.size ≤ b ∧ Arv Z h b kB .byte (2 : Int32) [(.int (c0).toInt8.toInt32), (.int (c1).toInt8.toInt32)] (.int 0)) := by
  refine own_met (own := s3_) (G := fun m => (mkF m 0 #[vr a1, vi 0, vi 2, uz, uz, uz] [])) rfl n_53 ?_
  intro p e s m below meth c s₁ E0 P hP K hnm hret hlk hh X0 eH pre0
  obtain ⟨hx, hZ, hown, hby, hml⟩ := id K
  have pre_51 := fun t k => pre0 t <| oI K X0 k_791 rfl rfl <| k
  obtain ⟨T52, h52, cA52, X52, e52, E52, A52, st52⟩ := newP X0 hx hZ (oW hw 3 rfl) eH (g := (mkF m 1 #[vr a1, vi 0, vi 2, uz, uz, uz] [(.int 2)])) rfl (hb hby k_792) rfl (by decide) (cap := 2) (by decide) (by decide) (by decide) (by decide)
  obtain ⟨b52, g52⟩ : ∃ z, z = h0.size := ⟨_, rfl⟩
  rw [← g52] at A52 st52
  have O52 : Old Z n0 h52 := O0.ext E52
  have V52 : Arv Z h52 b52 cA52 .byte (2 : Int32) [(.int 0), (.int 0)] (.int 0) := (Arv.new A52 (by decide)).pad (pad_rep [] _ 2)
  have gl52 := Nat.le_of_eq g52.symm
  have pre_53 : Pr p e below E0 T52 (mkF m 3 #[vr a1, vi 0, vi 2, uz, uz, uz] [(.ref b52)]) := fun t k => pre_51 t (st52 t k)
  have v_54 := (Nat.le_trans (own_le O0) gl52)
  have x_55 := (Nat.ne_of_lt (Nat.lt_of_lt_of_le VC.lt gl52))
  have pre_56 := fun t k => pre_53 t <| XS.astoreN X52.here hx rfl (hb hby k_793) rfl rfl (l' := #[vr a1, vi 0, vi 2, vr b52, uz, uz]) rfl <| oA K X52 k_794 rfl rfl rfl <| oI K X52 k_795 rfl rfl <| oA K X52 k_796 rfl rfl rfl <| XS.iconst X52.here hx rfl (hb hby k_797) <| oI K X52 k_798 rfl rfl <| k
  obtain ⟨T57, _, L57, X57, ⟨rfl, N57q, K57, Vb57⟩, pre_57⟩ := cS pre_56 K X52 e52 (rm_cmpa2 l Z a0 hw a1 b52 kC cA52 c0 c1 h52 n0 O52 (VC.ext E52) V52 v_54 x_55 hc0 hc1) (oW hw 299 rfl) (oW hw 300 rfl) (oW hw 297 rfl) (oW hw 301 rfl) rfl (lenOf d_32 rfl) k_799 rfl rfl rfl (W := 0) (Nat.le_of_eq rfl) (by decide)
  have N57 := Fr.app (Fr.nil n0) N57q
  have O57 : Old Z n0 T57.heap := O52.keep K57 (allS v_54 all0)
  have pre_58 := fun t k => pre_57 t <| XS.istore X57.here hx rfl (hb hby k_800) rfl (l' := #[vr a1, vi 0, vi 2, vr b52, vi 2, uz]) rfl <| oJ K X57 k_801 rfl rfl <| oI K X57 k_802 rfl rfl <| XS.icmpYes X57.here hx rfl (pc0 := 17) (pc' := 57) rfl (hb hby k_803) rfl (XT.ii_eq_t (by decide)) (by decide) (by decide) <| oA K X57 k_804 rfl rfl rfl <| k
  have u_59 := (((Keep.refl h0 []).ext E52).trans K57 (allS (Or.inr (Nat.le_trans (Keep.refl h0 []).1 gl52)) all0))
  exact rtA pre_58 K X57 rfl hret hlk k_805 (by decide) ⟨rfl, rfl⟩ (hP _ _ _ ⟨b52, cA52, rfl, N57, u_59, (Nat.le_trans (Keep.refl h0 []).1 gl52), Vb57⟩)
theorem rm_cfa2 (hw : Hw a0 Z) (a1 : Addr) (kB : ClassId) (c0 c1 : Int32) (h0 : Heap) (n0 : Nat) (O0 : Old Z n0 h0) (VB : Arv Z h0 a1 kB .byte (2 : Int32) [(.int (c0).toInt8.toInt32), (.int (c1).toInt8.toInt32)] (.int 0)) : Met l Z y_54 c_54 2 (some .byte) (Rm 0 0 0 0) #[(.ref a1), (.int 2)] h0 (fun v h L => v = some (.int 0) ∧ Fr n0 L ∧ h = h0) := by
  refine own_met (own := s3_) (G := fun m => (mkF m 0 #[vr a1, vi 2] [])) rfl n_54 ?_
  intro p e s m below meth c s₁ E0 P hP K hnm hret hlk hh X0 eH pre0
  obtain ⟨hx, hZ, hown, hby, hml⟩ := id K
  have pre_51 := fun t k => pre0 t <| oI K X0 k_806 rfl rfl <| oA K X0 k_807 rfl rfl rfl <| oAl K X0 eH VB k_808 rfl rfl <| XS.isub X0.here hx rfl (hb hby k_809) rfl <| XS.bipush X0.here hx rfl (hb hby k_810) <| XT.iushr X0.here hx rfl (hb hby k_811) rfl <| XT.i2b X0.here hx rfl (hb hby k_812) rfl <| k
  have pre_52 : Pr p e below E0 s₁ (mkF m 8 #[vr a1, vi 2] [(.int 0)]) := pre_51
  exact rtN pre_52 K X0 eH hret hlk k_813 (by decide) (by simp) (hP _ _ _ ⟨rfl, (Fr.nil n0), rfl⟩)
theorem rm_sti2 (hw : Hw a0 Z) (a1 : Addr) (a2 : Addr) (u1 u2 : Value) (G1 : Int32) (kC : ClassId) (c0 c1 : Int32) (h0 : Heap) (n0 : Nat) (O0 : Old Z n0 h0) (E1 : Exa Z h0 a1 s2_) (F1 : Fld Z h0 a1 s2_ "value" "[B" u1) (F2 : Fld Z h0 a1 s2_ "coder" "B" u2) (g1 : n0 ≤ a1) (SC : Sta Z Z.heap s2_ s6_ "Z" (.int G1)) (hG : ¬ G1 = (0 : Int32)) (VC : Arv Z h0 a2 kC .char (2 : Int32) [(.int c0), (.int c1)] (.int 0)) (hc0 : ¬ (255 : Int32) < c0) (hc1 : ¬ (255 : Int32) < c1) : Met l Z y_55 c_55 6 none (Rm 2 1 2 36) #[(.ref a1), (.ref a2), (.int 0), (.int 2), .null] h0 (fun v h L => v = none ∧ Fr n0 L ∧ Keep h0 h [a1] ∧ Fld Z h a1 s2_ "coder" "B" (.int 0) ∧ ∃ b kB, h0.size ≤ b ∧ Fld Z h a1 s2_ "value" "[B" (.ref b) ∧ Arv Z h b kB .byte (2 : Int32) [(.int (c0).toInt8.toInt32), (.int (c1).toInt8.toInt32)] (.int 0)) := by
  refine own_met (own := s2_) (G := fun m => (mkF m 0 #[vr a1, vr a2, vi 0, vi 2, .val .null, uz] [])) rfl n_55 ?_
  intro p e s m below meth c s₁ E0 P hP K hnm hret hlk hh X0 eH pre0
  obtain ⟨hx, hZ, hown, hby, hml⟩ := id K
  have pre_51 := fun t k => pre0 t <| oA K X0 k_814 rfl rfl rfl <| k
  obtain ⟨T52, X52, e52, st52⟩ := initO X0 hx hZ hown (oW hw 149 rfl) (oW hw 29 rfl) (oW hw 30 rfl) eH (g := (mkF m 1 #[vr a1, vr a2, vi 0, vi 2, .val .null, uz] [(.ref a1)])) rfl (by rw [hml]; rfl) rfl (hb hby k_815) (by decide) (W := 0) (by show 2 * 0 + _ ≤ _; exact Nat.le_of_eq rfl) (by decide)
  have pre_53 : Pr p e below E0 T52 (mkF m 4 #[vr a1, vr a2, vi 0, vi 2, .val .null, uz] []) := fun t k => pre_51 t (st52 t k)
  have pre_54 := fun t k => pre_53 t <| oI K X52 k_816 rfl rfl <| XS.ifYes X52.here hx rfl (pc0 := 5) (pc' := 27) rfl (hb hby k_817) rfl (XT.i0_ne_t (by decide)) (by decide) (by decide) <| k
  obtain ⟨T55, X55, e55, pre_55⟩ := gS pre_54 K X52 e52 (oW hw 91 rfl) (SC.ext O0.2) k_818 rfl
  have pre_56 := fun t k => pre_55 t <| XS.ifNo X55.here hx rfl (hb hby k_819) rfl (XT.i0_eq_f hG) <| oA K X55 k_820 rfl rfl rfl <| oI K X55 k_821 rfl rfl <| oI K X55 k_822 rfl rfl <| k
  obtain ⟨T57, _, L57, X57, ⟨b57, kB57, rfl, N57q, K57, sb57, Vb57⟩, pre_57⟩ := cS pre_56 K X55 e55 (rm_cmpb2 l Z a0 hw a2 kC c0 c1 h0 n0 O0 VC hc0 hc1) (oW hw 295 rfl) (oW hw 296 rfl) (oW hw 297 rfl) (oW hw 298 rfl) rfl (lenOf d_33 rfl) k_823 rfl rfl rfl (W := 0) (Nat.le_of_eq rfl) (by decide)
  have N57 := Fr.app (Fr.nil n0) N57q
  have O57 : Old Z n0 T57.heap := O0.keep K57 all0
  have pre_58 := fun t k => pre_57 t <| XS.astore X57.here hx rfl (hb hby k_824) rfl rfl (l' := #[vr a1, vr a2, vi 0, vi 2, .val .null, vr b57]) rfl <| oA K X57 k_825 rfl rfl rfl <| oB K X57 k_826 rfl rfl rfl <| oI K X57 k_827 rfl rfl <| k
  obtain ⟨T59, _, L59, X59, ⟨rfl, N59q, e59⟩, pre_59⟩ := cS pre_58 K X57 rfl (rm_cfa2 l Z a0 hw b57 kB57 c0 c1 T57.heap n0 O57 Vb57) (oW hw 302 rfl) (oW hw 303 rfl) (oW hw 297 rfl) (oW hw 304 rfl) rfl (lenOf d_34 rfl) k_828 rfl rfl rfl (W := 1) (Nat.le_of_eq rfl) (by decide)
  have N59 := Fr.app N57 N59q
  obtain ⟨T60, h60, X60, e60, W60, Fw60, pre_60⟩ := pF pre_59 K X59 e59 .byte (oW hw 92 rfl) (F2.keep K57 nin0) (E1.keep K57) (Or.inr ⟨(oW hw 5 rfl), rfl, hnm⟩) (oW hw 2 rfl) k_829 rfl rfl (by decide) rfl rfl
  have N60 := Fr.snoc X60 N59 g1
  have O60 := O57.wr W60 g1
  have pre_61 : Pr p e below E0 T60 (mkF m 54 #[vr a1, vr a2, vi 0, vi 2, .val .null, vr b57] [(.ref b57), (.ref a1)]) := fun t k => pre_60 t <| oA K X60 k_830 rfl rfl rfl <| oB K X60 k_831 rfl rfl rfl <| k
  have f_62 := ((F1.keep K57 nin0).other W60 (Or.inr (slot_ne (Or.inr (oW hw 4 rfl)) (Or.inr (oW hw 5 rfl)) (by decide) (t := (.array .byte)) (t' := .byte) (by decide) (by decide))))
  obtain ⟨T63, h63, X63, e63, W63, Fw63, pre_63⟩ := pF pre_61 K X60 e60 (.array .byte) (oW hw 85 rfl) f_62 ((E1.keep K57).wr W60) (Or.inr ⟨(oW hw 4 rfl), rfl, hnm⟩) (oW hw 2 rfl) k_832 rfl rfl (by decide) rfl rfl
  have N63 := Fr.snoc X63 N60 g1
  have O63 := O60.wr W63 g1
  have u_64 := (((Keep.refl h0 [a1]).trans K57 all0).wr W60 (Or.inl (List.mem_of_getElem? (i := 0) rfl)))
  have f_65 := (Fw60.other W63 (Or.inr (slot_ne (Or.inr (oW hw 5 rfl)) (Or.inr (oW hw 4 rfl)) (by decide) (t := .byte) (t' := (.array .byte)) (by decide) (by decide))))
  have x_66 := (Ne.symm (Nat.ne_of_lt (Nat.lt_of_lt_of_le E1.lt sb57)))
  exact rtV pre_63 K X63 e63 hret hlk k_833 (by decide) (hP _ _ _ ⟨rfl, N63, (u_64.wr W63 (Or.inl (List.mem_of_getElem? (i := 0) rfl))), f_65, b57, kB57, (Nat.le_trans (Keep.refl h0 [a1]).1 sb57), Fw63, ((Vb57.other W60 x_66).other W63 x_66)⟩)
theorem rm_str2 (hw : Hw a0 Z) (a1 : Addr) (a2 : Addr) (u1 u2 : Value) (G1 : Int32) (kC : ClassId) (c0 c1 : Int32) (h0 : Heap) (n0 : Nat) (O0 : Old Z n0 h0) (E1 : Exa Z h0 a1 s2_) (F1 : Fld Z h0 a1 s2_ "value" "[B" u1) (F2 : Fld Z h0 a1 s2_ "coder" "B" u2) (g1 : n0 ≤ a1) (SC : Sta Z Z.heap s2_ s6_ "Z" (.int G1)) (hG : ¬ G1 = (0 : Int32)) (VC : Arv Z h0 a2 kC .char (2 : Int32) [(.int c0), (.int c1)] (.int 0)) (hc0 : ¬ (255 : Int32) < c0) (hc1 : ¬ (255 : Int32) < c1) : Met l Z y_56 c_56 2 none (Rm 3 1 2 53) #[(.ref a1), (.ref a2)] h0 (fun v h L => v = none ∧ Fr n0 L ∧ Keep h0 h [a1] ∧ Fld Z h a1 s2_ "coder" "B" (.int 0) ∧ ∃ b kB, h0.size ≤ b ∧ Fld Z h a1 s2_ "value" "[B" (.ref b) ∧ Arv Z h b kB .byte (2 : Int32) [(.int (c0).toInt8.toInt32), (.int (c1).toInt8.toInt32)] (.int 0)) := by
  refine own_met (own := s2_) (G := fun m => (mkF m 0 #[vr a1, vr a2] [])) rfl n_56 ?_
  intro p e s m below meth c s₁ E0 P hP K hnm hret hlk hh X0 eH pre0
  obtain ⟨hx, hZ, hown, hby, hml⟩ := id K
  have pre_51 := fun t k => pre0 t <| oA K X0 k_834 rfl rfl rfl <| oA K X0 k_835 rfl rfl rfl <| XS.iconst X0.here hx rfl (hb hby k_836) <| oA K X0 k_837 rfl rfl rfl <| oAl K X0 eH VC k_838 rfl rfl <| XS.aconstNull X0.here hx rfl (hb hby k_839) <| k
  obtain ⟨T52, _, L52, X52, ⟨rfl, N52q, K52, Fc52, b52, kB52, sb52, Fv52, Vb52⟩, pre_52⟩ := cI pre_51 K X0 eH (rm_sti2 l Z a0 hw a1 a2 u1 u2 G1 kC c0 c1 h0 n0 O0 E1 F1 F2 g1 SC hG VC hc0 hc1) (oW hw 292 rfl) (oW hw 293 rfl) (oW hw 1 rfl) (oW hw 294 rfl) rfl (lenOf d_35 rfl) k_840 rfl rfl rfl (W := 0) (Nat.le_of_eq rfl) (by decide) rfl
  have N52 := Fr.app (Fr.nil n0) N52q
  have O52 : Old Z n0 T52.heap := O0.keep K52 (allS g1 all0)
  exact rtV pre_52 K X52 rfl hret hlk k_841 (by decide) (hP _ _ _ ⟨rfl, N52, ((Keep.refl h0 [a1]).trans K52 (allS (Or.inl (List.mem_of_getElem? (i := 0) rfl)) all0)), Fc52, b52, kB52, sb52, Fv52, Vb52⟩)
theorem rm_tob (hw : Hw a0 Z) (a1 : Addr) (kC : ClassId) (c0 c1 : Int32) (h0 : Heap) (n0 : Nat) (O0 : Old Z n0 h0) (VC : Arv Z h0 a1 kC .char (2 : Int32) [(.int c0), (.int c1)] (.int 0)) (SU1 : Sta Z Z.heap s3_ s9_ "Z" (.int 1)) (SU2 : Sta Z Z.heap s3_ s10_ "I" (.int 0)) (SU3 : Sta Z Z.heap s3_ s11_ "I" (.int 8)) : Met l Z y_57 c_57 5 (some (.array .byte)) (Rm 2 1 284 32) #[(.ref a1), (.int 0), (.int 2)] h0 (fun v h L => ∃ b kN, v = some (.ref b) ∧ Fr n0 L ∧ Keep h0 h [] ∧ h0.size ≤ b ∧ Arv Z h b kN .byte (4 : Int32) (own_u [c0, c1]) (.int 0)) := by
  refine own_met (own := s3_) (G := fun m => (mkF m 0 #[vr a1, vi 0, vi 2, uz, uz] [])) rfl n_57 ?_
  intro p e s m below meth c s₁ E0 P hP K hnm hret hlk hh X0 eH pre0
  obtain ⟨hx, hZ, hown, hby, hml⟩ := id K
  have pre_51 := fun t k => pre0 t <| oI K X0 k_842 rfl rfl <| k
  obtain ⟨T52, _, L52, X52, ⟨b52, kN52, rfl, N52q, K52, sb52, Vb52⟩, pre_52⟩ := cS pre_51 K X0 eH (rm_nbf l Z a0 hw (2 : Int32) (4 : Int32) h0 n0 O0 (by decide) (by decide) (by decide) (by decide) (by decide)) (oW hw 308 rfl) (oW hw 309 rfl) (oW hw 297 rfl) (oW hw 310 rfl) rfl (lenOf d_23 rfl) k_843 rfl rfl rfl (W := 0) (Nat.le_of_eq rfl) (by decide)
  have N52 := Fr.app (Fr.nil n0) N52q
  have O52 : Old Z n0 T52.heap := O0.keep K52 all0
  have v_53 := (Nat.le_trans (own_le O0) sb52)
  have pre_54 := fun t k => pre_52 t <| XS.astoreN X52.here hx rfl (hb hby k_844) rfl rfl (l' := #[vr a1, vi 0, vi 2, vr b52, uz]) rfl <| XS.iconst X52.here hx rfl (hb hby k_845) <| XS.istore X52.here hx rfl (hb hby k_846) rfl (l' := #[vr a1, vi 0, vi 2, vr b52, vi 0]) rfl <| oJ K X52 k_847 rfl rfl <| oI K X52 k_848 rfl rfl <| XS.icmpNo X52.here hx rfl (hb hby k_849) rfl (XT.ii_ge_f (by decide)) <| oA K X52 k_850 rfl rfl rfl <| oJ K X52 k_851 rfl rfl <| oA K X52 k_852 rfl rfl rfl <| oI K X52 k_853 rfl rfl <| oCa K X52 rfl (VC.keep K52 nin0) (by decide) rfl k_854 rfl rfl <| k
  obtain ⟨T55, _, L55, X55, ⟨rfl, N55q, K55, Vb55⟩, pre_55⟩ := cS pre_54 K X52 rfl (rm_put l Z a0 hw b52 (0 : Int32) c0 (0 : Int32) (4 : Int32) kN52 [] T52.heap n0 O52 Vb52 v_53 (by decide) (by decide) (by decide) rfl rfl SU1 SU2 SU3) (oW hw 315 rfl) (oW hw 316 rfl) (oW hw 297 rfl) (oW hw 317 rfl) rfl (lenOf d_21 rfl) k_855 rfl rfl rfl (W := 0) (Nat.le_of_eq rfl) (by decide)
  have N55 := Fr.app N52 N55q
  have O55 : Old Z n0 T55.heap := O52.keep K55 (allS v_53 all0)
  have x_56 := (Nat.ne_of_lt (Nat.lt_of_lt_of_le VC.lt sb52))
  have f_57 := ((VC.keep K52 nin0).keep K55 (ninS x_56 nin0))
  have pre_58 : Pr p e below E0 T55 (mkF m 20 #[vr a1, vi 1, vi 2, vr b52, vi 1] [(.int c1), (.int 1), (.ref b52)]) := fun t k => pre_55 t <| XS.iinc X55.here hx rfl (hb hby k_856) rfl (l' := #[vr a1, vi 1, vi 2, vr b52, vi 0]) rfl <| XS.iinc X55.here hx rfl (hb hby k_857) rfl (l' := #[vr a1, vi 1, vi 2, vr b52, vi 1]) rfl <| XS.goto X55.here hx rfl (pc0 := 29) (pc' := 8) rfl (hb hby k_858) (by decide) (by decide) <| oJ K X55 k_847 rfl rfl <| oI K X55 k_848 rfl rfl <| XS.icmpNo X55.here hx rfl (hb hby k_849) rfl (XT.ii_ge_f (by decide)) <| oA K X55 k_850 rfl rfl rfl <| oJ K X55 k_851 rfl rfl <| oA K X55 k_852 rfl rfl rfl <| oI K X55 k_853 rfl rfl <| oCa K X55 rfl f_57 (by decide) rfl k_854 rfl rfl <| k
  obtain ⟨T59, _, L59, X59, ⟨rfl, N59q, K59, Vb59⟩, pre_59⟩ := cS pre_58 K X55 rfl (rm_put l Z a0 hw b52 (1 : Int32) c1 (2 : Int32) (4 : Int32) kN52 ([] ++ [(.int (own_lo c0)), (.int (own_hi c0))]) T55.heap n0 O55 Vb55 v_53 (by decide) (by decide) (by decide) rfl rfl SU1 SU2 SU3) (oW hw 315 rfl) (oW hw 316 rfl) (oW hw 297 rfl) (oW hw 317 rfl) rfl (lenOf d_21 rfl) k_855 rfl rfl rfl (W := 0) (Nat.le_of_eq rfl) (by decide)
  have N59 := Fr.app N55 N59q
  have O59 : Old Z n0 T59.heap := O55.keep K59 (allS v_53 all0)
  have pre_60 := fun t k => pre_59 t <| XS.iinc X59.here hx rfl (hb hby k_856) rfl (l' := #[vr a1, vi 2, vi 2, vr b52, vi 1]) rfl <| XS.iinc X59.here hx rfl (hb hby k_857) rfl (l' := #[vr a1, vi 2, vi 2, vr b52, vi 2]) rfl <| XS.goto X59.here hx rfl (pc0 := 29) (pc' := 8) rfl (hb hby k_858) (by decide) (by decide) <| oJ K X59 k_847 rfl rfl <| oI K X59 k_848 rfl rfl <| XS.icmpYes X59.here hx rfl (pc0 := 11) (pc' := 32) rfl (hb hby k_849) rfl (XT.ii_ge_t (by decide)) (by decide) (by decide) <| oA K X59 k_859 rfl rfl rfl <| k
  have u_61 := (((Keep.refl h0 []).trans K52 all0).trans K55 (allS (Or.inr (Nat.le_trans (Keep.refl h0 []).1 sb52)) all0))
  exact rtA pre_60 K X59 rfl hret hlk k_860 (by decide) ⟨rfl, rfl⟩ (hP _ _ _ ⟨b52, kN52, rfl, N59, (u_61.trans K59 (allS (Or.inr (Nat.le_trans (Keep.refl h0 []).1 sb52)) all0)), (Nat.le_trans (Keep.refl h0 []).1 sb52), Vb59⟩)
theorem rm_cmx0 (hw : Hw a0 Z) (a1 : Addr) (a3 : Addr) (kC kB : ClassId) (c0 c1 : Int32) (h0 : Heap) (n0 : Nat) (O0 : Old Z n0 h0) (VC : Arv Z h0 a1 kC .char (2 : Int32) [(.int c0), (.int c1)] (.int 0)) (VB : Arv Z h0 a3 kB .byte (2 : Int32) [(.int 0), (.int 0)] (.int 0)) (g3 : n0 ≤ a3) (ne13 : a1 ≠ a3) (h0c : (255 : Int32) < c0) : Met l Z y_52 c_52 7 (some .int) (Rm 0 0 0 0) #[(.ref a1), (.int 0), (.ref a3), (.int 0), (.int 2)] h0 (fun v h L => v = some (.int 0) ∧ Fr n0 L ∧ Keep h0 h [a3]) := by
  refine own_met (own := s3_) (G := fun m => (mkF m 0 #[vr a1, vi 0, vr a3, vi 0, vi 2, uz, uz] [])) rfl n_52 ?_
  intro p e s m below meth c s₁ E0 P hP K hnm hret hlk hh X0 eH pre0
  obtain ⟨hx, hZ, hown, hby, hml⟩ := id K
  have pre_51 := fun t k => pre0 t <| XS.iconst X0.here hx rfl (hb hby k_768) <| XS.istore X0.here hx rfl (hb hby k_769) rfl (l' := #[vr a1, vi 0, vr a3, vi 0, vi 2, vi 0, uz]) rfl <| oJ K X0 k_770 rfl rfl <| oJ K X0 k_771 rfl rfl <| XS.icmpNo X0.here hx rfl (hb hby k_772) rfl (XT.ii_ge_f (by decide)) <| oA K X0 k_773 rfl rfl rfl <| oI K X0 k_774 rfl rfl <| oCa K X0 eH VC (by decide) rfl k_775 rfl rfl <| XS.istore X0.here hx rfl (hb hby k_776) rfl (l' := #[vr a1, vi 0, vr a3, vi 0, vi 2, vi 0, vi c0]) rfl <| oJ K X0 k_777 rfl rfl <| XS.sipush X0.here hx rfl (hb hby k_778) <| XS.icmpNo X0.here hx rfl (hb hby k_779) rfl (XT.ii_le_f h0c) <| oJ K X0 k_861 rfl rfl <| k
  have pre_52 : Pr p e below E0 s₁ (mkF m 25 #[vr a1, vi 0, vr a3, vi 0, vi 2, vi 0, vi c0] [(.int 0)]) := pre_51
  exact rtI pre_52 K X0 eH hret hlk k_862 (by decide) (hP _ _ _ ⟨rfl, (Fr.nil n0), (Keep.refl h0 [a3])⟩)
theorem rm_cmx1 (hw : Hw a0 Z) (a1 : Addr) (a3 : Addr) (kC kB : ClassId) (c0 c1 : Int32) (h0 : Heap) (n0 : Nat) (O0 : Old Z n0 h0) (VC : Arv Z h0 a1 kC .char (2 : Int32) [(.int c0), (.int c1)] (.int 0)) (VB : Arv Z h0 a3 kB .byte (2 : Int32) [(.int 0), (.int 0)] (.int 0)) (g3 : n0 ≤ a3) (ne13 : a1 ≠ a3) (h0c : ¬ (255 : Int32) < c0) (h1c : (255 : Int32) < c1) : Met l Z y_52 c_52 7 (some .int) (Rm 0 0 0 0) #[(.ref a1), (.int 0), (.ref a3), (.int 0), (.int 2)] h0 (fun v h L => v = some (.int 1) ∧ Fr n0 L ∧ Keep h0 h [a3]) := by
  refine own_met (own := s3_) (G := fun m => (mkF m 0 #[vr a1, vi 0, vr a3, vi 0, vi 2, uz, uz] [])) rfl n_52 ?_
  intro p e s m below meth c s₁ E0 P hP K hnm hret hlk hh X0 eH pre0
  obtain ⟨hx, hZ, hown, hby, hml⟩ := id K
  have pre_51 : Pr p e below E0 s₁ (mkF m 31 #[vr a1, vi 0, vr a3, vi 0, vi 2, vi 0, vi c0] [(.int ((c0).toInt8.toInt32)), (.int 0), (.ref a3)]) := fun t k => pre0 t <| XS.iconst X0.here hx rfl (hb hby k_768) <| XS.istore X0.here hx rfl (hb hby k_769) rfl (l' := #[vr a1, vi 0, vr a3, vi 0, vi 2, vi 0, uz]) rfl <| oJ K X0 k_770 rfl rfl <| oJ K X0 k_771 rfl rfl <| XS.icmpNo X0.here hx rfl (hb hby k_772) rfl (XT.ii_ge_f (by decide)) <| oA K X0 k_773 rfl rfl rfl <| oI K X0 k_774 rfl rfl <| oCa K X0 eH VC (by decide) rfl k_775 rfl rfl <| XS.istore X0.here hx rfl (hb hby k_776) rfl (l' := #[vr a1, vi 0, vr a3, vi 0, vi 2, vi 0, vi c0]) rfl <| oJ K X0 k_777 rfl rfl <| XS.sipush X0.here hx rfl (hb hby k_778) <| XS.icmpYes X0.here hx rfl (pc0 := 20) (pc' := 26) rfl (hb hby k_779) rfl (XT.ii_le_t h0c) (by decide) (by decide) <| oA K X0 k_780 rfl rfl rfl <| oI K X0 k_781 rfl rfl <| oJ K X0 k_782 rfl rfl <| XT.i2b X0.here hx rfl (hb hby k_783) rfl <| k
  obtain ⟨cl52, Ar52, q52, S52, M52, H52, G52⟩ := id VB
  obtain ⟨T52, h52, X52, e52, W52, st52⟩ := stB X0 hx hZ eH Ar52 (j := (0 : Int32)) (inb_of S52 (by decide)) (g := (mkF m 31 #[vr a1, vi 0, vr a3, vi 0, vi 2, vi 0, vi c0] [(.int ((c0).toInt8.toInt32)), (.int 0), (.ref a3)])) rfl rfl (hb hby k_784)
  have N52 := Fr.snoc X52 (Fr.nil n0) g3
  have O52 : Old Z n0 h52 := O0.wr W52 g3
  rw [(own_nb c0)] at W52
  have V52 : Arv Z h52 a3 kB .byte (2 : Int32) [(.int ((c0).toInt8.toInt32)), (.int 0)] (.int 0) := Arv.set Ar52 q52 S52 M52 H52 G52 (by rw [← (own_nb c0)]; exact (fits_nar_byte _)) W52 0 rfl (Nat.le_of_ble_eq_true rfl)
  have pre_53 : Pr p e below E0 T52 (mkF m 32 #[vr a1, vi 0, vr a3, vi 0, vi 2, vi 0, vi c0] []) := fun t k => pre_51 t (st52 t k)
  have pre_54 : Pr p e below E0 T52 (mkF m 25 #[vr a1, vi 1, vr a3, vi 1, vi 2, vi 1, vi c1] [(.int 1)]) := fun t k => pre_53 t <| XS.iinc X52.here hx rfl (hb hby k_785) rfl (l' := #[vr a1, vi 1, vr a3, vi 0, vi 2, vi 0, vi c0]) rfl <| XS.iinc X52.here hx rfl (hb hby k_786) rfl (l' := #[vr a1, vi 1, vr a3, vi 1, vi 2, vi 0, vi c0]) rfl <| XS.iinc X52.here hx rfl (hb hby k_787) rfl (l' := #[vr a1, vi 1, vr a3, vi 1, vi 2, vi 1, vi c0]) rfl <| XS.goto X52.here hx rfl (pc0 := 41) (pc' := 3) rfl (hb hby k_788) (by decide) (by decide) <| oJ K X52 k_770 rfl rfl <| oJ K X52 k_771 rfl rfl <| XS.icmpNo X52.here hx rfl (hb hby k_772) rfl (XT.ii_ge_f (by decide)) <| oA K X52 k_773 rfl rfl rfl <| oI K X52 k_774 rfl rfl <| oCa K X52 e52 (VC.other W52 ne13) (by decide) rfl k_775 rfl rfl <| XS.istore X52.here hx rfl (hb hby k_776) rfl (l' := #[vr a1, vi 1, vr a3, vi 1, vi 2, vi 1, vi c1]) rfl <| oJ K X52 k_777 rfl rfl <| XS.sipush X52.here hx rfl (hb hby k_778) <| XS.icmpNo X52.here hx rfl (hb hby k_779) rfl (XT.ii_le_f h1c) <| oJ K X52 k_861 rfl rfl <| k
  exact rtI pre_54 K X52 e52 hret hlk k_862 (by decide) (hP _ _ _ ⟨rfl, N52, ((Keep.refl h0 [a3]).wr W52 (Or.inl (List.mem_of_getElem? (i := 0) rfl)))⟩)
theorem rm_cmq (hw : Hw a0 Z) (a1 : Addr) (kC : ClassId) (c0 c1 : Int32) (h0 : Heap) (n0 : Nat) (O0 : Old Z n0 h0) (VC : Arv Z h0 a1 kC .char (2 : Int32) [(.int c0), (.int c1)] (.int 0)) (hbig : (255 : Int32) < c0 ∨ (¬ (255 : Int32) < c0 ∧ (255 : Int32) < c1)) (hr0 : 0 ≤ c0.toInt ∧ c0.toInt < 65536) (hr1 : 0 ≤ c1.toInt ∧ c1.toInt < 65536) (SU1 : Sta Z Z.heap s3_ s9_ "Z" (.int 1)) (SU2 : Sta Z Z.heap s3_ s10_ "I" (.int 0)) (SU3 : Sta Z Z.heap s3_ s11_ "I" (.int 8)) : Met l Z y_53 c_53 6 (some (.array .byte)) (Rm 3 2 286 52) #[(.ref a1), (.int 0), (.int 2)] h0 (fun v h L => ∃ b kN, v = some (.ref b) ∧ Fr n0 L ∧ Keep h0 h [] ∧ h0.size ≤ b ∧ Arv Z h b kN .byte (4 : Int32) (own_u [c0, c1]) (.int 0)) := by
  refine own_met (own := s3_) (G := fun m => (mkF m 0 #[vr a1, vi 0, vi 2, uz, uz, uz] [])) rfl n_53 ?_
  intro p e s m below meth c s₁ E0 P hP K hnm hret hlk hh X0 eH pre0
  obtain ⟨hx, hZ, hown, hby, hml⟩ := id K
  rcases hbig with h0c | ⟨h0c, h1c⟩
  · skip
    have pre_51 := fun t k => pre0 t <| oI K X0 k_791 rfl rfl <| k
    obtain ⟨T52, h52, cA52, X52, e52, E52, A52, st52⟩ := newP X0 hx hZ (oW hw 3 rfl) eH (g := (mkF m 1 #[vr a1, vi 0, vi 2, uz, uz, uz] [(.int 2)])) rfl (hb hby k_792) rfl (by decide) (cap := 2) (by decide) (by decide) (by decide) (by decide)
    obtain ⟨b52, g52⟩ : ∃ z, z = h0.size := ⟨_, rfl⟩
    rw [← g52] at A52 st52
    have O52 : Old Z n0 h52 := O0.ext E52
    have V52 : Arv Z h52 b52 cA52 .byte (2 : Int32) [(.int 0), (.int 0)] (.int 0) := (Arv.new A52 (by decide)).pad (pad_rep [] _ 2)
    have gl52 := Nat.le_of_eq g52.symm
    have pre_53 : Pr p e below E0 T52 (mkF m 3 #[vr a1, vi 0, vi 2, uz, uz, uz] [(.ref b52)]) := fun t k => pre_51 t (st52 t k)
    have v_54 := (Nat.le_trans (own_le O0) gl52)
    have x_55 := (Nat.ne_of_lt (Nat.lt_of_lt_of_le VC.lt gl52))
    have pre_56 := fun t k => pre_53 t <| XS.astoreN X52.here hx rfl (hb hby k_793) rfl rfl (l' := #[vr a1, vi 0, vi 2, vr b52, uz, uz]) rfl <| oA K X52 k_794 rfl rfl rfl <| oI K X52 k_795 rfl rfl <| oA K X52 k_796 rfl rfl rfl <| XS.iconst X52.here hx rfl (hb hby k_797) <| oI K X52 k_798 rfl rfl <| k
    obtain ⟨T57, _, L57, X57, ⟨rfl, N57q, K57⟩, pre_57⟩ := cS pre_56 K X52 e52 (rm_cmx0 l Z a0 hw a1 b52 kC cA52 c0 c1 h52 n0 O52 (VC.ext E52) V52 v_54 x_55 h0c) (oW hw 299 rfl) (oW hw 300 rfl) (oW hw 297 rfl) (oW hw 301 rfl) rfl (lenOf d_32 rfl) k_799 rfl rfl rfl (W := 0) (Nat.le_of_eq rfl) (by decide)
    have N57 := Fr.app (Fr.nil n0) N57q
    have O57 : Old Z n0 T57.heap := O52.keep K57 (allS v_54 all0)
    have pre_58 : Pr p e below E0 T57 (mkF m 23 #[vr a1, vi 0, vi 2, vr b52, vi 0, uz] [(.int 2), (.int 0), (.ref a1)]) := fun t k => pre_57 t <| XS.istore X57.here hx rfl (hb hby k_800) rfl (l' := #[vr a1, vi 0, vi 2, vr b52, vi 0, uz]) rfl <| oJ K X57 k_801 rfl rfl <| oI K X57 k_802 rfl rfl <| XS.icmpNo X57.here hx rfl (hb hby k_803) rfl (XT.ii_eq_f (by decide)) <| oA K X57 k_863 rfl rfl rfl <| oI K X57 k_864 rfl rfl <| oI K X57 k_865 rfl rfl <| k
    obtain ⟨T59, _, L59, X59, ⟨b59, kN59, rfl, N59q, K59, sb59, Vb59⟩, pre_59⟩ := cS pre_58 K X57 rfl (rm_tob l Z a0 hw a1 kC c0 c1 T57.heap n0 O57 ((VC.ext E52).keep K57 (ninS x_55 nin0)) SU1 SU2 SU3) (oW hw 305 rfl) (oW hw 306 rfl) (oW hw 297 rfl) (oW hw 307 rfl) rfl (lenOf d_33 rfl) k_866 rfl rfl rfl (W := 0) (Nat.le_of_eq rfl) (by decide)
    have N59 := Fr.app N57 N59q
    have O59 : Old Z n0 T59.heap := O57.keep K59 all0
    have pre_60 := fun t k => pre_59 t <| XS.astore X59.here hx rfl (hb hby k_867) rfl rfl (l' := #[vr a1, vi 0, vi 2, vr b52, vi 0, vr b59]) rfl <| oB K X59 k_868 rfl rfl rfl <| oJ K X59 k_869 rfl rfl <| k
    obtain ⟨T61, _, L61, X61, ⟨rfl, N61q, e61⟩, pre_61⟩ := cS pre_60 K X59 rfl (rm_gch l Z a0 hw b59 (0 : Int32) (0 : Int32) (4 : Int32) c0 kN59 (own_u [c0, c1]) T59.heap n0 O59 Vb59 (by decide) (by decide) (by decide) rfl rfl hr0 SU1 SU2 SU3) (oW hw 321 rfl) (oW hw 322 rfl) (oW hw 297 rfl) (oW hw 323 rfl) rfl (lenOf d_36 rfl) k_870 rfl rfl rfl (W := 0) (Nat.le_of_eq rfl) (by decide)
    have N61 := Fr.app N59 N61q
    have pre_62 := fun t k => pre_61 t <| XS.sipush X61.here hx rfl (hb hby k_871) <| XS.icmpYes X61.here hx rfl (pc0 := 38) (pc' := 54) rfl (hb hby k_872) rfl (XT.ii_gt_t h0c) (by decide) (by decide) <| oB K X61 k_873 rfl rfl rfl <| k
    have u_63 := (((Keep.refl h0 []).ext E52).trans K57 (allS (Or.inr (Nat.le_trans (Keep.refl h0 []).1 gl52)) all0))
    exact rtA pre_62 K X61 e61 hret hlk k_874 (by decide) ⟨rfl, rfl⟩ (hP _ _ _ ⟨b59, kN59, rfl, N61, (u_63.trans K59 all0), (Nat.le_trans u_63.1 sb59), Vb59⟩)
  · skip
    have pre_64 := fun t k => pre0 t <| oI K X0 k_791 rfl rfl <| k
    obtain ⟨T65, h65, cA65, X65, e65, E65, A65, st65⟩ := newP X0 hx hZ (oW hw 3 rfl) eH (g := (mkF m 1 #[vr a1, vi 0, vi 2, uz, uz, uz] [(.int 2)])) rfl (hb hby k_792) rfl (by decide) (cap := 2) (by decide) (by decide) (by decide) (by decide)
    obtain ⟨b65, g65⟩ : ∃ z, z = h0.size := ⟨_, rfl⟩
    rw [← g65] at A65 st65
    have O65 : Old Z n0 h65 := O0.ext E65
    have V65 : Arv Z h65 b65 cA65 .byte (2 : Int32) [(.int 0), (.int 0)] (.int 0) := (Arv.new A65 (by decide)).pad (pad_rep [] _ 2)
    have gl65 := Nat.le_of_eq g65.symm
    have pre_66 : Pr p e below E0 T65 (mkF m 3 #[vr a1, vi 0, vi 2, uz, uz, uz] [(.ref b65)]) := fun t k => pre_64 t (st65 t k)
    have v_67 := (Nat.le_trans (own_le O0) gl65)
    have x_68 := (Nat.ne_of_lt (Nat.lt_of_lt_of_le VC.lt gl65))
    have pre_69 := fun t k => pre_66 t <| XS.astoreN X65.here hx rfl (hb hby k_793) rfl rfl (l' := #[vr a1, vi 0, vi 2, vr b65, uz, uz]) rfl <| oA K X65 k_794 rfl rfl rfl <| oI K X65 k_795 rfl rfl <| oA K X65 k_796 rfl rfl rfl <| XS.iconst X65.here hx rfl (hb hby k_797) <| oI K X65 k_798 rfl rfl <| k
    obtain ⟨T70, _, L70, X70, ⟨rfl, N70q, K70⟩, pre_70⟩ := cS pre_69 K X65 e65 (rm_cmx1 l Z a0 hw a1 b65 kC cA65 c0 c1 h65 n0 O65 (VC.ext E65) V65 v_67 x_68 h0c h1c) (oW hw 299 rfl) (oW hw 300 rfl) (oW hw 297 rfl) (oW hw 301 rfl) rfl (lenOf d_32 rfl) k_799 rfl rfl rfl (W := 0) (Nat.le_of_eq rfl) (by decide)
    have N70 := Fr.app (Fr.nil n0) N70q
    have O70 : Old Z n0 T70.heap := O65.keep K70 (allS v_67 all0)
    have pre_71 : Pr p e below E0 T70 (mkF m 23 #[vr a1, vi 0, vi 2, vr b65, vi 1, uz] [(.int 2), (.int 0), (.ref a1)]) := fun t k => pre_70 t <| XS.istore X70.here hx rfl (hb hby k_800) rfl (l' := #[vr a1, vi 0, vi 2, vr b65, vi 1, uz]) rfl <| oJ K X70 k_801 rfl rfl <| oI K X70 k_802 rfl rfl <| XS.icmpNo X70.here hx rfl (hb hby k_803) rfl (XT.ii_eq_f (by decide)) <| oA K X70 k_863 rfl rfl rfl <| oI K X70 k_864 rfl rfl <| oI K X70 k_865 rfl rfl <| k
    obtain ⟨T72, _, L72, X72, ⟨b72, kN72, rfl, N72q, K72, sb72, Vb72⟩, pre_72⟩ := cS pre_71 K X70 rfl (rm_tob l Z a0 hw a1 kC c0 c1 T70.heap n0 O70 ((VC.ext E65).keep K70 (ninS x_68 nin0)) SU1 SU2 SU3) (oW hw 305 rfl) (oW hw 306 rfl) (oW hw 297 rfl) (oW hw 307 rfl) rfl (lenOf d_33 rfl) k_866 rfl rfl rfl (W := 0) (Nat.le_of_eq rfl) (by decide)
    have N72 := Fr.app N70 N72q
    have O72 : Old Z n0 T72.heap := O70.keep K72 all0
    have pre_73 := fun t k => pre_72 t <| XS.astore X72.here hx rfl (hb hby k_867) rfl rfl (l' := #[vr a1, vi 0, vi 2, vr b65, vi 1, vr b72]) rfl <| oB K X72 k_868 rfl rfl rfl <| oJ K X72 k_869 rfl rfl <| k
    obtain ⟨T74, _, L74, X74, ⟨rfl, N74q, e74⟩, pre_74⟩ := cS pre_73 K X72 rfl (rm_gch l Z a0 hw b72 (1 : Int32) (2 : Int32) (4 : Int32) c1 kN72 (own_u [c0, c1]) T72.heap n0 O72 Vb72 (by decide) (by decide) (by decide) rfl rfl hr1 SU1 SU2 SU3) (oW hw 321 rfl) (oW hw 322 rfl) (oW hw 297 rfl) (oW hw 323 rfl) rfl (lenOf d_36 rfl) k_870 rfl rfl rfl (W := 0) (Nat.le_of_eq rfl) (by decide)
    have N74 := Fr.app N72 N74q
    have pre_75 := fun t k => pre_74 t <| XS.sipush X74.here hx rfl (hb hby k_871) <| XS.icmpYes X74.here hx rfl (pc0 := 38) (pc' := 54) rfl (hb hby k_872) rfl (XT.ii_gt_t h1c) (by decide) (by decide) <| oB K X74 k_873 rfl rfl rfl <| k
    have u_76 := (((Keep.refl h0 []).ext E65).trans K70 (allS (Or.inr (Nat.le_trans (Keep.refl h0 []).1 gl65)) all0))
    exact rtA pre_75 K X74 e74 hret hlk k_874 (by decide) ⟨rfl, rfl⟩ (hP _ _ _ ⟨b72, kN72, rfl, N74, (u_76.trans K72 all0), (Nat.le_trans u_76.1 sb72), Vb72⟩)
theorem rm_cfx (hw : Hw a0 Z) (a1 : Addr) (kB : ClassId) (ls : List Value) (h0 : Heap) (n0 : Nat) (O0 : Old Z n0 h0) (VB : Arv Z h0 a1 kB .byte (4 : Int32) ls (.int 0)) : Met l Z y_54 c_54 2 (some .byte) (Rm 0 0 0 0) #[(.ref a1), (.int 2)] h0 (fun v h L => v = some (.int 1) ∧ Fr n0 L ∧ h = h0) := by
  refine own_met (own := s3_) (G := fun m => (mkF m 0 #[vr a1, vi 2] [])) rfl n_54 ?_
  intro p e s m below meth c s₁ E0 P hP K hnm hret hlk hh X0 eH pre0
  obtain ⟨hx, hZ, hown, hby, hml⟩ := id K
  have pre_51 := fun t k => pre0 t <| oI K X0 k_806 rfl rfl <| oA K X0 k_807 rfl rfl rfl <| oAl K X0 eH VB k_808 rfl rfl <| XS.isub X0.here hx rfl (hb hby k_809) rfl <| XS.bipush X0.here hx rfl (hb hby k_810) <| XT.iushr X0.here hx rfl (hb hby k_811) rfl <| XT.i2b X0.here hx rfl (hb hby k_812) rfl <| k
  have pre_52 : Pr p e below E0 s₁ (mkF m 8 #[vr a1, vi 2] [(.int 1)]) := pre_51
  exact rtN pre_52 K X0 eH hret hlk k_813 (by decide) (by simp) (hP _ _ _ ⟨rfl, (Fr.nil n0), rfl⟩)
theorem rm_stx (hw : Hw a0 Z) (a1 : Addr) (a2 : Addr) (u1 u2 : Value) (G1 : Int32) (kC : ClassId) (c0 c1 : Int32) (h0 : Heap) (n0 : Nat) (O0 : Old Z n0 h0) (E1 : Exa Z h0 a1 s2_) (F1 : Fld Z h0 a1 s2_ "value" "[B" u1) (F2 : Fld Z h0 a1 s2_ "coder" "B" u2) (g1 : n0 ≤ a1) (SC : Sta Z Z.heap s2_ s6_ "Z" (.int G1)) (hG : ¬ G1 = (0 : Int32)) (VC : Arv Z h0 a2 kC .char (2 : Int32) [(.int c0), (.int c1)] (.int 0)) (hbig : (255 : Int32) < c0 ∨ (¬ (255 : Int32) < c0 ∧ (255 : Int32) < c1)) (hr0 : 0 ≤ c0.toInt ∧ c0.toInt < 65536) (hr1 : 0 ≤ c1.toInt ∧ c1.toInt < 65536) (SU1 : Sta Z Z.heap s3_ s9_ "Z" (.int 1)) (SU2 : Sta Z Z.heap s3_ s10_ "I" (.int 0)) (SU3 : Sta Z Z.heap s3_ s11_ "I" (.int 8)) : Met l Z y_55 c_55 6 none (Rm 4 2 286 72) #[(.ref a1), (.ref a2), (.int 0), (.int 2), .null] h0 (fun v h L => v = none ∧ Fr n0 L ∧ Keep h0 h [a1] ∧ Fld Z h a1 s2_ "coder" "B" (.int 1) ∧ ∃ b kB, h0.size ≤ b ∧ Fld Z h a1 s2_ "value" "[B" (.ref b) ∧ Arv Z h b kB .byte (4 : Int32) (own_u [c0, c1]) (.int 0)) := by
  refine own_met (own := s2_) (G := fun m => (mkF m 0 #[vr a1, vr a2, vi 0, vi 2, .val .null, uz] [])) rfl n_55 ?_
  intro p e s m below meth c s₁ E0 P hP K hnm hret hlk hh X0 eH pre0
  obtain ⟨hx, hZ, hown, hby, hml⟩ := id K
  have pre_51 := fun t k => pre0 t <| oA K X0 k_814 rfl rfl rfl <| k
  obtain ⟨T52, X52, e52, st52⟩ := initO X0 hx hZ hown (oW hw 149 rfl) (oW hw 29 rfl) (oW hw 30 rfl) eH (g := (mkF m 1 #[vr a1, vr a2, vi 0, vi 2, .val .null, uz] [(.ref a1)])) rfl (by rw [hml]; rfl) rfl (hb hby k_815) (by decide) (W := 0) (by show 2 * 0 + _ ≤ _; exact Nat.le_of_eq rfl) (by decide)
  have pre_53 : Pr p e below E0 T52 (mkF m 4 #[vr a1, vr a2, vi 0, vi 2, .val .null, uz] []) := fun t k => pre_51 t (st52 t k)
  have pre_54 := fun t k => pre_53 t <| oI K X52 k_816 rfl rfl <| XS.ifYes X52.here hx rfl (pc0 := 5) (pc' := 27) rfl (hb hby k_817) rfl (XT.i0_ne_t (by decide)) (by decide) (by decide) <| k
  obtain ⟨T55, X55, e55, pre_55⟩ := gS pre_54 K X52 e52 (oW hw 91 rfl) (SC.ext O0.2) k_818 rfl
  have pre_56 := fun t k => pre_55 t <| XS.ifNo X55.here hx rfl (hb hby k_819) rfl (XT.i0_eq_f hG) <| oA K X55 k_820 rfl rfl rfl <| oI K X55 k_821 rfl rfl <| oI K X55 k_822 rfl rfl <| k
  obtain ⟨T57, _, L57, X57, ⟨b57, kN57, rfl, N57q, K57, sb57, Vb57⟩, pre_57⟩ := cS pre_56 K X55 e55 (rm_cmq l Z a0 hw a2 kC c0 c1 h0 n0 O0 VC hbig hr0 hr1 SU1 SU2 SU3) (oW hw 295 rfl) (oW hw 296 rfl) (oW hw 297 rfl) (oW hw 298 rfl) rfl (lenOf d_33 rfl) k_823 rfl rfl rfl (W := 0) (Nat.le_of_eq rfl) (by decide)
  have N57 := Fr.app (Fr.nil n0) N57q
  have O57 : Old Z n0 T57.heap := O0.keep K57 all0
  have pre_58 := fun t k => pre_57 t <| XS.astore X57.here hx rfl (hb hby k_824) rfl rfl (l' := #[vr a1, vr a2, vi 0, vi 2, .val .null, vr b57]) rfl <| oA K X57 k_825 rfl rfl rfl <| oB K X57 k_826 rfl rfl rfl <| oI K X57 k_827 rfl rfl <| k
  obtain ⟨T59, _, L59, X59, ⟨rfl, N59q, e59⟩, pre_59⟩ := cS pre_58 K X57 rfl (rm_cfx l Z a0 hw b57 kN57 (own_u [c0, c1]) T57.heap n0 O57 Vb57) (oW hw 302 rfl) (oW hw 303 rfl) (oW hw 297 rfl) (oW hw 304 rfl) rfl (lenOf d_34 rfl) k_828 rfl rfl rfl (W := 1) (Nat.le_of_eq rfl) (by decide)
  have N59 := Fr.app N57 N59q
  obtain ⟨T60, h60, X60, e60, W60, Fw60, pre_60⟩ := pF pre_59 K X59 e59 .byte (oW hw 92 rfl) (F2.keep K57 nin0) (E1.keep K57) (Or.inr ⟨(oW hw 5 rfl), rfl, hnm⟩) (oW hw 2 rfl) k_829 rfl rfl (by decide) rfl rfl
  have N60 := Fr.snoc X60 N59 g1
  have O60 := O57.wr W60 g1
  have pre_61 : Pr p e below E0 T60 (mkF m 54 #[vr a1, vr a2, vi 0, vi 2, .val .null, vr b57] [(.ref b57), (.ref a1)]) := fun t k => pre_60 t <| oA K X60 k_830 rfl rfl rfl <| oB K X60 k_831 rfl rfl rfl <| k
  have f_62 := ((F1.keep K57 nin0).other W60 (Or.inr (slot_ne (Or.inr (oW hw 4 rfl)) (Or.inr (oW hw 5 rfl)) (by decide) (t := (.array .byte)) (t' := .byte) (by decide) (by decide))))
  obtain ⟨T63, h63, X63, e63, W63, Fw63, pre_63⟩ := pF pre_61 K X60 e60 (.array .byte) (oW hw 85 rfl) f_62 ((E1.keep K57).wr W60) (Or.inr ⟨(oW hw 4 rfl), rfl, hnm⟩) (oW hw 2 rfl) k_832 rfl rfl (by decide) rfl rfl
  have N63 := Fr.snoc X63 N60 g1
  have O63 := O60.wr W63 g1
  have u_64 := (((Keep.refl h0 [a1]).trans K57 all0).wr W60 (Or.inl (List.mem_of_getElem? (i := 0) rfl)))
  have f_65 := (Fw60.other W63 (Or.inr (slot_ne (Or.inr (oW hw 5 rfl)) (Or.inr (oW hw 4 rfl)) (by decide) (t := .byte) (t' := (.array .byte)) (by decide) (by decide))))
  have x_66 := (Ne.symm (Nat.ne_of_lt (Nat.lt_of_lt_of_le E1.lt sb57)))
  exact rtV pre_63 K X63 e63 hret hlk k_833 (by decide) (hP _ _ _ ⟨rfl, N63, (u_64.wr W63 (Or.inl (List.mem_of_getElem? (i := 0) rfl))), f_65, b57, kN57, (Nat.le_trans (Keep.refl h0 [a1]).1 sb57), Fw63, ((Vb57.other W60 x_66).other W63 x_66)⟩)
theorem rm_nst (hw : Hw a0 Z) (a1 : Addr) (a2 : Addr) (u1 u2 : Value) (G1 : Int32) (kC : ClassId) (c0 c1 : Int32) (h0 : Heap) (n0 : Nat) (O0 : Old Z n0 h0) (E1 : Exa Z h0 a1 s2_) (F1 : Fld Z h0 a1 s2_ "value" "[B" u1) (F2 : Fld Z h0 a1 s2_ "coder" "B" u2) (g1 : n0 ≤ a1) (SC : Sta Z Z.heap s2_ s6_ "Z" (.int G1)) (hG : ¬ G1 = (0 : Int32)) (VC : Arv Z h0 a2 kC .char (2 : Int32) [(.int c0), (.int c1)] (.int 0)) (hr0 : 0 ≤ c0.toInt ∧ c0.toInt < 65536) (hr1 : 0 ≤ c1.toInt ∧ c1.toInt < 65536) (SU1 : Sta Z Z.heap s3_ s9_ "Z" (.int 1)) (SU2 : Sta Z Z.heap s3_ s10_ "I" (.int 0)) (SU3 : Sta Z Z.heap s3_ s11_ "I" (.int 8)) : Met l Z y_56 c_56 2 none (Rm 5 2 286 90) #[(.ref a1), (.ref a2)] h0 (fun v h L => v = none ∧ Fr n0 L ∧ Keep h0 h [a1] ∧ ∃ b kB, h0.size ≤ b ∧ Fld Z h a1 s2_ "value" "[B" (.ref b) ∧ ((Fld Z h a1 s2_ "coder" "B" (.int 0) ∧ Arv Z h b kB .byte (2 : Int32) ([c0, c1].map own_b) (.int 0) ∧ ∀ c ∈ [c0, c1], 0 ≤ c.toInt ∧ c.toInt < 256) ∨ (Fld Z h a1 s2_ "coder" "B" (.int 1) ∧ Arv Z h b kB .byte (4 : Int32) (own_u [c0, c1]) (.int 0)))) := by
  refine own_met (own := s2_) (G := fun m => (mkF m 0 #[vr a1, vr a2] [])) rfl n_56 ?_
  intro p e s m below meth c s₁ E0 P hP K hnm hret hlk hh X0 eH pre0
  obtain ⟨hx, hZ, hown, hby, hml⟩ := id K
  by_cases hbig : (255 : Int32) < c0 ∨ (¬ (255 : Int32) < c0 ∧ (255 : Int32) < c1)
  · skip
    have pre_51 := fun t k => pre0 t <| oA K X0 k_834 rfl rfl rfl <| oA K X0 k_835 rfl rfl rfl <| XS.iconst X0.here hx rfl (hb hby k_836) <| oA K X0 k_837 rfl rfl rfl <| oAl K X0 eH VC k_838 rfl rfl <| XS.aconstNull X0.here hx rfl (hb hby k_839) <| k
    obtain ⟨T52, _, L52, X52, ⟨rfl, N52q, K52, Fc52, b52, kB52, sb52, Fv52, Vb52⟩, pre_52⟩ := cI pre_51 K X0 eH (rm_stx l Z a0 hw a1 a2 u1 u2 G1 kC c0 c1 h0 n0 O0 E1 F1 F2 g1 SC hG VC hbig hr0 hr1 SU1 SU2 SU3) (oW hw 292 rfl) (oW hw 293 rfl) (oW hw 1 rfl) (oW hw 294 rfl) rfl (lenOf d_35 rfl) k_840 rfl rfl rfl (W := 0) (Nat.le_of_eq rfl) (by decide) rfl
    have N52 := Fr.app (Fr.nil n0) N52q
    have O52 : Old Z n0 T52.heap := O0.keep K52 (allS g1 all0)
    exact rtV pre_52 K X52 rfl hret hlk k_841 (by decide) (hP _ _ _ ⟨rfl, N52, ((Keep.refl h0 [a1]).trans K52 (allS (Or.inl (List.mem_of_getElem? (i := 0) rfl)) all0)), b52, kB52, sb52, Fv52, Or.inr ⟨Fc52, Vb52⟩⟩)
  · skip
    obtain ⟨hs0, hs1⟩ : ¬ (255 : Int32) < c0 ∧ ¬ (255 : Int32) < c1 := ⟨fun q => hbig (Or.inl q), fun q => hbig (Or.inr ⟨fun q' => hbig (Or.inl q'), q⟩)⟩
    have pre_53 := fun t k => pre0 t <| oA K X0 k_834 rfl rfl rfl <| oA K X0 k_835 rfl rfl rfl <| XS.iconst X0.here hx rfl (hb hby k_836) <| oA K X0 k_837 rfl rfl rfl <| oAl K X0 eH VC k_838 rfl rfl <| XS.aconstNull X0.here hx rfl (hb hby k_839) <| k
    obtain ⟨T54, _, L54, X54, ⟨rfl, N54q, K54, Fc54, b54, kB54, sb54, Fv54, Vb54⟩, pre_54⟩ := cI pre_53 K X0 eH (rm_sti2 l Z a0 hw a1 a2 u1 u2 G1 kC c0 c1 h0 n0 O0 E1 F1 F2 g1 SC hG VC hs0 hs1) (oW hw 292 rfl) (oW hw 293 rfl) (oW hw 1 rfl) (oW hw 294 rfl) rfl (lenOf d_35 rfl) k_840 rfl rfl rfl (W := 0) (Nat.le_of_eq rfl) (by decide) rfl
    have N54 := Fr.app (Fr.nil n0) N54q
    have O54 : Old Z n0 T54.heap := O0.keep K54 (allS g1 all0)
    exact rtV pre_54 K X54 rfl hret hlk k_841 (by decide) (hP _ _ _ ⟨rfl, N54, ((Keep.refl h0 [a1]).trans K54 (allS (Or.inl (List.mem_of_getElem? (i := 0) rfl)) all0)), b54, kB54, sb54, Fv54, Or.inl ⟨Fc54, Vb54, own_sml hs0 hs1 hr0 hr1⟩⟩)
theorem rm_lnm (hw : Hw a0 Z) (a1 : Addr) (G1 : Int32) (b1 : Addr) (kB : ClassId) (cs : List Int32) (h0 : Heap) (n0 : Nat) (O0 : Old Z n0 h0) (E2 : Exa Z h0 a1 s2_) (HM : own_M Z h0 a1 b1 kB cs) (hcl : cs.length < 500) (SC : Sta Z Z.heap s2_ s6_ "Z" (.int G1)) (hG : ¬ G1 = (0 : Int32)) : Met l Z y_4 c_4 1 (some .int) (Rm 1 0 0 13) #[(.ref a1)] h0 (fun v h L => v = some (.int (Int32.ofNat cs.length)) ∧ Fr n0 L ∧ h = h0) := by
  refine own_met (own := s2_) (G := fun m => (mkF m 0 #[vr a1] [])) rfl n_4 ?_
  intro p e s m below meth c s₁ E0 P hP K hnm hret hlk hh X0 eH pre0
  obtain ⟨hx, hZ, hown, hby, hml⟩ := id K
  rcases HM with ⟨Fv2, ⟨Fc2, V2, hsm⟩ | ⟨Fc2, V2⟩⟩
  · skip
    obtain ⟨z1, hz⟩ : ∃ z, z = Int32.ofNat (cs.length) := ⟨_, rfl⟩
    rw [← hz] at V2
    have pre_51 := fun t k => pre0 t <| oA K X0 k_23 rfl rfl rfl <| k
    obtain ⟨T52, X52, e52, pre_52⟩ := gF pre_51 K X0 eH (oW hw 85 rfl) Via.refl Fv2 k_24 rfl rfl
    have pre_53 := fun t k => pre_52 t <| oAl K X52 e52 V2 k_25 rfl rfl <| oA K X52 k_26 rfl rfl rfl <| k
    obtain ⟨T54, _, L54, X54, ⟨rfl, N54q, e54⟩, pre_54⟩ := cV pre_53 K X52 e52 (rm_cod0 l Z a0 hw a1 G1 h0 n0 O0 Fc2 SC hG) (oW hw 86 rfl) (oW hw 88 rfl) (oW hw 1 rfl) (oW hw 90 rfl) (oW hw 87 rfl) (oW hw 89 rfl) (notFace_of_selects (args := #[]) (mvT hZ (oW hw 89 rfl))) E2 rfl (lenOf d_1 rfl) k_27 rfl rfl rfl (W := 1) (Nat.le_of_eq rfl) (by decide)
    have N54 := Fr.app (Fr.nil n0) N54q
    have pre_55 := fun t k => pre_54 t <| XT.ishr X54.here hx rfl (hb hby k_28) rfl <| k
    have pre_56 : Pr p e below E0 T54 (mkF m 10 #[vr a1] [(.int (z1 >>> ((0 : Int32) &&& 31)))]) := pre_55
    exact rtI pre_56 K X54 e54 hret hlk k_29 (by decide) (hP _ _ _ ⟨by rw [own_sh0, hz], N54, rfl⟩)
  · skip
    obtain ⟨z1, hz⟩ : ∃ z, z = Int32.ofNat (2 * cs.length) := ⟨_, rfl⟩
    rw [← hz] at V2
    have pre_57 := fun t k => pre0 t <| oA K X0 k_23 rfl rfl rfl <| k
    obtain ⟨T58, X58, e58, pre_58⟩ := gF pre_57 K X0 eH (oW hw 85 rfl) Via.refl Fv2 k_24 rfl rfl
    have pre_59 := fun t k => pre_58 t <| oAl K X58 e58 V2 k_25 rfl rfl <| oA K X58 k_26 rfl rfl rfl <| k
    obtain ⟨T60, _, L60, X60, ⟨rfl, N60q, e60⟩, pre_60⟩ := cV pre_59 K X58 e58 (rm_cod1 l Z a0 hw a1 G1 h0 n0 O0 Fc2 SC hG) (oW hw 86 rfl) (oW hw 88 rfl) (oW hw 1 rfl) (oW hw 90 rfl) (oW hw 87 rfl) (oW hw 89 rfl) (notFace_of_selects (args := #[]) (mvT hZ (oW hw 89 rfl))) E2 rfl (lenOf d_1 rfl) k_27 rfl rfl rfl (W := 1) (Nat.le_of_eq rfl) (by decide)
    have N60 := Fr.app (Fr.nil n0) N60q
    have pre_61 := fun t k => pre_60 t <| XT.ishr X60.here hx rfl (hb hby k_28) rfl <| k
    have pre_62 : Pr p e below E0 T60 (mkF m 10 #[vr a1] [(.int (z1 >>> ((1 : Int32) &&& 31)))]) := pre_61
    exact rtI pre_62 K X60 e60 hret hlk k_29 (by decide) (hP _ _ _ ⟨by rw [hz, own_sh1 hcl], N60, rfl⟩)
theorem rm_pci (hw : Hw a0 Z) (x1 : Int32) (x2 : Int32) (w1 : Value)  (h0 : Heap) (n0 : Nat) (O0 : Old Z n0 h0) (hr : w1.isRef = true) (hbd : ¬ x1 < (0 : Int32) ∧ x1 < x2) : Met l Z y_58 c_58 3 (some .int) (Rm 0 0 0 0) #[(.int x1), (.int x2), w1] h0 (fun v h L => v = some (.int x1) ∧ Fr n0 L ∧ h = h0) := by
  refine own_met (own := s8_) (G := fun m => (mkF m 0 #[vi x1, vi x2, .val w1] [])) rfl n_58 (ef := fun m => by rcases ref_cases hr with rfl | ⟨z, rfl⟩ <;> first | (simp [entryFrame, mkF, argsToLocals, Value.category]; done) | rfl) ?_
  intro p e s m below meth c s₁ E0 P hP K hnm hret hlk hh X0 eH pre0
  obtain ⟨hx, hZ, hown, hby, hml⟩ := id K
  have pre_51 := fun t k => pre0 t <| oI K X0 k_875 rfl rfl <| XS.ifNo X0.here hx rfl (hb hby k_876) rfl (XT.i0_lt_f hbd.1) <| oI K X0 k_877 rfl rfl <| oI K X0 k_878 rfl rfl <| XS.icmpYes X0.here hx rfl (pc0 := 6) (pc' := 16) rfl (hb hby k_879) rfl (XT.ii_lt_t hbd.2) (by decide) (by decide) <| oI K X0 k_880 rfl rfl <| k
  have pre_52 : Pr p e below E0 s₁ (mkF m 17 #[vi x1, vi x2, .val w1] [(.int x1)]) := pre_51
  exact rtI pre_52 K X0 eH hret hlk k_881 (by decide) (hP _ _ _ ⟨rfl, (Fr.nil n0), rfl⟩)
theorem rm_sci (hw : Hw a0 Z) (x1 : Int32) (x2 : Int32) (w1 : Value) (h0 : Heap) (n0 : Nat) (O0 : Old Z n0 h0) (SF : Sta Z Z.heap s8_ s12_ s13_ w1) (hr : w1.isRef = true) (hbd : ¬ x1 < (0 : Int32) ∧ x1 < x2) : Met l Z y_59 c_59 2 none (Rm 1 0 0 15) #[(.int x1), (.int x2)] h0 (fun v h L => v = none ∧ Fr n0 L ∧ h = h0) := by
  refine own_met (own := s2_) (G := fun m => (mkF m 0 #[vi x1, vi x2] [])) rfl n_59 ?_
  intro p e s m below meth c s₁ E0 P hP K hnm hret hlk hh X0 eH pre0
  obtain ⟨hx, hZ, hown, hby, hml⟩ := id K
  have pre_51 := fun t k => pre0 t <| oI K X0 k_882 rfl rfl <| oI K X0 k_883 rfl rfl <| k
  obtain ⟨T52, X52, e52, pre_52⟩ := gS pre_51 K X0 eH (oW hw 353 rfl) (SF.ext O0.2) k_884 rfl
  obtain ⟨T53, _, L53, X53, ⟨rfl, N53q, e53⟩, pre_53⟩ := cS pre_52 K X52 e52 (rm_pci l Z a0 hw x1 x2 w1 h0 n0 O0 hr hbd) (oW hw 354 rfl) (oW hw 355 rfl) (oW hw 191 rfl) (oW hw 356 rfl) rfl (lenOf d_37 rfl) k_885 rfl rfl rfl (W := 0) (Nat.le_of_eq rfl) (by decide)
  have N53 := Fr.app (Fr.nil n0) N53q
  have pre_54 := fun t k => pre_53 t <| XT.pop X53.here hx rfl (hb hby k_886) rfl rfl <| k
  exact rtV pre_54 K X53 e53 hret hlk k_887 (by decide) (hP _ _ _ ⟨rfl, N53, rfl⟩)
theorem rm_lca (hw : Hw a0 Z) (a1 : Addr) (i1 : Int32) (z1 : Int32) (kB : ClassId) (ls : List Value) (x1 c1 : Int32) (w1 : Value) (h0 : Heap) (n0 : Nat) (O0 : Old Z n0 h0) (V1 : Arv Z h0 a1 kB .byte z1 ls (.int 0)) (SF : Sta Z Z.heap s8_ s12_ s13_ w1) (hr : w1.isRef = true) (hbd : ¬ i1 < (0 : Int32) ∧ i1 < z1) (hg : ls.getD i1.toNatClampNeg (.int 0) = .int x1) (hc : (x1 &&& (255 : Int32)).toUInt32.toUInt16.toUInt32.toInt32 = c1) : Met l Z y_60 c_60 2 (some .char) (Rm 2 0 0 30) #[(.ref a1), (.int i1)] h0 (fun v h L => v = some (.int c1) ∧ Fr n0 L ∧ h = h0) := by
  refine own_met (own := "java/lang/StringLatin1") (G := fun m => (mkF m 0 #[vr a1, vi i1] [])) rfl n_60 ?_
  intro p e s m below meth c s₁ E0 P hP K hnm hret hlk hh X0 eH pre0
  obtain ⟨hx, hZ, hown, hby, hml⟩ := id K
  have pre_51 := fun t k => pre0 t <| oI K X0 k_888 rfl rfl <| oA K X0 k_889 rfl rfl rfl <| oAl K X0 eH V1 k_890 rfl rfl <| k
  obtain ⟨T52, _, L52, X52, ⟨rfl, N52q, e52⟩, pre_52⟩ := cS pre_51 K X0 eH (rm_sci l Z a0 hw i1 z1 w1 h0 n0 O0 SF hr hbd) (oW hw 350 rfl) (oW hw 351 rfl) (oW hw 1 rfl) (oW hw 352 rfl) rfl (lenOf d_12 rfl) k_891 rfl rfl rfl (W := 0) (Nat.le_of_eq rfl) (by decide)
  have N52 := Fr.app (Fr.nil n0) N52q
  have pre_53 := fun t k => pre_52 t <| oA K X52 k_892 rfl rfl rfl <| oI K X52 k_893 rfl rfl <| oBa K X52 e52 V1 hbd hg k_894 rfl rfl <| XS.sipush X52.here hx rfl (hb hby k_895) <| XS.iand X52.here hx rfl (hb hby k_896) rfl <| XT.i2c X52.here hx rfl (hb hby k_897) rfl <| k
  have pre_54 : Pr p e below E0 T52 (mkF m 14 #[vr a1, vi i1] [(.int (((x1 &&& (255 : Int32))).toUInt32.toUInt16.toUInt32.toInt32))]) := pre_53
  exact rtN pre_54 K X52 e52 hret hlk k_898 (by decide) (by simp) (hP _ _ _ ⟨by rw [own_nch, hc], N52, rfl⟩)
theorem rm_uci (hw : Hw a0 Z) (i1 : Int32) (a1 : Addr) (z1 : Int32) (kB : ClassId) (ls : List Value) (l1 : Int32) (w1 : Value) (h0 : Heap) (n0 : Nat) (O0 : Old Z n0 h0) (V1 : Arv Z h0 a1 kB .byte z1 ls (.int 0)) (hl : (z1 >>> ((1 : Int32) &&& 31)) = l1) (SF : Sta Z Z.heap s8_ s12_ s13_ w1) (hr : w1.isRef = true) (hbd : ¬ i1 < (0 : Int32) ∧ i1 < l1) : Met l Z y_61 c_61 2 none (Rm 2 0 0 30) #[(.int i1), (.ref a1)] h0 (fun v h L => v = none ∧ Fr n0 L ∧ h = h0) := by
  refine own_met (own := s3_) (G := fun m => (mkF m 0 #[vi i1, vr a1] [])) rfl n_61 ?_
  intro p e s m below meth c s₁ E0 P hP K hnm hret hlk hh X0 eH pre0
  obtain ⟨hx, hZ, hown, hby, hml⟩ := id K
  have pre_51 := fun t k => pre0 t <| oI K X0 k_899 rfl rfl <| oA K X0 k_900 rfl rfl rfl <| k
  obtain ⟨T52, _, L52, X52, ⟨rfl, N52q, e52⟩, pre_52⟩ := cS pre_51 K X0 eH (rm_uln l Z a0 hw a1 z1 l1 kB ls h0 n0 O0 V1 hl) (oW hw 381 rfl) (oW hw 382 rfl) (oW hw 297 rfl) (oW hw 383 rfl) rfl (lenOf d_19 rfl) k_901 rfl rfl rfl (W := 1) (Nat.le_of_eq rfl) (by decide)
  have N52 := Fr.app (Fr.nil n0) N52q
  obtain ⟨T53, _, L53, X53, ⟨rfl, N53q, e53⟩, pre_53⟩ := cS pre_52 K X52 e52 (rm_sci l Z a0 hw i1 l1 w1 h0 n0 O0 SF hr hbd) (oW hw 413 rfl) (oW hw 351 rfl) (oW hw 1 rfl) (oW hw 352 rfl) rfl (lenOf d_12 rfl) k_902 rfl rfl rfl (W := 0) (Nat.le_of_eq rfl) (by decide)
  have N53 := Fr.app N52 N53q
  exact rtV pre_53 K X53 e53 hret hlk k_903 (by decide) (hP _ _ _ ⟨rfl, N53, rfl⟩)
theorem rm_uca (hw : Hw a0 Z) (a1 : Addr) (i1 : Int32) (z1 : Int32) (kB : ClassId) (ls : List Value) (l1 j1 c1 : Int32) (w1 : Value) (h0 : Heap) (n0 : Nat) (O0 : Old Z n0 h0) (V1 : Arv Z h0 a1 kB .byte z1 ls (.int 0)) (hl : (z1 >>> ((1 : Int32) &&& 31)) = l1) (SF : Sta Z Z.heap s8_ s12_ s13_ w1) (hr : w1.isRef = true) (hbd : ¬ i1 < (0 : Int32) ∧ i1 < l1) (hj : (i1 <<< ((1 : Int32) &&& 31)) = j1) (hb1 : ¬ j1 < 0 ∧ j1 < z1) (hb2 : ¬ (j1 + (1 : Int32)) < 0 ∧ (j1 + (1 : Int32)) < z1) (hg1 : ls.getD j1.toNatClampNeg (.int 0) = .int (own_lo c1)) (hg2 : ls.getD (j1 + (1 : Int32)).toNatClampNeg (.int 0) = .int (own_hi c1)) (hc : 0 ≤ c1.toInt ∧ c1.toInt < 65536) (SU1 : Sta Z Z.heap s3_ s9_ "Z" (.int 1)) (SU2 : Sta Z Z.heap s3_ s10_ "I" (.int 0)) (SU3 : Sta Z Z.heap s3_ s11_ "I" (.int 8)) : Met l Z y_62 c_62 2 (some .char) (Rm 3 0 0 46) #[(.ref a1), (.int i1)] h0 (fun v h L => v = some (.int c1) ∧ Fr n0 L ∧ h = h0) := by
  refine own_met (own := s3_) (G := fun m => (mkF m 0 #[vr a1, vi i1] [])) rfl n_62 ?_
  intro p e s m below meth c s₁ E0 P hP K hnm hret hlk hh X0 eH pre0
  obtain ⟨hx, hZ, hown, hby, hml⟩ := id K
  have pre_51 := fun t k => pre0 t <| oI K X0 k_904 rfl rfl <| oA K X0 k_905 rfl rfl rfl <| k
  obtain ⟨T52, _, L52, X52, ⟨rfl, N52q, e52⟩, pre_52⟩ := cS pre_51 K X0 eH (rm_uci l Z a0 hw i1 a1 z1 kB ls l1 w1 h0 n0 O0 V1 hl SF hr hbd) (oW hw 410 rfl) (oW hw 411 rfl) (oW hw 297 rfl) (oW hw 412 rfl) rfl (lenOf d_38 rfl) k_906 rfl rfl rfl (W := 0) (Nat.le_of_eq rfl) (by decide)
  have N52 := Fr.app (Fr.nil n0) N52q
  have pre_53 := fun t k => pre_52 t <| oA K X52 k_907 rfl rfl rfl <| oI K X52 k_908 rfl rfl <| k
  obtain ⟨T54, _, L54, X54, ⟨rfl, N54q, e54⟩, pre_54⟩ := cS pre_53 K X52 e52 (rm_gch l Z a0 hw a1 i1 j1 z1 c1 kB ls h0 n0 O0 V1 hj hb1 hb2 hg1 hg2 hc SU1 SU2 SU3) (oW hw 321 rfl) (oW hw 322 rfl) (oW hw 297 rfl) (oW hw 323 rfl) rfl (lenOf d_36 rfl) k_909 rfl rfl rfl (W := 0) (Nat.le_of_eq rfl) (by decide)
  have N54 := Fr.app N52 N54q
  have pre_55 : Pr p e below E0 T54 (mkF m 10 #[vr a1, vi i1] [(.int c1)]) := pre_54
  exact rtN pre_55 K X54 e54 hret hlk k_910 (by decide) (by simp) (hP _ _ _ ⟨by rw [own_ncr hc], N54, rfl⟩)
theorem rm_cha (hw : Hw a0 Z) (a1 : Addr) (i1 : Int32) (G1 : Int32) (b1 : Addr) (kB : ClassId) (cs : List Int32) (kN : Nat) (c1 : Int32) (w1 : Value) (h0 : Heap) (n0 : Nat) (O0 : Old Z n0 h0) (E2 : Exa Z h0 a1 s2_) (HM : own_M Z h0 a1 b1 kB cs) (hcl : cs.length < 500) (hi : i1 = Int32.ofNat kN) (hk : cs[kN]? = some c1) (hrc : 0 ≤ c1.toInt ∧ c1.toInt < 65536) (SC : Sta Z Z.heap s2_ s6_ "Z" (.int G1)) (hG : ¬ G1 = (0 : Int32)) (SF : Sta Z Z.heap s8_ s12_ s13_ w1) (hr : w1.isRef = true) (SU1 : Sta Z Z.heap s3_ s9_ "Z" (.int 1)) (SU2 : Sta Z Z.heap s3_ s10_ "I" (.int 0)) (SU3 : Sta Z Z.heap s3_ s11_ "I" (.int 8)) : Met l Z y_63 c_63 2 (some .char) (Rm 4 0 0 62) #[(.ref a1), (.int i1)] h0 (fun v h L => v = some (.int c1) ∧ Fr n0 L ∧ h = h0) := by
  refine own_met (own := s2_) (G := fun m => (mkF m 0 #[vr a1, vi i1] [])) rfl n_63 ?_
  intro p e s m below meth c s₁ E0 P hP K hnm hret hlk hh X0 eH pre0
  obtain ⟨hx, hZ, hown, hby, hml⟩ := id K
  rcases HM with ⟨Fv2, ⟨Fc2, V2, hsm⟩ | ⟨Fc2, V2⟩⟩
  · skip
    obtain ⟨z1, hz⟩ : ∃ z, z = Int32.ofNat (cs.length) := ⟨_, rfl⟩
    rw [← hz] at V2
    have hkl := own_kl hk
    have hbb := own_ix hi hz hkl (by omega)
    have pre_51 := fun t k => pre0 t <| oA K X0 k_911 rfl rfl rfl <| k
    obtain ⟨T52, _, L52, X52, ⟨rfl, N52q, e52⟩, pre_52⟩ := cV pre_51 K X0 eH (rm_sl0 l Z a0 hw a1 G1 h0 n0 O0 Fc2 SC hG) (oW hw 193 rfl) (oW hw 195 rfl) (oW hw 1 rfl) (oW hw 197 rfl) (oW hw 194 rfl) (oW hw 196 rfl) (notFace_of_selects (args := #[]) (mvT hZ (oW hw 196 rfl))) E2 rfl (lenOf d_15 rfl) k_912 rfl rfl rfl (W := 0) (Nat.le_of_eq rfl) (by decide)
    have N52 := Fr.app (Fr.nil n0) N52q
    have pre_53 := fun t k => pre_52 t <| XS.ifNo X52.here hx rfl (hb hby k_913) rfl (XT.i0_eq_f (by decide)) <| oA K X52 k_914 rfl rfl rfl <| k
    obtain ⟨T54, X54, e54, pre_54⟩ := gF pre_53 K X52 e52 (oW hw 85 rfl) Via.refl Fv2 k_915 rfl rfl
    have pre_55 := fun t k => pre_54 t <| oI K X54 k_916 rfl rfl <| k
    obtain ⟨T56, _, L56, X56, ⟨rfl, N56q, e56⟩, pre_56⟩ := cS pre_55 K X54 e54 (rm_lca l Z a0 hw b1 i1 z1 kB (cs.map own_b) c1.toInt8.toInt32 c1 w1 h0 n0 O0 V2 SF hr hbb (by rw [hi, own_onN (by omega)]; exact own_bg hk _) (own_lat c1 (hsm c1 (own_mem hk)).1 (hsm c1 (own_mem hk)).2)) (oW hw 347 rfl) (oW hw 348 rfl) (oW hw 284 rfl) (oW hw 349 rfl) rfl (lenOf d_36 rfl) k_917 rfl rfl rfl (W := 0) (Nat.le_of_eq rfl) (by decide)
    have N56 := Fr.app N52 N56q
    have pre_57 : Pr p e below E0 T56 (mkF m 15 #[vr a1, vi i1] [(.int c1)]) := pre_56
    exact rtN pre_57 K X56 e56 hret hlk k_918 (by decide) (by simp) (hP _ _ _ ⟨by rw [own_ncr hrc], N56, rfl⟩)
  · skip
    obtain ⟨z1, hz⟩ : ∃ z, z = Int32.ofNat (2 * cs.length) := ⟨_, rfl⟩
    rw [← hz] at V2
    have hkl := own_kl hk
    have hbb := own_ix (s1 := Int32.ofNat cs.length) hi rfl hkl (by omega)
    have hpt := own_pt hi hz (by omega) (by omega)
    have hug := own_ug hk (.int 0)
    have pre_58 := fun t k => pre0 t <| oA K X0 k_911 rfl rfl rfl <| k
    obtain ⟨T59, _, L59, X59, ⟨rfl, N59q, e59⟩, pre_59⟩ := cV pre_58 K X0 eH (rm_sl1 l Z a0 hw a1 G1 h0 n0 O0 Fc2 SC hG) (oW hw 193 rfl) (oW hw 195 rfl) (oW hw 1 rfl) (oW hw 197 rfl) (oW hw 194 rfl) (oW hw 196 rfl) (notFace_of_selects (args := #[]) (mvT hZ (oW hw 196 rfl))) E2 rfl (lenOf d_15 rfl) k_912 rfl rfl rfl (W := 0) (Nat.le_of_eq rfl) (by decide)
    have N59 := Fr.app (Fr.nil n0) N59q
    have pre_60 := fun t k => pre_59 t <| XS.ifYes X59.here hx rfl (pc0 := 4) (pc' := 16) rfl (hb hby k_913) rfl (XT.i0_eq_t (by decide)) (by decide) (by decide) <| oA K X59 k_919 rfl rfl rfl <| k
    obtain ⟨T61, X61, e61, pre_61⟩ := gF pre_60 K X59 e59 (oW hw 85 rfl) Via.refl Fv2 k_920 rfl rfl
    have pre_62 := fun t k => pre_61 t <| oI K X61 k_921 rfl rfl <| k
    obtain ⟨T63, _, L63, X63, ⟨rfl, N63q, e63⟩, pre_63⟩ := cS pre_62 K X61 e61 (rm_uca l Z a0 hw b1 i1 z1 kB (own_u cs) (Int32.ofNat cs.length) (i1 <<< ((1 : Int32) &&& 31)) c1 w1 h0 n0 O0 V2 (by rw [hz, own_sh1 hcl]) SF hr hbb rfl hpt.1 hpt.2.1 (by rw [hpt.2.2.1]; exact hug.1) (by rw [hpt.2.2.2]; exact hug.2) hrc SU1 SU2 SU3) (oW hw 407 rfl) (oW hw 408 rfl) (oW hw 297 rfl) (oW hw 409 rfl) rfl (lenOf d_36 rfl) k_922 rfl rfl rfl (W := 0) (Nat.le_of_eq rfl) (by decide)
    have N63 := Fr.app N59 N63q
    have pre_64 : Pr p e below E0 T63 (mkF m 24 #[vr a1, vi i1] [(.int c1)]) := pre_63
    exact rtN pre_64 K X63 e63 hret hlk k_923 (by decide) (by simp) (hP _ _ _ ⟨by rw [own_ncr hrc], N63, rfl⟩)
theorem rm_chs (hw : Hw a0 Z) (c0 : Int32)  (h0 : Heap) (n0 : Nat) (O0 : Old Z n0 h0)  : Met l Z y_64 c_64 1 (some .boolean) (Rm 0 0 0 0) #[(.int c0)] h0 (fun v h L => v = some (.int (own_hs c0)) ∧ Fr n0 L ∧ h = h0) := by
  refine own_met (own := "java/lang/Character") (G := fun m => (mkF m 0 #[vi c0] [])) rfl n_64 ?_
  intro p e s m below meth c s₁ E0 P hP K hnm hret hlk hh X0 eH pre0
  obtain ⟨hx, hZ, hown, hby, hml⟩ := id K
  have pre_51 := fun t k => pre0 t <| oI K X0 k_924 rfl rfl <| oLi K X0 (oW hw 334 rfl) k_925 rfl <| k
  by_cases hc52 : c0 < (55296 : Int32)
  · skip
    have pre_53 := fun t k => pre_51 t <| XS.icmpYes X0.here hx rfl (pc0 := 3) (pc' := 16) rfl (hb hby k_926) rfl (XT.ii_lt_t hc52) (by decide) (by decide) <| XS.iconst X0.here hx rfl (hb hby k_927) <| k
    have pre_54 : Pr p e below E0 s₁ (mkF m 17 #[vi c0] [(.int 0)]) := pre_53
    exact rtN pre_54 K X0 eH hret hlk k_928 (by decide) (by simp) (hP _ _ _ ⟨by rw [own_hs, if_pos hc52]; rfl, (Fr.nil n0), rfl⟩)
  · skip
    have pre_55 := fun t k => pre_51 t <| XS.icmpNo X0.here hx rfl (hb hby k_926) rfl (XT.ii_lt_f hc52) <| oI K X0 k_929 rfl rfl <| oLi K X0 (oW hw 335 rfl) k_930 rfl <| k
    by_cases hc56 : c0 < (56320 : Int32)
    · skip
      have pre_57 := fun t k => pre_55 t <| XS.icmpNo X0.here hx rfl (hb hby k_931) rfl (XT.ii_ge_f hc56) <| XS.iconst X0.here hx rfl (hb hby k_932) <| XS.goto X0.here hx rfl (pc0 := 13) (pc' := 17) rfl (hb hby k_933) (by decide) (by decide) <| k
      have pre_58 : Pr p e below E0 s₁ (mkF m 17 #[vi c0] [(.int 1)]) := pre_57
      exact rtN pre_58 K X0 eH hret hlk k_928 (by decide) (by simp) (hP _ _ _ ⟨by rw [own_hs, if_neg hc52, if_pos hc56]; rfl, (Fr.nil n0), rfl⟩)
    · skip
      have pre_59 := fun t k => pre_55 t <| XS.icmpYes X0.here hx rfl (pc0 := 9) (pc' := 16) rfl (hb hby k_931) rfl (XT.ii_ge_t hc56) (by decide) (by decide) <| XS.iconst X0.here hx rfl (hb hby k_927) <| k
      have pre_60 : Pr p e below E0 s₁ (mkF m 17 #[vi c0] [(.int 0)]) := pre_59
      exact rtN pre_60 K X0 eH hret hlk k_928 (by decide) (by simp) (hP _ _ _ ⟨by rw [own_hs, if_neg hc52, if_neg hc56]; rfl, (Fr.nil n0), rfl⟩)
theorem rm_cls (hw : Hw a0 Z) (c0 : Int32)  (h0 : Heap) (n0 : Nat) (O0 : Old Z n0 h0)  : Met l Z y_65 c_65 1 (some .boolean) (Rm 0 0 0 0) #[(.int c0)] h0 (fun v h L => v = some (.int (own_ls c0)) ∧ Fr n0 L ∧ h = h0) := by
  refine own_met (own := "java/lang/Character") (G := fun m => (mkF m 0 #[vi c0] [])) rfl n_65 ?_
  intro p e s m below meth c s₁ E0 P hP K hnm hret hlk hh X0 eH pre0
  obtain ⟨hx, hZ, hown, hby, hml⟩ := id K
  have pre_51 := fun t k => pre0 t <| oI K X0 k_934 rfl rfl <| oLi K X0 (oW hw 335 rfl) k_935 rfl <| k
  by_cases hc52 : c0 < (56320 : Int32)
  · skip
    have pre_53 := fun t k => pre_51 t <| XS.icmpYes X0.here hx rfl (pc0 := 3) (pc' := 16) rfl (hb hby k_936) rfl (XT.ii_lt_t hc52) (by decide) (by decide) <| XS.iconst X0.here hx rfl (hb hby k_937) <| k
    have pre_54 : Pr p e below E0 s₁ (mkF m 17 #[vi c0] [(.int 0)]) := pre_53
    exact rtN pre_54 K X0 eH hret hlk k_938 (by decide) (by simp) (hP _ _ _ ⟨by rw [own_ls, if_pos hc52]; rfl, (Fr.nil n0), rfl⟩)
  · skip
    have pre_55 := fun t k => pre_51 t <| XS.icmpNo X0.here hx rfl (hb hby k_936) rfl (XT.ii_lt_f hc52) <| oI K X0 k_939 rfl rfl <| oLi K X0 (oW hw 414 rfl) k_940 rfl <| k
    by_cases hc56 : c0 < (57344 : Int32)
    · skip
      have pre_57 := fun t k => pre_55 t <| XS.icmpNo X0.here hx rfl (hb hby k_941) rfl (XT.ii_ge_f hc56) <| XS.iconst X0.here hx rfl (hb hby k_942) <| XS.goto X0.here hx rfl (pc0 := 13) (pc' := 17) rfl (hb hby k_943) (by decide) (by decide) <| k
      have pre_58 : Pr p e below E0 s₁ (mkF m 17 #[vi c0] [(.int 1)]) := pre_57
      exact rtN pre_58 K X0 eH hret hlk k_938 (by decide) (by simp) (hP _ _ _ ⟨by rw [own_ls, if_neg hc52, if_pos hc56]; rfl, (Fr.nil n0), rfl⟩)
    · skip
      have pre_59 := fun t k => pre_55 t <| XS.icmpYes X0.here hx rfl (pc0 := 9) (pc' := 16) rfl (hb hby k_941) rfl (XT.ii_ge_t hc56) (by decide) (by decide) <| XS.iconst X0.here hx rfl (hb hby k_937) <| k
      have pre_60 : Pr p e below E0 s₁ (mkF m 17 #[vi c0] [(.int 0)]) := pre_59
      exact rtN pre_60 K X0 eH hret hlk k_938 (by decide) (by simp) (hP _ _ _ ⟨by rw [own_ls, if_neg hc52, if_neg hc56]; rfl, (Fr.nil n0), rfl⟩)
theorem rm_cpd (hw : Hw a0 Z) (a1 : Addr) (kB : ClassId) (c0 c1 : Int32) (h0 : Heap) (n0 : Nat) (O0 : Old Z n0 h0) (V1 : Arv Z h0 a1 kB .byte (4 : Int32) (own_u [c0, c1]) (.int 0)) (hr0 : 0 ≤ c0.toInt ∧ c0.toInt < 65536) (hr1 : 0 ≤ c1.toInt ∧ c1.toInt < 65536) (SU1 : Sta Z Z.heap s3_ s9_ "Z" (.int 1)) (SU2 : Sta Z Z.heap s3_ s10_ "I" (.int 0)) (SU3 : Sta Z Z.heap s3_ s11_ "I" (.int 8)) : Met l Z y_66 c_66 6 (some .int) (Rm 2 0 0 20) #[(.ref a1), (.int 0), (.int 2), (.int 0)] h0 (fun v h L => v = some (.int (own_cp c0 c1)) ∧ Fr n0 L ∧ h = h0) := by
  refine own_met (own := s3_) (G := fun m => (mkF m 0 #[vr a1, vi 0, vi 2, vi 0, uz, uz] [])) rfl n_66 ?_
  intro p e s m below meth c s₁ E0 P hP K hnm hret hlk hh X0 eH pre0
  obtain ⟨hx, hZ, hown, hby, hml⟩ := id K
  obtain ⟨T51, X51, e51, pre_51⟩ := gS pre0 K X0 eH (oW hw 318 rfl) (SU1.ext O0.2) k_944 rfl
  have pre_52 : Pr p e below E0 T51 (mkF m 58 #[vr a1, vi 0, vi 2, vi 0, vi 2, vi 1] [(.int 0), (.ref a1)]) := fun t k => pre_51 t <| XS.ifYes X51.here hx rfl (pc0 := 3) (pc' := 19) rfl (hb hby k_945) rfl (XT.i0_ne_t (by decide)) (by decide) (by decide) <| oI K X51 k_946 rfl rfl <| oI K X51 k_947 rfl rfl <| XS.isub X51.here hx rfl (hb hby k_948) rfl <| XS.istore X51.here hx rfl (hb hby k_949) rfl (l' := #[vr a1, vi 0, vi 2, vi 0, vi 2, uz]) rfl <| oI K X51 k_950 rfl rfl <| XS.istore X51.here hx rfl (hb hby k_951) rfl (l' := #[vr a1, vi 0, vi 2, vi 0, vi 2, vi 0]) rfl <| oI K X51 k_952 rfl rfl <| XS.ifYes X51.here hx rfl (pc0 := 28) (pc' := 44) rfl (hb hby k_953) rfl (XT.i0_eq_t (by decide)) (by decide) (by decide) <| oJ K X51 k_954 rfl rfl <| oI K X51 k_955 rfl rfl <| XS.iconst X51.here hx rfl (hb hby k_956) <| XS.isub X51.here hx rfl (hb hby k_957) rfl <| XS.icmpNo X51.here hx rfl (hb hby k_958) rfl (XT.ii_ge_f (by decide)) <| oA K X51 k_959 rfl rfl rfl <| oJ K X51 k_960 rfl rfl <| XS.iinc X51.here hx rfl (hb hby k_961) rfl (l' := #[vr a1, vi 0, vi 2, vi 0, vi 2, vi 1]) rfl <| k
  obtain ⟨T53, _, L53, X53, ⟨rfl, N53q, e53⟩, pre_53⟩ := cS pre_52 K X51 e51 (rm_gch l Z a0 hw a1 (0 : Int32) (0 : Int32) (4 : Int32) c0 kB (own_u [c0, c1]) h0 n0 O0 V1 (by decide) (by decide) (by decide) rfl rfl hr0 SU1 SU2 SU3) (oW hw 321 rfl) (oW hw 322 rfl) (oW hw 297 rfl) (oW hw 323 rfl) rfl (lenOf d_36 rfl) k_962 rfl rfl rfl (W := 0) (Nat.le_of_eq rfl) (by decide)
  have N53 := Fr.app (Fr.nil n0) N53q
  obtain ⟨T54, _, L54, X54, ⟨rfl, N54q, e54⟩, pre_54⟩ := cS pre_53 K X53 e53 (rm_chs l Z a0 hw c0 h0 n0 O0) (oW hw 330 rfl) (oW hw 331 rfl) (oW hw 332 rfl) (oW hw 333 rfl) rfl (lenOf d_39 rfl) k_963 rfl rfl rfl (W := 0) (Nat.le_of_eq rfl) (by decide)
  have N54 := Fr.app N53 N54q
  by_cases hc55 : (own_hs c0) = (0 : Int32)
  · skip
    have pre_56 := fun t k => pre_54 t <| XS.ifYes X54.here hx rfl (pc0 := 64) (pc' := 44) rfl (hb hby k_964) rfl (XT.i0_eq_t hc55) (by decide) (by decide) <| oJ K X54 k_954 rfl rfl <| oI K X54 k_955 rfl rfl <| XS.iconst X54.here hx rfl (hb hby k_956) <| XS.isub X54.here hx rfl (hb hby k_957) rfl <| XS.icmpYes X54.here hx rfl (pc0 := 49) (pc' := 88) rfl (hb hby k_958) rfl (XT.ii_ge_t (by decide)) (by decide) (by decide) <| oJ K X54 k_965 rfl rfl <| k
    have pre_57 : Pr p e below E0 T54 (mkF m 90 #[vr a1, vi 0, vi 2, vi 0, vi 2, vi 1] [(.int 2)]) := pre_56
    exact rtI pre_57 K X54 e54 hret hlk k_966 (by decide) (hP _ _ _ ⟨by rw [own_cp, if_pos hc55], N54, rfl⟩)
  · skip
    have pre_58 := fun t k => pre_54 t <| XS.ifNo X54.here hx rfl (hb hby k_964) rfl (XT.i0_eq_f hc55) <| oA K X54 k_967 rfl rfl rfl <| oJ K X54 k_968 rfl rfl <| k
    obtain ⟨T59, _, L59, X59, ⟨rfl, N59q, e59⟩, pre_59⟩ := cS pre_58 K X54 e54 (rm_gch l Z a0 hw a1 (1 : Int32) (2 : Int32) (4 : Int32) c1 kB (own_u [c0, c1]) h0 n0 O0 V1 (by decide) (by decide) (by decide) rfl rfl hr1 SU1 SU2 SU3) (oW hw 321 rfl) (oW hw 322 rfl) (oW hw 297 rfl) (oW hw 323 rfl) rfl (lenOf d_36 rfl) k_969 rfl rfl rfl (W := 0) (Nat.le_of_eq rfl) (by decide)
    have N59 := Fr.app N54 N59q
    obtain ⟨T60, _, L60, X60, ⟨rfl, N60q, e60⟩, pre_60⟩ := cS pre_59 K X59 e59 (rm_cls l Z a0 hw c1 h0 n0 O0) (oW hw 336 rfl) (oW hw 337 rfl) (oW hw 332 rfl) (oW hw 338 rfl) rfl (lenOf d_39 rfl) k_970 rfl rfl rfl (W := 0) (Nat.le_of_eq rfl) (by decide)
    have N60 := Fr.app N59 N60q
    by_cases hc61 : (own_ls c1) = (0 : Int32)
    · skip
      have pre_62 : Pr p e below E0 T60 (mkF m 90 #[vr a1, vi 0, vi 2, vi 0, vi 2, vi 1] [(.int 2)]) := fun t k => pre_60 t <| XS.ifYes X60.here hx rfl (pc0 := 76) (pc' := 44) rfl (hb hby k_971) rfl (XT.i0_eq_t hc61) (by decide) (by decide) <| oJ K X60 k_954 rfl rfl <| oI K X60 k_955 rfl rfl <| XS.iconst X60.here hx rfl (hb hby k_956) <| XS.isub X60.here hx rfl (hb hby k_957) rfl <| XS.icmpYes X60.here hx rfl (pc0 := 49) (pc' := 88) rfl (hb hby k_958) rfl (XT.ii_ge_t (by decide)) (by decide) (by decide) <| oJ K X60 k_965 rfl rfl <| k
      exact rtI pre_62 K X60 e60 hret hlk k_966 (by decide) (hP _ _ _ ⟨by rw [own_cp, if_neg hc55, if_pos hc61], N60, rfl⟩)
    · skip
      have pre_63 : Pr p e below E0 T60 (mkF m 90 #[vr a1, vi 0, vi 2, vi 0, vi 1, vi 2] [(.int 1)]) := fun t k => pre_60 t <| XS.ifNo X60.here hx rfl (hb hby k_971) rfl (XT.i0_eq_f hc61) <| XS.iinc X60.here hx rfl (hb hby k_972) rfl (l' := #[vr a1, vi 0, vi 2, vi 0, vi 1, vi 1]) rfl <| XS.iinc X60.here hx rfl (hb hby k_973) rfl (l' := #[vr a1, vi 0, vi 2, vi 0, vi 1, vi 2]) rfl <| XS.goto X60.here hx rfl (pc0 := 85) (pc' := 44) rfl (hb hby k_974) (by decide) (by decide) <| oJ K X60 k_954 rfl rfl <| oI K X60 k_955 rfl rfl <| XS.iconst X60.here hx rfl (hb hby k_956) <| XS.isub X60.here hx rfl (hb hby k_957) rfl <| XS.icmpYes X60.here hx rfl (pc0 := 49) (pc' := 88) rfl (hb hby k_958) rfl (XT.ii_ge_t (by decide)) (by decide) (by decide) <| oJ K X60 k_965 rfl rfl <| k
      exact rtI pre_63 K X60 e60 hret hlk k_966 (by decide) (hP _ _ _ ⟨by rw [own_cp, if_neg hc55, if_neg hc61], N60, rfl⟩)
theorem rm_cpb (hw : Hw a0 Z) (a1 : Addr) (kB : ClassId) (c0 c1 : Int32) (h0 : Heap) (n0 : Nat) (O0 : Old Z n0 h0) (V1 : Arv Z h0 a1 kB .byte (4 : Int32) (own_u [c0, c1]) (.int 0)) (hr0 : 0 ≤ c0.toInt ∧ c0.toInt < 65536) (hr1 : 0 ≤ c1.toInt ∧ c1.toInt < 65536) (SU1 : Sta Z Z.heap s3_ s9_ "Z" (.int 1)) (SU2 : Sta Z Z.heap s3_ s10_ "I" (.int 0)) (SU3 : Sta Z Z.heap s3_ s11_ "I" (.int 8)) : Met l Z y_67 c_67 3 (some .int) (Rm 3 0 0 40) #[(.ref a1), (.int 0), (.int 2)] h0 (fun v h L => v = some (.int (own_cp c0 c1)) ∧ Fr n0 L ∧ h = h0) := by
  refine own_met (own := s3_) (G := fun m => (mkF m 0 #[vr a1, vi 0, vi 2] [])) rfl n_67 ?_
  intro p e s m below meth c s₁ E0 P hP K hnm hret hlk hh X0 eH pre0
  obtain ⟨hx, hZ, hown, hby, hml⟩ := id K
  have pre_51 := fun t k => pre0 t <| oA K X0 k_975 rfl rfl rfl <| oI K X0 k_976 rfl rfl <| oI K X0 k_977 rfl rfl <| XS.iconst X0.here hx rfl (hb hby k_978) <| k
  obtain ⟨T52, _, L52, X52, ⟨rfl, N52q, e52⟩, pre_52⟩ := cS pre_51 K X0 eH (rm_cpd l Z a0 hw a1 kB c0 c1 h0 n0 O0 V1 hr0 hr1 SU1 SU2 SU3) (oW hw 327 rfl) (oW hw 328 rfl) (oW hw 297 rfl) (oW hw 329 rfl) rfl (lenOf d_40 rfl) k_979 rfl rfl rfl (W := 0) (Nat.le_of_eq rfl) (by decide)
  have N52 := Fr.app (Fr.nil n0) N52q
  have pre_53 : Pr p e below E0 T52 (mkF m 7 #[vr a1, vi 0, vi 2] [(.int (own_cp c0 c1))]) := pre_52
  exact rtI pre_53 K X52 e52 hret hlk k_980 (by decide) (hP _ _ _ ⟨rfl, N52, rfl⟩)
theorem rm_cpc (hw : Hw a0 Z) (a1 : Addr) (G1 : Int32) (b1 : Addr) (kB : ClassId) (c0 c1 : Int32) (h0 : Heap) (n0 : Nat) (O0 : Old Z n0 h0) (E2 : Exa Z h0 a1 s2_) (HM : own_M Z h0 a1 b1 kB [c0, c1]) (hr0 : 0 ≤ c0.toInt ∧ c0.toInt < 65536) (hr1 : 0 ≤ c1.toInt ∧ c1.toInt < 65536) (SC : Sta Z Z.heap s2_ s6_ "Z" (.int G1)) (hG : ¬ G1 = (0 : Int32)) (SU1 : Sta Z Z.heap s3_ s9_ "Z" (.int 1)) (SU2 : Sta Z Z.heap s3_ s10_ "I" (.int 0)) (SU3 : Sta Z Z.heap s3_ s11_ "I" (.int 8)) : Met l Z y_68 c_68 3 (some .int) (Rm 4 0 0 60) #[(.ref a1), (.int 0), (.int 2)] h0 (fun v h L => v = some (.int (own_cp c0 c1)) ∧ Fr n0 L ∧ h = h0) := by
  refine own_met (own := s2_) (G := fun m => (mkF m 0 #[vr a1, vi 0, vi 2] [])) rfl n_68 ?_
  intro p e s m below meth c s₁ E0 P hP K hnm hret hlk hh X0 eH pre0
  obtain ⟨hx, hZ, hown, hby, hml⟩ := id K
  have pre_51 := fun t k => pre0 t <| oI K X0 k_981 rfl rfl <| oI K X0 k_982 rfl rfl <| oA K X0 k_983 rfl rfl rfl <| k
  obtain ⟨T52, _, L52, X52, ⟨rfl, N52q, e52⟩, pre_52⟩ := cV pre_51 K X0 eH (rm_lnm l Z a0 hw a1 G1 b1 kB [c0, c1] h0 n0 O0 E2 HM (by simp) SC hG) (oW hw 184 rfl) (oW hw 82 rfl) (oW hw 1 rfl) (oW hw 84 rfl) (oW hw 81 rfl) (oW hw 83 rfl) (notFace_of_selects (args := #[]) (mvT hZ (oW hw 83 rfl))) E2 rfl (lenOf d_8 rfl) k_984 rfl rfl rfl (W := 2) (Nat.le_of_eq rfl) (by decide)
  have N52 := Fr.app (Fr.nil n0) N52q
  obtain ⟨T53, _, L53, X53, ⟨rfl, N53q, e53⟩, pre_53⟩ := cS pre_52 K X52 e52 (rm_oft l Z a0 hw (0 : Int32) (2 : Int32) (2 : Int32) h0 n0 O0 (by decide) (by decide) (by decide)) (oW hw 185 rfl) (oW hw 186 rfl) (oW hw 187 rfl) (oW hw 188 rfl) rfl (lenOf d_3 rfl) k_985 rfl rfl rfl (W := 0) (Nat.le_of_eq rfl) (by decide)
  have N53 := Fr.app N52 N53q
  have pre_54 := fun t k => pre_53 t <| XT.pop X53.here hx rfl (hb hby k_986) rfl rfl <| k
  rcases HM with ⟨Fv2, ⟨Fc2, V2, hsm⟩ | ⟨Fc2, V2⟩⟩
  · skip
    have pre_55 := fun t k => pre_54 t <| oA K X53 k_987 rfl rfl rfl <| k
    obtain ⟨T56, _, L56, X56, ⟨rfl, N56q, e56⟩, pre_56⟩ := cV pre_55 K X53 e53 (rm_sl0 l Z a0 hw a1 G1 h0 n0 O0 Fc2 SC hG) (oW hw 193 rfl) (oW hw 195 rfl) (oW hw 1 rfl) (oW hw 197 rfl) (oW hw 194 rfl) (oW hw 196 rfl) (notFace_of_selects (args := #[]) (mvT hZ (oW hw 196 rfl))) E2 rfl (lenOf d_15 rfl) k_988 rfl rfl rfl (W := 0) (Nat.le_of_eq rfl) (by decide)
    have N56 := Fr.app N53 N56q
    have pre_57 := fun t k => pre_56 t <| XS.ifNo X56.here hx rfl (hb hby k_989) rfl (XT.i0_eq_f (by decide)) <| oI K X56 k_990 rfl rfl <| oI K X56 k_991 rfl rfl <| XS.isub X56.here hx rfl (hb hby k_992) rfl <| k
    have pre_58 : Pr p e below E0 T56 (mkF m 20 #[vr a1, vi 0, vi 2] [(.int 2)]) := pre_57
    exact rtI pre_58 K X56 e56 hret hlk k_993 (by decide) (hP _ _ _ ⟨by rw [own_cp2 hsm], N56, rfl⟩)
  · skip
    have pre_59 := fun t k => pre_54 t <| oA K X53 k_987 rfl rfl rfl <| k
    obtain ⟨T60, _, L60, X60, ⟨rfl, N60q, e60⟩, pre_60⟩ := cV pre_59 K X53 e53 (rm_sl1 l Z a0 hw a1 G1 h0 n0 O0 Fc2 SC hG) (oW hw 193 rfl) (oW hw 195 rfl) (oW hw 1 rfl) (oW hw 197 rfl) (oW hw 194 rfl) (oW hw 196 rfl) (notFace_of_selects (args := #[]) (mvT hZ (oW hw 196 rfl))) E2 rfl (lenOf d_15 rfl) k_988 rfl rfl rfl (W := 0) (Nat.le_of_eq rfl) (by decide)
    have N60 := Fr.app N53 N60q
    have pre_61 := fun t k => pre_60 t <| XS.ifYes X60.here hx rfl (pc0 := 14) (pc' := 21) rfl (hb hby k_989) rfl (XT.i0_eq_t (by decide)) (by decide) (by decide) <| oA K X60 k_994 rfl rfl rfl <| k
    obtain ⟨T62, X62, e62, pre_62⟩ := gF pre_61 K X60 e60 (oW hw 85 rfl) Via.refl Fv2 k_995 rfl rfl
    have pre_63 := fun t k => pre_62 t <| oI K X62 k_996 rfl rfl <| oI K X62 k_997 rfl rfl <| k
    obtain ⟨T64, _, L64, X64, ⟨rfl, N64q, e64⟩, pre_64⟩ := cS pre_63 K X62 e62 (rm_cpb l Z a0 hw b1 kB c0 c1 h0 n0 O0 V2 hr0 hr1 SU1 SU2 SU3) (oW hw 324 rfl) (oW hw 325 rfl) (oW hw 297 rfl) (oW hw 326 rfl) rfl (lenOf d_41 rfl) k_998 rfl rfl rfl (W := 0) (Nat.le_of_eq rfl) (by decide)
    have N64 := Fr.app N60 N64q
    have pre_65 : Pr p e below E0 T64 (mkF m 30 #[vr a1, vi 0, vi 2] [(.int (own_cp c0 c1))]) := pre_64
    exact rtI pre_65 K X64 e64 hret hlk k_999 (by decide) (hP _ _ _ ⟨rfl, N64, rfl⟩)
theorem rm_leq (hw : Hw a0 Z) (a1 : Addr) (a2 : Addr) (n1 : Int32) (xs : List Int32) (k1 k2 : ClassId) (h0 : Heap) (n0 : Nat) (O0 : Old Z n0 h0) (V1 : Arv Z h0 a1 k1 .byte n1 (xs.map Value.int) (.int 0)) (V2 : Arv Z h0 a2 k2 .byte n1 (xs.map Value.int) (.int 0)) (hn : n1 = Int32.ofNat xs.length) (hk : xs.length < 500) : Met l Z y_69 c_69 3 (some .boolean) (Rm 0 0 0 0) #[(.ref a1), (.ref a2)] h0 (fun v h L => v = some (.int 1) ∧ Fr n0 L ∧ h = h0) := by
  refine own_met (own := "java/lang/StringLatin1") (G := fun m => (mkF m 0 #[vr a1, vr a2, uz] [])) rfl n_69 ?_
  intro p e s m below meth c s₁ E0 P hP K hnm hret hlk hh X0 eH pre0
  obtain ⟨hx, hZ, hown, hby, hml⟩ := id K
  have pre_51 := fun t k => pre0 t <| oA K X0 k_1000 rfl rfl rfl <| oAl K X0 eH V1 k_1001 rfl rfl <| oA K X0 k_1002 rfl rfl rfl <| oAl K X0 eH V2 k_1003 rfl rfl <| XS.icmpNo X0.here hx rfl (hb hby k_1004) rfl (XT.ii_ne_f rfl) <| XS.iconst X0.here hx rfl (hb hby k_1005) <| XS.istoreN X0.here hx rfl (hb hby k_1006) rfl (l' := #[vr a1, vr a2, vi 0]) rfl <| k
  have loop : ∀ (rs ds : List Int32), xs = ds ++ rs → ∀ (iv : Int32), iv = Int32.ofNat ds.length → ∀ (Tt : State) (lt : List Loc) (Xt : Stand p l e (Rm 0 0 0 0) s m #[(.ref a1), (.ref a2)] below meth c Tt lt 0 0) (Nt : Fr n0 lt) (et : Tt.heap = h0) (pt : Pr p e below E0 Tt (mkF m 9 #[vr a1, vr a2, vi iv] [])), Gl p e below s E0 P (Rm 0 0 0 0).cells (Rm 0 0 0 0).slots := by
    intro rs
    induction rs with
    | nil =>
      intro ds hxs iv hiv Tt lt Xt Nt et pt
      have hlt : ¬ iv < n1 := by rw [hiv, hn, hxs, List.append_nil]; exact Int32.lt_irrefl
      have pre_52 := fun t k => pt t <| oI K Xt k_1007 rfl rfl <| oA K Xt k_1008 rfl rfl rfl <| oAl K Xt et V1 k_1009 rfl rfl <| XS.icmpYes Xt.here hx rfl (pc0 := 12) (pc' := 32) rfl (hb hby k_1010) rfl (XT.ii_ge_t hlt) (by decide) (by decide) <| XS.iconst Xt.here hx rfl (hb hby k_1011) <| k
      have pre_53 : Pr p e below E0 Tt (mkF m 33 #[vr a1, vr a2, vi iv] [(.int 1)]) := pre_52
      exact rtN pre_53 K Xt et hret hlk k_1012 (by decide) (by simp) (hP _ _ _ ⟨rfl, Nt, rfl⟩)
    | cons r rs ih =>
      intro ds hxs iv hiv Tt lt Xt Nt et pt
      have hls : xs.length = ds.length + (rs.length + 1) := by rw [hxs]; simp
      have hix := own_ix hiv hn (by omega) (by omega)
      have pre_54 : Pr p e below E0 Tt (mkF m 9 #[vr a1, vr a2, vi (iv + (1 : Int32))] []) := fun t k => pt t <| oI K Xt k_1007 rfl rfl <| oA K Xt k_1008 rfl rfl rfl <| oAl K Xt et V1 k_1009 rfl rfl <| XS.icmpNo Xt.here hx rfl (hb hby k_1010) rfl (XT.ii_ge_f hix.2) <| oA K Xt k_1013 rfl rfl rfl <| oI K Xt k_1014 rfl rfl <| oBa K Xt et V1 hix (by rw [hiv, own_onN (by omega)]; exact own_eqs hxs _) k_1015 rfl rfl <| oA K Xt k_1016 rfl rfl rfl <| oI K Xt k_1017 rfl rfl <| oBa K Xt et V2 hix (by rw [hiv, own_onN (by omega)]; exact own_eqs hxs _) k_1018 rfl rfl <| XS.icmpYes Xt.here hx rfl (pc0 := 21) (pc' := 26) rfl (hb hby k_1019) rfl (XT.ii_eq_t rfl) (by decide) (by decide) <| XS.iinc Xt.here hx rfl (hb hby k_1020) rfl (l' := #[vr a1, vr a2, vi (iv + (1 : Int32))]) rfl <| XS.goto Xt.here hx rfl (pc0 := 29) (pc' := 9) rfl (hb hby k_1021) (by decide) (by decide) <| k
      exact ih (ds ++ [r]) (by simp [hxs]) (iv + (1 : Int32)) (by rw [hiv, own_on1 (by omega)]; simp) Tt _ Xt Nt et pre_54
  exact loop xs [] rfl (0 : Int32) rfl s₁ _ X0 (Fr.nil n0) eH pre_51
theorem rm_seq (hw : Hw a0 Z) (a1 : Addr) (a2 : Addr) (b1 b2 : Addr) (G1 n1 : Int32) (xs : List Int32) (k1 k2 : ClassId) (h0 : Heap) (n0 : Nat) (O0 : Old Z n0 h0) (E1 : Exa Z h0 a1 s2_) (E2 : Exa Z h0 a2 s2_) (FC1 : Fld Z h0 a1 s2_ "coder" "B" (.int 0)) (FC2 : Fld Z h0 a2 s2_ "coder" "B" (.int 0)) (FV1 : Fld Z h0 a1 s2_ "value" "[B" (.ref b1)) (FV2 : Fld Z h0 a2 s2_ "value" "[B" (.ref b2)) (V1 : Arv Z h0 b1 k1 .byte n1 (xs.map Value.int) (.int 0)) (V2 : Arv Z h0 b2 k2 .byte n1 (xs.map Value.int) (.int 0)) (hn : n1 = Int32.ofNat xs.length) (hk : xs.length < 500) (SC : Sta Z Z.heap s2_ s6_ "Z" (.int G1)) (hG : ¬ G1 = (0 : Int32)) : Met l Z y_70 c_70 3 (some .boolean) (Rm 1 0 0 15) #[(.ref a1), (.ref a2)] h0 (fun v h L => v = some (.int 1) ∧ Fr n0 L ∧ h = h0) := by
  refine own_met (own := s2_) (G := fun m => (mkF m 0 #[vr a1, vr a2, uz] [])) rfl n_70 ?_
  intro p e s m below meth c s₁ E0 P hP K hnm hret hlk hh X0 eH pre0
  obtain ⟨hx, hZ, hown, hby, hml⟩ := id K
  have pre_51 := fun t k => pre0 t <| oA K X0 k_1022 rfl rfl rfl <| oA K X0 k_1023 rfl rfl rfl <| k
  by_cases hc52 : a1 = a2
  · skip
    have pre_53 := fun t k => pre_51 t <| XT.acmpNo X0.here hx rfl (hb hby k_1024) rfl rfl rfl (XT.aa_ne_f (congrArg Value.ref hc52)) <| XS.iconst X0.here hx rfl (hb hby k_1025) <| k
    have pre_54 : Pr p e below E0 s₁ (mkF m 6 #[vr a1, vr a2, uz] [(.int 1)]) := pre_53
    exact rtN pre_54 K X0 eH hret hlk k_1026 (by decide) (by simp) (hP _ _ _ ⟨rfl, (Fr.nil n0), rfl⟩)
  · skip
    have pre_55 := fun t k => pre_51 t <| XT.acmpYes X0.here hx rfl (pc0 := 2) (pc' := 7) rfl (hb hby k_1024) rfl rfl rfl (XT.aa_ne_t (fun q => hc52 (Value.ref.inj q))) (by decide) (by decide) <| oA K X0 k_1027 rfl rfl rfl <| k
    obtain ⟨T56, X56, e56, st56⟩ := instY X0 hx hZ hown (oW hw 281 rfl) eH (Ins.self E2) (g := (mkF m 8 #[vr a1, vr a2, uz] [(.ref a2)])) rfl rfl (hb hby k_1028)
    have pre_57 : Pr p e below E0 T56 (mkF m 11 #[vr a1, vr a2, uz] [(.int 1)]) := fun t k => pre_55 t (st56 t k)
    have pre_58 := fun t k => pre_57 t <| XS.ifNo X56.here hx rfl (hb hby k_1029) rfl (XT.i0_eq_f (by decide)) <| oA K X56 k_1030 rfl rfl rfl <| k
    obtain ⟨T59, X59, e59, st59⟩ := castY X56 hx hZ hown (oW hw 281 rfl) e56 (Ins.self E2) (g := (mkF m 15 #[vr a1, vr a2, uz] [(.ref a2)])) rfl rfl (hb hby k_1031)
    have pre_60 : Pr p e below E0 T59 (mkF m 18 #[vr a1, vr a2, uz] [(.ref a2)]) := fun t k => pre_58 t (st59 t k)
    have pre_61 := fun t k => pre_60 t <| XS.astoreN X59.here hx rfl (hb hby k_1032) rfl rfl (l' := #[vr a1, vr a2, vr a2]) rfl <| k
    obtain ⟨T62, X62, e62, pre_62⟩ := gS pre_61 K X59 e59 (oW hw 91 rfl) (SC.ext O0.2) k_1033 rfl
    have pre_63 := fun t k => pre_62 t <| XS.ifNo X62.here hx rfl (hb hby k_1034) rfl (XT.i0_eq_f hG) <| oA K X62 k_1035 rfl rfl rfl <| k
    obtain ⟨T64, X64, e64, pre_64⟩ := gF pre_63 K X62 e62 (oW hw 92 rfl) Via.refl FC1 k_1036 rfl rfl
    have pre_65 := fun t k => pre_64 t <| oA K X64 k_1037 rfl rfl rfl <| k
    obtain ⟨T66, X66, e66, pre_66⟩ := gF pre_65 K X64 e64 (oW hw 92 rfl) Via.refl FC2 k_1038 rfl rfl
    have pre_67 := fun t k => pre_66 t <| XS.icmpNo X66.here hx rfl (hb hby k_1039) rfl (XT.ii_ne_f (by decide)) <| oA K X66 k_1040 rfl rfl rfl <| k
    obtain ⟨T68, X68, e68, pre_68⟩ := gF pre_67 K X66 e66 (oW hw 85 rfl) Via.refl FV1 k_1041 rfl rfl
    have pre_69 := fun t k => pre_68 t <| oA K X68 k_1042 rfl rfl rfl <| k
    obtain ⟨T70, X70, e70, pre_70⟩ := gF pre_69 K X68 e68 (oW hw 85 rfl) Via.refl FV2 k_1043 rfl rfl
    obtain ⟨T71, _, L71, X71, ⟨rfl, N71q, e71⟩, pre_71⟩ := cS pre_70 K X70 e70 (rm_leq l Z a0 hw b1 b2 n1 xs k1 k2 h0 n0 O0 V1 V2 hn hk) (oW hw 282 rfl) (oW hw 283 rfl) (oW hw 284 rfl) (oW hw 285 rfl) rfl (lenOf d_42 rfl) k_1044 rfl rfl rfl (W := 0) (Nat.le_of_eq rfl) (by decide)
    have N71 := Fr.app (Fr.nil n0) N71q
    have pre_72 : Pr p e below E0 T71 (mkF m 55 #[vr a1, vr a2, vr a2] [(.int 1)]) := fun t k => pre_71 t <| XS.ifNo X71.here hx rfl (hb hby k_1045) rfl (XT.i0_eq_f (by decide)) <| XS.iconst X71.here hx rfl (hb hby k_1046) <| XS.goto X71.here hx rfl (pc0 := 51) (pc' := 55) rfl (hb hby k_1047) (by decide) (by decide) <| k
    exact rtN pre_72 K X71 e71 hret hlk k_1048 (by decide) (by simp) (hP _ _ _ ⟨rfl, N71, rfl⟩)
theorem rm_iniA (hw : Hw a0 Z) (a1 : Addr) (s1 : Addr) (s2 : Addr) (s3 : Addr) (G1 : Int32) (w1 : Value) (bx : Addr) (kx : ClassId) (e0 e1 : Int32) (bi : Addr) (ki : ClassId) (c0 c1 : Int32) (bl : Addr) (kl : ClassId) (n3 : Int32) (lim : List Int32) (aO : Addr) (kO : ClassId) (h0 : Heap) (n0 : Nat) (O0 : Old Z n0 h0) (SC : Sta Z Z.heap s2_ s6_ "Z" (.int G1)) (hG : ¬ G1 = (0 : Int32)) (SF : Sta Z Z.heap s8_ s12_ s13_ w1) (hr : w1.isRef = true) (SU1 : Sta Z Z.heap s3_ s9_ "Z" (.int 1)) (SU2 : Sta Z Z.heap s3_ s10_ "I" (.int 0)) (SU3 : Sta Z Z.heap s3_ s11_ "I" (.int 8)) (SD1 : Sta Z Z.heap s14_ "DigitOnes" "[B" (.ref aO)) (VO : Arv Z Z.heap aO kO .byte (100 : Int32) own_ones (.int 0)) (Es1 : Exa Z h0 s1 s2_) (Fvx : Fld Z h0 s1 s2_ "value" "[B" (.ref bx)) (Fcx : Fld Z h0 s1 s2_ "coder" "B" (.int 0)) (Vx : Arv Z h0 bx kx .byte (2 : Int32) ([e0, e1].map own_b) (.int 0)) (hsm : ∀ c ∈ [e0, e1], 0 ≤ c.toInt ∧ c.toInt < 256) (Es2 : Exa Z h0 s2 s2_) (HM2 : own_M Z h0 s2 bi ki [c0, c1]) (hr0 : 0 ≤ c0.toInt ∧ c0.toInt < 65536) (hr1 : 0 ≤ c1.toInt ∧ c1.toInt < 65536) (Es3 : Exa Z h0 s3 s2_) (Fv3 : Fld Z h0 s3 s2_ "value" "[B" (.ref bl)) (Fc3 : Fld Z h0 s3 s2_ "coder" "B" (.int 0)) (Vl3 : Arv Z h0 bl kl .byte n3 (lim.map Value.int) (.int 0)) (h5 : own_five n3) (hll : (lim.map Value.int).length = n3.toNatClampNeg) (hasc : own_asc lim) (E1 : Exa Z h0 a1 s7_) (U1 : Unt h0 a1) (B1 : Fld Z h0 a1 s15_ "backtrace" "Ljava/lang/Object;" .null) (B2 : Fld Z h0 a1 s15_ "detailMessage" "Ljava/lang/String;" .null) (g1 : n0 ≤ a1) (hl : l.stackTraces = true) (hTW : ∀ d ∈ twoRefs, d.before a0 Z = true) (hH7 : Jvm.Lit.constHeld Z s7_ 7) (hH13 : Jvm.Lit.constHeld Z s7_ 13) (hH28 : Jvm.Lit.constHeld Z s7_ 28) (hCW : Jvm.Lit.compactW.before a0 Z = true) : MetW l Z y_71 c_71 4 none [] (Rm 10 16 6500 215) #[(.ref a1), (.ref s1), (.ref s2), (.ref s3)] h0 (fun vm => IB Z vm [" MiB that one match may take", "xy", "ab"]) (fun v vm h L => v = none ∧ Fr n0 L ∧ Keep h0 h [a1] ∧ ∃ m b k, h0.size ≤ m ∧ Fld Z h a1 s15_ "detailMessage" "Ljava/lang/String;" (.ref m) ∧ Exa Z h m s2_ ∧ own_L0 Z h m b k (own_msl e0 e1 (own_cp c0 c1) lim) ∧ IB Z vm [" characters within the ", "\" cannot be matched against a value of ", "the regular expression \"", " MiB that one match may take", "xy", "ab"] ∧ ∃ (a7 b7 : Addr) (k7 : ClassId) (a13 b13 : Addr) (k13 : ClassId) (a28 b28 : Addr) (k28 : ClassId), Exa Z h a7 s2_ ∧ Fld Z h a7 s2_ "coder" "B" (.int 0) ∧ Fld Z h a7 s2_ "value" "[B" (.ref b7) ∧ Arv Z h b7 k7 .byte (24 : Int32) (own_L24.map Value.int) (.int 0) ∧ Lit (Z.setVm vm) s7_ 7 a7 ∧ Exa Z h a13 s2_ ∧ Fld Z h a13 s2_ "coder" "B" (.int 0) ∧ Fld Z h a13 s2_ "value" "[B" (.ref b13) ∧ Arv Z h b13 k13 .byte (39 : Int32) (own_L39.map Value.int) (.int 0) ∧ Lit (Z.setVm vm) s7_ 13 a13 ∧ Exa Z h a28 s2_ ∧ Fld Z h a28 s2_ "coder" "B" (.int 0) ∧ Fld Z h a28 s2_ "value" "[B" (.ref b28) ∧ Arv Z h b28 k28 .byte (23 : Int32) (own_L23.map Value.int) (.int 0) ∧ Lit (Z.setVm vm) s7_ 28 a28) := by
  refine own_metW (own := s7_) (G := fun m => (mkF m 0 #[vr a1, vr s1, vr s2, vr s3] [])) rfl n_71 ?_
  intro p e s m below meth c s₁ E0 P hP K hnm hret hlk hh hPV hK X0 eH pre0
  obtain ⟨hx, hZ, hown, hby, hml⟩ := id K
  obtain ⟨hTK, hBelow⟩ := hK
  have hlm := own_lm h5
  have hcp := own_cp12 c0 c1
  have pre_51 := fun t k => pre0 t <| oA K X0 k_1049 rfl rfl rfl <| k
  obtain ⟨T52, h52, X52, e52, E52, A52, D52, U52, st52⟩ := newO X0 hx hZ hown (oW hw 16 rfl) (oW hw 17 rfl) (oW hw 18 rfl) eH (g := (mkF m 1 #[vr a1, vr s1, vr s2, vr s3] [(.ref a1)])) rfl (hb hby k_1050) (by decide) (by decide)
  obtain ⟨b52, g52⟩ : ∃ z, z = h0.size := ⟨_, rfl⟩
  rw [← g52] at A52 D52 U52 st52
  have O52 : Old Z n0 h52 := O0.ext E52
  have gl52 := Nat.le_of_eq g52.symm
  have F53 : Fld Z h52 b52 s1_ "value" "[B" .null := D52 (Or.inl (oW hw 33 rfl)) (ty := (.array .byte)) (by decide)
  have F54 : Fld Z h52 b52 s1_ "coder" "B" (.int 0) := D52 (Or.inl (oW hw 35 rfl)) (ty := .byte) (by decide)
  have F55 : Fld Z h52 b52 s1_ "count" "I" (.int 0) := D52 (Or.inl (oW hw 48 rfl)) (ty := .int) (by decide)
  have F56 : Fld Z h52 b52 s1_ s5_ "Z" (.int 0) := D52 (Or.inl (oW hw 406 rfl)) (ty := .boolean) (by decide)
  have pre_57 : Pr p e below E0 T52 (mkF m 4 #[vr a1, vr s1, vr s2, vr s3] [(.ref b52), (.ref a1)]) := fun t k => pre_51 t (st52 t k)
  have v_58 := (Nat.le_trans (own_le O0) gl52)
  have pre_59 := fun t k => pre_57 t <| XS.dup X52.here hx rfl (hb hby k_1051) rfl rfl <| k
  obtain ⟨T60, _, L60, X60, ⟨rfl, N60q, K60, b60, kN60, sb60, Fv60, Fd60, Fk60, Fm60, Vb60⟩, pre_60⟩ := cI pre_59 K X52 e52 (rm_bin l Z a0 hw b52 G1 h52 n0 O52 A52 v_58 F53 F54 F55 F56 SC hG) (oW hw 19 rfl) (oW hw 20 rfl) (oW hw 18 rfl) (oW hw 21 rfl) rfl (lenOf d_24 rfl) k_1052 rfl rfl rfl (W := 2) (Nat.le_of_eq rfl) (by decide) rfl
  have N60 := Fr.app (Fr.nil n0) N60q
  have O60 : Old Z n0 T60.heap := O52.keep K60 (allS v_58 all0)
  have u_62 := (((Keep.refl h0 []).ext E52).trans K60 (allS (Or.inr (Nat.le_trans (Keep.refl h0 []).1 gl52)) all0))
  have Xr61 := own_reb0 X60 (fun b cl q => own_kp0 hh u_62 q)
  obtain ⟨aE63, T63, h63, kq63, bE63, kE63, Xn63, e63, E63, hSn63, hkn63, -, -, xE63, cE63, vE63, AE63, -, -, hI63, hL63, st63⟩ := ldcSVL (s := s.setVm s.vm) (vm0 := s.vm) (Ts := [" MiB that one match may take", "xy", "ab"]) Xr61 hx hZ hown (oW hw 176 rfl) (own_sa hw) rfl ((State.WarmedH.refl (s.setVm s.vm)).since 0) (Nat.zero_le _) (Fr.nil _) (fun b cl q => own_kz hh O0 q) hPV (by simp) hH7 hCW (vs := (own_L24.map Value.int)) (z := (24 : Int32)) (by decide +kernel) (by decide) rfl (g := (mkF m 8 #[vr a1, vr s1, vr s2, vr s3] [(.ref b52), (.ref a1)])) rfl (hb hby k_1053) (n := 96) (by decide +kernel) (by decide) (by decide) (by decide)
  obtain ⟨X63, hS63, hZ63, ho63⟩ := rebS ((State.WarmedH.refl s).since 0) (Nat.le_trans (Nat.zero_le _) (Nat.le_trans (Nat.le_trans (Nat.le_refl _) E52.1) K60.1)) Xn63 (⟨hSn63.1, hSn63.2.mono hkn63⟩ : (s.setVm s.vm).Since T63.vm h63.size) E63.1 hZ hown
  have O63 : Old Z n0 h63 := O60.ext E63
  have x_64 := (Nat.ne_of_lt (Nat.lt_of_lt_of_le Vx.lt gl52))
  have f_65 := (((Vx.ext E52).keep K60 (ninS x_64 nin0)).ext E63)
  have nl63_bx := own_neLen AE63 f_65 (by decide)
  have nl63_b60 := own_neLen AE63 (Vb60.ext E63) (by decide)
  have pre_66 : Pr p e below E0 T63 (mkF m 10 #[vr a1, vr s1, vr s2, vr s3] [(.ref aE63), (.ref b52), (.ref a1)]) := fun t k => pre_60 t (st63 t k)
  have K63x : Kx p (s.setVm T63.vm) Z m c _ _ _ := ⟨hx, hZ63, ho63, hby, hml⟩
  have v_67 := (Nat.le_trans (own_le O52) sb60)
  obtain ⟨T68, _, L68, X68, ⟨rfl, N68q, K68, b68, kN68, sb68, Fv68, Fd68, Fk68, Fm68, Vb68⟩, pre_68⟩ := cV pre_66 K63x X63 e63 (rm_bapg16 l Z a0 hw b52 aE63 G1 (24 : Int32) bE63 kE63 (own_L24.map Value.int) (0 : Int32) b60 kN60 [] (24 : Int32) (24 : Int32) (0 : Int32) h63 n0 O63 ((A52.keep K60).ext E63) v_58 (Fv60.ext E63) (Fd60.ext E63) (Fk60.ext E63) (Fm60.ext E63) (Vb60.ext E63) v_67 xE63 cE63 vE63 AE63 SC hG nl63_b60 (by decide) (by decide) (by decide) (by decide) (by decide) (by decide) (by simp only [List.length_append, List.length_map, List.length_cons, List.length_nil, own_l24, own_l39, own_l23, own_l28, own_infl, own_ul] <;> decide) (by simp only [List.length_append, List.length_map, List.length_cons, List.length_nil, own_l24, own_l39, own_l23, own_l28, own_infl, own_ul] <;> decide) (by decide) (by decide) (by decide) (by simp only [List.length_append, List.length_map, List.length_cons, List.length_nil, own_l24, own_l39, own_l23, own_l28, own_infl, own_ul] <;> decide)) (oW hw 71 rfl) (oW hw 73 rfl) (oW hw 18 rfl) (oW hw 75 rfl) (oW hw 72 rfl) (oW hw 74 rfl) (notFace_of_selects (args := #[]) (mvT hZ63 (oW hw 74 rfl))) ((A52.keep K60).ext E63) rfl (lenOf d_43 rfl) k_1054 rfl rfl rfl (W := 1) (Nat.le_of_eq rfl) (by decide)
  have N68 := Fr.app (Fr.nil n0) N68q
  have O68 : Old Z n0 T68.heap := O63.keep K68 (allS v_58 all0)
  have x_69 := (Nat.ne_of_lt (Nat.lt_of_lt_of_le Es1.lt gl52))
  have f_70 := ((((Fvx.ext E52).keep K60 (ninS x_69 nin0)).ext E63).keep K68 (ninS x_69 nin0))
  have v_71 := (Nat.le_trans (own_le O63) sb68)
  have f_72 := ((((Es1.ext E52).keep K60).ext E63).keep K68)
  have f_73 := ((((Fcx.ext E52).keep K60 (ninS x_69 nin0)).ext E63).keep K68 (ninS x_69 nin0))
  have x_74 := (Nat.ne_of_lt (Nat.lt_of_lt_of_le f_65.lt sb68))
  have pre_75 := fun t k => pre_68 t <| oA K63x X68 k_1055 rfl rfl rfl <| k
  obtain ⟨T76, _, L76, X76, ⟨rfl, N76q, K76, Fv76, Fd76, Fk76, Fm76, Vb76⟩, pre_76⟩ := cV pre_75 K63x X68 rfl (rm_bapn0 l Z a0 hw b52 s1 G1 (2 : Int32) bx kx ([e0, e1].map own_b) (24 : Int32) b68 kN68 ([] ++ (own_L24.map Value.int)) (2 : Int32) (26 : Int32) (24 : Int32) (34 : Int32) T68.heap n0 O68 (((A52.keep K60).ext E63).keep K68) v_58 Fv68 Fd68 Fk68 Fm68 Vb68 v_71 f_72 f_73 f_70 (f_65.keep K68 (ninS x_64 nin0)) SC hG x_74 (by decide) (by decide) (by decide) (by decide) (by decide) (by decide) (by simp only [List.length_append, List.length_map, List.length_cons, List.length_nil, own_l24, own_l39, own_l23, own_l28, own_infl, own_ul] <;> decide) (by simp only [List.length_append, List.length_map, List.length_cons, List.length_nil, own_l24, own_l39, own_l23, own_l28, own_infl, own_ul] <;> decide) (by decide) (by decide)) (oW hw 71 rfl) (oW hw 73 rfl) (oW hw 18 rfl) (oW hw 75 rfl) (oW hw 72 rfl) (oW hw 74 rfl) (notFace_of_selects (args := #[]) (mvT hZ63 (oW hw 74 rfl))) (((A52.keep K60).ext E63).keep K68) rfl (lenOf d_43 rfl) k_1056 rfl rfl rfl (W := 1) (Nat.le_of_eq rfl) (by decide)
  have N76 := Fr.app N68 N76q
  have O76 : Old Z n0 T76.heap := O68.keep K76 (allS v_58 (allS v_71 all0))
  have u_78 := (((u_62.ext E63).trans K68 (allS (Or.inr (Nat.le_trans (Keep.refl h0 []).1 gl52)) all0)).trans K76 (allS (Or.inr (Nat.le_trans (Keep.refl h0 []).1 gl52)) (allS (Or.inr (Nat.le_trans (u_62.ext E63).1 sb68)) all0)))
  have Xr77 := own_reb0 X76 (fun b cl q => own_kp0 hh u_78 q)
  obtain ⟨aE79, T79, h79, kq79, bE79, kE79, Xn79, e79, E79, hSn79, hkn79, -, -, xE79, cE79, vE79, AE79, -, -, hI79, hL79, st79⟩ := ldcSVL (s := s.setVm T63.vm) (vm0 := T63.vm) (Ts := ["the regular expression \"", " MiB that one match may take", "xy", "ab"]) Xr77 hx hZ63 ho63 (oW hw 177 rfl) (own_sa hw) rfl ((State.WarmedH.refl (s.setVm T63.vm)).since 0) (Nat.zero_le _) (Fr.nil _) (fun b cl q => own_kz hh O0 q) hI63 (by simp) hH13 hCW (vs := (own_L39.map Value.int)) (z := (39 : Int32)) (by decide +kernel) (by decide) rfl (g := (mkF m 17 #[vr a1, vr s1, vr s2, vr s3] [(.ref b52), (.ref a1)])) rfl (hb hby k_1057) (n := 156) (by decide +kernel) (by decide) (by decide) (by decide)
  obtain ⟨X79, hS79, hZ79, ho79⟩ := rebS hS63 (Nat.le_trans (Nat.le_refl _) (Nat.le_trans (Nat.le_trans (Nat.le_refl _) K68.1) K76.1)) Xn79 (⟨hSn79.1, hSn79.2.mono hkn79⟩ : (s.setVm T63.vm).Since T79.vm h79.size) E79.1 hZ63 ho63
  have O79 : Old Z n0 h79 := O76.ext E79
  have f_80 := (((f_65.keep K68 (ninS x_64 nin0)).keep K76 (ninS x_64 (ninS x_74 nin0))).ext E79)
  have nl79_bx := own_neLen AE79 f_80 (by decide)
  have x_81 := (Ne.symm (Nat.ne_of_lt (Nat.lt_of_lt_of_le A52.lt sb60)))
  have x_82 := (Nat.ne_of_lt (Nat.lt_of_lt_of_le (Vb60.ext E63).lt sb68))
  have f_83 := ((((Vb60.ext E63).keep K68 (ninS x_81 nin0)).keep K76 (ninS x_81 (ninS x_82 nin0))).ext E79)
  have nl79_b60 := own_neLen AE79 f_83 (by decide)
  have x_84 := (Ne.symm (Exa.neArv ((A52.keep K60).ext E63) AE63 (oW hw 17 rfl)))
  have x_85 := (Nat.ne_of_lt (Nat.lt_of_lt_of_le AE63.lt sb68))
  have f_86 := (((AE63.keep K68 (ninS x_84 nin0)).keep K76 (ninS x_84 (ninS x_85 nin0))).ext E79)
  have nl79_bE63 := own_neLen AE79 f_86 (by decide)
  have nl79_b68 := own_neLen AE79 (Vb76.ext E79) (by decide)
  have pre_87 : Pr p e below E0 T79 (mkF m 19 #[vr a1, vr s1, vr s2, vr s3] [(.ref aE79), (.ref b52), (.ref a1)]) := fun t k => pre_76 t (st79 t k)
  have K79x : Kx p (s.setVm T79.vm) Z m c _ _ _ := ⟨hx, hZ79, ho79, hby, hml⟩
  have f_88 := (((((A52.keep K60).ext E63).keep K68).keep K76).ext E79)
  obtain ⟨T89, _, L89, X89, ⟨rfl, N89q, K89, b89, kN89, sb89, Fv89, Fd89, Fk89, Fm89, Vb89⟩, pre_89⟩ := cV pre_87 K79x X79 e79 (rm_bapg34 l Z a0 hw b52 aE79 G1 (39 : Int32) bE79 kE79 (own_L39.map Value.int) (26 : Int32) b68 kN68 (([] ++ (own_L24.map Value.int)) ++ ([e0, e1].map own_b)) (39 : Int32) (65 : Int32) (26 : Int32) h79 n0 O79 f_88 v_58 (Fv76.ext E79) (Fd76.ext E79) (Fk76.ext E79) (Fm76.ext E79) (Vb76.ext E79) v_71 xE79 cE79 vE79 AE79 SC hG nl79_b68 (by decide) (by decide) (by decide) (by decide) (by decide) (by decide) (by simp only [List.length_append, List.length_map, List.length_cons, List.length_nil, own_l24, own_l39, own_l23, own_l28, own_infl, own_ul] <;> decide) (by simp only [List.length_append, List.length_map, List.length_cons, List.length_nil, own_l24, own_l39, own_l23, own_l28, own_infl, own_ul] <;> decide) (by decide) (by decide) (by decide) (by simp only [List.length_append, List.length_map, List.length_cons, List.length_nil, own_l24, own_l39, own_l23, own_l28, own_infl, own_ul] <;> decide)) (oW hw 71 rfl) (oW hw 73 rfl) (oW hw 18 rfl) (oW hw 75 rfl) (oW hw 72 rfl) (oW hw 74 rfl) (notFace_of_selects (args := #[]) (mvT hZ79 (oW hw 74 rfl))) f_88 rfl (lenOf d_43 rfl) k_1058 rfl rfl rfl (W := 1) (Nat.le_of_eq rfl) (by decide)
  have N89 := Fr.app (Fr.nil n0) N89q
  have O89 : Old Z n0 T89.heap := O79.keep K89 (allS v_58 all0)
  have f_90 := (((((((Es2.ext E52).keep K60).ext E63).keep K68).keep K76).ext E79).keep K89)
  have x_91 := (Nat.ne_of_lt (Nat.lt_of_lt_of_le Es2.lt gl52))
  have x_92 := (Nat.ne_of_lt (Nat.lt_of_lt_of_le HM2.lt gl52))
  have x_93 := (Nat.ne_of_lt (Nat.lt_of_lt_of_le (((Es2.ext E52).keep K60).ext E63).lt sb68))
  have x_94 := (Nat.ne_of_lt (Nat.lt_of_lt_of_le (((HM2.ext E52).keep K60 (ninS x_91 nin0) (ninS x_92 nin0)).ext E63).lt sb68))
  have f_95 := (((((((HM2.ext E52).keep K60 (ninS x_91 nin0) (ninS x_92 nin0)).ext E63).keep K68 (ninS x_91 nin0) (ninS x_92 nin0)).keep K76 (ninS x_91 (ninS x_93 nin0)) (ninS x_92 (ninS x_94 nin0))).ext E79).keep K89 (ninS x_91 nin0) (ninS x_92 nin0))
  have pre_96 := fun t k => pre_89 t <| oA K79x X89 k_1059 rfl rfl rfl <| XS.iconst X89.here hx rfl (hb hby k_1060) <| oA K79x X89 k_1061 rfl rfl rfl <| k
  obtain ⟨T97, _, L97, X97, ⟨rfl, N97q, e97⟩, pre_97⟩ := cV pre_96 K79x X89 rfl (rm_lnm l Z a0 hw s2 G1 bi ki [c0, c1] T89.heap n0 O89 f_90 f_95 (by simp) SC hG) (oW hw 178 rfl) (oW hw 82 rfl) (oW hw 1 rfl) (oW hw 84 rfl) (oW hw 81 rfl) (oW hw 83 rfl) (notFace_of_selects (args := #[]) (mvT hZ79 (oW hw 83 rfl))) f_90 rfl (lenOf d_8 rfl) k_1062 rfl rfl rfl (W := 4) (Nat.le_of_eq rfl) (by decide)
  have N97 := Fr.app N89 N97q
  obtain ⟨T98, _, L98, X98, ⟨rfl, N98q, e98⟩, pre_98⟩ := cV pre_97 K79x X97 e97 (rm_cpc l Z a0 hw s2 G1 bi ki c0 c1 T89.heap n0 O89 f_90 f_95 hr0 hr1 SC hG SU1 SU2 SU3) (oW hw 179 rfl) (oW hw 181 rfl) (oW hw 1 rfl) (oW hw 183 rfl) (oW hw 180 rfl) (oW hw 182 rfl) (notFace_of_selects (args := #[]) (mvT hZ79 (oW hw 182 rfl))) f_90 rfl (lenOf d_2 rfl) k_1063 rfl rfl rfl (W := 2) (Nat.le_of_eq rfl) (by decide)
  have N98 := Fr.app N97 N98q
  have v_99 := (Nat.le_trans (own_le O79) sb89)
  obtain ⟨T100, _, L100, X100, ⟨rfl, N100q, K100, Fv100, Fd100, Fk100, Fm100, Vb100⟩, pre_100⟩ := cV pre_98 K79x X98 e98 (rm_bai0 l Z a0 hw b52 (own_cp c0 c1) G1 b89 kN89 ((([] ++ (own_L24.map Value.int)) ++ ([e0, e1].map own_b)) ++ (own_L39.map Value.int)) aO kO T89.heap n0 O89 (f_88.keep K89) v_58 Fv89 Fd89 Fk89 Fm89 Vb89 v_99 SC hG hcp SD1 VO (by simp only [List.length_append, List.length_map, List.length_cons, List.length_nil, own_l24, own_l39, own_l23, own_l28, own_infl, own_ul] <;> decide)) (oW hw 198 rfl) (oW hw 200 rfl) (oW hw 18 rfl) (oW hw 202 rfl) (oW hw 199 rfl) (oW hw 201 rfl) (notFace_of_selects (args := #[]) (mvT hZ79 (oW hw 201 rfl))) (f_88.keep K89) rfl (lenOf d_44 rfl) k_1064 rfl rfl rfl (W := 1) (Nat.le_of_eq rfl) (by decide)
  have N100 := Fr.app N98 N100q
  have O100 : Old Z n0 T100.heap := O89.keep K100 (allS v_58 (allS v_99 all0))
  have u_102 := (((u_78.ext E79).trans K89 (allS (Or.inr (Nat.le_trans (Keep.refl h0 []).1 gl52)) all0)).trans K100 (allS (Or.inr (Nat.le_trans (Keep.refl h0 []).1 gl52)) (allS (Or.inr (Nat.le_trans (u_78.ext E79).1 sb89)) all0)))
  have Xr101 := own_reb0 X100 (fun b cl q => own_kp0 hh u_102 q)
  obtain ⟨aE103, T103, h103, kq103, bE103, kE103, Xn103, e103, E103, hSn103, hkn103, -, -, xE103, cE103, vE103, AE103, -, -, hI103, hL103, st103⟩ := ldcSVL (s := s.setVm T79.vm) (vm0 := T79.vm) (Ts := ["\" cannot be matched against a value of ", "the regular expression \"", " MiB that one match may take", "xy", "ab"]) Xr101 hx hZ79 ho79 (oW hw 214 rfl) (own_sa hw) rfl ((State.WarmedH.refl (s.setVm T79.vm)).since 0) (Nat.zero_le _) (Fr.nil _) (fun b cl q => own_kz hh O0 q) hI79 (by simp) hH28 hCW (vs := (own_L23.map Value.int)) (z := (23 : Int32)) (by decide +kernel) (by decide) rfl (g := (mkF m 34 #[vr a1, vr s1, vr s2, vr s3] [(.ref b52), (.ref a1)])) rfl (hb hby k_1065) (n := 92) (by decide +kernel) (by decide) (by decide) (by decide)
  obtain ⟨X103, hS103, hZ103, ho103⟩ := rebS hS79 (Nat.le_trans (Nat.le_refl _) (Nat.le_trans (Nat.le_trans (Nat.le_refl _) K89.1) K100.1)) Xn103 (⟨hSn103.1, hSn103.2.mono hkn103⟩ : (s.setVm T79.vm).Since T103.vm h103.size) E103.1 hZ79 ho79
  have O103 : Old Z n0 h103 := O100.ext E103
  have x_104 := (Nat.ne_of_lt (Nat.lt_of_lt_of_le f_80.lt sb89))
  have f_105 := (((f_80.keep K89 (ninS x_64 nin0)).keep K100 (ninS x_64 (ninS x_104 nin0))).ext E103)
  have nl103_bx := own_neLen AE103 f_105 (by decide)
  have x_106 := (Nat.ne_of_lt (Nat.lt_of_lt_of_le f_83.lt sb89))
  have f_107 := (((f_83.keep K89 (ninS x_81 nin0)).keep K100 (ninS x_81 (ninS x_106 nin0))).ext E103)
  have nl103_b60 := own_neLen AE103 f_107 (by decide)
  have x_108 := (Nat.ne_of_lt (Nat.lt_of_lt_of_le f_86.lt sb89))
  have f_109 := (((f_86.keep K89 (ninS x_84 nin0)).keep K100 (ninS x_84 (ninS x_108 nin0))).ext E103)
  have nl103_bE63 := own_neLen AE103 f_109 (by decide)
  have x_110 := (Ne.symm (Nat.ne_of_lt (Nat.lt_of_lt_of_le ((A52.keep K60).ext E63).lt sb68)))
  have x_111 := (Nat.ne_of_lt (Nat.lt_of_lt_of_le (Vb76.ext E79).lt sb89))
  have f_112 := ((((Vb76.ext E79).keep K89 (ninS x_110 nin0)).keep K100 (ninS x_110 (ninS x_111 nin0))).ext E103)
  have nl103_b68 := own_neLen AE103 f_112 (by decide)
  have x_113 := (Ne.symm (Exa.neArv f_88 AE79 (oW hw 17 rfl)))
  have x_114 := (Nat.ne_of_lt (Nat.lt_of_lt_of_le AE79.lt sb89))
  have f_115 := (((AE79.keep K89 (ninS x_113 nin0)).keep K100 (ninS x_113 (ninS x_114 nin0))).ext E103)
  have nl103_bE79 := own_neLen AE103 f_115 (by decide)
  have nl103_b89 := own_neLen AE103 (Vb100.ext E103) (by decide)
  have pre_116 : Pr p e below E0 T103 (mkF m 36 #[vr a1, vr s1, vr s2, vr s3] [(.ref aE103), (.ref b52), (.ref a1)]) := fun t k => pre_100 t (st103 t k)
  have K103x : Kx p (s.setVm T103.vm) Z m c _ _ _ := ⟨hx, hZ103, ho103, hby, hml⟩
  obtain ⟨T117, _, L117, X117, ⟨rfl, N117q, K117, b117, kN117, sb117, Fv117, Fd117, Fk117, Fm117, Vb117⟩, pre_117⟩ := cV pre_116 K103x X103 e103 (rm_bapg70 l Z a0 hw b52 aE103 G1 (23 : Int32) bE103 kE103 (own_L23.map Value.int) (66 : Int32) b89 kN89 (((([] ++ (own_L24.map Value.int)) ++ ([e0, e1].map own_b)) ++ (own_L39.map Value.int)) ++ [(.int (own_o (own_cp c0 c1)))]) (23 : Int32) (89 : Int32) (66 : Int32) h103 n0 O103 (((f_88.keep K89).keep K100).ext E103) v_58 (Fv100.ext E103) (Fd100.ext E103) (Fk100.ext E103) (Fm100.ext E103) (Vb100.ext E103) v_99 xE103 cE103 vE103 AE103 SC hG nl103_b89 (by decide) (by decide) (by decide) (by decide) (by decide) (by decide) (by simp only [List.length_append, List.length_map, List.length_cons, List.length_nil, own_l24, own_l39, own_l23, own_l28, own_infl, own_ul] <;> decide) (by simp only [List.length_append, List.length_map, List.length_cons, List.length_nil, own_l24, own_l39, own_l23, own_l28, own_infl, own_ul] <;> decide) (by decide) (by decide) (by decide) (by simp only [List.length_append, List.length_map, List.length_cons, List.length_nil, own_l24, own_l39, own_l23, own_l28, own_infl, own_ul] <;> decide)) (oW hw 71 rfl) (oW hw 73 rfl) (oW hw 18 rfl) (oW hw 75 rfl) (oW hw 72 rfl) (oW hw 74 rfl) (notFace_of_selects (args := #[]) (mvT hZ103 (oW hw 74 rfl))) (((f_88.keep K89).keep K100).ext E103) rfl (lenOf d_43 rfl) k_1066 rfl rfl rfl (W := 1) (Nat.le_of_eq rfl) (by decide)
  have N117 := Fr.app (Fr.nil n0) N117q
  have O117 : Old Z n0 T117.heap := O103.keep K117 (allS v_58 all0)
  have x_118 := (Nat.ne_of_lt (Nat.lt_of_lt_of_le Es3.lt gl52))
  have x_119 := (Nat.ne_of_lt (Nat.lt_of_lt_of_le (((Es3.ext E52).keep K60).ext E63).lt sb68))
  have x_120 := (Nat.ne_of_lt (Nat.lt_of_lt_of_le ((((((Es3.ext E52).keep K60).ext E63).keep K68).keep K76).ext E79).lt sb89))
  have f_121 := ((((((((((Fv3.ext E52).keep K60 (ninS x_118 nin0)).ext E63).keep K68 (ninS x_118 nin0)).keep K76 (ninS x_118 (ninS x_119 nin0))).ext E79).keep K89 (ninS x_118 nin0)).keep K100 (ninS x_118 (ninS x_120 nin0))).ext E103).keep K117 (ninS x_118 nin0))
  have x_122 := (Nat.ne_of_lt (Nat.lt_of_lt_of_le Vl3.lt gl52))
  have x_123 := (Nat.ne_of_lt (Nat.lt_of_lt_of_le (((Vl3.ext E52).keep K60 (ninS x_122 nin0)).ext E63).lt sb68))
  have x_124 := (Nat.ne_of_lt (Nat.lt_of_lt_of_le ((((((Vl3.ext E52).keep K60 (ninS x_122 nin0)).ext E63).keep K68 (ninS x_122 nin0)).keep K76 (ninS x_122 (ninS x_123 nin0))).ext E79).lt sb89))
  have f_125 := ((((((((((Vl3.ext E52).keep K60 (ninS x_122 nin0)).ext E63).keep K68 (ninS x_122 nin0)).keep K76 (ninS x_122 (ninS x_123 nin0))).ext E79).keep K89 (ninS x_122 nin0)).keep K100 (ninS x_122 (ninS x_124 nin0))).ext E103).keep K117 (ninS x_122 nin0))
  have f_126 := ((((f_88.keep K89).keep K100).ext E103).keep K117)
  have v_127 := (Nat.le_trans (own_le O103) sb117)
  have f_128 := ((((((((((Es3.ext E52).keep K60).ext E63).keep K68).keep K76).ext E79).keep K89).keep K100).ext E103).keep K117)
  have f_129 := ((((((((((Fc3.ext E52).keep K60 (ninS x_118 nin0)).ext E63).keep K68 (ninS x_118 nin0)).keep K76 (ninS x_118 (ninS x_119 nin0))).ext E79).keep K89 (ninS x_118 nin0)).keep K100 (ninS x_118 (ninS x_120 nin0))).ext E103).keep K117 (ninS x_118 nin0))
  have x_130 := (Nat.ne_of_lt (Nat.lt_of_lt_of_le (((((((((Vl3.ext E52).keep K60 (ninS x_122 nin0)).ext E63).keep K68 (ninS x_122 nin0)).keep K76 (ninS x_122 (ninS x_123 nin0))).ext E79).keep K89 (ninS x_122 nin0)).keep K100 (ninS x_122 (ninS x_124 nin0))).ext E103).lt sb117))
  have pre_131 := fun t k => pre_117 t <| oA K103x X117 k_1067 rfl rfl rfl <| k
  obtain ⟨T132, _, L132, X132, ⟨rfl, N132q, K132, Fv132, Fd132, Fk132, Fm132, Vb132⟩, pre_132⟩ := cV pre_131 K103x X117 rfl (rm_bapn0 l Z a0 hw b52 s3 G1 n3 bl kl (lim.map Value.int) (89 : Int32) b117 kN117 ((((([] ++ (own_L24.map Value.int)) ++ ([e0, e1].map own_b)) ++ (own_L39.map Value.int)) ++ [(.int (own_o (own_cp c0 c1)))]) ++ (own_L23.map Value.int)) n3 ((89 : Int32) + n3) (89 : Int32) (142 : Int32) T117.heap n0 O117 f_126 v_58 Fv117 Fd117 Fk117 Fm117 Vb117 v_127 f_128 f_129 f_121 f_125 SC hG x_130 (own_sh0 _) rfl (by decide) (by decide) hlm.1.1 hlm.1.2.2.1 (by simp only [List.length_append, List.length_map, List.length_cons, List.length_nil, own_l24, own_l39, own_l23, own_l28, own_infl, own_ul] <;> decide) hll hlm.1.2.1 hlm.1.2.2.2) (oW hw 71 rfl) (oW hw 73 rfl) (oW hw 18 rfl) (oW hw 75 rfl) (oW hw 72 rfl) (oW hw 74 rfl) (notFace_of_selects (args := #[]) (mvT hZ103 (oW hw 74 rfl))) f_126 rfl (lenOf d_43 rfl) k_1068 rfl rfl rfl (W := 1) (Nat.le_of_eq rfl) (by decide)
  have N132 := Fr.app N117 N132q
  have O132 : Old Z n0 T132.heap := O117.keep K132 (allS v_58 (allS v_127 all0))
  have hvl : List.length (α := Value) ((((((([] ++ (own_L24.map Value.int)) ++ ([e0, e1].map own_b)) ++ (own_L39.map Value.int)) ++ [(.int (own_o (own_cp c0 c1)))]) ++ (own_L23.map Value.int)) ++ (lim.map Value.int))) = (((89 : Int32) + n3)).toNatClampNeg := by rw [hlm.2.1.2.2.2.2.1, ← hll, own_v0 hcp hasc, List.length_map, List.length_map, own_msll]
  obtain ⟨T133, _, L133, X133, ⟨m133, rfl, N133q, K133, sm133, Em133, Fc133, b133, kN133, sb133, Fv133, Vb133⟩, pre_133⟩ := cV pre_132 K103x X132 rfl (rm_tos0 l Z a0 hw b52 G1 (142 : Int32) ((89 : Int32) + n3) b117 kN117 (((((([] ++ (own_L24.map Value.int)) ++ ([e0, e1].map own_b)) ++ (own_L39.map Value.int)) ++ [(.int (own_o (own_cp c0 c1)))]) ++ (own_L23.map Value.int)) ++ (lim.map Value.int)) T132.heap n0 O132 (f_126.keep K132) Fv132 Fd132 Fk132 Fm132 Vb132 SC hG hlm.2.1.1 hlm.2.1.2.1 hlm.2.1.2.2.1 hlm.2.1.2.2.2.1 hvl) (oW hw 136 rfl) (oW hw 138 rfl) (oW hw 18 rfl) (oW hw 140 rfl) (oW hw 137 rfl) (oW hw 139 rfl) (notFace_of_selects (args := #[]) (mvT hZ103 (oW hw 139 rfl))) (f_126.keep K132) rfl (lenOf d_45 rfl) k_1069 rfl rfl rfl (W := 1) (Nat.le_of_eq rfl) (by decide)
  have N133 := Fr.app N132 N133q
  have O133 : Old Z n0 T133.heap := O132.keep K133 all0
  have u_135 := ((u_102.ext E103).trans K117 (allS (Or.inr (Nat.le_trans (Keep.refl h0 []).1 gl52)) all0))
  have u_136 := (u_135.trans K132 (allS (Or.inr (Nat.le_trans (Keep.refl h0 []).1 gl52)) (allS (Or.inr (Nat.le_trans (u_102.ext E103).1 sb117)) all0)))
  have Xr134 := own_reb0 X133 (fun b cl q => own_kp0 hh (u_136.trans K133 all0) q)
  have f_138 := ((((((((((((E1.ext E52).keep K60).ext E63).keep K68).keep K76).ext E79).keep K89).keep K100).ext E103).keep K117).keep K132).keep K133)
  have x_139 := (Nat.ne_of_lt (Nat.lt_of_lt_of_le E1.lt gl52))
  have x_140 := (Nat.ne_of_lt (Nat.lt_of_lt_of_le (((E1.ext E52).keep K60).ext E63).lt sb68))
  have x_141 := (Nat.ne_of_lt (Nat.lt_of_lt_of_le ((((((E1.ext E52).keep K60).ext E63).keep K68).keep K76).ext E79).lt sb89))
  have x_142 := (Nat.ne_of_lt (Nat.lt_of_lt_of_le (((((((((E1.ext E52).keep K60).ext E63).keep K68).keep K76).ext E79).keep K89).keep K100).ext E103).lt sb117))
  have f_143 := ((((((((((((B1.ext E52).keep K60 (ninS x_139 nin0)).ext E63).keep K68 (ninS x_139 nin0)).keep K76 (ninS x_139 (ninS x_140 nin0))).ext E79).keep K89 (ninS x_139 nin0)).keep K100 (ninS x_139 (ninS x_141 nin0))).ext E103).keep K117 (ninS x_139 nin0)).keep K132 (ninS x_139 (ninS x_142 nin0))).keep K133 nin0)
  have f_144 := ((((((((((((B2.ext E52).keep K60 (ninS x_139 nin0)).ext E63).keep K68 (ninS x_139 nin0)).keep K76 (ninS x_139 (ninS x_140 nin0))).ext E79).keep K89 (ninS x_139 nin0)).keep K100 (ninS x_139 (ninS x_141 nin0))).ext E103).keep K117 (ninS x_139 nin0)).keep K132 (ninS x_139 (ninS x_142 nin0))).keep K133 nin0)
  obtain ⟨T137, h137, X137, e137, Kp137, Ex137, Fm137, st137⟩ := own_excL1 Xr134 hx hl hZ103 ho103 (ic := 34) (oW hw 215 rfl) hw hTW O133.2 (Vm.MethodsKnown.alikeC hS103.1.alike hTK) (Vm.FramesKnown.alikeC hS103.1.alike hBelow) rfl f_138 (Unt.keep (u_136.trans K133 all0) nin0 U1) f_143 f_144 (g := (mkF m 46 #[vr a1, vr s1, vr s2, vr s3] [(.ref m133), (.ref a1)])) rfl (by rw [hml]; rfl) (rest := []) rfl (hb hby k_1070) (by decide) (by show 2 * 0 + 0 + 84 ≤ _; decide) (by decide) (by decide)
  have N137 := Fr.six (Z := Z) (Fr.nil n0) g1
  have K137 := keep_of_kp Kp137
  have O137 : Old Z n0 h137 := O133.keep K137 (allS g1 all0)
  have pre_145 : Pr p e below E0 T137 (mkF m 49 #[vr a1, vr s1, vr s2, vr s3] []) := fun t k => pre_133 t (st137 t k)
  have x_146 := (Ne.symm (Nat.ne_of_lt (Nat.lt_of_lt_of_le (((((((((((E1.ext E52).keep K60).ext E63).keep K68).keep K76).ext E79).keep K89).keep K100).ext E103).keep K117).keep K132).lt sm133)))
  have x_147 := (Ne.symm (Nat.ne_of_lt (Nat.lt_of_lt_of_le (((((((((((E1.ext E52).keep K60).ext E63).keep K68).keep K76).ext E79).keep K89).keep K100).ext E103).keep K117).keep K132).lt sb133)))
  have u_148 := (((Keep.refl h0 [a1]).ext E52).trans K60 (allS (Or.inr (Nat.le_trans (Keep.refl h0 [a1]).1 gl52)) all0))
  have u_149 := ((u_148.ext E63).trans K68 (allS (Or.inr (Nat.le_trans (Keep.refl h0 [a1]).1 gl52)) all0))
  have u_150 := (u_149.trans K76 (allS (Or.inr (Nat.le_trans (Keep.refl h0 [a1]).1 gl52)) (allS (Or.inr (Nat.le_trans (u_148.ext E63).1 sb68)) all0)))
  have u_151 := ((u_150.ext E79).trans K89 (allS (Or.inr (Nat.le_trans (Keep.refl h0 [a1]).1 gl52)) all0))
  have u_152 := (u_151.trans K100 (allS (Or.inr (Nat.le_trans (Keep.refl h0 [a1]).1 gl52)) (allS (Or.inr (Nat.le_trans (u_150.ext E79).1 sb89)) all0)))
  have u_153 := ((u_152.ext E103).trans K117 (allS (Or.inr (Nat.le_trans (Keep.refl h0 [a1]).1 gl52)) all0))
  have u_154 := (u_153.trans K132 (allS (Or.inr (Nat.le_trans (Keep.refl h0 [a1]).1 gl52)) (allS (Or.inr (Nat.le_trans (u_152.ext E103).1 sb117)) all0)))
  have u_155 := ((u_154.trans K133 all0).trans K137 (allS (Or.inl (List.mem_of_getElem? (i := 0) rfl)) all0))
  have x_156 := (Exa.ne xE63 ((A52.keep K60).ext E63) (by decide))
  have x_157 := (Nat.ne_of_lt (Nat.lt_of_lt_of_le xE63.lt sb68))
  have x_158 := (Nat.ne_of_lt (Nat.lt_of_lt_of_le (((xE63.keep K68).keep K76).ext E79).lt sb89))
  have x_159 := (Nat.ne_of_lt (Nat.lt_of_lt_of_le ((((((xE63.keep K68).keep K76).ext E79).keep K89).keep K100).ext E103).lt sb117))
  have x_160 := (Exa.ne xE63 (((E1.ext E52).keep K60).ext E63) (by decide))
  have f_161 := ((((((((((vE63.keep K68 (ninS x_156 nin0)).keep K76 (ninS x_156 (ninS x_157 nin0))).ext E79).keep K89 (ninS x_156 nin0)).keep K100 (ninS x_156 (ninS x_158 nin0))).ext E103).keep K117 (ninS x_156 nin0)).keep K132 (ninS x_156 (ninS x_159 nin0))).keep K133 nin0).keep K137 (ninS x_160 nin0))
  have x_162 := (Nat.ne_of_lt (Nat.lt_of_lt_of_le f_109.lt sb117))
  have x_163 := (Ne.symm (Exa.neArv (((E1.ext E52).keep K60).ext E63) AE63 (oW hw 15 rfl)))
  have f_164 := ((((f_109.keep K117 (ninS x_84 nin0)).keep K132 (ninS x_84 (ninS x_162 nin0))).keep K133 nin0).keep K137 (ninS x_163 nin0))
  have x_165 := (Exa.ne xE79 (((((A52.keep K60).ext E63).keep K68).keep K76).ext E79) (by decide))
  have x_166 := (Nat.ne_of_lt (Nat.lt_of_lt_of_le xE79.lt sb89))
  have x_167 := (Nat.ne_of_lt (Nat.lt_of_lt_of_le (((xE79.keep K89).keep K100).ext E103).lt sb117))
  have x_168 := (Exa.ne xE79 ((((((E1.ext E52).keep K60).ext E63).keep K68).keep K76).ext E79) (by decide))
  have f_169 := (((((((vE79.keep K89 (ninS x_165 nin0)).keep K100 (ninS x_165 (ninS x_166 nin0))).ext E103).keep K117 (ninS x_165 nin0)).keep K132 (ninS x_165 (ninS x_167 nin0))).keep K133 nin0).keep K137 (ninS x_168 nin0))
  have x_170 := (Nat.ne_of_lt (Nat.lt_of_lt_of_le f_115.lt sb117))
  have x_171 := (Ne.symm (Exa.neArv ((((((E1.ext E52).keep K60).ext E63).keep K68).keep K76).ext E79) AE79 (oW hw 15 rfl)))
  have f_172 := ((((f_115.keep K117 (ninS x_113 nin0)).keep K132 (ninS x_113 (ninS x_170 nin0))).keep K133 nin0).keep K137 (ninS x_171 nin0))
  have x_173 := (Exa.ne xE103 ((((((((A52.keep K60).ext E63).keep K68).keep K76).ext E79).keep K89).keep K100).ext E103) (by decide))
  have x_174 := (Nat.ne_of_lt (Nat.lt_of_lt_of_le xE103.lt sb117))
  have x_175 := (Exa.ne xE103 (((((((((E1.ext E52).keep K60).ext E63).keep K68).keep K76).ext E79).keep K89).keep K100).ext E103) (by decide))
  have f_176 := ((((vE103.keep K117 (ninS x_173 nin0)).keep K132 (ninS x_173 (ninS x_174 nin0))).keep K133 nin0).keep K137 (ninS x_175 nin0))
  have x_177 := (Ne.symm (Exa.neArv ((((((((A52.keep K60).ext E63).keep K68).keep K76).ext E79).keep K89).keep K100).ext E103) AE103 (oW hw 17 rfl)))
  have x_178 := (Nat.ne_of_lt (Nat.lt_of_lt_of_le AE103.lt sb117))
  have x_179 := (Ne.symm (Exa.neArv (((((((((E1.ext E52).keep K60).ext E63).keep K68).keep K76).ext E79).keep K89).keep K100).ext E103) AE103 (oW hw 15 rfl)))
  have f_180 := ((((AE103.keep K117 (ninS x_177 nin0)).keep K132 (ninS x_177 (ninS x_178 nin0))).keep K133 nin0).keep K137 (ninS x_179 nin0))
  have f_181 := ((((((((((xE63.keep K68).keep K76).ext E79).keep K89).keep K100).ext E103).keep K117).keep K132).keep K133).keep K137)
  have f_182 := ((((((((((cE63.keep K68 (ninS x_156 nin0)).keep K76 (ninS x_156 (ninS x_157 nin0))).ext E79).keep K89 (ninS x_156 nin0)).keep K100 (ninS x_156 (ninS x_158 nin0))).ext E103).keep K117 (ninS x_156 nin0)).keep K132 (ninS x_156 (ninS x_159 nin0))).keep K133 nin0).keep K137 (ninS x_160 nin0))
  have f_183 := (((((((xE79.keep K89).keep K100).ext E103).keep K117).keep K132).keep K133).keep K137)
  have f_184 := (((((((cE79.keep K89 (ninS x_165 nin0)).keep K100 (ninS x_165 (ninS x_166 nin0))).ext E103).keep K117 (ninS x_165 nin0)).keep K132 (ninS x_165 (ninS x_167 nin0))).keep K133 nin0).keep K137 (ninS x_168 nin0))
  have f_185 := ((((xE103.keep K117).keep K132).keep K133).keep K137)
  have f_186 := ((((cE103.keep K117 (ninS x_173 nin0)).keep K132 (ninS x_173 (ninS x_174 nin0))).keep K133 nin0).keep K137 (ninS x_175 nin0))
  obtain ⟨fs, hr, hrun, hended, hEnd⟩ := X137.leaveW hS103 (by rw [e137]; exact (Nat.le_trans (Nat.le_refl _) (Nat.le_trans (Nat.le_trans (Nat.le_trans (Nat.le_trans (Nat.le_refl _) K117.1) K132.1) K133.1) K137.1))) (v := none) (fun _ => rfl)
  refine ⟨_, _, pre_145 _ ?_, hrun, hended, _, _, rfl, ?_, hEnd.1, hEnd.2.1, hEnd.2.2.1, hEnd.2.2.2.mono (by decide) (by decide)⟩
  · show Sp p e below T137 (mkF m 49 #[vr a1, vr s1, vr s2, vr s3] []) _
    exact X137.returnOut hx hret (hb hby k_1071) hr
  · show P _ T137.vm T137.heap _
    rw [e137]
    exact hP _ _ _ _ ⟨rfl, N137, u_155, m133, b133, kN133, (Nat.le_trans u_154.1 sm133), Fm137, (Em133.keep K137), ⟨(Fv133.keep K137 (ninS x_146 nin0)), (Fc133.keep K137 (ninS x_146 nin0)), own_arvE (Vb133.keep K137 (ninS x_147 nin0)) (hlm.2.1.2.2.2.2.2.trans (congrArg Int32.ofNat (by rw [own_msll, ← hll, List.length_map]))) (own_v0 hcp hasc)⟩, own_IBw hI103 X137.warmed, aE63, bE63, kE63, aE79, bE79, kE79, aE103, bE103, kE103, f_181, f_182, f_161, f_164, Lit.stays (Lit.stays (Lit.stays (hL63 : Lit (s.setVm T63.vm) s7_ 7 aE63) hSn79.1) hSn103.1) X137.warmed.wide, f_183, f_184, f_169, f_172, Lit.stays (Lit.stays (hL79 : Lit (s.setVm T79.vm) s7_ 13 aE79) hSn103.1) X137.warmed.wide, f_185, f_186, f_176, f_180, Lit.stays (hL103 : Lit (s.setVm T103.vm) s7_ 28 aE103) X137.warmed.wide⟩
theorem rm_iniB (hw : Hw a0 Z) (a1 : Addr) (s1 : Addr) (s2 : Addr) (s3 : Addr) (G1 : Int32) (w1 : Value) (bx : Addr) (kx : ClassId) (e0 e1 : Int32) (bi : Addr) (ki : ClassId) (c0 c1 : Int32) (bl : Addr) (kl : ClassId) (n3 : Int32) (lim : List Int32) (aO : Addr) (kO : ClassId) (a7 b7 : Addr) (k7 : ClassId) (a13 b13 : Addr) (k13 : ClassId) (a28 b28 : Addr) (k28 : ClassId) (h0 : Heap) (n0 : Nat) (O0 : Old Z n0 h0) (SC : Sta Z Z.heap s2_ s6_ "Z" (.int G1)) (hG : ¬ G1 = (0 : Int32)) (SF : Sta Z Z.heap s8_ s12_ s13_ w1) (hr : w1.isRef = true) (SU1 : Sta Z Z.heap s3_ s9_ "Z" (.int 1)) (SU2 : Sta Z Z.heap s3_ s10_ "I" (.int 0)) (SU3 : Sta Z Z.heap s3_ s11_ "I" (.int 8)) (SD1 : Sta Z Z.heap s14_ "DigitOnes" "[B" (.ref aO)) (VO : Arv Z Z.heap aO kO .byte (100 : Int32) own_ones (.int 0)) (Es1 : Exa Z h0 s1 s2_) (HM1 : own_M Z h0 s1 bx kx [e0, e1]) (Es2 : Exa Z h0 s2 s2_) (HM2 : own_M Z h0 s2 bi ki [c0, c1]) (hr0 : 0 ≤ c0.toInt ∧ c0.toInt < 65536) (hr1 : 0 ≤ c1.toInt ∧ c1.toInt < 65536) (Es3 : Exa Z h0 s3 s2_) (Fv3 : Fld Z h0 s3 s2_ "value" "[B" (.ref bl)) (Fc3 : Fld Z h0 s3 s2_ "coder" "B" (.int 0)) (Vl3 : Arv Z h0 bl kl .byte n3 (lim.map Value.int) (.int 0)) (h5 : own_five n3) (hll : (lim.map Value.int).length = n3.toNatClampNeg) (hasc : own_asc lim) (E1 : Exa Z h0 a1 s7_) (U1 : Unt h0 a1) (B1 : Fld Z h0 a1 s15_ "backtrace" "Ljava/lang/Object;" .null) (B2 : Fld Z h0 a1 s15_ "detailMessage" "Ljava/lang/String;" .null) (g1 : n0 ≤ a1) (hl : l.stackTraces = true) (hTW : ∀ d ∈ twoRefs, d.before a0 Z = true) (Ex7 : Exa Z h0 a7 s2_) (Fc7 : Fld Z h0 a7 s2_ "coder" "B" (.int 0)) (Fv7 : Fld Z h0 a7 s2_ "value" "[B" (.ref b7)) (Vl7 : Arv Z h0 b7 k7 .byte (24 : Int32) (own_L24.map Value.int) (.int 0)) (Ex13 : Exa Z h0 a13 s2_) (Fc13 : Fld Z h0 a13 s2_ "coder" "B" (.int 0)) (Fv13 : Fld Z h0 a13 s2_ "value" "[B" (.ref b13)) (Vl13 : Arv Z h0 b13 k13 .byte (39 : Int32) (own_L39.map Value.int) (.int 0)) (Ex28 : Exa Z h0 a28 s2_) (Fc28 : Fld Z h0 a28 s2_ "coder" "B" (.int 0)) (Fv28 : Fld Z h0 a28 s2_ "value" "[B" (.ref b28)) (Vl28 : Arv Z h0 b28 k28 .byte (23 : Int32) (own_L23.map Value.int) (.int 0)) : MetW l Z y_71 c_71 4 none [] (Rm 10 16 6500 215) #[(.ref a1), (.ref s1), (.ref s2), (.ref s3)] h0 (fun vm => Lit (Z.setVm vm) s7_ 7 a7 ∧ Lit (Z.setVm vm) s7_ 13 a13 ∧ Lit (Z.setVm vm) s7_ 28 a28) (fun v vm h L => v = none ∧ Fr n0 L ∧ Keep h0 h [a1] ∧ ∃ m b k, h0.size ≤ m ∧ Fld Z h a1 s15_ "detailMessage" "Ljava/lang/String;" (.ref m) ∧ Exa Z h m s2_ ∧ own_M Z h m b k (own_msl e0 e1 (own_cp c0 c1) lim)) := by
  refine own_metW (own := s7_) (G := fun m => (mkF m 0 #[vr a1, vr s1, vr s2, vr s3] [])) rfl n_71 ?_
  intro p e s m below meth c s₁ E0 P hP K hnm hret hlk hh hPV hK X0 eH pre0
  obtain ⟨hx, hZ, hown, hby, hml⟩ := id K
  obtain ⟨hTK, hBelow⟩ := hK
  have hlm := own_lm h5
  have hcp := own_cp12 c0 c1
  rcases HM1 with ⟨Fvx, ⟨Fcx, Vx0, hsm⟩ | ⟨Fcx, Vx0⟩⟩
  · skip
    have Vx : Arv Z h0 bx kx .byte (2 : Int32) ([e0, e1].map own_b) (.int 0) := Vx0
    have pre_51 := fun t k => pre0 t <| oA K X0 k_1049 rfl rfl rfl <| k
    obtain ⟨T52, h52, X52, e52, E52, A52, D52, U52, st52⟩ := newO X0 hx hZ hown (oW hw 16 rfl) (oW hw 17 rfl) (oW hw 18 rfl) eH (g := (mkF m 1 #[vr a1, vr s1, vr s2, vr s3] [(.ref a1)])) rfl (hb hby k_1050) (by decide) (by decide)
    obtain ⟨b52, g52⟩ : ∃ z, z = h0.size := ⟨_, rfl⟩
    rw [← g52] at A52 D52 U52 st52
    have O52 : Old Z n0 h52 := O0.ext E52
    have gl52 := Nat.le_of_eq g52.symm
    have F53 : Fld Z h52 b52 s1_ "value" "[B" .null := D52 (Or.inl (oW hw 33 rfl)) (ty := (.array .byte)) (by decide)
    have F54 : Fld Z h52 b52 s1_ "coder" "B" (.int 0) := D52 (Or.inl (oW hw 35 rfl)) (ty := .byte) (by decide)
    have F55 : Fld Z h52 b52 s1_ "count" "I" (.int 0) := D52 (Or.inl (oW hw 48 rfl)) (ty := .int) (by decide)
    have F56 : Fld Z h52 b52 s1_ s5_ "Z" (.int 0) := D52 (Or.inl (oW hw 406 rfl)) (ty := .boolean) (by decide)
    have pre_57 : Pr p e below E0 T52 (mkF m 4 #[vr a1, vr s1, vr s2, vr s3] [(.ref b52), (.ref a1)]) := fun t k => pre_51 t (st52 t k)
    have v_58 := (Nat.le_trans (own_le O0) gl52)
    have pre_59 := fun t k => pre_57 t <| XS.dup X52.here hx rfl (hb hby k_1051) rfl rfl <| k
    obtain ⟨T60, _, L60, X60, ⟨rfl, N60q, K60, b60, kN60, sb60, Fv60, Fd60, Fk60, Fm60, Vb60⟩, pre_60⟩ := cI pre_59 K X52 e52 (rm_bin l Z a0 hw b52 G1 h52 n0 O52 A52 v_58 F53 F54 F55 F56 SC hG) (oW hw 19 rfl) (oW hw 20 rfl) (oW hw 18 rfl) (oW hw 21 rfl) rfl (lenOf d_24 rfl) k_1052 rfl rfl rfl (W := 2) (Nat.le_of_eq rfl) (by decide) rfl
    have N60 := Fr.app (Fr.nil n0) N60q
    have O60 : Old Z n0 T60.heap := O52.keep K60 (allS v_58 all0)
    have x_61 := (Nat.ne_of_lt (Nat.lt_of_lt_of_le Ex7.lt gl52))
    have x_62 := (Nat.ne_of_lt (Nat.lt_of_lt_of_le Vl7.lt gl52))
    have v_63 := (Nat.le_trans (own_le O52) sb60)
    have x_64 := (Nat.ne_of_lt (Nat.lt_of_lt_of_le (Vl7.ext E52).lt sb60))
    have pre_65 := fun t k => pre_60 t <| ldcAgain (vm0 := s.vm) X60 hx hZ hown (oW hw 176 rfl) (hPV.1 : Lit (s.setVm s.vm) s7_ 7 a7) (g := (mkF m 8 #[vr a1, vr s1, vr s2, vr s3] [(.ref b52), (.ref a1)])) rfl (hb hby k_1053) _ <| k
    obtain ⟨T66, _, L66, X66, ⟨rfl, N66q, K66, b66, kN66, sb66, Fv66, Fd66, Fk66, Fm66, Vb66⟩, pre_66⟩ := cV pre_65 K X60 rfl (rm_bapg16 l Z a0 hw b52 a7 G1 (24 : Int32) b7 k7 (own_L24.map Value.int) (0 : Int32) b60 kN60 [] (24 : Int32) (24 : Int32) (0 : Int32) T60.heap n0 O60 (A52.keep K60) v_58 Fv60 Fd60 Fk60 Fm60 Vb60 v_63 ((Ex7.ext E52).keep K60) ((Fc7.ext E52).keep K60 (ninS x_61 nin0)) ((Fv7.ext E52).keep K60 (ninS x_61 nin0)) ((Vl7.ext E52).keep K60 (ninS x_62 nin0)) SC hG x_64 (by decide) (by decide) (by decide) (by decide) (by decide) (by decide) (by simp only [List.length_append, List.length_map, List.length_cons, List.length_nil, own_l24, own_l39, own_l23, own_l28, own_infl, own_ul] <;> decide) (by simp only [List.length_append, List.length_map, List.length_cons, List.length_nil, own_l24, own_l39, own_l23, own_l28, own_infl, own_ul] <;> decide) (by decide) (by decide) (by decide) (by simp only [List.length_append, List.length_map, List.length_cons, List.length_nil, own_l24, own_l39, own_l23, own_l28, own_infl, own_ul] <;> decide)) (oW hw 71 rfl) (oW hw 73 rfl) (oW hw 18 rfl) (oW hw 75 rfl) (oW hw 72 rfl) (oW hw 74 rfl) (notFace_of_selects (args := #[]) (mvT hZ (oW hw 74 rfl))) (A52.keep K60) rfl (lenOf d_43 rfl) k_1054 rfl rfl rfl (W := 1) (Nat.le_of_eq rfl) (by decide)
    have N66 := Fr.app N60 N66q
    have O66 : Old Z n0 T66.heap := O60.keep K66 (allS v_58 all0)
    have x_67 := (Nat.ne_of_lt (Nat.lt_of_lt_of_le Es1.lt gl52))
    have f_68 := (((Fvx.ext E52).keep K60 (ninS x_67 nin0)).keep K66 (ninS x_67 nin0))
    have x_69 := (Nat.ne_of_lt (Nat.lt_of_lt_of_le Vx.lt gl52))
    have f_70 := (((Vx.ext E52).keep K60 (ninS x_69 nin0)).keep K66 (ninS x_69 nin0))
    have v_71 := (Nat.le_trans (own_le O60) sb66)
    have f_72 := (((Fcx.ext E52).keep K60 (ninS x_67 nin0)).keep K66 (ninS x_67 nin0))
    have x_73 := (Nat.ne_of_lt (Nat.lt_of_lt_of_le ((Vx.ext E52).keep K60 (ninS x_69 nin0)).lt sb66))
    have pre_74 := fun t k => pre_66 t <| oA K X66 k_1055 rfl rfl rfl <| k
    obtain ⟨T75, _, L75, X75, ⟨rfl, N75q, K75, Fv75, Fd75, Fk75, Fm75, Vb75⟩, pre_75⟩ := cV pre_74 K X66 rfl (rm_bapn0 l Z a0 hw b52 s1 G1 (2 : Int32) bx kx ([e0, e1].map own_b) (24 : Int32) b66 kN66 ([] ++ (own_L24.map Value.int)) (2 : Int32) (26 : Int32) (24 : Int32) (34 : Int32) T66.heap n0 O66 ((A52.keep K60).keep K66) v_58 Fv66 Fd66 Fk66 Fm66 Vb66 v_71 (((Es1.ext E52).keep K60).keep K66) f_72 f_68 f_70 SC hG x_73 (by decide) (by decide) (by decide) (by decide) (by decide) (by decide) (by simp only [List.length_append, List.length_map, List.length_cons, List.length_nil, own_l24, own_l39, own_l23, own_l28, own_infl, own_ul] <;> decide) (by simp only [List.length_append, List.length_map, List.length_cons, List.length_nil, own_l24, own_l39, own_l23, own_l28, own_infl, own_ul] <;> decide) (by decide) (by decide)) (oW hw 71 rfl) (oW hw 73 rfl) (oW hw 18 rfl) (oW hw 75 rfl) (oW hw 72 rfl) (oW hw 74 rfl) (notFace_of_selects (args := #[]) (mvT hZ (oW hw 74 rfl))) ((A52.keep K60).keep K66) rfl (lenOf d_43 rfl) k_1056 rfl rfl rfl (W := 1) (Nat.le_of_eq rfl) (by decide)
    have N75 := Fr.app N66 N75q
    have O75 : Old Z n0 T75.heap := O66.keep K75 (allS v_58 (allS v_71 all0))
    have x_76 := (Nat.ne_of_lt (Nat.lt_of_lt_of_le Ex13.lt gl52))
    have x_77 := (Nat.ne_of_lt (Nat.lt_of_lt_of_le ((Ex13.ext E52).keep K60).lt sb66))
    have f_78 := ((((Fv13.ext E52).keep K60 (ninS x_76 nin0)).keep K66 (ninS x_76 nin0)).keep K75 (ninS x_76 (ninS x_77 nin0)))
    have x_79 := (Nat.ne_of_lt (Nat.lt_of_lt_of_le Vl13.lt gl52))
    have x_80 := (Nat.ne_of_lt (Nat.lt_of_lt_of_le ((Vl13.ext E52).keep K60 (ninS x_79 nin0)).lt sb66))
    have f_81 := ((((Vl13.ext E52).keep K60 (ninS x_79 nin0)).keep K66 (ninS x_79 nin0)).keep K75 (ninS x_79 (ninS x_80 nin0)))
    have f_82 := ((((Ex13.ext E52).keep K60).keep K66).keep K75)
    have f_83 := ((((Fc13.ext E52).keep K60 (ninS x_76 nin0)).keep K66 (ninS x_76 nin0)).keep K75 (ninS x_76 (ninS x_77 nin0)))
    have pre_84 := fun t k => pre_75 t <| ldcAgain (vm0 := s.vm) X75 hx hZ hown (oW hw 177 rfl) (hPV.2.1 : Lit (s.setVm s.vm) s7_ 13 a13) (g := (mkF m 17 #[vr a1, vr s1, vr s2, vr s3] [(.ref b52), (.ref a1)])) rfl (hb hby k_1057) _ <| k
    obtain ⟨T85, _, L85, X85, ⟨rfl, N85q, K85, b85, kN85, sb85, Fv85, Fd85, Fk85, Fm85, Vb85⟩, pre_85⟩ := cV pre_84 K X75 rfl (rm_bapg34 l Z a0 hw b52 a13 G1 (39 : Int32) b13 k13 (own_L39.map Value.int) (26 : Int32) b66 kN66 (([] ++ (own_L24.map Value.int)) ++ ([e0, e1].map own_b)) (39 : Int32) (65 : Int32) (26 : Int32) T75.heap n0 O75 (((A52.keep K60).keep K66).keep K75) v_58 Fv75 Fd75 Fk75 Fm75 Vb75 v_71 f_82 f_83 f_78 f_81 SC hG x_80 (by decide) (by decide) (by decide) (by decide) (by decide) (by decide) (by simp only [List.length_append, List.length_map, List.length_cons, List.length_nil, own_l24, own_l39, own_l23, own_l28, own_infl, own_ul] <;> decide) (by simp only [List.length_append, List.length_map, List.length_cons, List.length_nil, own_l24, own_l39, own_l23, own_l28, own_infl, own_ul] <;> decide) (by decide) (by decide) (by decide) (by simp only [List.length_append, List.length_map, List.length_cons, List.length_nil, own_l24, own_l39, own_l23, own_l28, own_infl, own_ul] <;> decide)) (oW hw 71 rfl) (oW hw 73 rfl) (oW hw 18 rfl) (oW hw 75 rfl) (oW hw 72 rfl) (oW hw 74 rfl) (notFace_of_selects (args := #[]) (mvT hZ (oW hw 74 rfl))) (((A52.keep K60).keep K66).keep K75) rfl (lenOf d_43 rfl) k_1058 rfl rfl rfl (W := 1) (Nat.le_of_eq rfl) (by decide)
    have N85 := Fr.app N75 N85q
    have O85 : Old Z n0 T85.heap := O75.keep K85 (allS v_58 all0)
    have f_86 := (((((Es2.ext E52).keep K60).keep K66).keep K75).keep K85)
    have x_87 := (Nat.ne_of_lt (Nat.lt_of_lt_of_le Es2.lt gl52))
    have x_88 := (Nat.ne_of_lt (Nat.lt_of_lt_of_le HM2.lt gl52))
    have x_89 := (Nat.ne_of_lt (Nat.lt_of_lt_of_le ((Es2.ext E52).keep K60).lt sb66))
    have x_90 := (Nat.ne_of_lt (Nat.lt_of_lt_of_le ((HM2.ext E52).keep K60 (ninS x_87 nin0) (ninS x_88 nin0)).lt sb66))
    have f_91 := (((((HM2.ext E52).keep K60 (ninS x_87 nin0) (ninS x_88 nin0)).keep K66 (ninS x_87 nin0) (ninS x_88 nin0)).keep K75 (ninS x_87 (ninS x_89 nin0)) (ninS x_88 (ninS x_90 nin0))).keep K85 (ninS x_87 nin0) (ninS x_88 nin0))
    have pre_92 := fun t k => pre_85 t <| oA K X85 k_1059 rfl rfl rfl <| XS.iconst X85.here hx rfl (hb hby k_1060) <| oA K X85 k_1061 rfl rfl rfl <| k
    obtain ⟨T93, _, L93, X93, ⟨rfl, N93q, e93⟩, pre_93⟩ := cV pre_92 K X85 rfl (rm_lnm l Z a0 hw s2 G1 bi ki [c0, c1] T85.heap n0 O85 f_86 f_91 (by simp) SC hG) (oW hw 178 rfl) (oW hw 82 rfl) (oW hw 1 rfl) (oW hw 84 rfl) (oW hw 81 rfl) (oW hw 83 rfl) (notFace_of_selects (args := #[]) (mvT hZ (oW hw 83 rfl))) f_86 rfl (lenOf d_8 rfl) k_1062 rfl rfl rfl (W := 4) (Nat.le_of_eq rfl) (by decide)
    have N93 := Fr.app N85 N93q
    obtain ⟨T94, _, L94, X94, ⟨rfl, N94q, e94⟩, pre_94⟩ := cV pre_93 K X93 e93 (rm_cpc l Z a0 hw s2 G1 bi ki c0 c1 T85.heap n0 O85 f_86 f_91 hr0 hr1 SC hG SU1 SU2 SU3) (oW hw 179 rfl) (oW hw 181 rfl) (oW hw 1 rfl) (oW hw 183 rfl) (oW hw 180 rfl) (oW hw 182 rfl) (notFace_of_selects (args := #[]) (mvT hZ (oW hw 182 rfl))) f_86 rfl (lenOf d_2 rfl) k_1063 rfl rfl rfl (W := 2) (Nat.le_of_eq rfl) (by decide)
    have N94 := Fr.app N93 N94q
    have f_95 := ((((A52.keep K60).keep K66).keep K75).keep K85)
    have v_96 := (Nat.le_trans (own_le O75) sb85)
    obtain ⟨T97, _, L97, X97, ⟨rfl, N97q, K97, Fv97, Fd97, Fk97, Fm97, Vb97⟩, pre_97⟩ := cV pre_94 K X94 e94 (rm_bai0 l Z a0 hw b52 (own_cp c0 c1) G1 b85 kN85 ((([] ++ (own_L24.map Value.int)) ++ ([e0, e1].map own_b)) ++ (own_L39.map Value.int)) aO kO T85.heap n0 O85 f_95 v_58 Fv85 Fd85 Fk85 Fm85 Vb85 v_96 SC hG hcp SD1 VO (by simp only [List.length_append, List.length_map, List.length_cons, List.length_nil, own_l24, own_l39, own_l23, own_l28, own_infl, own_ul] <;> decide)) (oW hw 198 rfl) (oW hw 200 rfl) (oW hw 18 rfl) (oW hw 202 rfl) (oW hw 199 rfl) (oW hw 201 rfl) (notFace_of_selects (args := #[]) (mvT hZ (oW hw 201 rfl))) f_95 rfl (lenOf d_44 rfl) k_1064 rfl rfl rfl (W := 1) (Nat.le_of_eq rfl) (by decide)
    have N97 := Fr.app N94 N97q
    have O97 : Old Z n0 T97.heap := O85.keep K97 (allS v_58 (allS v_96 all0))
    have x_98 := (Nat.ne_of_lt (Nat.lt_of_lt_of_le Ex28.lt gl52))
    have x_99 := (Nat.ne_of_lt (Nat.lt_of_lt_of_le ((Ex28.ext E52).keep K60).lt sb66))
    have x_100 := (Nat.ne_of_lt (Nat.lt_of_lt_of_le ((((Ex28.ext E52).keep K60).keep K66).keep K75).lt sb85))
    have f_101 := ((((((Fv28.ext E52).keep K60 (ninS x_98 nin0)).keep K66 (ninS x_98 nin0)).keep K75 (ninS x_98 (ninS x_99 nin0))).keep K85 (ninS x_98 nin0)).keep K97 (ninS x_98 (ninS x_100 nin0)))
    have x_102 := (Nat.ne_of_lt (Nat.lt_of_lt_of_le Vl28.lt gl52))
    have x_103 := (Nat.ne_of_lt (Nat.lt_of_lt_of_le ((Vl28.ext E52).keep K60 (ninS x_102 nin0)).lt sb66))
    have x_104 := (Nat.ne_of_lt (Nat.lt_of_lt_of_le ((((Vl28.ext E52).keep K60 (ninS x_102 nin0)).keep K66 (ninS x_102 nin0)).keep K75 (ninS x_102 (ninS x_103 nin0))).lt sb85))
    have f_105 := ((((((Vl28.ext E52).keep K60 (ninS x_102 nin0)).keep K66 (ninS x_102 nin0)).keep K75 (ninS x_102 (ninS x_103 nin0))).keep K85 (ninS x_102 nin0)).keep K97 (ninS x_102 (ninS x_104 nin0)))
    have f_106 := ((((((Ex28.ext E52).keep K60).keep K66).keep K75).keep K85).keep K97)
    have f_107 := ((((((Fc28.ext E52).keep K60 (ninS x_98 nin0)).keep K66 (ninS x_98 nin0)).keep K75 (ninS x_98 (ninS x_99 nin0))).keep K85 (ninS x_98 nin0)).keep K97 (ninS x_98 (ninS x_100 nin0)))
    have pre_108 : Pr p e below E0 T97 (mkF m 36 #[vr a1, vr s1, vr s2, vr s3] [(.ref a28), (.ref b52), (.ref a1)]) := fun t k => pre_97 t <| ldcAgain (vm0 := s.vm) X97 hx hZ hown (oW hw 214 rfl) (hPV.2.2 : Lit (s.setVm s.vm) s7_ 28 a28) (g := (mkF m 34 #[vr a1, vr s1, vr s2, vr s3] [(.ref b52), (.ref a1)])) rfl (hb hby k_1065) _ <| k
    obtain ⟨T109, _, L109, X109, ⟨rfl, N109q, K109, b109, kN109, sb109, Fv109, Fd109, Fk109, Fm109, Vb109⟩, pre_109⟩ := cV pre_108 K X97 rfl (rm_bapg70 l Z a0 hw b52 a28 G1 (23 : Int32) b28 k28 (own_L23.map Value.int) (66 : Int32) b85 kN85 (((([] ++ (own_L24.map Value.int)) ++ ([e0, e1].map own_b)) ++ (own_L39.map Value.int)) ++ [(.int (own_o (own_cp c0 c1)))]) (23 : Int32) (89 : Int32) (66 : Int32) T97.heap n0 O97 (f_95.keep K97) v_58 Fv97 Fd97 Fk97 Fm97 Vb97 v_96 f_106 f_107 f_101 f_105 SC hG x_104 (by decide) (by decide) (by decide) (by decide) (by decide) (by decide) (by simp only [List.length_append, List.length_map, List.length_cons, List.length_nil, own_l24, own_l39, own_l23, own_l28, own_infl, own_ul] <;> decide) (by simp only [List.length_append, List.length_map, List.length_cons, List.length_nil, own_l24, own_l39, own_l23, own_l28, own_infl, own_ul] <;> decide) (by decide) (by decide) (by decide) (by simp only [List.length_append, List.length_map, List.length_cons, List.length_nil, own_l24, own_l39, own_l23, own_l28, own_infl, own_ul] <;> decide)) (oW hw 71 rfl) (oW hw 73 rfl) (oW hw 18 rfl) (oW hw 75 rfl) (oW hw 72 rfl) (oW hw 74 rfl) (notFace_of_selects (args := #[]) (mvT hZ (oW hw 74 rfl))) (f_95.keep K97) rfl (lenOf d_43 rfl) k_1066 rfl rfl rfl (W := 1) (Nat.le_of_eq rfl) (by decide)
    have N109 := Fr.app N97 N109q
    have O109 : Old Z n0 T109.heap := O97.keep K109 (allS v_58 all0)
    have x_110 := (Nat.ne_of_lt (Nat.lt_of_lt_of_le Es3.lt gl52))
    have x_111 := (Nat.ne_of_lt (Nat.lt_of_lt_of_le ((Es3.ext E52).keep K60).lt sb66))
    have x_112 := (Nat.ne_of_lt (Nat.lt_of_lt_of_le ((((Es3.ext E52).keep K60).keep K66).keep K75).lt sb85))
    have f_113 := (((((((Fv3.ext E52).keep K60 (ninS x_110 nin0)).keep K66 (ninS x_110 nin0)).keep K75 (ninS x_110 (ninS x_111 nin0))).keep K85 (ninS x_110 nin0)).keep K97 (ninS x_110 (ninS x_112 nin0))).keep K109 (ninS x_110 nin0))
    have x_114 := (Nat.ne_of_lt (Nat.lt_of_lt_of_le Vl3.lt gl52))
    have x_115 := (Nat.ne_of_lt (Nat.lt_of_lt_of_le ((Vl3.ext E52).keep K60 (ninS x_114 nin0)).lt sb66))
    have x_116 := (Nat.ne_of_lt (Nat.lt_of_lt_of_le ((((Vl3.ext E52).keep K60 (ninS x_114 nin0)).keep K66 (ninS x_114 nin0)).keep K75 (ninS x_114 (ninS x_115 nin0))).lt sb85))
    have f_117 := (((((((Vl3.ext E52).keep K60 (ninS x_114 nin0)).keep K66 (ninS x_114 nin0)).keep K75 (ninS x_114 (ninS x_115 nin0))).keep K85 (ninS x_114 nin0)).keep K97 (ninS x_114 (ninS x_116 nin0))).keep K109 (ninS x_114 nin0))
    have v_118 := (Nat.le_trans (own_le O97) sb109)
    have f_119 := (((((((Es3.ext E52).keep K60).keep K66).keep K75).keep K85).keep K97).keep K109)
    have f_120 := (((((((Fc3.ext E52).keep K60 (ninS x_110 nin0)).keep K66 (ninS x_110 nin0)).keep K75 (ninS x_110 (ninS x_111 nin0))).keep K85 (ninS x_110 nin0)).keep K97 (ninS x_110 (ninS x_112 nin0))).keep K109 (ninS x_110 nin0))
    have x_121 := (Nat.ne_of_lt (Nat.lt_of_lt_of_le ((((((Vl3.ext E52).keep K60 (ninS x_114 nin0)).keep K66 (ninS x_114 nin0)).keep K75 (ninS x_114 (ninS x_115 nin0))).keep K85 (ninS x_114 nin0)).keep K97 (ninS x_114 (ninS x_116 nin0))).lt sb109))
    have pre_122 := fun t k => pre_109 t <| oA K X109 k_1067 rfl rfl rfl <| k
    obtain ⟨T123, _, L123, X123, ⟨rfl, N123q, K123, Fv123, Fd123, Fk123, Fm123, Vb123⟩, pre_123⟩ := cV pre_122 K X109 rfl (rm_bapn0 l Z a0 hw b52 s3 G1 n3 bl kl (lim.map Value.int) (89 : Int32) b109 kN109 ((((([] ++ (own_L24.map Value.int)) ++ ([e0, e1].map own_b)) ++ (own_L39.map Value.int)) ++ [(.int (own_o (own_cp c0 c1)))]) ++ (own_L23.map Value.int)) n3 ((89 : Int32) + n3) (89 : Int32) (142 : Int32) T109.heap n0 O109 ((f_95.keep K97).keep K109) v_58 Fv109 Fd109 Fk109 Fm109 Vb109 v_118 f_119 f_120 f_113 f_117 SC hG x_121 (own_sh0 _) rfl (by decide) (by decide) hlm.1.1 hlm.1.2.2.1 (by simp only [List.length_append, List.length_map, List.length_cons, List.length_nil, own_l24, own_l39, own_l23, own_l28, own_infl, own_ul] <;> decide) hll hlm.1.2.1 hlm.1.2.2.2) (oW hw 71 rfl) (oW hw 73 rfl) (oW hw 18 rfl) (oW hw 75 rfl) (oW hw 72 rfl) (oW hw 74 rfl) (notFace_of_selects (args := #[]) (mvT hZ (oW hw 74 rfl))) ((f_95.keep K97).keep K109) rfl (lenOf d_43 rfl) k_1068 rfl rfl rfl (W := 1) (Nat.le_of_eq rfl) (by decide)
    have N123 := Fr.app N109 N123q
    have O123 : Old Z n0 T123.heap := O109.keep K123 (allS v_58 (allS v_118 all0))
    have hvl : List.length (α := Value) ((((((([] ++ (own_L24.map Value.int)) ++ ([e0, e1].map own_b)) ++ (own_L39.map Value.int)) ++ [(.int (own_o (own_cp c0 c1)))]) ++ (own_L23.map Value.int)) ++ (lim.map Value.int))) = (((89 : Int32) + n3)).toNatClampNeg := by rw [hlm.2.1.2.2.2.2.1, ← hll, own_v0 hcp hasc, List.length_map, List.length_map, own_msll]
    obtain ⟨T124, _, L124, X124, ⟨m124, rfl, N124q, K124, sm124, Em124, Fc124, b124, kN124, sb124, Fv124, Vb124⟩, pre_124⟩ := cV pre_123 K X123 rfl (rm_tos0 l Z a0 hw b52 G1 (142 : Int32) ((89 : Int32) + n3) b109 kN109 (((((([] ++ (own_L24.map Value.int)) ++ ([e0, e1].map own_b)) ++ (own_L39.map Value.int)) ++ [(.int (own_o (own_cp c0 c1)))]) ++ (own_L23.map Value.int)) ++ (lim.map Value.int)) T123.heap n0 O123 (((f_95.keep K97).keep K109).keep K123) Fv123 Fd123 Fk123 Fm123 Vb123 SC hG hlm.2.1.1 hlm.2.1.2.1 hlm.2.1.2.2.1 hlm.2.1.2.2.2.1 hvl) (oW hw 136 rfl) (oW hw 138 rfl) (oW hw 18 rfl) (oW hw 140 rfl) (oW hw 137 rfl) (oW hw 139 rfl) (notFace_of_selects (args := #[]) (mvT hZ (oW hw 139 rfl))) (((f_95.keep K97).keep K109).keep K123) rfl (lenOf d_45 rfl) k_1069 rfl rfl rfl (W := 1) (Nat.le_of_eq rfl) (by decide)
    have N124 := Fr.app N123 N124q
    have O124 : Old Z n0 T124.heap := O123.keep K124 all0
    have u_126 := (((Keep.refl h0 []).ext E52).trans K60 (allS (Or.inr (Nat.le_trans (Keep.refl h0 []).1 gl52)) all0))
    have u_127 := ((u_126.trans K66 (allS (Or.inr (Nat.le_trans (Keep.refl h0 []).1 gl52)) all0)).trans K75 (allS (Or.inr (Nat.le_trans (Keep.refl h0 []).1 gl52)) (allS (Or.inr (Nat.le_trans u_126.1 sb66)) all0)))
    have u_128 := ((u_127.trans K85 (allS (Or.inr (Nat.le_trans (Keep.refl h0 []).1 gl52)) all0)).trans K97 (allS (Or.inr (Nat.le_trans (Keep.refl h0 []).1 gl52)) (allS (Or.inr (Nat.le_trans u_127.1 sb85)) all0)))
    have u_129 := ((u_128.trans K109 (allS (Or.inr (Nat.le_trans (Keep.refl h0 []).1 gl52)) all0)).trans K123 (allS (Or.inr (Nat.le_trans (Keep.refl h0 []).1 gl52)) (allS (Or.inr (Nat.le_trans u_128.1 sb109)) all0)))
    have Xr125 := own_reb0 X124 (fun b cl q => own_kp0 hh (u_129.trans K124 all0) q)
    have f_131 := (((((((((E1.ext E52).keep K60).keep K66).keep K75).keep K85).keep K97).keep K109).keep K123).keep K124)
    have x_132 := (Nat.ne_of_lt (Nat.lt_of_lt_of_le E1.lt gl52))
    have x_133 := (Nat.ne_of_lt (Nat.lt_of_lt_of_le ((E1.ext E52).keep K60).lt sb66))
    have x_134 := (Nat.ne_of_lt (Nat.lt_of_lt_of_le ((((E1.ext E52).keep K60).keep K66).keep K75).lt sb85))
    have x_135 := (Nat.ne_of_lt (Nat.lt_of_lt_of_le ((((((E1.ext E52).keep K60).keep K66).keep K75).keep K85).keep K97).lt sb109))
    have f_136 := (((((((((B1.ext E52).keep K60 (ninS x_132 nin0)).keep K66 (ninS x_132 nin0)).keep K75 (ninS x_132 (ninS x_133 nin0))).keep K85 (ninS x_132 nin0)).keep K97 (ninS x_132 (ninS x_134 nin0))).keep K109 (ninS x_132 nin0)).keep K123 (ninS x_132 (ninS x_135 nin0))).keep K124 nin0)
    have f_137 := (((((((((B2.ext E52).keep K60 (ninS x_132 nin0)).keep K66 (ninS x_132 nin0)).keep K75 (ninS x_132 (ninS x_133 nin0))).keep K85 (ninS x_132 nin0)).keep K97 (ninS x_132 (ninS x_134 nin0))).keep K109 (ninS x_132 nin0)).keep K123 (ninS x_132 (ninS x_135 nin0))).keep K124 nin0)
    obtain ⟨T130, h130, X130, e130, Kp130, Ex130, Fm130, st130⟩ := own_excL1 Xr125 hx hl hZ hown (ic := 34) (oW hw 215 rfl) hw hTW O124.2 (Vm.MethodsKnown.alikeC ((State.WarmedH.refl s).since 0).1.alike hTK) (Vm.FramesKnown.alikeC ((State.WarmedH.refl s).since 0).1.alike hBelow) rfl f_131 (Unt.keep (u_129.trans K124 all0) nin0 U1) f_136 f_137 (g := (mkF m 46 #[vr a1, vr s1, vr s2, vr s3] [(.ref m124), (.ref a1)])) rfl (by rw [hml]; rfl) (rest := []) rfl (hb hby k_1070) (by decide) (by show 2 * 0 + 0 + 84 ≤ _; decide) (by decide) (by decide)
    have N130 := Fr.six (Z := Z) (Fr.nil n0) g1
    have K130 := keep_of_kp Kp130
    have O130 : Old Z n0 h130 := O124.keep K130 (allS g1 all0)
    have pre_138 : Pr p e below E0 T130 (mkF m 49 #[vr a1, vr s1, vr s2, vr s3] []) := fun t k => pre_124 t (st130 t k)
    have x_139 := (Ne.symm (Nat.ne_of_lt (Nat.lt_of_lt_of_le ((((((((E1.ext E52).keep K60).keep K66).keep K75).keep K85).keep K97).keep K109).keep K123).lt sm124)))
    have x_140 := (Ne.symm (Nat.ne_of_lt (Nat.lt_of_lt_of_le ((((((((E1.ext E52).keep K60).keep K66).keep K75).keep K85).keep K97).keep K109).keep K123).lt sb124)))
    have u_141 := (((Keep.refl h0 [a1]).ext E52).trans K60 (allS (Or.inr (Nat.le_trans (Keep.refl h0 [a1]).1 gl52)) all0))
    have u_142 := ((u_141.trans K66 (allS (Or.inr (Nat.le_trans (Keep.refl h0 [a1]).1 gl52)) all0)).trans K75 (allS (Or.inr (Nat.le_trans (Keep.refl h0 [a1]).1 gl52)) (allS (Or.inr (Nat.le_trans u_141.1 sb66)) all0)))
    have u_143 := ((u_142.trans K85 (allS (Or.inr (Nat.le_trans (Keep.refl h0 [a1]).1 gl52)) all0)).trans K97 (allS (Or.inr (Nat.le_trans (Keep.refl h0 [a1]).1 gl52)) (allS (Or.inr (Nat.le_trans u_142.1 sb85)) all0)))
    have u_144 := ((u_143.trans K109 (allS (Or.inr (Nat.le_trans (Keep.refl h0 [a1]).1 gl52)) all0)).trans K123 (allS (Or.inr (Nat.le_trans (Keep.refl h0 [a1]).1 gl52)) (allS (Or.inr (Nat.le_trans u_143.1 sb109)) all0)))
    have u_145 := ((u_144.trans K124 all0).trans K130 (allS (Or.inl (List.mem_of_getElem? (i := 0) rfl)) all0))
    obtain ⟨fs, hr, hrun, hended, hEnd⟩ := X130.leaveW ((State.WarmedH.refl s).since 0) (by rw [e130]; exact (Nat.le_trans (Nat.zero_le _) (Nat.le_trans (Nat.le_trans (Nat.le_trans (Nat.le_trans (Nat.le_trans (Nat.le_trans (Nat.le_trans (Nat.le_trans (Nat.le_trans (Nat.le_trans (Nat.le_refl _) E52.1) K60.1) K66.1) K75.1) K85.1) K97.1) K109.1) K123.1) K124.1) K130.1))) (v := none) (fun _ => rfl)
    refine ⟨_, _, pre_138 _ ?_, hrun, hended, _, _, rfl, ?_, hEnd.1, hEnd.2.1, hEnd.2.2.1, hEnd.2.2.2.mono (by decide) (by decide)⟩
    · show Sp p e below T130 (mkF m 49 #[vr a1, vr s1, vr s2, vr s3] []) _
      exact X130.returnOut hx hret (hb hby k_1071) hr
    · show P _ T130.vm T130.heap _
      rw [e130]
      exact hP _ _ _ _ ⟨rfl, N130, u_145, m124, b124, kN124, (Nat.le_trans u_144.1 sm124), Fm130, (Em124.keep K130), ⟨(Fv124.keep K130 (ninS x_139 nin0)), Or.inl ⟨(Fc124.keep K130 (ninS x_139 nin0)), own_arvE (Vb124.keep K130 (ninS x_140 nin0)) (hlm.2.1.2.2.2.2.2.trans (congrArg Int32.ofNat (by rw [own_msll, ← hll, List.length_map]))) (own_v0 hcp hasc), own_small hcp hasc hsm⟩⟩⟩
  · skip
    have Vx : Arv Z h0 bx kx .byte (4 : Int32) (own_u [e0, e1]) (.int 0) := Vx0
    have pre_146 := fun t k => pre0 t <| oA K X0 k_1049 rfl rfl rfl <| k
    obtain ⟨T147, h147, X147, e147, E147, A147, D147, U147, st147⟩ := newO X0 hx hZ hown (oW hw 16 rfl) (oW hw 17 rfl) (oW hw 18 rfl) eH (g := (mkF m 1 #[vr a1, vr s1, vr s2, vr s3] [(.ref a1)])) rfl (hb hby k_1050) (by decide) (by decide)
    obtain ⟨b147, g147⟩ : ∃ z, z = h0.size := ⟨_, rfl⟩
    rw [← g147] at A147 D147 U147 st147
    have O147 : Old Z n0 h147 := O0.ext E147
    have gl147 := Nat.le_of_eq g147.symm
    have F148 : Fld Z h147 b147 s1_ "value" "[B" .null := D147 (Or.inl (oW hw 33 rfl)) (ty := (.array .byte)) (by decide)
    have F149 : Fld Z h147 b147 s1_ "coder" "B" (.int 0) := D147 (Or.inl (oW hw 35 rfl)) (ty := .byte) (by decide)
    have F150 : Fld Z h147 b147 s1_ "count" "I" (.int 0) := D147 (Or.inl (oW hw 48 rfl)) (ty := .int) (by decide)
    have F151 : Fld Z h147 b147 s1_ s5_ "Z" (.int 0) := D147 (Or.inl (oW hw 406 rfl)) (ty := .boolean) (by decide)
    have pre_152 : Pr p e below E0 T147 (mkF m 4 #[vr a1, vr s1, vr s2, vr s3] [(.ref b147), (.ref a1)]) := fun t k => pre_146 t (st147 t k)
    have v_153 := (Nat.le_trans (own_le O0) gl147)
    have pre_154 := fun t k => pre_152 t <| XS.dup X147.here hx rfl (hb hby k_1051) rfl rfl <| k
    obtain ⟨T155, _, L155, X155, ⟨rfl, N155q, K155, b155, kN155, sb155, Fv155, Fd155, Fk155, Fm155, Vb155⟩, pre_155⟩ := cI pre_154 K X147 e147 (rm_bin l Z a0 hw b147 G1 h147 n0 O147 A147 v_153 F148 F149 F150 F151 SC hG) (oW hw 19 rfl) (oW hw 20 rfl) (oW hw 18 rfl) (oW hw 21 rfl) rfl (lenOf d_24 rfl) k_1052 rfl rfl rfl (W := 2) (Nat.le_of_eq rfl) (by decide) rfl
    have N155 := Fr.app (Fr.nil n0) N155q
    have O155 : Old Z n0 T155.heap := O147.keep K155 (allS v_153 all0)
    have x_156 := (Nat.ne_of_lt (Nat.lt_of_lt_of_le Ex7.lt gl147))
    have x_157 := (Nat.ne_of_lt (Nat.lt_of_lt_of_le Vl7.lt gl147))
    have v_158 := (Nat.le_trans (own_le O147) sb155)
    have x_159 := (Nat.ne_of_lt (Nat.lt_of_lt_of_le (Vl7.ext E147).lt sb155))
    have pre_160 := fun t k => pre_155 t <| ldcAgain (vm0 := s.vm) X155 hx hZ hown (oW hw 176 rfl) (hPV.1 : Lit (s.setVm s.vm) s7_ 7 a7) (g := (mkF m 8 #[vr a1, vr s1, vr s2, vr s3] [(.ref b147), (.ref a1)])) rfl (hb hby k_1053) _ <| k
    obtain ⟨T161, _, L161, X161, ⟨rfl, N161q, K161, b161, kN161, sb161, Fv161, Fd161, Fk161, Fm161, Vb161⟩, pre_161⟩ := cV pre_160 K X155 rfl (rm_bapg16 l Z a0 hw b147 a7 G1 (24 : Int32) b7 k7 (own_L24.map Value.int) (0 : Int32) b155 kN155 [] (24 : Int32) (24 : Int32) (0 : Int32) T155.heap n0 O155 (A147.keep K155) v_153 Fv155 Fd155 Fk155 Fm155 Vb155 v_158 ((Ex7.ext E147).keep K155) ((Fc7.ext E147).keep K155 (ninS x_156 nin0)) ((Fv7.ext E147).keep K155 (ninS x_156 nin0)) ((Vl7.ext E147).keep K155 (ninS x_157 nin0)) SC hG x_159 (by decide) (by decide) (by decide) (by decide) (by decide) (by decide) (by simp only [List.length_append, List.length_map, List.length_cons, List.length_nil, own_l24, own_l39, own_l23, own_l28, own_infl, own_ul] <;> decide) (by simp only [List.length_append, List.length_map, List.length_cons, List.length_nil, own_l24, own_l39, own_l23, own_l28, own_infl, own_ul] <;> decide) (by decide) (by decide) (by decide) (by simp only [List.length_append, List.length_map, List.length_cons, List.length_nil, own_l24, own_l39, own_l23, own_l28, own_infl, own_ul] <;> decide)) (oW hw 71 rfl) (oW hw 73 rfl) (oW hw 18 rfl) (oW hw 75 rfl) (oW hw 72 rfl) (oW hw 74 rfl) (notFace_of_selects (args := #[]) (mvT hZ (oW hw 74 rfl))) (A147.keep K155) rfl (lenOf d_43 rfl) k_1054 rfl rfl rfl (W := 1) (Nat.le_of_eq rfl) (by decide)
    have N161 := Fr.app N155 N161q
    have O161 : Old Z n0 T161.heap := O155.keep K161 (allS v_153 all0)
    have x_162 := (Nat.ne_of_lt (Nat.lt_of_lt_of_le Es1.lt gl147))
    have f_163 := (((Fvx.ext E147).keep K155 (ninS x_162 nin0)).keep K161 (ninS x_162 nin0))
    have x_164 := (Nat.ne_of_lt (Nat.lt_of_lt_of_le Vx.lt gl147))
    have f_165 := (((Vx.ext E147).keep K155 (ninS x_164 nin0)).keep K161 (ninS x_164 nin0))
    have v_166 := (Nat.le_trans (own_le O155) sb161)
    have f_167 := (((Fcx.ext E147).keep K155 (ninS x_162 nin0)).keep K161 (ninS x_162 nin0))
    have pre_168 := fun t k => pre_161 t <| oA K X161 k_1055 rfl rfl rfl <| k
    obtain ⟨T169, _, L169, X169, ⟨rfl, N169q, K169, b169, kN169, sb169, Fv169, Fd169, Fk169, Fm169, Vb169⟩, pre_169⟩ := cV pre_168 K X161 rfl (rm_bapi l Z a0 hw b147 s1 G1 bx kx (own_u [e0, e1]) b161 kN161 own_L24 w1 T161.heap n0 O161 ((A147.keep K155).keep K161) v_153 Fv161 Fd161 Fk161 Fm161 Vb161 v_166 SC hG SF hr SU1 SU2 SU3 own_l24 (((Es1.ext E147).keep K155).keep K161) f_167 f_163 f_165 (by rw [own_ul]; rfl)) (oW hw 71 rfl) (oW hw 73 rfl) (oW hw 18 rfl) (oW hw 75 rfl) (oW hw 72 rfl) (oW hw 74 rfl) (notFace_of_selects (args := #[]) (mvT hZ (oW hw 74 rfl))) ((A147.keep K155).keep K161) rfl (lenOf d_43 rfl) k_1056 rfl rfl rfl (W := 1) (Nat.le_of_eq rfl) (by decide)
    have N169 := Fr.app N161 N169q
    have O169 : Old Z n0 T169.heap := O161.keep K169 (allS v_153 all0)
    have x_170 := (Nat.ne_of_lt (Nat.lt_of_lt_of_le Ex13.lt gl147))
    have f_171 := ((((Fv13.ext E147).keep K155 (ninS x_170 nin0)).keep K161 (ninS x_170 nin0)).keep K169 (ninS x_170 nin0))
    have x_172 := (Nat.ne_of_lt (Nat.lt_of_lt_of_le Vl13.lt gl147))
    have f_173 := ((((Vl13.ext E147).keep K155 (ninS x_172 nin0)).keep K161 (ninS x_172 nin0)).keep K169 (ninS x_172 nin0))
    have v_174 := (Nat.le_trans (own_le O161) sb169)
    have f_175 := ((((Ex13.ext E147).keep K155).keep K161).keep K169)
    have f_176 := ((((Fc13.ext E147).keep K155 (ninS x_170 nin0)).keep K161 (ninS x_170 nin0)).keep K169 (ninS x_170 nin0))
    have x_177 := (Nat.ne_of_lt (Nat.lt_of_lt_of_le (((Vl13.ext E147).keep K155 (ninS x_172 nin0)).keep K161 (ninS x_172 nin0)).lt sb169))
    have pre_178 := fun t k => pre_169 t <| ldcAgain (vm0 := s.vm) X169 hx hZ hown (oW hw 177 rfl) (hPV.2.1 : Lit (s.setVm s.vm) s7_ 13 a13) (g := (mkF m 17 #[vr a1, vr s1, vr s2, vr s3] [(.ref b147), (.ref a1)])) rfl (hb hby k_1057) _ <| k
    obtain ⟨T179, _, L179, X179, ⟨rfl, N179q, K179, b179, kN179, sb179, Fv179, Fd179, Fk179, Fm179, Vb179⟩, pre_179⟩ := cV pre_178 K X169 rfl (rm_bapx68 l Z a0 hw b147 a13 G1 (39 : Int32) b13 k13 own_L39 (26 : Int32) b169 kN169 (own_inf own_L24 ++ (own_u [e0, e1])) (65 : Int32) 26 140 (70 : Int32) w1 T169.heap n0 O169 (((A147.keep K155).keep K161).keep K169) v_153 Fv169 Fd169 Fk169 Fm169 Vb169 v_174 f_175 f_176 f_171 f_173 SC hG x_177 (by decide) (by decide) rfl (by rw [own_l39]; rfl) rfl (by simp only [List.length_append, List.length_map, List.length_cons, List.length_nil, own_l24, own_l39, own_l23, own_l28, own_infl, own_ul] <;> decide) (by rw [own_l39]; decide) (by decide) (by decide) SF hr (by decide) (by decide) SU1 SU2 SU3 (by decide) (by decide) (by simp only [List.length_append, List.length_map, List.length_cons, List.length_nil, own_l24, own_l39, own_l23, own_l28, own_infl, own_ul] <;> decide)) (oW hw 71 rfl) (oW hw 73 rfl) (oW hw 18 rfl) (oW hw 75 rfl) (oW hw 72 rfl) (oW hw 74 rfl) (notFace_of_selects (args := #[]) (mvT hZ (oW hw 74 rfl))) (((A147.keep K155).keep K161).keep K169) rfl (lenOf d_43 rfl) k_1058 rfl rfl rfl (W := 1) (Nat.le_of_eq rfl) (by decide)
    have N179 := Fr.app N169 N179q
    have O179 : Old Z n0 T179.heap := O169.keep K179 (allS v_153 all0)
    have f_180 := (((((Es2.ext E147).keep K155).keep K161).keep K169).keep K179)
    have x_181 := (Nat.ne_of_lt (Nat.lt_of_lt_of_le Es2.lt gl147))
    have x_182 := (Nat.ne_of_lt (Nat.lt_of_lt_of_le HM2.lt gl147))
    have f_183 := (((((HM2.ext E147).keep K155 (ninS x_181 nin0) (ninS x_182 nin0)).keep K161 (ninS x_181 nin0) (ninS x_182 nin0)).keep K169 (ninS x_181 nin0) (ninS x_182 nin0)).keep K179 (ninS x_181 nin0) (ninS x_182 nin0))
    have pre_184 := fun t k => pre_179 t <| oA K X179 k_1059 rfl rfl rfl <| XS.iconst X179.here hx rfl (hb hby k_1060) <| oA K X179 k_1061 rfl rfl rfl <| k
    obtain ⟨T185, _, L185, X185, ⟨rfl, N185q, e185⟩, pre_185⟩ := cV pre_184 K X179 rfl (rm_lnm l Z a0 hw s2 G1 bi ki [c0, c1] T179.heap n0 O179 f_180 f_183 (by simp) SC hG) (oW hw 178 rfl) (oW hw 82 rfl) (oW hw 1 rfl) (oW hw 84 rfl) (oW hw 81 rfl) (oW hw 83 rfl) (notFace_of_selects (args := #[]) (mvT hZ (oW hw 83 rfl))) f_180 rfl (lenOf d_8 rfl) k_1062 rfl rfl rfl (W := 4) (Nat.le_of_eq rfl) (by decide)
    have N185 := Fr.app N179 N185q
    obtain ⟨T186, _, L186, X186, ⟨rfl, N186q, e186⟩, pre_186⟩ := cV pre_185 K X185 e185 (rm_cpc l Z a0 hw s2 G1 bi ki c0 c1 T179.heap n0 O179 f_180 f_183 hr0 hr1 SC hG SU1 SU2 SU3) (oW hw 179 rfl) (oW hw 181 rfl) (oW hw 1 rfl) (oW hw 183 rfl) (oW hw 180 rfl) (oW hw 182 rfl) (notFace_of_selects (args := #[]) (mvT hZ (oW hw 182 rfl))) f_180 rfl (lenOf d_2 rfl) k_1063 rfl rfl rfl (W := 2) (Nat.le_of_eq rfl) (by decide)
    have N186 := Fr.app N185 N186q
    have f_187 := ((((A147.keep K155).keep K161).keep K169).keep K179)
    have v_188 := (Nat.le_trans (own_le O169) sb179)
    obtain ⟨T189, _, L189, X189, ⟨rfl, N189q, K189, Fv189, Fd189, Fk189, Fm189, Vb189⟩, pre_189⟩ := cV pre_186 K X186 e186 (rm_bai1 l Z a0 hw b147 (own_cp c0 c1) G1 b179 kN179 ((own_inf own_L24 ++ (own_u [e0, e1])) ++ own_inf own_L39) aO kO w1 T179.heap n0 O179 f_187 v_153 Fv179 Fd179 Fk179 Fm179 Vb179 v_188 SC hG hcp SD1 VO (by simp only [List.length_append, List.length_map, List.length_cons, List.length_nil, own_l24, own_l39, own_l23, own_l28, own_infl, own_ul] <;> decide) SU1 SU2 SU3 SF hr) (oW hw 198 rfl) (oW hw 200 rfl) (oW hw 18 rfl) (oW hw 202 rfl) (oW hw 199 rfl) (oW hw 201 rfl) (notFace_of_selects (args := #[]) (mvT hZ (oW hw 201 rfl))) f_187 rfl (lenOf d_44 rfl) k_1064 rfl rfl rfl (W := 1) (Nat.le_of_eq rfl) (by decide)
    have N189 := Fr.app N186 N189q
    have O189 : Old Z n0 T189.heap := O179.keep K189 (allS v_153 (allS v_188 all0))
    have x_190 := (Nat.ne_of_lt (Nat.lt_of_lt_of_le Ex28.lt gl147))
    have x_191 := (Nat.ne_of_lt (Nat.lt_of_lt_of_le ((((Ex28.ext E147).keep K155).keep K161).keep K169).lt sb179))
    have f_192 := ((((((Fv28.ext E147).keep K155 (ninS x_190 nin0)).keep K161 (ninS x_190 nin0)).keep K169 (ninS x_190 nin0)).keep K179 (ninS x_190 nin0)).keep K189 (ninS x_190 (ninS x_191 nin0)))
    have x_193 := (Nat.ne_of_lt (Nat.lt_of_lt_of_le Vl28.lt gl147))
    have x_194 := (Nat.ne_of_lt (Nat.lt_of_lt_of_le ((((Vl28.ext E147).keep K155 (ninS x_193 nin0)).keep K161 (ninS x_193 nin0)).keep K169 (ninS x_193 nin0)).lt sb179))
    have f_195 := ((((((Vl28.ext E147).keep K155 (ninS x_193 nin0)).keep K161 (ninS x_193 nin0)).keep K169 (ninS x_193 nin0)).keep K179 (ninS x_193 nin0)).keep K189 (ninS x_193 (ninS x_194 nin0)))
    have f_196 := ((((((Ex28.ext E147).keep K155).keep K161).keep K169).keep K179).keep K189)
    have f_197 := ((((((Fc28.ext E147).keep K155 (ninS x_190 nin0)).keep K161 (ninS x_190 nin0)).keep K169 (ninS x_190 nin0)).keep K179 (ninS x_190 nin0)).keep K189 (ninS x_190 (ninS x_191 nin0)))
    have pre_198 : Pr p e below E0 T189 (mkF m 36 #[vr a1, vr s1, vr s2, vr s3] [(.ref a28), (.ref b147), (.ref a1)]) := fun t k => pre_189 t <| ldcAgain (vm0 := s.vm) X189 hx hZ hown (oW hw 214 rfl) (hPV.2.2 : Lit (s.setVm s.vm) s7_ 28 a28) (g := (mkF m 34 #[vr a1, vr s1, vr s2, vr s3] [(.ref b147), (.ref a1)])) rfl (hb hby k_1065) _ <| k
    obtain ⟨T199, _, L199, X199, ⟨rfl, N199q, K199, b199, kN199, sb199, Fv199, Fd199, Fk199, Fm199, Vb199⟩, pre_199⟩ := cV pre_198 K X189 rfl (rm_bapx140 l Z a0 hw b147 a28 G1 (23 : Int32) b28 k28 own_L23 (66 : Int32) b179 kN179 (((own_inf own_L24 ++ (own_u [e0, e1])) ++ own_inf own_L39) ++ [(.int (own_lo (own_o (own_cp c0 c1)))), (.int (own_hi (own_o (own_cp c0 c1))))]) (89 : Int32) 66 284 (142 : Int32) w1 T189.heap n0 O189 (f_187.keep K189) v_153 Fv189 Fd189 Fk189 Fm189 Vb189 v_188 f_196 f_197 f_192 f_195 SC hG x_194 (by decide) (by decide) rfl (by rw [own_l23]; rfl) rfl (by simp only [List.length_append, List.length_map, List.length_cons, List.length_nil, own_l24, own_l39, own_l23, own_l28, own_infl, own_ul] <;> decide) (by rw [own_l23]; decide) (by decide) (by decide) SF hr (by decide) (by decide) SU1 SU2 SU3 (by decide) (by decide) (by simp only [List.length_append, List.length_map, List.length_cons, List.length_nil, own_l24, own_l39, own_l23, own_l28, own_infl, own_ul] <;> decide)) (oW hw 71 rfl) (oW hw 73 rfl) (oW hw 18 rfl) (oW hw 75 rfl) (oW hw 72 rfl) (oW hw 74 rfl) (notFace_of_selects (args := #[]) (mvT hZ (oW hw 74 rfl))) (f_187.keep K189) rfl (lenOf d_43 rfl) k_1066 rfl rfl rfl (W := 1) (Nat.le_of_eq rfl) (by decide)
    have N199 := Fr.app N189 N199q
    have O199 : Old Z n0 T199.heap := O189.keep K199 (allS v_153 all0)
    have x_200 := (Nat.ne_of_lt (Nat.lt_of_lt_of_le Es3.lt gl147))
    have x_201 := (Nat.ne_of_lt (Nat.lt_of_lt_of_le ((((Es3.ext E147).keep K155).keep K161).keep K169).lt sb179))
    have f_202 := (((((((Fv3.ext E147).keep K155 (ninS x_200 nin0)).keep K161 (ninS x_200 nin0)).keep K169 (ninS x_200 nin0)).keep K179 (ninS x_200 nin0)).keep K189 (ninS x_200 (ninS x_201 nin0))).keep K199 (ninS x_200 nin0))
    have x_203 := (Nat.ne_of_lt (Nat.lt_of_lt_of_le Vl3.lt gl147))
    have x_204 := (Nat.ne_of_lt (Nat.lt_of_lt_of_le ((((Vl3.ext E147).keep K155 (ninS x_203 nin0)).keep K161 (ninS x_203 nin0)).keep K169 (ninS x_203 nin0)).lt sb179))
    have f_205 := (((((((Vl3.ext E147).keep K155 (ninS x_203 nin0)).keep K161 (ninS x_203 nin0)).keep K169 (ninS x_203 nin0)).keep K179 (ninS x_203 nin0)).keep K189 (ninS x_203 (ninS x_204 nin0))).keep K199 (ninS x_203 nin0))
    have v_206 := (Nat.le_trans (own_le O189) sb199)
    have f_207 := (((((((Es3.ext E147).keep K155).keep K161).keep K169).keep K179).keep K189).keep K199)
    have f_208 := (((((((Fc3.ext E147).keep K155 (ninS x_200 nin0)).keep K161 (ninS x_200 nin0)).keep K169 (ninS x_200 nin0)).keep K179 (ninS x_200 nin0)).keep K189 (ninS x_200 (ninS x_201 nin0))).keep K199 (ninS x_200 nin0))
    have x_209 := (Nat.ne_of_lt (Nat.lt_of_lt_of_le ((((((Vl3.ext E147).keep K155 (ninS x_203 nin0)).keep K161 (ninS x_203 nin0)).keep K169 (ninS x_203 nin0)).keep K179 (ninS x_203 nin0)).keep K189 (ninS x_203 (ninS x_204 nin0))).lt sb199))
    have pre_210 := fun t k => pre_199 t <| oA K X199 k_1067 rfl rfl rfl <| k
    obtain ⟨T211, _, L211, X211, ⟨rfl, N211q, K211, Fv211, Fd211, Fk211, Fm211, Vb211⟩, pre_211⟩ := cV pre_210 K X199 rfl (rm_bapxn l Z a0 hw b147 s3 G1 n3 bl kl lim (89 : Int32) b199 kN199 ((((own_inf own_L24 ++ (own_u [e0, e1])) ++ own_inf own_L39) ++ [(.int (own_lo (own_o (own_cp c0 c1)))), (.int (own_hi (own_o (own_cp c0 c1))))]) ++ own_inf own_L23) ((89 : Int32) + n3) 89 284 (142 : Int32) w1 (284 : Int32) T199.heap n0 O199 ((f_187.keep K189).keep K199) v_153 Fv199 Fd199 Fk199 Fm199 Vb199 v_206 f_207 f_208 f_202 f_205 SC hG x_209 (own_sh0 _) rfl rfl (hlm.2.2.1.1.trans (congrArg Int32.ofNat (hll.symm.trans (List.length_map _)))) rfl (by simp only [List.length_append, List.length_map, List.length_cons, List.length_nil, own_l24, own_l39, own_l23, own_l28, own_infl, own_ul] <;> decide) (by have q := hlm.2.2.1.2.1; rw [← hll, List.length_map] at q; exact q) (by decide) (by decide) SF hr hlm.2.2.1.2.2.1 hlm.2.2.1.2.2.2.1 SU1 SU2 SU3 hlm.2.2.1.2.2.2.2) (oW hw 71 rfl) (oW hw 73 rfl) (oW hw 18 rfl) (oW hw 75 rfl) (oW hw 72 rfl) (oW hw 74 rfl) (notFace_of_selects (args := #[]) (mvT hZ (oW hw 74 rfl))) ((f_187.keep K189).keep K199) rfl (lenOf d_43 rfl) k_1068 rfl rfl rfl (W := 1) (Nat.le_of_eq rfl) (by decide)
    have N211 := Fr.app N199 N211q
    have O211 : Old Z n0 T211.heap := O199.keep K211 (allS v_153 (allS v_206 all0))
    have hvl : List.length (α := Value) ((((((own_inf own_L24 ++ (own_u [e0, e1])) ++ own_inf own_L39) ++ [(.int (own_lo (own_o (own_cp c0 c1)))), (.int (own_hi (own_o (own_cp c0 c1))))]) ++ own_inf own_L23) ++ own_inf lim)) = ((((89 : Int32) + n3) <<< ((1 : Int32) &&& 31))).toNatClampNeg := by rw [hlm.2.2.2.2.2.2.2.1, ← hll, own_v1 hcp hasc, own_ul, List.length_map, own_msll]
    obtain ⟨T212, _, L212, X212, ⟨m212, rfl, N212q, K212, sm212, Em212, Fc212, b212, kN212, sb212, Fv212, Vb212⟩, pre_212⟩ := cV pre_211 K X211 rfl (rm_tos1 l Z a0 hw b147 G1 (284 : Int32) (((89 : Int32) + n3) <<< ((1 : Int32) &&& 31)) ((89 : Int32) + n3) b199 kN199 (((((own_inf own_L24 ++ (own_u [e0, e1])) ++ own_inf own_L39) ++ [(.int (own_lo (own_o (own_cp c0 c1)))), (.int (own_hi (own_o (own_cp c0 c1))))]) ++ own_inf own_L23) ++ own_inf lim) T211.heap n0 O211 (((f_187.keep K189).keep K199).keep K211) Fv211 Fd211 Fk211 Fm211 Vb211 SC hG hlm.2.2.2.1 hlm.2.2.2.2.1 hlm.2.2.2.2.2.1 hlm.2.2.2.2.2.2.1 hvl rfl) (oW hw 136 rfl) (oW hw 138 rfl) (oW hw 18 rfl) (oW hw 140 rfl) (oW hw 137 rfl) (oW hw 139 rfl) (notFace_of_selects (args := #[]) (mvT hZ (oW hw 139 rfl))) (((f_187.keep K189).keep K199).keep K211) rfl (lenOf d_45 rfl) k_1069 rfl rfl rfl (W := 1) (Nat.le_of_eq rfl) (by decide)
    have N212 := Fr.app N211 N212q
    have O212 : Old Z n0 T212.heap := O211.keep K212 all0
    have u_214 := (((Keep.refl h0 []).ext E147).trans K155 (allS (Or.inr (Nat.le_trans (Keep.refl h0 []).1 gl147)) all0))
    have u_215 := ((u_214.trans K161 (allS (Or.inr (Nat.le_trans (Keep.refl h0 []).1 gl147)) all0)).trans K169 (allS (Or.inr (Nat.le_trans (Keep.refl h0 []).1 gl147)) all0))
    have u_216 := ((u_215.trans K179 (allS (Or.inr (Nat.le_trans (Keep.refl h0 []).1 gl147)) all0)).trans K189 (allS (Or.inr (Nat.le_trans (Keep.refl h0 []).1 gl147)) (allS (Or.inr (Nat.le_trans u_215.1 sb179)) all0)))
    have u_217 := ((u_216.trans K199 (allS (Or.inr (Nat.le_trans (Keep.refl h0 []).1 gl147)) all0)).trans K211 (allS (Or.inr (Nat.le_trans (Keep.refl h0 []).1 gl147)) (allS (Or.inr (Nat.le_trans u_216.1 sb199)) all0)))
    have Xr213 := own_reb0 X212 (fun b cl q => own_kp0 hh (u_217.trans K212 all0) q)
    have f_219 := (((((((((E1.ext E147).keep K155).keep K161).keep K169).keep K179).keep K189).keep K199).keep K211).keep K212)
    have x_220 := (Nat.ne_of_lt (Nat.lt_of_lt_of_le E1.lt gl147))
    have x_221 := (Nat.ne_of_lt (Nat.lt_of_lt_of_le ((((E1.ext E147).keep K155).keep K161).keep K169).lt sb179))
    have x_222 := (Nat.ne_of_lt (Nat.lt_of_lt_of_le ((((((E1.ext E147).keep K155).keep K161).keep K169).keep K179).keep K189).lt sb199))
    have f_223 := (((((((((B1.ext E147).keep K155 (ninS x_220 nin0)).keep K161 (ninS x_220 nin0)).keep K169 (ninS x_220 nin0)).keep K179 (ninS x_220 nin0)).keep K189 (ninS x_220 (ninS x_221 nin0))).keep K199 (ninS x_220 nin0)).keep K211 (ninS x_220 (ninS x_222 nin0))).keep K212 nin0)
    have f_224 := (((((((((B2.ext E147).keep K155 (ninS x_220 nin0)).keep K161 (ninS x_220 nin0)).keep K169 (ninS x_220 nin0)).keep K179 (ninS x_220 nin0)).keep K189 (ninS x_220 (ninS x_221 nin0))).keep K199 (ninS x_220 nin0)).keep K211 (ninS x_220 (ninS x_222 nin0))).keep K212 nin0)
    obtain ⟨T218, h218, X218, e218, Kp218, Ex218, Fm218, st218⟩ := own_excL1 Xr213 hx hl hZ hown (ic := 34) (oW hw 215 rfl) hw hTW O212.2 (Vm.MethodsKnown.alikeC ((State.WarmedH.refl s).since 0).1.alike hTK) (Vm.FramesKnown.alikeC ((State.WarmedH.refl s).since 0).1.alike hBelow) rfl f_219 (Unt.keep (u_217.trans K212 all0) nin0 U1) f_223 f_224 (g := (mkF m 46 #[vr a1, vr s1, vr s2, vr s3] [(.ref m212), (.ref a1)])) rfl (by rw [hml]; rfl) (rest := []) rfl (hb hby k_1070) (by decide) (by show 2 * 0 + 0 + 84 ≤ _; decide) (by decide) (by decide)
    have N218 := Fr.six (Z := Z) (Fr.nil n0) g1
    have K218 := keep_of_kp Kp218
    have O218 : Old Z n0 h218 := O212.keep K218 (allS g1 all0)
    have pre_225 : Pr p e below E0 T218 (mkF m 49 #[vr a1, vr s1, vr s2, vr s3] []) := fun t k => pre_212 t (st218 t k)
    have x_226 := (Ne.symm (Nat.ne_of_lt (Nat.lt_of_lt_of_le ((((((((E1.ext E147).keep K155).keep K161).keep K169).keep K179).keep K189).keep K199).keep K211).lt sm212)))
    have x_227 := (Ne.symm (Nat.ne_of_lt (Nat.lt_of_lt_of_le ((((((((E1.ext E147).keep K155).keep K161).keep K169).keep K179).keep K189).keep K199).keep K211).lt sb212)))
    have u_228 := (((Keep.refl h0 [a1]).ext E147).trans K155 (allS (Or.inr (Nat.le_trans (Keep.refl h0 [a1]).1 gl147)) all0))
    have u_229 := ((u_228.trans K161 (allS (Or.inr (Nat.le_trans (Keep.refl h0 [a1]).1 gl147)) all0)).trans K169 (allS (Or.inr (Nat.le_trans (Keep.refl h0 [a1]).1 gl147)) all0))
    have u_230 := ((u_229.trans K179 (allS (Or.inr (Nat.le_trans (Keep.refl h0 [a1]).1 gl147)) all0)).trans K189 (allS (Or.inr (Nat.le_trans (Keep.refl h0 [a1]).1 gl147)) (allS (Or.inr (Nat.le_trans u_229.1 sb179)) all0)))
    have u_231 := ((u_230.trans K199 (allS (Or.inr (Nat.le_trans (Keep.refl h0 [a1]).1 gl147)) all0)).trans K211 (allS (Or.inr (Nat.le_trans (Keep.refl h0 [a1]).1 gl147)) (allS (Or.inr (Nat.le_trans u_230.1 sb199)) all0)))
    have u_232 := ((u_231.trans K212 all0).trans K218 (allS (Or.inl (List.mem_of_getElem? (i := 0) rfl)) all0))
    obtain ⟨fs, hr, hrun, hended, hEnd⟩ := X218.leaveW ((State.WarmedH.refl s).since 0) (by rw [e218]; exact (Nat.le_trans (Nat.zero_le _) (Nat.le_trans (Nat.le_trans (Nat.le_trans (Nat.le_trans (Nat.le_trans (Nat.le_trans (Nat.le_trans (Nat.le_trans (Nat.le_trans (Nat.le_trans (Nat.le_refl _) E147.1) K155.1) K161.1) K169.1) K179.1) K189.1) K199.1) K211.1) K212.1) K218.1))) (v := none) (fun _ => rfl)
    refine ⟨_, _, pre_225 _ ?_, hrun, hended, _, _, rfl, ?_, hEnd.1, hEnd.2.1, hEnd.2.2.1, hEnd.2.2.2.mono (by decide) (by decide)⟩
    · show Sp p e below T218 (mkF m 49 #[vr a1, vr s1, vr s2, vr s3] []) _
      exact X218.returnOut hx hret (hb hby k_1071) hr
    · show P _ T218.vm T218.heap _
      rw [e218]
      exact hP _ _ _ _ ⟨rfl, N218, u_232, m212, b212, kN212, (Nat.le_trans u_231.1 sm212), Fm218, (Em212.keep K218), ⟨(Fv212.keep K218 (ninS x_226 nin0)), Or.inr ⟨(Fc212.keep K218 (ninS x_226 nin0)), own_arvE (Vb212.keep K218 (ninS x_227 nin0)) (hlm.2.2.2.2.2.2.2.2.trans (congrArg Int32.ofNat (by rw [own_msll, ← hll, List.length_map]))) (own_v1 hcp hasc)⟩⟩⟩
theorem rm_ofmA (hw : Hw a0 Z) (s1 : Addr) (s2 : Addr) (p3 : Int32) (G1 : Int32) (w1 : Value) (bx : Addr) (kx : ClassId) (e0 e1 : Int32) (bi : Addr) (ki : ClassId) (c0 c1 n1 : Int32) (aO : Addr) (kO : ClassId) (aT : Addr) (kT : ClassId) (h0 : Heap) (n0 : Nat) (O0 : Old Z n0 h0) (SC : Sta Z Z.heap s2_ s6_ "Z" (.int G1)) (hG : ¬ G1 = (0 : Int32)) (SF : Sta Z Z.heap s8_ s12_ s13_ w1) (hr : w1.isRef = true) (SU1 : Sta Z Z.heap s3_ s9_ "Z" (.int 1)) (SU2 : Sta Z Z.heap s3_ s10_ "I" (.int 0)) (SU3 : Sta Z Z.heap s3_ s11_ "I" (.int 8)) (SD1 : Sta Z Z.heap s14_ "DigitOnes" "[B" (.ref aO)) (VO : Arv Z Z.heap aO kO .byte (100 : Int32) own_ones (.int 0)) (SD2 : Sta Z Z.heap s14_ "DigitTens" "[B" (.ref aT)) (VT : Arv Z Z.heap aT kT .byte (100 : Int32) own_tens (.int 0)) (Es1 : Exa Z h0 s1 s2_) (Fvx : Fld Z h0 s1 s2_ "value" "[B" (.ref bx)) (Fcx : Fld Z h0 s1 s2_ "coder" "B" (.int 0)) (Vx : Arv Z h0 bx kx .byte (2 : Int32) ([e0, e1].map own_b) (.int 0)) (hsm : ∀ c ∈ [e0, e1], 0 ≤ c.toInt ∧ c.toInt < 256) (Es2 : Exa Z h0 s2 s2_) (HM2 : own_M Z h0 s2 bi ki [c0, c1]) (hr0 : 0 ≤ c0.toInt ∧ c0.toInt < 65536) (hr1 : 0 ≤ c1.toInt ∧ c1.toInt < 65536) (hnE : n1 = (p3 >>> ((18 : Int32) &&& 31))) (hl : l.stackTraces = true) (hTW : ∀ d ∈ twoRefs, d.before a0 Z = true) (hH7 : Jvm.Lit.constHeld Z s7_ 7) (hH13 : Jvm.Lit.constHeld Z s7_ 13) (hH28 : Jvm.Lit.constHeld Z s7_ 28) (hH48 : Jvm.Lit.constHeld Z s7_ 48) (hCW : Jvm.Lit.compactW.before a0 Z = true) : MetW l Z y_72 c_72 3 (some (.object s7_)) [] (Rm 11 26 8600 240) #[(.ref s1), (.ref s2), (.int p3)] h0 (fun vm => IB Z vm ["xy", "ab"]) (fun v vm h L => ∃ x m b k, v = some (.ref x) ∧ Fr n0 L ∧ Keep h0 h [] ∧ h0.size ≤ x ∧ h0.size ≤ m ∧ Exa Z h x s7_ ∧ Fld Z h x s15_ "detailMessage" "Ljava/lang/String;" (.ref m) ∧ Exa Z h m s2_ ∧ own_L0 Z h m b k (own_msg e0 e1 (own_cp c0 c1) n1) ∧ IB Z vm [" characters within the ", "\" cannot be matched against a value of ", "the regular expression \"", " MiB that one match may take", "xy", "ab"] ∧ ∃ (a7 b7 : Addr) (k7 : ClassId) (a13 b13 : Addr) (k13 : ClassId) (a28 b28 : Addr) (k28 : ClassId) (a48 b48 : Addr) (k48 : ClassId), Exa Z h a7 s2_ ∧ Fld Z h a7 s2_ "coder" "B" (.int 0) ∧ Fld Z h a7 s2_ "value" "[B" (.ref b7) ∧ Arv Z h b7 k7 .byte (24 : Int32) (own_L24.map Value.int) (.int 0) ∧ Lit (Z.setVm vm) s7_ 7 a7 ∧ Exa Z h a13 s2_ ∧ Fld Z h a13 s2_ "coder" "B" (.int 0) ∧ Fld Z h a13 s2_ "value" "[B" (.ref b13) ∧ Arv Z h b13 k13 .byte (39 : Int32) (own_L39.map Value.int) (.int 0) ∧ Lit (Z.setVm vm) s7_ 13 a13 ∧ Exa Z h a28 s2_ ∧ Fld Z h a28 s2_ "coder" "B" (.int 0) ∧ Fld Z h a28 s2_ "value" "[B" (.ref b28) ∧ Arv Z h b28 k28 .byte (23 : Int32) (own_L23.map Value.int) (.int 0) ∧ Lit (Z.setVm vm) s7_ 28 a28 ∧ Exa Z h a48 s2_ ∧ Fld Z h a48 s2_ "coder" "B" (.int 0) ∧ Fld Z h a48 s2_ "value" "[B" (.ref b48) ∧ Arv Z h b48 k48 .byte (28 : Int32) (own_L28.map Value.int) (.int 0) ∧ Lit (Z.setVm vm) s7_ 48 a48) := by
  refine own_metW (own := s7_) (G := fun m => (mkF m 0 #[vr s1, vr s2, vi p3] [])) rfl n_72 ?_
  intro p e s m below meth c s₁ E0 P hP K hnm hret hlk hh hPV hK X0 eH pre0
  obtain ⟨hx, hZ, hown, hby, hml⟩ := id K
  obtain ⟨hTK, hBelow⟩ := hK
  have hn := own_nr hnE
  have hj := own_j hn
  have h5 := hj.2.2.2.2.2.2.1
  have hl3 := own_l3 h5
  have hasc := own_ascA (own_adig hn) own_a28
  have hll : ((own_dig n1 ++ own_L28).map Value.int).length = ((own_len n1) + (28 : Int32)).toNatClampNeg := by rw [hj.2.2.2.2.2.2.2, List.length_map, List.length_append]; rfl
  obtain ⟨T51, h51, X51, e51, E51, A51, D51, U51, st51⟩ := newO X0 hx hZ hown (oW hw 14 rfl) (oW hw 15 rfl) (oW hw 12 rfl) eH (g := (mkF m 0 #[vr s1, vr s2, vi p3] [])) rfl (hb hby k_1072) (by decide) (by decide)
  obtain ⟨b51, g51⟩ : ∃ z, z = h0.size := ⟨_, rfl⟩
  rw [← g51] at A51 D51 U51 st51
  have O51 : Old Z n0 h51 := O0.ext E51
  have gl51 := Nat.le_of_eq g51.symm
  have F52 : Fld Z h51 b51 s15_ "cause" "Ljava/lang/Throwable;" .null := D51 (Or.inl (oW hw 234 rfl)) (ty := (.object s15_)) (by decide)
  have F53 : Fld Z h51 b51 s15_ "stackTrace" "[Ljava/lang/StackTraceElement;" .null := D51 (Or.inl (oW hw 237 rfl)) (ty := (.array (.object "java/lang/StackTraceElement"))) (by decide)
  have F54 : Fld Z h51 b51 s15_ "suppressedExceptions" "Ljava/util/List;" .null := D51 (Or.inl (oW hw 240 rfl)) (ty := (.object "java/util/List")) (by decide)
  have F55 : Fld Z h51 b51 s15_ "detailMessage" "Ljava/lang/String;" .null := D51 (Or.inl (oW hw 264 rfl)) (ty := (.object s2_)) (by decide)
  have F56 : Fld Z h51 b51 s15_ "backtrace" "Ljava/lang/Object;" .null := D51 (Or.inl (oW hw 265 rfl)) (ty := (.object "java/lang/Object")) (by decide)
  have F57 : Fld Z h51 b51 s15_ "depth" "I" (.int 0) := D51 (Or.inl (oW hw 266 rfl)) (ty := .int) (by decide)
  have pre_58 : Pr p e below E0 T51 (mkF m 3 #[vr s1, vr s2, vi p3] [(.ref b51)]) := fun t k => pre0 t (st51 t k)
  have pre_59 := fun t k => pre_58 t <| XS.dup X51.here hx rfl (hb hby k_1073) rfl rfl <| oA K X51 k_1074 rfl rfl rfl <| oA K X51 k_1075 rfl rfl rfl <| k
  obtain ⟨T60, h60, X60, e60, E60, A60, D60, U60, st60⟩ := newO X51 hx hZ hown (oW hw 16 rfl) (oW hw 17 rfl) (oW hw 18 rfl) e51 (g := (mkF m 6 #[vr s1, vr s2, vi p3] [(.ref s2), (.ref s1), (.ref b51), (.ref b51)])) rfl (hb hby k_1076) (by decide) (by decide)
  obtain ⟨b60, g60⟩ : ∃ z, z = h51.size := ⟨_, rfl⟩
  rw [← g60] at A60 D60 U60 st60
  have O60 : Old Z n0 h60 := O51.ext E60
  have gl60 := Nat.le_of_eq g60.symm
  have F61 : Fld Z h60 b60 s1_ "value" "[B" .null := D60 (Or.inl (oW hw 33 rfl)) (ty := (.array .byte)) (by decide)
  have F62 : Fld Z h60 b60 s1_ "coder" "B" (.int 0) := D60 (Or.inl (oW hw 35 rfl)) (ty := .byte) (by decide)
  have F63 : Fld Z h60 b60 s1_ "count" "I" (.int 0) := D60 (Or.inl (oW hw 48 rfl)) (ty := .int) (by decide)
  have F64 : Fld Z h60 b60 s1_ s5_ "Z" (.int 0) := D60 (Or.inl (oW hw 406 rfl)) (ty := .boolean) (by decide)
  have pre_65 : Pr p e below E0 T60 (mkF m 9 #[vr s1, vr s2, vi p3] [(.ref b60), (.ref s2), (.ref s1), (.ref b51), (.ref b51)]) := fun t k => pre_59 t (st60 t k)
  have v_66 := (Nat.le_trans (own_le O51) gl60)
  have pre_67 := fun t k => pre_65 t <| XS.dup X60.here hx rfl (hb hby k_1077) rfl rfl <| k
  obtain ⟨T68, _, L68, X68, ⟨rfl, N68q, K68, b68, kN68, sb68, Fv68, Fd68, Fk68, Fm68, Vb68⟩, pre_68⟩ := cI pre_67 K X60 e60 (rm_bin l Z a0 hw b60 G1 h60 n0 O60 A60 v_66 F61 F62 F63 F64 SC hG) (oW hw 19 rfl) (oW hw 20 rfl) (oW hw 18 rfl) (oW hw 21 rfl) rfl (lenOf d_24 rfl) k_1078 rfl rfl rfl (W := 5) (Nat.le_of_eq rfl) (by decide) rfl
  have N68 := Fr.app (Fr.nil n0) N68q
  have O68 : Old Z n0 T68.heap := O60.keep K68 (allS v_66 all0)
  have pre_69 := fun t k => pre_68 t <| oI K X68 k_1079 rfl rfl <| XT.i2l X68.here hx rfl (hb hby k_1080) rfl <| oLl K X68 (oW hw 36 rfl) k_1081 rfl <| XT.lmul X68.here hx rfl (hb hby k_1082) rfl <| XS.bipush X68.here hx rfl (hb hby k_1083) <| XT.lshr X68.here hx rfl (hb hby k_1084) rfl <| k
  have pre_70 : Pr p e below E0 T68 (mkF m 22 #[vr s1, vr s2, vi p3] [(.long (((p3).toInt64 * (4 : Int64)) >>> (((20 : Int32)).toInt64 &&& 63))), (.ref b60), (.ref s2), (.ref s1), (.ref b51), (.ref b51)]) := pre_69
  rw [(own_q hnE)] at pre_70
  have v_71 := (Nat.le_trans (own_le O60) sb68)
  obtain ⟨T72, _, L72, X72, ⟨rfl, N72q, K72, Fv72, Fd72, Fk72, Fm72, Vb72⟩, pre_72⟩ := cV pre_70 K X68 rfl (rm_baj l Z a0 hw b60 n1 G1 b68 kN68 aO kO aT kT T68.heap n0 O68 (A60.keep K68) v_66 Fv68 Fd68 Fk68 Fm68 Vb68 v_71 SC hG hn SD1 VO SD2 VT) (oW hw 37 rfl) (oW hw 39 rfl) (oW hw 18 rfl) (oW hw 41 rfl) (oW hw 38 rfl) (oW hw 40 rfl) (notFace_of_selects (args := #[]) (mvT hZ (oW hw 40 rfl))) (A60.keep K68) rfl (lenOf d_46 rfl) k_1085 rfl rfl rfl (W := 4) (Nat.le_of_eq rfl) (by decide)
  have N72 := Fr.app N68 N72q
  have O72 : Old Z n0 T72.heap := O68.keep K72 (allS v_66 (allS v_71 all0))
  have u_74 := ((((Keep.refl h0 []).ext E51).ext E60).trans K68 (allS (Or.inr (Nat.le_trans ((Keep.refl h0 []).ext E51).1 gl60)) all0))
  have u_75 := (u_74.trans K72 (allS (Or.inr (Nat.le_trans ((Keep.refl h0 []).ext E51).1 gl60)) (allS (Or.inr (Nat.le_trans (((Keep.refl h0 []).ext E51).ext E60).1 sb68)) all0)))
  have Xr73 := own_reb0 X72 (fun b cl q => own_kp0 hh u_75 q)
  obtain ⟨aE76, T76, h76, kq76, bE76, kE76, Xn76, e76, E76, hSn76, hkn76, -, -, xE76, cE76, vE76, AE76, -, -, hI76, hL76, st76⟩ := ldcSVL (s := s.setVm s.vm) (vm0 := s.vm) (Ts := ["xy", "ab"]) Xr73 hx hZ hown (oW hw 70 rfl) (own_sa hw) rfl ((State.WarmedH.refl (s.setVm s.vm)).since 0) (Nat.zero_le _) (Fr.nil _) (fun b cl q => own_kz hh O0 q) hPV (by simp) hH48 hCW (vs := (own_L28.map Value.int)) (z := (28 : Int32)) (by decide +kernel) (by decide) rfl (g := (mkF m 25 #[vr s1, vr s2, vi p3] [(.ref b60), (.ref s2), (.ref s1), (.ref b51), (.ref b51)])) rfl (hb hby k_1086) (n := 112) (by decide +kernel) (by decide) (by decide) (by decide)
  obtain ⟨X76, hS76, hZ76, ho76⟩ := rebS ((State.WarmedH.refl s).since 0) (Nat.le_trans (Nat.zero_le _) (Nat.le_trans (Nat.le_trans (Nat.le_trans (Nat.le_trans (Nat.le_refl _) E51.1) E60.1) K68.1) K72.1)) Xn76 (⟨hSn76.1, hSn76.2.mono hkn76⟩ : (s.setVm s.vm).Since T76.vm h76.size) E76.1 hZ hown
  have O76 : Old Z n0 h76 := O72.ext E76
  have x_77 := (Nat.ne_of_lt (Nat.lt_of_lt_of_le (Vx.ext E51).lt gl60))
  have x_78 := (Nat.ne_of_lt (Nat.lt_of_lt_of_le ((Vx.ext E51).ext E60).lt sb68))
  have f_79 := (((((Vx.ext E51).ext E60).keep K68 (ninS x_77 nin0)).keep K72 (ninS x_77 (ninS x_78 nin0))).ext E76)
  have nl76_bx := own_neLen AE76 f_79 (by decide)
  have nl76_b68 := own_neLen AE76 (Vb72.ext E76) (by decide)
  have pre_80 : Pr p e below E0 T76 (mkF m 27 #[vr s1, vr s2, vi p3] [(.ref aE76), (.ref b60), (.ref s2), (.ref s1), (.ref b51), (.ref b51)]) := fun t k => pre_72 t (st76 t k)
  have K76x : Kx p (s.setVm T76.vm) Z m c _ _ _ := ⟨hx, hZ76, ho76, hby, hml⟩
  obtain ⟨T81, _, L81, X81, ⟨rfl, N81q, K81, b81, kN81, sb81, Fv81, Fd81, Fk81, Fm81, Vb81⟩, pre_81⟩ := cV pre_80 K76x X76 e76 (rm_bapg16 l Z a0 hw b60 aE76 G1 (28 : Int32) bE76 kE76 (own_L28.map Value.int) (own_len n1) b68 kN68 ((own_dig n1).map Value.int) (28 : Int32) ((own_len n1) + (28 : Int32)) (own_len n1) h76 n0 O76 (((A60.keep K68).keep K72).ext E76) v_66 (Fv72.ext E76) (Fd72.ext E76) (Fk72.ext E76) (Fm72.ext E76) (Vb72.ext E76) v_71 xE76 cE76 vE76 AE76 SC hG nl76_b68 (by decide) rfl hj.2.2.2.1 hj.1 (by decide) hj.2.1 (hj.2.2.1.trans (List.length_map _).symm) (by simp only [List.length_append, List.length_map, List.length_cons, List.length_nil, own_l24, own_l39, own_l23, own_l28, own_infl, own_ul] <;> decide) (by decide) hj.2.2.2.2.1 hj.2.2.2.2.2.1 (by rw [List.length_map]; have := own_dl5 hn; omega)) (oW hw 71 rfl) (oW hw 73 rfl) (oW hw 18 rfl) (oW hw 75 rfl) (oW hw 72 rfl) (oW hw 74 rfl) (notFace_of_selects (args := #[]) (mvT hZ76 (oW hw 74 rfl))) (((A60.keep K68).keep K72).ext E76) rfl (lenOf d_43 rfl) k_1087 rfl rfl rfl (W := 4) (Nat.le_of_eq rfl) (by decide)
  have N81 := Fr.app (Fr.nil n0) N81q
  have O81 : Old Z n0 T81.heap := O76.keep K81 (allS v_66 all0)
  have f_82 := ((((A60.keep K68).keep K72).ext E76).keep K81)
  obtain ⟨T83, _, L83, X83, ⟨m83, rfl, N83q, K83, sm83, Em83, Fc83, b83, kN83, sb83, Fv83, Vb83⟩, pre_83⟩ := cV pre_81 K76x X81 rfl (rm_tos0 l Z a0 hw b60 G1 (34 : Int32) ((own_len n1) + (28 : Int32)) b81 kN81 (((own_dig n1).map Value.int) ++ (own_L28.map Value.int)) T81.heap n0 O81 f_82 Fv81 Fd81 Fk81 Fm81 Vb81 SC hG hl3.1 hl3.2.1 hl3.2.2.1 hl3.2.2.2 (by rw [← List.map_append]; exact hll)) (oW hw 136 rfl) (oW hw 138 rfl) (oW hw 18 rfl) (oW hw 140 rfl) (oW hw 137 rfl) (oW hw 139 rfl) (notFace_of_selects (args := #[]) (mvT hZ76 (oW hw 139 rfl))) f_82 rfl (lenOf d_45 rfl) k_1088 rfl rfl rfl (W := 4) (Nat.le_of_eq rfl) (by decide)
  have N83 := Fr.app N81 N83q
  have O83 : Old Z n0 T83.heap := O81.keep K83 all0
  have x_84 := (Nat.ne_of_lt (Nat.lt_of_lt_of_le (Es1.ext E51).lt gl60))
  have x_85 := (Nat.ne_of_lt (Nat.lt_of_lt_of_le ((Es1.ext E51).ext E60).lt sb68))
  have f_86 := (((((((Fvx.ext E51).ext E60).keep K68 (ninS x_84 nin0)).keep K72 (ninS x_84 (ninS x_85 nin0))).ext E76).keep K81 (ninS x_84 nin0)).keep K83 nin0)
  have f_87 := (((((((Fcx.ext E51).ext E60).keep K68 (ninS x_84 nin0)).keep K72 (ninS x_84 (ninS x_85 nin0))).ext E76).keep K81 (ninS x_84 nin0)).keep K83 nin0)
  have f_88 := ((f_79.keep K81 (ninS x_77 nin0)).keep K83 nin0)
  have f_89 := (((((((Es1.ext E51).ext E60).keep K68).keep K72).ext E76).keep K81).keep K83)
  have f_90 := (((((((Es2.ext E51).ext E60).keep K68).keep K72).ext E76).keep K81).keep K83)
  have x_91 := (Nat.ne_of_lt (Nat.lt_of_lt_of_le (Es2.ext E51).lt gl60))
  have x_92 := (Nat.ne_of_lt (Nat.lt_of_lt_of_le (HM2.ext E51).lt gl60))
  have x_93 := (Nat.ne_of_lt (Nat.lt_of_lt_of_le ((Es2.ext E51).ext E60).lt sb68))
  have x_94 := (Nat.ne_of_lt (Nat.lt_of_lt_of_le ((HM2.ext E51).ext E60).lt sb68))
  have f_95 := (((((((HM2.ext E51).ext E60).keep K68 (ninS x_91 nin0) (ninS x_92 nin0)).keep K72 (ninS x_91 (ninS x_93 nin0)) (ninS x_92 (ninS x_94 nin0))).ext E76).keep K81 (ninS x_91 nin0) (ninS x_92 nin0)).keep K83 nin0 nin0)
  have f_96 := ((((((A51.ext E60).keep K68).keep K72).ext E76).keep K81).keep K83)
  have x_97 := (Nat.ne_of_lt (Nat.lt_of_lt_of_le A51.lt gl60))
  have x_98 := (Nat.ne_of_lt (Nat.lt_of_lt_of_le (A51.ext E60).lt sb68))
  have f_99 := ((((((F56.ext E60).keep K68 (ninS x_97 nin0)).keep K72 (ninS x_97 (ninS x_98 nin0))).ext E76).keep K81 (ninS x_97 nin0)).keep K83 nin0)
  have f_100 := ((((((F55.ext E60).keep K68 (ninS x_97 nin0)).keep K72 (ninS x_97 (ninS x_98 nin0))).ext E76).keep K81 (ninS x_97 nin0)).keep K83 nin0)
  have v_101 := (Nat.le_trans (own_le O0) gl51)
  obtain ⟨_, _, ⟨T102, L102, k102, n102⟩, -, Y102, hs102, hg102, ⟨Lc102, hQ102, l102, y102, z102⟩, st102⟩ := X83.specialBackS hx (y := y_71) rfl ho76 (mvT hZ76 (oW hw 173 rfl)) (mvT hZ76 (oW hw 174 rfl)) (mvT hZ76 (oW hw 175 rfl)) (by decide) (own_backSK (W := 1) (rm_iniA l Z a0 hw b51 s1 s2 m83 G1 w1 bx kx e0 e1 bi ki c0 c1 b83 kN83 ((own_len n1) + (28 : Int32)) (own_dig n1 ++ own_L28) aO kO  T83.heap n0 O83 SC hG SF hr SU1 SU2 SU3 SD1 VO f_89 f_86 f_87 f_88 hsm f_90 f_95 hr0 hr1 Em83 Fv83 Fc83 (own_arvE Vb83 rfl (List.map_append ..).symm) h5 hll hasc f_96 (Unt.keep K83 nin0 (Unt.keep K81 (ninS x_97 nin0) (Unt.ext E76 (Unt.keep K72 (ninS x_97 (ninS x_98 nin0)) (Unt.keep K68 (ninS x_97 nin0) (Unt.ext E60 U51)))))) f_99 f_100 v_101 hl hTW hH7 hH13 hH28 hCW) hZ76 (oW hw 175 rfl) (oW hw 12 rfl) (by decide) (by decide) (Vm.MethodsKnown.alikeC hS76.1.alike hTK) (Vm.FramesKnown.alikeC hS76.1.alike hBelow) (fun _ q => own_IBw hI76 q)) (g := (mkF m 33 #[vr s1, vr s2, vi p3] [(.ref m83), (.ref s2), (.ref s1), (.ref b51), (.ref b51)])) rfl (by rw [hml]; rfl) (Steps.refl _) (a := b51) (argsL := [(.ref s1), (.ref s2), (.ref m83)]) (rest := [(.ref b51)]) (lenOf d_47 rfl) rfl (by show 2 * 0 + _ ≤ _; exact Nat.le_of_eq rfl) (hb hby k_1089) (fun _ _ => ⟨rfl, rfl, (by decide : 8 + 16 ≤ _), (by decide : 714 + 6500 ≤ _)⟩)
  dsimp only [Pt.U, Pt.locs, Pt.cells, Pt.slots] at Y102 hs102 hg102 l102 y102 z102 st102 hQ102
  subst l102 y102 z102
  obtain ⟨X102, hS102, hZ102, ho102⟩ := rebS hS76 (Nat.le_trans (Nat.le_refl _) (Nat.le_trans (Nat.le_trans (Nat.le_refl _) K81.1) K83.1)) Y102 hs102 hg102 hZ76 ho76
  have K102x : Kx p (s.setVm T102.vm) Z m c _ _ _ := ⟨hx, hZ102, ho102, hby, hml⟩
  obtain ⟨rfl, N102q, K102, m102, b102, k102m, sm102, Fm102, Em102, ⟨Fv102, Fc102, Vb102⟩, hI102, a7, b7, k7, a13, b13, k13, a28, b28, k28, Ex7, Fc7, Fv7, Vl7, Li7, Ex13, Fc13, Fv13, Vl13, Li13, Ex28, Fc28, Fv28, Vl28, Li28⟩ := hQ102
  have N102 := Fr.app N83 N102q
  have O102 : Old Z n0 T102.heap := O83.keep K102 (allS v_101 all0)
  have pre_103 : Pr p e below E0 T102 (mkF m 36 #[vr s1, vr s2, vi p3] [(.ref b51)]) := fun t k => pre_83 t (st102.trans k)
  have u_104 := ((u_75.ext E76).trans K81 (allS (Or.inr (Nat.le_trans ((Keep.refl h0 []).ext E51).1 gl60)) all0))
  have u_105 := ((u_104.trans K83 all0).trans K102 (allS (Or.inr (Nat.le_trans (Keep.refl h0 []).1 gl51)) all0))
  have x_106 := (Exa.ne xE76 (((A60.keep K68).keep K72).ext E76) (by decide))
  have x_107 := (Exa.ne xE76 ((((A51.ext E60).keep K68).keep K72).ext E76) (by decide))
  have f_108 := (((vE76.keep K81 (ninS x_106 nin0)).keep K83 nin0).keep K102 (ninS x_107 nin0))
  have x_109 := (Ne.symm (Exa.neArv (((A60.keep K68).keep K72).ext E76) AE76 (oW hw 17 rfl)))
  have x_110 := (Ne.symm (Exa.neArv ((((A51.ext E60).keep K68).keep K72).ext E76) AE76 (oW hw 15 rfl)))
  have f_111 := (((AE76.keep K81 (ninS x_109 nin0)).keep K83 nin0).keep K102 (ninS x_110 nin0))
  have f_112 := (((cE76.keep K81 (ninS x_106 nin0)).keep K83 nin0).keep K102 (ninS x_107 nin0))
  obtain ⟨fs, hr, hrun, hended, hEnd⟩ := X102.leaveW hS102 (Nat.le_trans (Nat.le_refl _) (Nat.le_refl _)) (v := some (.ref b51)) (fun h => by rw [hret] at h; cases h)
  refine ⟨_, _, pre_103 _ ?_, hrun, hended, _, _, rfl, ?_, hEnd.1, hEnd.2.1, hEnd.2.2.1, hEnd.2.2.2.mono (by decide) (by decide)⟩
  · show Sp p e below T102 (mkF m 36 #[vr s1, vr s2, vi p3] [(.ref b51)]) _
    exact retOut X102 hx (t := (.object s7_)) hret rfl (Or.inr (Or.inr (Or.inr (Or.inr ⟨rfl, rfl, rfl⟩)))) (hb hby k_1090) hr
  · show P _ T102.vm T102.heap _
    exact hP _ _ _ _ ⟨b51, m102, b102, k102m, rfl, N102, u_105, (Nat.le_trans (Keep.refl h0 []).1 gl51), (Nat.le_trans (u_104.trans K83 all0).1 sm102), (f_96.keep K102), Fm102, Em102, ⟨Fv102, Fc102, Vb102⟩, own_IBw hI102 X102.warmed, a7, b7, k7, a13, b13, k13, a28, b28, k28, aE76, bE76, kE76, Ex7, Fc7, Fv7, Vl7, Lit.stays (Li7 : Lit (s.setVm T102.vm) s7_ 7 a7) X102.warmed.wide, Ex13, Fc13, Fv13, Vl13, Lit.stays (Li13 : Lit (s.setVm T102.vm) s7_ 13 a13) X102.warmed.wide, Ex28, Fc28, Fv28, Vl28, Lit.stays (Li28 : Lit (s.setVm T102.vm) s7_ 28 a28) X102.warmed.wide, (((xE76.keep K81).keep K83).keep K102), f_112, f_108, f_111, Lit.stays (Lit.stays (hL76 : Lit (s.setVm T76.vm) s7_ 48 aE76) hs102.1) X102.warmed.wide⟩
theorem rm_ofmB (hw : Hw a0 Z) (s1 : Addr) (s2 : Addr) (p3 : Int32) (G1 : Int32) (w1 : Value) (bx : Addr) (kx : ClassId) (e0 e1 : Int32) (bi : Addr) (ki : ClassId) (c0 c1 n1 : Int32) (aO : Addr) (kO : ClassId) (aT : Addr) (kT : ClassId) (a7 b7 : Addr) (k7 : ClassId) (a13 b13 : Addr) (k13 : ClassId) (a28 b28 : Addr) (k28 : ClassId) (a48 b48 : Addr) (k48 : ClassId) (h0 : Heap) (n0 : Nat) (O0 : Old Z n0 h0) (SC : Sta Z Z.heap s2_ s6_ "Z" (.int G1)) (hG : ¬ G1 = (0 : Int32)) (SF : Sta Z Z.heap s8_ s12_ s13_ w1) (hr : w1.isRef = true) (SU1 : Sta Z Z.heap s3_ s9_ "Z" (.int 1)) (SU2 : Sta Z Z.heap s3_ s10_ "I" (.int 0)) (SU3 : Sta Z Z.heap s3_ s11_ "I" (.int 8)) (SD1 : Sta Z Z.heap s14_ "DigitOnes" "[B" (.ref aO)) (VO : Arv Z Z.heap aO kO .byte (100 : Int32) own_ones (.int 0)) (SD2 : Sta Z Z.heap s14_ "DigitTens" "[B" (.ref aT)) (VT : Arv Z Z.heap aT kT .byte (100 : Int32) own_tens (.int 0)) (Es1 : Exa Z h0 s1 s2_) (HM1 : own_M Z h0 s1 bx kx [e0, e1]) (Es2 : Exa Z h0 s2 s2_) (HM2 : own_M Z h0 s2 bi ki [c0, c1]) (hr0 : 0 ≤ c0.toInt ∧ c0.toInt < 65536) (hr1 : 0 ≤ c1.toInt ∧ c1.toInt < 65536) (hnE : n1 = (p3 >>> ((18 : Int32) &&& 31))) (hl : l.stackTraces = true) (hTW : ∀ d ∈ twoRefs, d.before a0 Z = true) (Ex7 : Exa Z h0 a7 s2_) (Fc7 : Fld Z h0 a7 s2_ "coder" "B" (.int 0)) (Fv7 : Fld Z h0 a7 s2_ "value" "[B" (.ref b7)) (Vl7 : Arv Z h0 b7 k7 .byte (24 : Int32) (own_L24.map Value.int) (.int 0)) (Ex13 : Exa Z h0 a13 s2_) (Fc13 : Fld Z h0 a13 s2_ "coder" "B" (.int 0)) (Fv13 : Fld Z h0 a13 s2_ "value" "[B" (.ref b13)) (Vl13 : Arv Z h0 b13 k13 .byte (39 : Int32) (own_L39.map Value.int) (.int 0)) (Ex28 : Exa Z h0 a28 s2_) (Fc28 : Fld Z h0 a28 s2_ "coder" "B" (.int 0)) (Fv28 : Fld Z h0 a28 s2_ "value" "[B" (.ref b28)) (Vl28 : Arv Z h0 b28 k28 .byte (23 : Int32) (own_L23.map Value.int) (.int 0)) (Ex48 : Exa Z h0 a48 s2_) (Fc48 : Fld Z h0 a48 s2_ "coder" "B" (.int 0)) (Fv48 : Fld Z h0 a48 s2_ "value" "[B" (.ref b48)) (Vl48 : Arv Z h0 b48 k48 .byte (28 : Int32) (own_L28.map Value.int) (.int 0)) : MetW l Z y_72 c_72 3 (some (.object s7_)) [] (Rm 11 26 8600 240) #[(.ref s1), (.ref s2), (.int p3)] h0 (fun vm => Lit (Z.setVm vm) s7_ 7 a7 ∧ Lit (Z.setVm vm) s7_ 13 a13 ∧ Lit (Z.setVm vm) s7_ 28 a28 ∧ Lit (Z.setVm vm) s7_ 48 a48) (fun v vm h L => ∃ x m b k, v = some (.ref x) ∧ Fr n0 L ∧ Keep h0 h [] ∧ h0.size ≤ x ∧ h0.size ≤ m ∧ Exa Z h x s7_ ∧ Fld Z h x s15_ "detailMessage" "Ljava/lang/String;" (.ref m) ∧ Exa Z h m s2_ ∧ own_M Z h m b k (own_msg e0 e1 (own_cp c0 c1) n1)) := by
  refine own_metW (own := s7_) (G := fun m => (mkF m 0 #[vr s1, vr s2, vi p3] [])) rfl n_72 ?_
  intro p e s m below meth c s₁ E0 P hP K hnm hret hlk hh hPV hK X0 eH pre0
  obtain ⟨hx, hZ, hown, hby, hml⟩ := id K
  obtain ⟨hTK, hBelow⟩ := hK
  have hn := own_nr hnE
  have hj := own_j hn
  have h5 := hj.2.2.2.2.2.2.1
  have hl3 := own_l3 h5
  have hasc := own_ascA (own_adig hn) own_a28
  have hll : ((own_dig n1 ++ own_L28).map Value.int).length = ((own_len n1) + (28 : Int32)).toNatClampNeg := by rw [hj.2.2.2.2.2.2.2, List.length_map, List.length_append]; rfl
  obtain ⟨T51, h51, X51, e51, E51, A51, D51, U51, st51⟩ := newO X0 hx hZ hown (oW hw 14 rfl) (oW hw 15 rfl) (oW hw 12 rfl) eH (g := (mkF m 0 #[vr s1, vr s2, vi p3] [])) rfl (hb hby k_1072) (by decide) (by decide)
  obtain ⟨b51, g51⟩ : ∃ z, z = h0.size := ⟨_, rfl⟩
  rw [← g51] at A51 D51 U51 st51
  have O51 : Old Z n0 h51 := O0.ext E51
  have gl51 := Nat.le_of_eq g51.symm
  have F52 : Fld Z h51 b51 s15_ "cause" "Ljava/lang/Throwable;" .null := D51 (Or.inl (oW hw 234 rfl)) (ty := (.object s15_)) (by decide)
  have F53 : Fld Z h51 b51 s15_ "stackTrace" "[Ljava/lang/StackTraceElement;" .null := D51 (Or.inl (oW hw 237 rfl)) (ty := (.array (.object "java/lang/StackTraceElement"))) (by decide)
  have F54 : Fld Z h51 b51 s15_ "suppressedExceptions" "Ljava/util/List;" .null := D51 (Or.inl (oW hw 240 rfl)) (ty := (.object "java/util/List")) (by decide)
  have F55 : Fld Z h51 b51 s15_ "detailMessage" "Ljava/lang/String;" .null := D51 (Or.inl (oW hw 264 rfl)) (ty := (.object s2_)) (by decide)
  have F56 : Fld Z h51 b51 s15_ "backtrace" "Ljava/lang/Object;" .null := D51 (Or.inl (oW hw 265 rfl)) (ty := (.object "java/lang/Object")) (by decide)
  have F57 : Fld Z h51 b51 s15_ "depth" "I" (.int 0) := D51 (Or.inl (oW hw 266 rfl)) (ty := .int) (by decide)
  have pre_58 : Pr p e below E0 T51 (mkF m 3 #[vr s1, vr s2, vi p3] [(.ref b51)]) := fun t k => pre0 t (st51 t k)
  have pre_59 := fun t k => pre_58 t <| XS.dup X51.here hx rfl (hb hby k_1073) rfl rfl <| oA K X51 k_1074 rfl rfl rfl <| oA K X51 k_1075 rfl rfl rfl <| k
  obtain ⟨T60, h60, X60, e60, E60, A60, D60, U60, st60⟩ := newO X51 hx hZ hown (oW hw 16 rfl) (oW hw 17 rfl) (oW hw 18 rfl) e51 (g := (mkF m 6 #[vr s1, vr s2, vi p3] [(.ref s2), (.ref s1), (.ref b51), (.ref b51)])) rfl (hb hby k_1076) (by decide) (by decide)
  obtain ⟨b60, g60⟩ : ∃ z, z = h51.size := ⟨_, rfl⟩
  rw [← g60] at A60 D60 U60 st60
  have O60 : Old Z n0 h60 := O51.ext E60
  have gl60 := Nat.le_of_eq g60.symm
  have F61 : Fld Z h60 b60 s1_ "value" "[B" .null := D60 (Or.inl (oW hw 33 rfl)) (ty := (.array .byte)) (by decide)
  have F62 : Fld Z h60 b60 s1_ "coder" "B" (.int 0) := D60 (Or.inl (oW hw 35 rfl)) (ty := .byte) (by decide)
  have F63 : Fld Z h60 b60 s1_ "count" "I" (.int 0) := D60 (Or.inl (oW hw 48 rfl)) (ty := .int) (by decide)
  have F64 : Fld Z h60 b60 s1_ s5_ "Z" (.int 0) := D60 (Or.inl (oW hw 406 rfl)) (ty := .boolean) (by decide)
  have pre_65 : Pr p e below E0 T60 (mkF m 9 #[vr s1, vr s2, vi p3] [(.ref b60), (.ref s2), (.ref s1), (.ref b51), (.ref b51)]) := fun t k => pre_59 t (st60 t k)
  have v_66 := (Nat.le_trans (own_le O51) gl60)
  have pre_67 := fun t k => pre_65 t <| XS.dup X60.here hx rfl (hb hby k_1077) rfl rfl <| k
  obtain ⟨T68, _, L68, X68, ⟨rfl, N68q, K68, b68, kN68, sb68, Fv68, Fd68, Fk68, Fm68, Vb68⟩, pre_68⟩ := cI pre_67 K X60 e60 (rm_bin l Z a0 hw b60 G1 h60 n0 O60 A60 v_66 F61 F62 F63 F64 SC hG) (oW hw 19 rfl) (oW hw 20 rfl) (oW hw 18 rfl) (oW hw 21 rfl) rfl (lenOf d_24 rfl) k_1078 rfl rfl rfl (W := 5) (Nat.le_of_eq rfl) (by decide) rfl
  have N68 := Fr.app (Fr.nil n0) N68q
  have O68 : Old Z n0 T68.heap := O60.keep K68 (allS v_66 all0)
  have pre_69 := fun t k => pre_68 t <| oI K X68 k_1079 rfl rfl <| XT.i2l X68.here hx rfl (hb hby k_1080) rfl <| oLl K X68 (oW hw 36 rfl) k_1081 rfl <| XT.lmul X68.here hx rfl (hb hby k_1082) rfl <| XS.bipush X68.here hx rfl (hb hby k_1083) <| XT.lshr X68.here hx rfl (hb hby k_1084) rfl <| k
  have pre_70 : Pr p e below E0 T68 (mkF m 22 #[vr s1, vr s2, vi p3] [(.long (((p3).toInt64 * (4 : Int64)) >>> (((20 : Int32)).toInt64 &&& 63))), (.ref b60), (.ref s2), (.ref s1), (.ref b51), (.ref b51)]) := pre_69
  rw [(own_q hnE)] at pre_70
  have v_71 := (Nat.le_trans (own_le O60) sb68)
  obtain ⟨T72, _, L72, X72, ⟨rfl, N72q, K72, Fv72, Fd72, Fk72, Fm72, Vb72⟩, pre_72⟩ := cV pre_70 K X68 rfl (rm_baj l Z a0 hw b60 n1 G1 b68 kN68 aO kO aT kT T68.heap n0 O68 (A60.keep K68) v_66 Fv68 Fd68 Fk68 Fm68 Vb68 v_71 SC hG hn SD1 VO SD2 VT) (oW hw 37 rfl) (oW hw 39 rfl) (oW hw 18 rfl) (oW hw 41 rfl) (oW hw 38 rfl) (oW hw 40 rfl) (notFace_of_selects (args := #[]) (mvT hZ (oW hw 40 rfl))) (A60.keep K68) rfl (lenOf d_46 rfl) k_1085 rfl rfl rfl (W := 4) (Nat.le_of_eq rfl) (by decide)
  have N72 := Fr.app N68 N72q
  have O72 : Old Z n0 T72.heap := O68.keep K72 (allS v_66 (allS v_71 all0))
  have x_73 := (Nat.ne_of_lt (Nat.lt_of_lt_of_le (Ex48.ext E51).lt gl60))
  have x_74 := (Nat.ne_of_lt (Nat.lt_of_lt_of_le ((Ex48.ext E51).ext E60).lt sb68))
  have f_75 := ((((Fv48.ext E51).ext E60).keep K68 (ninS x_73 nin0)).keep K72 (ninS x_73 (ninS x_74 nin0)))
  have x_76 := (Nat.ne_of_lt (Nat.lt_of_lt_of_le (Vl48.ext E51).lt gl60))
  have x_77 := (Nat.ne_of_lt (Nat.lt_of_lt_of_le ((Vl48.ext E51).ext E60).lt sb68))
  have f_78 := ((((Vl48.ext E51).ext E60).keep K68 (ninS x_76 nin0)).keep K72 (ninS x_76 (ninS x_77 nin0)))
  have f_79 := ((((Ex48.ext E51).ext E60).keep K68).keep K72)
  have f_80 := ((((Fc48.ext E51).ext E60).keep K68 (ninS x_73 nin0)).keep K72 (ninS x_73 (ninS x_74 nin0)))
  have pre_81 := fun t k => pre_72 t <| ldcAgain (vm0 := s.vm) X72 hx hZ hown (oW hw 70 rfl) (hPV.2.2.2 : Lit (s.setVm s.vm) s7_ 48 a48) (g := (mkF m 25 #[vr s1, vr s2, vi p3] [(.ref b60), (.ref s2), (.ref s1), (.ref b51), (.ref b51)])) rfl (hb hby k_1086) _ <| k
  obtain ⟨T82, _, L82, X82, ⟨rfl, N82q, K82, b82, kN82, sb82, Fv82, Fd82, Fk82, Fm82, Vb82⟩, pre_82⟩ := cV pre_81 K X72 rfl (rm_bapg16 l Z a0 hw b60 a48 G1 (28 : Int32) b48 k48 (own_L28.map Value.int) (own_len n1) b68 kN68 ((own_dig n1).map Value.int) (28 : Int32) ((own_len n1) + (28 : Int32)) (own_len n1) T72.heap n0 O72 ((A60.keep K68).keep K72) v_66 Fv72 Fd72 Fk72 Fm72 Vb72 v_71 f_79 f_80 f_75 f_78 SC hG x_77 (by decide) rfl hj.2.2.2.1 hj.1 (by decide) hj.2.1 (hj.2.2.1.trans (List.length_map _).symm) (by simp only [List.length_append, List.length_map, List.length_cons, List.length_nil, own_l24, own_l39, own_l23, own_l28, own_infl, own_ul] <;> decide) (by decide) hj.2.2.2.2.1 hj.2.2.2.2.2.1 (by rw [List.length_map]; have := own_dl5 hn; omega)) (oW hw 71 rfl) (oW hw 73 rfl) (oW hw 18 rfl) (oW hw 75 rfl) (oW hw 72 rfl) (oW hw 74 rfl) (notFace_of_selects (args := #[]) (mvT hZ (oW hw 74 rfl))) ((A60.keep K68).keep K72) rfl (lenOf d_43 rfl) k_1087 rfl rfl rfl (W := 4) (Nat.le_of_eq rfl) (by decide)
  have N82 := Fr.app N72 N82q
  have O82 : Old Z n0 T82.heap := O72.keep K82 (allS v_66 all0)
  obtain ⟨T83, _, L83, X83, ⟨m83, rfl, N83q, K83, sm83, Em83, Fc83, b83, kN83, sb83, Fv83, Vb83⟩, pre_83⟩ := cV pre_82 K X82 rfl (rm_tos0 l Z a0 hw b60 G1 (34 : Int32) ((own_len n1) + (28 : Int32)) b82 kN82 (((own_dig n1).map Value.int) ++ (own_L28.map Value.int)) T82.heap n0 O82 (((A60.keep K68).keep K72).keep K82) Fv82 Fd82 Fk82 Fm82 Vb82 SC hG hl3.1 hl3.2.1 hl3.2.2.1 hl3.2.2.2 (by rw [← List.map_append]; exact hll)) (oW hw 136 rfl) (oW hw 138 rfl) (oW hw 18 rfl) (oW hw 140 rfl) (oW hw 137 rfl) (oW hw 139 rfl) (notFace_of_selects (args := #[]) (mvT hZ (oW hw 139 rfl))) (((A60.keep K68).keep K72).keep K82) rfl (lenOf d_45 rfl) k_1088 rfl rfl rfl (W := 4) (Nat.le_of_eq rfl) (by decide)
  have N83 := Fr.app N82 N83q
  have O83 : Old Z n0 T83.heap := O82.keep K83 all0
  have x_84 := (Nat.ne_of_lt (Nat.lt_of_lt_of_le (Ex7.ext E51).lt gl60))
  have x_85 := (Nat.ne_of_lt (Nat.lt_of_lt_of_le ((Ex7.ext E51).ext E60).lt sb68))
  have f_86 := ((((((Fv7.ext E51).ext E60).keep K68 (ninS x_84 nin0)).keep K72 (ninS x_84 (ninS x_85 nin0))).keep K82 (ninS x_84 nin0)).keep K83 nin0)
  have x_87 := (Nat.ne_of_lt (Nat.lt_of_lt_of_le (Vl7.ext E51).lt gl60))
  have x_88 := (Nat.ne_of_lt (Nat.lt_of_lt_of_le ((Vl7.ext E51).ext E60).lt sb68))
  have f_89 := ((((((Vl7.ext E51).ext E60).keep K68 (ninS x_87 nin0)).keep K72 (ninS x_87 (ninS x_88 nin0))).keep K82 (ninS x_87 nin0)).keep K83 nin0)
  have x_90 := (Nat.ne_of_lt (Nat.lt_of_lt_of_le (Ex13.ext E51).lt gl60))
  have x_91 := (Nat.ne_of_lt (Nat.lt_of_lt_of_le ((Ex13.ext E51).ext E60).lt sb68))
  have f_92 := ((((((Fv13.ext E51).ext E60).keep K68 (ninS x_90 nin0)).keep K72 (ninS x_90 (ninS x_91 nin0))).keep K82 (ninS x_90 nin0)).keep K83 nin0)
  have x_93 := (Nat.ne_of_lt (Nat.lt_of_lt_of_le (Vl13.ext E51).lt gl60))
  have x_94 := (Nat.ne_of_lt (Nat.lt_of_lt_of_le ((Vl13.ext E51).ext E60).lt sb68))
  have f_95 := ((((((Vl13.ext E51).ext E60).keep K68 (ninS x_93 nin0)).keep K72 (ninS x_93 (ninS x_94 nin0))).keep K82 (ninS x_93 nin0)).keep K83 nin0)
  have x_96 := (Nat.ne_of_lt (Nat.lt_of_lt_of_le (Ex28.ext E51).lt gl60))
  have x_97 := (Nat.ne_of_lt (Nat.lt_of_lt_of_le ((Ex28.ext E51).ext E60).lt sb68))
  have f_98 := ((((((Fv28.ext E51).ext E60).keep K68 (ninS x_96 nin0)).keep K72 (ninS x_96 (ninS x_97 nin0))).keep K82 (ninS x_96 nin0)).keep K83 nin0)
  have x_99 := (Nat.ne_of_lt (Nat.lt_of_lt_of_le (Vl28.ext E51).lt gl60))
  have x_100 := (Nat.ne_of_lt (Nat.lt_of_lt_of_le ((Vl28.ext E51).ext E60).lt sb68))
  have f_101 := ((((((Vl28.ext E51).ext E60).keep K68 (ninS x_99 nin0)).keep K72 (ninS x_99 (ninS x_100 nin0))).keep K82 (ninS x_99 nin0)).keep K83 nin0)
  have f_102 := ((((((Ex7.ext E51).ext E60).keep K68).keep K72).keep K82).keep K83)
  have f_103 := ((((((Fc7.ext E51).ext E60).keep K68 (ninS x_84 nin0)).keep K72 (ninS x_84 (ninS x_85 nin0))).keep K82 (ninS x_84 nin0)).keep K83 nin0)
  have f_104 := ((((((Ex13.ext E51).ext E60).keep K68).keep K72).keep K82).keep K83)
  have f_105 := ((((((Fc13.ext E51).ext E60).keep K68 (ninS x_90 nin0)).keep K72 (ninS x_90 (ninS x_91 nin0))).keep K82 (ninS x_90 nin0)).keep K83 nin0)
  have f_106 := ((((((Ex28.ext E51).ext E60).keep K68).keep K72).keep K82).keep K83)
  have f_107 := ((((((Fc28.ext E51).ext E60).keep K68 (ninS x_96 nin0)).keep K72 (ninS x_96 (ninS x_97 nin0))).keep K82 (ninS x_96 nin0)).keep K83 nin0)
  have x_108 := (Nat.ne_of_lt (Nat.lt_of_lt_of_le (Es1.ext E51).lt gl60))
  have x_109 := (Nat.ne_of_lt (Nat.lt_of_lt_of_le (HM1.ext E51).lt gl60))
  have x_110 := (Nat.ne_of_lt (Nat.lt_of_lt_of_le ((Es1.ext E51).ext E60).lt sb68))
  have x_111 := (Nat.ne_of_lt (Nat.lt_of_lt_of_le ((HM1.ext E51).ext E60).lt sb68))
  have f_112 := ((((((HM1.ext E51).ext E60).keep K68 (ninS x_108 nin0) (ninS x_109 nin0)).keep K72 (ninS x_108 (ninS x_110 nin0)) (ninS x_109 (ninS x_111 nin0))).keep K82 (ninS x_108 nin0) (ninS x_109 nin0)).keep K83 nin0 nin0)
  have f_113 := ((((((Es1.ext E51).ext E60).keep K68).keep K72).keep K82).keep K83)
  have f_114 := ((((((Es2.ext E51).ext E60).keep K68).keep K72).keep K82).keep K83)
  have x_115 := (Nat.ne_of_lt (Nat.lt_of_lt_of_le (Es2.ext E51).lt gl60))
  have x_116 := (Nat.ne_of_lt (Nat.lt_of_lt_of_le (HM2.ext E51).lt gl60))
  have x_117 := (Nat.ne_of_lt (Nat.lt_of_lt_of_le ((Es2.ext E51).ext E60).lt sb68))
  have x_118 := (Nat.ne_of_lt (Nat.lt_of_lt_of_le ((HM2.ext E51).ext E60).lt sb68))
  have f_119 := ((((((HM2.ext E51).ext E60).keep K68 (ninS x_115 nin0) (ninS x_116 nin0)).keep K72 (ninS x_115 (ninS x_117 nin0)) (ninS x_116 (ninS x_118 nin0))).keep K82 (ninS x_115 nin0) (ninS x_116 nin0)).keep K83 nin0 nin0)
  have f_120 := (((((A51.ext E60).keep K68).keep K72).keep K82).keep K83)
  have x_121 := (Nat.ne_of_lt (Nat.lt_of_lt_of_le A51.lt gl60))
  have x_122 := (Nat.ne_of_lt (Nat.lt_of_lt_of_le (A51.ext E60).lt sb68))
  have f_123 := (((((F56.ext E60).keep K68 (ninS x_121 nin0)).keep K72 (ninS x_121 (ninS x_122 nin0))).keep K82 (ninS x_121 nin0)).keep K83 nin0)
  have f_124 := (((((F55.ext E60).keep K68 (ninS x_121 nin0)).keep K72 (ninS x_121 (ninS x_122 nin0))).keep K82 (ninS x_121 nin0)).keep K83 nin0)
  have v_125 := (Nat.le_trans (own_le O0) gl51)
  obtain ⟨_, _, ⟨T126, L126, k126, n126⟩, -, Y126, hs126, hg126, ⟨Lc126, hQ126, l126, y126, z126⟩, st126⟩ := X83.specialBackS hx (y := y_71) rfl hown (mvT hZ (oW hw 173 rfl)) (mvT hZ (oW hw 174 rfl)) (mvT hZ (oW hw 175 rfl)) (by decide) (own_backSK (W := 1) (rm_iniB l Z a0 hw b51 s1 s2 m83 G1 w1 bx kx e0 e1 bi ki c0 c1 b83 kN83 ((own_len n1) + (28 : Int32)) (own_dig n1 ++ own_L28) aO kO a7 b7 k7 a13 b13 k13 a28 b28 k28 T83.heap n0 O83 SC hG SF hr SU1 SU2 SU3 SD1 VO f_113 f_112 f_114 f_119 hr0 hr1 Em83 Fv83 Fc83 (own_arvE Vb83 rfl (List.map_append ..).symm) h5 hll hasc f_120 (Unt.keep K83 nin0 (Unt.keep K82 (ninS x_121 nin0) (Unt.keep K72 (ninS x_121 (ninS x_122 nin0)) (Unt.keep K68 (ninS x_121 nin0) (Unt.ext E60 U51))))) f_123 f_124 v_125 hl hTW f_102 f_103 f_86 f_89 f_104 f_105 f_92 f_95 f_106 f_107 f_98 f_101) hZ (oW hw 175 rfl) (oW hw 12 rfl) (by decide) (by decide) (Vm.MethodsKnown.alikeC ((State.WarmedH.refl s).since 0).1.alike hTK) (Vm.FramesKnown.alikeC ((State.WarmedH.refl s).since 0).1.alike hBelow) (fun _ q => ⟨Lit.stays (hPV.1 : Lit (s.setVm s.vm) s7_ 7 a7) q.wide, Lit.stays (hPV.2.1 : Lit (s.setVm s.vm) s7_ 13 a13) q.wide, Lit.stays (hPV.2.2.1 : Lit (s.setVm s.vm) s7_ 28 a28) q.wide⟩)) (g := (mkF m 33 #[vr s1, vr s2, vi p3] [(.ref m83), (.ref s2), (.ref s1), (.ref b51), (.ref b51)])) rfl (by rw [hml]; rfl) (Steps.refl _) (a := b51) (argsL := [(.ref s1), (.ref s2), (.ref m83)]) (rest := [(.ref b51)]) (lenOf d_47 rfl) rfl (by show 2 * 0 + _ ≤ _; exact Nat.le_of_eq rfl) (hb hby k_1089) (fun _ _ => ⟨rfl, rfl, (by decide : 6 + 16 ≤ _), (by decide : 598 + 6500 ≤ _)⟩)
  dsimp only [Pt.U, Pt.locs, Pt.cells, Pt.slots] at Y126 hs126 hg126 l126 y126 z126 st126 hQ126
  subst l126 y126 z126
  obtain ⟨X126, hS126, hZ126, ho126⟩ := rebS ((State.WarmedH.refl s).since 0) (Nat.le_trans (Nat.zero_le _) (Nat.le_trans (Nat.le_trans (Nat.le_trans (Nat.le_trans (Nat.le_trans (Nat.le_trans (Nat.le_refl _) E51.1) E60.1) K68.1) K72.1) K82.1) K83.1)) Y126 hs126 hg126 hZ hown
  have K126x : Kx p (s.setVm T126.vm) Z m c _ _ _ := ⟨hx, hZ126, ho126, hby, hml⟩
  obtain ⟨rfl, N126q, K126, m126, b126, k126m, sm126, Fm126, Em126, HM126⟩ := hQ126
  have N126 := Fr.app N83 N126q
  have O126 : Old Z n0 T126.heap := O83.keep K126 (allS v_125 all0)
  have pre_127 : Pr p e below E0 T126 (mkF m 36 #[vr s1, vr s2, vi p3] [(.ref b51)]) := fun t k => pre_83 t (st126.trans k)
  have u_128 := ((((Keep.refl h0 []).ext E51).ext E60).trans K68 (allS (Or.inr (Nat.le_trans ((Keep.refl h0 []).ext E51).1 gl60)) all0))
  have u_129 := (u_128.trans K72 (allS (Or.inr (Nat.le_trans ((Keep.refl h0 []).ext E51).1 gl60)) (allS (Or.inr (Nat.le_trans (((Keep.refl h0 []).ext E51).ext E60).1 sb68)) all0)))
  have u_130 := ((u_129.trans K82 (allS (Or.inr (Nat.le_trans ((Keep.refl h0 []).ext E51).1 gl60)) all0)).trans K83 all0)
  obtain ⟨fs, hr, hrun, hended, hEnd⟩ := X126.leaveW hS126 (Nat.le_trans (Nat.le_refl _) (Nat.le_refl _)) (v := some (.ref b51)) (fun h => by rw [hret] at h; cases h)
  refine ⟨_, _, pre_127 _ ?_, hrun, hended, _, _, rfl, ?_, hEnd.1, hEnd.2.1, hEnd.2.2.1, hEnd.2.2.2.mono (by decide) (by decide)⟩
  · show Sp p e below T126 (mkF m 36 #[vr s1, vr s2, vi p3] [(.ref b51)]) _
    exact retOut X126 hx (t := (.object s7_)) hret rfl (Or.inr (Or.inr (Or.inr (Or.inr ⟨rfl, rfl, rfl⟩)))) (hb hby k_1090) hr
  · show P _ T126.vm T126.heap _
    exact hP _ _ _ _ ⟨b51, m126, b126, k126m, rfl, N126, (u_130.trans K126 (allS (Or.inr (Nat.le_trans (Keep.refl h0 []).1 gl51)) all0)), (Nat.le_trans (Keep.refl h0 []).1 gl51), (Nat.le_trans u_130.1 sm126), (f_120.keep K126), Fm126, Em126, HM126⟩
theorem rm_gms (hw : Hw a0 Z) (a1 : Addr) (m1 : Addr) (h0 : Heap) (n0 : Nat) (O0 : Old Z n0 h0) (F1 : Fld Z h0 a1 s15_ "detailMessage" "Ljava/lang/String;" (.ref m1)) : Met l Z y_73 c_73 1 (some (.object s2_)) (Rm 0 0 0 0) #[(.ref a1)] h0 (fun v h L => v = some (.ref m1) ∧ Fr n0 L ∧ h = h0) := by
  refine own_met (own := s15_) (G := fun m => (mkF m 0 #[vr a1] [])) rfl n_73 ?_
  intro p e s m below meth c s₁ E0 P hP K hnm hret hlk hh X0 eH pre0
  obtain ⟨hx, hZ, hown, hby, hml⟩ := id K
  have pre_51 := fun t k => pre0 t <| oA K X0 k_1091 rfl rfl rfl <| k
  obtain ⟨T52, X52, e52, pre_52⟩ := gF pre_51 K X0 eH (oW hw 268 rfl) Via.refl F1 k_1092 rfl rfl
  exact rtA pre_52 K X52 e52 hret hlk k_1093 (by decide) ⟨rfl, rfl⟩ (hP _ _ _ ⟨rfl, (Fr.nil n0), rfl⟩)
theorem rm_num (hw : Hw a0 Z) (p1 : Int32) (p2 : Int32) (p3 : Int32)  (h0 : Heap) (n0 : Nat) (O0 : Old Z n0 h0)  : Met l Z y_74 c_74 7 (some .char) (Rm 0 0 0 0) #[(.int p1), (.int p2), (.int p3)] h0 (fun v h L => v = some (.int (own_nc p1 p2 p3)) ∧ Fr n0 L ∧ h = h0) := by
  refine own_met (own := s16_) (G := fun m => (mkF m 0 #[vi p1, vi p2, vi p3, uz, uz, uz, uz] [])) rfl n_74 ?_
  intro p e s m below meth c s₁ E0 P hP K hnm hret hlk hh X0 eH pre0
  obtain ⟨hx, hZ, hown, hby, hml⟩ := id K
  have pre_51 := fun t k => pre0 t <| oI K X0 k_1094 rfl rfl <| k
  by_cases hc52 : p1 < (0 : Int32)
  · skip
    have pre_53 : Pr p e below E0 s₁ (mkF m 27 #[vi p1, vi p2, vi p3, vi 1, vi (-p1), uz, uz] [(.int p3)]) := fun t k => pre_51 t <| XS.ifNo X0.here hx rfl (hb hby k_1095) rfl (XT.i0_ge_f hc52) <| XS.iconst X0.here hx rfl (hb hby k_1096) <| XS.goto X0.here hx rfl (pc0 := 5) (pc' := 9) rfl (hb hby k_1097) (by decide) (by decide) <| XS.istoreN X0.here hx rfl (hb hby k_1098) rfl (l' := #[vi p1, vi p2, vi p3, vi 1, uz, uz, uz]) rfl <| oI K X0 k_1099 rfl rfl <| XS.ifNo X0.here hx rfl (hb hby k_1100) rfl (XT.i0_eq_f (by decide)) <| oI K X0 k_1101 rfl rfl <| XS.ineg X0.here hx rfl (hb hby k_1102) rfl <| XS.goto X0.here hx rfl (pc0 := 16) (pc' := 20) rfl (hb hby k_1103) (by decide) (by decide) <| XS.istore X0.here hx rfl (hb hby k_1104) rfl (l' := #[vi p1, vi p2, vi p3, vi 1, vi (-p1), uz, uz]) rfl <| oI K X0 k_1105 rfl rfl <| XS.ifNo X0.here hx rfl (hb hby k_1106) rfl (XT.i0_eq_f (by decide)) <| oI K X0 k_1107 rfl rfl <| k
    by_cases hc54 : p3 = (0 : Int32)
    · skip
      have pre_55 := fun t k => pre_53 t <| XS.ifNo X0.here hx rfl (hb hby k_1108) rfl (XT.i0_ne_f hc54) <| XS.bipush X0.here hx rfl (hb hby k_1109) <| k
      have pre_56 : Pr p e below E0 s₁ (mkF m 32 #[vi p1, vi p2, vi p3, vi 1, vi (-p1), uz, uz] [(.int 45)]) := pre_55
      exact rtN pre_56 K X0 eH hret hlk k_1110 (by decide) (by simp) (hP _ _ _ ⟨by rw [own_nc, if_pos hc52, if_pos hc54]; rfl, (Fr.nil n0), rfl⟩)
    · skip
      have pre_57 := fun t k => pre_53 t <| XS.ifYes X0.here hx rfl (pc0 := 27) (pc' := 33) rfl (hb hby k_1108) rfl (XT.i0_ne_t hc54) (by decide) (by decide) <| oI K X0 k_1111 rfl rfl <| XS.iconst X0.here hx rfl (hb hby k_1112) <| XS.isub X0.here hx rfl (hb hby k_1113) rfl <| oI K X0 k_1114 rfl rfl <| XS.isub X0.here hx rfl (hb hby k_1115) rfl <| XS.istore X0.here hx rfl (hb hby k_1116) rfl (l' := #[vi p1, vi p2, vi p3, vi 1, vi (-p1), vi ((p2 - (1 : Int32)) - p3), uz]) rfl <| oJ K X0 k_1117 rfl rfl <| k
      have pre_61 : Pr p e below E0 s₁ (mkF m 74 #[vi p1, vi p2, vi p3, vi 1, vi (-p1), vi ((p2 - (1 : Int32)) - p3), uz] [(.int (if ((p2 - (1 : Int32)) - p3) = (0 : Int32) then (1 : Int32) else (if ((p2 - (1 : Int32)) - p3) = (1 : Int32) then (10 : Int32) else (if ((p2 - (1 : Int32)) - p3) = (2 : Int32) then (100 : Int32) else (1000 : Int32)))))]) := by
        intro t k
        refine pre_57 t ?_
        by_cases hm58 : ((p2 - (1 : Int32)) - p3) = (0 : Int32)
        · skip
          refine XS.ifNo X0.here hx rfl (hb hby k_1118) rfl (XT.i0_ne_f hm58) ?_
          refine XS.iconst X0.here hx rfl (hb hby k_1119) ?_
          refine XS.goto X0.here hx rfl (pc0 := 46) (pc' := 74) rfl (hb hby k_1120) (by decide) (by decide) ?_
          first | exact k | (simp only [if_pos hm58] at k; exact k) | (show Sp p e below s₁ (mkF m 74 #[vi p1, vi p2, vi p3, vi 1, vi (-p1), vi ((p2 - (1 : Int32)) - p3), uz] [(.int 1)]) _; simp only [if_pos hm58] at k ⊢; exact k)
        · skip
          refine XS.ifYes X0.here hx rfl (pc0 := 42) (pc' := 49) rfl (hb hby k_1118) rfl (XT.i0_ne_t hm58) (by decide) (by decide) ?_
          refine oJ K X0 k_1121 rfl rfl ?_
          refine XS.iconst X0.here hx rfl (hb hby k_1122) ?_
          by_cases hm59 : ((p2 - (1 : Int32)) - p3) = (1 : Int32)
          · skip
            refine XS.icmpNo X0.here hx rfl (hb hby k_1123) rfl (XT.ii_ne_f hm59) ?_
            refine XS.bipush X0.here hx rfl (hb hby k_1124) ?_
            refine XS.goto X0.here hx rfl (pc0 := 57) (pc' := 74) rfl (hb hby k_1125) (by decide) (by decide) ?_
            first | exact k | (simp only [if_neg hm58, if_pos hm59] at k; exact k) | (show Sp p e below s₁ (mkF m 74 #[vi p1, vi p2, vi p3, vi 1, vi (-p1), vi ((p2 - (1 : Int32)) - p3), uz] [(.int 10)]) _; simp only [if_neg hm58, if_pos hm59] at k ⊢; exact k)
          · skip
            refine XS.icmpYes X0.here hx rfl (pc0 := 52) (pc' := 60) rfl (hb hby k_1123) rfl (XT.ii_ne_t hm59) (by decide) (by decide) ?_
            refine oJ K X0 k_1126 rfl rfl ?_
            refine XS.iconst X0.here hx rfl (hb hby k_1127) ?_
            by_cases hm60 : ((p2 - (1 : Int32)) - p3) = (2 : Int32)
            · skip
              refine XS.icmpNo X0.here hx rfl (hb hby k_1128) rfl (XT.ii_ne_f hm60) ?_
              refine XS.bipush X0.here hx rfl (hb hby k_1129) ?_
              refine XS.goto X0.here hx rfl (pc0 := 68) (pc' := 74) rfl (hb hby k_1130) (by decide) (by decide) ?_
              first | exact k | (simp only [if_neg hm58, if_neg hm59, if_pos hm60] at k; exact k) | (show Sp p e below s₁ (mkF m 74 #[vi p1, vi p2, vi p3, vi 1, vi (-p1), vi ((p2 - (1 : Int32)) - p3), uz] [(.int 100)]) _; simp only [if_neg hm58, if_neg hm59, if_pos hm60] at k ⊢; exact k)
            · skip
              refine XS.icmpYes X0.here hx rfl (pc0 := 63) (pc' := 71) rfl (hb hby k_1128) rfl (XT.ii_ne_t hm60) (by decide) (by decide) ?_
              refine XS.sipush X0.here hx rfl (hb hby k_1131) ?_
              first | exact k | (simp only [if_neg hm58, if_neg hm59, if_neg hm60] at k; exact k) | (show Sp p e below s₁ (mkF m 74 #[vi p1, vi p2, vi p3, vi 1, vi (-p1), vi ((p2 - (1 : Int32)) - p3), uz] [(.int 1000)]) _; simp only [if_neg hm58, if_neg hm59, if_neg hm60] at k ⊢; exact k)
      have pre_62 : Pr p e below E0 s₁ (mkF m 74 #[vi p1, vi p2, vi p3, vi 1, vi (-p1), vi ((p2 - (1 : Int32)) - p3), uz] [(.int (own_p ((p2 - (1 : Int32)) - p3)))]) := pre_61
      have pre_63 := fun t k => pre_62 t <| XS.istore X0.here hx rfl (hb hby k_1132) rfl (l' := #[vi p1, vi p2, vi p3, vi 1, vi (-p1), vi ((p2 - (1 : Int32)) - p3), vi (own_p ((p2 - (1 : Int32)) - p3))]) rfl <| XS.bipush X0.here hx rfl (hb hby k_1133) <| oJ K X0 k_1134 rfl rfl <| oJ K X0 k_1135 rfl rfl <| XS.idiv X0.here hx rfl (hb hby k_1136) rfl (own_pnz _) <| XS.bipush X0.here hx rfl (hb hby k_1137) <| iremM X0 hx rfl (hb hby k_1138) rfl (by decide) <| XS.iadd X0.here hx rfl (hb hby k_1139) rfl <| XT.i2c X0.here hx rfl (hb hby k_1140) rfl <| k
      have pre_64 : Pr p e below E0 s₁ (mkF m 88 #[vi p1, vi p2, vi p3, vi 1, vi (-p1), vi ((p2 - (1 : Int32)) - p3), vi (own_p ((p2 - (1 : Int32)) - p3))] [(.int ((((48 : Int32) + (((-p1) / (own_p ((p2 - (1 : Int32)) - p3))) % (10 : Int32)))).toUInt32.toUInt16.toUInt32.toInt32))]) := pre_63
      exact rtN pre_64 K X0 eH hret hlk k_1141 (by decide) (by simp) (hP _ _ _ ⟨by rw [own_nc, if_pos hc52, if_neg hc54, own_nch]; rfl, (Fr.nil n0), rfl⟩)
  · skip
    have pre_65 : Pr p e below E0 s₁ (mkF m 42 #[vi p1, vi p2, vi p3, vi 0, vi p1, vi ((p2 - (1 : Int32)) - p3), uz] [(.int ((p2 - (1 : Int32)) - p3))]) := fun t k => pre_51 t <| XS.ifYes X0.here hx rfl (pc0 := 1) (pc' := 8) rfl (hb hby k_1095) rfl (XT.i0_ge_t hc52) (by decide) (by decide) <| XS.iconst X0.here hx rfl (hb hby k_1142) <| XS.istoreN X0.here hx rfl (hb hby k_1098) rfl (l' := #[vi p1, vi p2, vi p3, vi 0, uz, uz, uz]) rfl <| oI K X0 k_1099 rfl rfl <| XS.ifYes X0.here hx rfl (pc0 := 11) (pc' := 19) rfl (hb hby k_1100) rfl (XT.i0_eq_t (by decide)) (by decide) (by decide) <| oI K X0 k_1143 rfl rfl <| XS.istore X0.here hx rfl (hb hby k_1104) rfl (l' := #[vi p1, vi p2, vi p3, vi 0, vi p1, uz, uz]) rfl <| oI K X0 k_1105 rfl rfl <| XS.ifYes X0.here hx rfl (pc0 := 23) (pc' := 33) rfl (hb hby k_1106) rfl (XT.i0_eq_t (by decide)) (by decide) (by decide) <| oI K X0 k_1111 rfl rfl <| XS.iconst X0.here hx rfl (hb hby k_1112) <| XS.isub X0.here hx rfl (hb hby k_1113) rfl <| oI K X0 k_1114 rfl rfl <| XS.isub X0.here hx rfl (hb hby k_1115) rfl <| XS.istore X0.here hx rfl (hb hby k_1116) rfl (l' := #[vi p1, vi p2, vi p3, vi 0, vi p1, vi ((p2 - (1 : Int32)) - p3), uz]) rfl <| oJ K X0 k_1117 rfl rfl <| k
    have pre_69 : Pr p e below E0 s₁ (mkF m 74 #[vi p1, vi p2, vi p3, vi 0, vi p1, vi ((p2 - (1 : Int32)) - p3), uz] [(.int (if ((p2 - (1 : Int32)) - p3) = (0 : Int32) then (1 : Int32) else (if ((p2 - (1 : Int32)) - p3) = (1 : Int32) then (10 : Int32) else (if ((p2 - (1 : Int32)) - p3) = (2 : Int32) then (100 : Int32) else (1000 : Int32)))))]) := by
      intro t k
      refine pre_65 t ?_
      by_cases hm66 : ((p2 - (1 : Int32)) - p3) = (0 : Int32)
      · skip
        refine XS.ifNo X0.here hx rfl (hb hby k_1118) rfl (XT.i0_ne_f hm66) ?_
        refine XS.iconst X0.here hx rfl (hb hby k_1119) ?_
        refine XS.goto X0.here hx rfl (pc0 := 46) (pc' := 74) rfl (hb hby k_1120) (by decide) (by decide) ?_
        first | exact k | (simp only [if_pos hm66] at k; exact k) | (show Sp p e below s₁ (mkF m 74 #[vi p1, vi p2, vi p3, vi 0, vi p1, vi ((p2 - (1 : Int32)) - p3), uz] [(.int 1)]) _; simp only [if_pos hm66] at k ⊢; exact k)
      · skip
        refine XS.ifYes X0.here hx rfl (pc0 := 42) (pc' := 49) rfl (hb hby k_1118) rfl (XT.i0_ne_t hm66) (by decide) (by decide) ?_
        refine oJ K X0 k_1121 rfl rfl ?_
        refine XS.iconst X0.here hx rfl (hb hby k_1122) ?_
        by_cases hm67 : ((p2 - (1 : Int32)) - p3) = (1 : Int32)
        · skip
          refine XS.icmpNo X0.here hx rfl (hb hby k_1123) rfl (XT.ii_ne_f hm67) ?_
          refine XS.bipush X0.here hx rfl (hb hby k_1124) ?_
          refine XS.goto X0.here hx rfl (pc0 := 57) (pc' := 74) rfl (hb hby k_1125) (by decide) (by decide) ?_
          first | exact k | (simp only [if_neg hm66, if_pos hm67] at k; exact k) | (show Sp p e below s₁ (mkF m 74 #[vi p1, vi p2, vi p3, vi 0, vi p1, vi ((p2 - (1 : Int32)) - p3), uz] [(.int 10)]) _; simp only [if_neg hm66, if_pos hm67] at k ⊢; exact k)
        · skip
          refine XS.icmpYes X0.here hx rfl (pc0 := 52) (pc' := 60) rfl (hb hby k_1123) rfl (XT.ii_ne_t hm67) (by decide) (by decide) ?_
          refine oJ K X0 k_1126 rfl rfl ?_
          refine XS.iconst X0.here hx rfl (hb hby k_1127) ?_
          by_cases hm68 : ((p2 - (1 : Int32)) - p3) = (2 : Int32)
          · skip
            refine XS.icmpNo X0.here hx rfl (hb hby k_1128) rfl (XT.ii_ne_f hm68) ?_
            refine XS.bipush X0.here hx rfl (hb hby k_1129) ?_
            refine XS.goto X0.here hx rfl (pc0 := 68) (pc' := 74) rfl (hb hby k_1130) (by decide) (by decide) ?_
            first | exact k | (simp only [if_neg hm66, if_neg hm67, if_pos hm68] at k; exact k) | (show Sp p e below s₁ (mkF m 74 #[vi p1, vi p2, vi p3, vi 0, vi p1, vi ((p2 - (1 : Int32)) - p3), uz] [(.int 100)]) _; simp only [if_neg hm66, if_neg hm67, if_pos hm68] at k ⊢; exact k)
          · skip
            refine XS.icmpYes X0.here hx rfl (pc0 := 63) (pc' := 71) rfl (hb hby k_1128) rfl (XT.ii_ne_t hm68) (by decide) (by decide) ?_
            refine XS.sipush X0.here hx rfl (hb hby k_1131) ?_
            first | exact k | (simp only [if_neg hm66, if_neg hm67, if_neg hm68] at k; exact k) | (show Sp p e below s₁ (mkF m 74 #[vi p1, vi p2, vi p3, vi 0, vi p1, vi ((p2 - (1 : Int32)) - p3), uz] [(.int 1000)]) _; simp only [if_neg hm66, if_neg hm67, if_neg hm68] at k ⊢; exact k)
    have pre_70 : Pr p e below E0 s₁ (mkF m 74 #[vi p1, vi p2, vi p3, vi 0, vi p1, vi ((p2 - (1 : Int32)) - p3), uz] [(.int (own_p ((p2 - (1 : Int32)) - p3)))]) := pre_69
    have pre_71 := fun t k => pre_70 t <| XS.istore X0.here hx rfl (hb hby k_1132) rfl (l' := #[vi p1, vi p2, vi p3, vi 0, vi p1, vi ((p2 - (1 : Int32)) - p3), vi (own_p ((p2 - (1 : Int32)) - p3))]) rfl <| XS.bipush X0.here hx rfl (hb hby k_1133) <| oJ K X0 k_1134 rfl rfl <| oJ K X0 k_1135 rfl rfl <| XS.idiv X0.here hx rfl (hb hby k_1136) rfl (own_pnz _) <| XS.bipush X0.here hx rfl (hb hby k_1137) <| iremM X0 hx rfl (hb hby k_1138) rfl (by decide) <| XS.iadd X0.here hx rfl (hb hby k_1139) rfl <| XT.i2c X0.here hx rfl (hb hby k_1140) rfl <| k
    have pre_72 : Pr p e below E0 s₁ (mkF m 88 #[vi p1, vi p2, vi p3, vi 0, vi p1, vi ((p2 - (1 : Int32)) - p3), vi (own_p ((p2 - (1 : Int32)) - p3))] [(.int ((((48 : Int32) + ((p1 / (own_p ((p2 - (1 : Int32)) - p3))) % (10 : Int32)))).toUInt32.toUInt16.toUInt32.toInt32))]) := pre_71
    exact rtN pre_72 K X0 eH hret hlk k_1141 (by decide) (by simp) (hP _ _ _ ⟨by rw [own_nc, if_neg hc52, own_nch]; rfl, (Fr.nil n0), rfl⟩)
theorem rm_dok (hw : Hw a0 Z) (s1 : Addr) (p1 : Int32) (p2 : Int32) (p3 : Int32) (G1 : Int32) (w1 : Value) (b1 : Addr) (kB : ClassId) (cs : List Int32) (iN lN : Nat) (h0 : Heap) (n0 : Nat) (O0 : Old Z n0 h0) (SC : Sta Z Z.heap s2_ s6_ "Z" (.int G1)) (hG : ¬ G1 = (0 : Int32)) (SF : Sta Z Z.heap s8_ s12_ s13_ w1) (hr : w1.isRef = true) (SU1 : Sta Z Z.heap s3_ s9_ "Z" (.int 1)) (SU2 : Sta Z Z.heap s3_ s10_ "I" (.int 0)) (SU3 : Sta Z Z.heap s3_ s11_ "I" (.int 8)) (E2 : Exa Z h0 s1 s2_) (HM : own_M Z h0 s1 b1 kB cs) (hcl : cs.length < 500) (hi : p3 = Int32.ofNat iN) (hi5 : iN ≤ 4) (hlen : p2 = Int32.ofNat lN) (hl5 : lN ≤ 5) (hD : iN < lN → cs[89 + iN]? = some (own_nc p1 p2 p3)) (hrc : 0 ≤ (own_nc p1 p2 p3).toInt ∧ (own_nc p1 p2 p3).toInt < 65536) : Met l Z y_75 c_75 4 (some .boolean) (Rm 5 0 0 80) #[(.ref s1), (.int p1), (.int p2), (.int p3)] h0 (fun v h L => v = some (.int 1) ∧ Fr n0 L ∧ h = h0) := by
  refine own_met (own := s16_) (G := fun m => (mkF m 0 #[vr s1, vi p1, vi p2, vi p3] [])) rfl n_75 ?_
  intro p e s m below meth c s₁ E0 P hP K hnm hret hlk hh X0 eH pre0
  obtain ⟨hx, hZ, hown, hby, hml⟩ := id K
  have pre_51 := fun t k => pre0 t <| oI K X0 k_1144 rfl rfl <| oI K X0 k_1145 rfl rfl <| k
  by_cases hc52 : p3 < p2
  · skip
    have hlt : iN < lN := by have q := hc52; rw [hi, hlen, own_onlt (by omega) (by omega)] at q; exact q
    have pre_53 := fun t k => pre_51 t <| XS.icmpYes X0.here hx rfl (pc0 := 2) (pc' := 7) rfl (hb hby k_1146) rfl (XT.ii_lt_t hc52) (by decide) (by decide) <| oA K X0 k_1147 rfl rfl rfl <| XS.bipush X0.here hx rfl (hb hby k_1148) <| oI K X0 k_1149 rfl rfl <| XS.iadd X0.here hx rfl (hb hby k_1150) rfl <| k
    obtain ⟨T54, _, L54, X54, ⟨rfl, N54q, e54⟩, pre_54⟩ := cV pre_53 K X0 eH (rm_cha l Z a0 hw s1 ((89 : Int32) + p3) G1 b1 kB cs (89 + iN) (own_nc p1 p2 p3) w1 h0 n0 O0 E2 HM hcl (by rw [hi]; exact own_89 (by omega)) (hD hlt) hrc SC hG SF hr SU1 SU2 SU3) (oW hw 342 rfl) (oW hw 344 rfl) (oW hw 1 rfl) (oW hw 346 rfl) (oW hw 343 rfl) (oW hw 345 rfl) (notFace_of_selects (args := #[]) (mvT hZ (oW hw 345 rfl))) E2 rfl (lenOf d_48 rfl) k_1151 rfl rfl rfl (W := 0) (Nat.le_of_eq rfl) (by decide)
    have N54 := Fr.app (Fr.nil n0) N54q
    have pre_55 := fun t k => pre_54 t <| oI K X54 k_1152 rfl rfl <| oI K X54 k_1153 rfl rfl <| oI K X54 k_1154 rfl rfl <| k
    obtain ⟨T56, _, L56, X56, ⟨rfl, N56q, e56⟩, pre_56⟩ := cS pre_55 K X54 e54 (rm_num l Z a0 hw p1 p2 p3 h0 n0 O0) (oW hw 361 rfl) (oW hw 362 rfl) (oW hw 359 rfl) (oW hw 363 rfl) rfl (lenOf d_49 rfl) k_1155 rfl rfl rfl (W := 1) (Nat.le_of_eq rfl) (by decide)
    have N56 := Fr.app N54 N56q
    have pre_57 : Pr p e below E0 T56 (mkF m 29 #[vr s1, vi p1, vi p2, vi p3] [(.int 1)]) := fun t k => pre_56 t <| XS.icmpNo X56.here hx rfl (hb hby k_1156) rfl (XT.ii_ne_f rfl) <| XS.iconst X56.here hx rfl (hb hby k_1157) <| XS.goto X56.here hx rfl (pc0 := 25) (pc' := 29) rfl (hb hby k_1158) (by decide) (by decide) <| k
    exact rtN pre_57 K X56 e56 hret hlk k_1159 (by decide) (by simp) (hP _ _ _ ⟨rfl, N56, rfl⟩)
  · skip
    have pre_58 := fun t k => pre_51 t <| XS.icmpNo X0.here hx rfl (hb hby k_1146) rfl (XT.ii_lt_f hc52) <| XS.iconst X0.here hx rfl (hb hby k_1160) <| k
    have pre_59 : Pr p e below E0 s₁ (mkF m 6 #[vr s1, vi p1, vi p2, vi p3] [(.int 1)]) := pre_58
    exact rtN pre_59 K X0 eH hret hlk k_1161 (by decide) (by simp) (hP _ _ _ ⟨rfl, (Fr.nil n0), rfl⟩)
theorem rm_law (hw : Hw a0 Z) (ws : List Jvm.Cond) (p1 : Int32) (p2 : Int32) (p3 : Int32) (p4 : Int32) (G1 : Int32) (w1 : Value) (aO : Addr) (kO : ClassId) (aT : Addr) (kT : ClassId) (h0 : Heap) (n0 : Nat) (O0 : Old Z n0 h0) (SC : Sta Z Z.heap s2_ s6_ "Z" (.int G1)) (hG : ¬ G1 = (0 : Int32)) (SF : Sta Z Z.heap s8_ s12_ s13_ w1) (hr : w1.isRef = true) (SU1 : Sta Z Z.heap s3_ s9_ "Z" (.int 1)) (SU2 : Sta Z Z.heap s3_ s10_ "I" (.int 0)) (SU3 : Sta Z Z.heap s3_ s11_ "I" (.int 8)) (SD1 : Sta Z Z.heap s14_ "DigitOnes" "[B" (.ref aO)) (VO : Arv Z Z.heap aO kO .byte (100 : Int32) own_ones (.int 0)) (SD2 : Sta Z Z.heap s14_ "DigitTens" "[B" (.ref aT)) (VT : Arv Z Z.heap aT kT .byte (100 : Int32) own_tens (.int 0)) (hl : l.stackTraces = true) (hTW : ∀ d ∈ twoRefs, d.before a0 Z = true) (hH7 : Jvm.Lit.constHeld Z s7_ 7) (hH13 : Jvm.Lit.constHeld Z s7_ 13) (hH28 : Jvm.Lit.constHeld Z s7_ 28) (hH48 : Jvm.Lit.constHeld Z s7_ 48) (hH19 : Jvm.Lit.constHeld Z s16_ 19) (hH21 : Jvm.Lit.constHeld Z s16_ 21) (hH34 : Jvm.Lit.constHeld Z s16_ 34) (hCW : Jvm.Lit.compactW.before a0 Z = true) : MetW l Z x code maxLocals ret ws room_1 #[(.int p1), (.int p2), (.int p3), (.int p4)] h0 (fun vm => IB Z vm []) (fun v vm h L => v = some (.int 1) ∧ Fr n0 L) := by
  refine own_metW (own := s16_) (G := fun m => (mkF m 0 #[vi p1, vi p2, vi p3, vi p4, uz, uz, uz, uz, uz, uz, uz, uz, uz, uz, uz, uz, uz] [])) rfl (by decide +kernel) ?_
  intro p e s m below meth c s₁ E0 P hP K hnm hret hlk hh hPV hK X0 eH pre0
  obtain ⟨hx, hZ, hown, hby, hml⟩ := id K
  obtain ⟨hTK, hBelow⟩ := hK
  have Xr51 := own_reb0 X0 (fun b cl q => by rw [eH]; exact own_kp0 hh (Keep.refl h0 []) q)
  obtain ⟨aE52, T52, h52, kq52, bE52, kE52, Xn52, e52, E52, hSn52, hkn52, -, -, xE52, cE52, vE52, AE52, -, -, hI52, hL52, st52⟩ := ldcSVL (s := s.setVm s.vm) (vm0 := s.vm) (Ts := []) Xr51 hx hZ hown (oW hw 0 rfl) (own_sa hw) eH ((State.WarmedH.refl (s.setVm s.vm)).since 0) (Nat.zero_le _) (Fr.nil _) (fun b cl q => own_kz hh O0 q) hPV (by simp) hH19 hCW (vs := ([(97 : Int32), (98 : Int32)].map own_b)) (z := (2 : Int32)) (by decide +kernel) (by decide) rfl (g := (mkF m 0 #[vi p1, vi p2, vi p3, vi p4, uz, uz, uz, uz, uz, uz, uz, uz, uz, uz, uz, uz, uz] [])) rfl (hb hby at_0) (n := 8) (by decide +kernel) (by decide) (by decide) (by decide)
  obtain ⟨X52, hS52, hZ52, ho52⟩ := rebS ((State.WarmedH.refl s).since 0) (Nat.le_trans (Nat.zero_le _) (Nat.le_refl _)) Xn52 (⟨hSn52.1, hSn52.2.mono hkn52⟩ : (s.setVm s.vm).Since T52.vm h52.size) E52.1 hZ hown
  have O52 : Old Z n0 h52 := O0.ext E52
  have pre_53 : Pr p e below E0 T52 (mkF m 2 #[vi p1, vi p2, vi p3, vi p4, uz, uz, uz, uz, uz, uz, uz, uz, uz, uz, uz, uz, uz] [(.ref aE52)]) := fun t k => pre0 t (st52 t k)
  have K52x : Kx p (s.setVm T52.vm) Z m c _ _ _ := ⟨hx, hZ52, ho52, hby, hml⟩
  have Xr54 := own_reb0 X52 (fun b cl q => by rw [e52]; exact own_kp0 hh ((Keep.refl h0 []).ext E52) q)
  obtain ⟨aE55, T55, h55, kq55, bE55, kE55, Xn55, e55, E55, hSn55, hkn55, -, -, xE55, cE55, vE55, AE55, -, -, hI55, hL55, st55⟩ := ldcSVL (s := s.setVm T52.vm) (vm0 := T52.vm) (Ts := ["ab"]) Xr54 hx hZ52 ho52 (oW hw 8 rfl) (own_sa hw) e52 ((State.WarmedH.refl (s.setVm T52.vm)).since 0) (Nat.zero_le _) (Fr.nil _) (fun b cl q => own_kz hh O0 q) hI52 (by simp) hH21 hCW (vs := ([(120 : Int32), (121 : Int32)].map own_b)) (z := (2 : Int32)) (by decide +kernel) (by decide) rfl (g := (mkF m 2 #[vi p1, vi p2, vi p3, vi p4, uz, uz, uz, uz, uz, uz, uz, uz, uz, uz, uz, uz, uz] [(.ref aE52)])) rfl (hb hby at_2) (n := 8) (by decide +kernel) (by decide) (by decide) (by decide)
  obtain ⟨X55, hS55, hZ55, ho55⟩ := rebS hS52 (Nat.le_trans (Nat.le_refl _) (Nat.le_refl _)) Xn55 (⟨hSn55.1, hSn55.2.mono hkn55⟩ : (s.setVm T52.vm).Since T55.vm h55.size) E55.1 hZ52 ho52
  have O55 : Old Z n0 h55 := O52.ext E55
  have pre_56 : Pr p e below E0 T55 (mkF m 4 #[vi p1, vi p2, vi p3, vi p4, uz, uz, uz, uz, uz, uz, uz, uz, uz, uz, uz, uz, uz] [(.ref aE55), (.ref aE52)]) := fun t k => pre_53 t (st55 t k)
  have K55x : Kx p (s.setVm T55.vm) Z m c _ _ _ := ⟨hx, hZ55, ho55, hby, hml⟩
  have hM2 : own_M Z h55 aE55 bE55 kE55 [(120 : Int32), (121 : Int32)] := ⟨vE55, Or.inl ⟨cE55, AE55, by decide⟩⟩
  have pre_57 := fun t k => pre_56 t <| oLi K55x X55 (oW hw 9 rfl) at_4 rfl <| k
  obtain ⟨_, _, ⟨T58, L58, k58, n58⟩, -, Y58, hs58, hg58, ⟨Lc58, hQ58, l58, y58, z58⟩, st58⟩ := callSS X55 hx (y := y_72) ho55 (mvT hZ55 (oW hw 10 rfl)) (mvT hZ55 (oW hw 11 rfl)) (mvT hZ55 (oW hw 12 rfl)) (mvT hZ55 (oW hw 13 rfl)) (by decide) (own_backSK (W := 0) (rm_ofmA l Z a0 hw aE52 aE55 (262144 : Int32) G1 w1 bE52 kE52 (97 : Int32) (98 : Int32) bE55 kE55 (120 : Int32) (121 : Int32) (1 : Int32) aO kO aT kT h55 n0 O55 SC hG SF hr SU1 SU2 SU3 SD1 VO SD2 VT (xE52.ext E55) (vE52.ext E55) (cE52.ext E55) (AE52.ext E55) (by decide) xE55 hM2 (by decide) (by decide) (by decide) hl hTW hH7 hH13 hH28 hH48 hCW) hZ55 (oW hw 13 rfl) (oW hw 12 rfl) (by decide) (by decide) (Vm.MethodsKnown.alikeC hS55.1.alike hTK) (Vm.FramesKnown.alikeC hS55.1.alike hBelow) (fun _ q => own_IBw hI55 q)) (g := (mkF m 6 #[vi p1, vi p2, vi p3, vi p4, uz, uz, uz, uz, uz, uz, uz, uz, uz, uz, uz, uz, uz] [(.int 262144), (.ref aE55), (.ref aE52)])) rfl (by rw [hml]; rfl) (argsL := [(.ref aE52), (.ref aE55), (.int 262144)]) (rest := []) (lenOf d_50 rfl) rfl (by show 2 * 0 + _ ≤ _; exact Nat.le_of_eq rfl) (hb hby at_6) (fun _ _ => ⟨rfl, e55, (by decide : 4 + 26 ≤ _), (by decide : 24 + 8600 ≤ _)⟩)
  dsimp only [Pt.U, Pt.locs, Pt.cells, Pt.slots] at Y58 hs58 hg58 l58 y58 z58 st58 hQ58
  subst l58 y58 z58
  obtain ⟨X58, hS58, hZ58, ho58⟩ := rebS hS55 (by rw [e55]; exact (Nat.le_trans (Nat.le_refl _) (Nat.le_refl _))) Y58 hs58 hg58 hZ55 ho55
  have K58x : Kx p (s.setVm T58.vm) Z m c _ _ _ := ⟨hx, hZ58, ho58, hby, hml⟩
  obtain ⟨x58, m58, b58, k58m, rfl, N58q, K58, sx58, sm58, Ex58, Fm58, Em58, ⟨Fv58, Fc58, Vb58⟩, hI58, a7, b7, k7, a13, b13, k13, a28, b28, k28, a48, b48, k48, Ex7, Fc7, Fv7, Vl7, Li7, Ex13, Fc13, Fv13, Vl13, Li13, Ex28, Fc28, Fv28, Vl28, Li28, Ex48, Fc48, Fv48, Vl48, Li48⟩ := hQ58
  have N58 := Fr.app (Fr.nil n0) N58q
  have O58 : Old Z n0 T58.heap := O55.keep K58 all0
  have pre_59 : Pr p e below E0 T58 (mkF m 9 #[vi p1, vi p2, vi p3, vi p4, uz, uz, uz, uz, uz, uz, uz, uz, uz, uz, uz, uz, uz] [(.ref x58)]) := fun t k => pre_57 t (st58.trans k)
  have Vq : Arv Z T58.heap b58 k58m .byte (118 : Int32) own_V118 (.int 0) := own_arvE Vb58 (by decide +kernel) own_x118
  obtain ⟨T60, _, L60, X60, ⟨rfl, N60q, e60⟩, pre_60⟩ := cVu pre_59 K58x X58 rfl (rm_gms l Z a0 hw x58 m58 T58.heap n0 O58 Fm58) (oW hw 269 rfl) (oW hw 272 rfl) (oW hw 230 rfl) (oW hw 274 rfl) (oW hw 270 rfl) (oW hw 271 rfl) (oW hw 273 rfl) (by decide) Ex58 rfl (lenOf d_45 rfl) at_9 rfl rfl rfl (W := 0) (Nat.le_of_eq rfl) (by decide)
  have N60 := Fr.app N58 N60q
  have pre_61 := fun t k => pre_60 t <| XS.astore X60.here hx rfl (hb hby at_12) rfl rfl (l' := #[vi p1, vi p2, vi p3, vi p4, vr m58, uz, uz, uz, uz, uz, uz, uz, uz, uz, uz, uz, uz]) rfl <| oB K58x X60 at_14 rfl rfl rfl <| XS.ifnullNo X60.here hx rfl (hb hby at_16) rfl <| oB K58x X60 at_19 rfl rfl rfl <| k
  have Xr62 := own_reb0 X60 (fun b cl q => by rw [e60]; exact own_kp0 hh ((((Keep.refl h0 []).ext E52).ext E55).trans K58 all0) q)
  obtain ⟨aE63, T63, h63, kq63, bE63, kE63, Xn63, e63, E63, hSn63, hkn63, -, -, xE63, cE63, vE63, AE63, -, -, hI63, hL63, st63⟩ := ldcSVL (s := s.setVm T58.vm) (vm0 := T58.vm) (Ts := [" characters within the ", "\" cannot be matched against a value of ", "the regular expression \"", " MiB that one match may take", "xy", "ab"]) Xr62 hx hZ58 ho58 (oW hw 275 rfl) (own_sa hw) e60 ((State.WarmedH.refl (s.setVm T58.vm)).since 0) (Nat.zero_le _) (Fr.nil _) (fun b cl q => own_kz hh O0 q) hI58 (by simp) hH34 hCW (vs := own_V118) (z := (118 : Int32)) (by decide +kernel) (by decide) rfl (g := (mkF m 21 #[vi p1, vi p2, vi p3, vi p4, vr m58, uz, uz, uz, uz, uz, uz, uz, uz, uz, uz, uz, uz] [(.ref m58)])) rfl (hb hby at_21) (n := 472) (by decide +kernel) (by decide) (by decide) (by decide)
  obtain ⟨X63, hS63, hZ63, ho63⟩ := rebS hS58 (Nat.le_trans (Nat.le_refl _) (Nat.le_refl _)) Xn63 (⟨hSn63.1, hSn63.2.mono hkn63⟩ : (s.setVm T58.vm).Since T63.vm h63.size) E63.1 hZ58 ho58
  have O63 : Old Z n0 h63 := O58.ext E63
  have nl63_bE52 := own_neLen AE63 (((AE52.ext E55).keep K58 nin0).ext E63) (by decide)
  have nl63_bE55 := own_neLen AE63 ((AE55.keep K58 nin0).ext E63) (by decide)
  have nl63_b7 := own_neLen AE63 (Vl7.ext E63) (by decide)
  have nl63_b13 := own_neLen AE63 (Vl13.ext E63) (by decide)
  have nl63_b28 := own_neLen AE63 (Vl28.ext E63) (by decide)
  have nl63_b48 := own_neLen AE63 (Vl48.ext E63) (by decide)
  have pre_64 : Pr p e below E0 T63 (mkF m 23 #[vi p1, vi p2, vi p3, vi p4, vr m58, uz, uz, uz, uz, uz, uz, uz, uz, uz, uz, uz, uz] [(.ref aE63), (.ref m58)]) := fun t k => pre_61 t (st63 t k)
  have K63x : Kx p (s.setVm T63.vm) Z m c _ _ _ := ⟨hx, hZ63, ho63, hby, hml⟩
  obtain ⟨T65, _, L65, X65, ⟨rfl, N65q, e65⟩, pre_65⟩ := cV pre_64 K63x X63 e63 (rm_seq l Z a0 hw m58 aE63 b58 bE63 G1 (118 : Int32) own_X118 k58m kE63 h63 n0 O63 (Em58.ext E63) xE63 (Fc58.ext E63) cE63 (Fv58.ext E63) vE63 (Vq.ext E63) AE63 (by decide +kernel) (by decide +kernel) SC hG) (oW hw 276 rfl) (oW hw 278 rfl) (oW hw 1 rfl) (oW hw 280 rfl) (oW hw 277 rfl) (oW hw 279 rfl) (notFace_of_selects (args := #[]) (mvT hZ63 (oW hw 279 rfl))) (Em58.ext E63) rfl (lenOf d_51 rfl) at_23 rfl rfl rfl (W := 0) (Nat.le_of_eq rfl) (by decide)
  have N65 := Fr.app (Fr.nil n0) N65q
  have pre_66 := fun t k => pre_65 t <| XS.ifYes X65.here hx rfl (pc0 := 26) (pc' := 31) rfl (hb hby at_26) rfl (XT.i0_ne_t (by decide)) (by decide) (by decide) <| oI K63x X65 at_31 rfl rfl <| XT.i2c X65.here hx rfl (hb hby at_32) rfl <| XS.istore X65.here hx rfl (hb hby at_33) rfl (l' := #[vi p1, vi p2, vi p3, vi p4, vr m58, vi ((p1).toUInt32.toUInt16.toUInt32.toInt32), uz, uz, uz, uz, uz, uz, uz, uz, uz, uz, uz]) rfl <| oI K63x X65 at_35 rfl rfl <| XS.bipush X65.here hx rfl (hb hby at_36) <| XT.iushr X65.here hx rfl (hb hby at_38) rfl <| XT.i2c X65.here hx rfl (hb hby at_39) rfl <| XS.istore X65.here hx rfl (hb hby at_40) rfl (l' := #[vi p1, vi p2, vi p3, vi p4, vr m58, vi ((p1).toUInt32.toUInt16.toUInt32.toInt32), vi (((XT.ushr p1 (16 : Int32))).toUInt32.toUInt16.toUInt32.toInt32), uz, uz, uz, uz, uz, uz, uz, uz, uz, uz]) rfl <| k
  have pre_67 : Pr p e below E0 T65 (mkF m 42 #[vi p1, vi p2, vi p3, vi p4, vr m58, vi ((p1).toUInt32.toUInt16.toUInt32.toInt32), vi (((XT.ushr p1 (16 : Int32))).toUInt32.toUInt16.toUInt32.toInt32), uz, uz, uz, uz, uz, uz, uz, uz, uz, uz] []) := pre_66
  have he0 : 0 ≤ (((p1).toUInt32.toUInt16.toUInt32.toInt32)).toInt ∧ (((p1).toUInt32.toUInt16.toUInt32.toInt32)).toInt < 65536 := own_i2cr _
  generalize (((p1).toUInt32.toUInt16.toUInt32.toInt32)) = e0 at he0 pre_67
  have he1 : 0 ≤ ((((XT.ushr p1 (16 : Int32))).toUInt32.toUInt16.toUInt32.toInt32)).toInt ∧ ((((XT.ushr p1 (16 : Int32))).toUInt32.toUInt16.toUInt32.toInt32)).toInt < 65536 := own_i2cr _
  generalize ((((XT.ushr p1 (16 : Int32))).toUInt32.toUInt16.toUInt32.toInt32)) = e1 at he1 pre_67
  have pre_68 := fun t k => pre_67 t <| oI K63x X65 at_42 rfl rfl <| XS.iconst X65.here hx rfl (hb hby at_43) <| XS.iand X65.here hx rfl (hb hby at_44) rfl <| k
  have pre_70 : Pr p e below E0 T65 (mkF m 87 #[vi p1, vi p2, vi p3, vi p4, vr m58, vi e0, vi e1, vi (if (p4 &&& (1 : Int32)) = (0 : Int32) then ((p2).toUInt32.toUInt16.toUInt32.toInt32) else ((((55296 : Int32) + (p2 &&& (2047 : Int32)))).toUInt32.toUInt16.toUInt32.toInt32)), vi (if (p4 &&& (1 : Int32)) = (0 : Int32) then (((XT.ushr p2 (16 : Int32))).toUInt32.toUInt16.toUInt32.toInt32) else ((((55296 : Int32) + ((XT.ushr p2 (16 : Int32)) &&& (2047 : Int32)))).toUInt32.toUInt16.toUInt32.toInt32)), uz, uz, uz, uz, uz, uz, uz, uz] []) := by
    intro t k
    refine pre_68 t ?_
    by_cases hm69 : (p4 &&& (1 : Int32)) = (0 : Int32)
    · skip
      refine XS.ifYes X65.here hx rfl (pc0 := 45) (pc' := 76) rfl (hb hby at_45) rfl (XT.i0_eq_t hm69) (by decide) (by decide) ?_
      refine oI K63x X65 at_76 rfl rfl ?_
      refine XT.i2c X65.here hx rfl (hb hby at_77) rfl ?_
      refine XS.istore X65.here hx rfl (hb hby at_78) rfl (l' := #[vi p1, vi p2, vi p3, vi p4, vr m58, vi e0, vi e1, vi ((p2).toUInt32.toUInt16.toUInt32.toInt32), uz, uz, uz, uz, uz, uz, uz, uz, uz]) rfl ?_
      refine oI K63x X65 at_80 rfl rfl ?_
      refine XS.bipush X65.here hx rfl (hb hby at_81) ?_
      refine XT.iushr X65.here hx rfl (hb hby at_83) rfl ?_
      refine XT.i2c X65.here hx rfl (hb hby at_84) rfl ?_
      refine XS.istore X65.here hx rfl (hb hby at_85) rfl (l' := #[vi p1, vi p2, vi p3, vi p4, vr m58, vi e0, vi e1, vi ((p2).toUInt32.toUInt16.toUInt32.toInt32), vi (((XT.ushr p2 (16 : Int32))).toUInt32.toUInt16.toUInt32.toInt32), uz, uz, uz, uz, uz, uz, uz, uz]) rfl ?_
      first | exact k | (simp only [if_pos hm69] at k; exact k) | (show Sp p e below T65 (mkF m 87 #[vi p1, vi p2, vi p3, vi p4, vr m58, vi e0, vi e1, vi ((p2).toUInt32.toUInt16.toUInt32.toInt32), vi (((XT.ushr p2 (16 : Int32))).toUInt32.toUInt16.toUInt32.toInt32), uz, uz, uz, uz, uz, uz, uz, uz] []) _; simp only [if_pos hm69] at k ⊢; exact k)
    · skip
      refine XS.ifNo X65.here hx rfl (hb hby at_45) rfl (XT.i0_eq_f hm69) ?_
      refine oLi K63x X65 (oW hw 286 rfl) at_48 rfl ?_
      refine oI K63x X65 at_50 rfl rfl ?_
      refine XS.sipush X65.here hx rfl (hb hby at_51) ?_
      refine XS.iand X65.here hx rfl (hb hby at_54) rfl ?_
      refine XS.iadd X65.here hx rfl (hb hby at_55) rfl ?_
      refine XT.i2c X65.here hx rfl (hb hby at_56) rfl ?_
      refine XS.istore X65.here hx rfl (hb hby at_57) rfl (l' := #[vi p1, vi p2, vi p3, vi p4, vr m58, vi e0, vi e1, vi ((((55296 : Int32) + (p2 &&& (2047 : Int32)))).toUInt32.toUInt16.toUInt32.toInt32), uz, uz, uz, uz, uz, uz, uz, uz, uz]) rfl ?_
      refine oLi K63x X65 (oW hw 286 rfl) at_59 rfl ?_
      refine oI K63x X65 at_61 rfl rfl ?_
      refine XS.bipush X65.here hx rfl (hb hby at_62) ?_
      refine XT.iushr X65.here hx rfl (hb hby at_64) rfl ?_
      refine XS.sipush X65.here hx rfl (hb hby at_65) ?_
      refine XS.iand X65.here hx rfl (hb hby at_68) rfl ?_
      refine XS.iadd X65.here hx rfl (hb hby at_69) rfl ?_
      refine XT.i2c X65.here hx rfl (hb hby at_70) rfl ?_
      refine XS.istore X65.here hx rfl (hb hby at_71) rfl (l' := #[vi p1, vi p2, vi p3, vi p4, vr m58, vi e0, vi e1, vi ((((55296 : Int32) + (p2 &&& (2047 : Int32)))).toUInt32.toUInt16.toUInt32.toInt32), vi ((((55296 : Int32) + ((XT.ushr p2 (16 : Int32)) &&& (2047 : Int32)))).toUInt32.toUInt16.toUInt32.toInt32), uz, uz, uz, uz, uz, uz, uz, uz]) rfl ?_
      refine XS.goto X65.here hx rfl (pc0 := 73) (pc' := 87) rfl (hb hby at_73) (by decide) (by decide) ?_
      first | exact k | (simp only [if_neg hm69] at k; exact k) | (show Sp p e below T65 (mkF m 87 #[vi p1, vi p2, vi p3, vi p4, vr m58, vi e0, vi e1, vi ((((55296 : Int32) + (p2 &&& (2047 : Int32)))).toUInt32.toUInt16.toUInt32.toInt32), vi ((((55296 : Int32) + ((XT.ushr p2 (16 : Int32)) &&& (2047 : Int32)))).toUInt32.toUInt16.toUInt32.toInt32), uz, uz, uz, uz, uz, uz, uz, uz] []) _; simp only [if_neg hm69] at k ⊢; exact k)
  have pre_71 : Pr p e below E0 T65 (mkF m 87 #[vi p1, vi p2, vi p3, vi p4, vr m58, vi e0, vi e1, vi (if (p4 &&& (1 : Int32)) = (0 : Int32) then ((p2).toUInt32.toUInt16.toUInt32.toInt32) else ((((55296 : Int32) + (p2 &&& (2047 : Int32)))).toUInt32.toUInt16.toUInt32.toInt32)), vi (if (p4 &&& (1 : Int32)) = (0 : Int32) then (((XT.ushr p2 (16 : Int32))).toUInt32.toUInt16.toUInt32.toInt32) else ((((55296 : Int32) + ((XT.ushr p2 (16 : Int32)) &&& (2047 : Int32)))).toUInt32.toUInt16.toUInt32.toInt32)), uz, uz, uz, uz, uz, uz, uz, uz] []) := pre_70
  have hc0 : 0 ≤ ((if (p4 &&& (1 : Int32)) = (0 : Int32) then ((p2).toUInt32.toUInt16.toUInt32.toInt32) else ((((55296 : Int32) + (p2 &&& (2047 : Int32)))).toUInt32.toUInt16.toUInt32.toInt32))).toInt ∧ ((if (p4 &&& (1 : Int32)) = (0 : Int32) then ((p2).toUInt32.toUInt16.toUInt32.toInt32) else ((((55296 : Int32) + (p2 &&& (2047 : Int32)))).toUInt32.toUInt16.toUInt32.toInt32))).toInt < 65536 := own_rgi (own_i2cr _) (own_i2cr _)
  generalize ((if (p4 &&& (1 : Int32)) = (0 : Int32) then ((p2).toUInt32.toUInt16.toUInt32.toInt32) else ((((55296 : Int32) + (p2 &&& (2047 : Int32)))).toUInt32.toUInt16.toUInt32.toInt32))) = c0 at hc0 pre_71
  have hc1 : 0 ≤ ((if (p4 &&& (1 : Int32)) = (0 : Int32) then (((XT.ushr p2 (16 : Int32))).toUInt32.toUInt16.toUInt32.toInt32) else ((((55296 : Int32) + ((XT.ushr p2 (16 : Int32)) &&& (2047 : Int32)))).toUInt32.toUInt16.toUInt32.toInt32))).toInt ∧ ((if (p4 &&& (1 : Int32)) = (0 : Int32) then (((XT.ushr p2 (16 : Int32))).toUInt32.toUInt16.toUInt32.toInt32) else ((((55296 : Int32) + ((XT.ushr p2 (16 : Int32)) &&& (2047 : Int32)))).toUInt32.toUInt16.toUInt32.toInt32))).toInt < 65536 := own_rgi (own_i2cr _) (own_i2cr _)
  generalize ((if (p4 &&& (1 : Int32)) = (0 : Int32) then (((XT.ushr p2 (16 : Int32))).toUInt32.toUInt16.toUInt32.toInt32) else ((((55296 : Int32) + ((XT.ushr p2 (16 : Int32)) &&& (2047 : Int32)))).toUInt32.toUInt16.toUInt32.toInt32))) = c1 at hc1 pre_71
  obtain ⟨T72, h72, X72, e72, E72, A72, D72, U72, st72⟩ := newO X65 hx hZ63 ho63 (oW hw 287 rfl) (oW hw 2 rfl) (oW hw 1 rfl) e65 (g := (mkF m 87 #[vi p1, vi p2, vi p3, vi p4, vr m58, vi e0, vi e1, vi c0, vi c1, uz, uz, uz, uz, uz, uz, uz, uz] [])) rfl (hb hby at_87) (by decide) (by decide)
  obtain ⟨b72, g72⟩ : ∃ z, z = h63.size := ⟨_, rfl⟩
  rw [← g72] at A72 D72 U72 st72
  have O72 : Old Z n0 h72 := O63.ext E72
  have gl72 := Nat.le_of_eq g72.symm
  have F73 : Fld Z h72 b72 s2_ "value" "[B" .null := D72 (Or.inr (oW hw 4 rfl)) (ty := (.array .byte)) (by decide)
  have F74 : Fld Z h72 b72 s2_ "coder" "B" (.int 0) := D72 (Or.inr (oW hw 5 rfl)) (ty := .byte) (by decide)
  have pre_75 : Pr p e below E0 T72 (mkF m 90 #[vi p1, vi p2, vi p3, vi p4, vr m58, vi e0, vi e1, vi c0, vi c1, uz, uz, uz, uz, uz, uz, uz, uz] [(.ref b72)]) := fun t k => pre_71 t (st72 t k)
  have pre_76 := fun t k => pre_75 t <| XS.dup X72.here hx rfl (hb hby at_90) rfl rfl <| XS.iconst X72.here hx rfl (hb hby at_91) <| k
  obtain ⟨T77, h77, cA77, X77, e77, E77, A77, st77⟩ := newP X72 hx hZ63 (oW hw 288 rfl) e72 (g := (mkF m 92 #[vi p1, vi p2, vi p3, vi p4, vr m58, vi e0, vi e1, vi c0, vi c1, uz, uz, uz, uz, uz, uz, uz, uz] [(.int 2), (.ref b72), (.ref b72)])) rfl (hb hby at_92) rfl (by decide) (cap := 2) (by decide) (by decide) (by decide) (by decide)
  obtain ⟨b77, g77⟩ : ∃ z, z = h72.size := ⟨_, rfl⟩
  rw [← g77] at A77 st77
  have O77 : Old Z n0 h77 := O72.ext E77
  have V77 : Arv Z h77 b77 cA77 .char (2 : Int32) [(.int 0), (.int 0)] (.int 0) := (Arv.new A77 (by decide)).pad (pad_rep [] _ 2)
  have gl77 := Nat.le_of_eq g77.symm
  have pre_78 : Pr p e below E0 T77 (mkF m 94 #[vi p1, vi p2, vi p3, vi p4, vr m58, vi e0, vi e1, vi c0, vi c1, uz, uz, uz, uz, uz, uz, uz, uz] [(.ref b77), (.ref b72), (.ref b72)]) := fun t k => pre_76 t (st77 t k)
  have pre_79 := fun t k => pre_78 t <| XS.dup X77.here hx rfl (hb hby at_94) rfl rfl <| XS.iconst X77.here hx rfl (hb hby at_95) <| oJ K63x X77 at_96 rfl rfl <| k
  obtain ⟨cl80, Ar80, q80, S80, M80, H80, G80⟩ := id V77
  obtain ⟨T80, h80, X80, e80, W80, st80⟩ := stC X77 hx hZ63 e77 Ar80 (j := (0 : Int32)) (inb_of S80 (by decide)) (g := (mkF m 98 #[vi p1, vi p2, vi p3, vi p4, vr m58, vi e0, vi e1, vi c0, vi c1, uz, uz, uz, uz, uz, uz, uz, uz] [(.int e0), (.int 0), (.ref b77), (.ref b77), (.ref b72), (.ref b72)])) rfl rfl (hb hby at_98)
  have v_81 := (Nat.le_trans (own_le O72) gl77)
  have N80 := Fr.snoc X80 N65 v_81
  have O80 : Old Z n0 h80 := O77.wr W80 v_81
  rw [(own_ncr he0)] at W80
  have V80 : Arv Z h80 b77 cA77 .char (2 : Int32) [(.int e0), (.int 0)] (.int 0) := Arv.set Ar80 q80 S80 M80 H80 G80 (by rw [← (own_ncr he0)]; exact (fits_nar_char _)) W80 0 rfl (Nat.le_of_ble_eq_true rfl)
  have pre_82 : Pr p e below E0 T80 (mkF m 99 #[vi p1, vi p2, vi p3, vi p4, vr m58, vi e0, vi e1, vi c0, vi c1, uz, uz, uz, uz, uz, uz, uz, uz] [(.ref b77), (.ref b72), (.ref b72)]) := fun t k => pre_79 t (st80 t k)
  have pre_83 := fun t k => pre_82 t <| XS.dup X80.here hx rfl (hb hby at_99) rfl rfl <| XS.iconst X80.here hx rfl (hb hby at_100) <| oJ K63x X80 at_101 rfl rfl <| k
  obtain ⟨cl84, Ar84, q84, S84, M84, H84, G84⟩ := id V80
  obtain ⟨T84, h84, X84, e84, W84, st84⟩ := stC X80 hx hZ63 e80 Ar84 (j := (1 : Int32)) (inb_of S84 (by decide)) (g := (mkF m 103 #[vi p1, vi p2, vi p3, vi p4, vr m58, vi e0, vi e1, vi c0, vi c1, uz, uz, uz, uz, uz, uz, uz, uz] [(.int e1), (.int 1), (.ref b77), (.ref b77), (.ref b72), (.ref b72)])) rfl rfl (hb hby at_103)
  have N84 := Fr.snoc X84 N80 v_81
  have O84 : Old Z n0 h84 := O80.wr W84 v_81
  rw [(own_ncr he1)] at W84
  have V84 : Arv Z h84 b77 cA77 .char (2 : Int32) [(.int e0), (.int e1)] (.int 0) := Arv.set Ar84 q84 S84 M84 H84 G84 (by rw [← (own_ncr he1)]; exact (fits_nar_char _)) W84 1 rfl (Nat.le_of_ble_eq_true rfl)
  have pre_85 : Pr p e below E0 T84 (mkF m 104 #[vi p1, vi p2, vi p3, vi p4, vr m58, vi e0, vi e1, vi c0, vi c1, uz, uz, uz, uz, uz, uz, uz, uz] [(.ref b77), (.ref b72), (.ref b72)]) := fun t k => pre_83 t (st84 t k)
  have x_86 := (Nat.ne_of_lt (Nat.lt_of_lt_of_le A72.lt gl77))
  have f_87 := (((F73.ext E77).other W80 (Or.inl x_86)).other W84 (Or.inl x_86))
  have f_88 := (((F74.ext E77).other W80 (Or.inl x_86)).other W84 (Or.inl x_86))
  have v_89 := (Nat.le_trans (own_le O63) gl72)
  obtain ⟨T90, _, L90, X90, ⟨rfl, N90q, K90, b90, kB90, sb90, HM90⟩, pre_90⟩ := cI pre_85 K63x X84 e84 (rm_nst l Z a0 hw b72 b77 .null (.int 0) G1 cA77 e0 e1 h84 n0 O84 (((A72.ext E77).wr W80).wr W84) f_87 f_88 v_89 SC hG V84 he0 he1 SU1 SU2 SU3) (oW hw 289 rfl) (oW hw 290 rfl) (oW hw 1 rfl) (oW hw 291 rfl) rfl (lenOf d_52 rfl) at_104 rfl rfl rfl (W := 1) (Nat.le_of_eq rfl) (by decide) rfl
  have N90 := Fr.app N84 N90q
  have O90 : Old Z n0 T90.heap := O84.keep K90 (allS v_89 all0)
  have HMo90 : own_M Z T90.heap b72 b90 kB90 [e0, e1] := HM90
  have pre_91 := fun t k => pre_90 t <| XS.astore X90.here hx rfl (hb hby at_107) rfl rfl (l' := #[vi p1, vi p2, vi p3, vi p4, vr m58, vi e0, vi e1, vi c0, vi c1, vr b72, uz, uz, uz, uz, uz, uz, uz]) rfl <| k
  obtain ⟨T92, h92, X92, e92, E92, A92, D92, U92, st92⟩ := newO X90 hx hZ63 ho63 (oW hw 287 rfl) (oW hw 2 rfl) (oW hw 1 rfl) rfl (g := (mkF m 109 #[vi p1, vi p2, vi p3, vi p4, vr m58, vi e0, vi e1, vi c0, vi c1, vr b72, uz, uz, uz, uz, uz, uz, uz] [])) rfl (hb hby at_109) (by decide) (by decide)
  obtain ⟨b92, g92⟩ : ∃ z, z = T90.heap.size := ⟨_, rfl⟩
  rw [← g92] at A92 D92 U92 st92
  have O92 : Old Z n0 h92 := O90.ext E92
  have gl92 := Nat.le_of_eq g92.symm
  have F93 : Fld Z h92 b92 s2_ "value" "[B" .null := D92 (Or.inr (oW hw 4 rfl)) (ty := (.array .byte)) (by decide)
  have F94 : Fld Z h92 b92 s2_ "coder" "B" (.int 0) := D92 (Or.inr (oW hw 5 rfl)) (ty := .byte) (by decide)
  have pre_95 : Pr p e below E0 T92 (mkF m 112 #[vi p1, vi p2, vi p3, vi p4, vr m58, vi e0, vi e1, vi c0, vi c1, vr b72, uz, uz, uz, uz, uz, uz, uz] [(.ref b92)]) := fun t k => pre_91 t (st92 t k)
  have pre_96 := fun t k => pre_95 t <| XS.dup X92.here hx rfl (hb hby at_112) rfl rfl <| XS.iconst X92.here hx rfl (hb hby at_113) <| k
  obtain ⟨T97, h97, cA97, X97, e97, E97, A97, st97⟩ := newP X92 hx hZ63 (oW hw 288 rfl) e92 (g := (mkF m 114 #[vi p1, vi p2, vi p3, vi p4, vr m58, vi e0, vi e1, vi c0, vi c1, vr b72, uz, uz, uz, uz, uz, uz, uz] [(.int 2), (.ref b92), (.ref b92)])) rfl (hb hby at_114) rfl (by decide) (cap := 2) (by decide) (by decide) (by decide) (by decide)
  obtain ⟨b97, g97⟩ : ∃ z, z = h92.size := ⟨_, rfl⟩
  rw [← g97] at A97 st97
  have O97 : Old Z n0 h97 := O92.ext E97
  have V97 : Arv Z h97 b97 cA97 .char (2 : Int32) [(.int 0), (.int 0)] (.int 0) := (Arv.new A97 (by decide)).pad (pad_rep [] _ 2)
  have gl97 := Nat.le_of_eq g97.symm
  have pre_98 : Pr p e below E0 T97 (mkF m 116 #[vi p1, vi p2, vi p3, vi p4, vr m58, vi e0, vi e1, vi c0, vi c1, vr b72, uz, uz, uz, uz, uz, uz, uz] [(.ref b97), (.ref b92), (.ref b92)]) := fun t k => pre_96 t (st97 t k)
  have pre_99 := fun t k => pre_98 t <| XS.dup X97.here hx rfl (hb hby at_116) rfl rfl <| XS.iconst X97.here hx rfl (hb hby at_117) <| oJ K63x X97 at_118 rfl rfl <| k
  obtain ⟨cl100, Ar100, q100, S100, M100, H100, G100⟩ := id V97
  obtain ⟨T100, h100, X100, e100, W100, st100⟩ := stC X97 hx hZ63 e97 Ar100 (j := (0 : Int32)) (inb_of S100 (by decide)) (g := (mkF m 120 #[vi p1, vi p2, vi p3, vi p4, vr m58, vi e0, vi e1, vi c0, vi c1, vr b72, uz, uz, uz, uz, uz, uz, uz] [(.int c0), (.int 0), (.ref b97), (.ref b97), (.ref b92), (.ref b92)])) rfl rfl (hb hby at_120)
  have v_101 := (Nat.le_trans (own_le O92) gl97)
  have N100 := Fr.snoc X100 N90 v_101
  have O100 : Old Z n0 h100 := O97.wr W100 v_101
  rw [(own_ncr hc0)] at W100
  have V100 : Arv Z h100 b97 cA97 .char (2 : Int32) [(.int c0), (.int 0)] (.int 0) := Arv.set Ar100 q100 S100 M100 H100 G100 (by rw [← (own_ncr hc0)]; exact (fits_nar_char _)) W100 0 rfl (Nat.le_of_ble_eq_true rfl)
  have pre_102 : Pr p e below E0 T100 (mkF m 121 #[vi p1, vi p2, vi p3, vi p4, vr m58, vi e0, vi e1, vi c0, vi c1, vr b72, uz, uz, uz, uz, uz, uz, uz] [(.ref b97), (.ref b92), (.ref b92)]) := fun t k => pre_99 t (st100 t k)
  have pre_103 := fun t k => pre_102 t <| XS.dup X100.here hx rfl (hb hby at_121) rfl rfl <| XS.iconst X100.here hx rfl (hb hby at_122) <| oJ K63x X100 at_123 rfl rfl <| k
  obtain ⟨cl104, Ar104, q104, S104, M104, H104, G104⟩ := id V100
  obtain ⟨T104, h104, X104, e104, W104, st104⟩ := stC X100 hx hZ63 e100 Ar104 (j := (1 : Int32)) (inb_of S104 (by decide)) (g := (mkF m 125 #[vi p1, vi p2, vi p3, vi p4, vr m58, vi e0, vi e1, vi c0, vi c1, vr b72, uz, uz, uz, uz, uz, uz, uz] [(.int c1), (.int 1), (.ref b97), (.ref b97), (.ref b92), (.ref b92)])) rfl rfl (hb hby at_125)
  have N104 := Fr.snoc X104 N100 v_101
  have O104 : Old Z n0 h104 := O100.wr W104 v_101
  rw [(own_ncr hc1)] at W104
  have V104 : Arv Z h104 b97 cA97 .char (2 : Int32) [(.int c0), (.int c1)] (.int 0) := Arv.set Ar104 q104 S104 M104 H104 G104 (by rw [← (own_ncr hc1)]; exact (fits_nar_char _)) W104 1 rfl (Nat.le_of_ble_eq_true rfl)
  have pre_105 : Pr p e below E0 T104 (mkF m 126 #[vi p1, vi p2, vi p3, vi p4, vr m58, vi e0, vi e1, vi c0, vi c1, vr b72, uz, uz, uz, uz, uz, uz, uz] [(.ref b97), (.ref b92), (.ref b92)]) := fun t k => pre_103 t (st104 t k)
  have x_106 := (Nat.ne_of_lt (Nat.lt_of_lt_of_le A92.lt gl97))
  have f_107 := (((F93.ext E97).other W100 (Or.inl x_106)).other W104 (Or.inl x_106))
  have f_108 := (((F94.ext E97).other W100 (Or.inl x_106)).other W104 (Or.inl x_106))
  have v_109 := (Nat.le_trans (own_le O90) gl92)
  obtain ⟨T110, _, L110, X110, ⟨rfl, N110q, K110, b110, kB110, sb110, HM110⟩, pre_110⟩ := cI pre_105 K63x X104 e104 (rm_nst l Z a0 hw b92 b97 .null (.int 0) G1 cA97 c0 c1 h104 n0 O104 (((A92.ext E97).wr W100).wr W104) f_107 f_108 v_109 SC hG V104 hc0 hc1 SU1 SU2 SU3) (oW hw 289 rfl) (oW hw 290 rfl) (oW hw 1 rfl) (oW hw 291 rfl) rfl (lenOf d_52 rfl) at_126 rfl rfl rfl (W := 1) (Nat.le_of_eq rfl) (by decide) rfl
  have N110 := Fr.app N104 N110q
  have O110 : Old Z n0 T110.heap := O104.keep K110 (allS v_109 all0)
  have HMo110 : own_M Z T110.heap b92 b110 kB110 [c0, c1] := HM110
  have pre_111 := fun t k => pre_110 t <| XS.astore X110.here hx rfl (hb hby at_129) rfl rfl (l' := #[vi p1, vi p2, vi p3, vi p4, vr m58, vi e0, vi e1, vi c0, vi c1, vr b72, vr b92, uz, uz, uz, uz, uz, uz]) rfl <| k
  obtain ⟨n, hnE⟩ : ∃ n, n = (p3 >>> ((18 : Int32) &&& 31)) := ⟨_, rfl⟩
  have hn := own_nr hnE
  have f_112 := (((((((((A72.ext E77).wr W80).wr W84).keep K90).ext E92).ext E97).wr W100).wr W104).keep K110)
  have x_113 := (Nat.ne_of_lt (Nat.lt_of_lt_of_le (((((A72.ext E77).wr W80).wr W84).keep K90).ext E92).lt gl97))
  have x_114 := (Nat.ne_of_lt (Nat.lt_of_lt_of_le (HMo90.ext E92).lt gl97))
  have x_115 := (Nat.ne_of_lt (Nat.lt_of_lt_of_le ((((A72.ext E77).wr W80).wr W84).keep K90).lt gl92))
  have x_116 := (Nat.ne_of_lt (Nat.lt_of_lt_of_le HMo90.lt gl92))
  have f_117 := (((((HMo90.ext E92).ext E97).other W100 x_113 x_114).other W104 x_113 x_114).keep K110 (ninS x_115 nin0) (ninS x_116 nin0))
  have f_118 := ((((A92.ext E97).wr W100).wr W104).keep K110)
  have f_119 := (((((((((((Ex7.ext E63).ext E72).ext E77).wr W80).wr W84).keep K90).ext E92).ext E97).wr W100).wr W104).keep K110)
  have x_120 := (Nat.ne_of_lt (Nat.lt_of_lt_of_le ((Ex7.ext E63).ext E72).lt gl77))
  have x_121 := (Nat.ne_of_lt (Nat.lt_of_lt_of_le (Ex7.ext E63).lt gl72))
  have x_122 := (Nat.ne_of_lt (Nat.lt_of_lt_of_le (((((((Ex7.ext E63).ext E72).ext E77).wr W80).wr W84).keep K90).ext E92).lt gl97))
  have x_123 := (Nat.ne_of_lt (Nat.lt_of_lt_of_le ((((((Ex7.ext E63).ext E72).ext E77).wr W80).wr W84).keep K90).lt gl92))
  have f_124 := (((((((((((Fc7.ext E63).ext E72).ext E77).other W80 (Or.inl x_120)).other W84 (Or.inl x_120)).keep K90 (ninS x_121 nin0)).ext E92).ext E97).other W100 (Or.inl x_122)).other W104 (Or.inl x_122)).keep K110 (ninS x_123 nin0))
  have f_125 := (((((((((((Fv7.ext E63).ext E72).ext E77).other W80 (Or.inl x_120)).other W84 (Or.inl x_120)).keep K90 (ninS x_121 nin0)).ext E92).ext E97).other W100 (Or.inl x_122)).other W104 (Or.inl x_122)).keep K110 (ninS x_123 nin0))
  have x_126 := (Nat.ne_of_lt (Nat.lt_of_lt_of_le ((Vl7.ext E63).ext E72).lt gl77))
  have x_127 := (Nat.ne_of_lt (Nat.lt_of_lt_of_le (Vl7.ext E63).lt gl72))
  have x_128 := (Nat.ne_of_lt (Nat.lt_of_lt_of_le (((((((Vl7.ext E63).ext E72).ext E77).other W80 x_126).other W84 x_126).keep K90 (ninS x_127 nin0)).ext E92).lt gl97))
  have x_129 := (Nat.ne_of_lt (Nat.lt_of_lt_of_le ((((((Vl7.ext E63).ext E72).ext E77).other W80 x_126).other W84 x_126).keep K90 (ninS x_127 nin0)).lt gl92))
  have f_130 := (((((((((((Vl7.ext E63).ext E72).ext E77).other W80 x_126).other W84 x_126).keep K90 (ninS x_127 nin0)).ext E92).ext E97).other W100 x_128).other W104 x_128).keep K110 (ninS x_129 nin0))
  have f_131 := (((((((((((Ex13.ext E63).ext E72).ext E77).wr W80).wr W84).keep K90).ext E92).ext E97).wr W100).wr W104).keep K110)
  have x_132 := (Nat.ne_of_lt (Nat.lt_of_lt_of_le ((Ex13.ext E63).ext E72).lt gl77))
  have x_133 := (Nat.ne_of_lt (Nat.lt_of_lt_of_le (Ex13.ext E63).lt gl72))
  have x_134 := (Nat.ne_of_lt (Nat.lt_of_lt_of_le (((((((Ex13.ext E63).ext E72).ext E77).wr W80).wr W84).keep K90).ext E92).lt gl97))
  have x_135 := (Nat.ne_of_lt (Nat.lt_of_lt_of_le ((((((Ex13.ext E63).ext E72).ext E77).wr W80).wr W84).keep K90).lt gl92))
  have f_136 := (((((((((((Fc13.ext E63).ext E72).ext E77).other W80 (Or.inl x_132)).other W84 (Or.inl x_132)).keep K90 (ninS x_133 nin0)).ext E92).ext E97).other W100 (Or.inl x_134)).other W104 (Or.inl x_134)).keep K110 (ninS x_135 nin0))
  have f_137 := (((((((((((Fv13.ext E63).ext E72).ext E77).other W80 (Or.inl x_132)).other W84 (Or.inl x_132)).keep K90 (ninS x_133 nin0)).ext E92).ext E97).other W100 (Or.inl x_134)).other W104 (Or.inl x_134)).keep K110 (ninS x_135 nin0))
  have x_138 := (Nat.ne_of_lt (Nat.lt_of_lt_of_le ((Vl13.ext E63).ext E72).lt gl77))
  have x_139 := (Nat.ne_of_lt (Nat.lt_of_lt_of_le (Vl13.ext E63).lt gl72))
  have x_140 := (Nat.ne_of_lt (Nat.lt_of_lt_of_le (((((((Vl13.ext E63).ext E72).ext E77).other W80 x_138).other W84 x_138).keep K90 (ninS x_139 nin0)).ext E92).lt gl97))
  have x_141 := (Nat.ne_of_lt (Nat.lt_of_lt_of_le ((((((Vl13.ext E63).ext E72).ext E77).other W80 x_138).other W84 x_138).keep K90 (ninS x_139 nin0)).lt gl92))
  have f_142 := (((((((((((Vl13.ext E63).ext E72).ext E77).other W80 x_138).other W84 x_138).keep K90 (ninS x_139 nin0)).ext E92).ext E97).other W100 x_140).other W104 x_140).keep K110 (ninS x_141 nin0))
  have f_143 := (((((((((((Ex28.ext E63).ext E72).ext E77).wr W80).wr W84).keep K90).ext E92).ext E97).wr W100).wr W104).keep K110)
  have x_144 := (Nat.ne_of_lt (Nat.lt_of_lt_of_le ((Ex28.ext E63).ext E72).lt gl77))
  have x_145 := (Nat.ne_of_lt (Nat.lt_of_lt_of_le (Ex28.ext E63).lt gl72))
  have x_146 := (Nat.ne_of_lt (Nat.lt_of_lt_of_le (((((((Ex28.ext E63).ext E72).ext E77).wr W80).wr W84).keep K90).ext E92).lt gl97))
  have x_147 := (Nat.ne_of_lt (Nat.lt_of_lt_of_le ((((((Ex28.ext E63).ext E72).ext E77).wr W80).wr W84).keep K90).lt gl92))
  have f_148 := (((((((((((Fc28.ext E63).ext E72).ext E77).other W80 (Or.inl x_144)).other W84 (Or.inl x_144)).keep K90 (ninS x_145 nin0)).ext E92).ext E97).other W100 (Or.inl x_146)).other W104 (Or.inl x_146)).keep K110 (ninS x_147 nin0))
  have f_149 := (((((((((((Fv28.ext E63).ext E72).ext E77).other W80 (Or.inl x_144)).other W84 (Or.inl x_144)).keep K90 (ninS x_145 nin0)).ext E92).ext E97).other W100 (Or.inl x_146)).other W104 (Or.inl x_146)).keep K110 (ninS x_147 nin0))
  have x_150 := (Nat.ne_of_lt (Nat.lt_of_lt_of_le ((Vl28.ext E63).ext E72).lt gl77))
  have x_151 := (Nat.ne_of_lt (Nat.lt_of_lt_of_le (Vl28.ext E63).lt gl72))
  have x_152 := (Nat.ne_of_lt (Nat.lt_of_lt_of_le (((((((Vl28.ext E63).ext E72).ext E77).other W80 x_150).other W84 x_150).keep K90 (ninS x_151 nin0)).ext E92).lt gl97))
  have x_153 := (Nat.ne_of_lt (Nat.lt_of_lt_of_le ((((((Vl28.ext E63).ext E72).ext E77).other W80 x_150).other W84 x_150).keep K90 (ninS x_151 nin0)).lt gl92))
  have f_154 := (((((((((((Vl28.ext E63).ext E72).ext E77).other W80 x_150).other W84 x_150).keep K90 (ninS x_151 nin0)).ext E92).ext E97).other W100 x_152).other W104 x_152).keep K110 (ninS x_153 nin0))
  have f_155 := (((((((((((Ex48.ext E63).ext E72).ext E77).wr W80).wr W84).keep K90).ext E92).ext E97).wr W100).wr W104).keep K110)
  have x_156 := (Nat.ne_of_lt (Nat.lt_of_lt_of_le ((Ex48.ext E63).ext E72).lt gl77))
  have x_157 := (Nat.ne_of_lt (Nat.lt_of_lt_of_le (Ex48.ext E63).lt gl72))
  have x_158 := (Nat.ne_of_lt (Nat.lt_of_lt_of_le (((((((Ex48.ext E63).ext E72).ext E77).wr W80).wr W84).keep K90).ext E92).lt gl97))
  have x_159 := (Nat.ne_of_lt (Nat.lt_of_lt_of_le ((((((Ex48.ext E63).ext E72).ext E77).wr W80).wr W84).keep K90).lt gl92))
  have f_160 := (((((((((((Fc48.ext E63).ext E72).ext E77).other W80 (Or.inl x_156)).other W84 (Or.inl x_156)).keep K90 (ninS x_157 nin0)).ext E92).ext E97).other W100 (Or.inl x_158)).other W104 (Or.inl x_158)).keep K110 (ninS x_159 nin0))
  have f_161 := (((((((((((Fv48.ext E63).ext E72).ext E77).other W80 (Or.inl x_156)).other W84 (Or.inl x_156)).keep K90 (ninS x_157 nin0)).ext E92).ext E97).other W100 (Or.inl x_158)).other W104 (Or.inl x_158)).keep K110 (ninS x_159 nin0))
  have x_162 := (Nat.ne_of_lt (Nat.lt_of_lt_of_le ((Vl48.ext E63).ext E72).lt gl77))
  have x_163 := (Nat.ne_of_lt (Nat.lt_of_lt_of_le (Vl48.ext E63).lt gl72))
  have x_164 := (Nat.ne_of_lt (Nat.lt_of_lt_of_le (((((((Vl48.ext E63).ext E72).ext E77).other W80 x_162).other W84 x_162).keep K90 (ninS x_163 nin0)).ext E92).lt gl97))
  have x_165 := (Nat.ne_of_lt (Nat.lt_of_lt_of_le ((((((Vl48.ext E63).ext E72).ext E77).other W80 x_162).other W84 x_162).keep K90 (ninS x_163 nin0)).lt gl92))
  have f_166 := (((((((((((Vl48.ext E63).ext E72).ext E77).other W80 x_162).other W84 x_162).keep K90 (ninS x_163 nin0)).ext E92).ext E97).other W100 x_164).other W104 x_164).keep K110 (ninS x_165 nin0))
  have pre_167 := fun t k => pre_111 t <| oB K63x X110 at_131 rfl rfl rfl <| oB K63x X110 at_133 rfl rfl rfl <| oI K63x X110 at_135 rfl rfl <| k
  obtain ⟨_, _, ⟨T168, L168, k168, n168⟩, -, Y168, hs168, hg168, ⟨Lc168, hQ168, l168, y168, z168⟩, st168⟩ := callSS X110 hx (y := y_72) ho63 (mvT hZ63 (oW hw 10 rfl)) (mvT hZ63 (oW hw 11 rfl)) (mvT hZ63 (oW hw 12 rfl)) (mvT hZ63 (oW hw 13 rfl)) (by decide) (own_backSK (W := 0) (rm_ofmB l Z a0 hw b72 b92 p3 G1 w1 b90 kB90 e0 e1 b110 kB110 c0 c1 n aO kO aT kT a7 b7 k7 a13 b13 k13 a28 b28 k28 a48 b48 k48 T110.heap n0 O110 SC hG SF hr SU1 SU2 SU3 SD1 VO SD2 VT f_112 f_117 f_118 HMo110 hc0 hc1 hnE hl hTW f_119 f_124 f_125 f_130 f_131 f_136 f_137 f_142 f_143 f_148 f_149 f_154 f_155 f_160 f_161 f_166) hZ63 (oW hw 13 rfl) (oW hw 12 rfl) (by decide) (by decide) (Vm.MethodsKnown.alikeC hS63.1.alike hTK) (Vm.FramesKnown.alikeC hS63.1.alike hBelow) (fun _ q => ⟨Lit.stays (Lit.stays (Li7 : Lit (s.setVm T58.vm) s7_ 7 a7) hSn63.1) q.wide, Lit.stays (Lit.stays (Li13 : Lit (s.setVm T58.vm) s7_ 13 a13) hSn63.1) q.wide, Lit.stays (Lit.stays (Li28 : Lit (s.setVm T58.vm) s7_ 28 a28) hSn63.1) q.wide, Lit.stays (Lit.stays (Li48 : Lit (s.setVm T58.vm) s7_ 48 a48) hSn63.1) q.wide⟩)) (g := (mkF m 136 #[vi p1, vi p2, vi p3, vi p4, vr m58, vi e0, vi e1, vi c0, vi c1, vr b72, vr b92, uz, uz, uz, uz, uz, uz] [(.int p3), (.ref b92), (.ref b72)])) rfl (by rw [hml]; rfl) (argsL := [(.ref b72), (.ref b92), (.int p3)]) (rest := []) (lenOf d_50 rfl) rfl (by show 2 * 0 + _ ≤ _; exact Nat.le_of_eq rfl) (hb hby at_136) (fun _ _ => ⟨rfl, rfl, (by decide : 40 + 26 ≤ _), (by decide : 9684 + 8600 ≤ _)⟩)
  dsimp only [Pt.U, Pt.locs, Pt.cells, Pt.slots] at Y168 hs168 hg168 l168 y168 z168 st168 hQ168
  subst l168 y168 z168
  obtain ⟨X168, hS168, hZ168, ho168⟩ := rebS hS63 (Nat.le_trans (Nat.le_refl _) (Nat.le_trans (Nat.le_trans (Nat.le_trans (Nat.le_trans (Nat.le_trans (Nat.le_trans (Nat.le_trans (Nat.le_trans (Nat.le_trans (Nat.le_trans (Nat.le_refl _) E72.1) E77.1) (Nat.le_of_eq W80.size.symm)) (Nat.le_of_eq W84.size.symm)) K90.1) E92.1) E97.1) (Nat.le_of_eq W100.size.symm)) (Nat.le_of_eq W104.size.symm)) K110.1)) Y168 hs168 hg168 hZ63 ho63
  have K168x : Kx p (s.setVm T168.vm) Z m c _ _ _ := ⟨hx, hZ168, ho168, hby, hml⟩
  obtain ⟨x168, m168, b168, k168m, rfl, N168q, K168, sx168, sm168, Ex168, Fm168, Em168, HM168⟩ := hQ168
  have N168 := Fr.app N110 N168q
  have O168 : Old Z n0 T168.heap := O110.keep K168 all0
  have pre_169 : Pr p e below E0 T168 (mkF m 139 #[vi p1, vi p2, vi p3, vi p4, vr m58, vi e0, vi e1, vi c0, vi c1, vr b72, vr b92, uz, uz, uz, uz, uz, uz] [(.ref x168)]) := fun t k => pre_167 t (st168.trans k)
  obtain ⟨T170, _, L170, X170, ⟨rfl, N170q, e170⟩, pre_170⟩ := cVu pre_169 K168x X168 rfl (rm_gms l Z a0 hw x168 m168 T168.heap n0 O168 Fm168) (oW hw 269 rfl) (oW hw 272 rfl) (oW hw 230 rfl) (oW hw 274 rfl) (oW hw 270 rfl) (oW hw 271 rfl) (oW hw 273 rfl) (by decide) Ex168 rfl (lenOf d_45 rfl) at_139 rfl rfl rfl (W := 0) (Nat.le_of_eq rfl) (by decide)
  have N170 := Fr.app N168 N170q
  have pre_171 := fun t k => pre_170 t <| XS.astore X170.here hx rfl (hb hby at_142) rfl rfl (l' := #[vi p1, vi p2, vi p3, vi p4, vr m58, vi e0, vi e1, vi c0, vi c1, vr b72, vr b92, vr m168, uz, uz, uz, uz, uz]) rfl <| oB K168x X170 at_144 rfl rfl rfl <| XT.ifnonnullYes X170.here hx rfl (pc0 := 146) (pc' := 151) rfl (hb hby at_146) rfl (by decide) (by decide) <| oJ K168x X170 at_151 rfl rfl <| oLi K168x X170 (oW hw 286 rfl) at_153 rfl <| k
  have pre_176 : Pr p e below E0 T170 (mkF m 184 #[vi p1, vi p2, vi p3, vi p4, vr m58, vi e0, vi e1, vi c0, vi c1, vr b72, vr b92, vr m168, uz, uz, uz, uz, uz] [(.int (if c0 < (55296 : Int32) then (0 : Int32) else (if (56319 : Int32) < c0 then (0 : Int32) else (if c1 < (56320 : Int32) then (0 : Int32) else (if (57343 : Int32) < c1 then (0 : Int32) else (1 : Int32))))))]) := by
    intro t k
    refine pre_171 t ?_
    by_cases hm172 : c0 < (55296 : Int32)
    · skip
      refine XS.icmpYes X170.here hx rfl (pc0 := 155) (pc' := 183) rfl (hb hby at_155) rfl (XT.ii_lt_t hm172) (by decide) (by decide) ?_
      refine XS.iconst X170.here hx rfl (hb hby at_183) ?_
      first | exact k | (simp only [if_pos hm172] at k; exact k) | (show Sp p e below T170 (mkF m 184 #[vi p1, vi p2, vi p3, vi p4, vr m58, vi e0, vi e1, vi c0, vi c1, vr b72, vr b92, vr m168, uz, uz, uz, uz, uz] [(.int 0)]) _; simp only [if_pos hm172] at k ⊢; exact k)
    · skip
      refine XS.icmpNo X170.here hx rfl (hb hby at_155) rfl (XT.ii_lt_f hm172) ?_
      refine oJ K168x X170 at_158 rfl rfl ?_
      refine oLi K168x X170 (oW hw 339 rfl) at_160 rfl ?_
      by_cases hm173 : (56319 : Int32) < c0
      · skip
        refine XS.icmpYes X170.here hx rfl (pc0 := 162) (pc' := 183) rfl (hb hby at_162) rfl (XT.ii_gt_t hm173) (by decide) (by decide) ?_
        refine XS.iconst X170.here hx rfl (hb hby at_183) ?_
        first | exact k | (simp only [if_neg hm172, if_pos hm173] at k; exact k) | (show Sp p e below T170 (mkF m 184 #[vi p1, vi p2, vi p3, vi p4, vr m58, vi e0, vi e1, vi c0, vi c1, vr b72, vr b92, vr m168, uz, uz, uz, uz, uz] [(.int 0)]) _; simp only [if_neg hm172, if_pos hm173] at k ⊢; exact k)
      · skip
        refine XS.icmpNo X170.here hx rfl (hb hby at_162) rfl (XT.ii_gt_f hm173) ?_
        refine oJ K168x X170 at_165 rfl rfl ?_
        refine oLi K168x X170 (oW hw 340 rfl) at_167 rfl ?_
        by_cases hm174 : c1 < (56320 : Int32)
        · skip
          refine XS.icmpYes X170.here hx rfl (pc0 := 169) (pc' := 183) rfl (hb hby at_169) rfl (XT.ii_lt_t hm174) (by decide) (by decide) ?_
          refine XS.iconst X170.here hx rfl (hb hby at_183) ?_
          first | exact k | (simp only [if_neg hm172, if_neg hm173, if_pos hm174] at k; exact k) | (show Sp p e below T170 (mkF m 184 #[vi p1, vi p2, vi p3, vi p4, vr m58, vi e0, vi e1, vi c0, vi c1, vr b72, vr b92, vr m168, uz, uz, uz, uz, uz] [(.int 0)]) _; simp only [if_neg hm172, if_neg hm173, if_pos hm174] at k ⊢; exact k)
        · skip
          refine XS.icmpNo X170.here hx rfl (hb hby at_169) rfl (XT.ii_lt_f hm174) ?_
          refine oJ K168x X170 at_172 rfl rfl ?_
          refine oLi K168x X170 (oW hw 415 rfl) at_174 rfl ?_
          by_cases hm175 : (57343 : Int32) < c1
          · skip
            refine XS.icmpYes X170.here hx rfl (pc0 := 176) (pc' := 183) rfl (hb hby at_176) rfl (XT.ii_gt_t hm175) (by decide) (by decide) ?_
            refine XS.iconst X170.here hx rfl (hb hby at_183) ?_
            first | exact k | (simp only [if_neg hm172, if_neg hm173, if_neg hm174, if_pos hm175] at k; exact k) | (show Sp p e below T170 (mkF m 184 #[vi p1, vi p2, vi p3, vi p4, vr m58, vi e0, vi e1, vi c0, vi c1, vr b72, vr b92, vr m168, uz, uz, uz, uz, uz] [(.int 0)]) _; simp only [if_neg hm172, if_neg hm173, if_neg hm174, if_pos hm175] at k ⊢; exact k)
          · skip
            refine XS.icmpNo X170.here hx rfl (hb hby at_176) rfl (XT.ii_gt_f hm175) ?_
            refine XS.iconst X170.here hx rfl (hb hby at_179) ?_
            refine XS.goto X170.here hx rfl (pc0 := 180) (pc' := 184) rfl (hb hby at_180) (by decide) (by decide) ?_
            first | exact k | (simp only [if_neg hm172, if_neg hm173, if_neg hm174, if_neg hm175] at k; exact k) | (show Sp p e below T170 (mkF m 184 #[vi p1, vi p2, vi p3, vi p4, vr m58, vi e0, vi e1, vi c0, vi c1, vr b72, vr b92, vr m168, uz, uz, uz, uz, uz] [(.int 1)]) _; simp only [if_neg hm172, if_neg hm173, if_neg hm174, if_neg hm175] at k ⊢; exact k)
  have pre_177 := fun t k => pre_176 t <| XS.istore X170.here hx rfl (hb hby at_184) rfl (l' := #[vi p1, vi p2, vi p3, vi p4, vr m58, vi e0, vi e1, vi c0, vi c1, vr b72, vr b92, vr m168, vi (if c0 < (55296 : Int32) then (0 : Int32) else (if (56319 : Int32) < c0 then (0 : Int32) else (if c1 < (56320 : Int32) then (0 : Int32) else (if (57343 : Int32) < c1 then (0 : Int32) else (1 : Int32))))), uz, uz, uz, uz]) rfl <| k
  have pre_178 : Pr p e below E0 T170 (mkF m 186 #[vi p1, vi p2, vi p3, vi p4, vr m58, vi e0, vi e1, vi c0, vi c1, vr b72, vr b92, vr m168, vi (own_pr c0 c1), uz, uz, uz, uz] []) := pre_177
  have pre_179 := fun t k => pre_178 t <| oJ K168x X170 at_186 rfl rfl <| k
  have pre_181 : Pr p e below E0 T170 (mkF m 198 #[vi p1, vi p2, vi p3, vi p4, vr m58, vi e0, vi e1, vi c0, vi c1, vr b72, vr b92, vr m168, vi (own_pr c0 c1), uz, uz, uz, uz] [(.int (if (own_pr c0 c1) = (0 : Int32) then (50 : Int32) else (49 : Int32)))]) := by
    intro t k
    refine pre_179 t ?_
    by_cases hm180 : (own_pr c0 c1) = (0 : Int32)
    · skip
      refine XS.ifYes X170.here hx rfl (pc0 := 188) (pc' := 196) rfl (hb hby at_188) rfl (XT.i0_eq_t hm180) (by decide) (by decide) ?_
      refine XS.bipush X170.here hx rfl (hb hby at_196) ?_
      first | exact k | (simp only [if_pos hm180] at k; exact k) | (show Sp p e below T170 (mkF m 198 #[vi p1, vi p2, vi p3, vi p4, vr m58, vi e0, vi e1, vi c0, vi c1, vr b72, vr b92, vr m168, vi (own_pr c0 c1), uz, uz, uz, uz] [(.int 50)]) _; simp only [if_pos hm180] at k ⊢; exact k)
    · skip
      refine XS.ifNo X170.here hx rfl (hb hby at_188) rfl (XT.i0_eq_f hm180) ?_
      refine XS.bipush X170.here hx rfl (hb hby at_191) ?_
      refine XS.goto X170.here hx rfl (pc0 := 193) (pc' := 198) rfl (hb hby at_193) (by decide) (by decide) ?_
      first | exact k | (simp only [if_neg hm180] at k; exact k) | (show Sp p e below T170 (mkF m 198 #[vi p1, vi p2, vi p3, vi p4, vr m58, vi e0, vi e1, vi c0, vi c1, vr b72, vr b92, vr m168, vi (own_pr c0 c1), uz, uz, uz, uz] [(.int 49)]) _; simp only [if_neg hm180] at k ⊢; exact k)
  have pre_182 := fun t k => pre_181 t <| XS.istore X170.here hx rfl (hb hby at_198) rfl (l' := #[vi p1, vi p2, vi p3, vi p4, vr m58, vi e0, vi e1, vi c0, vi c1, vr b72, vr b92, vr m168, vi (own_pr c0 c1), vi (if (own_pr c0 c1) = (0 : Int32) then (50 : Int32) else (49 : Int32)), uz, uz, uz]) rfl <| k
  have pre_183 : Pr p e below E0 T170 (mkF m 200 #[vi p1, vi p2, vi p3, vi p4, vr m58, vi e0, vi e1, vi c0, vi c1, vr b72, vr b92, vr m168, vi (own_pr c0 c1), vi (if (own_pr c0 c1) = (0 : Int32) then (50 : Int32) else (49 : Int32)), uz, uz, uz] []) := pre_182
  rw [(own_cnt hc0 hc1)] at pre_183
  have pre_184 := fun t k => pre_183 t <| oI K168x X170 at_200 rfl rfl <| XS.bipush X170.here hx rfl (hb hby at_201) <| XT.ishr X170.here hx rfl (hb hby at_203) rfl <| XS.istore X170.here hx rfl (hb hby at_204) rfl (l' := #[vi p1, vi p2, vi p3, vi p4, vr m58, vi e0, vi e1, vi c0, vi c1, vr b72, vr b92, vr m168, vi (own_pr c0 c1), vi (own_o (own_cp c0 c1)), vi (p3 >>> ((18 : Int32) &&& 31)), uz, uz]) rfl <| k
  have pre_185 : Pr p e below E0 T170 (mkF m 206 #[vi p1, vi p2, vi p3, vi p4, vr m58, vi e0, vi e1, vi c0, vi c1, vr b72, vr b92, vr m168, vi (own_pr c0 c1), vi (own_o (own_cp c0 c1)), vi (p3 >>> ((18 : Int32) &&& 31)), uz, uz] []) := pre_184
  rw [(hnE.symm)] at pre_185
  have pre_186 := fun t k => pre_185 t <| oJ K168x X170 at_206 rfl rfl <| k
  have pre_188 : Pr p e below E0 T170 (mkF m 219 #[vi p1, vi p2, vi p3, vi p4, vr m58, vi e0, vi e1, vi c0, vi c1, vr b72, vr b92, vr m168, vi (own_pr c0 c1), vi (own_o (own_cp c0 c1)), vi n, uz, uz] [(.int (if n < (0 : Int32) then (-n) else n))]) := by
    intro t k
    refine pre_186 t ?_
    by_cases hm187 : n < (0 : Int32)
    · skip
      refine XS.ifNo X170.here hx rfl (hb hby at_208) rfl (XT.i0_ge_f hm187) ?_
      refine oJ K168x X170 at_211 rfl rfl ?_
      refine XS.ineg X170.here hx rfl (hb hby at_213) rfl ?_
      refine XS.goto X170.here hx rfl (pc0 := 214) (pc' := 219) rfl (hb hby at_214) (by decide) (by decide) ?_
      first | exact k | (simp only [if_pos hm187] at k; exact k) | (show Sp p e below T170 (mkF m 219 #[vi p1, vi p2, vi p3, vi p4, vr m58, vi e0, vi e1, vi c0, vi c1, vr b72, vr b92, vr m168, vi (own_pr c0 c1), vi (own_o (own_cp c0 c1)), vi n, uz, uz] [(.int (-n))]) _; simp only [if_pos hm187] at k ⊢; exact k)
    · skip
      refine XS.ifYes X170.here hx rfl (pc0 := 208) (pc' := 217) rfl (hb hby at_208) rfl (XT.i0_ge_t hm187) (by decide) (by decide) ?_
      refine oJ K168x X170 at_217 rfl rfl ?_
      first | exact k | (simp only [if_neg hm187] at k; exact k) | (show Sp p e below T170 (mkF m 219 #[vi p1, vi p2, vi p3, vi p4, vr m58, vi e0, vi e1, vi c0, vi c1, vr b72, vr b92, vr m168, vi (own_pr c0 c1), vi (own_o (own_cp c0 c1)), vi n, uz, uz] [(.int n)]) _; simp only [if_neg hm187] at k ⊢; exact k)
  have pre_189 := fun t k => pre_188 t <| XS.istore X170.here hx rfl (hb hby at_219) rfl (l' := #[vi p1, vi p2, vi p3, vi p4, vr m58, vi e0, vi e1, vi c0, vi c1, vr b72, vr b92, vr m168, vi (own_pr c0 c1), vi (own_o (own_cp c0 c1)), vi n, vi (if n < (0 : Int32) then (-n) else n), uz]) rfl <| k
  have pre_190 : Pr p e below E0 T170 (mkF m 221 #[vi p1, vi p2, vi p3, vi p4, vr m58, vi e0, vi e1, vi c0, vi c1, vr b72, vr b92, vr m168, vi (own_pr c0 c1), vi (own_o (own_cp c0 c1)), vi n, vi (own_abs n), uz] []) := pre_189
  have pre_191 := fun t k => pre_190 t <| oJ K168x X170 at_221 rfl rfl <| k
  have pre_193 : Pr p e below E0 T170 (mkF m 231 #[vi p1, vi p2, vi p3, vi p4, vr m58, vi e0, vi e1, vi c0, vi c1, vr b72, vr b92, vr m168, vi (own_pr c0 c1), vi (own_o (own_cp c0 c1)), vi n, vi (own_abs n), uz] [(.int (if n < (0 : Int32) then (1 : Int32) else (0 : Int32)))]) := by
    intro t k
    refine pre_191 t ?_
    by_cases hm192 : n < (0 : Int32)
    · skip
      refine XS.ifNo X170.here hx rfl (hb hby at_223) rfl (XT.i0_ge_f hm192) ?_
      refine XS.iconst X170.here hx rfl (hb hby at_226) ?_
      refine XS.goto X170.here hx rfl (pc0 := 227) (pc' := 231) rfl (hb hby at_227) (by decide) (by decide) ?_
      first | exact k | (simp only [if_pos hm192] at k; exact k) | (show Sp p e below T170 (mkF m 231 #[vi p1, vi p2, vi p3, vi p4, vr m58, vi e0, vi e1, vi c0, vi c1, vr b72, vr b92, vr m168, vi (own_pr c0 c1), vi (own_o (own_cp c0 c1)), vi n, vi (own_abs n), uz] [(.int 1)]) _; simp only [if_pos hm192] at k ⊢; exact k)
    · skip
      refine XS.ifYes X170.here hx rfl (pc0 := 223) (pc' := 230) rfl (hb hby at_223) rfl (XT.i0_ge_t hm192) (by decide) (by decide) ?_
      refine XS.iconst X170.here hx rfl (hb hby at_230) ?_
      first | exact k | (simp only [if_neg hm192] at k; exact k) | (show Sp p e below T170 (mkF m 231 #[vi p1, vi p2, vi p3, vi p4, vr m58, vi e0, vi e1, vi c0, vi c1, vr b72, vr b92, vr m168, vi (own_pr c0 c1), vi (own_o (own_cp c0 c1)), vi n, vi (own_abs n), uz] [(.int 0)]) _; simp only [if_neg hm192] at k ⊢; exact k)
  have pre_194 := fun t k => pre_193 t <| oJ K168x X170 at_231 rfl rfl <| XS.bipush X170.here hx rfl (hb hby at_233) <| k
  have pre_198 : Pr p e below E0 T170 (mkF m 266 #[vi p1, vi p2, vi p3, vi p4, vr m58, vi e0, vi e1, vi c0, vi c1, vr b72, vr b92, vr m168, vi (own_pr c0 c1), vi (own_o (own_cp c0 c1)), vi n, vi (own_abs n), uz] [(.int (if (own_abs n) < (10 : Int32) then (1 : Int32) else (if (own_abs n) < (100 : Int32) then (2 : Int32) else (if (own_abs n) < (1000 : Int32) then (3 : Int32) else (4 : Int32))))), (.int (if n < (0 : Int32) then (1 : Int32) else (0 : Int32)))]) := by
    intro t k
    refine pre_194 t ?_
    by_cases hm195 : (own_abs n) < (10 : Int32)
    · skip
      refine XS.icmpNo X170.here hx rfl (hb hby at_235) rfl (XT.ii_ge_f hm195) ?_
      refine XS.iconst X170.here hx rfl (hb hby at_238) ?_
      refine XS.goto X170.here hx rfl (pc0 := 239) (pc' := 266) rfl (hb hby at_239) (by decide) (by decide) ?_
      first | exact k | (simp only [if_pos hm195] at k; exact k) | (show Sp p e below T170 (mkF m 266 #[vi p1, vi p2, vi p3, vi p4, vr m58, vi e0, vi e1, vi c0, vi c1, vr b72, vr b92, vr m168, vi (own_pr c0 c1), vi (own_o (own_cp c0 c1)), vi n, vi (own_abs n), uz] [(.int 1), (.int (if n < (0 : Int32) then (1 : Int32) else (0 : Int32)))]) _; simp only [if_pos hm195] at k ⊢; exact k)
    · skip
      refine XS.icmpYes X170.here hx rfl (pc0 := 235) (pc' := 242) rfl (hb hby at_235) rfl (XT.ii_ge_t hm195) (by decide) (by decide) ?_
      refine oJ K168x X170 at_242 rfl rfl ?_
      refine XS.bipush X170.here hx rfl (hb hby at_244) ?_
      by_cases hm196 : (own_abs n) < (100 : Int32)
      · skip
        refine XS.icmpNo X170.here hx rfl (hb hby at_246) rfl (XT.ii_ge_f hm196) ?_
        refine XS.iconst X170.here hx rfl (hb hby at_249) ?_
        refine XS.goto X170.here hx rfl (pc0 := 250) (pc' := 266) rfl (hb hby at_250) (by decide) (by decide) ?_
        first | exact k | (simp only [if_neg hm195, if_pos hm196] at k; exact k) | (show Sp p e below T170 (mkF m 266 #[vi p1, vi p2, vi p3, vi p4, vr m58, vi e0, vi e1, vi c0, vi c1, vr b72, vr b92, vr m168, vi (own_pr c0 c1), vi (own_o (own_cp c0 c1)), vi n, vi (own_abs n), uz] [(.int 2), (.int (if n < (0 : Int32) then (1 : Int32) else (0 : Int32)))]) _; simp only [if_neg hm195, if_pos hm196] at k ⊢; exact k)
      · skip
        refine XS.icmpYes X170.here hx rfl (pc0 := 246) (pc' := 253) rfl (hb hby at_246) rfl (XT.ii_ge_t hm196) (by decide) (by decide) ?_
        refine oJ K168x X170 at_253 rfl rfl ?_
        refine XS.sipush X170.here hx rfl (hb hby at_255) ?_
        by_cases hm197 : (own_abs n) < (1000 : Int32)
        · skip
          refine XS.icmpNo X170.here hx rfl (hb hby at_258) rfl (XT.ii_ge_f hm197) ?_
          refine XS.iconst X170.here hx rfl (hb hby at_261) ?_
          refine XS.goto X170.here hx rfl (pc0 := 262) (pc' := 266) rfl (hb hby at_262) (by decide) (by decide) ?_
          first | exact k | (simp only [if_neg hm195, if_neg hm196, if_pos hm197] at k; exact k) | (show Sp p e below T170 (mkF m 266 #[vi p1, vi p2, vi p3, vi p4, vr m58, vi e0, vi e1, vi c0, vi c1, vr b72, vr b92, vr m168, vi (own_pr c0 c1), vi (own_o (own_cp c0 c1)), vi n, vi (own_abs n), uz] [(.int 3), (.int (if n < (0 : Int32) then (1 : Int32) else (0 : Int32)))]) _; simp only [if_neg hm195, if_neg hm196, if_pos hm197] at k ⊢; exact k)
        · skip
          refine XS.icmpYes X170.here hx rfl (pc0 := 258) (pc' := 265) rfl (hb hby at_258) rfl (XT.ii_ge_t hm197) (by decide) (by decide) ?_
          refine XS.iconst X170.here hx rfl (hb hby at_265) ?_
          first | exact k | (simp only [if_neg hm195, if_neg hm196, if_neg hm197] at k; exact k) | (show Sp p e below T170 (mkF m 266 #[vi p1, vi p2, vi p3, vi p4, vr m58, vi e0, vi e1, vi c0, vi c1, vr b72, vr b92, vr m168, vi (own_pr c0 c1), vi (own_o (own_cp c0 c1)), vi n, vi (own_abs n), uz] [(.int 4), (.int (if n < (0 : Int32) then (1 : Int32) else (0 : Int32)))]) _; simp only [if_neg hm195, if_neg hm196, if_neg hm197] at k ⊢; exact k)
  have pre_199 := fun t k => pre_198 t <| XS.iadd X170.here hx rfl (hb hby at_266) rfl <| XS.istore X170.here hx rfl (hb hby at_267) rfl (l' := #[vi p1, vi p2, vi p3, vi p4, vr m58, vi e0, vi e1, vi c0, vi c1, vr b72, vr b92, vr m168, vi (own_pr c0 c1), vi (own_o (own_cp c0 c1)), vi n, vi (own_abs n), vi ((if n < (0 : Int32) then (1 : Int32) else (0 : Int32)) + (if (own_abs n) < (10 : Int32) then (1 : Int32) else (if (own_abs n) < (100 : Int32) then (2 : Int32) else (if (own_abs n) < (1000 : Int32) then (3 : Int32) else (4 : Int32)))))]) rfl <| k
  have pre_200 : Pr p e below E0 T170 (mkF m 269 #[vi p1, vi p2, vi p3, vi p4, vr m58, vi e0, vi e1, vi c0, vi c1, vr b72, vr b92, vr m168, vi (own_pr c0 c1), vi (own_o (own_cp c0 c1)), vi n, vi (own_abs n), vi (own_len n)] []) := pre_199
  obtain ⟨cs, hcs⟩ : ∃ cs, cs = own_msg e0 e1 (own_cp c0 c1) n := ⟨_, rfl⟩
  have HMc : own_M Z T168.heap m168 b168 k168m cs := hcs ▸ HM168
  have hcl : cs.length < 500 := by rw [hcs]; exact own_mll hn
  have hdl := own_dl hn
  have hd5 := own_dl5 hn
  have pre_201 := fun t k => pre_200 t <| oB K168x X170 at_269 rfl rfl rfl <| k
  obtain ⟨T202, _, L202, X202, ⟨rfl, N202q, e202⟩, pre_202⟩ := cV pre_201 K168x X170 e170 (rm_lnm l Z a0 hw m168 G1 b168 k168m cs T168.heap n0 O168 Em168 HMc hcl SC hG) (oW hw 341 rfl) (oW hw 82 rfl) (oW hw 1 rfl) (oW hw 84 rfl) (oW hw 81 rfl) (oW hw 83 rfl) (notFace_of_selects (args := #[]) (mvT hZ168 (oW hw 83 rfl))) Em168 rfl (lenOf d_8 rfl) at_271 rfl rfl rfl (W := 0) (Nat.le_of_eq rfl) (by decide)
  have N202 := Fr.app N170 N202q
  have pre_203 := fun t k => pre_202 t <| XS.bipush X202.here hx rfl (hb hby at_274) <| oJ K168x X202 at_276 rfl rfl <| XS.iadd X202.here hx rfl (hb hby at_278) rfl <| XS.icmpYes X202.here hx rfl (pc0 := 279) (pc' := 284) rfl (hb hby at_279) rfl (XT.ii_eq_t (by rw [hcs]; exact own_mlen hn)) (by decide) (by decide) <| oB K168x X202 at_284 rfl rfl rfl <| XS.iconst X202.here hx rfl (hb hby at_286) <| k
  obtain ⟨T204, _, L204, X204, ⟨rfl, N204q, e204⟩, pre_204⟩ := cV pre_203 K168x X202 e202 (rm_cha l Z a0 hw m168 (0 : Int32) G1 b168 k168m cs 0 (116 : Int32) w1 T168.heap n0 O168 Em168 HMc hcl rfl (by rw [hcs]; rfl) (by decide) SC hG SF hr SU1 SU2 SU3) (oW hw 342 rfl) (oW hw 344 rfl) (oW hw 1 rfl) (oW hw 346 rfl) (oW hw 343 rfl) (oW hw 345 rfl) (notFace_of_selects (args := #[]) (mvT hZ168 (oW hw 345 rfl))) Em168 rfl (lenOf d_48 rfl) at_287 rfl rfl rfl (W := 0) (Nat.le_of_eq rfl) (by decide)
  have N204 := Fr.app N202 N204q
  have pre_205 := fun t k => pre_204 t <| XS.bipush X204.here hx rfl (hb hby at_290) <| XS.icmpNo X204.here hx rfl (hb hby at_292) rfl (XT.ii_ne_f (by decide)) <| oB K168x X204 at_295 rfl rfl rfl <| XS.bipush X204.here hx rfl (hb hby at_297) <| k
  obtain ⟨T206, _, L206, X206, ⟨rfl, N206q, e206⟩, pre_206⟩ := cV pre_205 K168x X204 e204 (rm_cha l Z a0 hw m168 (23 : Int32) G1 b168 k168m cs 23 (34 : Int32) w1 T168.heap n0 O168 Em168 HMc hcl rfl (by rw [hcs]; rfl) (by decide) SC hG SF hr SU1 SU2 SU3) (oW hw 342 rfl) (oW hw 344 rfl) (oW hw 1 rfl) (oW hw 346 rfl) (oW hw 343 rfl) (oW hw 345 rfl) (notFace_of_selects (args := #[]) (mvT hZ168 (oW hw 345 rfl))) Em168 rfl (lenOf d_48 rfl) at_299 rfl rfl rfl (W := 0) (Nat.le_of_eq rfl) (by decide)
  have N206 := Fr.app N204 N206q
  have pre_207 : Pr p e below E0 T206 (mkF m 311 #[vi p1, vi p2, vi p3, vi p4, vr m58, vi e0, vi e1, vi c0, vi c1, vr b72, vr b92, vr m168, vi (own_pr c0 c1), vi (own_o (own_cp c0 c1)), vi n, vi (own_abs n), vi (own_len n)] [(.int 24), (.ref m168)]) := fun t k => pre_206 t <| XS.bipush X206.here hx rfl (hb hby at_302) <| XS.icmpNo X206.here hx rfl (hb hby at_304) rfl (XT.ii_ne_f (by decide)) <| oB K168x X206 at_307 rfl rfl rfl <| XS.bipush X206.here hx rfl (hb hby at_309) <| k
  obtain ⟨T208, _, L208, X208, ⟨rfl, N208q, e208⟩, pre_208⟩ := cV pre_207 K168x X206 e206 (rm_cha l Z a0 hw m168 (24 : Int32) G1 b168 k168m cs 24 e0 w1 T168.heap n0 O168 Em168 HMc hcl rfl (by rw [hcs]; rfl) he0 SC hG SF hr SU1 SU2 SU3) (oW hw 342 rfl) (oW hw 344 rfl) (oW hw 1 rfl) (oW hw 346 rfl) (oW hw 343 rfl) (oW hw 345 rfl) (notFace_of_selects (args := #[]) (mvT hZ168 (oW hw 345 rfl))) Em168 rfl (lenOf d_48 rfl) at_311 rfl rfl rfl (W := 0) (Nat.le_of_eq rfl) (by decide)
  have N208 := Fr.app N206 N208q
  have pre_209 := fun t k => pre_208 t <| oJ K168x X208 at_314 rfl rfl <| XS.icmpNo X208.here hx rfl (hb hby at_316) rfl (XT.ii_ne_f rfl) <| oB K168x X208 at_319 rfl rfl rfl <| XS.bipush X208.here hx rfl (hb hby at_321) <| k
  obtain ⟨T210, _, L210, X210, ⟨rfl, N210q, e210⟩, pre_210⟩ := cV pre_209 K168x X208 e208 (rm_cha l Z a0 hw m168 (25 : Int32) G1 b168 k168m cs 25 e1 w1 T168.heap n0 O168 Em168 HMc hcl rfl (by rw [hcs]; rfl) he1 SC hG SF hr SU1 SU2 SU3) (oW hw 342 rfl) (oW hw 344 rfl) (oW hw 1 rfl) (oW hw 346 rfl) (oW hw 343 rfl) (oW hw 345 rfl) (notFace_of_selects (args := #[]) (mvT hZ168 (oW hw 345 rfl))) Em168 rfl (lenOf d_48 rfl) at_323 rfl rfl rfl (W := 0) (Nat.le_of_eq rfl) (by decide)
  have N210 := Fr.app N208 N210q
  have pre_211 := fun t k => pre_210 t <| oJ K168x X210 at_326 rfl rfl <| XS.icmpNo X210.here hx rfl (hb hby at_328) rfl (XT.ii_ne_f rfl) <| oB K168x X210 at_331 rfl rfl rfl <| XS.bipush X210.here hx rfl (hb hby at_333) <| k
  obtain ⟨T212, _, L212, X212, ⟨rfl, N212q, e212⟩, pre_212⟩ := cV pre_211 K168x X210 e210 (rm_cha l Z a0 hw m168 (26 : Int32) G1 b168 k168m cs 26 (34 : Int32) w1 T168.heap n0 O168 Em168 HMc hcl rfl (by rw [hcs]; rfl) (by decide) SC hG SF hr SU1 SU2 SU3) (oW hw 342 rfl) (oW hw 344 rfl) (oW hw 1 rfl) (oW hw 346 rfl) (oW hw 343 rfl) (oW hw 345 rfl) (notFace_of_selects (args := #[]) (mvT hZ168 (oW hw 345 rfl))) Em168 rfl (lenOf d_48 rfl) at_335 rfl rfl rfl (W := 0) (Nat.le_of_eq rfl) (by decide)
  have N212 := Fr.app N210 N212q
  have pre_213 : Pr p e below E0 T212 (mkF m 347 #[vi p1, vi p2, vi p3, vi p4, vr m58, vi e0, vi e1, vi c0, vi c1, vr b72, vr b92, vr m168, vi (own_pr c0 c1), vi (own_o (own_cp c0 c1)), vi n, vi (own_abs n), vi (own_len n)] [(.int 64), (.ref m168)]) := fun t k => pre_212 t <| XS.bipush X212.here hx rfl (hb hby at_338) <| XS.icmpNo X212.here hx rfl (hb hby at_340) rfl (XT.ii_ne_f (by decide)) <| oB K168x X212 at_343 rfl rfl rfl <| XS.bipush X212.here hx rfl (hb hby at_345) <| k
  obtain ⟨T214, _, L214, X214, ⟨rfl, N214q, e214⟩, pre_214⟩ := cV pre_213 K168x X212 e212 (rm_cha l Z a0 hw m168 (64 : Int32) G1 b168 k168m cs 64 (32 : Int32) w1 T168.heap n0 O168 Em168 HMc hcl rfl (by rw [hcs]; rfl) (by decide) SC hG SF hr SU1 SU2 SU3) (oW hw 342 rfl) (oW hw 344 rfl) (oW hw 1 rfl) (oW hw 346 rfl) (oW hw 343 rfl) (oW hw 345 rfl) (notFace_of_selects (args := #[]) (mvT hZ168 (oW hw 345 rfl))) Em168 rfl (lenOf d_48 rfl) at_347 rfl rfl rfl (W := 0) (Nat.le_of_eq rfl) (by decide)
  have N214 := Fr.app N212 N214q
  have pre_215 := fun t k => pre_214 t <| XS.bipush X214.here hx rfl (hb hby at_350) <| XS.icmpNo X214.here hx rfl (hb hby at_352) rfl (XT.ii_ne_f (by decide)) <| oB K168x X214 at_355 rfl rfl rfl <| XS.bipush X214.here hx rfl (hb hby at_357) <| k
  obtain ⟨T216, _, L216, X216, ⟨rfl, N216q, e216⟩, pre_216⟩ := cV pre_215 K168x X214 e214 (rm_cha l Z a0 hw m168 (65 : Int32) G1 b168 k168m cs 65 (own_o (own_cp c0 c1)) w1 T168.heap n0 O168 Em168 HMc hcl rfl (by rw [hcs]; rfl) (own_cpr c0 c1) SC hG SF hr SU1 SU2 SU3) (oW hw 342 rfl) (oW hw 344 rfl) (oW hw 1 rfl) (oW hw 346 rfl) (oW hw 343 rfl) (oW hw 345 rfl) (notFace_of_selects (args := #[]) (mvT hZ168 (oW hw 345 rfl))) Em168 rfl (lenOf d_48 rfl) at_359 rfl rfl rfl (W := 0) (Nat.le_of_eq rfl) (by decide)
  have N216 := Fr.app N214 N216q
  have pre_217 := fun t k => pre_216 t <| oJ K168x X216 at_362 rfl rfl <| XS.icmpNo X216.here hx rfl (hb hby at_364) rfl (XT.ii_ne_f rfl) <| oB K168x X216 at_367 rfl rfl rfl <| XS.bipush X216.here hx rfl (hb hby at_369) <| k
  obtain ⟨T218, _, L218, X218, ⟨rfl, N218q, e218⟩, pre_218⟩ := cV pre_217 K168x X216 e216 (rm_cha l Z a0 hw m168 (66 : Int32) G1 b168 k168m cs 66 (32 : Int32) w1 T168.heap n0 O168 Em168 HMc hcl rfl (by rw [hcs]; rfl) (by decide) SC hG SF hr SU1 SU2 SU3) (oW hw 342 rfl) (oW hw 344 rfl) (oW hw 1 rfl) (oW hw 346 rfl) (oW hw 343 rfl) (oW hw 345 rfl) (notFace_of_selects (args := #[]) (mvT hZ168 (oW hw 345 rfl))) Em168 rfl (lenOf d_48 rfl) at_371 rfl rfl rfl (W := 0) (Nat.le_of_eq rfl) (by decide)
  have N218 := Fr.app N216 N218q
  have pre_219 : Pr p e below E0 T218 (mkF m 383 #[vi p1, vi p2, vi p3, vi p4, vr m58, vi e0, vi e1, vi c0, vi c1, vr b72, vr b92, vr m168, vi (own_pr c0 c1), vi (own_o (own_cp c0 c1)), vi n, vi (own_abs n), vi (own_len n)] [(.int 88), (.ref m168)]) := fun t k => pre_218 t <| XS.bipush X218.here hx rfl (hb hby at_374) <| XS.icmpNo X218.here hx rfl (hb hby at_376) rfl (XT.ii_ne_f (by decide)) <| oB K168x X218 at_379 rfl rfl rfl <| XS.bipush X218.here hx rfl (hb hby at_381) <| k
  obtain ⟨T220, _, L220, X220, ⟨rfl, N220q, e220⟩, pre_220⟩ := cV pre_219 K168x X218 e218 (rm_cha l Z a0 hw m168 (88 : Int32) G1 b168 k168m cs 88 (32 : Int32) w1 T168.heap n0 O168 Em168 HMc hcl rfl (by rw [hcs]; rfl) (by decide) SC hG SF hr SU1 SU2 SU3) (oW hw 342 rfl) (oW hw 344 rfl) (oW hw 1 rfl) (oW hw 346 rfl) (oW hw 343 rfl) (oW hw 345 rfl) (notFace_of_selects (args := #[]) (mvT hZ168 (oW hw 345 rfl))) Em168 rfl (lenOf d_48 rfl) at_383 rfl rfl rfl (W := 0) (Nat.le_of_eq rfl) (by decide)
  have N220 := Fr.app N218 N220q
  have pre_221 := fun t k => pre_220 t <| XS.bipush X220.here hx rfl (hb hby at_386) <| XS.icmpNo X220.here hx rfl (hb hby at_388) rfl (XT.ii_ne_f (by decide)) <| oB K168x X220 at_391 rfl rfl rfl <| oJ K168x X220 at_393 rfl rfl <| oJ K168x X220 at_395 rfl rfl <| XS.iconst X220.here hx rfl (hb hby at_397) <| k
  obtain ⟨T222, _, L222, X222, ⟨rfl, N222q, e222⟩, pre_222⟩ := cS pre_221 K168x X220 e220 (rm_dok l Z a0 hw m168 n (own_len n) (0 : Int32) G1 w1 b168 k168m cs 0 (own_dig n).length T168.heap n0 O168 SC hG SF hr SU1 SU2 SU3 Em168 HMc hcl rfl (by decide) hdl hd5 (fun q => own_md hcs 0 q) (own_ncg _ _ _)) (oW hw 357 rfl) (oW hw 358 rfl) (oW hw 359 rfl) (oW hw 360 rfl) rfl (lenOf d_53 rfl) at_398 rfl rfl rfl (W := 0) (Nat.le_of_eq rfl) (by decide)
  have N222 := Fr.app N220 N222q
  have pre_223 := fun t k => pre_222 t <| XS.ifNo X222.here hx rfl (hb hby at_401) rfl (XT.i0_eq_f (by decide)) <| oB K168x X222 at_404 rfl rfl rfl <| oJ K168x X222 at_406 rfl rfl <| oJ K168x X222 at_408 rfl rfl <| XS.iconst X222.here hx rfl (hb hby at_410) <| k
  obtain ⟨T224, _, L224, X224, ⟨rfl, N224q, e224⟩, pre_224⟩ := cS pre_223 K168x X222 e222 (rm_dok l Z a0 hw m168 n (own_len n) (1 : Int32) G1 w1 b168 k168m cs 1 (own_dig n).length T168.heap n0 O168 SC hG SF hr SU1 SU2 SU3 Em168 HMc hcl rfl (by decide) hdl hd5 (fun q => own_md hcs 1 q) (own_ncg _ _ _)) (oW hw 357 rfl) (oW hw 358 rfl) (oW hw 359 rfl) (oW hw 360 rfl) rfl (lenOf d_53 rfl) at_411 rfl rfl rfl (W := 0) (Nat.le_of_eq rfl) (by decide)
  have N224 := Fr.app N222 N224q
  have pre_225 : Pr p e below E0 T224 (mkF m 424 #[vi p1, vi p2, vi p3, vi p4, vr m58, vi e0, vi e1, vi c0, vi c1, vr b72, vr b92, vr m168, vi (own_pr c0 c1), vi (own_o (own_cp c0 c1)), vi n, vi (own_abs n), vi (own_len n)] [(.int 2), (.int (own_len n)), (.int n), (.ref m168)]) := fun t k => pre_224 t <| XS.ifNo X224.here hx rfl (hb hby at_414) rfl (XT.i0_eq_f (by decide)) <| oB K168x X224 at_417 rfl rfl rfl <| oJ K168x X224 at_419 rfl rfl <| oJ K168x X224 at_421 rfl rfl <| XS.iconst X224.here hx rfl (hb hby at_423) <| k
  obtain ⟨T226, _, L226, X226, ⟨rfl, N226q, e226⟩, pre_226⟩ := cS pre_225 K168x X224 e224 (rm_dok l Z a0 hw m168 n (own_len n) (2 : Int32) G1 w1 b168 k168m cs 2 (own_dig n).length T168.heap n0 O168 SC hG SF hr SU1 SU2 SU3 Em168 HMc hcl rfl (by decide) hdl hd5 (fun q => own_md hcs 2 q) (own_ncg _ _ _)) (oW hw 357 rfl) (oW hw 358 rfl) (oW hw 359 rfl) (oW hw 360 rfl) rfl (lenOf d_53 rfl) at_424 rfl rfl rfl (W := 0) (Nat.le_of_eq rfl) (by decide)
  have N226 := Fr.app N224 N226q
  have pre_227 := fun t k => pre_226 t <| XS.ifNo X226.here hx rfl (hb hby at_427) rfl (XT.i0_eq_f (by decide)) <| oB K168x X226 at_430 rfl rfl rfl <| oJ K168x X226 at_432 rfl rfl <| oJ K168x X226 at_434 rfl rfl <| XS.iconst X226.here hx rfl (hb hby at_436) <| k
  obtain ⟨T228, _, L228, X228, ⟨rfl, N228q, e228⟩, pre_228⟩ := cS pre_227 K168x X226 e226 (rm_dok l Z a0 hw m168 n (own_len n) (3 : Int32) G1 w1 b168 k168m cs 3 (own_dig n).length T168.heap n0 O168 SC hG SF hr SU1 SU2 SU3 Em168 HMc hcl rfl (by decide) hdl hd5 (fun q => own_md hcs 3 q) (own_ncg _ _ _)) (oW hw 357 rfl) (oW hw 358 rfl) (oW hw 359 rfl) (oW hw 360 rfl) rfl (lenOf d_53 rfl) at_437 rfl rfl rfl (W := 0) (Nat.le_of_eq rfl) (by decide)
  have N228 := Fr.app N226 N228q
  have pre_229 := fun t k => pre_228 t <| XS.ifNo X228.here hx rfl (hb hby at_440) rfl (XT.i0_eq_f (by decide)) <| oB K168x X228 at_443 rfl rfl rfl <| oJ K168x X228 at_445 rfl rfl <| oJ K168x X228 at_447 rfl rfl <| XS.iconst X228.here hx rfl (hb hby at_449) <| k
  obtain ⟨T230, _, L230, X230, ⟨rfl, N230q, e230⟩, pre_230⟩ := cS pre_229 K168x X228 e228 (rm_dok l Z a0 hw m168 n (own_len n) (4 : Int32) G1 w1 b168 k168m cs 4 (own_dig n).length T168.heap n0 O168 SC hG SF hr SU1 SU2 SU3 Em168 HMc hcl rfl (by decide) hdl hd5 (fun q => own_md hcs 4 q) (own_ncg _ _ _)) (oW hw 357 rfl) (oW hw 358 rfl) (oW hw 359 rfl) (oW hw 360 rfl) rfl (lenOf d_53 rfl) at_450 rfl rfl rfl (W := 0) (Nat.le_of_eq rfl) (by decide)
  have N230 := Fr.app N228 N230q
  have pre_231 : Pr p e below E0 T230 (mkF m 463 #[vi p1, vi p2, vi p3, vi p4, vr m58, vi e0, vi e1, vi c0, vi c1, vr b72, vr b92, vr m168, vi (own_pr c0 c1), vi (own_o (own_cp c0 c1)), vi n, vi (own_abs n), vi (own_len n)] [(.int ((89 : Int32) + (own_len n))), (.ref m168)]) := fun t k => pre_230 t <| XS.ifNo X230.here hx rfl (hb hby at_453) rfl (XT.i0_eq_f (by decide)) <| oB K168x X230 at_456 rfl rfl rfl <| XS.bipush X230.here hx rfl (hb hby at_458) <| oJ K168x X230 at_460 rfl rfl <| XS.iadd X230.here hx rfl (hb hby at_462) rfl <| k
  obtain ⟨T232, _, L232, X232, ⟨rfl, N232q, e232⟩, pre_232⟩ := cV pre_231 K168x X230 e230 (rm_cha l Z a0 hw m168 ((89 : Int32) + (own_len n)) G1 b168 k168m cs (89 + ((own_dig n).length + 0)) (32 : Int32) w1 T168.heap n0 O168 Em168 HMc hcl (by rw [hdl]; exact own_on89 hd5) ((own_mt hcs 0).trans rfl) (by decide) SC hG SF hr SU1 SU2 SU3) (oW hw 342 rfl) (oW hw 344 rfl) (oW hw 1 rfl) (oW hw 346 rfl) (oW hw 343 rfl) (oW hw 345 rfl) (notFace_of_selects (args := #[]) (mvT hZ168 (oW hw 345 rfl))) Em168 rfl (lenOf d_48 rfl) at_463 rfl rfl rfl (W := 0) (Nat.le_of_eq rfl) (by decide)
  have N232 := Fr.app N230 N232q
  have pre_233 := fun t k => pre_232 t <| XS.bipush X232.here hx rfl (hb hby at_466) <| XS.icmpNo X232.here hx rfl (hb hby at_468) rfl (XT.ii_ne_f (by decide)) <| oB K168x X232 at_471 rfl rfl rfl <| XS.bipush X232.here hx rfl (hb hby at_473) <| oJ K168x X232 at_475 rfl rfl <| XS.iadd X232.here hx rfl (hb hby at_477) rfl <| k
  obtain ⟨T234, _, L234, X234, ⟨rfl, N234q, e234⟩, pre_234⟩ := cV pre_233 K168x X232 e232 (rm_cha l Z a0 hw m168 ((90 : Int32) + (own_len n)) G1 b168 k168m cs (89 + ((own_dig n).length + 1)) (77 : Int32) w1 T168.heap n0 O168 Em168 HMc hcl (by rw [hdl]; exact own_on90 hd5) ((own_mt hcs 1).trans rfl) (by decide) SC hG SF hr SU1 SU2 SU3) (oW hw 342 rfl) (oW hw 344 rfl) (oW hw 1 rfl) (oW hw 346 rfl) (oW hw 343 rfl) (oW hw 345 rfl) (notFace_of_selects (args := #[]) (mvT hZ168 (oW hw 345 rfl))) Em168 rfl (lenOf d_48 rfl) at_478 rfl rfl rfl (W := 0) (Nat.le_of_eq rfl) (by decide)
  have N234 := Fr.app N232 N234q
  have pre_235 : Pr p e below E0 T234 (mkF m 493 #[vi p1, vi p2, vi p3, vi p4, vr m58, vi e0, vi e1, vi c0, vi c1, vr b72, vr b92, vr m168, vi (own_pr c0 c1), vi (own_o (own_cp c0 c1)), vi n, vi (own_abs n), vi (own_len n)] [(.int ((116 : Int32) + (own_len n))), (.ref m168)]) := fun t k => pre_234 t <| XS.bipush X234.here hx rfl (hb hby at_481) <| XS.icmpNo X234.here hx rfl (hb hby at_483) rfl (XT.ii_ne_f (by decide)) <| oB K168x X234 at_486 rfl rfl rfl <| XS.bipush X234.here hx rfl (hb hby at_488) <| oJ K168x X234 at_490 rfl rfl <| XS.iadd X234.here hx rfl (hb hby at_492) rfl <| k
  obtain ⟨T236, _, L236, X236, ⟨rfl, N236q, e236⟩, pre_236⟩ := cV pre_235 K168x X234 e234 (rm_cha l Z a0 hw m168 ((116 : Int32) + (own_len n)) G1 b168 k168m cs (89 + ((own_dig n).length + 27)) (101 : Int32) w1 T168.heap n0 O168 Em168 HMc hcl (by rw [hdl]; exact own_on116 hd5) ((own_mt hcs 27).trans rfl) (by decide) SC hG SF hr SU1 SU2 SU3) (oW hw 342 rfl) (oW hw 344 rfl) (oW hw 1 rfl) (oW hw 346 rfl) (oW hw 343 rfl) (oW hw 345 rfl) (notFace_of_selects (args := #[]) (mvT hZ168 (oW hw 345 rfl))) Em168 rfl (lenOf d_48 rfl) at_493 rfl rfl rfl (W := 0) (Nat.le_of_eq rfl) (by decide)
  have N236 := Fr.app N234 N236q
  have pre_237 := fun t k => pre_236 t <| XS.bipush X236.here hx rfl (hb hby at_496) <| XS.icmpNo X236.here hx rfl (hb hby at_498) rfl (XT.ii_ne_f (by decide)) <| XS.iconst X236.here hx rfl (hb hby at_501) <| XS.goto X236.here hx rfl (pc0 := 502) (pc' := 506) rfl (hb hby at_502) (by decide) (by decide) <| k
  have pre_238 : Pr p e below E0 T236 (mkF m 506 #[vi p1, vi p2, vi p3, vi p4, vr m58, vi e0, vi e1, vi c0, vi c1, vr b72, vr b92, vr m168, vi (own_pr c0 c1), vi (own_o (own_cp c0 c1)), vi n, vi (own_abs n), vi (own_len n)] [(.int 1)]) := pre_237
  obtain ⟨fs, hr, hrun, hended, hEnd⟩ := X236.leaveW hS168 (by rw [e236]; exact (Nat.le_trans (Nat.le_refl _) (Nat.le_refl _))) (v := some (.int 1)) (fun h => by rw [hret] at h; cases h)
  refine ⟨_, _, pre_238 _ ?_, hrun, hended, _, _, rfl, ?_, hEnd.1, hEnd.2.1, hEnd.2.2.1, hEnd.2.2.2.mono (by decide) (by decide)⟩
  · show Sp p e below T236 (mkF m 506 #[vi p1, vi p2, vi p3, vi p4, vr m58, vi e0, vi e1, vi c0, vi c1, vr b72, vr b92, vr m168, vi (own_pr c0 c1), vi (own_o (own_cp c0 c1)), vi n, vi (own_abs n), vi (own_len n)] [(.int 1)]) _
    exact retN X236 hx (t := .boolean) hret (by simp) (hb hby at_506) hr
  · show P _ T236.vm T236.heap _
    rw [e236]
    exact hP _ _ _ _ ⟨rfl, N236⟩
end Bodies
set_option maxRecDepth 65536 in
set_option maxHeartbeats 40000000 in
theorem comes_1 {Post : Tables → Env → Array Value → State → Outcome → State → Prop} (hpost : ∀ tb e args s v u, (limb_1_1.after args s (.returned v) u = true ∧ limb_1_2.after args s (.returned v) u = true ∧ True) → ReturnedEndW s (.returned v) u (Jvm.fieldLocs frame_1_writes args s ++ Jvm.arrayLocs frame_1_arrays args s ++ Jvm.staticLocs frame_1_statics s) 96 21120 → Post tb e args s (.returned v) u) :
    ArmFor flags0 classFile x code maxLocals ret World_1 tables_1 room_1 Calls_1 rest_1 Pre_1 Post := by
  intro l hfl _ _ p e ha hc hk s m args below hf hA hF happ hP
  obtain ⟨hcalls, hrest, hpre⟩ := hP
  obtain ⟨-, -, -, hnamed, -, -, -, hat⟩ := (Spec.applies_iff hf).mp happ
  obtain ⟨hg, hn⟩ := and_e (Cond.before_iff.mp (show (Jvm.Cond.and given_1 narrow_1).before args s = true from hpre))
  obtain ⟨hg0, hgs⟩ := and_e hg
  obtain ⟨w0, w1, w2, w3, rfl⟩ : ∃ w0 w1 w2 w3 : Value, args = #[w0, w1, w2, w3] := by
    have hs : args.size = 4 := by simpa [Cond.value, given_1] using hg0
    obtain ⟨L⟩ := args
    match L, hs with
    | [w0, w1, w2, w3], _ => exact ⟨w0, w1, w2, w3, rfl⟩
  have hw := fun d (hd : d ∈ tables_1) => atoms_spec (ws := Jvm.Cond.code x code maxLocals ret :: tables_1) hat d (List.mem_cons_of_mem _ hd)
  have hfit : Fit s := fun {y c} hc i hi => by
    obtain ⟨ha, rfl⟩ := Array.getElem?_eq_some_iff.mp hc
    have q := List.all_eq_true.mp ((Array.all_eq_true_iff_forall_mem.mp hF) _ (Array.getElem_mem ha)) i (List.mem_range.mpr hi)
    simpa [Array.getElem?_eq_getElem hi] using q
  obtain ⟨ha0, hgs0⟩ := and_e hgs
  obtain ⟨i0, ei0⟩ := is_v ha0
  obtain rfl : w0 = (.int i0) := Option.some.inj ei0
  obtain ⟨ha1, hgs1⟩ := and_e hgs0
  obtain ⟨i1, ei1⟩ := is_v ha1
  obtain rfl : w1 = (.int i1) := Option.some.inj ei1
  obtain ⟨ha2, hgs2⟩ := and_e hgs1
  obtain ⟨i2, ei2⟩ := is_v ha2
  obtain rfl : w2 = (.int i2) := Option.some.inj ei2
  obtain ⟨i3, ei3⟩ := is_v hgs2
  obtain rfl : w3 = (.int i3) := Option.some.inj ei3
  obtain ⟨hsets, hown0⟩ := atoms_of _ (rest_1_c_eq ▸ (show rest_1_c.before _ s = true from hrest))
  obtain ⟨G1, evG⟩ := is_v (Cond.before_iff.mp (hsets _ (List.mem_of_getElem? (i := 1) rfl)))
  have SC := Sta.start evG (Or.inl (hsets _ (List.mem_of_getElem? (i := 0) rfl)))
  have hG : ¬ (G1 = (0 : Int32)) := gotF (Cond.eq_ints evG (Term.int_eval (0))) (not_v (Cond.before_iff.mp (hsets _ (List.mem_of_getElem? (i := 2) rfl))))
  obtain ⟨w1, evW, hr⟩ := isR_v (Cond.before_iff.mp (hsets _ (List.mem_of_getElem? (i := 8) rfl)))
  have SF := Sta.start evW (Or.inl (hsets _ (List.mem_of_getElem? (i := 7) rfl)))
  have SU1 := Sta.start (own_eqc (Cond.before_iff.mp (hsets _ (List.mem_of_getElem? (i := 43) rfl)))) (Or.inl (hsets _ (List.mem_of_getElem? (i := 42) rfl)))
  have SU2 := Sta.start (own_eqc (Cond.before_iff.mp (hsets _ (List.mem_of_getElem? (i := 46) rfl)))) (Or.inl (hsets _ (List.mem_of_getElem? (i := 45) rfl)))
  have SU3 := Sta.start (own_eqc (Cond.before_iff.mp (hsets _ (List.mem_of_getElem? (i := 49) rfl)))) (Or.inl (hsets _ (List.mem_of_getElem? (i := 48) rfl)))
  obtain ⟨aO, kO, evO, VO⟩ := own_arrD (f := own_o) (fun k q => (own_fitO ⟨k, q⟩).1) (own_w hw 3 rfl) (hsets _ (List.mem_of_getElem? (i := 12) rfl)) (hsets _ (List.mem_of_getElem? (i := 13) rfl)) (fun i => rfl) (own_allO (Cond.before_iff.mp (hsets _ (List.mem_of_getElem? (i := 14) rfl))))
  have SD1 := Sta.start evO (Or.inl (hsets _ (List.mem_of_getElem? (i := 11) rfl)))
  obtain ⟨aT, kT, evT, VT⟩ := own_arrD (f := own_t) (fun k q => (own_fitO ⟨k, q⟩).2) (own_w hw 3 rfl) (hsets _ (List.mem_of_getElem? (i := 17) rfl)) (hsets _ (List.mem_of_getElem? (i := 18) rfl)) (fun i => rfl) (own_allT (Cond.before_iff.mp (hsets _ (List.mem_of_getElem? (i := 19) rfl))))
  have SD2 := Sta.start evT (Or.inl (hsets _ (List.mem_of_getElem? (i := 16) rfl)))
  have hl : l.stackTraces = true := by unfold Launch.stackTraces; rw [hfl]; decide
  have hTW : ∀ d ∈ twoRefs, d.before _ s = true := fun d hd => by
    rcases List.mem_cons.mp hd with rfl | hd
    · exact (hsets _ (List.mem_of_getElem? (i := 27) rfl))
    · obtain rfl := List.mem_singleton.mp hd; exact (hsets _ (List.mem_of_getElem? (i := 32) rfl))
  have hH7 : Jvm.Lit.constHeld s "com/example/quadshape/quadshape/core/regex/MatchLimitException" 7 := hcalls.2.2.1 ("com/example/quadshape/quadshape/core/regex/MatchLimitException", 7) (List.mem_of_getElem? (i := 0) rfl)
  have hH13 : Jvm.Lit.constHeld s "com/example/quadshape/quadshape/core/regex/MatchLimitException" 13 := hcalls.2.2.1 ("com/example/quadshape/quadshape/core/regex/MatchLimitException", 13) (List.mem_of_getElem? (i := 1) rfl)
  have hH28 : Jvm.Lit.constHeld s "com/example/quadshape/quadshape/core/regex/MatchLimitException" 28 := hcalls.2.2.1 ("com/example/quadshape/quadshape/core/regex/MatchLimitException", 28) (List.mem_of_getElem? (i := 2) rfl)
  have hH48 : Jvm.Lit.constHeld s "com/example/quadshape/quadshape/core/regex/MatchLimitException" 48 := hcalls.2.2.1 ("com/example/quadshape/quadshape/core/regex/MatchLimitException", 48) (List.mem_of_getElem? (i := 3) rfl)
  have hH19 : Jvm.Lit.constHeld s "com/example/quadshape/quadshape/core/regex/MatchLimitExceptionOfMemoryPinLaw" 19 := hcalls.2.2.1 ("com/example/quadshape/quadshape/core/regex/MatchLimitExceptionOfMemoryPinLaw", 19) (List.mem_of_getElem? (i := 4) rfl)
  have hH21 : Jvm.Lit.constHeld s "com/example/quadshape/quadshape/core/regex/MatchLimitExceptionOfMemoryPinLaw" 21 := hcalls.2.2.1 ("com/example/quadshape/quadshape/core/regex/MatchLimitExceptionOfMemoryPinLaw", 21) (List.mem_of_getElem? (i := 5) rfl)
  have hH34 : Jvm.Lit.constHeld s "com/example/quadshape/quadshape/core/regex/MatchLimitExceptionOfMemoryPinLaw" 34 := hcalls.2.2.1 ("com/example/quadshape/quadshape/core/regex/MatchLimitExceptionOfMemoryPinLaw", 34) (List.mem_of_getElem? (i := 6) rfl)
  have hCW := (hsets _ (List.mem_of_getElem? (i := 2) rfl))
  have hK : s.vm.MethodsKnown ∧ s.vm.FramesKnown below := ⟨MethodsKnown_of_tablesKnown hcalls.2.1, FramesKnown_of_framesKnown hcalls.1 hf⟩
  obtain ⟨n, o, h1, h2, h3, _, L, rfl, ⟨rfl, N⟩, hq⟩ := rm_law l s _ hw tables_1 i0 i1 i2 i3 G1 w1 aO kO aT kT s.heap s.heap.size (Old.start s) SC hG SF hr SU1 SU2 SU3 SD1 VO SD2 VT hl hTW hH7 hH13 hH28 hH48 hH19 hH21 hH34 hCW p e ha hc hk s m _ below hf ((Spec.applies_iff_loose hf).mp happ).1 ⟨rfl, State.Warmed39.refl s, rfl, IB.start⟩ hK
  refine ⟨n, _, h1, h2, h3, hpost _ _ _ _ _ _ ⟨Cond.after_iff.mpr rfl, Cond.after_iff.mpr (eq_i res_at (Term.int_eval (1)) rfl), trivial⟩ ⟨hq.1, hq.2.1, hq.2.2.1, (hq.2.2.2.sift fun y hy => Or.inr (N y hy)).mono (by decide) (by decide)⟩⟩
theorem main_1_1 : Claimed_1_1 := comes_1 fun _ _ _ _ _ _ h hF => ⟨h.1, hF⟩
theorem main_1_2 : Claimed_1_2 := comes_1 fun _ _ _ _ _ _ h hF => ⟨h.2.1, hF⟩
end Jvm.Pilot.@@N@@
namespace Jvm.Pilot.@@N@@
open Jvm Jvm.ClassFile Sem Op Lib Jvm.Free Jvm.Stand Jvm.Pilot.@@N@@.Jvm.D
/-! MADE BY PROGRAM (witnessworld.py) out of the Statement's table words and the real class files: 47 classes; the members and pool entries that the words name. The judged class is class 1, her method 3. -/
namespace start1
open Jvm.ClassFile
set_option maxRecDepth 65536
abbrev z1 : String := "java/lang/String"
abbrev z2 : String := "<init>"
abbrev z3 : String := "java/lang/Object"
abbrev z4 : String := "serialVersionUID"
abbrev z5 : String := "java/lang/StringUTF16"
abbrev z6 : String := "java/lang/AbstractStringBuilder"
abbrev z7 : String := "java/lang/StringBuilder"
abbrev z8 : String := "java/lang/Throwable"
abbrev z9 : String := "append"
abbrev z10 : String := "length"
abbrev z11 : String := "(Ljava/lang/String;)V"
abbrev z12 : String := "$assertionsDisabled"
abbrev z13 : String := "java/util/List"
abbrev z14 : String := "getChars"
abbrev z15 : String := "inflate"
abbrev z16 : String := "checkIndex"
abbrev z17 : String := "java/lang/StackTraceElement"
abbrev z18 : String := "java/io/Serializable"
abbrev z19 : String := "codePointCount"
abbrev z20 : String := "java/util/function/BiFunction"
abbrev z21 : String := "()Ljava/lang/String;"
abbrev z22 : String := "java/util/Arrays"
abbrev z23 : String := "([BI[BII)V"
abbrev z24 : String := "java/lang/Class"
abbrev z25 : String := "com/example/quadshape/quadshape/core/regex/MatchLimitException"
abbrev z26 : String := "java/lang/Comparable"
abbrev z27 : String := "java/lang/StringLatin1"
abbrev z28 : String := "checkFromToIndex"
abbrev z29 : String := "jdk/internal/util/Preconditions"
abbrev z30 : String := "(IIILjava/util/function/BiFunction;)I"
abbrev z31 : String := "java/lang/Integer"
abbrev z32 : String := "stringSize"
abbrev z33 : String := "java/lang/constant/Constable"
abbrev z34 : String := "checkBoundsOffCount"
abbrev z35 : String := "checkBoundsBeginEnd"
abbrev z36 : String := "java/lang/Math"
abbrev z37 : String := "java/io/PrintStream"
abbrev z38 : String := "java/lang/CharSequence"
abbrev z39 : String := "java/lang/constant/ConstantDesc"
abbrev z40 : String := "java/lang/Long"
abbrev z41 : String := "java/lang/Character"
abbrev z42 : String := "com/example/quadshape/quadshape/core/regex/MatchLimitExceptionOfMemoryPinLaw"
abbrev z43 : String := "(Ljava/lang/String;Ljava/lang/String;I)Lcom/example/quadshape/quadshape/core/regex/MatchLimitException;"
abbrev z44 : String := "(Ljava/lang/Object;)Z"
abbrev z45 : String := "coderFromArrayLen"
abbrev z46 : String := "java/util/Objects"
abbrev z47 : String := "(Ljava/lang/Object;ILjava/lang/Object;II)V"
abbrev z48 : String := "(IILjava/util/function/BiFunction;)I"
abbrev z49 : String := "checkFromIndexSize"
abbrev z50 : String := "(Ljava/lang/StringBuilder;)V"
abbrev z51 : String := "java/lang/Exception"
abbrev z52 : String := "java/lang/RuntimeException"
abbrev z53 : String := "(Ljava/lang/String;)Ljava/lang/StringBuilder;"
abbrev z54 : String := "(I)Ljava/lang/StringBuilder;"
abbrev z55 : String := "(J)Ljava/lang/StringBuilder;"
abbrev z56 : String := "java/lang/Appendable"
abbrev z57 : String := "(Ljava/lang/String;)Ljava/lang/AbstractStringBuilder;"
abbrev z58 : String := "jdk/internal/util/ArraysSupport"
abbrev z59 : String := "(I)Ljava/lang/AbstractStringBuilder;"
abbrev z60 : String := "(J)Ljava/lang/AbstractStringBuilder;"
abbrev z61 : String := "Ljava/lang/Class;"
abbrev z62 : String := "java/io/InputStream"
abbrev z63 : String := "java/util/Collection"
abbrev z64 : String := "(Ljava/lang/String;III)Z"
abbrev z65 : String := "(Ljava/lang/AbstractStringBuilder;Ljava/lang/Void;)V"
abbrev z66 : String := "(Ljava/lang/String;Ljava/lang/String;Ljava/lang/String;)V"
abbrev z67 : String := "java/util/Collections$EmptyList"
abbrev z68 : String := "java/util/AbstractCollection"
abbrev z69 : String := "java/util/SequencedCollection"
def u (s : String) : CpInfo := .utf8 (stringToUtf16 s)
abbrev U (s : String) : Nat × CpInfo := (0, u s)
abbrev D (n : Nat) : Nat × CpInfo := (0, .class_ n)
abbrev E (n k : Nat) : Nat × CpInfo := (0, .nameAndType n k)
abbrev G (n k : Nat) : Nat × CpInfo := (0, .methodref n k)
def gap : Nat → List CpInfo → List CpInfo
  | 0, r => r
  | n + 1, r => .unusable :: gap n r
def poolList (es : List (Nat × CpInfo)) (last : Nat) : List CpInfo := es.foldr (fun e r => gap e.1 (e.2 :: r)) (gap last [])
def pool (es : List (Nat × CpInfo)) (last : Nat) : Array CpInfo := ⟨poolList es last⟩
def fileOf (pool : Array CpInfo) (this : Nat) (attrs : Array Attribute := #[]) (ms : Array MethodInfo := #[]) (fl : Nat := 33) (sup : Nat := 0) (ifs : Array Nat := #[]) (fds : Array FieldInfo := #[]) : ClassFile where
  minorVersion := 0
  majorVersion := 65
  constantPool := pool
  accessFlags := fl
  thisClass := this
  superClass := sup
  interfaces := ifs
  fields := fds
  methods := ms
  attributes := attrs
def plain (name : String) (sup : Option ClassId) : Class where
  name := name
  kind := .ordinary
  loader := none
  accessFlags := 33
  super := sup
  interfaces := #[]
  cf := none
  fields := #[]
  methods := #[]
  instanceTypes := #[]
  staticTypes := #[]
  resolved := #[]
  callSites := []
  init := .initialized
  statics := none
  mirror := none
def pool0 : Array CpInfo := pool [(5, u z2), U "()V", (1, .class_ 10), (1, u z3)] 113
def k0c0 : Code := ⟨0, 1, object_method_1_code, #[], #[]⟩
def k0m0 : Method := ⟨z2, "()V", ⟨[], none⟩, 1, some k0c0⟩
def k0 : Class := { plain z3 none with
  cf := some (fileOf pool0 8 #[] #[⟨1, 5, 6, #[]⟩] 33 0 #[] #[])
  methods := #[k0m0]
  resolved := Array.replicate 124 none }
def pool1 : Array CpInfo := pool [(2, .class_ 4), (1, u z3), U z2, U "()V", G 8 9, D 10, E 11 12, U z1, U "charAt", U "(I)C", G 14 15, D 16, E 17 18, U z42, U "numChar", U "(III)C", (0, .string 20), U "ab", (0, .string 22), U "xy", (0, .integer 262144), G 25 26, D 27, E 28 29, U z25, U "ofMemory", U z43, G 25 31, E 32 33, U "getMessage", U z21, (0, .string 35), (0, u "the regular expression \"ab\" cannot be matched against a value of 2 characters within the 1 MiB that one match may take"), G 8 37, E 38 39, U "equals", U z44, (0, .integer 55296), G 8 42, E 5 43, U "([C)V", (0, .integer 56319), (0, .integer 56320), (0, .integer 57343), G 8 48, E 49 50, U z10, U "()I", G 14 52, E 53 54, U "digitOk", U z64, (3, u "law"), U "(IIII)Z"] 2
def k1m0 : Method := ⟨z2, "()V", ⟨[], none⟩, 2, none⟩
def k1c1 : Code := ⟨3, 7, method_2_code, #[], #[]⟩
def k1m1 : Method := ⟨"numChar", "(III)C", ⟨[.int, .int, .int], some .char⟩, 10, some k1c1⟩
def k1c2 : Code := ⟨4, 4, method_3_code, #[], #[]⟩
def k1m2 : Method := ⟨"digitOk", z64, ⟨[(.object z1), .int, .int, .int], some .boolean⟩, 10, some k1c2⟩
def k1c3 : Code := ⟨6, 17, code, #[], #[]⟩
def k1m3 : Method := ⟨"law", "(IIII)Z", ⟨[.int, .int, .int, .int], some .boolean⟩, 9, some k1c3⟩
def k1 : Class := { plain z42 (some 0) with
  accessFlags := 49
  cf := some (fileOf pool1 14 #[] #[⟨2, 5, 6, #[]⟩, ⟨10, 17, 18, #[]⟩, ⟨10, 53, 54, #[]⟩, ⟨9, 58, 59, #[]⟩] 49 2 #[] #[])
  methods := #[k1m0, k1m1, k1m2, k1m3]
  resolved := Array.replicate 62 none }
def pool2 : Array CpInfo := pool [(1, .class_ 2), U z18, D 4, U z3] 2
def k2 : Class := { plain z18 (some 0) with
  accessFlags := 1537
  cf := some (fileOf pool2 1 #[] #[] 1537 3 #[] #[])
  resolved := Array.replicate 7 none }
def pool3 : Array CpInfo := pool [(1, .class_ 2), U z26, D 4, U z3] 7
def k3 : Class := { plain z26 (some 0) with
  accessFlags := 1537
  cf := some (fileOf pool3 1 #[] #[] 1537 3 #[] #[])
  resolved := Array.replicate 12 none }
def pool4 : Array CpInfo := pool [(2, .class_ 4), (1, u z38), (42, .class_ 48), U "java/lang/CharSequence$1CodePointIterator", (10, .class_ 60), U "java/lang/CharSequence$1CharIterator", (5, .class_ 67), U z3] 63
def k4 : Class := { plain z38 (some 0) with
  accessFlags := 1537
  cf := some (fileOf pool4 2 #[.nestMembers #[47, 59]] #[] 1537 66 #[] #[])
  resolved := Array.replicate 131 none }
def pool5 : Array CpInfo := pool [(1, .class_ 2), U z33, D 4, U z3] 6
def k5 : Class := { plain z33 (some 0) with
  accessFlags := 1537
  cf := some (fileOf pool5 1 #[] #[] 1537 3 #[] #[])
  resolved := Array.replicate 11 none }
def pool6 : Array CpInfo := pool [(1, .class_ 2), U z39, D 4, U z3] 32
def k6 : Class := { plain z39 (some 0) with
  accessFlags := 1537
  cf := some (fileOf pool6 1 #[] #[] 1537 3 #[] #[])
  resolved := Array.replicate 37 none }
def pool7 : Array CpInfo := pool [(1, .methodref 2 3), D 4, E 5 6, U z3, U z2, U "()V", (2, .fieldref 10 11), D 12, E 13 14, U z1, U "value", U "[B", (0, .fieldref 10 16), E 17 18, U "coder", U "B", (2, u "hash"), U "I", (2, u "hashIsZero"), U "Z", G 10 28, E 5 29, U "([CIILjava/lang/Void;)V", (6, u z34), U "(III)I", (0, .fieldref 10 39), E 40 26, U "COMPACT_STRINGS", (1, .class_ 44), (1, u z5), U "compress", (1, .methodref 42 48), E 49 50, U z45, U "([BI)B", (3, .methodref 55 56), D 57, E 58 59, U z22, U "copyOfRange", U "([BII)[B", (19, .class_ 81), (1, u z46), (15, u "([BII)I"), (8, .methodref 107 108), D 109, E 110 111, U z27, U z15, U z23, (30, u "()Z"), (34, .methodref 42 178), E 45 179, U "([CII)[B", (13, .class_ 195), (1, u "java/lang/System"), (16, .methodref 193 213), E 214 215, U "arraycopy", U z47, (118, u "()I"), G 10 336, E 17 337, U "()B", (2, u "()[B"), (22, u "([BI)C"), (27, u "(II)V"), (35, u "(I)C"), (61, .methodref 10 490), E 5 491, U z65, G 10 493, E 494 142, U "isLatin1", G 107 496, E 497 363, U "charAt", G 42 496, (2, u z16), (3, .methodref 10 506), E 507 334, U z10, (3, .methodref 79 512), E 513 37, U z28, G 42 515, E 516 97, U z19, (6, u z35), U "(III)V", (7, u "getBytes"), (8, .methodref 107 542), E 543 544, U "equals", U "([B[B)Z", (4, .methodref 550 506), D 551, U z6, G 550 553, E 554 340, U "getValue", (18, u z44), (1, .class_ 576), U z38, (22, u "CASE_INSENSITIVE_ORDER"), U "Ljava/util/Comparator;", (35, u "(II)I"), (184, u "([BIB)V"), (188, u "([C)V"), (36, .methodref 550 493), (0, .fieldref 550 1049), E 1050 26, U "maybeLatin1", (2, .fieldref 1054 1055), D 1056, E 1057 1058, U z29, U "SIOOBE_FORMATTER", U "Ljava/util/function/BiFunction;", G 1054 1060, E 501 1061, U z48, G 1054 1063, E 513 1064, U z30, G 1054 1066, E 1067 1064, U z49, (33, u "serialPersistentFields"), U "[Ljava/io/ObjectStreamField;", D 1104, U "java/lang/String$CaseInsensitiveComparator", (1, .class_ 1107), U z18, D 1109, U z26, D 1111, U z33, D 1113, U z39, (2, u z4), U "J", (3, u "REPL"), U "C", (2, u "LATIN1"), (1, u "UTF16"), (105, u z50)] 217
def k7m0 : Method := ⟨z2, "()V", ⟨[], none⟩, 1, none⟩
def k7c1 : Code := ⟨5, 2, jdk_42_method_3_code, #[], #[]⟩
def k7m1 : Method := ⟨z2, "([C)V", ⟨[(.array .char)], none⟩, 1, some k7c1⟩
def k7c2 : Code := ⟨3, 2, jdk_42_method_53_code, #[], #[]⟩
def k7m2 : Method := ⟨z2, z50, ⟨[(.object z7)], none⟩, 1, some k7c2⟩
def k7c3 : Code := ⟨2, 1, jdk_42_method_54_code, #[], #[]⟩
def k7m3 : Method := ⟨z10, "()I", ⟨[], some .int⟩, 1, some k7c3⟩
def k7c4 : Code := ⟨2, 2, jdk_42_method_56_code, #[], #[]⟩
def k7m4 : Method := ⟨"charAt", "(I)C", ⟨[.int], some .char⟩, 1, some k7c4⟩
def k7c5 : Code := ⟨3, 3, jdk_42_method_59_code, #[], #[]⟩
def k7m5 : Method := ⟨z19, "(II)I", ⟨[.int, .int], some .int⟩, 1, some k7c5⟩
def k7c6 : Code := ⟨2, 3, jdk_42_method_66_code, #[], #[]⟩
def k7m6 : Method := ⟨"equals", z44, ⟨[(.object z3)], some .boolean⟩, 1, some k7c6⟩
def k7c7 : Code := ⟨5, 4, jdk_42_method_147_code, #[], #[]⟩
def k7m7 : Method := ⟨"getBytes", "([BIB)V", ⟨[(.array .byte), .int, .byte], none⟩, 0, some k7c7⟩
def k7c8 : Code := ⟨4, 6, jdk_42_method_149_code, #[], #[]⟩
def k7m8 : Method := ⟨z2, "([CIILjava/lang/Void;)V", ⟨[(.array .char), .int, .int, (.object "java/lang/Void")], none⟩, 2, some k7c8⟩
def k7c9 : Code := ⟨5, 5, jdk_42_method_150_code, #[], #[]⟩
def k7m9 : Method := ⟨z2, z65, ⟨[(.object z6), (.object "java/lang/Void")], none⟩, 0, some k7c9⟩
def k7c10 : Code := ⟨1, 1, jdk_42_method_152_code, #[], #[]⟩
def k7m10 : Method := ⟨"coder", "()B", ⟨[], some .byte⟩, 0, some k7c10⟩
def k7c11 : Code := ⟨1, 1, jdk_42_method_154_code, #[], #[]⟩
def k7m11 : Method := ⟨"isLatin1", "()Z", ⟨[], some .boolean⟩, 0, some k7c11⟩
def k7c12 : Code := ⟨3, 2, jdk_42_method_155_code, #[], #[]⟩
def k7m12 : Method := ⟨z16, "(II)V", ⟨[.int, .int], none⟩, 8, some k7c12⟩
def k7c13 : Code := ⟨4, 3, jdk_42_method_157_code, #[], #[]⟩
def k7m13 : Method := ⟨z34, "(III)I", ⟨[.int, .int, .int], some .int⟩, 8, some k7c13⟩
def k7c14 : Code := ⟨4, 3, jdk_42_method_158_code, #[], #[]⟩
def k7m14 : Method := ⟨z35, "(III)V", ⟨[.int, .int, .int], none⟩, 8, some k7c14⟩
def k7 : Class := { plain z1 (some 0) with
  accessFlags := 49
  interfaces := #[2, 3, 4, 5, 6]
  cf := some (fileOf pool7 10 #[.nestMembers #[1103]] #[⟨1, 5, 6, #[]⟩, ⟨1, 5, 1010, #[]⟩, ⟨1, 5, 1233, #[]⟩, ⟨1, 507, 334, #[]⟩, ⟨1, 497, 427, #[]⟩, ⟨1, 516, 636, #[]⟩, ⟨1, 543, 573, #[]⟩, ⟨0, 532, 821, #[]⟩, ⟨2, 5, 29, #[]⟩, ⟨0, 5, 491, #[]⟩, ⟨0, 17, 337, #[]⟩, ⟨0, 494, 142, #[]⟩, ⟨8, 501, 391, #[]⟩, ⟨8, 36, 37, #[]⟩, ⟨8, 523, 524, #[]⟩] 49 2 #[1106, 1108, 575, 1110, 1112] #[⟨18, 13, 14, #[]⟩, ⟨18, 17, 18, #[]⟩, ⟨2, 21, 22, #[]⟩, ⟨2, 25, 26, #[]⟩, ⟨26, 1116, 1117, #[]⟩, ⟨24, 40, 26, #[]⟩, ⟨26, 1101, 1102, #[]⟩, ⟨26, 1121, 1122, #[]⟩, ⟨25, 599, 600, #[]⟩, ⟨24, 1125, 18, #[]⟩, ⟨24, 1127, 18, #[]⟩])
  fields := #[⟨"value", (.array .byte), 18, 0, 0⟩, ⟨"coder", .byte, 18, 1, 0⟩, ⟨"hash", .int, 2, 2, 0⟩, ⟨"hashIsZero", .boolean, 2, 3, 0⟩, ⟨z4, .long, 26, 0, 0⟩, ⟨"COMPACT_STRINGS", .boolean, 24, 1, 0⟩, ⟨"serialPersistentFields", (.array (.object "java/io/ObjectStreamField")), 26, 2, 0⟩, ⟨"REPL", .char, 26, 3, 0⟩, ⟨"CASE_INSENSITIVE_ORDER", (.object "java/util/Comparator"), 25, 4, 0⟩, ⟨"LATIN1", .byte, 24, 5, 0⟩, ⟨"UTF16", .byte, 24, 6, 0⟩]
  methods := #[k7m0, k7m1, k7m2, k7m3, k7m4, k7m5, k7m6, k7m7, k7m8, k7m9, k7m10, k7m11, k7m12, k7m13, k7m14]
  instanceTypes := #[(.array .byte), .byte, .int, .boolean]
  staticTypes := #[.long, .boolean, (.array (.object "java/io/ObjectStreamField")), .char, (.object "java/util/Comparator"), .byte, .byte]
  resolved := Array.replicate 1451 none
  statics := some 0 }
def pool8 : Array CpInfo := pool [(1, .methodref 2 3), D 4, E 5 6, U z3, U z2, U "()V", (0, .fieldref 8 9), D 10, E 11 12, U z8, U "cause", U "Ljava/lang/Throwable;", (0, .fieldref 8 14), E 15 16, U "UNASSIGNED_STACK", U "[Ljava/lang/StackTraceElement;", (0, .fieldref 8 18), E 19 16, U "stackTrace", (0, .fieldref 8 21), E 22 23, U "SUPPRESSED_SENTINEL", U "Ljava/util/List;", (0, .fieldref 8 25), E 26 23, U "suppressedExceptions", G 8 28, E 29 30, U "fillInStackTrace", U "()Ljava/lang/Throwable;", (0, .fieldref 8 32), E 33 34, U "detailMessage", U "Ljava/lang/String;", (3, u z21), (2, u "getMessage"), (51, .class_ 94), U "java/lang/Throwable$WrappedPrintStream", (6, .class_ 103), (1, u "java/lang/Throwable$PrintStreamOrWriter"), (61, u z12), U "Z", (26, .class_ 194), U "java/lang/Throwable$WrappedPrintWriter", (3, .fieldref 8 199), E 200 201, U "backtrace", U "Ljava/lang/Object;", G 8 203, E 29 204, U "(I)Ljava/lang/Throwable;", (6, u "depth"), U "I", (10, u z11), (45, .class_ 271), (1, u "java/lang/Throwable$SentinelHolder"), (32, u "EMPTY_THROWABLE_ARRAY"), U "[Ljava/lang/Throwable;", (12, .class_ 319), U z18, U z4, U "J", (5, u "NULL_CAUSE_MESSAGE"), U "SELF_SUPPRESSION_MESSAGE", U "CAUSE_CAPTION", U "SUPPRESSED_CAPTION"] 73
def k8c0 : Code := ⟨2, 1, jdk_78_method_1_code, #[], #[]⟩
def k8m0 : Method := ⟨z2, "()V", ⟨[], none⟩, 1, some k8c0⟩
def k8c1 : Code := ⟨2, 2, jdk_78_method_2_code, #[], #[]⟩
def k8m1 : Method := ⟨z2, z11, ⟨[(.object z1)], none⟩, 1, some k8c1⟩
def k8c2 : Code := ⟨1, 1, jdk_78_method_6_code, #[], #[]⟩
def k8m2 : Method := ⟨"getMessage", z21, ⟨[], some (.object z1)⟩, 1, some k8c2⟩
def k8c3 : Code := ⟨2, 1, jdk_78_method_18_code, #[], #[]⟩
def k8m3 : Method := ⟨"fillInStackTrace", "()Ljava/lang/Throwable;", ⟨[], some (.object z8)⟩, 33, some k8c3⟩
def k8m4 : Method := ⟨"fillInStackTrace", "(I)Ljava/lang/Throwable;", ⟨[.int], some (.object z8)⟩, 258, none⟩
def k8 : Class := { plain z8 (some 0) with
  interfaces := #[2]
  cf := some (fileOf pool8 8 #[.nestMembers #[193, 93, 101, 269]] #[⟨1, 5, 6, #[]⟩, ⟨1, 5, 223, #[]⟩, ⟨1, 41, 38, #[]⟩, ⟨33, 29, 30, #[]⟩, ⟨258, 29, 204, #[]⟩] 33 2 #[318] #[⟨26, 320, 321, #[]⟩, ⟨130, 200, 201, #[]⟩, ⟨2, 33, 34, #[]⟩, ⟨26, 15, 16, #[]⟩, ⟨2, 11, 12, #[]⟩, ⟨2, 19, 16, #[]⟩, ⟨130, 211, 212, #[]⟩, ⟨26, 22, 23, #[]⟩, ⟨2, 26, 23, #[]⟩, ⟨26, 327, 34, #[]⟩, ⟨26, 328, 34, #[]⟩, ⟨26, 329, 34, #[]⟩, ⟨26, 330, 34, #[]⟩, ⟨26, 304, 305, #[]⟩, ⟨4120, 165, 166, #[]⟩])
  fields := #[⟨z4, .long, 26, 0, 0⟩, ⟨"backtrace", (.object z3), 130, 0, 0⟩, ⟨"detailMessage", (.object z1), 2, 1, 0⟩, ⟨"UNASSIGNED_STACK", (.array (.object z17)), 26, 1, 0⟩, ⟨"cause", (.object z8), 2, 2, 0⟩, ⟨"stackTrace", (.array (.object z17)), 2, 3, 0⟩, ⟨"depth", .int, 130, 4, 0⟩, ⟨"SUPPRESSED_SENTINEL", (.object z13), 26, 2, 0⟩, ⟨"suppressedExceptions", (.object z13), 2, 5, 0⟩, ⟨"NULL_CAUSE_MESSAGE", (.object z1), 26, 3, 0⟩, ⟨"SELF_SUPPRESSION_MESSAGE", (.object z1), 26, 4, 0⟩, ⟨"CAUSE_CAPTION", (.object z1), 26, 5, 0⟩, ⟨"SUPPRESSED_CAPTION", (.object z1), 26, 6, 0⟩, ⟨"EMPTY_THROWABLE_ARRAY", (.array (.object z8)), 26, 7, 0⟩, ⟨z12, .boolean, 4120, 8, 0⟩]
  methods := #[k8m0, k8m1, k8m2, k8m3, k8m4]
  instanceTypes := #[(.object z3), (.object z1), (.object z8), (.array (.object z17)), .int, (.object z13)]
  staticTypes := #[.long, (.array (.object z17)), (.object z13), (.object z1), (.object z1), (.object z1), (.object z1), (.array (.object z8)), .boolean]
  resolved := Array.replicate 404 none
  statics := some 1 }
def pool9 : Array CpInfo := pool [(2, .class_ 4), (1, u z8), U z2, U "()V", G 2 8, E 5 9, U z11, (9, .class_ 20), U z51, U z4, U "J"] 17
def k9m0 : Method := ⟨z2, "()V", ⟨[], none⟩, 1, none⟩
def k9c1 : Code := ⟨2, 2, jdk_59_method_2_code, #[], #[]⟩
def k9m1 : Method := ⟨z2, z11, ⟨[(.object z1)], none⟩, 1, some k9c1⟩
def k9 : Class := { plain z51 (some 8) with
  cf := some (fileOf pool9 19 #[] #[⟨1, 5, 6, #[]⟩, ⟨1, 5, 9, #[]⟩] 33 2 #[] #[⟨24, 21, 22, #[]⟩])
  fields := #[⟨z4, .long, 24, 0, 0⟩]
  methods := #[k9m0, k9m1]
  instanceTypes := #[(.object z3), (.object z1), (.object z8), (.array (.object z17)), .int, (.object z13)]
  staticTypes := #[.long]
  resolved := Array.replicate 40 none }
def pool10 : Array CpInfo := pool [(2, .class_ 4), (1, u z51), U z2, U "()V", G 2 8, E 5 9, U z11, (9, .class_ 20), U z52, U z4, U "J"] 17
def k10m0 : Method := ⟨z2, "()V", ⟨[], none⟩, 1, none⟩
def k10c1 : Code := ⟨2, 2, jdk_58_method_2_code, #[], #[]⟩
def k10m1 : Method := ⟨z2, z11, ⟨[(.object z1)], none⟩, 1, some k10c1⟩
def k10 : Class := { plain z52 (some 9) with
  cf := some (fileOf pool10 19 #[] #[⟨1, 5, 6, #[]⟩, ⟨1, 5, 9, #[]⟩] 33 2 #[] #[⟨24, 21, 22, #[]⟩])
  fields := #[⟨z4, .long, 24, 0, 0⟩]
  methods := #[k10m0, k10m1]
  instanceTypes := #[(.object z3), (.object z1), (.object z8), (.array (.object z17)), .int, (.object z13)]
  staticTypes := #[.long]
  resolved := Array.replicate 40 none }
def pool11 : Array CpInfo := pool [(1, .class_ 2), U z7, G 1 4, E 5 6, U z2, U "()V", (0, .string 8), (0, u "the regular expression \""), G 1 10, E 11 12, U z9, U z53, (0, .string 14), (0, u "\" cannot be matched against a value of "), G 16 17, D 18, E 19 20, U z1, U z10, U "()I", G 16 22, E 23 24, U z19, U "(II)I", G 1 26, E 11 27, U z54, (0, .string 29), U " characters within the ", G 1 31, E 32 33, U "toString", U z21, G 35 36, D 37, E 5 38, U z52, U z11, D 40, U z25, (2, .long 4), (1, .methodref 1 46), E 11 47, U z55, (0, .string 49), U " MiB that one match may take", G 39 51, E 5 52, U z66, (2, u z4), U "J", (5, u "ofMemory"), U z43] 4
def k11c0 : Code := ⟨5, 4, prog_16_method_1_code, #[], #[]⟩
def k11m0 : Method := ⟨z2, z66, ⟨[(.object z1), (.object z1), (.object z1)], none⟩, 2, some k11c0⟩
def k11c1 : Code := ⟨9, 3, prog_16_method_2_code, #[], #[]⟩
def k11m1 : Method := ⟨"ofMemory", z43, ⟨[(.object z1), (.object z1), .int], some (.object z25)⟩, 8, some k11c1⟩
def k11 : Class := { plain z25 (some 10) with
  accessFlags := 49
  cf := some (fileOf pool11 39 #[] #[⟨2, 5, 52, #[]⟩, ⟨8, 62, 63, #[]⟩] 49 35 #[] #[⟨26, 55, 56, #[]⟩])
  fields := #[⟨z4, .long, 26, 0, 0⟩]
  methods := #[k11m0, k11m1]
  instanceTypes := #[(.object z3), (.object z1), (.object z8), (.array (.object z17)), .int, (.object z13)]
  staticTypes := #[.long]
  resolved := Array.replicate 68 none }
def pool12 : Array CpInfo := pool [(1, .class_ 2), U z56, D 4, U z3] 9
def k12 : Class := { plain z56 (some 0) with
  accessFlags := 1537
  cf := some (fileOf pool12 1 #[] #[] 1537 3 #[] #[])
  resolved := Array.replicate 14 none }
def pool13 : Array CpInfo := pool [(1, .class_ 2), U z1, G 4 5, D 6, E 7 8, U z3, U z2, U "()V", (1, .class_ 12), (1, u z6), U "EMPTYVALUE", U "[B", (0, .fieldref 10 16), E 17 14, U "value", (0, .fieldref 1 19), E 20 21, U "COMPACT_STRINGS", U "Z", (0, .fieldref 10 23), E 24 25, U "coder", U "B", G 27 28, D 29, E 30 31, U z5, U "newBytesFor", U "(I)[B", G 1 33, E 34 35, U z10, U "()I", D 37, U z31, (1, .integer 2147483647), G 1 41, E 24 42, U "()B", (2, u z9), U z57, (1, .class_ 49), U z38, (19, u z11), (5, u "maybeLatin1"), (3, .fieldref 10 80), E 81 82, U "count", U "I", G 10 84, E 85 86, U "isLatin1", U "()Z", (1, .class_ 90), (1, u z27), (9, .methodref 10 101), E 102 103, U "ensureCapacityInternal", U "(I)V", G 10 105, E 106 107, U "newCapacity", U "(I)I", G 109 110, D 111, E 112 113, U z22, U "copyOf", U "([BI)[B", G 115 116, D 117, E 118 119, U z58, U "newLength", U "(III)I", (5, .methodref 88 126), E 127 128, U z15, U z23, (59, u z14), (6, .methodref 10 196), E 127 8, (11, .methodref 10 209), E 210 211, U "putStringAt", U "(ILjava/lang/String;)V", (5, u "inflateIfNeededFor"), (2, .nameAndType 221 222), U "getBytes", U "([BIB)V", (22, .methodref 36 246), E 247 107, U z32, G 36 249, E 188 250, U "(II[B)I", G 27 252, E 188 253, U "(III[B)I", G 255 256, D 257, E 247 258, U z40, U "(J)I", G 255 260, E 188 261, U "(JI[B)I", (135, .methodref 10 398), E 217 69, G 1 220, (3, u "()[B"), (40, .class_ 445), U z56, (65, u z59), (1, u z60), (38, u "getValue")] 56
def k13m0 : Method := ⟨z2, "()V", ⟨[], none⟩, 0, none⟩
def k13c1 : Code := ⟨2, 2, jdk_68_method_2_code, #[], #[]⟩
def k13m1 : Method := ⟨z2, "(I)V", ⟨[.int], none⟩, 0, some k13c1⟩
def k13c2 : Code := ⟨1, 1, jdk_68_method_6_code, #[], #[]⟩
def k13m2 : Method := ⟨z10, "()I", ⟨[], some .int⟩, 1, some k13c2⟩
def k13c3 : Code := ⟨4, 3, jdk_68_method_9_code, #[], #[]⟩
def k13m3 : Method := ⟨"ensureCapacityInternal", "(I)V", ⟨[.int], none⟩, 2, some k13c3⟩
def k13c4 : Code := ⟨5, 6, jdk_68_method_10_code, #[], #[]⟩
def k13m4 : Method := ⟨"newCapacity", "(I)I", ⟨[.int], some .int⟩, 2, some k13c4⟩
def k13c5 : Code := ⟨5, 2, jdk_68_method_11_code, #[], #[]⟩
def k13m5 : Method := ⟨z15, "()V", ⟨[], none⟩, 2, some k13c5⟩
def k13c6 : Code := ⟨3, 3, jdk_68_method_22_code, #[], #[]⟩
def k13m6 : Method := ⟨z9, z57, ⟨[(.object z1)], some (.object z6)⟩, 1, some k13c6⟩
def k13c7 : Code := ⟨4, 4, jdk_68_method_32_code, #[], #[]⟩
def k13m7 : Method := ⟨z9, z59, ⟨[.int], some (.object z6)⟩, 1, some k13c7⟩
def k13c8 : Code := ⟨5, 5, jdk_68_method_33_code, #[], #[]⟩
def k13m8 : Method := ⟨z9, z60, ⟨[.long], some (.object z6)⟩, 1, some k13c8⟩
def k13c9 : Code := ⟨1, 1, jdk_68_method_64_code, #[], #[]⟩
def k13m9 : Method := ⟨"getValue", "()[B", ⟨[], some (.array .byte)⟩, 16, some k13c9⟩
def k13c10 : Code := ⟨1, 1, jdk_68_method_68_code, #[], #[]⟩
def k13m10 : Method := ⟨"isLatin1", "()Z", ⟨[], some .boolean⟩, 16, some k13c10⟩
def k13c11 : Code := ⟨2, 2, jdk_68_method_71_code, #[], #[]⟩
def k13m11 : Method := ⟨"inflateIfNeededFor", z11, ⟨[(.object z1)], none⟩, 2, some k13c11⟩
def k13c12 : Code := ⟨4, 3, jdk_68_method_73_code, #[], #[]⟩
def k13m12 : Method := ⟨"putStringAt", "(ILjava/lang/String;)V", ⟨[.int, (.object z1)], none⟩, 2, some k13c12⟩
def k13 : Class := { plain z6 (some 0) with
  accessFlags := 1056
  interfaces := #[12, 4]
  cf := some (fileOf pool13 10 #[] #[⟨0, 7, 8, #[]⟩, ⟨0, 7, 103, #[]⟩, ⟨1, 34, 35, #[]⟩, ⟨2, 102, 103, #[]⟩, ⟨2, 106, 107, #[]⟩, ⟨2, 127, 8, #[]⟩, ⟨1, 45, 46, #[]⟩, ⟨1, 45, 511, #[]⟩, ⟨1, 45, 513, #[]⟩, ⟨16, 552, 403, #[]⟩, ⟨16, 85, 86, #[]⟩, ⟨2, 217, 69, #[]⟩, ⟨2, 210, 211, #[]⟩] 1056 4 #[444, 48] #[⟨0, 17, 14, #[]⟩, ⟨0, 24, 25, #[]⟩, ⟨0, 75, 21, #[]⟩, ⟨0, 81, 82, #[]⟩, ⟨26, 13, 14, #[]⟩])
  fields := #[⟨"value", (.array .byte), 0, 0, 0⟩, ⟨"coder", .byte, 0, 1, 0⟩, ⟨"maybeLatin1", .boolean, 0, 2, 0⟩, ⟨"count", .int, 0, 3, 0⟩, ⟨"EMPTYVALUE", (.array .byte), 26, 0, 0⟩]
  methods := #[k13m0, k13m1, k13m2, k13m3, k13m4, k13m5, k13m6, k13m7, k13m8, k13m9, k13m10, k13m11, k13m12]
  instanceTypes := #[(.array .byte), .byte, .boolean, .int]
  staticTypes := #[(.array .byte)]
  resolved := Array.replicate 609 none }
def pool14 : Array CpInfo := pool [(1, .methodref 2 3), D 4, E 5 6, U z6, U z2, U "(I)V", (11, .class_ 20), (1, u z1), (3, .class_ 26), (1, u z7), U z9, U z53, G 2 30, E 27 31, U z57, (21, .methodref 2 54), E 27 55, U z59, G 2 57, E 27 58, U z60, (78, .methodref 18 138), E 5 139, U z50, (5, u "()V"), (10, u "()I"), (111, u z54), (12, u z55), (61, .methodref 2 344), E 345 156, U z10, (3, .class_ 350), U z56, D 352, U z18, D 354, U z26, D 356, U z38, U z4, U "J", (40, u "toString"), U z21] 21
def k14c0 : Code := ⟨2, 1, jdk_67_method_1_code, #[], #[]⟩
def k14m0 : Method := ⟨z2, "()V", ⟨[], none⟩, 1, some k14c0⟩
def k14c1 : Code := ⟨2, 2, jdk_67_method_7_code, #[], #[]⟩
def k14m1 : Method := ⟨z9, z53, ⟨[(.object z1)], some (.object z7)⟩, 1, some k14c1⟩
def k14c2 : Code := ⟨2, 2, jdk_67_method_15_code, #[], #[]⟩
def k14m2 : Method := ⟨z9, z54, ⟨[.int], some (.object z7)⟩, 1, some k14c2⟩
def k14c3 : Code := ⟨3, 3, jdk_67_method_16_code, #[], #[]⟩
def k14m3 : Method := ⟨z9, z55, ⟨[.long], some (.object z7)⟩, 1, some k14c3⟩
def k14c4 : Code := ⟨3, 1, jdk_67_method_42_code, #[], #[]⟩
def k14m4 : Method := ⟨"toString", z21, ⟨[], some (.object z1)⟩, 1, some k14c4⟩
def k14c5 : Code := ⟨1, 1, jdk_67_method_93_code, #[], #[]⟩
def k14m5 : Method := ⟨z10, "()I", ⟨[], some .int⟩, 4161, some k14c5⟩
def k14 : Class := { plain z7 (some 13) with
  accessFlags := 49
  interfaces := #[12, 2, 3, 4]
  cf := some (fileOf pool14 24 #[] #[⟨1, 5, 145, #[]⟩, ⟨1, 27, 28, #[]⟩, ⟨1, 27, 268, #[]⟩, ⟨1, 27, 281, #[]⟩, ⟨1, 399, 400, #[]⟩, ⟨4161, 345, 156, #[]⟩] 49 2 #[349, 351, 353, 355] #[⟨24, 357, 358, #[]⟩])
  fields := #[⟨z4, .long, 24, 0, 0⟩]
  methods := #[k14m0, k14m1, k14m2, k14m3, k14m4, k14m5]
  instanceTypes := #[(.array .byte), .byte, .boolean, .int]
  staticTypes := #[.long]
  resolved := Array.replicate 422 none }
def pool15 : Array CpInfo := pool [(2, .class_ 4), (1, u z3), U z2, U "()V", (1, .class_ 10), (1, u "java/lang/Number"), (2, .class_ 14), U z18, U z4, U "J"] 20
def k15m0 : Method := ⟨z2, "()V", ⟨[], none⟩, 1, none⟩
def k15 : Class := { plain "java/lang/Number" (some 0) with
  accessFlags := 1057
  interfaces := #[2]
  cf := some (fileOf pool15 8 #[] #[⟨1, 5, 6, #[]⟩] 1057 2 #[13] #[⟨26, 15, 16, #[]⟩])
  fields := #[⟨z4, .long, 26, 0, 0⟩]
  methods := #[k15m0]
  staticTypes := #[.long]
  resolved := Array.replicate 37 none }
def pool16 : Array CpInfo := pool [(1, .class_ 2), U z40, (15, .class_ 20), (1, u z31), (32, .long 10), (47, u "(J)I"), (18, u z32), (2, u z14), U "(JI[B)I", (4, .long 18446744071562067968), (3, .fieldref 18 134), E 135 136, U "DigitOnes", U "[B", (0, .fieldref 18 138), E 139 136, U "DigitTens", (0, .long 18446744073709551606), (94, .class_ 237), (1, u "java/lang/Long$LongCache"), (33, .class_ 272), U "java/lang/Number", (2, u "value"), U "J", (84, u "TYPE"), U z61, D 364, U z26, D 366, U z33, D 368, U z39, U "MIN_VALUE", (1, u "MAX_VALUE"), (4, u "SIZE"), U "I", (1, u "BYTES"), (1, u z4)] 142
def k16c0 : Code := ⟨4, 11, jdk_35_method_14_code, #[], #[]⟩
def k16m0 : Method := ⟨z14, "(JI[B)I", ⟨[.long, .int, (.array .byte)], some .int⟩, 8, some k16c0⟩
def k16c1 : Code := ⟨4, 6, jdk_35_method_15_code, #[], #[]⟩
def k16m1 : Method := ⟨z32, "(J)I", ⟨[.long], some .int⟩, 8, some k16c1⟩
def k16 : Class := { plain z40 (some 15) with
  accessFlags := 49
  interfaces := #[3, 5, 6]
  cf := some (fileOf pool16 1 #[.nestMembers #[235]] #[⟨8, 123, 124, #[]⟩, ⟨8, 120, 101, #[]⟩] 49 271 #[363, 365, 367] #[⟨25, 369, 276, #[]⟩, ⟨25, 371, 276, #[]⟩, ⟨25, 361, 362, #[]⟩, ⟨18, 275, 276, #[]⟩, ⟨25, 376, 377, #[]⟩, ⟨25, 379, 377, #[]⟩, ⟨26, 381, 276, #[]⟩])
  fields := #[⟨"MIN_VALUE", .long, 25, 0, 0⟩, ⟨"MAX_VALUE", .long, 25, 1, 0⟩, ⟨"TYPE", (.object z24), 25, 2, 0⟩, ⟨"value", .long, 18, 0, 0⟩, ⟨"SIZE", .int, 25, 3, 0⟩, ⟨"BYTES", .int, 25, 4, 0⟩, ⟨z4, .long, 26, 5, 0⟩]
  methods := #[k16m0, k16m1]
  instanceTypes := #[.long]
  staticTypes := #[.long, .long, (.object z24), .int, .int, .long]
  resolved := Array.replicate 524 none }
def pool17 : Array CpInfo := pool [(1, .class_ 2), U z31, (16, u "digits"), U "[C", (33, u "(I)I"), (19, u z32), (2, u z14), U "(II[B)I", (4, .fieldref 1 84), E 85 86, U "DigitOnes", U "[B", (2, u "DigitTens"), (99, .class_ 190), U "java/lang/Integer$IntegerCache", (3, u "I"), (8, .class_ 204), U "java/lang/Number", (2, u "value"), (94, u "TYPE"), U z61, D 305, U z26, D 307, U z33, D 309, U z39, U "MIN_VALUE", (1, u "MAX_VALUE"), (3, u "SIZE"), (1, u "BYTES"), (1, u z4), U "J"] 131
def k17c0 : Code := ⟨4, 7, jdk_33_method_12_code, #[], #[]⟩
def k17m0 : Method := ⟨z14, "(II[B)I", ⟨[.int, .int, (.array .byte)], some .int⟩, 8, some k17c0⟩
def k17c1 : Code := ⟨2, 4, jdk_33_method_13_code, #[], #[]⟩
def k17m1 : Method := ⟨z32, "(I)I", ⟨[.int], some .int⟩, 8, some k17c1⟩
def k17 : Class := { plain z31 (some 15) with
  accessFlags := 49
  interfaces := #[3, 5, 6]
  cf := some (fileOf pool17 1 #[.nestMembers #[189]] #[⟨8, 77, 78, #[]⟩, ⟨8, 74, 54, #[]⟩] 49 203 #[304, 306, 308] #[⟨25, 310, 194, #[]⟩, ⟨25, 312, 194, #[]⟩, ⟨25, 302, 303, #[]⟩, ⟨24, 19, 20, #[]⟩, ⟨24, 89, 86, #[]⟩, ⟨24, 85, 86, #[]⟩, ⟨18, 207, 194, #[]⟩, ⟨25, 316, 194, #[]⟩, ⟨25, 318, 194, #[]⟩, ⟨26, 320, 321, #[]⟩])
  fields := #[⟨"MIN_VALUE", .int, 25, 0, 0⟩, ⟨"MAX_VALUE", .int, 25, 1, 0⟩, ⟨"TYPE", (.object z24), 25, 2, 0⟩, ⟨"digits", (.array .char), 24, 3, 0⟩, ⟨"DigitTens", (.array .byte), 24, 4, 0⟩, ⟨"DigitOnes", (.array .byte), 24, 5, 0⟩, ⟨"value", .int, 18, 0, 0⟩, ⟨"SIZE", .int, 25, 6, 0⟩, ⟨"BYTES", .int, 25, 7, 0⟩, ⟨z4, .long, 26, 8, 0⟩]
  methods := #[k17m0, k17m1]
  instanceTypes := #[.int]
  staticTypes := #[.int, .int, (.object z24), (.array .char), (.array .byte), (.array .byte), .int, .int, .long]
  resolved := Array.replicate 453 none
  statics := some 2 }
def pool18 : Array CpInfo := pool [(9, u z2), (6, .class_ 18), (1, u z3), U "()V", (1, .class_ 23), (1, u z58), U "LOG2_ARRAY_LONG_INDEX_SCALE", U "I", (2, u "U"), U "Ljdk/internal/misc/Unsafe;", (8, u "BIG_ENDIAN"), U "Z", (8, u "LOG2_BYTE_BIT_SIZE"), (4, u "LOG2_ARRAY_INT_INDEX_SCALE"), (54, u "JLA"), U "Ljdk/internal/access/JavaLangAccess;", (11, u "LOG2_ARRAY_BOOLEAN_INDEX_SCALE"), (9, u "LOG2_ARRAY_BYTE_INDEX_SCALE"), (5, u "LOG2_ARRAY_CHAR_INDEX_SCALE"), (5, u "LOG2_ARRAY_SHORT_INDEX_SCALE"), (18, u "LOG2_ARRAY_FLOAT_INDEX_SCALE"), (24, u "LOG2_ARRAY_DOUBLE_INDEX_SCALE"), (6, .methodref 195 196), D 197, E 198 199, U z36, U "max", U "(II)I", (0, .integer 2147483639), (76, u "T_BOOLEAN"), (2, u "T_CHAR"), (1, u "T_FLOAT"), (1, u "T_DOUBLE"), (1, u "T_BYTE"), (1, u "T_SHORT"), (1, u "T_INT"), (1, u "T_LONG"), (1, u "SOFT_MAX_ARRAY_LENGTH"), (56, u "newLength"), U "(III)I"] 25
def k18m0 : Method := ⟨z2, "()V", ⟨[], none⟩, 2, none⟩
def k18c1 : Code := ⟨3, 4, jdk_48_method_27_code, #[], #[]⟩
def k18m1 : Method := ⟨"newLength", "(III)I", ⟨[.int, .int, .int], some .int⟩, 9, some k18c1⟩
def k18 : Class := { plain z58 (some 0) with
  cf := some (fileOf pool18 21 #[] #[⟨2, 9, 19, #[]⟩, ⟨9, 351, 352, #[]⟩] 33 16 #[] #[⟨24, 28, 29, #[]⟩, ⟨26, 38, 39, #[]⟩, ⟨25, 121, 25, #[]⟩, ⟨25, 131, 25, #[]⟩, ⟨25, 137, 25, #[]⟩, ⟨25, 143, 25, #[]⟩, ⟨25, 53, 25, #[]⟩, ⟨25, 24, 25, #[]⟩, ⟨25, 162, 25, #[]⟩, ⟨25, 187, 25, #[]⟩, ⟨26, 48, 25, #[]⟩, ⟨25, 277, 25, #[]⟩, ⟨25, 280, 25, #[]⟩, ⟨25, 282, 25, #[]⟩, ⟨25, 284, 25, #[]⟩, ⟨25, 286, 25, #[]⟩, ⟨25, 288, 25, #[]⟩, ⟨25, 290, 25, #[]⟩, ⟨25, 292, 25, #[]⟩, ⟨26, 108, 109, #[]⟩, ⟨25, 294, 25, #[]⟩])
  fields := #[⟨"U", (.object "jdk/internal/misc/Unsafe"), 24, 0, 0⟩, ⟨"BIG_ENDIAN", .boolean, 26, 1, 0⟩, ⟨"LOG2_ARRAY_BOOLEAN_INDEX_SCALE", .int, 25, 2, 0⟩, ⟨"LOG2_ARRAY_BYTE_INDEX_SCALE", .int, 25, 3, 0⟩, ⟨"LOG2_ARRAY_CHAR_INDEX_SCALE", .int, 25, 4, 0⟩, ⟨"LOG2_ARRAY_SHORT_INDEX_SCALE", .int, 25, 5, 0⟩, ⟨"LOG2_ARRAY_INT_INDEX_SCALE", .int, 25, 6, 0⟩, ⟨"LOG2_ARRAY_LONG_INDEX_SCALE", .int, 25, 7, 0⟩, ⟨"LOG2_ARRAY_FLOAT_INDEX_SCALE", .int, 25, 8, 0⟩, ⟨"LOG2_ARRAY_DOUBLE_INDEX_SCALE", .int, 25, 9, 0⟩, ⟨"LOG2_BYTE_BIT_SIZE", .int, 26, 10, 0⟩, ⟨"T_BOOLEAN", .int, 25, 11, 0⟩, ⟨"T_CHAR", .int, 25, 12, 0⟩, ⟨"T_FLOAT", .int, 25, 13, 0⟩, ⟨"T_DOUBLE", .int, 25, 14, 0⟩, ⟨"T_BYTE", .int, 25, 15, 0⟩, ⟨"T_SHORT", .int, 25, 16, 0⟩, ⟨"T_INT", .int, 25, 17, 0⟩, ⟨"T_LONG", .int, 25, 18, 0⟩, ⟨"JLA", (.object "jdk/internal/access/JavaLangAccess"), 26, 19, 0⟩, ⟨"SOFT_MAX_ARRAY_LENGTH", .int, 25, 20, 0⟩]
  methods := #[k18m0, k18m1]
  staticTypes := #[(.object "jdk/internal/misc/Unsafe"), .boolean, .int, .int, .int, .int, .int, .int, .int, .int, .int, .int, .int, .int, .int, .int, .int, .int, .int, (.object "jdk/internal/access/JavaLangAccess"), .int]
  resolved := Array.replicate 378 none }
def pool19 : Array CpInfo := pool [(1, .class_ 2), U z36, (1, .class_ 6), (1, u z3), U z2, U "()V", (89, .class_ 100), (1, u "java/lang/Math$RandomNumberGeneratorHolder"), (71, u "negativeZeroFloatBits"), U "J", (2, u "negativeZeroDoubleBits"), (21, u "max"), (2, u "min"), (43, u z12), U "Z", (88, u "(II)I"), (2, u "twoToTheDoubleScaleDown"), U "D", (4, u "twoToTheDoubleScaleUp"), (9, u "E"), (3, u "PI"), (2, u "TAU"), (2, u "DEGREES_TO_RADIANS"), U "RADIANS_TO_DEGREES"] 94
def k19m0 : Method := ⟨z2, "()V", ⟨[], none⟩, 2, none⟩
def k19c1 : Code := ⟨2, 2, jdk_29_method_65_code, #[], #[]⟩
def k19m1 : Method := ⟨"max", "(II)I", ⟨[.int, .int], some .int⟩, 9, some k19c1⟩
def k19c2 : Code := ⟨2, 2, jdk_29_method_69_code, #[], #[]⟩
def k19m2 : Method := ⟨"min", "(II)I", ⟨[.int, .int], some .int⟩, 9, some k19c2⟩
def k19 : Class := { plain z36 (some 0) with
  accessFlags := 49
  cf := some (fileOf pool19 1 #[.nestMembers #[98]] #[⟨2, 7, 8, #[]⟩, ⟨9, 198, 335, #[]⟩, ⟨9, 201, 335, #[]⟩] 49 4 #[] #[⟨25, 354, 339, #[]⟩, ⟨25, 358, 339, #[]⟩, ⟨25, 361, 339, #[]⟩, ⟨26, 364, 339, #[]⟩, ⟨26, 365, 339, #[]⟩, ⟨26, 172, 173, #[]⟩, ⟨26, 176, 173, #[]⟩, ⟨8, 344, 339, #[]⟩, ⟨8, 338, 339, #[]⟩, ⟨4120, 245, 246, #[]⟩])
  fields := #[⟨"E", .double, 25, 0, 0⟩, ⟨"PI", .double, 25, 1, 0⟩, ⟨"TAU", .double, 25, 2, 0⟩, ⟨"DEGREES_TO_RADIANS", .double, 26, 3, 0⟩, ⟨"RADIANS_TO_DEGREES", .double, 26, 4, 0⟩, ⟨"negativeZeroFloatBits", .long, 26, 5, 0⟩, ⟨"negativeZeroDoubleBits", .long, 26, 6, 0⟩, ⟨"twoToTheDoubleScaleUp", .double, 8, 7, 0⟩, ⟨"twoToTheDoubleScaleDown", .double, 8, 8, 0⟩, ⟨z12, .boolean, 4120, 9, 0⟩]
  methods := #[k19m0, k19m1, k19m2]
  staticTypes := #[.double, .double, .double, .double, .double, .long, .long, .double, .double, .boolean]
  resolved := Array.replicate 460 none }
def pool20 : Array CpInfo := pool [(2, .class_ 4), (1, u z3), U z2, U "()V", (7, .class_ 16), (1, u z22), (57, .class_ 76), (1, u "java/util/Arrays$NaturalOrder"), (36, .class_ 115), (1, u "java/util/Arrays$LegacyMergeSort"), (1, u "Z"), (21, u "copyOfRange"), (10, .methodref 151 152), D 153, E 154 155, U "java/lang/System", U "arraycopy", U z47, (146, u "copyOf"), (1, .methodref 305 306), D 307, E 308 309, U z36, U "min", U "(II)I", (29, .methodref 14 340), E 341 342, U "copyOfRangeByte", U "([BII)[B", G 14 344, E 345 346, U "checkLength", U "(II)V", (28, .class_ 376), U "java/util/Arrays$ArrayList", (68, u z12), (269, u "MIN_ARRAY_SORT_GRAN"), U "I", (2, u "INSERTIONSORT_THRESHOLD"), (149, u "([BI)[B"), (105, .class_ 976), U "java/util/Arrays$ArrayItr"] 52
def k20m0 : Method := ⟨z2, "()V", ⟨[], none⟩, 2, none⟩
def k20c1 : Code := ⟨6, 3, jdk_65_method_121_code, #[], #[]⟩
def k20m1 : Method := ⟨"copyOf", "([BI)[B", ⟨[(.array .byte), .int], some (.array .byte)⟩, 9, some k20c1⟩
def k20c2 : Code := ⟨4, 2, jdk_65_method_131_code, #[], #[]⟩
def k20m2 : Method := ⟨"checkLength", "(II)V", ⟨[.int, .int], none⟩, 10, some k20c2⟩
def k20c3 : Code := ⟨3, 3, jdk_65_method_132_code, #[], #[]⟩
def k20m3 : Method := ⟨"copyOfRange", "([BII)[B", ⟨[(.array .byte), .int, .int], some (.array .byte)⟩, 9, some k20c3⟩
def k20c4 : Code := ⟨6, 5, jdk_65_method_133_code, #[], #[]⟩
def k20m4 : Method := ⟨"copyOfRangeByte", "([BII)[B", ⟨[(.array .byte), .int, .int], some (.array .byte)⟩, 10, some k20c4⟩
def k20 : Class := { plain z22 (some 0) with
  accessFlags := 49
  cf := some (fileOf pool20 14 #[.nestMembers #[975, 375, 113, 74]] #[⟨2, 5, 6, #[]⟩, ⟨9, 302, 869, #[]⟩, ⟨10, 345, 346, #[]⟩, ⟨9, 139, 342, #[]⟩, ⟨10, 341, 342, #[]⟩] 49 2 #[] #[⟨26, 715, 716, #[]⟩, ⟨26, 719, 716, #[]⟩, ⟨4120, 445, 117, #[]⟩])
  fields := #[⟨"MIN_ARRAY_SORT_GRAN", .int, 26, 0, 0⟩, ⟨"INSERTIONSORT_THRESHOLD", .int, 26, 1, 0⟩, ⟨z12, .boolean, 4120, 2, 0⟩]
  methods := #[k20m0, k20m1, k20m2, k20m3, k20m4]
  staticTypes := #[.int, .int, .boolean]
  resolved := Array.replicate 1029 none }
def pool21 : Array CpInfo := pool [(2, .class_ 4), (1, u z3), U z2, U "()V", (1, .class_ 10), (1, u "java/lang/System"), U "allowSecurityManager", U "I", (16, u "cons"), U "Ljava/io/Console;", (77, .class_ 110), (1, u "java/lang/System$CallersHolder"), (43, u "initialErrStream"), U "Ljava/io/PrintStream;", (19, u "security"), U "Ljava/lang/SecurityManager;", (31, .class_ 209), U "java/lang/System$1", (7, u "props"), U "Ljava/util/Properties;", (2, u "lineSeparator"), U "Ljava/lang/String;", (96, .class_ 321), (1, u "java/lang/System$LoggerFinder"), (5, .class_ 328), U "java/lang/System$Logger", (67, u "err"), (2, u "out"), (91, u "notSupportedJnuEncoding"), (15, u "in"), (17, u "initialIn"), U "Ljava/io/InputStream;", (35, u "bootLayer"), U "Ljava/lang/ModuleLayer;", (99, .class_ 664), U "java/lang/System$2", (9, u "NEVER"), (2, u "MAYBE"), (49, u "arraycopy"), U z47, (72, .class_ 802), U "java/lang/System$Logger$Level"] 31
def k21m0 : Method := ⟨z2, "()V", ⟨[], none⟩, 2, none⟩
def k21m1 : Method := ⟨"arraycopy", z47, ⟨[(.object z3), .int, (.object z3), .int, .int], none⟩, 265, none⟩
def k21 : Class := { plain "java/lang/System" (some 0) with
  accessFlags := 49
  cf := some (fileOf pool21 8 #[.nestMembers #[319, 327, 801, 108, 663, 208]] #[⟨2, 5, 6, #[]⟩, ⟨265, 727, 728, #[]⟩] 49 2 #[] #[⟨25, 507, 526, #[]⟩, ⟨25, 399, 155, #[]⟩, ⟨25, 396, 155, #[]⟩, ⟨10, 525, 526, #[]⟩, ⟨26, 674, 12, #[]⟩, ⟨26, 677, 12, #[]⟩, ⟨10, 11, 12, #[]⟩, ⟨74, 175, 176, #[]⟩, ⟨10, 491, 222, #[]⟩, ⟨74, 29, 30, #[]⟩, ⟨74, 154, 155, #[]⟩, ⟨10, 217, 218, #[]⟩, ⟨10, 221, 222, #[]⟩, ⟨8, 562, 563, #[]⟩])
  fields := #[⟨"in", (.object z62), 25, 0, 0⟩, ⟨"out", (.object z37), 25, 1, 0⟩, ⟨"err", (.object z37), 25, 2, 0⟩, ⟨"initialIn", (.object z62), 10, 3, 0⟩, ⟨"NEVER", .int, 26, 4, 0⟩, ⟨"MAYBE", .int, 26, 5, 0⟩, ⟨"allowSecurityManager", .int, 10, 6, 0⟩, ⟨"security", (.object "java/lang/SecurityManager"), 74, 7, 0⟩, ⟨"notSupportedJnuEncoding", (.object z1), 10, 8, 0⟩, ⟨"cons", (.object "java/io/Console"), 74, 9, 0⟩, ⟨"initialErrStream", (.object z37), 74, 10, 0⟩, ⟨"props", (.object "java/util/Properties"), 10, 11, 0⟩, ⟨"lineSeparator", (.object z1), 10, 12, 0⟩, ⟨"bootLayer", (.object "java/lang/ModuleLayer"), 8, 13, 0⟩]
  methods := #[k21m0, k21m1]
  staticTypes := #[(.object z62), (.object z37), (.object z37), (.object z62), .int, .int, .int, (.object "java/lang/SecurityManager"), (.object z1), (.object "java/io/Console"), (.object z37), (.object "java/util/Properties"), (.object z1), (.object "java/lang/ModuleLayer")]
  resolved := Array.replicate 834 none }
def pool22 : Array CpInfo := pool [(2, .class_ 4), (1, u z3), U z2, U "()V", (35, .class_ 44), (1, u z46), (61, .class_ 108), (1, u z29), (2, .methodref 106 112), E 113 114, U z28, U z30, (60, u "(III)I")] 8
def k22m0 : Method := ⟨z2, "()V", ⟨[], none⟩, 2, none⟩
def k22c1 : Code := ⟨4, 3, jdk_31_method_18_code, #[], #[]⟩
def k22m1 : Method := ⟨z28, "(III)I", ⟨[.int, .int, .int], some .int⟩, 9, some k22c1⟩
def k22 : Class := { plain z46 (some 0) with
  accessFlags := 49
  cf := some (fileOf pool22 42 #[] #[⟨2, 5, 6, #[]⟩, ⟨9, 113, 175, #[]⟩] 49 2 #[] #[])
  methods := #[k22m0, k22m1]
  resolved := Array.replicate 184 none }
def pool23 : Array CpInfo := pool [(2, .class_ 4), (1, u z3), U z2, U "()V", (17, .class_ 26), (1, u z29), (6, u z16), (13, u z28), (1, u z49), (5, .class_ 56), U "jdk/internal/util/Preconditions$4", (57, .class_ 115), U "jdk/internal/util/Preconditions$1", (7, u "SIOOBE_FORMATTER"), U "Ljava/util/function/BiFunction;", D 126, U "jdk/internal/util/Preconditions$2", (3, u "AIOOBE_FORMATTER"), D 132, U "jdk/internal/util/Preconditions$3", (3, u "IOOBE_FORMATTER"), (41, u z48), (4, u z30)] 10
def k23m0 : Method := ⟨z2, "()V", ⟨[], none⟩, 1, none⟩
def k23c1 : Code := ⟨3, 3, jdk_41_method_11_code, #[], #[]⟩
def k23m1 : Method := ⟨z16, z48, ⟨[.int, .int, (.object z20)], some .int⟩, 9, some k23c1⟩
def k23c2 : Code := ⟨4, 4, jdk_41_method_12_code, #[], #[]⟩
def k23m2 : Method := ⟨z28, z30, ⟨[.int, .int, .int, (.object z20)], some .int⟩, 9, some k23c2⟩
def k23c3 : Code := ⟨4, 4, jdk_41_method_13_code, #[], #[]⟩
def k23m3 : Method := ⟨z49, z30, ⟨[.int, .int, .int, (.object z20)], some .int⟩, 9, some k23c3⟩
def k23 : Class := { plain z29 (some 0) with
  cf := some (fileOf pool23 24 #[.nestMembers #[55, 131, 125, 114]] #[⟨1, 5, 6, #[]⟩, ⟨9, 33, 178, #[]⟩, ⟨9, 47, 183, #[]⟩, ⟨9, 49, 183, #[]⟩] 33 2 #[] #[⟨25, 123, 124, #[]⟩, ⟨25, 130, 124, #[]⟩, ⟨25, 136, 124, #[]⟩])
  fields := #[⟨"SIOOBE_FORMATTER", (.object z20), 25, 0, 0⟩, ⟨"AIOOBE_FORMATTER", (.object z20), 25, 1, 0⟩, ⟨"IOOBE_FORMATTER", (.object z20), 25, 2, 0⟩]
  methods := #[k23m0, k23m1, k23m2, k23m3]
  staticTypes := #[(.object z20), (.object z20), (.object z20)]
  resolved := Array.replicate 194 none
  statics := some 3 }
def pool24 : Array CpInfo := pool [(1, .class_ 2), U z1, (1, .class_ 6), (1, u z3), U z2, U "()V", G 1 10, E 11 12, U z16, U "(II)V", (1, .class_ 16), (1, u z27), U z15, (2, .class_ 22), (1, u z5), (3, .nameAndType 17 27), U z23, (25, u "([BI)C"), (67, u z12), U "Z", (98, .class_ 223), (1, u "java/lang/StringLatin1$LinesSpliterator"), (16, .methodref 20 26), (11, u "charAt"), (28, u "equals"), U "([B[B)Z", (107, .class_ 391), U "java/lang/StringLatin1$CharsSpliterator"] 3
def k24m0 : Method := ⟨z2, "()V", ⟨[], none⟩, 0, none⟩
def k24c1 : Code := ⟨2, 2, jdk_43_method_2_code, #[], #[]⟩
def k24m1 : Method := ⟨"charAt", "([BI)C", ⟨[(.array .byte), .int], some .char⟩, 9, some k24c1⟩
def k24c2 : Code := ⟨3, 3, jdk_43_method_13_code, #[], #[]⟩
def k24m2 : Method := ⟨"equals", "([B[B)Z", ⟨[(.array .byte), (.array .byte)], some .boolean⟩, 9, some k24c2⟩
def k24c3 : Code := ⟨5, 5, jdk_43_method_50_code, #[], #[]⟩
def k24m3 : Method := ⟨z15, z23, ⟨[(.array .byte), .int, (.array .byte), .int, .int], none⟩, 9, some k24c3⟩
def k24 : Class := { plain z27 (some 0) with
  accessFlags := 48
  cf := some (fileOf pool24 14 #[.nestMembers #[390, 221]] #[⟨0, 7, 8, #[]⟩, ⟨9, 252, 53, #[]⟩, ⟨9, 281, 282, #[]⟩, ⟨9, 17, 27, #[]⟩] 48 4 #[] #[⟨4120, 121, 122, #[]⟩])
  fields := #[⟨z12, .boolean, 4120, 0, 0⟩]
  methods := #[k24m0, k24m1, k24m2, k24m3]
  staticTypes := #[.boolean]
  resolved := Array.replicate 395 none }
def pool25 : Array CpInfo := pool [(1, .class_ 2), U z31, D 4, U z1, (1, .class_ 8), (1, u z3), U z2, U "()V", G 12 13, D 14, E 15 16, U z5, U "newBytesLength", U "(I)I", (3, .integer 1073741823), (23, .fieldref 12 45), E 46 47, U z12, U "Z", G 12 49, E 50 51, U z10, U "([B)I", (7, .fieldref 12 60), E 61 62, U "HI_BYTE_SHIFT", U "I", (0, .fieldref 12 64), E 65 62, U "LO_BYTE_SHIFT", (1, .methodref 12 68), E 69 70, U z16, U "(I[B)V", G 12 72, E 73 74, U "getChar", U "([BI)C", G 76 77, D 78, E 79 80, U z41, U "isHighSurrogate", U "(C)Z", G 76 82, E 83 80, U "isLowSurrogate", (7, u "([BIIZ)I"), (4, .methodref 12 97), E 98 99, U z35, U "(II[B)V", G 12 101, E 102 91, U z19, (2, u z14), (1, .methodref 12 108), E 109 110, U "newBytesFor", U "(I)[B", G 12 112, E 113 114, U "putChar", U "([BII)V", G 12 116, E 117 118, U "compress", U "([CI[BII)I", G 12 120, E 121 122, U "toBytes", U "([CII)[B", (17, u z15), U z23, (31, .methodref 12 174), E 175 99, U z34, (65, .methodref 3 242), E 98 243, U "(III)V", (6, u "([BII)I"), (10, u z45), U "([BI)B", (18, u "(III)I"), (87, .class_ 371), (1, u "java/lang/StringUTF16$LinesSpliterator"), (20, u "charAt"), G 12 394, E 105 395, U "(II[B)I", (7, .fieldref 1 404), E 405 406, U "DigitOnes", U "[B", (7, .methodref 3 415), E 69 416, U "(II)V", (2, .methodref 3 420), E 175 281, (9, u "MAX_LENGTH"), (164, u "(III[B)I"), (31, .class_ 628), U "java/lang/StringUTF16$CodePointsSpliterator", D 630, U "java/lang/StringUTF16$CharsSpliterator"] 4
def k25m0 : Method := ⟨z2, "()V", ⟨[], none⟩, 0, none⟩
def k25c1 : Code := ⟨1, 1, jdk_52_method_2_code, #[], #[]⟩
def k25m1 : Method := ⟨"newBytesFor", "(I)[B", ⟨[.int], some (.array .byte)⟩, 9, some k25c1⟩
def k25c2 : Code := ⟨4, 1, jdk_52_method_3_code, #[], #[]⟩
def k25m2 : Method := ⟨"newBytesLength", "(I)I", ⟨[.int], some .int⟩, 9, some k25c2⟩
def k25c3 : Code := ⟨4, 3, jdk_52_method_4_code, #[], #[]⟩
def k25m3 : Method := ⟨"putChar", "([BII)V", ⟨[(.array .byte), .int, .int], none⟩, 8, some k25c3⟩
def k25c4 : Code := ⟨3, 2, jdk_52_method_5_code, #[], #[]⟩
def k25m4 : Method := ⟨"getChar", "([BI)C", ⟨[(.array .byte), .int], some .char⟩, 8, some k25c4⟩
def k25c5 : Code := ⟨2, 1, jdk_52_method_6_code, #[], #[]⟩
def k25m5 : Method := ⟨z10, "([B)I", ⟨[(.array .byte)], some .int⟩, 9, some k25c5⟩
def k25c6 : Code := ⟨3, 6, jdk_52_method_11_code, #[], #[]⟩
def k25m6 : Method := ⟨z19, "([BIIZ)I", ⟨[(.array .byte), .int, .int, .boolean], some .int⟩, 10, some k25c6⟩
def k25c7 : Code := ⟨4, 3, jdk_52_method_12_code, #[], #[]⟩
def k25m7 : Method := ⟨z19, "([BII)I", ⟨[(.array .byte), .int, .int], some .int⟩, 9, some k25c7⟩
def k25c8 : Code := ⟨4, 5, jdk_52_method_14_code, #[], #[]⟩
def k25m8 : Method := ⟨"toBytes", "([CII)[B", ⟨[(.array .char), .int, .int], some (.array .byte)⟩, 9, some k25c8⟩
def k25c9 : Code := ⟨2, 2, jdk_52_method_15_code, #[], #[]⟩
def k25m9 : Method := ⟨z45, "([BI)B", ⟨[(.array .byte), .int], some .byte⟩, 8, some k25c9⟩
def k25c10 : Code := ⟨5, 6, jdk_52_method_16_code, #[], #[]⟩
def k25m10 : Method := ⟨"compress", "([CII)[B", ⟨[(.array .char), .int, .int], some (.array .byte)⟩, 9, some k25c10⟩
def k25c11 : Code := ⟨3, 7, jdk_52_method_21_code, #[], #[]⟩
def k25m11 : Method := ⟨"compress", "([CI[BII)I", ⟨[(.array .char), .int, (.array .byte), .int, .int], some .int⟩, 9, some k25c11⟩
def k25c12 : Code := ⟨3, 5, jdk_52_method_77_code, #[], #[]⟩
def k25m12 : Method := ⟨z14, "(III[B)I", ⟨[.int, .int, .int, (.array .byte)], some .int⟩, 9, some k25c12⟩
def k25c13 : Code := ⟨2, 2, jdk_52_method_83_code, #[], #[]⟩
def k25m13 : Method := ⟨"charAt", "([BI)C", ⟨[(.array .byte), .int], some .char⟩, 9, some k25c13⟩
def k25c14 : Code := ⟨4, 6, jdk_52_method_86_code, #[], #[]⟩
def k25m14 : Method := ⟨z15, z23, ⟨[(.array .byte), .int, (.array .byte), .int, .int], none⟩, 9, some k25c14⟩
def k25c15 : Code := ⟨4, 7, jdk_52_method_89_code, #[], #[]⟩
def k25m15 : Method := ⟨z14, "(II[B)I", ⟨[.int, .int, (.array .byte)], some .int⟩, 8, some k25c15⟩
def k25c16 : Code := ⟨2, 2, jdk_52_method_91_code, #[], #[]⟩
def k25m16 : Method := ⟨z16, "(I[B)V", ⟨[.int, (.array .byte)], none⟩, 9, some k25c16⟩
def k25c17 : Code := ⟨3, 3, jdk_52_method_93_code, #[], #[]⟩
def k25m17 : Method := ⟨z35, "(II[B)V", ⟨[.int, .int, (.array .byte)], none⟩, 9, some k25c17⟩
def k25c18 : Code := ⟨3, 3, jdk_52_method_94_code, #[], #[]⟩
def k25m18 : Method := ⟨z34, "(II[B)V", ⟨[.int, .int, (.array .byte)], none⟩, 9, some k25c18⟩
def k25 : Class := { plain z5 (some 0) with
  accessFlags := 48
  cf := some (fileOf pool25 12 #[.nestMembers #[627, 629, 369]] #[⟨0, 9, 10, #[]⟩, ⟨9, 109, 110, #[]⟩, ⟨9, 15, 16, #[]⟩, ⟨8, 113, 114, #[]⟩, ⟨8, 73, 74, #[]⟩, ⟨9, 50, 51, #[]⟩, ⟨10, 102, 91, #[]⟩, ⟨9, 102, 250, #[]⟩, ⟨9, 121, 122, #[]⟩, ⟨8, 261, 262, #[]⟩, ⟨9, 117, 122, #[]⟩, ⟨9, 117, 118, #[]⟩, ⟨9, 105, 595, #[]⟩, ⟨9, 392, 74, #[]⟩, ⟨9, 140, 141, #[]⟩, ⟨8, 105, 395, #[]⟩, ⟨9, 69, 70, #[]⟩, ⟨9, 98, 99, #[]⟩, ⟨9, 175, 99, #[]⟩] 48 6 #[] #[⟨26, 61, 62, #[]⟩, ⟨26, 65, 62, #[]⟩, ⟨24, 430, 62, #[]⟩, ⟨4120, 46, 47, #[]⟩])
  fields := #[⟨"HI_BYTE_SHIFT", .int, 26, 0, 0⟩, ⟨"LO_BYTE_SHIFT", .int, 26, 1, 0⟩, ⟨"MAX_LENGTH", .int, 24, 2, 0⟩, ⟨z12, .boolean, 4120, 3, 0⟩]
  methods := #[k25m0, k25m1, k25m2, k25m3, k25m4, k25m5, k25m6, k25m7, k25m8, k25m9, k25m10, k25m11, k25m12, k25m13, k25m14, k25m15, k25m16, k25m17, k25m18]
  staticTypes := #[.int, .int, .int, .boolean]
  resolved := Array.replicate 635 none
  statics := some 4 }
def pool26 : Array CpInfo := pool [(1, .class_ 2), U z41, (18, u "value"), U "C", (19, .class_ 44), (1, u z3), (3, .class_ 50), (1, u "java/lang/Character$CharacterCache"), (24, .integer 55296), (0, .integer 56320), (0, .integer 57344), (2, u "isHighSurrogate"), U "(C)Z", (2, u "isLowSurrogate"), (199, u z12), U "Z", (21, .class_ 309), (1, u "java/lang/Character$UnicodeBlock"), (73, u "TYPE"), U z61, D 386, U z18, D 388, U z26, D 390, U z33, U "MIN_RADIX", U "I", (2, u "MAX_RADIX"), (1, u "MIN_VALUE"), (1, u "MAX_VALUE"), (3, u "UNASSIGNED"), U "B", U "UPPERCASE_LETTER", (1, u "LOWERCASE_LETTER"), U "TITLECASE_LETTER", (1, u "MODIFIER_LETTER"), (1, u "OTHER_LETTER"), (1, u "NON_SPACING_MARK"), (1, u "ENCLOSING_MARK"), (1, u "COMBINING_SPACING_MARK"), (1, u "DECIMAL_DIGIT_NUMBER"), (1, u "LETTER_NUMBER"), (1, u "OTHER_NUMBER"), (1, u "SPACE_SEPARATOR"), (1, u "LINE_SEPARATOR"), (1, u "PARAGRAPH_SEPARATOR"), (1, u "CONTROL"), (1, u "FORMAT"), (1, u "PRIVATE_USE"), (1, u "SURROGATE"), (1, u "DASH_PUNCTUATION"), (1, u "START_PUNCTUATION"), (1, u "END_PUNCTUATION"), (1, u "CONNECTOR_PUNCTUATION"), (1, u "OTHER_PUNCTUATION"), (1, u "MATH_SYMBOL"), (1, u "CURRENCY_SYMBOL"), (1, u "MODIFIER_SYMBOL"), (1, u "OTHER_SYMBOL"), (1, u "INITIAL_QUOTE_PUNCTUATION"), (1, u "FINAL_QUOTE_PUNCTUATION"), (1, u "ERROR"), (1, u "DIRECTIONALITY_UNDEFINED"), U "DIRECTIONALITY_LEFT_TO_RIGHT", U "DIRECTIONALITY_RIGHT_TO_LEFT", U "DIRECTIONALITY_RIGHT_TO_LEFT_ARABIC", U "DIRECTIONALITY_EUROPEAN_NUMBER", U "DIRECTIONALITY_EUROPEAN_NUMBER_SEPARATOR", U "DIRECTIONALITY_EUROPEAN_NUMBER_TERMINATOR", U "DIRECTIONALITY_ARABIC_NUMBER", U "DIRECTIONALITY_COMMON_NUMBER_SEPARATOR", U "DIRECTIONALITY_NONSPACING_MARK", U "DIRECTIONALITY_BOUNDARY_NEUTRAL", U "DIRECTIONALITY_PARAGRAPH_SEPARATOR", U "DIRECTIONALITY_SEGMENT_SEPARATOR", U "DIRECTIONALITY_WHITESPACE", U "DIRECTIONALITY_OTHER_NEUTRALS", U "DIRECTIONALITY_LEFT_TO_RIGHT_EMBEDDING", U "DIRECTIONALITY_LEFT_TO_RIGHT_OVERRIDE", U "DIRECTIONALITY_RIGHT_TO_LEFT_EMBEDDING", U "DIRECTIONALITY_RIGHT_TO_LEFT_OVERRIDE", (1, u "DIRECTIONALITY_POP_DIRECTIONAL_FORMAT"), U "DIRECTIONALITY_LEFT_TO_RIGHT_ISOLATE", U "DIRECTIONALITY_RIGHT_TO_LEFT_ISOLATE", U "DIRECTIONALITY_FIRST_STRONG_ISOLATE", U "DIRECTIONALITY_POP_DIRECTIONAL_ISOLATE", U "MIN_HIGH_SURROGATE", U "MAX_HIGH_SURROGATE", (1, u "MIN_LOW_SURROGATE"), U "MAX_LOW_SURROGATE", (1, u "MIN_SURROGATE"), U "MAX_SURROGATE", U "MIN_SUPPLEMENTARY_CODE_POINT", U "MIN_CODE_POINT", U "MAX_CODE_POINT", (1, u z4), U "J", (2, u "SIZE"), U "BYTES", (88, .class_ 596), U "java/lang/Character$UnicodeScript", D 598, U "java/lang/Character$Subset"] 5
def k26c0 : Code := ⟨2, 1, jdk_89_method_14_code, #[], #[]⟩
def k26m0 : Method := ⟨"isHighSurrogate", "(C)Z", ⟨[.char], some .boolean⟩, 9, some k26c0⟩
def k26c1 : Code := ⟨2, 1, jdk_89_method_15_code, #[], #[]⟩
def k26m1 : Method := ⟨"isLowSurrogate", "(C)Z", ⟨[.char], some .boolean⟩, 9, some k26c1⟩
def k26 : Class := { plain z41 (some 0) with
  accessFlags := 49
  interfaces := #[2, 3, 5]
  cf := some (fileOf pool26 1 #[.nestMembers #[48, 595, 307, 597]] #[⟨9, 80, 81, #[]⟩, ⟨9, 84, 81, #[]⟩] 49 42 #[385, 387, 389] #[⟨25, 391, 392, #[]⟩, ⟨25, 395, 392, #[]⟩, ⟨25, 397, 22, #[]⟩, ⟨25, 399, 22, #[]⟩, ⟨25, 383, 384, #[]⟩, ⟨25, 403, 404, #[]⟩, ⟨25, 405, 404, #[]⟩, ⟨25, 407, 404, #[]⟩, ⟨25, 408, 404, #[]⟩, ⟨25, 410, 404, #[]⟩, ⟨25, 412, 404, #[]⟩, ⟨25, 414, 404, #[]⟩, ⟨25, 416, 404, #[]⟩, ⟨25, 418, 404, #[]⟩, ⟨25, 420, 404, #[]⟩, ⟨25, 422, 404, #[]⟩, ⟨25, 424, 404, #[]⟩, ⟨25, 426, 404, #[]⟩, ⟨25, 428, 404, #[]⟩, ⟨25, 430, 404, #[]⟩, ⟨25, 432, 404, #[]⟩, ⟨25, 434, 404, #[]⟩, ⟨25, 436, 404, #[]⟩, ⟨25, 438, 404, #[]⟩, ⟨25, 440, 404, #[]⟩, ⟨25, 442, 404, #[]⟩, ⟨25, 444, 404, #[]⟩, ⟨25, 446, 404, #[]⟩, ⟨25, 448, 404, #[]⟩, ⟨25, 450, 404, #[]⟩, ⟨25, 452, 404, #[]⟩, ⟨25, 454, 404, #[]⟩, ⟨25, 456, 404, #[]⟩, ⟨25, 458, 404, #[]⟩, ⟨25, 460, 404, #[]⟩, ⟨24, 462, 392, #[]⟩, ⟨25, 464, 404, #[]⟩, ⟨25, 465, 404, #[]⟩, ⟨25, 466, 404, #[]⟩, ⟨25, 467, 404, #[]⟩, ⟨25, 468, 404, #[]⟩, ⟨25, 469, 404, #[]⟩, ⟨25, 470, 404, #[]⟩, ⟨25, 471, 404, #[]⟩, ⟨25, 472, 404, #[]⟩, ⟨25, 473, 404, #[]⟩, ⟨25, 474, 404, #[]⟩, ⟨25, 475, 404, #[]⟩, ⟨25, 476, 404, #[]⟩, ⟨25, 477, 404, #[]⟩, ⟨25, 478, 404, #[]⟩, ⟨25, 479, 404, #[]⟩, ⟨25, 480, 404, #[]⟩, ⟨25, 481, 404, #[]⟩, ⟨25, 482, 404, #[]⟩, ⟨25, 484, 404, #[]⟩, ⟨25, 485, 404, #[]⟩, ⟨25, 486, 404, #[]⟩, ⟨25, 487, 404, #[]⟩, ⟨25, 488, 404, #[]⟩, ⟨25, 489, 22, #[]⟩, ⟨25, 490, 22, #[]⟩, ⟨25, 492, 22, #[]⟩, ⟨25, 493, 22, #[]⟩, ⟨25, 495, 22, #[]⟩, ⟨25, 496, 22, #[]⟩, ⟨25, 497, 392, #[]⟩, ⟨25, 498, 392, #[]⟩, ⟨25, 499, 392, #[]⟩, ⟨18, 21, 22, #[]⟩, ⟨26, 501, 502, #[]⟩, ⟨25, 505, 392, #[]⟩, ⟨25, 506, 392, #[]⟩, ⟨4120, 284, 285, #[]⟩])
  fields := #[⟨"MIN_RADIX", .int, 25, 0, 0⟩, ⟨"MAX_RADIX", .int, 25, 1, 0⟩, ⟨"MIN_VALUE", .char, 25, 2, 0⟩, ⟨"MAX_VALUE", .char, 25, 3, 0⟩, ⟨"TYPE", (.object z24), 25, 4, 0⟩, ⟨"UNASSIGNED", .byte, 25, 5, 0⟩, ⟨"UPPERCASE_LETTER", .byte, 25, 6, 0⟩, ⟨"LOWERCASE_LETTER", .byte, 25, 7, 0⟩, ⟨"TITLECASE_LETTER", .byte, 25, 8, 0⟩, ⟨"MODIFIER_LETTER", .byte, 25, 9, 0⟩, ⟨"OTHER_LETTER", .byte, 25, 10, 0⟩, ⟨"NON_SPACING_MARK", .byte, 25, 11, 0⟩, ⟨"ENCLOSING_MARK", .byte, 25, 12, 0⟩, ⟨"COMBINING_SPACING_MARK", .byte, 25, 13, 0⟩, ⟨"DECIMAL_DIGIT_NUMBER", .byte, 25, 14, 0⟩, ⟨"LETTER_NUMBER", .byte, 25, 15, 0⟩, ⟨"OTHER_NUMBER", .byte, 25, 16, 0⟩, ⟨"SPACE_SEPARATOR", .byte, 25, 17, 0⟩, ⟨"LINE_SEPARATOR", .byte, 25, 18, 0⟩, ⟨"PARAGRAPH_SEPARATOR", .byte, 25, 19, 0⟩, ⟨"CONTROL", .byte, 25, 20, 0⟩, ⟨"FORMAT", .byte, 25, 21, 0⟩, ⟨"PRIVATE_USE", .byte, 25, 22, 0⟩, ⟨"SURROGATE", .byte, 25, 23, 0⟩, ⟨"DASH_PUNCTUATION", .byte, 25, 24, 0⟩, ⟨"START_PUNCTUATION", .byte, 25, 25, 0⟩, ⟨"END_PUNCTUATION", .byte, 25, 26, 0⟩, ⟨"CONNECTOR_PUNCTUATION", .byte, 25, 27, 0⟩, ⟨"OTHER_PUNCTUATION", .byte, 25, 28, 0⟩, ⟨"MATH_SYMBOL", .byte, 25, 29, 0⟩, ⟨"CURRENCY_SYMBOL", .byte, 25, 30, 0⟩, ⟨"MODIFIER_SYMBOL", .byte, 25, 31, 0⟩, ⟨"OTHER_SYMBOL", .byte, 25, 32, 0⟩, ⟨"INITIAL_QUOTE_PUNCTUATION", .byte, 25, 33, 0⟩, ⟨"FINAL_QUOTE_PUNCTUATION", .byte, 25, 34, 0⟩, ⟨"ERROR", .int, 24, 35, 0⟩, ⟨"DIRECTIONALITY_UNDEFINED", .byte, 25, 36, 0⟩, ⟨"DIRECTIONALITY_LEFT_TO_RIGHT", .byte, 25, 37, 0⟩, ⟨"DIRECTIONALITY_RIGHT_TO_LEFT", .byte, 25, 38, 0⟩, ⟨"DIRECTIONALITY_RIGHT_TO_LEFT_ARABIC", .byte, 25, 39, 0⟩, ⟨"DIRECTIONALITY_EUROPEAN_NUMBER", .byte, 25, 40, 0⟩, ⟨"DIRECTIONALITY_EUROPEAN_NUMBER_SEPARATOR", .byte, 25, 41, 0⟩, ⟨"DIRECTIONALITY_EUROPEAN_NUMBER_TERMINATOR", .byte, 25, 42, 0⟩, ⟨"DIRECTIONALITY_ARABIC_NUMBER", .byte, 25, 43, 0⟩, ⟨"DIRECTIONALITY_COMMON_NUMBER_SEPARATOR", .byte, 25, 44, 0⟩, ⟨"DIRECTIONALITY_NONSPACING_MARK", .byte, 25, 45, 0⟩, ⟨"DIRECTIONALITY_BOUNDARY_NEUTRAL", .byte, 25, 46, 0⟩, ⟨"DIRECTIONALITY_PARAGRAPH_SEPARATOR", .byte, 25, 47, 0⟩, ⟨"DIRECTIONALITY_SEGMENT_SEPARATOR", .byte, 25, 48, 0⟩, ⟨"DIRECTIONALITY_WHITESPACE", .byte, 25, 49, 0⟩, ⟨"DIRECTIONALITY_OTHER_NEUTRALS", .byte, 25, 50, 0⟩, ⟨"DIRECTIONALITY_LEFT_TO_RIGHT_EMBEDDING", .byte, 25, 51, 0⟩, ⟨"DIRECTIONALITY_LEFT_TO_RIGHT_OVERRIDE", .byte, 25, 52, 0⟩, ⟨"DIRECTIONALITY_RIGHT_TO_LEFT_EMBEDDING", .byte, 25, 53, 0⟩, ⟨"DIRECTIONALITY_RIGHT_TO_LEFT_OVERRIDE", .byte, 25, 54, 0⟩, ⟨"DIRECTIONALITY_POP_DIRECTIONAL_FORMAT", .byte, 25, 55, 0⟩, ⟨"DIRECTIONALITY_LEFT_TO_RIGHT_ISOLATE", .byte, 25, 56, 0⟩, ⟨"DIRECTIONALITY_RIGHT_TO_LEFT_ISOLATE", .byte, 25, 57, 0⟩, ⟨"DIRECTIONALITY_FIRST_STRONG_ISOLATE", .byte, 25, 58, 0⟩, ⟨"DIRECTIONALITY_POP_DIRECTIONAL_ISOLATE", .byte, 25, 59, 0⟩, ⟨"MIN_HIGH_SURROGATE", .char, 25, 60, 0⟩, ⟨"MAX_HIGH_SURROGATE", .char, 25, 61, 0⟩, ⟨"MIN_LOW_SURROGATE", .char, 25, 62, 0⟩, ⟨"MAX_LOW_SURROGATE", .char, 25, 63, 0⟩, ⟨"MIN_SURROGATE", .char, 25, 64, 0⟩, ⟨"MAX_SURROGATE", .char, 25, 65, 0⟩, ⟨"MIN_SUPPLEMENTARY_CODE_POINT", .int, 25, 66, 0⟩, ⟨"MIN_CODE_POINT", .int, 25, 67, 0⟩, ⟨"MAX_CODE_POINT", .int, 25, 68, 0⟩, ⟨"value", .char, 18, 0, 0⟩, ⟨z4, .long, 26, 69, 0⟩, ⟨"SIZE", .int, 25, 70, 0⟩, ⟨"BYTES", .int, 25, 71, 0⟩, ⟨z12, .boolean, 4120, 72, 0⟩]
  methods := #[k26m0, k26m1]
  instanceTypes := #[.char]
  staticTypes := #[.int, .int, .char, .char, (.object z24), .byte, .byte, .byte, .byte, .byte, .byte, .byte, .byte, .byte, .byte, .byte, .byte, .byte, .byte, .byte, .byte, .byte, .byte, .byte, .byte, .byte, .byte, .byte, .byte, .byte, .byte, .byte, .byte, .byte, .byte, .int, .byte, .byte, .byte, .byte, .byte, .byte, .byte, .byte, .byte, .byte, .byte, .byte, .byte, .byte, .byte, .byte, .byte, .byte, .byte, .byte, .byte, .byte, .byte, .byte, .char, .char, .char, .char, .char, .char, .int, .int, .int, .long, .int, .int, .boolean]
  resolved := Array.replicate 604 none }
def pool27 : Array CpInfo := pool [(2, .class_ 4), (1, u z3), U z2, U "()V", (12, .class_ 20), U "java/util/Collections", (63, u "r"), U "Ljava/util/Random;", (80, .class_ 167), U "java/util/Collections$UnmodifiableCollection", (6, .class_ 175), U "java/util/Collections$UnmodifiableSequencedCollection", (6, .class_ 183), U "java/util/Collections$UnmodifiableSet", (6, .class_ 191), U "java/util/Collections$UnmodifiableSequencedSet", (6, .class_ 199), U "java/util/Collections$UnmodifiableSortedSet", (6, .class_ 207), U "java/util/Collections$UnmodifiableNavigableSet", (4, .class_ 213), U "java/util/Collections$UnmodifiableList", (1, .class_ 216), U "java/util/Collections$UnmodifiableRandomAccessList", (6, .class_ 224), U "java/util/Collections$UnmodifiableMap", (6, .class_ 232), U "java/util/Collections$UnmodifiableSequencedMap", (4, .class_ 238), U "java/util/Collections$UnmodifiableSortedMap", (6, .class_ 246), U "java/util/Collections$UnmodifiableNavigableMap", (3, .class_ 251), U "java/util/Collections$SynchronizedCollection", (4, .class_ 257), U "java/util/Collections$SynchronizedSet", (4, .class_ 263), U "java/util/Collections$SynchronizedSortedSet", (1, .class_ 266), U "java/util/Collections$SynchronizedNavigableSet", (1, .class_ 269), U "java/util/Collections$SynchronizedRandomAccessList", (1, .class_ 272), U "java/util/Collections$SynchronizedList", (5, .class_ 279), U "java/util/Collections$SynchronizedMap", (1, .class_ 282), U "java/util/Collections$SynchronizedSortedMap", (1, .class_ 285), U "java/util/Collections$SynchronizedNavigableMap", (1, .class_ 288), U "java/util/Collections$CheckedCollection", (11, .class_ 301), U "java/util/Collections$CheckedQueue", (3, .class_ 306), U "java/util/Collections$CheckedSet", (3, .class_ 311), U "java/util/Collections$CheckedSortedSet", (3, .class_ 316), U "java/util/Collections$CheckedNavigableSet", (3, .class_ 321), U "java/util/Collections$CheckedRandomAccessList", (3, .class_ 326), U "java/util/Collections$CheckedList", (1, .class_ 329), U "java/util/Collections$CheckedMap", (3, .class_ 334), U "java/util/Collections$CheckedSortedMap", (3, .class_ 339), U "java/util/Collections$CheckedNavigableMap", (4, .class_ 346), (1, u "java/util/Collections$EmptyIterator"), (3, .class_ 352), (1, u "java/util/Collections$EmptyListIterator"), (2, .class_ 357), (1, u "java/util/Collections$EmptyEnumeration"), (4, u "EMPTY_SET"), U "Ljava/util/Set;", (6, u "EMPTY_LIST"), U "Ljava/util/List;", (2, u "EMPTY_MAP"), U "Ljava/util/Map;", (4, .class_ 381), U "java/util/Collections$SingletonSet", (2, .class_ 385), U "java/util/Collections$1", (1, .class_ 388), U "java/util/Collections$2", (1, .class_ 391), U "java/util/Collections$SingletonList", (1, .class_ 394), U "java/util/Collections$SingletonMap", (22, .class_ 418), U "java/util/Collections$CopiesList", (4, .class_ 425), (1, u "java/util/Collections$ReverseComparator"), (8, .class_ 435), U "java/util/Collections$ReverseComparator2", (6, .class_ 443), U "java/util/Collections$3", (25, .class_ 470), U "java/util/Collections$SetFromMap", (2, .class_ 474), U "java/util/Collections$SequencedSetFromMap", (3, .class_ 479), U "java/util/Collections$AsLIFOQueue", (11, .class_ 492), U "java/util/Collections$EmptySet", (1, .class_ 495), U z67, (1, .class_ 498), U "java/util/Collections$EmptyMap", (1, u "BINARYSEARCH_THRESHOLD"), U "I", (2, u "REVERSE_THRESHOLD"), (1, u "SHUFFLE_THRESHOLD"), (1, u "FILL_THRESHOLD"), (1, u "ROTATE_THRESHOLD"), (1, u "COPY_THRESHOLD"), (1, u "REPLACEALL_THRESHOLD"), (1, u "INDEXOFSUBLIST_THRESHOLD"), (333, .class_ 851), U "java/util/Collections$CheckedMap$CheckedEntrySet", D 853, U "java/util/Collections$CheckedMap$CheckedEntrySet$CheckedEntry", D 855, U "java/util/Collections$CheckedMap$CheckedEntrySet$1", D 857, U "java/util/Collections$CheckedList$1", D 859, U "java/util/Collections$CheckedCollection$1", D 861, U "java/util/Collections$UnmodifiableNavigableMap$EmptyNavigableMap", D 863, U "java/util/Collections$UnmodifiableMap$UnmodifiableEntrySet", D 865, U "java/util/Collections$UnmodifiableMap$UnmodifiableEntrySet$UnmodifiableEntry", D 867, U "java/util/Collections$UnmodifiableMap$UnmodifiableEntrySet$UnmodifiableEntrySetSpliterator", D 869, U "java/util/Collections$UnmodifiableMap$UnmodifiableEntrySet$1", D 871, U "java/util/Collections$UnmodifiableList$1", D 873, U "java/util/Collections$UnmodifiableNavigableSet$EmptyNavigableSet", D 875, U "java/util/Collections$UnmodifiableCollection$1"] 57
def k27m0 : Method := ⟨z2, "()V", ⟨[], none⟩, 2, none⟩
def k27 : Class := { plain "java/util/Collections" (some 0) with
  cf := some (fileOf pool27 19 #[.nestMembers #[478, 473, 469, 434, 423, 417, 393, 390, 380, 497, 494, 491, 355, 350, 344, 338, 333, 328, 850, 852, 854, 320, 325, 856, 315, 310, 305, 300, 287, 858, 284, 281, 278, 268, 271, 265, 262, 256, 250, 245, 860, 237, 231, 223, 862, 864, 866, 868, 215, 212, 870, 206, 872, 198, 190, 182, 174, 166, 874, 442, 387, 384]] #[⟨2, 5, 6, #[]⟩] 33 2 #[] #[⟨26, 500, 501, #[]⟩, ⟨26, 504, 501, #[]⟩, ⟨26, 506, 501, #[]⟩, ⟨26, 508, 501, #[]⟩, ⟨26, 510, 501, #[]⟩, ⟨26, 512, 501, #[]⟩, ⟨26, 514, 501, #[]⟩, ⟨26, 516, 501, #[]⟩, ⟨10, 84, 85, #[]⟩, ⟨25, 362, 363, #[]⟩, ⟨25, 370, 371, #[]⟩, ⟨25, 374, 375, #[]⟩])
  fields := #[⟨"BINARYSEARCH_THRESHOLD", .int, 26, 0, 0⟩, ⟨"REVERSE_THRESHOLD", .int, 26, 1, 0⟩, ⟨"SHUFFLE_THRESHOLD", .int, 26, 2, 0⟩, ⟨"FILL_THRESHOLD", .int, 26, 3, 0⟩, ⟨"ROTATE_THRESHOLD", .int, 26, 4, 0⟩, ⟨"COPY_THRESHOLD", .int, 26, 5, 0⟩, ⟨"REPLACEALL_THRESHOLD", .int, 26, 6, 0⟩, ⟨"INDEXOFSUBLIST_THRESHOLD", .int, 26, 7, 0⟩, ⟨"r", (.object "java/util/Random"), 10, 8, 0⟩, ⟨"EMPTY_SET", (.object "java/util/Set"), 25, 9, 0⟩, ⟨"EMPTY_LIST", (.object z13), 25, 10, 0⟩, ⟨"EMPTY_MAP", (.object "java/util/Map"), 25, 11, 0⟩]
  methods := #[k27m0]
  staticTypes := #[.int, .int, .int, .int, .int, .int, .int, .int, (.object "java/util/Random"), (.object "java/util/Set"), (.object z13), (.object "java/util/Map")]
  resolved := Array.replicate 933 none
  statics := some 5 }
def pool28 : Array CpInfo := pool [(8, .class_ 10), (1, u "java/lang/Iterable"), (24, .class_ 36), U z3] 25
def k28 : Class := { plain "java/lang/Iterable" (some 0) with
  accessFlags := 1537
  cf := some (fileOf pool28 8 #[] #[] 1537 35 #[] #[])
  resolved := Array.replicate 62 none }
def pool29 : Array CpInfo := pool [(10, .class_ 12), (1, u z63), (47, .class_ 61), U z3, D 63, U "java/lang/Iterable"] 51
def k29 : Class := { plain z63 (some 0) with
  accessFlags := 1537
  interfaces := #[28]
  cf := some (fileOf pool29 10 #[] #[] 1537 60 #[62] #[])
  resolved := Array.replicate 115 none }
def pool30 : Array CpInfo := pool [(2, .class_ 4), (1, u z3), U z2, U "()V", (1, .class_ 10), (1, u z68), (66, .class_ 78), U z63] 81
def k30m0 : Method := ⟨z2, "()V", ⟨[], none⟩, 4, none⟩
def k30 : Class := { plain z68 (some 0) with
  accessFlags := 1057
  interfaces := #[29]
  cf := some (fileOf pool30 8 #[] #[⟨4, 5, 6, #[]⟩] 1057 2 #[77] #[])
  methods := #[k30m0]
  resolved := Array.replicate 160 none }
def pool31 : Array CpInfo := pool [(8, .class_ 10), (1, u z69), (15, .class_ 27), U z3, D 29, U z63] 27
def k31 : Class := { plain z69 (some 0) with
  accessFlags := 1537
  interfaces := #[29]
  cf := some (fileOf pool31 8 #[] #[] 1537 26 #[28] #[])
  resolved := Array.replicate 57 none }
def pool32 : Array CpInfo := pool [(8, .class_ 10), (1, u z13), (92, .class_ 104), U z3, (15, .class_ 121), U z69] 129
def k32 : Class := { plain z13 (some 0) with
  accessFlags := 1537
  interfaces := #[31]
  cf := some (fileOf pool32 8 #[] #[] 1537 103 #[120] #[])
  resolved := Array.replicate 251 none }
def pool33 : Array CpInfo := pool [(2, .class_ 4), (1, u z68), U z2, U "()V", (1, .class_ 10), (1, u "java/util/AbstractList"), U "modCount", U "I", (64, .class_ 78), U "java/util/AbstractList$Itr", (3, .class_ 83), U "java/util/AbstractList$ListItr", (9, .class_ 94), U "java/util/AbstractList$RandomAccessSubList", (3, .class_ 99), U "java/util/AbstractList$SubList", (33, .class_ 134), U z13, (73, .class_ 209), U "java/util/AbstractList$SubList$1", D 211, U "java/util/AbstractList$RandomAccessSpliterator"] 6
def k33m0 : Method := ⟨z2, "()V", ⟨[], none⟩, 4, none⟩
def k33 : Class := { plain "java/util/AbstractList" (some 30) with
  accessFlags := 1057
  interfaces := #[32]
  cf := some (fileOf pool33 8 #[.nestMembers #[93, 98, 208, 210, 82, 77]] #[⟨4, 5, 6, #[]⟩] 1057 2 #[133] #[⟨132, 11, 12, #[]⟩])
  fields := #[⟨"modCount", .int, 132, 0, 0⟩]
  methods := #[k33m0]
  instanceTypes := #[.int]
  resolved := Array.replicate 218 none }
def pool34 : Array CpInfo := pool [(1, .class_ 2), U "java/util/RandomAccess", D 4, U z3] 2
def k34 : Class := { plain "java/util/RandomAccess" (some 0) with
  accessFlags := 1537
  cf := some (fileOf pool34 1 #[] #[] 1537 3 #[] #[])
  resolved := Array.replicate 7 none }
def pool35 : Array CpInfo := pool [(2, .class_ 4), (1, u "java/util/AbstractList"), U z2, U "()V", (1, .class_ 10), (1, u "java/util/Collections"), (54, .class_ 66), U z67, D 68, U "java/util/RandomAccess", D 70, U z18, U z4, U "J"] 77
def k35m0 : Method := ⟨z2, "()V", ⟨[], none⟩, 2, none⟩
def k35 : Class := { plain z67 (some 33) with
  accessFlags := 32
  interfaces := #[34, 2]
  cf := some (fileOf pool35 65 #[.nestHost 8] #[⟨2, 5, 6, #[]⟩] 32 2 #[67, 69] #[⟨26, 71, 72, #[]⟩])
  fields := #[⟨z4, .long, 26, 0, 0⟩]
  methods := #[k35m0]
  instanceTypes := #[.int]
  staticTypes := #[.long]
  resolved := Array.replicate 150 none }
def pool36 : Array CpInfo := pool [(2, .class_ 4), (1, u z17), U z2, (2, .class_ 10), (1, u z3), U "()V", (2, u "format"), U "B", (2, u "classLoaderName"), U "Ljava/lang/String;", (2, u "moduleName"), (2, u "moduleVersion"), (12, u "declaringClass"), (4, u "methodName"), (2, u "fileName"), (2, u "lineNumber"), U "I", (65, u "declaringClassObject"), U z61, (33, .class_ 153), (1, u "java/lang/StackTraceElement$HashedModules"), (17, .class_ 172), U z18, U "NATIVE_METHOD", (1, u "UNKNOWN_SOURCE"), (2, u "BUILTIN_CLASS_LOADER"), (1, u "JDK_NON_UPGRADEABLE_MODULE"), (1, u z4), U "J"] 51
def k36m0 : Method := ⟨z2, "()V", ⟨[], none⟩, 2, none⟩
def k36 : Class := { plain z17 (some 0) with
  accessFlags := 49
  interfaces := #[2]
  cf := some (fileOf pool36 2 #[.nestMembers #[151]] #[⟨2, 5, 11, #[]⟩] 49 8 #[171] #[⟨26, 173, 19, #[]⟩, ⟨26, 175, 19, #[]⟩, ⟨130, 116, 117, #[]⟩, ⟨2, 18, 19, #[]⟩, ⟨2, 22, 19, #[]⟩, ⟨2, 25, 19, #[]⟩, ⟨2, 38, 19, #[]⟩, ⟨2, 43, 19, #[]⟩, ⟨2, 46, 19, #[]⟩, ⟨2, 49, 50, #[]⟩, ⟨2, 14, 15, #[]⟩, ⟨26, 178, 15, #[]⟩, ⟨26, 180, 15, #[]⟩, ⟨26, 182, 183, #[]⟩])
  fields := #[⟨"NATIVE_METHOD", (.object z1), 26, 0, 0⟩, ⟨"UNKNOWN_SOURCE", (.object z1), 26, 1, 0⟩, ⟨"declaringClassObject", (.object z24), 130, 0, 0⟩, ⟨"classLoaderName", (.object z1), 2, 1, 0⟩, ⟨"moduleName", (.object z1), 2, 2, 0⟩, ⟨"moduleVersion", (.object z1), 2, 3, 0⟩, ⟨"declaringClass", (.object z1), 2, 4, 0⟩, ⟨"methodName", (.object z1), 2, 5, 0⟩, ⟨"fileName", (.object z1), 2, 6, 0⟩, ⟨"lineNumber", .int, 2, 7, 0⟩, ⟨"format", .byte, 2, 8, 0⟩, ⟨"BUILTIN_CLASS_LOADER", .byte, 26, 2, 0⟩, ⟨"JDK_NON_UPGRADEABLE_MODULE", .byte, 26, 3, 0⟩, ⟨z4, .long, 26, 4, 0⟩]
  methods := #[k36m0]
  instanceTypes := #[(.object z24), (.object z1), (.object z1), (.object z1), (.object z1), (.object z1), (.object z1), .int, .byte]
  staticTypes := #[(.object z1), (.object z1), .byte, .byte, .long]
  resolved := Array.replicate 235 none }
def pool37 : Array CpInfo := pool [(1, u "java/lang/Cloneable"), D 1, U z3, D 3] 3
def k37 : Class := { plain "java/lang/Cloneable" (some 0) with
  accessFlags := 1537
  cf := some (fileOf pool37 2 #[] #[] 1537 4 #[] #[])
  resolved := Array.replicate 8 none }
def k38 : Class := { plain "byte" none with kind := .primitive 'B', accessFlags := 0x411 }
def k39 : Class := { plain "[B" (some 0) with kind := .array 38 .byte, interfaces := #[37, 2], accessFlags := 1041 }
def k40 : Class := { plain "char" none with kind := .primitive 'C', accessFlags := 0x411 }
def k41 : Class := { plain "[C" (some 0) with kind := .array 40 .char, interfaces := #[37, 2], accessFlags := 1041 }
def k42 : Class := { plain "int" none with kind := .primitive 'I', accessFlags := 0x411 }
def k43 : Class := { plain "[I" (some 0) with kind := .array 42 .int, interfaces := #[37, 2], accessFlags := 1041 }
def k44 : Class := { plain "[Ljava/lang/Object;" (some 0) with kind := .array 0 (.object z3), interfaces := #[37, 2], accessFlags := 1041 }
def k45 : Class := { plain "[Ljava/lang/StackTraceElement;" (some 0) with kind := .array 36 (.object z17), interfaces := #[37, 2], accessFlags := 1041 }
def k46 : Class := { plain "[Ljava/lang/Throwable;" (some 0) with kind := .array 8 (.object z8), interfaces := #[37, 2], accessFlags := 1041 }
def heap : Heap := #[{ cls := 7, slots := #[.long 0, .int 1, .null, .int 0, .null, .int 0, .int 0], vm := .statics 7 },
  { cls := 8, slots := #[.long 0, .ref 8, .ref 9, .null, .null, .null, .null, .ref 10, .int 1], vm := .statics 8 },
  { cls := 17, slots := #[.int 0, .int 0, .null, .null, .ref 7, .ref 6, .int 0, .int 0, .long 0], vm := .statics 17 },
  { cls := 23, slots := #[.null, .null, .null], vm := .statics 23 },
  { cls := 25, slots := #[.int 0, .int 8, .int 0, .int 1], vm := .statics 25 },
  { cls := 27, slots := #[.int 0, .int 0, .int 0, .int 0, .int 0, .int 0, .int 0, .int 0, .null, .null, .ref 9, .null], vm := .statics 27 },
  { cls := 39, slots := #[.int 48, .int 49, .int 50, .int 51, .int 52, .int 53, .int 54, .int 55, .int 56, .int 57, .int 48, .int 49, .int 50, .int 51, .int 52, .int 53, .int 54, .int 55, .int 56, .int 57, .int 48, .int 49, .int 50, .int 51, .int 52, .int 53, .int 54, .int 55, .int 56, .int 57, .int 48, .int 49, .int 50, .int 51, .int 52, .int 53, .int 54, .int 55, .int 56, .int 57, .int 48, .int 49, .int 50, .int 51, .int 52, .int 53, .int 54, .int 55, .int 56, .int 57, .int 48, .int 49, .int 50, .int 51, .int 52, .int 53, .int 54, .int 55, .int 56, .int 57, .int 48, .int 49, .int 50, .int 51, .int 52, .int 53, .int 54, .int 55, .int 56, .int 57, .int 48, .int 49, .int 50, .int 51, .int 52, .int 53, .int 54, .int 55, .int 56, .int 57, .int 48, .int 49, .int 50, .int 51, .int 52, .int 53, .int 54, .int 55, .int 56, .int 57, .int 48, .int 49, .int 50, .int 51, .int 52, .int 53, .int 54, .int 55, .int 56, .int 57], vm := .none },
  { cls := 39, slots := #[.int 48, .int 48, .int 48, .int 48, .int 48, .int 48, .int 48, .int 48, .int 48, .int 48, .int 49, .int 49, .int 49, .int 49, .int 49, .int 49, .int 49, .int 49, .int 49, .int 49, .int 50, .int 50, .int 50, .int 50, .int 50, .int 50, .int 50, .int 50, .int 50, .int 50, .int 51, .int 51, .int 51, .int 51, .int 51, .int 51, .int 51, .int 51, .int 51, .int 51, .int 52, .int 52, .int 52, .int 52, .int 52, .int 52, .int 52, .int 52, .int 52, .int 52, .int 53, .int 53, .int 53, .int 53, .int 53, .int 53, .int 53, .int 53, .int 53, .int 53, .int 54, .int 54, .int 54, .int 54, .int 54, .int 54, .int 54, .int 54, .int 54, .int 54, .int 55, .int 55, .int 55, .int 55, .int 55, .int 55, .int 55, .int 55, .int 55, .int 55, .int 56, .int 56, .int 56, .int 56, .int 56, .int 56, .int 56, .int 56, .int 56, .int 56, .int 57, .int 57, .int 57, .int 57, .int 57, .int 57, .int 57, .int 57, .int 57, .int 57], vm := .none },
  { cls := 45, slots := #[], vm := .none },
  { cls := 35, slots := #[.int 0], vm := .none },
  { cls := 46, slots := #[], vm := .none }]
def classes : Array Class := #[k0, k1, k2, k3, k4, k5, k6, k7, k8, k9, k10, k11, k12, k13, k14, k15, k16, k17, k18, k19, k20, k21, k22, k23, k24, k25, k26, k27, k28, k29, k30, k31, k32, k33, k34, k35, k36, k37, k38, k39, k40, k41, k42, k43, k44, k45, k46]
def interned : List (Array UInt16 × Addr) := []
def slotsUsed : Nat := 245
def theMethod : MethodId := ⟨1, 3⟩
def args0 : Array Value := #[.int 5, .int 6, .int 2, .int 3]
def aboutOver (below : List Frame) : State where
  vm := { classes := classes, interned := interned.toArray }
  heap := heap
  slotsUsed := slotsUsed
  threads := #[{ frames := .invoking theMethod args0 :: below }]
def below0 : List Frame := [.native { method := ⟨0, 0⟩, args := #[] }]
def about1 : State := aboutOver below0
def p0 : Program := .bare "" "" ""
def e0 : Env := launch0.env 0 0 0
theorem w_frames : about1.frames = Frame.invoking theMethod args0 :: below0 := rfl
theorem w_args : argsFit about1.vm theMethod args0 = true := by decide +kernel
theorem w_heap : heapFits about1 = true := by decide +kernel
theorem w_runnable : about1.curStatus? = some .runnable := by decide +kernel
theorem w_alone : about1.alone = true := by decide +kernel
theorem w_named : about1.methodNamed? x = some theMethod := by decide +kernel
theorem w_hears : about1.hears theMethod below0 = true := by decide +kernel
theorem w_ripe : about1.ripe theMethod args0 below0 = true := by decide +kernel
theorem w_running : about1.status = .running := rfl
theorem w_room : about1.hasRoom e0.platform room_1 = true :=
  launch0.hasRoom_least _ room_1 (by decide +kernel) (by decide +kernel) (by decide +kernel) (by decide +kernel) (by decide +kernel) (by decide +kernel)
theorem allAtoms_all (ts : List Jvm.Cond) (a : Array Jvm.Value) (st : Jvm.State) : (allAtoms ts).before a st = ts.all (fun c => c.before a st) := by
  induction ts with
  | nil => rfl
  | cons c t ih =>
    show (Jvm.Cond.and c (allAtoms t)).before a st = _
    rw [Jvm.Cond.before_and, ih, List.all_cons]
def words1 : List Jvm.Cond := Jvm.Cond.code x code maxLocals ret :: tables_1
theorem code_word {y : MethodName} {bytes : ByteArray} {mx : Nat} {rt : Option FieldType} {a : Array Value} {s : State} {m : MethodId} {meth : Method} {c : Code} (h1 : s.methodNamed? y = some m) (h2 : s.vm.method? m = some meth) (h3 : meth.code = some c) (h4 : c.code = bytes)
    (h5 : (c.maxLocals == mx && c.exceptionTable.isEmpty && decide (c.maxStack ≤ mostOperands) && decide (meth.sig.returnType = rt) && !meth.locks && decide (parseMethodDescriptor y.desc = some meth.sig)) = true) : (Jvm.Cond.code y bytes mx rt).before a s = true := by
  simp only [Bool.and_eq_true, beq_iff_eq, Bool.not_eq_true', decide_eq_true_eq] at h5
  obtain ⟨⟨⟨⟨⟨g1, g2⟩, g3⟩, g4⟩, g5⟩, g6⟩ := h5
  simp [Cond.before, Cond.holds, Cond.value, h1, h2, h3, h4, g1, g2, g3, g4, g5, g6]
def isCode : Jvm.Cond → Bool
  | .code _ _ _ _ => true
  | _ => false
theorem all_split {L : List Jvm.Cond} {P : Jvm.Cond → Bool} (h1 : L.all (fun c => isCode c || P c) = true) (h2 : ∀ c ∈ L.filter isCode, P c = true) : L.all P = true := by
  refine List.all_eq_true.mpr fun c hc => ?_
  have h := List.all_eq_true.mp h1 c hc
  rcases Bool.eq_false_or_eq_true (isCode c) with hi | hi
  · exact h2 c (List.mem_filter.mpr ⟨hc, hi⟩)
  · simpa [hi] using h
abbrev cw0 : Jvm.Cond := .code x code maxLocals ret
abbrev cw1 : Jvm.Cond := .code ⟨z25, "ofMemory", z43⟩ prog_16_method_2_code 3 (some (.object z25))
abbrev cw2 : Jvm.Cond := .code ⟨z7, z2, "()V"⟩ jdk_67_method_1_code 1 none
abbrev cw3 : Jvm.Cond := .code ⟨z6, z2, "(I)V"⟩ jdk_68_method_2_code 2 none
abbrev cw4 : Jvm.Cond := .code ⟨z3, z2, "()V"⟩ object_method_1_code 1 none
abbrev cw5 : Jvm.Cond := .code ⟨z7, z9, z55⟩ jdk_67_method_16_code 3 (some (.object z7))
abbrev cw6 : Jvm.Cond := .code ⟨z6, z9, z60⟩ jdk_68_method_33_code 5 (some (.object z6))
abbrev cw7 : Jvm.Cond := .code ⟨z40, z32, "(J)I"⟩ jdk_35_method_15_code 6 (some .int)
abbrev cw8 : Jvm.Cond := .code ⟨z6, "ensureCapacityInternal", "(I)V"⟩ jdk_68_method_9_code 3 none
abbrev cw9 : Jvm.Cond := .code ⟨z6, "isLatin1", "()Z"⟩ jdk_68_method_68_code 1 (some .boolean)
abbrev cw10 : Jvm.Cond := .code ⟨z40, z14, "(JI[B)I"⟩ jdk_35_method_14_code 11 (some .int)
abbrev cw11 : Jvm.Cond := .code ⟨z7, z9, z53⟩ jdk_67_method_7_code 2 (some (.object z7))
abbrev cw12 : Jvm.Cond := .code ⟨z6, z9, z57⟩ jdk_68_method_22_code 3 (some (.object z6))
abbrev cw13 : Jvm.Cond := .code ⟨z1, z10, "()I"⟩ jdk_42_method_54_code 1 (some .int)
abbrev cw14 : Jvm.Cond := .code ⟨z1, "coder", "()B"⟩ jdk_42_method_152_code 1 (some .byte)
abbrev cw15 : Jvm.Cond := .code ⟨z6, "newCapacity", "(I)I"⟩ jdk_68_method_10_code 6 (some .int)
abbrev cw16 : Jvm.Cond := .code ⟨z58, "newLength", "(III)I"⟩ jdk_48_method_27_code 4 (some .int)
abbrev cw17 : Jvm.Cond := .code ⟨z36, "max", "(II)I"⟩ jdk_29_method_65_code 2 (some .int)
abbrev cw18 : Jvm.Cond := .code ⟨z22, "copyOf", "([BI)[B"⟩ jdk_65_method_121_code 3 (some (.array .byte))
abbrev cw19 : Jvm.Cond := .code ⟨z36, "min", "(II)I"⟩ jdk_29_method_69_code 2 (some .int)
abbrev cw20 : Jvm.Cond := .code ⟨z6, "putStringAt", "(ILjava/lang/String;)V"⟩ jdk_68_method_73_code 3 none
abbrev cw21 : Jvm.Cond := .code ⟨z6, "inflateIfNeededFor", z11⟩ jdk_68_method_71_code 2 none
abbrev cw22 : Jvm.Cond := .code ⟨z1, "getBytes", "([BIB)V"⟩ jdk_42_method_147_code 4 none
abbrev cw23 : Jvm.Cond := .code ⟨z7, "toString", z21⟩ jdk_67_method_42_code 1 (some (.object z1))
abbrev cw24 : Jvm.Cond := .code ⟨z1, z2, z50⟩ jdk_42_method_53_code 2 none
abbrev cw25 : Jvm.Cond := .code ⟨z1, z2, z65⟩ jdk_42_method_150_code 5 none
abbrev cw26 : Jvm.Cond := .code ⟨z6, "getValue", "()[B"⟩ jdk_68_method_64_code 1 (some (.array .byte))
abbrev cw27 : Jvm.Cond := .code ⟨z7, z10, "()I"⟩ jdk_67_method_93_code 1 (some .int)
abbrev cw28 : Jvm.Cond := .code ⟨z6, z10, "()I"⟩ jdk_68_method_6_code 1 (some .int)
abbrev cw29 : Jvm.Cond := .code ⟨z22, "copyOfRange", "([BII)[B"⟩ jdk_65_method_132_code 3 (some (.array .byte))
abbrev cw30 : Jvm.Cond := .code ⟨z22, "copyOfRangeByte", "([BII)[B"⟩ jdk_65_method_133_code 5 (some (.array .byte))
abbrev cw31 : Jvm.Cond := .code ⟨z22, "checkLength", "(II)V"⟩ jdk_65_method_131_code 2 none
abbrev cw32 : Jvm.Cond := .code ⟨z25, z2, z66⟩ prog_16_method_1_code 4 none
abbrev cw33 : Jvm.Cond := .code ⟨z1, z19, "(II)I"⟩ jdk_42_method_59_code 3 (some .int)
abbrev cw34 : Jvm.Cond := .code ⟨z46, z28, "(III)I"⟩ jdk_31_method_18_code 3 (some .int)
abbrev cw35 : Jvm.Cond := .code ⟨z29, z28, z30⟩ jdk_41_method_12_code 4 (some .int)
abbrev cw36 : Jvm.Cond := .code ⟨z1, "isLatin1", "()Z"⟩ jdk_42_method_154_code 1 (some .boolean)
abbrev cw37 : Jvm.Cond := .code ⟨z7, z9, z54⟩ jdk_67_method_15_code 2 (some (.object z7))
abbrev cw38 : Jvm.Cond := .code ⟨z6, z9, z59⟩ jdk_68_method_32_code 4 (some (.object z6))
abbrev cw39 : Jvm.Cond := .code ⟨z31, z32, "(I)I"⟩ jdk_33_method_13_code 4 (some .int)
abbrev cw40 : Jvm.Cond := .code ⟨z31, z14, "(II[B)I"⟩ jdk_33_method_12_code 7 (some .int)
abbrev cw41 : Jvm.Cond := .code ⟨z52, z2, z11⟩ jdk_58_method_2_code 2 none
abbrev cw42 : Jvm.Cond := .code ⟨z51, z2, z11⟩ jdk_59_method_2_code 2 none
abbrev cw43 : Jvm.Cond := .code ⟨z8, z2, z11⟩ jdk_78_method_2_code 2 none
abbrev cw44 : Jvm.Cond := .code ⟨z8, z2, "()V"⟩ jdk_78_method_1_code 1 none
abbrev cw45 : Jvm.Cond := .code ⟨z8, "getMessage", z21⟩ jdk_78_method_6_code 1 (some (.object z1))
abbrev cw46 : Jvm.Cond := .code ⟨z1, "equals", z44⟩ jdk_42_method_66_code 3 (some .boolean)
abbrev cw47 : Jvm.Cond := .code ⟨z27, "equals", "([B[B)Z"⟩ jdk_43_method_13_code 3 (some .boolean)
abbrev cw48 : Jvm.Cond := .code ⟨z1, z2, "([C)V"⟩ jdk_42_method_3_code 2 none
abbrev cw49 : Jvm.Cond := .code ⟨z1, z2, "([CIILjava/lang/Void;)V"⟩ jdk_42_method_149_code 6 none
abbrev cw50 : Jvm.Cond := .code ⟨z5, "compress", "([CII)[B"⟩ jdk_52_method_16_code 6 (some (.array .byte))
abbrev cw51 : Jvm.Cond := .code ⟨z5, "compress", "([CI[BII)I"⟩ jdk_52_method_21_code 7 (some .int)
abbrev cw52 : Jvm.Cond := .code ⟨z5, z45, "([BI)B"⟩ jdk_52_method_15_code 2 (some .byte)
abbrev cw53 : Jvm.Cond := .code ⟨z5, "toBytes", "([CII)[B"⟩ jdk_52_method_14_code 5 (some (.array .byte))
abbrev cw54 : Jvm.Cond := .code ⟨z5, "newBytesFor", "(I)[B"⟩ jdk_52_method_2_code 1 (some (.array .byte))
abbrev cw55 : Jvm.Cond := .code ⟨z5, "newBytesLength", "(I)I"⟩ jdk_52_method_3_code 1 (some .int)
abbrev cw56 : Jvm.Cond := .code ⟨z5, "putChar", "([BII)V"⟩ jdk_52_method_4_code 3 none
abbrev cw57 : Jvm.Cond := .code ⟨z5, "getChar", "([BI)C"⟩ jdk_52_method_5_code 2 (some .char)
abbrev cw58 : Jvm.Cond := .code ⟨z5, z19, "([BII)I"⟩ jdk_52_method_12_code 3 (some .int)
abbrev cw59 : Jvm.Cond := .code ⟨z5, z19, "([BIIZ)I"⟩ jdk_52_method_11_code 6 (some .int)
abbrev cw60 : Jvm.Cond := .code ⟨z41, "isHighSurrogate", "(C)Z"⟩ jdk_89_method_14_code 1 (some .boolean)
abbrev cw61 : Jvm.Cond := .code ⟨z41, "isLowSurrogate", "(C)Z"⟩ jdk_89_method_15_code 1 (some .boolean)
abbrev cw62 : Jvm.Cond := .code ⟨z1, "charAt", "(I)C"⟩ jdk_42_method_56_code 2 (some .char)
abbrev cw63 : Jvm.Cond := .code ⟨z27, "charAt", "([BI)C"⟩ jdk_43_method_2_code 2 (some .char)
abbrev cw64 : Jvm.Cond := .code ⟨z1, z16, "(II)V"⟩ jdk_42_method_155_code 2 none
abbrev cw65 : Jvm.Cond := .code ⟨z29, z16, z48⟩ jdk_41_method_11_code 3 (some .int)
abbrev cw66 : Jvm.Cond := .code ⟨z42, "digitOk", z64⟩ method_3_code 4 (some .boolean)
abbrev cw67 : Jvm.Cond := .code ⟨z42, "numChar", "(III)C"⟩ method_2_code 7 (some .char)
abbrev cw68 : Jvm.Cond := .code ⟨z6, z15, "()V"⟩ jdk_68_method_11_code 2 none
abbrev cw69 : Jvm.Cond := .code ⟨z27, z15, z23⟩ jdk_43_method_50_code 5 none
abbrev cw70 : Jvm.Cond := .code ⟨z5, z15, z23⟩ jdk_52_method_86_code 6 none
abbrev cw71 : Jvm.Cond := .code ⟨z5, z34, "(II[B)V"⟩ jdk_52_method_94_code 3 none
abbrev cw72 : Jvm.Cond := .code ⟨z5, z10, "([B)I"⟩ jdk_52_method_6_code 1 (some .int)
abbrev cw73 : Jvm.Cond := .code ⟨z1, z34, "(III)I"⟩ jdk_42_method_157_code 3 (some .int)
abbrev cw74 : Jvm.Cond := .code ⟨z29, z49, z30⟩ jdk_41_method_13_code 4 (some .int)
abbrev cw75 : Jvm.Cond := .code ⟨z5, z14, "(III[B)I"⟩ jdk_52_method_77_code 5 (some .int)
abbrev cw76 : Jvm.Cond := .code ⟨z5, z35, "(II[B)V"⟩ jdk_52_method_93_code 3 none
abbrev cw77 : Jvm.Cond := .code ⟨z1, z35, "(III)V"⟩ jdk_42_method_158_code 3 none
abbrev cw78 : Jvm.Cond := .code ⟨z5, z14, "(II[B)I"⟩ jdk_52_method_89_code 7 (some .int)
abbrev cw79 : Jvm.Cond := .code ⟨z5, "charAt", "([BI)C"⟩ jdk_52_method_83_code 2 (some .char)
abbrev cw80 : Jvm.Cond := .code ⟨z5, z16, "(I[B)V"⟩ jdk_52_method_91_code 2 none
theorem w_c0 : cw0.before args0 about1 = true := code_word (m := ⟨1, 3⟩) (meth := k1m3) (c := k1c3) (by decide +kernel) rfl rfl rfl (by decide +kernel)
theorem w_c1 : cw1.before args0 about1 = true := code_word (m := ⟨11, 1⟩) (meth := k11m1) (c := k11c1) (by decide +kernel) rfl rfl rfl (by decide +kernel)
theorem w_c2 : cw2.before args0 about1 = true := code_word (m := ⟨14, 0⟩) (meth := k14m0) (c := k14c0) (by decide +kernel) rfl rfl rfl (by decide +kernel)
theorem w_c3 : cw3.before args0 about1 = true := code_word (m := ⟨13, 1⟩) (meth := k13m1) (c := k13c1) (by decide +kernel) rfl rfl rfl (by decide +kernel)
theorem w_c4 : cw4.before args0 about1 = true := code_word (m := ⟨0, 0⟩) (meth := k0m0) (c := k0c0) (by decide +kernel) rfl rfl rfl (by decide +kernel)
theorem w_c5 : cw5.before args0 about1 = true := code_word (m := ⟨14, 3⟩) (meth := k14m3) (c := k14c3) (by decide +kernel) rfl rfl rfl (by decide +kernel)
theorem w_c6 : cw6.before args0 about1 = true := code_word (m := ⟨13, 8⟩) (meth := k13m8) (c := k13c8) (by decide +kernel) rfl rfl rfl (by decide +kernel)
theorem w_c7 : cw7.before args0 about1 = true := code_word (m := ⟨16, 1⟩) (meth := k16m1) (c := k16c1) (by decide +kernel) rfl rfl rfl (by decide +kernel)
theorem w_c8 : cw8.before args0 about1 = true := code_word (m := ⟨13, 3⟩) (meth := k13m3) (c := k13c3) (by decide +kernel) rfl rfl rfl (by decide +kernel)
theorem w_c9 : cw9.before args0 about1 = true := code_word (m := ⟨13, 10⟩) (meth := k13m10) (c := k13c10) (by decide +kernel) rfl rfl rfl (by decide +kernel)
theorem w_c10 : cw10.before args0 about1 = true := code_word (m := ⟨16, 0⟩) (meth := k16m0) (c := k16c0) (by decide +kernel) rfl rfl rfl (by decide +kernel)
theorem w_c11 : cw11.before args0 about1 = true := code_word (m := ⟨14, 1⟩) (meth := k14m1) (c := k14c1) (by decide +kernel) rfl rfl rfl (by decide +kernel)
theorem w_c12 : cw12.before args0 about1 = true := code_word (m := ⟨13, 6⟩) (meth := k13m6) (c := k13c6) (by decide +kernel) rfl rfl rfl (by decide +kernel)
theorem w_c13 : cw13.before args0 about1 = true := code_word (m := ⟨7, 3⟩) (meth := k7m3) (c := k7c3) (by decide +kernel) rfl rfl rfl (by decide +kernel)
theorem w_c14 : cw14.before args0 about1 = true := code_word (m := ⟨7, 10⟩) (meth := k7m10) (c := k7c10) (by decide +kernel) rfl rfl rfl (by decide +kernel)
theorem w_c15 : cw15.before args0 about1 = true := code_word (m := ⟨13, 4⟩) (meth := k13m4) (c := k13c4) (by decide +kernel) rfl rfl rfl (by decide +kernel)
theorem w_c16 : cw16.before args0 about1 = true := code_word (m := ⟨18, 1⟩) (meth := k18m1) (c := k18c1) (by decide +kernel) rfl rfl rfl (by decide +kernel)
theorem w_c17 : cw17.before args0 about1 = true := code_word (m := ⟨19, 1⟩) (meth := k19m1) (c := k19c1) (by decide +kernel) rfl rfl rfl (by decide +kernel)
theorem w_c18 : cw18.before args0 about1 = true := code_word (m := ⟨20, 1⟩) (meth := k20m1) (c := k20c1) (by decide +kernel) rfl rfl rfl (by decide +kernel)
theorem w_c19 : cw19.before args0 about1 = true := code_word (m := ⟨19, 2⟩) (meth := k19m2) (c := k19c2) (by decide +kernel) rfl rfl rfl (by decide +kernel)
theorem w_c20 : cw20.before args0 about1 = true := code_word (m := ⟨13, 12⟩) (meth := k13m12) (c := k13c12) (by decide +kernel) rfl rfl rfl (by decide +kernel)
theorem w_c21 : cw21.before args0 about1 = true := code_word (m := ⟨13, 11⟩) (meth := k13m11) (c := k13c11) (by decide +kernel) rfl rfl rfl (by decide +kernel)
theorem w_c22 : cw22.before args0 about1 = true := code_word (m := ⟨7, 7⟩) (meth := k7m7) (c := k7c7) (by decide +kernel) rfl rfl rfl (by decide +kernel)
theorem w_c23 : cw23.before args0 about1 = true := code_word (m := ⟨14, 4⟩) (meth := k14m4) (c := k14c4) (by decide +kernel) rfl rfl rfl (by decide +kernel)
theorem w_c24 : cw24.before args0 about1 = true := code_word (m := ⟨7, 2⟩) (meth := k7m2) (c := k7c2) (by decide +kernel) rfl rfl rfl (by decide +kernel)
theorem w_c25 : cw25.before args0 about1 = true := code_word (m := ⟨7, 9⟩) (meth := k7m9) (c := k7c9) (by decide +kernel) rfl rfl rfl (by decide +kernel)
theorem w_c26 : cw26.before args0 about1 = true := code_word (m := ⟨13, 9⟩) (meth := k13m9) (c := k13c9) (by decide +kernel) rfl rfl rfl (by decide +kernel)
theorem w_c27 : cw27.before args0 about1 = true := code_word (m := ⟨14, 5⟩) (meth := k14m5) (c := k14c5) (by decide +kernel) rfl rfl rfl (by decide +kernel)
theorem w_c28 : cw28.before args0 about1 = true := code_word (m := ⟨13, 2⟩) (meth := k13m2) (c := k13c2) (by decide +kernel) rfl rfl rfl (by decide +kernel)
theorem w_c29 : cw29.before args0 about1 = true := code_word (m := ⟨20, 3⟩) (meth := k20m3) (c := k20c3) (by decide +kernel) rfl rfl rfl (by decide +kernel)
theorem w_c30 : cw30.before args0 about1 = true := code_word (m := ⟨20, 4⟩) (meth := k20m4) (c := k20c4) (by decide +kernel) rfl rfl rfl (by decide +kernel)
theorem w_c31 : cw31.before args0 about1 = true := code_word (m := ⟨20, 2⟩) (meth := k20m2) (c := k20c2) (by decide +kernel) rfl rfl rfl (by decide +kernel)
theorem w_c32 : cw32.before args0 about1 = true := code_word (m := ⟨11, 0⟩) (meth := k11m0) (c := k11c0) (by decide +kernel) rfl rfl rfl (by decide +kernel)
theorem w_c33 : cw33.before args0 about1 = true := code_word (m := ⟨7, 5⟩) (meth := k7m5) (c := k7c5) (by decide +kernel) rfl rfl rfl (by decide +kernel)
theorem w_c34 : cw34.before args0 about1 = true := code_word (m := ⟨22, 1⟩) (meth := k22m1) (c := k22c1) (by decide +kernel) rfl rfl rfl (by decide +kernel)
theorem w_c35 : cw35.before args0 about1 = true := code_word (m := ⟨23, 2⟩) (meth := k23m2) (c := k23c2) (by decide +kernel) rfl rfl rfl (by decide +kernel)
theorem w_c36 : cw36.before args0 about1 = true := code_word (m := ⟨7, 11⟩) (meth := k7m11) (c := k7c11) (by decide +kernel) rfl rfl rfl (by decide +kernel)
theorem w_c37 : cw37.before args0 about1 = true := code_word (m := ⟨14, 2⟩) (meth := k14m2) (c := k14c2) (by decide +kernel) rfl rfl rfl (by decide +kernel)
theorem w_c38 : cw38.before args0 about1 = true := code_word (m := ⟨13, 7⟩) (meth := k13m7) (c := k13c7) (by decide +kernel) rfl rfl rfl (by decide +kernel)
theorem w_c39 : cw39.before args0 about1 = true := code_word (m := ⟨17, 1⟩) (meth := k17m1) (c := k17c1) (by decide +kernel) rfl rfl rfl (by decide +kernel)
theorem w_c40 : cw40.before args0 about1 = true := code_word (m := ⟨17, 0⟩) (meth := k17m0) (c := k17c0) (by decide +kernel) rfl rfl rfl (by decide +kernel)
theorem w_c41 : cw41.before args0 about1 = true := code_word (m := ⟨10, 1⟩) (meth := k10m1) (c := k10c1) (by decide +kernel) rfl rfl rfl (by decide +kernel)
theorem w_c42 : cw42.before args0 about1 = true := code_word (m := ⟨9, 1⟩) (meth := k9m1) (c := k9c1) (by decide +kernel) rfl rfl rfl (by decide +kernel)
theorem w_c43 : cw43.before args0 about1 = true := code_word (m := ⟨8, 1⟩) (meth := k8m1) (c := k8c1) (by decide +kernel) rfl rfl rfl (by decide +kernel)
theorem w_c44 : cw44.before args0 about1 = true := code_word (m := ⟨8, 0⟩) (meth := k8m0) (c := k8c0) (by decide +kernel) rfl rfl rfl (by decide +kernel)
theorem w_c45 : cw45.before args0 about1 = true := code_word (m := ⟨8, 2⟩) (meth := k8m2) (c := k8c2) (by decide +kernel) rfl rfl rfl (by decide +kernel)
theorem w_c46 : cw46.before args0 about1 = true := code_word (m := ⟨7, 6⟩) (meth := k7m6) (c := k7c6) (by decide +kernel) rfl rfl rfl (by decide +kernel)
theorem w_c47 : cw47.before args0 about1 = true := code_word (m := ⟨24, 2⟩) (meth := k24m2) (c := k24c2) (by decide +kernel) rfl rfl rfl (by decide +kernel)
theorem w_c48 : cw48.before args0 about1 = true := code_word (m := ⟨7, 1⟩) (meth := k7m1) (c := k7c1) (by decide +kernel) rfl rfl rfl (by decide +kernel)
theorem w_c49 : cw49.before args0 about1 = true := code_word (m := ⟨7, 8⟩) (meth := k7m8) (c := k7c8) (by decide +kernel) rfl rfl rfl (by decide +kernel)
theorem w_c50 : cw50.before args0 about1 = true := code_word (m := ⟨25, 10⟩) (meth := k25m10) (c := k25c10) (by decide +kernel) rfl rfl rfl (by decide +kernel)
theorem w_c51 : cw51.before args0 about1 = true := code_word (m := ⟨25, 11⟩) (meth := k25m11) (c := k25c11) (by decide +kernel) rfl rfl rfl (by decide +kernel)
theorem w_c52 : cw52.before args0 about1 = true := code_word (m := ⟨25, 9⟩) (meth := k25m9) (c := k25c9) (by decide +kernel) rfl rfl rfl (by decide +kernel)
theorem w_c53 : cw53.before args0 about1 = true := code_word (m := ⟨25, 8⟩) (meth := k25m8) (c := k25c8) (by decide +kernel) rfl rfl rfl (by decide +kernel)
theorem w_c54 : cw54.before args0 about1 = true := code_word (m := ⟨25, 1⟩) (meth := k25m1) (c := k25c1) (by decide +kernel) rfl rfl rfl (by decide +kernel)
theorem w_c55 : cw55.before args0 about1 = true := code_word (m := ⟨25, 2⟩) (meth := k25m2) (c := k25c2) (by decide +kernel) rfl rfl rfl (by decide +kernel)
theorem w_c56 : cw56.before args0 about1 = true := code_word (m := ⟨25, 3⟩) (meth := k25m3) (c := k25c3) (by decide +kernel) rfl rfl rfl (by decide +kernel)
theorem w_c57 : cw57.before args0 about1 = true := code_word (m := ⟨25, 4⟩) (meth := k25m4) (c := k25c4) (by decide +kernel) rfl rfl rfl (by decide +kernel)
theorem w_c58 : cw58.before args0 about1 = true := code_word (m := ⟨25, 7⟩) (meth := k25m7) (c := k25c7) (by decide +kernel) rfl rfl rfl (by decide +kernel)
theorem w_c59 : cw59.before args0 about1 = true := code_word (m := ⟨25, 6⟩) (meth := k25m6) (c := k25c6) (by decide +kernel) rfl rfl rfl (by decide +kernel)
theorem w_c60 : cw60.before args0 about1 = true := code_word (m := ⟨26, 0⟩) (meth := k26m0) (c := k26c0) (by decide +kernel) rfl rfl rfl (by decide +kernel)
theorem w_c61 : cw61.before args0 about1 = true := code_word (m := ⟨26, 1⟩) (meth := k26m1) (c := k26c1) (by decide +kernel) rfl rfl rfl (by decide +kernel)
theorem w_c62 : cw62.before args0 about1 = true := code_word (m := ⟨7, 4⟩) (meth := k7m4) (c := k7c4) (by decide +kernel) rfl rfl rfl (by decide +kernel)
theorem w_c63 : cw63.before args0 about1 = true := code_word (m := ⟨24, 1⟩) (meth := k24m1) (c := k24c1) (by decide +kernel) rfl rfl rfl (by decide +kernel)
theorem w_c64 : cw64.before args0 about1 = true := code_word (m := ⟨7, 12⟩) (meth := k7m12) (c := k7c12) (by decide +kernel) rfl rfl rfl (by decide +kernel)
theorem w_c65 : cw65.before args0 about1 = true := code_word (m := ⟨23, 1⟩) (meth := k23m1) (c := k23c1) (by decide +kernel) rfl rfl rfl (by decide +kernel)
theorem w_c66 : cw66.before args0 about1 = true := code_word (m := ⟨1, 2⟩) (meth := k1m2) (c := k1c2) (by decide +kernel) rfl rfl rfl (by decide +kernel)
theorem w_c67 : cw67.before args0 about1 = true := code_word (m := ⟨1, 1⟩) (meth := k1m1) (c := k1c1) (by decide +kernel) rfl rfl rfl (by decide +kernel)
theorem w_c68 : cw68.before args0 about1 = true := code_word (m := ⟨13, 5⟩) (meth := k13m5) (c := k13c5) (by decide +kernel) rfl rfl rfl (by decide +kernel)
theorem w_c69 : cw69.before args0 about1 = true := code_word (m := ⟨24, 3⟩) (meth := k24m3) (c := k24c3) (by decide +kernel) rfl rfl rfl (by decide +kernel)
theorem w_c70 : cw70.before args0 about1 = true := code_word (m := ⟨25, 14⟩) (meth := k25m14) (c := k25c14) (by decide +kernel) rfl rfl rfl (by decide +kernel)
theorem w_c71 : cw71.before args0 about1 = true := code_word (m := ⟨25, 18⟩) (meth := k25m18) (c := k25c18) (by decide +kernel) rfl rfl rfl (by decide +kernel)
theorem w_c72 : cw72.before args0 about1 = true := code_word (m := ⟨25, 5⟩) (meth := k25m5) (c := k25c5) (by decide +kernel) rfl rfl rfl (by decide +kernel)
theorem w_c73 : cw73.before args0 about1 = true := code_word (m := ⟨7, 13⟩) (meth := k7m13) (c := k7c13) (by decide +kernel) rfl rfl rfl (by decide +kernel)
theorem w_c74 : cw74.before args0 about1 = true := code_word (m := ⟨23, 3⟩) (meth := k23m3) (c := k23c3) (by decide +kernel) rfl rfl rfl (by decide +kernel)
theorem w_c75 : cw75.before args0 about1 = true := code_word (m := ⟨25, 12⟩) (meth := k25m12) (c := k25c12) (by decide +kernel) rfl rfl rfl (by decide +kernel)
theorem w_c76 : cw76.before args0 about1 = true := code_word (m := ⟨25, 17⟩) (meth := k25m17) (c := k25c17) (by decide +kernel) rfl rfl rfl (by decide +kernel)
theorem w_c77 : cw77.before args0 about1 = true := code_word (m := ⟨7, 14⟩) (meth := k7m14) (c := k7c14) (by decide +kernel) rfl rfl rfl (by decide +kernel)
theorem w_c78 : cw78.before args0 about1 = true := code_word (m := ⟨25, 15⟩) (meth := k25m15) (c := k25c15) (by decide +kernel) rfl rfl rfl (by decide +kernel)
theorem w_c79 : cw79.before args0 about1 = true := code_word (m := ⟨25, 13⟩) (meth := k25m13) (c := k25c13) (by decide +kernel) rfl rfl rfl (by decide +kernel)
theorem w_c80 : cw80.before args0 about1 = true := code_word (m := ⟨25, 16⟩) (meth := k25m16) (c := k25c16) (by decide +kernel) rfl rfl rfl (by decide +kernel)
def codes1 : List Jvm.Cond := [cw0, cw1, cw2, cw3, cw4, cw5, cw6, cw7, cw8, cw9, cw10, cw11, cw12, cw13, cw14, cw15, cw16, cw17, cw18, cw19, cw20, cw21, cw22, cw23, cw24, cw25, cw26, cw27, cw28, cw29, cw30, cw31, cw32, cw33, cw34, cw35, cw36, cw37, cw38, cw39, cw40, cw41, cw42, cw43, cw44, cw45, cw46, cw47, cw48, cw49, cw50, cw51, cw52, cw53, cw54, cw55, cw56, cw57, cw58, cw59, cw60, cw61, cw62, cw63, cw64, cw65, cw66, cw67, cw68, cw69, cw70, cw71, cw72, cw73, cw74, cw75, cw76, cw77, cw78, cw79, cw80]
theorem codes_eq : words1.filter isCode = codes1 := rfl
theorem w_codes : ∀ c ∈ words1.filter isCode, c.before args0 about1 = true := by
  rw [codes_eq]
  intro c hc
  simp only [codes1, List.mem_cons, List.not_mem_nil, or_false] at hc
  rcases hc with rfl | rfl | rfl | rfl | rfl | rfl | rfl | rfl | rfl | rfl | rfl | rfl | rfl | rfl | rfl | rfl | rfl | rfl | rfl | rfl | rfl | rfl | rfl | rfl | rfl | rfl | rfl | rfl | rfl | rfl | rfl | rfl | rfl | rfl | rfl | rfl | rfl | rfl | rfl | rfl | rfl | rfl | rfl | rfl | rfl | rfl | rfl | rfl | rfl | rfl | rfl | rfl | rfl | rfl | rfl | rfl | rfl | rfl | rfl | rfl | rfl | rfl | rfl | rfl | rfl | rfl | rfl | rfl | rfl | rfl | rfl | rfl | rfl | rfl | rfl | rfl | rfl | rfl | rfl | rfl | rfl
  · exact w_c0
  · exact w_c1
  · exact w_c2
  · exact w_c3
  · exact w_c4
  · exact w_c5
  · exact w_c6
  · exact w_c7
  · exact w_c8
  · exact w_c9
  · exact w_c10
  · exact w_c11
  · exact w_c12
  · exact w_c13
  · exact w_c14
  · exact w_c15
  · exact w_c16
  · exact w_c17
  · exact w_c18
  · exact w_c19
  · exact w_c20
  · exact w_c21
  · exact w_c22
  · exact w_c23
  · exact w_c24
  · exact w_c25
  · exact w_c26
  · exact w_c27
  · exact w_c28
  · exact w_c29
  · exact w_c30
  · exact w_c31
  · exact w_c32
  · exact w_c33
  · exact w_c34
  · exact w_c35
  · exact w_c36
  · exact w_c37
  · exact w_c38
  · exact w_c39
  · exact w_c40
  · exact w_c41
  · exact w_c42
  · exact w_c43
  · exact w_c44
  · exact w_c45
  · exact w_c46
  · exact w_c47
  · exact w_c48
  · exact w_c49
  · exact w_c50
  · exact w_c51
  · exact w_c52
  · exact w_c53
  · exact w_c54
  · exact w_c55
  · exact w_c56
  · exact w_c57
  · exact w_c58
  · exact w_c59
  · exact w_c60
  · exact w_c61
  · exact w_c62
  · exact w_c63
  · exact w_c64
  · exact w_c65
  · exact w_c66
  · exact w_c67
  · exact w_c68
  · exact w_c69
  · exact w_c70
  · exact w_c71
  · exact w_c72
  · exact w_c73
  · exact w_c74
  · exact w_c75
  · exact w_c76
  · exact w_c77
  · exact w_c78
  · exact w_c79
  · exact w_c80
theorem w_t1 : (words1.take 24).all (fun c => isCode c || c.before args0 about1) = true := by decide +kernel
theorem w_t2 : ((words1.drop 24).take 24).all (fun c => isCode c || c.before args0 about1) = true := by decide +kernel
theorem w_t3 : (((words1.drop 24).drop 24).take 24).all (fun c => isCode c || c.before args0 about1) = true := by decide +kernel
theorem w_t4 : ((((words1.drop 24).drop 24).drop 24).take 24).all (fun c => isCode c || c.before args0 about1) = true := by decide +kernel
theorem w_t5 : (((((words1.drop 24).drop 24).drop 24).drop 24).take 24).all (fun c => isCode c || c.before args0 about1) = true := by decide +kernel
theorem w_t6 : ((((((words1.drop 24).drop 24).drop 24).drop 24).drop 24).take 24).all (fun c => isCode c || c.before args0 about1) = true := by decide +kernel
theorem w_t7 : (((((((words1.drop 24).drop 24).drop 24).drop 24).drop 24).drop 24).take 24).all (fun c => isCode c || c.before args0 about1) = true := by decide +kernel
theorem w_t8 : ((((((((words1.drop 24).drop 24).drop 24).drop 24).drop 24).drop 24).drop 24).take 24).all (fun c => isCode c || c.before args0 about1) = true := by decide +kernel
theorem w_t9 : (((((((((words1.drop 24).drop 24).drop 24).drop 24).drop 24).drop 24).drop 24).drop 24).take 24).all (fun c => isCode c || c.before args0 about1) = true := by decide +kernel
theorem w_t10 : ((((((((((words1.drop 24).drop 24).drop 24).drop 24).drop 24).drop 24).drop 24).drop 24).drop 24).take 24).all (fun c => isCode c || c.before args0 about1) = true := by decide +kernel
theorem w_t11 : (((((((((((words1.drop 24).drop 24).drop 24).drop 24).drop 24).drop 24).drop 24).drop 24).drop 24).drop 24).take 24).all (fun c => isCode c || c.before args0 about1) = true := by decide +kernel
theorem w_t12 : ((((((((((((words1.drop 24).drop 24).drop 24).drop 24).drop 24).drop 24).drop 24).drop 24).drop 24).drop 24).drop 24).take 24).all (fun c => isCode c || c.before args0 about1) = true := by decide +kernel
theorem w_t13 : (((((((((((((words1.drop 24).drop 24).drop 24).drop 24).drop 24).drop 24).drop 24).drop 24).drop 24).drop 24).drop 24).drop 24).take 24).all (fun c => isCode c || c.before args0 about1) = true := by decide +kernel
theorem w_t14 : ((((((((((((((words1.drop 24).drop 24).drop 24).drop 24).drop 24).drop 24).drop 24).drop 24).drop 24).drop 24).drop 24).drop 24).drop 24).take 24).all (fun c => isCode c || c.before args0 about1) = true := by decide +kernel
theorem w_t15 : (((((((((((((((words1.drop 24).drop 24).drop 24).drop 24).drop 24).drop 24).drop 24).drop 24).drop 24).drop 24).drop 24).drop 24).drop 24).drop 24).take 24).all (fun c => isCode c || c.before args0 about1) = true := by decide +kernel
theorem w_t16 : ((((((((((((((((words1.drop 24).drop 24).drop 24).drop 24).drop 24).drop 24).drop 24).drop 24).drop 24).drop 24).drop 24).drop 24).drop 24).drop 24).drop 24).take 24).all (fun c => isCode c || c.before args0 about1) = true := by decide +kernel
theorem w_t17 : (((((((((((((((((words1.drop 24).drop 24).drop 24).drop 24).drop 24).drop 24).drop 24).drop 24).drop 24).drop 24).drop 24).drop 24).drop 24).drop 24).drop 24).drop 24).take 24).all (fun c => isCode c || c.before args0 about1) = true := by decide +kernel
theorem w_t18 : (((((((((((((((((words1.drop 24).drop 24).drop 24).drop 24).drop 24).drop 24).drop 24).drop 24).drop 24).drop 24).drop 24).drop 24).drop 24).drop 24).drop 24).drop 24).drop 24).all (fun c => isCode c || c.before args0 about1) = true := by decide +kernel
theorem w_tables : (allAtoms (Jvm.Cond.code x code maxLocals ret :: tables_1)).before args0 about1 = true := by
  rw [allAtoms_all]
  show words1.all (fun c => c.before args0 about1) = true
  refine all_split ?_ w_codes
  rw [← List.take_append_drop 24 words1, List.all_append, w_t1, ← List.take_append_drop 24 (words1.drop 24), List.all_append, w_t2, ← List.take_append_drop 24 ((words1.drop 24).drop 24), List.all_append, w_t3, ← List.take_append_drop 24 (((words1.drop 24).drop 24).drop 24), List.all_append, w_t4, ← List.take_append_drop 24 ((((words1.drop 24).drop 24).drop 24).drop 24), List.all_append, w_t5, ← List.take_append_drop 24 (((((words1.drop 24).drop 24).drop 24).drop 24).drop 24), List.all_append, w_t6, ← List.take_append_drop 24 ((((((words1.drop 24).drop 24).drop 24).drop 24).drop 24).drop 24), List.all_append, w_t7, ← List.take_append_drop 24 (((((((words1.drop 24).drop 24).drop 24).drop 24).drop 24).drop 24).drop 24), List.all_append, w_t8, ← List.take_append_drop 24 ((((((((words1.drop 24).drop 24).drop 24).drop 24).drop 24).drop 24).drop 24).drop 24), List.all_append, w_t9, ← List.take_append_drop 24 (((((((((words1.drop 24).drop 24).drop 24).drop 24).drop 24).drop 24).drop 24).drop 24).drop 24), List.all_append, w_t10, ← List.take_append_drop 24 ((((((((((words1.drop 24).drop 24).drop 24).drop 24).drop 24).drop 24).drop 24).drop 24).drop 24).drop 24), List.all_append, w_t11, ← List.take_append_drop 24 (((((((((((words1.drop 24).drop 24).drop 24).drop 24).drop 24).drop 24).drop 24).drop 24).drop 24).drop 24).drop 24), List.all_append, w_t12, ← List.take_append_drop 24 ((((((((((((words1.drop 24).drop 24).drop 24).drop 24).drop 24).drop 24).drop 24).drop 24).drop 24).drop 24).drop 24).drop 24), List.all_append, w_t13, ← List.take_append_drop 24 (((((((((((((words1.drop 24).drop 24).drop 24).drop 24).drop 24).drop 24).drop 24).drop 24).drop 24).drop 24).drop 24).drop 24).drop 24), List.all_append, w_t14, ← List.take_append_drop 24 ((((((((((((((words1.drop 24).drop 24).drop 24).drop 24).drop 24).drop 24).drop 24).drop 24).drop 24).drop 24).drop 24).drop 24).drop 24).drop 24), List.all_append, w_t15, ← List.take_append_drop 24 (((((((((((((((words1.drop 24).drop 24).drop 24).drop 24).drop 24).drop 24).drop 24).drop 24).drop 24).drop 24).drop 24).drop 24).drop 24).drop 24).drop 24), List.all_append, w_t16, ← List.take_append_drop 24 ((((((((((((((((words1.drop 24).drop 24).drop 24).drop 24).drop 24).drop 24).drop 24).drop 24).drop 24).drop 24).drop 24).drop 24).drop 24).drop 24).drop 24).drop 24), List.all_append, w_t17, w_t18]
  rfl
theorem w_rest : rest_1_c.before args0 about1 = true := by decide +kernel
theorem w_case : (Jvm.Cond.and given_1 narrow_1).before args0 about1 = true := by decide +kernel
theorem w_consts : constsHeld consts_1 about1 := Jvm.Lit.constsHeldB_iff.mp (by decide +kernel)
theorem w_applies : (headSpec (Jvm.Cond.code x code maxLocals ret :: tables_1) room_1).applies x e0.platform about1 = true :=
  (Spec.applies_iff w_frames).mpr ⟨w_running, w_runnable, w_alone, w_named, w_hears, w_ripe, w_room, w_tables⟩
theorem atStart : AtStart classFile x code maxLocals ret World_1 tables_1 room_1 Calls_1 rest_1 Pre_1 launch0 p0 e0 about1 theMethod args0 below0 :=
  ⟨lists_1, trivial, launch0.admits_env _ _ _, launch0.least_env, fairChoices_fair.cas, fairChoices_fair.clock, w_frames, w_args, w_heap, w_applies, ⟨(by decide +kernel : framesKnown about1 = true), ⟨(by decide +kernel : tablesKnown about1 = true), ⟨w_consts, trivial⟩⟩⟩, w_rest, w_case⟩
end start1
theorem witness_1 : WitnessClaimed_1 := ⟨start1.p0, start1.e0, start1.about1, start1.theMethod, start1.args0, start1.below0, start1.atStart⟩
end Jvm.Pilot.@@N@@
